import JvmDerived
import JvmDerived.Pilot.@@N@@Statement
import JvmDerived.Pilot.@@N@@Code
set_option linter.unusedVariables false
set_option linter.unusedSimpArgs false
namespace Jvm.Pilot.@@N@@
open Jvm Jvm.ClassFile Sem Op Lib Jvm.Free Jvm.Stand Jvm.LawKit Jvm.RoadKit Bundle Jvm.Pilot.@@N@@.Jvm.D
theorem tw {Z : State} {a0 : Array Value} (hw : ∀ d ∈ tables_1, d.before a0 Z = true) (i : Nat) {d : Jvm.Cond} (h : tables_1[i]? = some d) : d.before a0 Z = true := hw d (List.mem_of_getElem? h)
theorem own_keq {h0 h h' : Heap} {ws : List Addr} (e : h' = h) (K : Keep h0 h ws) : Keep h0 h' ws := e ▸ K

abbrev EL : List (String × Nat) := consts_1
theorem own_backS0 {p : Program} {l : Launch} {e : Env} {R : Room} {s : State} {args : Array Value} {below : List Frame} {Z : State} {a0 : Array Value} {EL : List (String × Nat)} {h : Heap} {vm0 : Vm} {y : MethodName} {bytes : ByteArray} {maxL : Nat} {ret : Option FieldType} {rm : Room} {len W : Nat} {as' : Array Value} {Q : Option Value → Heap → List Loc → Vm → Prop}
    (hM : MetFree l y (head1 [Cond.code y bytes maxL ret] rm) (fun a U => a = as' ∧ Z.Warmed39 U.vm ∧ U.heap = h ∧ CHv Z EL U.vm h) (fun _ _ _ _ _ => True) (fun _ U o U' => ∃ v L, o = .returned v ∧ Q v U'.heap L U'.vm ∧ CHr Z EL U.vm U.heap U'.vm U'.heap ∧ ReturnedEndW U o U' L rm.cells rm.slots))
    (hZ : Z.Warmed39 vm0) (wc : (Cond.code y bytes maxL ret).before a0 Z = true) (wz : (Cond.initialized y.cls).before a0 Z = true) (hf : rm.frames + 1 ≤ R.frames) (hl : W + (maxL + 11) + rm.locals ≤ R.locals) (hEL : EW Z a0 EL) (H : CHv Z EL vm0 h) :
    BackS l R p e below (s.setVm vm0) args y len W (fun A a => a = as' ∧ A.U.heap = h ∧ A.cells + rm.cells ≤ R.cells ∧ A.slots + rm.slots ≤ R.slots)
      (fun A _ v B => ∃ L, Q v B.U.heap L B.U.vm ∧ B.locs = A.locs ++ L ∧ B.cells = A.cells + rm.cells ∧ B.slots = A.slots + rm.slots ∧ CHr Z EL vm0 h B.U.vm B.U.heap) := by
  refine BackS.of_freeW (bytes := bytes) (maxL := maxL) (ret := ret) (E := fun _ first o t L k n => k = rm.cells ∧ n = rm.slots ∧ (∃ v, o = .returned v ∧ Q v t.heap L t.vm) ∧ CHr Z EL first.vm first.heap t.vm t.heap) hM hf hl ?_ ?_ (fun _ _ _ _ _ _ _ _ _ => trivial) ?_ ?_
  · intro m meth c A a Y hp
    have hU : Z.Warmed39 A.U.vm := wtrans (s := s.setVm vm0) hZ Y.warmed
    refine ⟨?_, mv hU wc, mv hU wz, hp.2.2.1, hp.2.2.2⟩
    show (Cond.and _ .tt).before a A.U = true
    rw [Cond.before_and, mv hU wc]; rfl
  · intro m meth c A a g mk Y hp
    have q := CHv.at Y hZ hEL H
    exact ⟨hp.1, wtrans (s := s.setVm vm0) hZ Y.warmed, hp.2.1, q.1⟩
  · intro _ _ _ _ hq
    obtain ⟨v, L, h1, h2, h3, h4⟩ := hq
    exact ⟨L, _, _, h4, rfl, rfl, ⟨v, h1, h2⟩, h3⟩
  · intro m meth c A a g mk v t L k n Y hp _ _ hq
    obtain ⟨e1, e2, ⟨v', e3, e4⟩, e5⟩ := hq
    cases e3; subst e1 e2
    refine ⟨L, e4, rfl, rfl, rfl, (CHv.at Y hZ hEL H).trans ?_⟩
    rw [← hp.2.1]; exact e5
theorem own_backS1 {p : Program} {l : Launch} {e : Env} {R : Room} {s : State} {args : Array Value} {below : List Frame} {Z : State} {a0 : Array Value} {EL : List (String × Nat)} {h : Heap} {vm0 : Vm} {y : MethodName} {bytes : ByteArray} {maxL : Nat} {ret : Option FieldType} {rm : Room} {len W : Nat} {as' : Array Value} {Q : Option Value → Heap → List Loc → Vm → Prop} {y1 : Addr}
    (hM : MetFree l y (head1 [Cond.code y bytes maxL ret] rm) (fun a U => a = as' ∧ Z.Warmed39 U.vm ∧ U.heap = h ∧ CHv Z EL U.vm h ∧ Safe Z EL U.vm h y1) (fun _ _ _ _ _ => True) (fun _ U o U' => ∃ v L, o = .returned v ∧ Q v U'.heap L U'.vm ∧ CHr Z EL U.vm U.heap U'.vm U'.heap ∧ ReturnedEndW U o U' L rm.cells rm.slots))
    (hZ : Z.Warmed39 vm0) (wc : (Cond.code y bytes maxL ret).before a0 Z = true) (wz : (Cond.initialized y.cls).before a0 Z = true) (hf : rm.frames + 1 ≤ R.frames) (hl : W + (maxL + 11) + rm.locals ≤ R.locals) (hEL : EW Z a0 EL) (H : CHv Z EL vm0 h) (hy : y1 < h.size) (S : Safe Z EL vm0 h y1) :
    BackS l R p e below (s.setVm vm0) args y len W (fun A a => a = as' ∧ A.U.heap = h ∧ A.cells + rm.cells ≤ R.cells ∧ A.slots + rm.slots ≤ R.slots)
      (fun A _ v B => ∃ L, Q v B.U.heap L B.U.vm ∧ B.locs = A.locs ++ L ∧ B.cells = A.cells + rm.cells ∧ B.slots = A.slots + rm.slots ∧ CHr Z EL vm0 h B.U.vm B.U.heap) := by
  refine BackS.of_freeW (bytes := bytes) (maxL := maxL) (ret := ret) (E := fun _ first o t L k n => k = rm.cells ∧ n = rm.slots ∧ (∃ v, o = .returned v ∧ Q v t.heap L t.vm) ∧ CHr Z EL first.vm first.heap t.vm t.heap) hM hf hl ?_ ?_ (fun _ _ _ _ _ _ _ _ _ => trivial) ?_ ?_
  · intro m meth c A a Y hp
    have hU : Z.Warmed39 A.U.vm := wtrans (s := s.setVm vm0) hZ Y.warmed
    refine ⟨?_, mv hU wc, mv hU wz, hp.2.2.1, hp.2.2.2⟩
    show (Cond.and _ .tt).before a A.U = true
    rw [Cond.before_and, mv hU wc]; rfl
  · intro m meth c A a g mk Y hp
    have q := CHv.at Y hZ hEL H
    exact ⟨hp.1, wtrans (s := s.setVm vm0) hZ Y.warmed, hp.2.1, q.1, q.safe hy S⟩
  · intro _ _ _ _ hq
    obtain ⟨v, L, h1, h2, h3, h4⟩ := hq
    exact ⟨L, _, _, h4, rfl, rfl, ⟨v, h1, h2⟩, h3⟩
  · intro m meth c A a g mk v t L k n Y hp _ _ hq
    obtain ⟨e1, e2, ⟨v', e3, e4⟩, e5⟩ := hq
    cases e3; subst e1 e2
    refine ⟨L, e4, rfl, rfl, rfl, (CHv.at Y hZ hEL H).trans ?_⟩
    rw [← hp.2.1]; exact e5
theorem own_three (n : Nat) : n = 0 ∨ n = 1 ∨ 2 ≤ n := by omega
theorem own_safeK {Z : State} {EL : List (String × Nat)} {vm : Vm} {h h' : Heap} {ws : List Addr} {x y : Addr} (K : Keep h h' ws) (hs : ∀ x ∈ ws, Safe Z EL vm h x) (H : CHv Z EL vm h) (hx : x = y ∨ h.size ≤ x) (S : Safe Z EL vm h y) : Safe Z EL vm h' x := fun B => by
  have B0 := (H.keepStep K hs).2 _ B
  rcases hx with e | q
  · rw [e] at B0; exact S B0
  · exact Safe.new q B0
theorem own_safeE {Z : State} {EL : List (String × Nat)} {vm : Vm} {h h' : Heap} {x : Addr} (E : Ext h h') (H : CHv Z EL vm h) (hx : h.size ≤ x) : Safe Z EL vm h' x := fun B => Safe.new hx ((H.step fun _ _ _ q => E.2 _ _ q).2 _ B)
theorem own_z : (0 : Int32).toInt = 0 := by decide
theorem own_n {n : Nat} (h : n < 2147483648) : (Int32.ofNat n).toInt = n := Int32.toInt_ofNat_of_lt h
theorem own_nc {n : Nat} (h : n < 2147483648) : (Int32.ofNat n).toNatClampNeg = n := by simp only [Int32.toNatClampNeg, own_n h]; omega
theorem own_nn {n : Nat} (h : n < 2147483648) : ¬ Int32.ofNat n < 0 := by rw [Int32.lt_iff_toInt_lt, own_n h, own_z]; omega
theorem own_lt {a b : Nat} (ha : a < 2147483648) (hb : b < 2147483648) : Int32.ofNat a < Int32.ofNat b ↔ a < b := by rw [Int32.lt_iff_toInt_lt, own_n ha, own_n hb]; omega
theorem own_add (a b : Nat) : Int32.ofNat a + Int32.ofNat b = Int32.ofNat (a + b) := (Int32.ofNat_add a b).symm
theorem own_ext {h0 h : Heap} (K : Keep h0 h []) : Ext h0 h := ⟨K.1, fun a c q => K.2.1 a c q (by simp)⟩
theorem own_shl {k : Nat} (h : k < 1000) : (Int32.ofNat k <<< ((1 : Int32) &&& 31)) = Int32.ofNat (2 * k) := by
  have q := c_ishl (Int32.ofNat k) 1 1 (by decide)
  have r := rng32 (Int32.ofNat k <<< ((1 : Int32) &&& 31))
  rw [own_n (by omega)] at q
  exact Int32.toInt_inj.mp (by rw [own_n (by omega)]; omega)
theorem own_shr {k : Nat} (h : k < 1000) : (Int32.ofNat (2 * k) >>> ((1 : Int32) &&& 31)) = Int32.ofNat k := by
  have q := c_ishr (Int32.ofNat (2 * k)) 1 1 (by decide)
  rw [own_n (by omega)] at q
  exact Int32.toInt_inj.mp (by rw [own_n (by omega)]; omega)
theorem own_shr0 (x : Int32) : (x >>> ((0 : Int32) &&& 31)) = x := by
  have := c_ishr x 0 0 (by decide); exact Int32.toInt_inj.mp (by rw [this]; simp)
theorem own_chL {c : Int32} (hc : nar .char c = c) (h : ¬ ((255 : Int32) < c)) : (nar .char (nar .char (((nar .byte (c.toInt8.toInt32)) &&& (255 : Int32)).toUInt32.toUInt16.toUInt32.toInt32))) = c := by
  have h2 := c_i2c c
  rw [show c.toUInt32.toUInt16.toUInt32.toInt32 = c from hc] at h2
  have e255 : (255 : Int32).toInt = 255 := by decide
  rw [Int32.lt_iff_toInt_lt, e255] at h
  refine Int32.toInt_inj.mp ?_
  simp only [nar]
  have b1 := c_i2b c
  have b2 := c_i2b c.toInt8.toInt32
  generalize c.toInt8.toInt32 = y at *
  generalize y.toInt8.toInt32 = z at *
  have m1 := c_mask z 255 8 (by decide) (by decide)
  generalize (z &&& 255) = u at *
  have q1 := c_i2c u
  generalize u.toUInt32.toUInt16.toUInt32.toInt32 = u1 at *
  have q2 := c_i2c u1
  generalize u1.toUInt32.toUInt16.toUInt32.toInt32 = u2 at *
  have q3 := c_i2c u2
  omega
theorem own_chU {c : Int32} (hc : nar .char c = c) : (nar .char (nar .char (nar .char (((((nar .byte ((c >>> ((0 : Int32) &&& 31)).toInt8.toInt32)) &&& (255 : Int32)) <<< ((0 : Int32) &&& 31)) ||| (((nar .byte ((c >>> ((8 : Int32) &&& 31)).toInt8.toInt32)) &&& (255 : Int32)) <<< ((8 : Int32) &&& 31))).toUInt32.toUInt16.toUInt32.toInt32)))) = c := by
  have h2 := c_i2c c
  rw [show c.toUInt32.toUInt16.toUInt32.toInt32 = c from hc] at h2
  refine Int32.toInt_inj.mp ?_
  simp only [nar]
  have s1 := c_ishr c 0 0 (by decide)
  have s2 := c_ishr c 8 8 (by decide)
  generalize c >>> ((0 : Int32) &&& 31) = x0 at *
  generalize c >>> ((8 : Int32) &&& 31) = x8 at *
  have b1 := c_i2b x0
  generalize x0.toInt8.toInt32 = y0 at *
  have b2 := c_i2b y0
  generalize y0.toInt8.toInt32 = y1 at *
  have b3 := c_i2b x8
  generalize x8.toInt8.toInt32 = z0 at *
  have b4 := c_i2b z0
  generalize z0.toInt8.toInt32 = z1 at *
  have m1 := c_mask y1 255 8 (by decide) (by decide)
  have m2 := c_mask z1 255 8 (by decide) (by decide)
  generalize (y1 &&& 255) = u at *
  generalize (z1 &&& 255) = w at *
  have l1 := c_ishl u 0 0 (by decide)
  have l2 := c_ishl w 8 8 (by decide)
  have r1 := rng32 (u <<< ((0 : Int32) &&& 31))
  have r2 := rng32 (w <<< ((8 : Int32) &&& 31))
  generalize u <<< ((0 : Int32) &&& 31) = lo at *
  generalize w <<< ((8 : Int32) &&& 31) = hi at *
  have o := c_or' lo hi 8 (by decide) 256 (by decide) (by omega) (by omega) (by omega)
  have ro := rng32 (lo ||| hi)
  generalize (lo ||| hi) = v at *
  have q1 := c_i2c v
  generalize v.toUInt32.toUInt16.toUInt32.toInt32 = v1 at *
  have q2 := c_i2c v1
  generalize v1.toUInt32.toUInt16.toUInt32.toInt32 = v2 at *
  have q3 := c_i2c v2
  generalize v2.toUInt32.toUInt16.toUInt32.toInt32 = v3 at *
  have q4 := c_i2c v3
  omega
abbrev own_U : Int32 → List Value := fun c => [.int (nar .byte ((c >>> ((0 : Int32) &&& 31)).toInt8.toInt32)), .int (nar .byte ((c >>> ((8 : Int32) &&& 31)).toInt8.toInt32))]
abbrev own_B : Int32 → Value := fun c => .int (nar .byte (c.toInt8.toInt32))
theorem own_getU (cs : List Int32) (d : Value) : ∀ k, k < cs.length → (cs.flatMap own_U).getD (2 * k) d = .int (nar .byte (((cs.getD k 0) >>> ((0 : Int32) &&& 31)).toInt8.toInt32)) ∧ (cs.flatMap own_U).getD (2 * k + 1) d = .int (nar .byte (((cs.getD k 0) >>> ((8 : Int32) &&& 31)).toInt8.toInt32)) := by
  induction cs with
  | nil => intro k hk; exact absurd hk (by simp)
  | cons a t ih =>
    intro k hk
    cases k with
    | zero => exact ⟨rfl, rfl⟩
    | succ k =>
      have q := ih k (by simpa using hk)
      refine ⟨?_, ?_⟩
      · rw [show 2 * (k + 1) = 2 * k + 1 + 1 by omega]; exact q.1
      · rw [show 2 * (k + 1) + 1 = 2 * k + 1 + 1 + 1 by omega]; exact q.2
theorem own_getL (cs : List Int32) (d : Value) : ∀ k, k < cs.length → (cs.map own_B).getD k d = .int (nar .byte ((cs.getD k 0).toInt8.toInt32)) := by
  induction cs with
  | nil => intro k hk; exact absurd hk (by simp)
  | cons a t ih =>
    intro k hk
    cases k with
    | zero => rfl
    | succ k => exact ih k (by simpa using hk)
def own_str (Z : State) (h : Heap) (x : Addr) (cs : List Int32) : Prop := ∃ (t : Addr) (k : ClassId), Exa Z h x "java/lang/String" ∧ Fld Z h x "java/lang/String" "value" "[B" (.ref t) ∧ ((Fld Z h x "java/lang/String" "coder" "B" (.int (0 : Int32)) ∧ Arv Z h t k .byte (Int32.ofNat cs.length) (cs.map own_B) (.int (0 : Int32)) ∧ ∀ i, i < cs.length → ¬ ((255 : Int32) < cs.getD i 0)) ∨ (Fld Z h x "java/lang/String" "coder" "B" (.int (1 : Int32)) ∧ Arv Z h t k .byte (Int32.ofNat (2 * cs.length)) (cs.flatMap own_U) (.int (0 : Int32))))
theorem ef_IsL (m : MethodId) (x0 : Addr) : entryFrame m #[(.ref x0)] 1 = mkF m 0 #[.val (.ref x0)] [] := by (first | (simp [entryFrame, mkF, argsToLocals, Value.category]; done) | rfl)
def QIsL (Z : State) (x1 : Addr) (zc : Int32) (h0 : Heap) (n0 : Nat) (v : Option Value) (h : Heap) (L : List Loc) : Prop := v = some (.int (1 : Int32)) ∧ Fr n0 L ∧ h = h0
theorem pn_java_lang_String : plainName "java/lang/String" = true := by first | (simp [plainName, overriddenIn]; done) | decide +kernel
theorem d13_0 : decode jdk_42_method_154_code 0 = .ok (.getstatic 38, 3) := by decide +kernel
theorem d13_3 : decode jdk_42_method_154_code 3 = .ok (.ifCond .eq 14, 3) := by decide +kernel
theorem d13_6 : decode jdk_42_method_154_code 6 = .ok (.aload_n 0, 1) := by decide +kernel
theorem d13_7 : decode jdk_42_method_154_code 7 = .ok (.getfield 15, 3) := by decide +kernel
theorem d13_10 : decode jdk_42_method_154_code 10 = .ok (.ifCond .ne 7, 3) := by decide +kernel
theorem d13_13 : decode jdk_42_method_154_code 13 = .ok (.iconst 1, 1) := by decide +kernel
theorem d13_14 : decode jdk_42_method_154_code 14 = .ok (.goto 4, 3) := by decide +kernel
theorem d13_18 : decode jdk_42_method_154_code 18 = .ok (.ireturn, 1) := by decide +kernel
set_option maxRecDepth 65536 in
set_option maxHeartbeats 40000000 in
theorem rmIsL (l : Launch) (Z : State) (a0 : Array Value) (hw : ∀ d ∈ tables_1, d.before a0 Z = true) (ws : List Jvm.Cond) (x1 : Addr) (zc : Int32) (h0 : Heap) (n0 : Nat) (Z0 : n0 ≤ h0.size) (SC : Sta Z h0 "java/lang/String" "COMPACT_STRINGS" "Z" (.int zc)) (hzc : ¬ zc = (0 : Int32)) (FC : Fld Z h0 x1 "java/lang/String" "coder" "B" (.int (0 : Int32))) :
    MetFree l (⟨"java/lang/String", "isLatin1", "()Z"⟩ : MethodName) (head1 (Jvm.Cond.code (⟨"java/lang/String", "isLatin1", "()Z"⟩ : MethodName) jdk_42_method_154_code 1 (some .boolean) :: ws) ({ frames := 0, cells := 0, slots := 0, locals := 0 } : Room)) (fun a U => a = #[(.ref x1)] ∧ Z.Warmed39 U.vm ∧ U.heap = h0) (fun _ _ _ _ _ => True) (fun _ U o U' => ∃ v L, o = .returned v ∧ QIsL Z x1 zc h0 n0 v U'.heap L ∧ FrameEnd U o U' L ({ frames := 0, cells := 0, slots := 0, locals := 0 } : Room).cells ({ frames := 0, cells := 0, slots := 0, locals := 0 } : Room).slots) := by
  refine MetFree.of_bodySF (plainFor_of_name pn_java_lang_String) hisR ?_
  intro p e s m args below meth c s₁ Bd hml0 hP hK
  obtain ⟨rfl, hZ, hh⟩ := hP
  have hx := Bd.exec
  have hby := Bd.bytes
  have hml : c.maxLocals = 1 := hml0
  have hown : s.vm.findClass "java/lang/String" = some m.cls := findClass_of_methodNamed Bd.named
  have hnm := (name_of_methodNamed Bd.named Bd.method).1
  have X0 : Stand p l e ({ frames := 0, cells := 0, slots := 0, locals := 0 } : Room) s m #[(.ref x1)] below meth c s₁ [] 0 0 := Stand.of_body Bd
  have e0 : s₁.heap = h0 := by rw [← hh, Bd.state]; rfl
  have N0 := Fr.nil n0
  have pre0 : ∀ t, Steps p.tables e below (s₁.setTop (mkF m 0 #[.val (.ref x1)] [])) t → Steps p.tables e below (s₁.setTop (entryFrame m #[(.ref x1)] 1)) t := fun t k => castTop (ef_IsL m x1) k
  obtain ⟨T1, X1, e1, st1⟩ := getS2 X0 hx hZ hown (host := "") (Or.inl (tw hw 42 rfl)) Via.refl e0 SC (g := (mkF m 0 #[.val (.ref x1)] [])) rfl (hb hby d13_0)
  obtain ⟨T2, X2, e2, st2⟩ := getF X1 hx hZ hown (host := "") (Or.inl (tw hw 27 rfl)) Via.refl e1 FC (g := (mkF m 7 #[.val (.ref x1)] [(.ref x1)])) rfl rfl (hb hby d13_7)
  have pre3 : ∀ t, Steps p.tables e below (T2.setTop (mkF m 18 #[.val (.ref x1)] [(.int (1 : Int32))])) t → Steps p.tables e below (s₁.setTop (mkF m 0 #[.val (.ref x1)] [])) t := by
    intro t kt
    refine st1 _ ?_
    refine XS.ifNo X1.here hx rfl (hb hby d13_3) rfl ((if0 _ _).trans (feq (hzc : ¬ (zc = (0 : Int32)))).1) ?_
    show Steps p.tables e below (T1.setTop (mkF m 6 #[.val (.ref x1)] [])) _
    refine XS.aloadN X1.here hx rfl (hb hby d13_6) rfl rfl ?_
    refine st2 _ ?_
    refine XS.ifNo X2.here hx rfl (hb hby d13_10) rfl ((if0 _ _).trans (teq (rfl : (0 : Int32) = (0 : Int32))).2) ?_
    show Steps p.tables e below (T2.setTop (mkF m 13 #[.val (.ref x1)] [])) _
    refine XS.iconst X2.here hx rfl (hb hby d13_13) ?_
    refine XS.goto X2.here hx rfl (pc0 := 14) (pc' := 18) rfl (hb hby d13_14) (by decide) (by decide) ?_
    exact kt
  obtain ⟨fs, hr, hrun, hended, hW, hsame⟩ := X2.leave (v := some (.int (1 : Int32))) (fun h => by rw [Bd.returns] at h; cases h)
  refine ⟨_, _, (pre0 _ (pre3 _ ?_)), hrun, hended, _, _, rfl, ?_, ⟨_, rfl⟩, hW, hsame.mono (by decide) (by decide)⟩
  · show Steps p.tables e below (T2.setTop (mkF m 18 #[.val (.ref x1)] [(.int (1 : Int32))])) _
    exact retN X2 hx (t := .boolean) Bd.returns (by simp) (hb hby d13_18) hr
  · show QIsL Z x1 zc h0 n0 _ T2.heap _
    rw [e2]
    exact ⟨rfl, N0, rfl⟩
theorem ef_PCk (m : MethodId) (x0 : Int32) (x1 : Int32) (x2 : Value) (hx2 : x2.isRef = true) : entryFrame m #[(.int x0), (.int x1), x2] 3 = mkF m 0 #[.val (.int x0), .val (.int x1), .val x2] [] := by rcases ref_cases hx2 with rfl | ⟨_, rfl⟩ <;> (first | (simp [entryFrame, mkF, argsToLocals, Value.category]; done) | rfl)
def QPCk (Z : State) (i1 : Int32) (i2 : Int32) (fm : Value) (h0 : Heap) (n0 : Nat) (v : Option Value) (h : Heap) (L : List Loc) : Prop := v = some (.int i1) ∧ Fr n0 L ∧ h = h0
theorem pn_jdk_internal_util_Preconditions : plainName "jdk/internal/util/Preconditions" = true := by first | (simp [plainName, overriddenIn]; done) | decide +kernel
theorem d16_0 : decode jdk_41_method_11_code 0 = .ok (.iload_n 0, 1) := by decide +kernel
theorem d16_1 : decode jdk_41_method_11_code 1 = .ok (.ifCond .lt 8, 3) := by decide +kernel
theorem d16_4 : decode jdk_41_method_11_code 4 = .ok (.iload_n 0, 1) := by decide +kernel
theorem d16_5 : decode jdk_41_method_11_code 5 = .ok (.iload_n 1, 1) := by decide +kernel
theorem d16_6 : decode jdk_41_method_11_code 6 = .ok (.if_icmp .lt 10, 3) := by decide +kernel
theorem d16_16 : decode jdk_41_method_11_code 16 = .ok (.iload_n 0, 1) := by decide +kernel
theorem d16_17 : decode jdk_41_method_11_code 17 = .ok (.ireturn, 1) := by decide +kernel
set_option maxRecDepth 65536 in
set_option maxHeartbeats 40000000 in
theorem rmPCk (l : Launch) (Z : State) (a0 : Array Value) (hw : ∀ d ∈ tables_1, d.before a0 Z = true) (ws : List Jvm.Cond) (i1 : Int32) (i2 : Int32) (fm : Value) (h0 : Heap) (n0 : Nat) (Z0 : n0 ≤ h0.size) (rf : fm.isRef = true) (hi0 : ¬ i1 < (0 : Int32)) (hi1 : i1 < i2) :
    MetFree l (⟨"jdk/internal/util/Preconditions", "checkIndex", "(IILjava/util/function/BiFunction;)I"⟩ : MethodName) (head1 (Jvm.Cond.code (⟨"jdk/internal/util/Preconditions", "checkIndex", "(IILjava/util/function/BiFunction;)I"⟩ : MethodName) jdk_41_method_11_code 3 (some .int) :: ws) ({ frames := 0, cells := 0, slots := 0, locals := 0 } : Room)) (fun a U => a = #[(.int i1), (.int i2), fm] ∧ Z.Warmed39 U.vm ∧ U.heap = h0) (fun _ _ _ _ _ => True) (fun _ U o U' => ∃ v L, o = .returned v ∧ QPCk Z i1 i2 fm h0 n0 v U'.heap L ∧ FrameEnd U o U' L ({ frames := 0, cells := 0, slots := 0, locals := 0 } : Room).cells ({ frames := 0, cells := 0, slots := 0, locals := 0 } : Room).slots) := by
  refine MetFree.of_bodySF (plainFor_of_name pn_jdk_internal_util_Preconditions) hisR ?_
  intro p e s m args below meth c s₁ Bd hml0 hP hK
  obtain ⟨rfl, hZ, hh⟩ := hP
  have hx := Bd.exec
  have hby := Bd.bytes
  have hml : c.maxLocals = 3 := hml0
  have hown : s.vm.findClass "jdk/internal/util/Preconditions" = some m.cls := findClass_of_methodNamed Bd.named
  have hnm := (name_of_methodNamed Bd.named Bd.method).1
  have X0 : Stand p l e ({ frames := 0, cells := 0, slots := 0, locals := 0 } : Room) s m #[(.int i1), (.int i2), fm] below meth c s₁ [] 0 0 := Stand.of_body Bd
  have e0 : s₁.heap = h0 := by rw [← hh, Bd.state]; rfl
  have N0 := Fr.nil n0
  have pre0 : ∀ t, Steps p.tables e below (s₁.setTop (mkF m 0 #[.val (.int i1), .val (.int i2), .val fm] [])) t → Steps p.tables e below (s₁.setTop (entryFrame m #[(.int i1), (.int i2), fm] 3)) t := fun t k => castTop (ef_PCk m i1 i2 fm rf) k
  have pre4 : ∀ t, Steps p.tables e below (s₁.setTop (mkF m 17 #[.val (.int i1), .val (.int i2), .val fm] [(.int i1)])) t → Steps p.tables e below (s₁.setTop (mkF m 0 #[.val (.int i1), .val (.int i2), .val fm] [])) t := by
    intro t kt
    show Steps p.tables e below (s₁.setTop (mkF m 0 #[.val (.int i1), .val (.int i2), .val fm] [])) _
    refine XS.iloadN X0.here hx rfl (hb hby d16_0) rfl ?_
    refine XS.ifNo X0.here hx rfl (hb hby d16_1) rfl ((if0 _ _).trans (flt (hi0 : ¬ (i1 < (0 : Int32)))).1) ?_
    show Steps p.tables e below (s₁.setTop (mkF m 4 #[.val (.int i1), .val (.int i2), .val fm] [])) _
    refine XS.iloadN X0.here hx rfl (hb hby d16_4) rfl ?_
    refine XS.iloadN X0.here hx rfl (hb hby d16_5) rfl ?_
    refine XS.icmpYes X0.here hx rfl (pc0 := 6) (pc' := 16) rfl (hb hby d16_6) rfl (tlt (hi1 : i1 < i2)).1 (by decide) (by decide) ?_
    show Steps p.tables e below (s₁.setTop (mkF m 16 #[.val (.int i1), .val (.int i2), .val fm] [])) _
    refine XS.iloadN X0.here hx rfl (hb hby d16_16) rfl ?_
    exact kt
  obtain ⟨fs, hr, hrun, hended, hW, hsame⟩ := X0.leave (v := some (.int i1)) (fun h => by rw [Bd.returns] at h; cases h)
  refine ⟨_, _, (pre0 _ (pre4 _ ?_)), hrun, hended, _, _, rfl, ?_, ⟨_, rfl⟩, hW, hsame.mono (by decide) (by decide)⟩
  · show Steps p.tables e below (s₁.setTop (mkF m 17 #[.val (.int i1), .val (.int i2), .val fm] [(.int i1)])) _
    exact retOut X0 hx (t := .int) Bd.returns rfl (Or.inl ⟨rfl, Or.inl rfl, _, rfl⟩) (hb hby d16_17) hr
  · show QPCk Z i1 i2 fm h0 n0 _ s₁.heap _
    rw [e0]
    exact ⟨rfl, N0, rfl⟩
theorem ef_SCk (m : MethodId) (x0 : Int32) (x1 : Int32) : entryFrame m #[(.int x0), (.int x1)] 2 = mkF m 0 #[.val (.int x0), .val (.int x1)] [] := by (first | (simp [entryFrame, mkF, argsToLocals, Value.category]; done) | rfl)
def QSCk (Z : State) (i1 : Int32) (i2 : Int32) (fm : Value) (h0 : Heap) (n0 : Nat) (v : Option Value) (h : Heap) (L : List Loc) : Prop := v = none ∧ Fr n0 L ∧ h = h0
theorem d15_0 : decode jdk_42_method_155_code 0 = .ok (.iload_n 0, 1) := by decide +kernel
theorem d15_1 : decode jdk_42_method_155_code 1 = .ok (.iload_n 1, 1) := by decide +kernel
theorem d15_2 : decode jdk_42_method_155_code 2 = .ok (.getstatic 1053, 3) := by decide +kernel
theorem d15_5 : decode jdk_42_method_155_code 5 = .ok (.invokestatic 1059, 3) := by decide +kernel
theorem pd__IILjava_util_function_BiFunction__I : parseMethodDescriptor "(IILjava/util/function/BiFunction;)I" = some ⟨[.int, .int, (.object "java/util/function/BiFunction")], some .int⟩ := by decide +kernel
theorem d15_8 : decode jdk_42_method_155_code 8 = .ok (.pop, 1) := by decide +kernel
theorem d15_9 : decode jdk_42_method_155_code 9 = .ok (.return_, 1) := by decide +kernel
set_option maxRecDepth 65536 in
set_option maxHeartbeats 40000000 in
theorem rmSCk (l : Launch) (Z : State) (a0 : Array Value) (hw : ∀ d ∈ tables_1, d.before a0 Z = true) (ws : List Jvm.Cond) (i1 : Int32) (i2 : Int32) (fm : Value) (h0 : Heap) (n0 : Nat) (Z0 : n0 ≤ h0.size) (SFm : Sta Z h0 "jdk/internal/util/Preconditions" "SIOOBE_FORMATTER" "Ljava/util/function/BiFunction;" fm) (rf : fm.isRef = true) (hi0 : ¬ i1 < (0 : Int32)) (hi1 : i1 < i2) :
    MetFree l (⟨"java/lang/String", "checkIndex", "(II)V"⟩ : MethodName) (head1 (Jvm.Cond.code (⟨"java/lang/String", "checkIndex", "(II)V"⟩ : MethodName) jdk_42_method_155_code 2 none :: ws) ({ frames := 1, cells := 0, slots := 0, locals := 14 } : Room)) (fun a U => a = #[(.int i1), (.int i2)] ∧ Z.Warmed39 U.vm ∧ U.heap = h0) (fun _ _ _ _ _ => True) (fun _ U o U' => ∃ v L, o = .returned v ∧ QSCk Z i1 i2 fm h0 n0 v U'.heap L ∧ FrameEnd U o U' L ({ frames := 1, cells := 0, slots := 0, locals := 14 } : Room).cells ({ frames := 1, cells := 0, slots := 0, locals := 14 } : Room).slots) := by
  refine MetFree.of_bodySF (plainFor_of_name pn_java_lang_String) hisR ?_
  intro p e s m args below meth c s₁ Bd hml0 hP hK
  obtain ⟨rfl, hZ, hh⟩ := hP
  have hx := Bd.exec
  have hby := Bd.bytes
  have hml : c.maxLocals = 2 := hml0
  have hown : s.vm.findClass "java/lang/String" = some m.cls := findClass_of_methodNamed Bd.named
  have hnm := (name_of_methodNamed Bd.named Bd.method).1
  have X0 : Stand p l e ({ frames := 1, cells := 0, slots := 0, locals := 14 } : Room) s m #[(.int i1), (.int i2)] below meth c s₁ [] 0 0 := Stand.of_body Bd
  have e0 : s₁.heap = h0 := by rw [← hh, Bd.state]; rfl
  have N0 := Fr.nil n0
  have pre0 : ∀ t, Steps p.tables e below (s₁.setTop (mkF m 0 #[.val (.int i1), .val (.int i2)] [])) t → Steps p.tables e below (s₁.setTop (entryFrame m #[(.int i1), (.int i2)] 2)) t := fun t k => castTop (ef_SCk m i1 i2) k
  obtain ⟨T5, X5, e5, st5⟩ := getS2 X0 hx hZ hown (host := "") (Or.inl (tw hw 73 rfl)) Via.refl e0 SFm (g := (mkF m 2 #[.val (.int i1), .val (.int i2)] [(.int i2), (.int i1)])) rfl (hb hby d15_2)
  obtain ⟨_, _, ⟨T6, L6, k6, n6⟩, -, X6, ⟨Lc6, hQ6, l6, y6, z6⟩, st6⟩ := Jvm.LawKit.callS X5 hx (y := (⟨"jdk/internal/util/Preconditions", "checkIndex", "(IILjava/util/function/BiFunction;)I"⟩ : MethodName)) hown (mvT hZ (tw hw 75 rfl)) (mvT hZ (tw hw 76 rfl)) (mvT hZ (tw hw 74 rfl)) (mvT hZ (tw hw 77 rfl)) (by decide) (backOf (W := 0) (rmPCk l Z a0 hw [] i1 i2 fm h0 n0 Z0 rf hi0 hi1) hZ (tw hw 77 rfl) (tw hw 74 rfl) (by decide) (by decide)) (g := (mkF m 5 #[.val (.int i1), .val (.int i2)] [fm, (.int i2), (.int i1)])) rfl (by rw [hml]; rfl) (argsL := [(.int i1), (.int i2), fm]) (rest := []) (lenOf pd__IILjava_util_function_BiFunction__I rfl) rfl (by show 2 * 0 + _ ≤ _; exact Nat.le_of_eq rfl) (hb hby d15_5) (fun _ _ => ⟨rfl, e5, (by decide : 0 + 0 ≤ _), (by decide : 0 + 0 ≤ _)⟩)
  dsimp only [Pt.U, Pt.locs, Pt.cells, Pt.slots] at X6 l6 y6 z6 st6 hQ6
  subst l6 y6 z6
  obtain ⟨rfl, N6q, EQ6⟩ := hQ6
  have N6 := Fr.app N0 N6q
  have pre7 : ∀ t, Steps p.tables e below (T6.setTop (mkF m 9 #[.val (.int i1), .val (.int i2)] [])) t → Steps p.tables e below (s₁.setTop (mkF m 0 #[.val (.int i1), .val (.int i2)] [])) t := by
    intro t kt
    show Steps p.tables e below (s₁.setTop (mkF m 0 #[.val (.int i1), .val (.int i2)] [])) _
    refine XS.iloadN X0.here hx rfl (hb hby d15_0) rfl ?_
    refine XS.iloadN X0.here hx rfl (hb hby d15_1) rfl ?_
    refine st5 _ ?_
    refine st6 _ ?_
    show Steps p.tables e below (T6.setTop (mkF m 8 #[.val (.int i1), .val (.int i2)] [(.int i1)])) _
    refine XS.pop X6.here hx rfl (hb hby d15_8) rfl rfl ?_
    exact kt
  obtain ⟨fs, hr, hrun, hended, hW, hsame⟩ := X6.leave (v := none) (fun _ => rfl)
  refine ⟨_, _, (pre0 _ (pre7 _ ?_)), hrun, hended, _, _, rfl, ?_, ⟨_, rfl⟩, hW, hsame.mono (by decide) (by decide)⟩
  · show Steps p.tables e below (T6.setTop (mkF m 9 #[.val (.int i1), .val (.int i2)] [])) _
    exact X6.returnOut hx Bd.returns (hb hby d15_9) hr
  · show QSCk Z i1 i2 fm h0 n0 _ T6.heap _
    exact ⟨rfl, N6, by rw [EQ6]⟩
theorem ef_Cod (m : MethodId) (x0 : Addr) : entryFrame m #[(.ref x0)] 1 = mkF m 0 #[.val (.ref x0)] [] := by (first | (simp [entryFrame, mkF, argsToLocals, Value.category]; done) | rfl)
def QCod (Z : State) (x1 : Addr) (zc : Int32) (h0 : Heap) (n0 : Nat) (v : Option Value) (h : Heap) (L : List Loc) : Prop := v = some (.int (0 : Int32)) ∧ Fr n0 L ∧ h = h0
theorem d7_0 : decode jdk_42_method_152_code 0 = .ok (.getstatic 38, 3) := by decide +kernel
theorem d7_3 : decode jdk_42_method_152_code 3 = .ok (.ifCond .eq 10, 3) := by decide +kernel
theorem d7_6 : decode jdk_42_method_152_code 6 = .ok (.aload_n 0, 1) := by decide +kernel
theorem d7_7 : decode jdk_42_method_152_code 7 = .ok (.getfield 15, 3) := by decide +kernel
theorem d7_10 : decode jdk_42_method_152_code 10 = .ok (.goto 4, 3) := by decide +kernel
theorem d7_14 : decode jdk_42_method_152_code 14 = .ok (.ireturn, 1) := by decide +kernel
set_option maxRecDepth 65536 in
set_option maxHeartbeats 40000000 in
theorem rmCod (l : Launch) (Z : State) (a0 : Array Value) (hw : ∀ d ∈ tables_1, d.before a0 Z = true) (ws : List Jvm.Cond) (x1 : Addr) (zc : Int32) (h0 : Heap) (n0 : Nat) (Z0 : n0 ≤ h0.size) (SC : Sta Z h0 "java/lang/String" "COMPACT_STRINGS" "Z" (.int zc)) (hzc : ¬ zc = (0 : Int32)) (FC : Fld Z h0 x1 "java/lang/String" "coder" "B" (.int (0 : Int32))) :
    MetFree l (⟨"java/lang/String", "coder", "()B"⟩ : MethodName) (head1 (Jvm.Cond.code (⟨"java/lang/String", "coder", "()B"⟩ : MethodName) jdk_42_method_152_code 1 (some .byte) :: ws) ({ frames := 0, cells := 0, slots := 0, locals := 0 } : Room)) (fun a U => a = #[(.ref x1)] ∧ Z.Warmed39 U.vm ∧ U.heap = h0) (fun _ _ _ _ _ => True) (fun _ U o U' => ∃ v L, o = .returned v ∧ QCod Z x1 zc h0 n0 v U'.heap L ∧ FrameEnd U o U' L ({ frames := 0, cells := 0, slots := 0, locals := 0 } : Room).cells ({ frames := 0, cells := 0, slots := 0, locals := 0 } : Room).slots) := by
  refine MetFree.of_bodySF (plainFor_of_name pn_java_lang_String) hisR ?_
  intro p e s m args below meth c s₁ Bd hml0 hP hK
  obtain ⟨rfl, hZ, hh⟩ := hP
  have hx := Bd.exec
  have hby := Bd.bytes
  have hml : c.maxLocals = 1 := hml0
  have hown : s.vm.findClass "java/lang/String" = some m.cls := findClass_of_methodNamed Bd.named
  have hnm := (name_of_methodNamed Bd.named Bd.method).1
  have X0 : Stand p l e ({ frames := 0, cells := 0, slots := 0, locals := 0 } : Room) s m #[(.ref x1)] below meth c s₁ [] 0 0 := Stand.of_body Bd
  have e0 : s₁.heap = h0 := by rw [← hh, Bd.state]; rfl
  have N0 := Fr.nil n0
  have pre0 : ∀ t, Steps p.tables e below (s₁.setTop (mkF m 0 #[.val (.ref x1)] [])) t → Steps p.tables e below (s₁.setTop (entryFrame m #[(.ref x1)] 1)) t := fun t k => castTop (ef_Cod m x1) k
  obtain ⟨T8, X8, e8, st8⟩ := getS2 X0 hx hZ hown (host := "") (Or.inl (tw hw 42 rfl)) Via.refl e0 SC (g := (mkF m 0 #[.val (.ref x1)] [])) rfl (hb hby d7_0)
  obtain ⟨T9, X9, e9, st9⟩ := getF X8 hx hZ hown (host := "") (Or.inl (tw hw 27 rfl)) Via.refl e8 FC (g := (mkF m 7 #[.val (.ref x1)] [(.ref x1)])) rfl rfl (hb hby d7_7)
  have pre10 : ∀ t, Steps p.tables e below (T9.setTop (mkF m 14 #[.val (.ref x1)] [(.int (0 : Int32))])) t → Steps p.tables e below (s₁.setTop (mkF m 0 #[.val (.ref x1)] [])) t := by
    intro t kt
    refine st8 _ ?_
    refine XS.ifNo X8.here hx rfl (hb hby d7_3) rfl ((if0 _ _).trans (feq (hzc : ¬ (zc = (0 : Int32)))).1) ?_
    show Steps p.tables e below (T8.setTop (mkF m 6 #[.val (.ref x1)] [])) _
    refine XS.aloadN X8.here hx rfl (hb hby d7_6) rfl rfl ?_
    refine st9 _ ?_
    show Steps p.tables e below (T9.setTop (mkF m 10 #[.val (.ref x1)] [(.int (0 : Int32))])) _
    refine XS.goto X9.here hx rfl (pc0 := 10) (pc' := 14) rfl (hb hby d7_10) (by decide) (by decide) ?_
    exact kt
  obtain ⟨fs, hr, hrun, hended, hW, hsame⟩ := X9.leave (v := some (.int (0 : Int32))) (fun h => by rw [Bd.returns] at h; cases h)
  refine ⟨_, _, (pre0 _ (pre10 _ ?_)), hrun, hended, _, _, rfl, ?_, ⟨_, rfl⟩, hW, hsame.mono (by decide) (by decide)⟩
  · show Steps p.tables e below (T9.setTop (mkF m 14 #[.val (.ref x1)] [(.int (0 : Int32))])) _
    exact retN X9 hx (t := .byte) Bd.returns (by simp) (hb hby d7_14) hr
  · show QCod Z x1 zc h0 n0 _ T9.heap _
    rw [e9]
    exact ⟨rfl, N0, rfl⟩
theorem ef_LCh (m : MethodId) (x0 : Addr) (x1 : Int32) : entryFrame m #[(.ref x0), (.int x1)] 2 = mkF m 0 #[.val (.ref x0), .val (.int x1)] [] := by (first | (simp [entryFrame, mkF, argsToLocals, Value.category]; done) | rfl)
def QLCh (Z : State) (t1 : Addr) (kb : ClassId) (nb : Int32) (vb : List Value) (i1 : Int32) (bt : Int32) (fm : Value) (h0 : Heap) (n0 : Nat) (v : Option Value) (h : Heap) (L : List Loc) : Prop := v = some (.int (nar .char ((bt &&& (255 : Int32)).toUInt32.toUInt16.toUInt32.toInt32))) ∧ Fr n0 L ∧ h = h0
theorem pn_java_lang_StringLatin1 : plainName "java/lang/StringLatin1" = true := by first | (simp [plainName, overriddenIn]; done) | decide +kernel
theorem d14_0 : decode jdk_43_method_2_code 0 = .ok (.iload_n 1, 1) := by decide +kernel
theorem d14_1 : decode jdk_43_method_2_code 1 = .ok (.aload_n 0, 1) := by decide +kernel
theorem d14_2 : decode jdk_43_method_2_code 2 = .ok (.arraylength, 1) := by decide +kernel
theorem d14_3 : decode jdk_43_method_2_code 3 = .ok (.invokestatic 9, 3) := by decide +kernel
theorem pd__II_V : parseMethodDescriptor "(II)V" = some ⟨[.int, .int], none⟩ := by decide +kernel
theorem d14_6 : decode jdk_43_method_2_code 6 = .ok (.aload_n 0, 1) := by decide +kernel
theorem d14_7 : decode jdk_43_method_2_code 7 = .ok (.iload_n 1, 1) := by decide +kernel
theorem d14_8 : decode jdk_43_method_2_code 8 = .ok (.baload, 1) := by decide +kernel
theorem d14_9 : decode jdk_43_method_2_code 9 = .ok (.sipush 255, 3) := by decide +kernel
theorem d14_12 : decode jdk_43_method_2_code 12 = .ok (.iand, 1) := by decide +kernel
theorem d14_13 : decode jdk_43_method_2_code 13 = .ok (.i2c, 1) := by decide +kernel
theorem d14_14 : decode jdk_43_method_2_code 14 = .ok (.ireturn, 1) := by decide +kernel
set_option maxRecDepth 65536 in
set_option maxHeartbeats 40000000 in
theorem rmLCh (l : Launch) (Z : State) (a0 : Array Value) (hw : ∀ d ∈ tables_1, d.before a0 Z = true) (ws : List Jvm.Cond) (t1 : Addr) (kb : ClassId) (nb : Int32) (vb : List Value) (i1 : Int32) (bt : Int32) (fm : Value) (h0 : Heap) (n0 : Nat) (Z0 : n0 ≤ h0.size) (SFm : Sta Z h0 "jdk/internal/util/Preconditions" "SIOOBE_FORMATTER" "Ljava/util/function/BiFunction;" fm) (rf : fm.isRef = true) (KA : Arv Z h0 t1 kb .byte nb vb (.int (0 : Int32))) (hi0 : ¬ i1 < (0 : Int32)) (hi1 : i1 < nb) (hbt : vb.getD i1.toNatClampNeg (.int (0 : Int32)) = .int bt) :
    MetFree l (⟨"java/lang/StringLatin1", "charAt", "([BI)C"⟩ : MethodName) (head1 (Jvm.Cond.code (⟨"java/lang/StringLatin1", "charAt", "([BI)C"⟩ : MethodName) jdk_43_method_2_code 2 (some .char) :: ws) ({ frames := 2, cells := 0, slots := 0, locals := 27 } : Room)) (fun a U => a = #[(.ref t1), (.int i1)] ∧ Z.Warmed39 U.vm ∧ U.heap = h0) (fun _ _ _ _ _ => True) (fun _ U o U' => ∃ v L, o = .returned v ∧ QLCh Z t1 kb nb vb i1 bt fm h0 n0 v U'.heap L ∧ FrameEnd U o U' L ({ frames := 2, cells := 0, slots := 0, locals := 27 } : Room).cells ({ frames := 2, cells := 0, slots := 0, locals := 27 } : Room).slots) := by
  refine MetFree.of_bodySF (plainFor_of_name pn_java_lang_StringLatin1) hisR ?_
  intro p e s m args below meth c s₁ Bd hml0 hP hK
  obtain ⟨rfl, hZ, hh⟩ := hP
  have hx := Bd.exec
  have hby := Bd.bytes
  have hml : c.maxLocals = 2 := hml0
  have hown : s.vm.findClass "java/lang/StringLatin1" = some m.cls := findClass_of_methodNamed Bd.named
  have hnm := (name_of_methodNamed Bd.named Bd.method).1
  have X0 : Stand p l e ({ frames := 2, cells := 0, slots := 0, locals := 27 } : Room) s m #[(.ref t1), (.int i1)] below meth c s₁ [] 0 0 := Stand.of_body Bd
  have e0 : s₁.heap = h0 := by rw [← hh, Bd.state]; rfl
  have N0 := Fr.nil n0
  have pre0 : ∀ t, Steps p.tables e below (s₁.setTop (mkF m 0 #[.val (.ref t1), .val (.int i1)] [])) t → Steps p.tables e below (s₁.setTop (entryFrame m #[(.ref t1), (.int i1)] 2)) t := fun t k => castTop (ef_LCh m t1 i1) k
  obtain ⟨c11, Ar11, -, S11, M11, -, -⟩ := id KA
  obtain ⟨_, _, ⟨T12, L12, k12, n12⟩, -, X12, ⟨Lc12, hQ12, l12, y12, z12⟩, st12⟩ := Jvm.LawKit.callS X0 hx (y := (⟨"java/lang/String", "checkIndex", "(II)V"⟩ : MethodName)) hown (mvT hZ (tw hw 70 rfl)) (mvT hZ (tw hw 71 rfl)) (mvT hZ (tw hw 8 rfl)) (mvT hZ (tw hw 72 rfl)) (by decide) (backOf (W := 0) (rmSCk l Z a0 hw [] i1 nb fm h0 n0 Z0 SFm rf hi0 hi1) hZ (tw hw 72 rfl) (tw hw 8 rfl) (by decide) (by decide)) (g := (mkF m 3 #[.val (.ref t1), .val (.int i1)] [(.int nb), (.int i1)])) rfl (by rw [hml]; rfl) (argsL := [(.int i1), (.int nb)]) (rest := []) (lenOf pd__II_V rfl) rfl (by show 2 * 0 + _ ≤ _; exact Nat.le_of_eq rfl) (hb hby d14_3) (fun _ _ => ⟨rfl, e0, (by decide : 0 + 0 ≤ _), (by decide : 0 + 0 ≤ _)⟩)
  dsimp only [Pt.U, Pt.locs, Pt.cells, Pt.slots] at X12 l12 y12 z12 st12 hQ12
  subst l12 y12 z12
  obtain ⟨rfl, N12q, EQ12⟩ := hQ12
  have N12 := Fr.app N0 N12q
  have f13 := (EQ12 ▸ KA)
  obtain ⟨c14, Ar14, q14, S14, M14, H14, G14⟩ := id f13
  have hin14 : ¬ (i1 < 0 ∨ c14.slots.size ≤ (i1).toNatClampNeg) := inb_of S14 ⟨hi0, hi1⟩
  have hat14 : c14.slots[(i1).toNatClampNeg]? = some (.int bt) := (H14 _ (Nat.lt_of_not_le fun y => hin14 (Or.inr y))).trans (congrArg some hbt)
  have pre15 : ∀ t, Steps p.tables e below (T12.setTop (mkF m 14 #[.val (.ref t1), .val (.int i1)] [(.int ((bt &&& (255 : Int32)).toUInt32.toUInt16.toUInt32.toInt32))])) t → Steps p.tables e below (s₁.setTop (mkF m 0 #[.val (.ref t1), .val (.int i1)] [])) t := by
    intro t kt
    show Steps p.tables e below (s₁.setTop (mkF m 0 #[.val (.ref t1), .val (.int i1)] [])) _
    refine XS.iloadN X0.here hx rfl (hb hby d14_0) rfl ?_
    refine XS.aloadN X0.here hx rfl (hb hby d14_1) rfl rfl ?_
    refine X0.arraylength hx (by rw [e0]; exact Ar11.1) (State.isArrayOf_alike hZ.alike Ar11.2.1) (g := (mkF m 2 #[.val (.ref t1), .val (.int i1)] [(.ref t1), (.int i1)])) rfl rfl (hb hby d14_2) _ ?_
    rw [len_of S11 M11]
    refine st12 _ ?_
    show Steps p.tables e below (T12.setTop (mkF m 6 #[.val (.ref t1), .val (.int i1)] [])) _
    refine XS.aloadN X12.here hx rfl (hb hby d14_6) rfl rfl ?_
    refine XS.iloadN X12.here hx rfl (hb hby d14_7) rfl ?_
    show Steps p.tables e below (T12.setTop (mkF m 8 #[.val (.ref t1), .val (.int i1)] [(.int i1), (.ref t1)])) _
    refine X12.baloadBytes hx (j := i1) (v := (.int bt)) Ar14.1 (State.isArrayOf_alike hZ.alike Ar14.2.1) Ar14.2.2 hin14 hat14 (g := (mkF m 8 #[.val (.ref t1), .val (.int i1)] [(.int i1), (.ref t1)])) rfl rfl (hb hby d14_8) _ ?_
    show Steps p.tables e below (T12.setTop (mkF m 9 #[.val (.ref t1), .val (.int i1)] [(.int bt)])) _
    refine XS.sipush X12.here hx rfl (hb hby d14_9) ?_
    refine XS.iand X12.here hx rfl (hb hby d14_12) rfl ?_
    refine XS.i2c X12.here hx rfl (hb hby d14_13) rfl ?_
    exact kt
  obtain ⟨fs, hr, hrun, hended, hW, hsame⟩ := X12.leave (v := some (.int (nar .char ((bt &&& (255 : Int32)).toUInt32.toUInt16.toUInt32.toInt32)))) (fun h => by rw [Bd.returns] at h; cases h)
  refine ⟨_, _, (pre0 _ (pre15 _ ?_)), hrun, hended, _, _, rfl, ?_, ⟨_, rfl⟩, hW, hsame.mono (by decide) (by decide)⟩
  · show Steps p.tables e below (T12.setTop (mkF m 14 #[.val (.ref t1), .val (.int i1)] [(.int ((bt &&& (255 : Int32)).toUInt32.toUInt16.toUInt32.toInt32))])) _
    exact retN X12 hx (t := .char) Bd.returns (by simp) (hb hby d14_14) hr
  · show QLCh Z t1 kb nb vb i1 bt fm h0 n0 _ T12.heap _
    exact ⟨rfl, N12, by rw [EQ12]⟩
theorem ef_ULen (m : MethodId) (x0 : Addr) : entryFrame m #[(.ref x0)] 1 = mkF m 0 #[.val (.ref x0)] [] := by (first | (simp [entryFrame, mkF, argsToLocals, Value.category]; done) | rfl)
def QULen (Z : State) (t1 : Addr) (kb : ClassId) (n : Nat) (vb : List Value) (h0 : Heap) (n0 : Nat) (v : Option Value) (h : Heap) (L : List Loc) : Prop := v = some (.int (Int32.ofNat n)) ∧ Fr n0 L ∧ h = h0
theorem pn_java_lang_StringUTF16 : plainName "java/lang/StringUTF16" = true := by first | (simp [plainName, overriddenIn]; done) | decide +kernel
theorem d25_0 : decode jdk_52_method_6_code 0 = .ok (.aload_n 0, 1) := by decide +kernel
theorem d25_1 : decode jdk_52_method_6_code 1 = .ok (.arraylength, 1) := by decide +kernel
theorem d25_2 : decode jdk_52_method_6_code 2 = .ok (.iconst 1, 1) := by decide +kernel
theorem d25_3 : decode jdk_52_method_6_code 3 = .ok (.ishr, 1) := by decide +kernel
theorem d25_4 : decode jdk_52_method_6_code 4 = .ok (.ireturn, 1) := by decide +kernel
set_option maxRecDepth 65536 in
set_option maxHeartbeats 40000000 in
theorem rmULen (l : Launch) (Z : State) (a0 : Array Value) (hw : ∀ d ∈ tables_1, d.before a0 Z = true) (ws : List Jvm.Cond) (t1 : Addr) (kb : ClassId) (n : Nat) (vb : List Value) (h0 : Heap) (n0 : Nat) (Z0 : n0 ≤ h0.size) (KA : Arv Z h0 t1 kb .byte (Int32.ofNat (2 * n)) vb (.int (0 : Int32))) (hn : n < 1000) :
    MetFree l (⟨"java/lang/StringUTF16", "length", "([B)I"⟩ : MethodName) (head1 (Jvm.Cond.code (⟨"java/lang/StringUTF16", "length", "([B)I"⟩ : MethodName) jdk_52_method_6_code 1 (some .int) :: ws) ({ frames := 0, cells := 0, slots := 0, locals := 0 } : Room)) (fun a U => a = #[(.ref t1)] ∧ Z.Warmed39 U.vm ∧ U.heap = h0) (fun _ _ _ _ _ => True) (fun _ U o U' => ∃ v L, o = .returned v ∧ QULen Z t1 kb n vb h0 n0 v U'.heap L ∧ FrameEnd U o U' L ({ frames := 0, cells := 0, slots := 0, locals := 0 } : Room).cells ({ frames := 0, cells := 0, slots := 0, locals := 0 } : Room).slots) := by
  refine MetFree.of_bodySF (plainFor_of_name pn_java_lang_StringUTF16) hisR ?_
  intro p e s m args below meth c s₁ Bd hml0 hP hK
  obtain ⟨rfl, hZ, hh⟩ := hP
  have hx := Bd.exec
  have hby := Bd.bytes
  have hml : c.maxLocals = 1 := hml0
  have hown : s.vm.findClass "java/lang/StringUTF16" = some m.cls := findClass_of_methodNamed Bd.named
  have hnm := (name_of_methodNamed Bd.named Bd.method).1
  have X0 : Stand p l e ({ frames := 0, cells := 0, slots := 0, locals := 0 } : Room) s m #[(.ref t1)] below meth c s₁ [] 0 0 := Stand.of_body Bd
  have e0 : s₁.heap = h0 := by rw [← hh, Bd.state]; rfl
  have N0 := Fr.nil n0
  have pre0 : ∀ t, Steps p.tables e below (s₁.setTop (mkF m 0 #[.val (.ref t1)] [])) t → Steps p.tables e below (s₁.setTop (entryFrame m #[(.ref t1)] 1)) t := fun t k => castTop (ef_ULen m t1) k
  obtain ⟨c16, Ar16, -, S16, M16, -, -⟩ := id KA
  have pre17 : ∀ t, Steps p.tables e below (s₁.setTop (mkF m 4 #[.val (.ref t1)] [(.int (Int32.ofNat n))])) t → Steps p.tables e below (s₁.setTop (mkF m 0 #[.val (.ref t1)] [])) t := by
    intro t kt
    show Steps p.tables e below (s₁.setTop (mkF m 0 #[.val (.ref t1)] [])) _
    refine XS.aloadN X0.here hx rfl (hb hby d25_0) rfl rfl ?_
    refine X0.arraylength hx (by rw [e0]; exact Ar16.1) (State.isArrayOf_alike hZ.alike Ar16.2.1) (g := (mkF m 1 #[.val (.ref t1)] [(.ref t1)])) rfl rfl (hb hby d25_1) _ ?_
    rw [len_of S16 M16]
    show Steps p.tables e below (s₁.setTop (mkF m 2 #[.val (.ref t1)] [(.int (Int32.ofNat (2 * n)))])) _
    refine XS.iconst X0.here hx rfl (hb hby d25_2) ?_
    refine XS.ishr X0.here hx rfl (hb hby d25_3) rfl ?_
    show Steps p.tables e below (s₁.setTop (mkF m 4 #[.val (.ref t1)] [(.int ((Int32.ofNat (2 * n)) >>> ((1 : Int32) &&& 31)))])) _
    rw [own_shr hn]
    exact kt
  obtain ⟨fs, hr, hrun, hended, hW, hsame⟩ := X0.leave (v := some (.int (Int32.ofNat n))) (fun h => by rw [Bd.returns] at h; cases h)
  refine ⟨_, _, (pre0 _ (pre17 _ ?_)), hrun, hended, _, _, rfl, ?_, ⟨_, rfl⟩, hW, hsame.mono (by decide) (by decide)⟩
  · show Steps p.tables e below (s₁.setTop (mkF m 4 #[.val (.ref t1)] [(.int (Int32.ofNat n))])) _
    exact retOut X0 hx (t := .int) Bd.returns rfl (Or.inl ⟨rfl, Or.inl rfl, _, rfl⟩) (hb hby d25_4) hr
  · show QULen Z t1 kb n vb h0 n0 _ s₁.heap _
    rw [e0]
    exact ⟨rfl, N0, rfl⟩
theorem ef_GetC (m : MethodId) (x0 : Addr) (x1 : Int32) : entryFrame m #[(.ref x0), (.int x1)] 2 = mkF m 0 #[.val (.ref x0), .val (.int x1)] [] := by (first | (simp [entryFrame, mkF, argsToLocals, Value.category]; done) | rfl)
def QGetC (Z : State) (t1 : Addr) (kb : ClassId) (n : Nat) (vb : List Value) (i : Nat) (b0 : Int32) (b1 : Int32) (h0 : Heap) (n0 : Nat) (v : Option Value) (h : Heap) (L : List Loc) : Prop := v = some (.int (nar .char ((((b0 &&& (255 : Int32)) <<< ((0 : Int32) &&& 31)) ||| ((b1 &&& (255 : Int32)) <<< ((8 : Int32) &&& 31))).toUInt32.toUInt16.toUInt32.toInt32))) ∧ Fr n0 L ∧ h = h0
theorem d22_0 : decode jdk_52_method_5_code 0 = .ok (.getstatic 44, 3) := by decide +kernel
theorem d22_3 : decode jdk_52_method_5_code 3 = .ok (.ifCond .ne 25, 3) := by decide +kernel
theorem d22_28 : decode jdk_52_method_5_code 28 = .ok (.iload_n 1, 1) := by decide +kernel
theorem d22_29 : decode jdk_52_method_5_code 29 = .ok (.iconst 1, 1) := by decide +kernel
theorem d22_30 : decode jdk_52_method_5_code 30 = .ok (.ishl, 1) := by decide +kernel
theorem d22_31 : decode jdk_52_method_5_code 31 = .ok (.istore_n 1, 1) := by decide +kernel
theorem d22_32 : decode jdk_52_method_5_code 32 = .ok (.aload_n 0, 1) := by decide +kernel
theorem d22_33 : decode jdk_52_method_5_code 33 = .ok (.iload_n 1, 1) := by decide +kernel
theorem d22_34 : decode jdk_52_method_5_code 34 = .ok (.iinc 1 1, 3) := by decide +kernel
theorem d22_37 : decode jdk_52_method_5_code 37 = .ok (.baload, 1) := by decide +kernel
theorem d22_38 : decode jdk_52_method_5_code 38 = .ok (.sipush 255, 3) := by decide +kernel
theorem d22_41 : decode jdk_52_method_5_code 41 = .ok (.iand, 1) := by decide +kernel
theorem d22_42 : decode jdk_52_method_5_code 42 = .ok (.getstatic 59, 3) := by decide +kernel
theorem d22_45 : decode jdk_52_method_5_code 45 = .ok (.ishl, 1) := by decide +kernel
theorem d22_46 : decode jdk_52_method_5_code 46 = .ok (.aload_n 0, 1) := by decide +kernel
theorem d22_47 : decode jdk_52_method_5_code 47 = .ok (.iload_n 1, 1) := by decide +kernel
theorem d22_48 : decode jdk_52_method_5_code 48 = .ok (.baload, 1) := by decide +kernel
theorem d22_49 : decode jdk_52_method_5_code 49 = .ok (.sipush 255, 3) := by decide +kernel
theorem d22_52 : decode jdk_52_method_5_code 52 = .ok (.iand, 1) := by decide +kernel
theorem d22_53 : decode jdk_52_method_5_code 53 = .ok (.getstatic 63, 3) := by decide +kernel
theorem d22_56 : decode jdk_52_method_5_code 56 = .ok (.ishl, 1) := by decide +kernel
theorem d22_57 : decode jdk_52_method_5_code 57 = .ok (.ior, 1) := by decide +kernel
theorem d22_58 : decode jdk_52_method_5_code 58 = .ok (.i2c, 1) := by decide +kernel
theorem d22_59 : decode jdk_52_method_5_code 59 = .ok (.ireturn, 1) := by decide +kernel
set_option maxRecDepth 65536 in
set_option maxHeartbeats 40000000 in
theorem rmGetC (l : Launch) (Z : State) (a0 : Array Value) (hw : ∀ d ∈ tables_1, d.before a0 Z = true) (ws : List Jvm.Cond) (t1 : Addr) (kb : ClassId) (n : Nat) (vb : List Value) (i : Nat) (b0 : Int32) (b1 : Int32) (h0 : Heap) (n0 : Nat) (Z0 : n0 ≤ h0.size) (SA : Sta Z h0 "java/lang/StringUTF16" "$assertionsDisabled" "Z" (.int (1 : Int32))) (SH : Sta Z h0 "java/lang/StringUTF16" "HI_BYTE_SHIFT" "I" (.int (0 : Int32))) (SL : Sta Z h0 "java/lang/StringUTF16" "LO_BYTE_SHIFT" "I" (.int (8 : Int32))) (KA : Arv Z h0 t1 kb .byte (Int32.ofNat (2 * n)) vb (.int (0 : Int32))) (hn : n < 1000) (hi : i < n) (hb0 : vb.getD (2 * i) (.int (0 : Int32)) = .int b0) (hb1 : vb.getD (2 * i + 1) (.int (0 : Int32)) = .int b1) :
    MetFree l (⟨"java/lang/StringUTF16", "getChar", "([BI)C"⟩ : MethodName) (head1 (Jvm.Cond.code (⟨"java/lang/StringUTF16", "getChar", "([BI)C"⟩ : MethodName) jdk_52_method_5_code 2 (some .char) :: ws) ({ frames := 0, cells := 0, slots := 0, locals := 0 } : Room)) (fun a U => a = #[(.ref t1), (.int (Int32.ofNat i))] ∧ Z.Warmed39 U.vm ∧ U.heap = h0) (fun _ _ _ _ _ => True) (fun _ U o U' => ∃ v L, o = .returned v ∧ QGetC Z t1 kb n vb i b0 b1 h0 n0 v U'.heap L ∧ FrameEnd U o U' L ({ frames := 0, cells := 0, slots := 0, locals := 0 } : Room).cells ({ frames := 0, cells := 0, slots := 0, locals := 0 } : Room).slots) := by
  refine MetFree.of_bodySF (plainFor_of_name pn_java_lang_StringUTF16) hisR ?_
  intro p e s m args below meth c s₁ Bd hml0 hP hK
  obtain ⟨rfl, hZ, hh⟩ := hP
  have hx := Bd.exec
  have hby := Bd.bytes
  have hml : c.maxLocals = 2 := hml0
  have hown : s.vm.findClass "java/lang/StringUTF16" = some m.cls := findClass_of_methodNamed Bd.named
  have hnm := (name_of_methodNamed Bd.named Bd.method).1
  have X0 : Stand p l e ({ frames := 0, cells := 0, slots := 0, locals := 0 } : Room) s m #[(.ref t1), (.int (Int32.ofNat i))] below meth c s₁ [] 0 0 := Stand.of_body Bd
  have e0 : s₁.heap = h0 := by rw [← hh, Bd.state]; rfl
  have N0 := Fr.nil n0
  have pre0 : ∀ t, Steps p.tables e below (s₁.setTop (mkF m 0 #[.val (.ref t1), .val (.int (Int32.ofNat i))] [])) t → Steps p.tables e below (s₁.setTop (entryFrame m #[(.ref t1), (.int (Int32.ofNat i))] 2)) t := fun t k => castTop (ef_GetC m t1 (Int32.ofNat i)) k
  obtain ⟨T18, X18, e18, st18⟩ := getS2 X0 hx hZ hown (host := "") (Or.inl (tw hw 94 rfl)) Via.refl e0 SA (g := (mkF m 0 #[.val (.ref t1), .val (.int (Int32.ofNat i))] [])) rfl (hb hby d22_0)
  obtain ⟨c19, Ar19, q19, S19, M19, H19, G19⟩ := id KA
  have hin19 : ¬ ((Int32.ofNat (2 * i)) < 0 ∨ c19.slots.size ≤ ((Int32.ofNat (2 * i))).toNatClampNeg) := inb_of S19 ⟨own_nn (by omega), by rw [own_lt (by omega) (by omega)]; omega⟩
  have hat19 : c19.slots[((Int32.ofNat (2 * i))).toNatClampNeg]? = some (.int b0) := (H19 _ (Nat.lt_of_not_le fun y => hin19 (Or.inr y))).trans (congrArg some (by rw [own_nc (by omega)]; exact hb0))
  obtain ⟨T20, X20, e20, st20⟩ := getS2 X18 hx hZ hown (host := "") (Or.inl (tw hw 95 rfl)) Via.refl e18 SH (g := (mkF m 42 #[.val (.ref t1), .val (.int (Int32.ofNat (2 * i + 1)))] [(.int (b0 &&& (255 : Int32)))])) rfl (hb hby d22_42)
  obtain ⟨c21, Ar21, q21, S21, M21, H21, G21⟩ := id KA
  have hin21 : ¬ ((Int32.ofNat (2 * i + 1)) < 0 ∨ c21.slots.size ≤ ((Int32.ofNat (2 * i + 1))).toNatClampNeg) := inb_of S21 ⟨own_nn (by omega), by rw [own_lt (by omega) (by omega)]; omega⟩
  have hat21 : c21.slots[((Int32.ofNat (2 * i + 1))).toNatClampNeg]? = some (.int b1) := (H21 _ (Nat.lt_of_not_le fun y => hin21 (Or.inr y))).trans (congrArg some (by rw [own_nc (by omega)]; exact hb1))
  obtain ⟨T22, X22, e22, st22⟩ := getS2 X20 hx hZ hown (host := "") (Or.inl (tw hw 96 rfl)) Via.refl e20 SL (g := (mkF m 53 #[.val (.ref t1), .val (.int (Int32.ofNat (2 * i + 1)))] [(.int (b1 &&& (255 : Int32))), (.int ((b0 &&& (255 : Int32)) <<< ((0 : Int32) &&& 31)))])) rfl (hb hby d22_53)
  have pre23 : ∀ t, Steps p.tables e below (T22.setTop (mkF m 59 #[.val (.ref t1), .val (.int (Int32.ofNat (2 * i + 1)))] [(.int ((((b0 &&& (255 : Int32)) <<< ((0 : Int32) &&& 31)) ||| ((b1 &&& (255 : Int32)) <<< ((8 : Int32) &&& 31))).toUInt32.toUInt16.toUInt32.toInt32))])) t → Steps p.tables e below (s₁.setTop (mkF m 0 #[.val (.ref t1), .val (.int (Int32.ofNat i))] [])) t := by
    intro t kt
    refine st18 _ ?_
    refine XS.ifYes X18.here hx rfl (pc0 := 3) (pc' := 28) rfl (hb hby d22_3) rfl ((if0 _ _).trans (feq (by decide : ¬ ((1 : Int32) = (0 : Int32)))).2) (by decide) (by decide) ?_
    show Steps p.tables e below (T18.setTop (mkF m 28 #[.val (.ref t1), .val (.int (Int32.ofNat i))] [])) _
    refine XS.iloadN X18.here hx rfl (hb hby d22_28) rfl ?_
    refine XS.iconst X18.here hx rfl (hb hby d22_29) ?_
    refine XS.ishl X18.here hx rfl (hb hby d22_30) rfl ?_
    show Steps p.tables e below (T18.setTop (mkF m 31 #[.val (.ref t1), .val (.int (Int32.ofNat i))] [(.int ((Int32.ofNat i) <<< ((1 : Int32) &&& 31)))])) _
    rw [own_shl (show i < 1000 by omega)]
    show Steps p.tables e below (T18.setTop (mkF m 31 #[.val (.ref t1), .val (.int (Int32.ofNat i))] [(.int (Int32.ofNat (2 * i)))])) _
    refine XS.istoreN X18.here hx rfl (hb hby d22_31) rfl (l' := #[.val (.ref t1), .val (.int (Int32.ofNat (2 * i)))]) rfl ?_
    refine XS.aloadN X18.here hx rfl (hb hby d22_32) rfl rfl ?_
    refine XS.iloadN X18.here hx rfl (hb hby d22_33) rfl ?_
    refine XS.iinc X18.here hx rfl (hb hby d22_34) rfl (l' := #[.val (.ref t1), .val (.int ((Int32.ofNat (2 * i)) + (1 : Int32)))]) rfl ?_
    show Steps p.tables e below (T18.setTop (mkF m 37 #[.val (.ref t1), .val (.int ((Int32.ofNat (2 * i)) + (1 : Int32)))] [(.int (Int32.ofNat (2 * i))), (.ref t1)])) _
    rw [show Int32.ofNat (2 * i) + (1 : Int32) = Int32.ofNat (2 * i + 1) from own_add _ 1]
    show Steps p.tables e below (T18.setTop (mkF m 37 #[.val (.ref t1), .val (.int (Int32.ofNat (2 * i + 1)))] [(.int (Int32.ofNat (2 * i))), (.ref t1)])) _
    refine X18.baloadBytes hx (j := (Int32.ofNat (2 * i))) (v := (.int b0)) (by rw [e18]; exact Ar19.1) (State.isArrayOf_alike hZ.alike Ar19.2.1) Ar19.2.2 hin19 hat19 (g := (mkF m 37 #[.val (.ref t1), .val (.int (Int32.ofNat (2 * i + 1)))] [(.int (Int32.ofNat (2 * i))), (.ref t1)])) rfl rfl (hb hby d22_37) _ ?_
    show Steps p.tables e below (T18.setTop (mkF m 38 #[.val (.ref t1), .val (.int (Int32.ofNat (2 * i + 1)))] [(.int b0)])) _
    refine XS.sipush X18.here hx rfl (hb hby d22_38) ?_
    refine XS.iand X18.here hx rfl (hb hby d22_41) rfl ?_
    refine st20 _ ?_
    show Steps p.tables e below (T20.setTop (mkF m 45 #[.val (.ref t1), .val (.int (Int32.ofNat (2 * i + 1)))] [(.int (0 : Int32)), (.int (b0 &&& (255 : Int32)))])) _
    refine XS.ishl X20.here hx rfl (hb hby d22_45) rfl ?_
    refine XS.aloadN X20.here hx rfl (hb hby d22_46) rfl rfl ?_
    refine XS.iloadN X20.here hx rfl (hb hby d22_47) rfl ?_
    show Steps p.tables e below (T20.setTop (mkF m 48 #[.val (.ref t1), .val (.int (Int32.ofNat (2 * i + 1)))] [(.int (Int32.ofNat (2 * i + 1))), (.ref t1), (.int ((b0 &&& (255 : Int32)) <<< ((0 : Int32) &&& 31)))])) _
    refine X20.baloadBytes hx (j := (Int32.ofNat (2 * i + 1))) (v := (.int b1)) (by rw [e20]; exact Ar21.1) (State.isArrayOf_alike hZ.alike Ar21.2.1) Ar21.2.2 hin21 hat21 (g := (mkF m 48 #[.val (.ref t1), .val (.int (Int32.ofNat (2 * i + 1)))] [(.int (Int32.ofNat (2 * i + 1))), (.ref t1), (.int ((b0 &&& (255 : Int32)) <<< ((0 : Int32) &&& 31)))])) rfl rfl (hb hby d22_48) _ ?_
    show Steps p.tables e below (T20.setTop (mkF m 49 #[.val (.ref t1), .val (.int (Int32.ofNat (2 * i + 1)))] [(.int b1), (.int ((b0 &&& (255 : Int32)) <<< ((0 : Int32) &&& 31)))])) _
    refine XS.sipush X20.here hx rfl (hb hby d22_49) ?_
    refine XS.iand X20.here hx rfl (hb hby d22_52) rfl ?_
    refine st22 _ ?_
    show Steps p.tables e below (T22.setTop (mkF m 56 #[.val (.ref t1), .val (.int (Int32.ofNat (2 * i + 1)))] [(.int (8 : Int32)), (.int (b1 &&& (255 : Int32))), (.int ((b0 &&& (255 : Int32)) <<< ((0 : Int32) &&& 31)))])) _
    refine XS.ishl X22.here hx rfl (hb hby d22_56) rfl ?_
    refine XS.ior X22.here hx rfl (hb hby d22_57) rfl ?_
    refine XS.i2c X22.here hx rfl (hb hby d22_58) rfl ?_
    exact kt
  obtain ⟨fs, hr, hrun, hended, hW, hsame⟩ := X22.leave (v := some (.int (nar .char ((((b0 &&& (255 : Int32)) <<< ((0 : Int32) &&& 31)) ||| ((b1 &&& (255 : Int32)) <<< ((8 : Int32) &&& 31))).toUInt32.toUInt16.toUInt32.toInt32)))) (fun h => by rw [Bd.returns] at h; cases h)
  refine ⟨_, _, (pre0 _ (pre23 _ ?_)), hrun, hended, _, _, rfl, ?_, ⟨_, rfl⟩, hW, hsame.mono (by decide) (by decide)⟩
  · show Steps p.tables e below (T22.setTop (mkF m 59 #[.val (.ref t1), .val (.int (Int32.ofNat (2 * i + 1)))] [(.int ((((b0 &&& (255 : Int32)) <<< ((0 : Int32) &&& 31)) ||| ((b1 &&& (255 : Int32)) <<< ((8 : Int32) &&& 31))).toUInt32.toUInt16.toUInt32.toInt32))])) _
    exact retN X22 hx (t := .char) Bd.returns (by simp) (hb hby d22_59) hr
  · show QGetC Z t1 kb n vb i b0 b1 h0 n0 _ T22.heap _
    rw [e22]
    exact ⟨rfl, N0, rfl⟩
theorem ef_PutC (m : MethodId) (x0 : Addr) (x1 : Int32) (x2 : Int32) : entryFrame m #[(.ref x0), (.int x1), (.int x2)] 3 = mkF m 0 #[.val (.ref x0), .val (.int x1), .val (.int x2)] [] := by (first | (simp [entryFrame, mkF, argsToLocals, Value.category]; done) | rfl)
def QPutC (Z : State) (t1 : Addr) (kb : ClassId) (n : Nat) (vb : List Value) (i : Nat) (p1 : Int32) (h0 : Heap) (n0 : Nat) (v : Option Value) (h : Heap) (L : List Loc) : Prop := v = none ∧ Fr n0 L ∧ Keep h0 h [t1] ∧ Arv Z h t1 kb .byte (Int32.ofNat (2 * n)) ((vb.set (2 * i) (.int (nar .byte ((p1 >>> ((0 : Int32) &&& 31)).toInt8.toInt32)))).set (2 * i + 1) (.int (nar .byte ((p1 >>> ((8 : Int32) &&& 31)).toInt8.toInt32)))) (.int (0 : Int32))
theorem d21_0 : decode jdk_52_method_4_code 0 = .ok (.getstatic 44, 3) := by decide +kernel
theorem d21_3 : decode jdk_52_method_4_code 3 = .ok (.ifCond .ne 25, 3) := by decide +kernel
theorem d21_28 : decode jdk_52_method_4_code 28 = .ok (.iload_n 1, 1) := by decide +kernel
theorem d21_29 : decode jdk_52_method_4_code 29 = .ok (.iconst 1, 1) := by decide +kernel
theorem d21_30 : decode jdk_52_method_4_code 30 = .ok (.ishl, 1) := by decide +kernel
theorem d21_31 : decode jdk_52_method_4_code 31 = .ok (.istore_n 1, 1) := by decide +kernel
theorem d21_32 : decode jdk_52_method_4_code 32 = .ok (.aload_n 0, 1) := by decide +kernel
theorem d21_33 : decode jdk_52_method_4_code 33 = .ok (.iload_n 1, 1) := by decide +kernel
theorem d21_34 : decode jdk_52_method_4_code 34 = .ok (.iinc 1 1, 3) := by decide +kernel
theorem d21_37 : decode jdk_52_method_4_code 37 = .ok (.iload_n 2, 1) := by decide +kernel
theorem d21_38 : decode jdk_52_method_4_code 38 = .ok (.getstatic 59, 3) := by decide +kernel
theorem d21_41 : decode jdk_52_method_4_code 41 = .ok (.ishr, 1) := by decide +kernel
theorem d21_42 : decode jdk_52_method_4_code 42 = .ok (.i2b, 1) := by decide +kernel
theorem d21_43 : decode jdk_52_method_4_code 43 = .ok (.bastore, 1) := by decide +kernel
theorem d21_44 : decode jdk_52_method_4_code 44 = .ok (.aload_n 0, 1) := by decide +kernel
theorem d21_45 : decode jdk_52_method_4_code 45 = .ok (.iload_n 1, 1) := by decide +kernel
theorem d21_46 : decode jdk_52_method_4_code 46 = .ok (.iload_n 2, 1) := by decide +kernel
theorem d21_47 : decode jdk_52_method_4_code 47 = .ok (.getstatic 63, 3) := by decide +kernel
theorem d21_50 : decode jdk_52_method_4_code 50 = .ok (.ishr, 1) := by decide +kernel
theorem d21_51 : decode jdk_52_method_4_code 51 = .ok (.i2b, 1) := by decide +kernel
theorem d21_52 : decode jdk_52_method_4_code 52 = .ok (.bastore, 1) := by decide +kernel
theorem d21_53 : decode jdk_52_method_4_code 53 = .ok (.return_, 1) := by decide +kernel
set_option maxRecDepth 65536 in
set_option maxHeartbeats 40000000 in
theorem rmPutC (l : Launch) (Z : State) (a0 : Array Value) (hw : ∀ d ∈ tables_1, d.before a0 Z = true) (ws : List Jvm.Cond) (t1 : Addr) (kb : ClassId) (n : Nat) (vb : List Value) (i : Nat) (p1 : Int32) (h0 : Heap) (n0 : Nat) (Z0 : n0 ≤ h0.size) (SA : Sta Z h0 "java/lang/StringUTF16" "$assertionsDisabled" "Z" (.int (1 : Int32))) (SH : Sta Z h0 "java/lang/StringUTF16" "HI_BYTE_SHIFT" "I" (.int (0 : Int32))) (SL : Sta Z h0 "java/lang/StringUTF16" "LO_BYTE_SHIFT" "I" (.int (8 : Int32))) (KA : Arv Z h0 t1 kb .byte (Int32.ofNat (2 * n)) vb (.int (0 : Int32))) (hn : n < 1000) (hi : i < n) (hvl : vb.length = 2 * n) (g_t1 : n0 ≤ t1) :
    MetFree l (⟨"java/lang/StringUTF16", "putChar", "([BII)V"⟩ : MethodName) (head1 (Jvm.Cond.code (⟨"java/lang/StringUTF16", "putChar", "([BII)V"⟩ : MethodName) jdk_52_method_4_code 3 none :: ws) ({ frames := 0, cells := 0, slots := 0, locals := 0 } : Room)) (fun a U => a = #[(.ref t1), (.int (Int32.ofNat i)), (.int p1)] ∧ Z.Warmed39 U.vm ∧ U.heap = h0) (fun _ _ _ _ _ => True) (fun _ U o U' => ∃ v L, o = .returned v ∧ QPutC Z t1 kb n vb i p1 h0 n0 v U'.heap L ∧ FrameEnd U o U' L ({ frames := 0, cells := 0, slots := 0, locals := 0 } : Room).cells ({ frames := 0, cells := 0, slots := 0, locals := 0 } : Room).slots) := by
  refine MetFree.of_bodySF (plainFor_of_name pn_java_lang_StringUTF16) hisR ?_
  intro p e s m args below meth c s₁ Bd hml0 hP hK
  obtain ⟨rfl, hZ, hh⟩ := hP
  have hx := Bd.exec
  have hby := Bd.bytes
  have hml : c.maxLocals = 3 := hml0
  have hown : s.vm.findClass "java/lang/StringUTF16" = some m.cls := findClass_of_methodNamed Bd.named
  have hnm := (name_of_methodNamed Bd.named Bd.method).1
  have X0 : Stand p l e ({ frames := 0, cells := 0, slots := 0, locals := 0 } : Room) s m #[(.ref t1), (.int (Int32.ofNat i)), (.int p1)] below meth c s₁ [] 0 0 := Stand.of_body Bd
  have e0 : s₁.heap = h0 := by rw [← hh, Bd.state]; rfl
  have N0 := Fr.nil n0
  have pre0 : ∀ t, Steps p.tables e below (s₁.setTop (mkF m 0 #[.val (.ref t1), .val (.int (Int32.ofNat i)), .val (.int p1)] [])) t → Steps p.tables e below (s₁.setTop (entryFrame m #[(.ref t1), (.int (Int32.ofNat i)), (.int p1)] 3)) t := fun t k => castTop (ef_PutC m t1 (Int32.ofNat i) p1) k
  have mem_t1 : t1 ∈ [t1] := List.mem_of_getElem? (i := 0) rfl
  obtain ⟨T24, X24, e24, st24⟩ := getS2 X0 hx hZ hown (host := "") (Or.inl (tw hw 94 rfl)) Via.refl e0 SA (g := (mkF m 0 #[.val (.ref t1), .val (.int (Int32.ofNat i)), .val (.int p1)] [])) rfl (hb hby d21_0)
  obtain ⟨T25, X25, e25, st25⟩ := getS2 X24 hx hZ hown (host := "") (Or.inl (tw hw 95 rfl)) Via.refl e24 SH (g := (mkF m 38 #[.val (.ref t1), .val (.int (Int32.ofNat (2 * i + 1))), .val (.int p1)] [(.int p1), (.int (Int32.ofNat (2 * i))), (.ref t1)])) rfl (hb hby d21_38)
  obtain ⟨c26, Ar26, q26, S26, M26, H26, G26⟩ := id KA
  have hin26 : ¬ ((Int32.ofNat (2 * i)) < 0 ∨ c26.slots.size ≤ ((Int32.ofNat (2 * i))).toNatClampNeg) := inb_of S26 ⟨own_nn (by omega), by rw [own_lt (by omega) (by omega)]; omega⟩
  obtain ⟨T27, h27, X27, e27, W27, st27⟩ := stB X25 hx hZ e25 Ar26 (j := (Int32.ofNat (2 * i))) hin26 (g := (mkF m 43 #[.val (.ref t1), .val (.int (Int32.ofNat (2 * i + 1))), .val (.int p1)] [(.int ((p1 >>> ((0 : Int32) &&& 31)).toInt8.toInt32)), (.int (Int32.ofNat (2 * i))), (.ref t1)])) rfl rfl (hb hby d21_43)
  have N27 := Fr.snoc X27 N0 g_t1
  have K27 := (Keep.refl h0 [t1]).wr W27 (Or.inl mem_t1)
  have V27 := Arv.set Ar26 q26 S26 M26 H26 G26 (fits_nar_byte _) W27 (2 * i) (own_nc (by omega)) (by rw [hvl]; omega)
  have f28 := (SL.wr W27)
  obtain ⟨T29, X29, e29, st29⟩ := getS2 X27 hx hZ hown (host := "") (Or.inl (tw hw 96 rfl)) Via.refl e27 f28 (g := (mkF m 47 #[.val (.ref t1), .val (.int (Int32.ofNat (2 * i + 1))), .val (.int p1)] [(.int p1), (.int (Int32.ofNat (2 * i + 1))), (.ref t1)])) rfl (hb hby d21_47)
  obtain ⟨c30, Ar30, q30, S30, M30, H30, G30⟩ := id V27
  have hin30 : ¬ ((Int32.ofNat (2 * i + 1)) < 0 ∨ c30.slots.size ≤ ((Int32.ofNat (2 * i + 1))).toNatClampNeg) := inb_of S30 ⟨own_nn (by omega), by rw [own_lt (by omega) (by omega)]; omega⟩
  obtain ⟨T31, h31, X31, e31, W31, st31⟩ := stB X29 hx hZ e29 Ar30 (j := (Int32.ofNat (2 * i + 1))) hin30 (g := (mkF m 52 #[.val (.ref t1), .val (.int (Int32.ofNat (2 * i + 1))), .val (.int p1)] [(.int ((p1 >>> ((8 : Int32) &&& 31)).toInt8.toInt32)), (.int (Int32.ofNat (2 * i + 1))), (.ref t1)])) rfl rfl (hb hby d21_52)
  have N31 := Fr.snoc X31 N27 g_t1
  have K31 := K27.wr W31 (Or.inl mem_t1)
  have V31 := Arv.set Ar30 q30 S30 M30 H30 G30 (fits_nar_byte _) W31 (2 * i + 1) (own_nc (by omega)) (by rw [List.length_set, hvl]; omega)
  have pre32 : ∀ t, Steps p.tables e below (T31.setTop (mkF m 53 #[.val (.ref t1), .val (.int (Int32.ofNat (2 * i + 1))), .val (.int p1)] [])) t → Steps p.tables e below (s₁.setTop (mkF m 0 #[.val (.ref t1), .val (.int (Int32.ofNat i)), .val (.int p1)] [])) t := by
    intro t kt
    refine st24 _ ?_
    refine XS.ifYes X24.here hx rfl (pc0 := 3) (pc' := 28) rfl (hb hby d21_3) rfl ((if0 _ _).trans (feq (by decide : ¬ ((1 : Int32) = (0 : Int32)))).2) (by decide) (by decide) ?_
    show Steps p.tables e below (T24.setTop (mkF m 28 #[.val (.ref t1), .val (.int (Int32.ofNat i)), .val (.int p1)] [])) _
    refine XS.iloadN X24.here hx rfl (hb hby d21_28) rfl ?_
    refine XS.iconst X24.here hx rfl (hb hby d21_29) ?_
    refine XS.ishl X24.here hx rfl (hb hby d21_30) rfl ?_
    show Steps p.tables e below (T24.setTop (mkF m 31 #[.val (.ref t1), .val (.int (Int32.ofNat i)), .val (.int p1)] [(.int ((Int32.ofNat i) <<< ((1 : Int32) &&& 31)))])) _
    rw [own_shl (show i < 1000 by omega)]
    show Steps p.tables e below (T24.setTop (mkF m 31 #[.val (.ref t1), .val (.int (Int32.ofNat i)), .val (.int p1)] [(.int (Int32.ofNat (2 * i)))])) _
    refine XS.istoreN X24.here hx rfl (hb hby d21_31) rfl (l' := #[.val (.ref t1), .val (.int (Int32.ofNat (2 * i))), .val (.int p1)]) rfl ?_
    refine XS.aloadN X24.here hx rfl (hb hby d21_32) rfl rfl ?_
    refine XS.iloadN X24.here hx rfl (hb hby d21_33) rfl ?_
    refine XS.iinc X24.here hx rfl (hb hby d21_34) rfl (l' := #[.val (.ref t1), .val (.int ((Int32.ofNat (2 * i)) + (1 : Int32))), .val (.int p1)]) rfl ?_
    show Steps p.tables e below (T24.setTop (mkF m 37 #[.val (.ref t1), .val (.int ((Int32.ofNat (2 * i)) + (1 : Int32))), .val (.int p1)] [(.int (Int32.ofNat (2 * i))), (.ref t1)])) _
    rw [show Int32.ofNat (2 * i) + (1 : Int32) = Int32.ofNat (2 * i + 1) from own_add _ 1]
    show Steps p.tables e below (T24.setTop (mkF m 37 #[.val (.ref t1), .val (.int (Int32.ofNat (2 * i + 1))), .val (.int p1)] [(.int (Int32.ofNat (2 * i))), (.ref t1)])) _
    refine XS.iloadN X24.here hx rfl (hb hby d21_37) rfl ?_
    refine st25 _ ?_
    show Steps p.tables e below (T25.setTop (mkF m 41 #[.val (.ref t1), .val (.int (Int32.ofNat (2 * i + 1))), .val (.int p1)] [(.int (0 : Int32)), (.int p1), (.int (Int32.ofNat (2 * i))), (.ref t1)])) _
    refine XS.ishr X25.here hx rfl (hb hby d21_41) rfl ?_
    refine XS.i2b X25.here hx rfl (hb hby d21_42) rfl ?_
    show Steps p.tables e below (T25.setTop (mkF m 43 #[.val (.ref t1), .val (.int (Int32.ofNat (2 * i + 1))), .val (.int p1)] [(.int ((p1 >>> ((0 : Int32) &&& 31)).toInt8.toInt32)), (.int (Int32.ofNat (2 * i))), (.ref t1)])) _
    refine st27 _ ?_
    show Steps p.tables e below (T27.setTop (mkF m 44 #[.val (.ref t1), .val (.int (Int32.ofNat (2 * i + 1))), .val (.int p1)] [])) _
    refine XS.aloadN X27.here hx rfl (hb hby d21_44) rfl rfl ?_
    refine XS.iloadN X27.here hx rfl (hb hby d21_45) rfl ?_
    refine XS.iloadN X27.here hx rfl (hb hby d21_46) rfl ?_
    refine st29 _ ?_
    show Steps p.tables e below (T29.setTop (mkF m 50 #[.val (.ref t1), .val (.int (Int32.ofNat (2 * i + 1))), .val (.int p1)] [(.int (8 : Int32)), (.int p1), (.int (Int32.ofNat (2 * i + 1))), (.ref t1)])) _
    refine XS.ishr X29.here hx rfl (hb hby d21_50) rfl ?_
    refine XS.i2b X29.here hx rfl (hb hby d21_51) rfl ?_
    show Steps p.tables e below (T29.setTop (mkF m 52 #[.val (.ref t1), .val (.int (Int32.ofNat (2 * i + 1))), .val (.int p1)] [(.int ((p1 >>> ((8 : Int32) &&& 31)).toInt8.toInt32)), (.int (Int32.ofNat (2 * i + 1))), (.ref t1)])) _
    refine st31 _ ?_
    exact kt
  obtain ⟨fs, hr, hrun, hended, hW, hsame⟩ := X31.leave (v := none) (fun _ => rfl)
  refine ⟨_, _, (pre0 _ (pre32 _ ?_)), hrun, hended, _, _, rfl, ?_, ⟨_, rfl⟩, hW, hsame.mono (by decide) (by decide)⟩
  · show Steps p.tables e below (T31.setTop (mkF m 53 #[.val (.ref t1), .val (.int (Int32.ofNat (2 * i + 1))), .val (.int p1)] [])) _
    exact X31.returnOut hx Bd.returns (hb hby d21_53) hr
  · show QPutC Z t1 kb n vb i p1 h0 n0 _ T31.heap _
    rw [e31]
    exact ⟨rfl, N31, K31, V31⟩
theorem ef_UCk (m : MethodId) (x0 : Int32) (x1 : Addr) : entryFrame m #[(.int x0), (.ref x1)] 2 = mkF m 0 #[.val (.int x0), .val (.ref x1)] [] := by (first | (simp [entryFrame, mkF, argsToLocals, Value.category]; done) | rfl)
def QUCk (Z : State) (t1 : Addr) (kb : ClassId) (n : Nat) (vb : List Value) (i : Nat) (fm : Value) (h0 : Heap) (n0 : Nat) (v : Option Value) (h : Heap) (L : List Loc) : Prop := v = none ∧ Fr n0 L ∧ h = h0
theorem d24_0 : decode jdk_52_method_91_code 0 = .ok (.iload_n 0, 1) := by decide +kernel
theorem d24_1 : decode jdk_52_method_91_code 1 = .ok (.aload_n 1, 1) := by decide +kernel
theorem d24_2 : decode jdk_52_method_91_code 2 = .ok (.invokestatic 48, 3) := by decide +kernel
theorem pd___B_I : parseMethodDescriptor "([B)I" = some ⟨[(.array .byte)], some .int⟩ := by decide +kernel
theorem d24_5 : decode jdk_52_method_91_code 5 = .ok (.invokestatic 414, 3) := by decide +kernel
theorem d24_8 : decode jdk_52_method_91_code 8 = .ok (.return_, 1) := by decide +kernel
set_option maxRecDepth 65536 in
set_option maxHeartbeats 40000000 in
theorem rmUCk (l : Launch) (Z : State) (a0 : Array Value) (hw : ∀ d ∈ tables_1, d.before a0 Z = true) (ws : List Jvm.Cond) (t1 : Addr) (kb : ClassId) (n : Nat) (vb : List Value) (i : Nat) (fm : Value) (h0 : Heap) (n0 : Nat) (Z0 : n0 ≤ h0.size) (SFm : Sta Z h0 "jdk/internal/util/Preconditions" "SIOOBE_FORMATTER" "Ljava/util/function/BiFunction;" fm) (rf : fm.isRef = true) (KA : Arv Z h0 t1 kb .byte (Int32.ofNat (2 * n)) vb (.int (0 : Int32))) (hn : n < 1000) (hi : i < n) :
    MetFree l (⟨"java/lang/StringUTF16", "checkIndex", "(I[B)V"⟩ : MethodName) (head1 (Jvm.Cond.code (⟨"java/lang/StringUTF16", "checkIndex", "(I[B)V"⟩ : MethodName) jdk_52_method_91_code 2 none :: ws) ({ frames := 2, cells := 0, slots := 0, locals := 27 } : Room)) (fun a U => a = #[(.int (Int32.ofNat i)), (.ref t1)] ∧ Z.Warmed39 U.vm ∧ U.heap = h0) (fun _ _ _ _ _ => True) (fun _ U o U' => ∃ v L, o = .returned v ∧ QUCk Z t1 kb n vb i fm h0 n0 v U'.heap L ∧ FrameEnd U o U' L ({ frames := 2, cells := 0, slots := 0, locals := 27 } : Room).cells ({ frames := 2, cells := 0, slots := 0, locals := 27 } : Room).slots) := by
  refine MetFree.of_bodySF (plainFor_of_name pn_java_lang_StringUTF16) hisR ?_
  intro p e s m args below meth c s₁ Bd hml0 hP hK
  obtain ⟨rfl, hZ, hh⟩ := hP
  have hx := Bd.exec
  have hby := Bd.bytes
  have hml : c.maxLocals = 2 := hml0
  have hown : s.vm.findClass "java/lang/StringUTF16" = some m.cls := findClass_of_methodNamed Bd.named
  have hnm := (name_of_methodNamed Bd.named Bd.method).1
  have X0 : Stand p l e ({ frames := 2, cells := 0, slots := 0, locals := 27 } : Room) s m #[(.int (Int32.ofNat i)), (.ref t1)] below meth c s₁ [] 0 0 := Stand.of_body Bd
  have e0 : s₁.heap = h0 := by rw [← hh, Bd.state]; rfl
  have N0 := Fr.nil n0
  have pre0 : ∀ t, Steps p.tables e below (s₁.setTop (mkF m 0 #[.val (.int (Int32.ofNat i)), .val (.ref t1)] [])) t → Steps p.tables e below (s₁.setTop (entryFrame m #[(.int (Int32.ofNat i)), (.ref t1)] 2)) t := fun t k => castTop (ef_UCk m (Int32.ofNat i) t1) k
  obtain ⟨_, _, ⟨T33, L33, k33, n33⟩, -, X33, ⟨Lc33, hQ33, l33, y33, z33⟩, st33⟩ := Jvm.LawKit.callS X0 hx (y := (⟨"java/lang/StringUTF16", "length", "([B)I"⟩ : MethodName)) hown (mvT hZ (tw hw 106 rfl)) (mvT hZ (tw hw 107 rfl)) (mvT hZ (tw hw 45 rfl)) (mvT hZ (tw hw 108 rfl)) (by decide) (backOf (W := 1) (rmULen l Z a0 hw [] t1 kb n vb h0 n0 Z0 KA hn) hZ (tw hw 108 rfl) (tw hw 45 rfl) (by decide) (by decide)) (g := (mkF m 2 #[.val (.int (Int32.ofNat i)), .val (.ref t1)] [(.ref t1), (.int (Int32.ofNat i))])) rfl (by rw [hml]; rfl) (argsL := [(.ref t1)]) (rest := [(.int (Int32.ofNat i))]) (lenOf pd___B_I rfl) rfl (by show 2 * 0 + _ ≤ _; exact Nat.le_of_eq rfl) (hb hby d24_2) (fun _ _ => ⟨rfl, e0, (by decide : 0 + 0 ≤ _), (by decide : 0 + 0 ≤ _)⟩)
  dsimp only [Pt.U, Pt.locs, Pt.cells, Pt.slots] at X33 l33 y33 z33 st33 hQ33
  subst l33 y33 z33
  obtain ⟨rfl, N33q, EQ33⟩ := hQ33
  have N33 := Fr.app N0 N33q
  have Z33 : n0 ≤ T33.heap.size := by rw [EQ33]; exact Z0
  have f34 := (EQ33 ▸ SFm)
  obtain ⟨_, _, ⟨T35, L35, k35, n35⟩, -, X35, ⟨Lc35, hQ35, l35, y35, z35⟩, st35⟩ := Jvm.LawKit.callS X33 hx (y := (⟨"java/lang/String", "checkIndex", "(II)V"⟩ : MethodName)) hown (mvT hZ (tw hw 109 rfl)) (mvT hZ (tw hw 71 rfl)) (mvT hZ (tw hw 8 rfl)) (mvT hZ (tw hw 72 rfl)) (by decide) (backOf (W := 0) (rmSCk l Z a0 hw [] (Int32.ofNat i) (Int32.ofNat n) fm T33.heap n0 Z33 f34 rf (own_nn (by omega)) (by rw [own_lt (by omega) (by omega)]; exact hi)) hZ (tw hw 72 rfl) (tw hw 8 rfl) (by decide) (by decide)) (g := (mkF m 5 #[.val (.int (Int32.ofNat i)), .val (.ref t1)] [(.int (Int32.ofNat n)), (.int (Int32.ofNat i))])) rfl (by rw [hml]; rfl) (argsL := [(.int (Int32.ofNat i)), (.int (Int32.ofNat n))]) (rest := []) (lenOf pd__II_V rfl) rfl (by show 2 * 0 + _ ≤ _; exact Nat.le_of_eq rfl) (hb hby d24_5) (fun _ _ => ⟨rfl, rfl, (by decide : 0 + 0 ≤ _), (by decide : 0 + 0 ≤ _)⟩)
  dsimp only [Pt.U, Pt.locs, Pt.cells, Pt.slots] at X35 l35 y35 z35 st35 hQ35
  subst l35 y35 z35
  obtain ⟨rfl, N35q, EQ35⟩ := hQ35
  have N35 := Fr.app N33 N35q
  have pre36 : ∀ t, Steps p.tables e below (T35.setTop (mkF m 8 #[.val (.int (Int32.ofNat i)), .val (.ref t1)] [])) t → Steps p.tables e below (s₁.setTop (mkF m 0 #[.val (.int (Int32.ofNat i)), .val (.ref t1)] [])) t := by
    intro t kt
    show Steps p.tables e below (s₁.setTop (mkF m 0 #[.val (.int (Int32.ofNat i)), .val (.ref t1)] [])) _
    refine XS.iloadN X0.here hx rfl (hb hby d24_0) rfl ?_
    refine XS.aloadN X0.here hx rfl (hb hby d24_1) rfl rfl ?_
    refine st33 _ ?_
    refine st35 _ ?_
    exact kt
  obtain ⟨fs, hr, hrun, hended, hW, hsame⟩ := X35.leave (v := none) (fun _ => rfl)
  refine ⟨_, _, (pre0 _ (pre36 _ ?_)), hrun, hended, _, _, rfl, ?_, ⟨_, rfl⟩, hW, hsame.mono (by decide) (by decide)⟩
  · show Steps p.tables e below (T35.setTop (mkF m 8 #[.val (.int (Int32.ofNat i)), .val (.ref t1)] [])) _
    exact X35.returnOut hx Bd.returns (hb hby d24_8) hr
  · show QUCk Z t1 kb n vb i fm h0 n0 _ T35.heap _
    exact ⟨rfl, N35, by rw [EQ35, EQ33]⟩
theorem ef_UCh (m : MethodId) (x0 : Addr) (x1 : Int32) : entryFrame m #[(.ref x0), (.int x1)] 2 = mkF m 0 #[.val (.ref x0), .val (.int x1)] [] := by (first | (simp [entryFrame, mkF, argsToLocals, Value.category]; done) | rfl)
def QUCh (Z : State) (t1 : Addr) (kb : ClassId) (n : Nat) (vb : List Value) (i : Nat) (b0 : Int32) (b1 : Int32) (fm : Value) (h0 : Heap) (n0 : Nat) (v : Option Value) (h : Heap) (L : List Loc) : Prop := v = some (.int (nar .char (nar .char ((((b0 &&& (255 : Int32)) <<< ((0 : Int32) &&& 31)) ||| ((b1 &&& (255 : Int32)) <<< ((8 : Int32) &&& 31))).toUInt32.toUInt16.toUInt32.toInt32)))) ∧ Fr n0 L ∧ h = h0
theorem d23_0 : decode jdk_52_method_83_code 0 = .ok (.iload_n 1, 1) := by decide +kernel
theorem d23_1 : decode jdk_52_method_83_code 1 = .ok (.aload_n 0, 1) := by decide +kernel
theorem d23_2 : decode jdk_52_method_83_code 2 = .ok (.invokestatic 67, 3) := by decide +kernel
theorem pd__I_B_V : parseMethodDescriptor "(I[B)V" = some ⟨[.int, (.array .byte)], none⟩ := by decide +kernel
theorem d23_5 : decode jdk_52_method_83_code 5 = .ok (.aload_n 0, 1) := by decide +kernel
theorem d23_6 : decode jdk_52_method_83_code 6 = .ok (.iload_n 1, 1) := by decide +kernel
theorem d23_7 : decode jdk_52_method_83_code 7 = .ok (.invokestatic 71, 3) := by decide +kernel
theorem pd___BI_C : parseMethodDescriptor "([BI)C" = some ⟨[(.array .byte), .int], some .char⟩ := by decide +kernel
theorem d23_10 : decode jdk_52_method_83_code 10 = .ok (.ireturn, 1) := by decide +kernel
set_option maxRecDepth 65536 in
set_option maxHeartbeats 40000000 in
theorem rmUCh (l : Launch) (Z : State) (a0 : Array Value) (hw : ∀ d ∈ tables_1, d.before a0 Z = true) (ws : List Jvm.Cond) (t1 : Addr) (kb : ClassId) (n : Nat) (vb : List Value) (i : Nat) (b0 : Int32) (b1 : Int32) (fm : Value) (h0 : Heap) (n0 : Nat) (Z0 : n0 ≤ h0.size) (SFm : Sta Z h0 "jdk/internal/util/Preconditions" "SIOOBE_FORMATTER" "Ljava/util/function/BiFunction;" fm) (rf : fm.isRef = true) (SA : Sta Z h0 "java/lang/StringUTF16" "$assertionsDisabled" "Z" (.int (1 : Int32))) (SH : Sta Z h0 "java/lang/StringUTF16" "HI_BYTE_SHIFT" "I" (.int (0 : Int32))) (SL : Sta Z h0 "java/lang/StringUTF16" "LO_BYTE_SHIFT" "I" (.int (8 : Int32))) (KA : Arv Z h0 t1 kb .byte (Int32.ofNat (2 * n)) vb (.int (0 : Int32))) (hn : n < 1000) (hi : i < n) (hb0 : vb.getD (2 * i) (.int (0 : Int32)) = .int b0) (hb1 : vb.getD (2 * i + 1) (.int (0 : Int32)) = .int b1) :
    MetFree l (⟨"java/lang/StringUTF16", "charAt", "([BI)C"⟩ : MethodName) (head1 (Jvm.Cond.code (⟨"java/lang/StringUTF16", "charAt", "([BI)C"⟩ : MethodName) jdk_52_method_83_code 2 (some .char) :: ws) ({ frames := 3, cells := 0, slots := 0, locals := 40 } : Room)) (fun a U => a = #[(.ref t1), (.int (Int32.ofNat i))] ∧ Z.Warmed39 U.vm ∧ U.heap = h0) (fun _ _ _ _ _ => True) (fun _ U o U' => ∃ v L, o = .returned v ∧ QUCh Z t1 kb n vb i b0 b1 fm h0 n0 v U'.heap L ∧ FrameEnd U o U' L ({ frames := 3, cells := 0, slots := 0, locals := 40 } : Room).cells ({ frames := 3, cells := 0, slots := 0, locals := 40 } : Room).slots) := by
  refine MetFree.of_bodySF (plainFor_of_name pn_java_lang_StringUTF16) hisR ?_
  intro p e s m args below meth c s₁ Bd hml0 hP hK
  obtain ⟨rfl, hZ, hh⟩ := hP
  have hx := Bd.exec
  have hby := Bd.bytes
  have hml : c.maxLocals = 2 := hml0
  have hown : s.vm.findClass "java/lang/StringUTF16" = some m.cls := findClass_of_methodNamed Bd.named
  have hnm := (name_of_methodNamed Bd.named Bd.method).1
  have X0 : Stand p l e ({ frames := 3, cells := 0, slots := 0, locals := 40 } : Room) s m #[(.ref t1), (.int (Int32.ofNat i))] below meth c s₁ [] 0 0 := Stand.of_body Bd
  have e0 : s₁.heap = h0 := by rw [← hh, Bd.state]; rfl
  have N0 := Fr.nil n0
  have pre0 : ∀ t, Steps p.tables e below (s₁.setTop (mkF m 0 #[.val (.ref t1), .val (.int (Int32.ofNat i))] [])) t → Steps p.tables e below (s₁.setTop (entryFrame m #[(.ref t1), (.int (Int32.ofNat i))] 2)) t := fun t k => castTop (ef_UCh m t1 (Int32.ofNat i)) k
  obtain ⟨_, _, ⟨T37, L37, k37, n37⟩, -, X37, ⟨Lc37, hQ37, l37, y37, z37⟩, st37⟩ := Jvm.LawKit.callS X0 hx (y := (⟨"java/lang/StringUTF16", "checkIndex", "(I[B)V"⟩ : MethodName)) hown (mvT hZ (tw hw 103 rfl)) (mvT hZ (tw hw 104 rfl)) (mvT hZ (tw hw 45 rfl)) (mvT hZ (tw hw 105 rfl)) (by decide) (backOf (W := 0) (rmUCk l Z a0 hw [] t1 kb n vb i fm h0 n0 Z0 SFm rf KA hn hi) hZ (tw hw 105 rfl) (tw hw 45 rfl) (by decide) (by decide)) (g := (mkF m 2 #[.val (.ref t1), .val (.int (Int32.ofNat i))] [(.ref t1), (.int (Int32.ofNat i))])) rfl (by rw [hml]; rfl) (argsL := [(.int (Int32.ofNat i)), (.ref t1)]) (rest := []) (lenOf pd__I_B_V rfl) rfl (by show 2 * 0 + _ ≤ _; exact Nat.le_of_eq rfl) (hb hby d23_2) (fun _ _ => ⟨rfl, e0, (by decide : 0 + 0 ≤ _), (by decide : 0 + 0 ≤ _)⟩)
  dsimp only [Pt.U, Pt.locs, Pt.cells, Pt.slots] at X37 l37 y37 z37 st37 hQ37
  subst l37 y37 z37
  obtain ⟨rfl, N37q, EQ37⟩ := hQ37
  have N37 := Fr.app N0 N37q
  have Z37 : n0 ≤ T37.heap.size := by rw [EQ37]; exact Z0
  have f38 := (EQ37 ▸ SA)
  have f39 := (EQ37 ▸ SH)
  have f40 := (EQ37 ▸ SL)
  have f41 := (EQ37 ▸ KA)
  obtain ⟨_, _, ⟨T42, L42, k42, n42⟩, -, X42, ⟨Lc42, hQ42, l42, y42, z42⟩, st42⟩ := Jvm.LawKit.callS X37 hx (y := (⟨"java/lang/StringUTF16", "getChar", "([BI)C"⟩ : MethodName)) hown (mvT hZ (tw hw 97 rfl)) (mvT hZ (tw hw 98 rfl)) (mvT hZ (tw hw 45 rfl)) (mvT hZ (tw hw 99 rfl)) (by decide) (backOf (W := 0) (rmGetC l Z a0 hw [] t1 kb n vb i b0 b1 T37.heap n0 Z37 f38 f39 f40 f41 hn hi hb0 hb1) hZ (tw hw 99 rfl) (tw hw 45 rfl) (by decide) (by decide)) (g := (mkF m 7 #[.val (.ref t1), .val (.int (Int32.ofNat i))] [(.int (Int32.ofNat i)), (.ref t1)])) rfl (by rw [hml]; rfl) (argsL := [(.ref t1), (.int (Int32.ofNat i))]) (rest := []) (lenOf pd___BI_C rfl) rfl (by show 2 * 0 + _ ≤ _; exact Nat.le_of_eq rfl) (hb hby d23_7) (fun _ _ => ⟨rfl, rfl, (by decide : 0 + 0 ≤ _), (by decide : 0 + 0 ≤ _)⟩)
  dsimp only [Pt.U, Pt.locs, Pt.cells, Pt.slots] at X42 l42 y42 z42 st42 hQ42
  subst l42 y42 z42
  obtain ⟨rfl, N42q, EQ42⟩ := hQ42
  have N42 := Fr.app N37 N42q
  have pre43 : ∀ t, Steps p.tables e below (T42.setTop (mkF m 10 #[.val (.ref t1), .val (.int (Int32.ofNat i))] [(.int (nar .char ((((b0 &&& (255 : Int32)) <<< ((0 : Int32) &&& 31)) ||| ((b1 &&& (255 : Int32)) <<< ((8 : Int32) &&& 31))).toUInt32.toUInt16.toUInt32.toInt32)))])) t → Steps p.tables e below (s₁.setTop (mkF m 0 #[.val (.ref t1), .val (.int (Int32.ofNat i))] [])) t := by
    intro t kt
    show Steps p.tables e below (s₁.setTop (mkF m 0 #[.val (.ref t1), .val (.int (Int32.ofNat i))] [])) _
    refine XS.iloadN X0.here hx rfl (hb hby d23_0) rfl ?_
    refine XS.aloadN X0.here hx rfl (hb hby d23_1) rfl rfl ?_
    refine st37 _ ?_
    show Steps p.tables e below (T37.setTop (mkF m 5 #[.val (.ref t1), .val (.int (Int32.ofNat i))] [])) _
    refine XS.aloadN X37.here hx rfl (hb hby d23_5) rfl rfl ?_
    refine XS.iloadN X37.here hx rfl (hb hby d23_6) rfl ?_
    refine st42 _ ?_
    exact kt
  obtain ⟨fs, hr, hrun, hended, hW, hsame⟩ := X42.leave (v := some (.int (nar .char (nar .char ((((b0 &&& (255 : Int32)) <<< ((0 : Int32) &&& 31)) ||| ((b1 &&& (255 : Int32)) <<< ((8 : Int32) &&& 31))).toUInt32.toUInt16.toUInt32.toInt32))))) (fun h => by rw [Bd.returns] at h; cases h)
  refine ⟨_, _, (pre0 _ (pre43 _ ?_)), hrun, hended, _, _, rfl, ?_, ⟨_, rfl⟩, hW, hsame.mono (by decide) (by decide)⟩
  · show Steps p.tables e below (T42.setTop (mkF m 10 #[.val (.ref t1), .val (.int (Int32.ofNat i))] [(.int (nar .char ((((b0 &&& (255 : Int32)) <<< ((0 : Int32) &&& 31)) ||| ((b1 &&& (255 : Int32)) <<< ((8 : Int32) &&& 31))).toUInt32.toUInt16.toUInt32.toInt32)))])) _
    exact retN X42 hx (t := .char) Bd.returns (by simp) (hb hby d23_10) hr
  · show QUCh Z t1 kb n vb i b0 b1 fm h0 n0 _ T42.heap _
    exact ⟨rfl, N42, by rw [EQ42, EQ37]⟩
theorem ef_IsU (m : MethodId) (x0 : Addr) : entryFrame m #[(.ref x0)] 1 = mkF m 0 #[.val (.ref x0)] [] := by (first | (simp [entryFrame, mkF, argsToLocals, Value.category]; done) | rfl)
def QIsU (Z : State) (x1 : Addr) (zc : Int32) (h0 : Heap) (n0 : Nat) (v : Option Value) (h : Heap) (L : List Loc) : Prop := v = some (.int (0 : Int32)) ∧ Fr n0 L ∧ h = h0
theorem d13_17 : decode jdk_42_method_154_code 17 = .ok (.iconst 0, 1) := by decide +kernel
set_option maxRecDepth 65536 in
set_option maxHeartbeats 40000000 in
theorem rmIsU (l : Launch) (Z : State) (a0 : Array Value) (hw : ∀ d ∈ tables_1, d.before a0 Z = true) (ws : List Jvm.Cond) (x1 : Addr) (zc : Int32) (h0 : Heap) (n0 : Nat) (Z0 : n0 ≤ h0.size) (SC : Sta Z h0 "java/lang/String" "COMPACT_STRINGS" "Z" (.int zc)) (hzc : ¬ zc = (0 : Int32)) (FC : Fld Z h0 x1 "java/lang/String" "coder" "B" (.int (1 : Int32))) :
    MetFree l (⟨"java/lang/String", "isLatin1", "()Z"⟩ : MethodName) (head1 (Jvm.Cond.code (⟨"java/lang/String", "isLatin1", "()Z"⟩ : MethodName) jdk_42_method_154_code 1 (some .boolean) :: ws) ({ frames := 0, cells := 0, slots := 0, locals := 0 } : Room)) (fun a U => a = #[(.ref x1)] ∧ Z.Warmed39 U.vm ∧ U.heap = h0) (fun _ _ _ _ _ => True) (fun _ U o U' => ∃ v L, o = .returned v ∧ QIsU Z x1 zc h0 n0 v U'.heap L ∧ FrameEnd U o U' L ({ frames := 0, cells := 0, slots := 0, locals := 0 } : Room).cells ({ frames := 0, cells := 0, slots := 0, locals := 0 } : Room).slots) := by
  refine MetFree.of_bodySF (plainFor_of_name pn_java_lang_String) hisR ?_
  intro p e s m args below meth c s₁ Bd hml0 hP hK
  obtain ⟨rfl, hZ, hh⟩ := hP
  have hx := Bd.exec
  have hby := Bd.bytes
  have hml : c.maxLocals = 1 := hml0
  have hown : s.vm.findClass "java/lang/String" = some m.cls := findClass_of_methodNamed Bd.named
  have hnm := (name_of_methodNamed Bd.named Bd.method).1
  have X0 : Stand p l e ({ frames := 0, cells := 0, slots := 0, locals := 0 } : Room) s m #[(.ref x1)] below meth c s₁ [] 0 0 := Stand.of_body Bd
  have e0 : s₁.heap = h0 := by rw [← hh, Bd.state]; rfl
  have N0 := Fr.nil n0
  have pre0 : ∀ t, Steps p.tables e below (s₁.setTop (mkF m 0 #[.val (.ref x1)] [])) t → Steps p.tables e below (s₁.setTop (entryFrame m #[(.ref x1)] 1)) t := fun t k => castTop (ef_IsU m x1) k
  obtain ⟨T44, X44, e44, st44⟩ := getS2 X0 hx hZ hown (host := "") (Or.inl (tw hw 42 rfl)) Via.refl e0 SC (g := (mkF m 0 #[.val (.ref x1)] [])) rfl (hb hby d13_0)
  obtain ⟨T45, X45, e45, st45⟩ := getF X44 hx hZ hown (host := "") (Or.inl (tw hw 27 rfl)) Via.refl e44 FC (g := (mkF m 7 #[.val (.ref x1)] [(.ref x1)])) rfl rfl (hb hby d13_7)
  have pre46 : ∀ t, Steps p.tables e below (T45.setTop (mkF m 18 #[.val (.ref x1)] [(.int (0 : Int32))])) t → Steps p.tables e below (s₁.setTop (mkF m 0 #[.val (.ref x1)] [])) t := by
    intro t kt
    refine st44 _ ?_
    refine XS.ifNo X44.here hx rfl (hb hby d13_3) rfl ((if0 _ _).trans (feq (hzc : ¬ (zc = (0 : Int32)))).1) ?_
    show Steps p.tables e below (T44.setTop (mkF m 6 #[.val (.ref x1)] [])) _
    refine XS.aloadN X44.here hx rfl (hb hby d13_6) rfl rfl ?_
    refine st45 _ ?_
    refine XS.ifYes X45.here hx rfl (pc0 := 10) (pc' := 17) rfl (hb hby d13_10) rfl ((if0 _ _).trans (feq (by decide : ¬ ((1 : Int32) = (0 : Int32)))).2) (by decide) (by decide) ?_
    show Steps p.tables e below (T45.setTop (mkF m 17 #[.val (.ref x1)] [])) _
    refine XS.iconst X45.here hx rfl (hb hby d13_17) ?_
    exact kt
  obtain ⟨fs, hr, hrun, hended, hW, hsame⟩ := X45.leave (v := some (.int (0 : Int32))) (fun h => by rw [Bd.returns] at h; cases h)
  refine ⟨_, _, (pre0 _ (pre46 _ ?_)), hrun, hended, _, _, rfl, ?_, ⟨_, rfl⟩, hW, hsame.mono (by decide) (by decide)⟩
  · show Steps p.tables e below (T45.setTop (mkF m 18 #[.val (.ref x1)] [(.int (0 : Int32))])) _
    exact retN X45 hx (t := .boolean) Bd.returns (by simp) (hb hby d13_18) hr
  · show QIsU Z x1 zc h0 n0 _ T45.heap _
    rw [e45]
    exact ⟨rfl, N0, rfl⟩
theorem ef_CodU (m : MethodId) (x0 : Addr) : entryFrame m #[(.ref x0)] 1 = mkF m 0 #[.val (.ref x0)] [] := by (first | (simp [entryFrame, mkF, argsToLocals, Value.category]; done) | rfl)
def QCodU (Z : State) (x1 : Addr) (zc : Int32) (h0 : Heap) (n0 : Nat) (v : Option Value) (h : Heap) (L : List Loc) : Prop := v = some (.int (1 : Int32)) ∧ Fr n0 L ∧ h = h0
set_option maxRecDepth 65536 in
set_option maxHeartbeats 40000000 in
theorem rmCodU (l : Launch) (Z : State) (a0 : Array Value) (hw : ∀ d ∈ tables_1, d.before a0 Z = true) (ws : List Jvm.Cond) (x1 : Addr) (zc : Int32) (h0 : Heap) (n0 : Nat) (Z0 : n0 ≤ h0.size) (SC : Sta Z h0 "java/lang/String" "COMPACT_STRINGS" "Z" (.int zc)) (hzc : ¬ zc = (0 : Int32)) (FC : Fld Z h0 x1 "java/lang/String" "coder" "B" (.int (1 : Int32))) :
    MetFree l (⟨"java/lang/String", "coder", "()B"⟩ : MethodName) (head1 (Jvm.Cond.code (⟨"java/lang/String", "coder", "()B"⟩ : MethodName) jdk_42_method_152_code 1 (some .byte) :: ws) ({ frames := 0, cells := 0, slots := 0, locals := 0 } : Room)) (fun a U => a = #[(.ref x1)] ∧ Z.Warmed39 U.vm ∧ U.heap = h0) (fun _ _ _ _ _ => True) (fun _ U o U' => ∃ v L, o = .returned v ∧ QCodU Z x1 zc h0 n0 v U'.heap L ∧ FrameEnd U o U' L ({ frames := 0, cells := 0, slots := 0, locals := 0 } : Room).cells ({ frames := 0, cells := 0, slots := 0, locals := 0 } : Room).slots) := by
  refine MetFree.of_bodySF (plainFor_of_name pn_java_lang_String) hisR ?_
  intro p e s m args below meth c s₁ Bd hml0 hP hK
  obtain ⟨rfl, hZ, hh⟩ := hP
  have hx := Bd.exec
  have hby := Bd.bytes
  have hml : c.maxLocals = 1 := hml0
  have hown : s.vm.findClass "java/lang/String" = some m.cls := findClass_of_methodNamed Bd.named
  have hnm := (name_of_methodNamed Bd.named Bd.method).1
  have X0 : Stand p l e ({ frames := 0, cells := 0, slots := 0, locals := 0 } : Room) s m #[(.ref x1)] below meth c s₁ [] 0 0 := Stand.of_body Bd
  have e0 : s₁.heap = h0 := by rw [← hh, Bd.state]; rfl
  have N0 := Fr.nil n0
  have pre0 : ∀ t, Steps p.tables e below (s₁.setTop (mkF m 0 #[.val (.ref x1)] [])) t → Steps p.tables e below (s₁.setTop (entryFrame m #[(.ref x1)] 1)) t := fun t k => castTop (ef_CodU m x1) k
  obtain ⟨T47, X47, e47, st47⟩ := getS2 X0 hx hZ hown (host := "") (Or.inl (tw hw 42 rfl)) Via.refl e0 SC (g := (mkF m 0 #[.val (.ref x1)] [])) rfl (hb hby d7_0)
  obtain ⟨T48, X48, e48, st48⟩ := getF X47 hx hZ hown (host := "") (Or.inl (tw hw 27 rfl)) Via.refl e47 FC (g := (mkF m 7 #[.val (.ref x1)] [(.ref x1)])) rfl rfl (hb hby d7_7)
  have pre49 : ∀ t, Steps p.tables e below (T48.setTop (mkF m 14 #[.val (.ref x1)] [(.int (1 : Int32))])) t → Steps p.tables e below (s₁.setTop (mkF m 0 #[.val (.ref x1)] [])) t := by
    intro t kt
    refine st47 _ ?_
    refine XS.ifNo X47.here hx rfl (hb hby d7_3) rfl ((if0 _ _).trans (feq (hzc : ¬ (zc = (0 : Int32)))).1) ?_
    show Steps p.tables e below (T47.setTop (mkF m 6 #[.val (.ref x1)] [])) _
    refine XS.aloadN X47.here hx rfl (hb hby d7_6) rfl rfl ?_
    refine st48 _ ?_
    show Steps p.tables e below (T48.setTop (mkF m 10 #[.val (.ref x1)] [(.int (1 : Int32))])) _
    refine XS.goto X48.here hx rfl (pc0 := 10) (pc' := 14) rfl (hb hby d7_10) (by decide) (by decide) ?_
    exact kt
  obtain ⟨fs, hr, hrun, hended, hW, hsame⟩ := X48.leave (v := some (.int (1 : Int32))) (fun h => by rw [Bd.returns] at h; cases h)
  refine ⟨_, _, (pre0 _ (pre49 _ ?_)), hrun, hended, _, _, rfl, ?_, ⟨_, rfl⟩, hW, hsame.mono (by decide) (by decide)⟩
  · show Steps p.tables e below (T48.setTop (mkF m 14 #[.val (.ref x1)] [(.int (1 : Int32))])) _
    exact retN X48 hx (t := .byte) Bd.returns (by simp) (hb hby d7_14) hr
  · show QCodU Z x1 zc h0 n0 _ T48.heap _
    rw [e48]
    exact ⟨rfl, N0, rfl⟩
theorem ef_Ln (m : MethodId) (x0 : Addr) : entryFrame m #[(.ref x0)] 1 = mkF m 0 #[.val (.ref x0)] [] := by (first | (simp [entryFrame, mkF, argsToLocals, Value.category]; done) | rfl)
def QLn (Z : State) (x1 : Addr) (cs : List Int32) (zc : Int32) (h0 : Heap) (n0 : Nat) (v : Option Value) (h : Heap) (L : List Loc) : Prop := v = some (.int (Int32.ofNat cs.length)) ∧ Fr n0 L ∧ h = h0
theorem d6_0 : decode jdk_42_method_54_code 0 = .ok (.aload_n 0, 1) := by decide +kernel
theorem d6_1 : decode jdk_42_method_54_code 1 = .ok (.getfield 9, 3) := by decide +kernel
theorem d6_4 : decode jdk_42_method_54_code 4 = .ok (.arraylength, 1) := by decide +kernel
theorem d6_5 : decode jdk_42_method_54_code 5 = .ok (.aload_n 0, 1) := by decide +kernel
theorem d6_6 : decode jdk_42_method_54_code 6 = .ok (.invokevirtual 335, 3) := by decide +kernel
theorem pd___B : parseMethodDescriptor "()B" = some ⟨[], some .byte⟩ := by decide +kernel
theorem d6_9 : decode jdk_42_method_54_code 9 = .ok (.ishr, 1) := by decide +kernel
theorem d6_10 : decode jdk_42_method_54_code 10 = .ok (.ireturn, 1) := by decide +kernel
set_option maxRecDepth 65536 in
set_option maxHeartbeats 40000000 in
theorem rmLn (l : Launch) (Z : State) (a0 : Array Value) (hw : ∀ d ∈ tables_1, d.before a0 Z = true) (ws : List Jvm.Cond) (x1 : Addr) (cs : List Int32) (zc : Int32) (h0 : Heap) (n0 : Nat) (Z0 : n0 ≤ h0.size) (SC : Sta Z h0 "java/lang/String" "COMPACT_STRINGS" "Z" (.int zc)) (hzc : ¬ zc = (0 : Int32)) (SP : own_str Z h0 x1 cs) (hn : cs.length < 100) :
    MetFree l (⟨"java/lang/String", "length", "()I"⟩ : MethodName) (head1 (Jvm.Cond.code (⟨"java/lang/String", "length", "()I"⟩ : MethodName) jdk_42_method_54_code 1 (some .int) :: ws) ({ frames := 1, cells := 0, slots := 0, locals := 13 } : Room)) (fun a U => a = #[(.ref x1)] ∧ Z.Warmed39 U.vm ∧ U.heap = h0) (fun _ _ _ _ _ => True) (fun _ U o U' => ∃ v L, o = .returned v ∧ QLn Z x1 cs zc h0 n0 v U'.heap L ∧ FrameEnd U o U' L ({ frames := 1, cells := 0, slots := 0, locals := 13 } : Room).cells ({ frames := 1, cells := 0, slots := 0, locals := 13 } : Room).slots) := by
  refine MetFree.of_bodySF (plainFor_of_name pn_java_lang_String) hisR ?_
  intro p e s m args below meth c s₁ Bd hml0 hP hK
  obtain ⟨rfl, hZ, hh⟩ := hP
  have hx := Bd.exec
  have hby := Bd.bytes
  have hml : c.maxLocals = 1 := hml0
  have hown : s.vm.findClass "java/lang/String" = some m.cls := findClass_of_methodNamed Bd.named
  have hnm := (name_of_methodNamed Bd.named Bd.method).1
  have X0 : Stand p l e ({ frames := 1, cells := 0, slots := 0, locals := 13 } : Room) s m #[(.ref x1)] below meth c s₁ [] 0 0 := Stand.of_body Bd
  have e0 : s₁.heap = h0 := by rw [← hh, Bd.state]; rfl
  have N0 := Fr.nil n0
  have pre0 : ∀ t, Steps p.tables e below (s₁.setTop (mkF m 0 #[.val (.ref x1)] [])) t → Steps p.tables e below (s₁.setTop (entryFrame m #[(.ref x1)] 1)) t := fun t k => castTop (ef_Ln m x1) k
  obtain ⟨t1, kb, EX, FV, hor⟩ := SP
  rcases hor with ⟨FC, KA, -⟩ | ⟨FC, KA⟩
  · skip
    obtain ⟨T50, X50, e50, st50⟩ := getF X0 hx hZ hown (host := "") (Or.inl (tw hw 26 rfl)) Via.refl e0 FV (g := (mkF m 1 #[.val (.ref x1)] [(.ref x1)])) rfl rfl (hb hby d6_1)
    obtain ⟨c51, Ar51, -, S51, M51, -, -⟩ := id KA
    obtain ⟨cq52, kq52, q52a, q52b, q52c⟩ := isOf hZ e50 EX
    obtain ⟨_, _, ⟨T52, L52, k52, n52⟩, -, X52, ⟨Lc52, hQ52, l52, y52, z52⟩, st52⟩ := X50.virtualBack hx (y := (⟨"java/lang/String", "coder", "()B"⟩ : MethodName)) (z := (⟨"java/lang/String", "coder", "()B"⟩ : MethodName)) hown (mvT hZ (tw hw 37 rfl)) (mvT hZ (tw hw 38 rfl)) (notFace_of_selects (args := #[]) (mvT hZ (tw hw 40 rfl))) (mvT hZ (tw hw 40 rfl)) (mvT hZ (tw hw 39 rfl)) (by decide) (backOf (W := 1) (rmCod l Z a0 hw [] x1 zc h0 n0 Z0 SC hzc FC) hZ (tw hw 41 rfl) (tw hw 8 rfl) (by decide) (by decide)) q52a q52c (g := (mkF m 6 #[.val (.ref x1)] [(.ref x1), (.int (Int32.ofNat (cs.length)))])) rfl (by rw [hml]; rfl) (Steps.refl _) (argsL := []) (rest := [(.int (Int32.ofNat (cs.length)))]) (lenOf pd___B rfl) rfl (by show 2 * 0 + _ ≤ _; exact Nat.le_of_eq rfl) (hb hby d6_6) (fun _ _ => ⟨rfl, e50, (by decide : 0 + 0 ≤ _), (by decide : 0 + 0 ≤ _)⟩)
    dsimp only [Pt.U, Pt.locs, Pt.cells, Pt.slots] at X52 l52 y52 z52 st52 hQ52
    subst l52 y52 z52
    obtain ⟨rfl, N52q, EQ52⟩ := hQ52
    have N52 := Fr.app N0 N52q
    have pre53 : ∀ t, Steps p.tables e below (T52.setTop (mkF m 10 #[.val (.ref x1)] [(.int (Int32.ofNat cs.length))])) t → Steps p.tables e below (s₁.setTop (mkF m 0 #[.val (.ref x1)] [])) t := by
      intro t kt
      show Steps p.tables e below (s₁.setTop (mkF m 0 #[.val (.ref x1)] [])) _
      refine XS.aloadN X0.here hx rfl (hb hby d6_0) rfl rfl ?_
      refine st50 _ ?_
      refine X50.arraylength hx (by rw [e50]; exact Ar51.1) (State.isArrayOf_alike hZ.alike Ar51.2.1) (g := (mkF m 4 #[.val (.ref x1)] [(.ref t1)])) rfl rfl (hb hby d6_4) _ ?_
      rw [len_of S51 M51]
      show Steps p.tables e below (T50.setTop (mkF m 5 #[.val (.ref x1)] [(.int (Int32.ofNat (cs.length)))])) _
      refine XS.aloadN X50.here hx rfl (hb hby d6_5) rfl rfl ?_
      refine st52.trans ?_
      show Steps p.tables e below (T52.setTop (mkF m 9 #[.val (.ref x1)] [(.int (0 : Int32)), (.int (Int32.ofNat (cs.length)))])) _
      refine XS.ishr X52.here hx rfl (hb hby d6_9) rfl ?_
      show Steps p.tables e below (T52.setTop (mkF m 10 #[.val (.ref x1)] [(.int ((Int32.ofNat (cs.length)) >>> ((0 : Int32) &&& 31)))])) _
      rw [show ((Int32.ofNat (cs.length)) >>> ((0 : Int32) &&& 31)) = Int32.ofNat cs.length from own_shr0 _]
      exact kt
    obtain ⟨fs, hr, hrun, hended, hW, hsame⟩ := X52.leave (v := some (.int (Int32.ofNat cs.length))) (fun h => by rw [Bd.returns] at h; cases h)
    refine ⟨_, _, (pre0 _ (pre53 _ ?_)), hrun, hended, _, _, rfl, ?_, ⟨_, rfl⟩, hW, hsame.mono (by decide) (by decide)⟩
    · show Steps p.tables e below (T52.setTop (mkF m 10 #[.val (.ref x1)] [(.int (Int32.ofNat cs.length))])) _
      exact retOut X52 hx (t := .int) Bd.returns rfl (Or.inl ⟨rfl, Or.inl rfl, _, rfl⟩) (hb hby d6_10) hr
    · show QLn Z x1 cs zc h0 n0 _ T52.heap _
      exact ⟨rfl, N52, by rw [EQ52]⟩
  · skip
    obtain ⟨T54, X54, e54, st54⟩ := getF X0 hx hZ hown (host := "") (Or.inl (tw hw 26 rfl)) Via.refl e0 FV (g := (mkF m 1 #[.val (.ref x1)] [(.ref x1)])) rfl rfl (hb hby d6_1)
    obtain ⟨c55, Ar55, -, S55, M55, -, -⟩ := id KA
    obtain ⟨cq56, kq56, q56a, q56b, q56c⟩ := isOf hZ e54 EX
    obtain ⟨_, _, ⟨T56, L56, k56, n56⟩, -, X56, ⟨Lc56, hQ56, l56, y56, z56⟩, st56⟩ := X54.virtualBack hx (y := (⟨"java/lang/String", "coder", "()B"⟩ : MethodName)) (z := (⟨"java/lang/String", "coder", "()B"⟩ : MethodName)) hown (mvT hZ (tw hw 37 rfl)) (mvT hZ (tw hw 38 rfl)) (notFace_of_selects (args := #[]) (mvT hZ (tw hw 40 rfl))) (mvT hZ (tw hw 40 rfl)) (mvT hZ (tw hw 39 rfl)) (by decide) (backOf (W := 1) (rmCodU l Z a0 hw [] x1 zc h0 n0 Z0 SC hzc FC) hZ (tw hw 41 rfl) (tw hw 8 rfl) (by decide) (by decide)) q56a q56c (g := (mkF m 6 #[.val (.ref x1)] [(.ref x1), (.int (Int32.ofNat (2 * cs.length)))])) rfl (by rw [hml]; rfl) (Steps.refl _) (argsL := []) (rest := [(.int (Int32.ofNat (2 * cs.length)))]) (lenOf pd___B rfl) rfl (by show 2 * 0 + _ ≤ _; exact Nat.le_of_eq rfl) (hb hby d6_6) (fun _ _ => ⟨rfl, e54, (by decide : 0 + 0 ≤ _), (by decide : 0 + 0 ≤ _)⟩)
    dsimp only [Pt.U, Pt.locs, Pt.cells, Pt.slots] at X56 l56 y56 z56 st56 hQ56
    subst l56 y56 z56
    obtain ⟨rfl, N56q, EQ56⟩ := hQ56
    have N56 := Fr.app N0 N56q
    have pre57 : ∀ t, Steps p.tables e below (T56.setTop (mkF m 10 #[.val (.ref x1)] [(.int (Int32.ofNat cs.length))])) t → Steps p.tables e below (s₁.setTop (mkF m 0 #[.val (.ref x1)] [])) t := by
      intro t kt
      show Steps p.tables e below (s₁.setTop (mkF m 0 #[.val (.ref x1)] [])) _
      refine XS.aloadN X0.here hx rfl (hb hby d6_0) rfl rfl ?_
      refine st54 _ ?_
      refine X54.arraylength hx (by rw [e54]; exact Ar55.1) (State.isArrayOf_alike hZ.alike Ar55.2.1) (g := (mkF m 4 #[.val (.ref x1)] [(.ref t1)])) rfl rfl (hb hby d6_4) _ ?_
      rw [len_of S55 M55]
      show Steps p.tables e below (T54.setTop (mkF m 5 #[.val (.ref x1)] [(.int (Int32.ofNat (2 * cs.length)))])) _
      refine XS.aloadN X54.here hx rfl (hb hby d6_5) rfl rfl ?_
      refine st56.trans ?_
      show Steps p.tables e below (T56.setTop (mkF m 9 #[.val (.ref x1)] [(.int (1 : Int32)), (.int (Int32.ofNat (2 * cs.length)))])) _
      refine XS.ishr X56.here hx rfl (hb hby d6_9) rfl ?_
      show Steps p.tables e below (T56.setTop (mkF m 10 #[.val (.ref x1)] [(.int ((Int32.ofNat (2 * cs.length)) >>> ((1 : Int32) &&& 31)))])) _
      rw [show ((Int32.ofNat (2 * cs.length)) >>> ((1 : Int32) &&& 31)) = Int32.ofNat cs.length from own_shr (by omega)]
      exact kt
    obtain ⟨fs, hr, hrun, hended, hW, hsame⟩ := X56.leave (v := some (.int (Int32.ofNat cs.length))) (fun h => by rw [Bd.returns] at h; cases h)
    refine ⟨_, _, (pre0 _ (pre57 _ ?_)), hrun, hended, _, _, rfl, ?_, ⟨_, rfl⟩, hW, hsame.mono (by decide) (by decide)⟩
    · show Steps p.tables e below (T56.setTop (mkF m 10 #[.val (.ref x1)] [(.int (Int32.ofNat cs.length))])) _
      exact retOut X56 hx (t := .int) Bd.returns rfl (Or.inl ⟨rfl, Or.inl rfl, _, rfl⟩) (hb hby d6_10) hr
    · show QLn Z x1 cs zc h0 n0 _ T56.heap _
      exact ⟨rfl, N56, by rw [EQ56]⟩
theorem ef_Ch (m : MethodId) (x0 : Addr) (x1 : Int32) : entryFrame m #[(.ref x0), (.int x1)] 2 = mkF m 0 #[.val (.ref x0), .val (.int x1)] [] := by (first | (simp [entryFrame, mkF, argsToLocals, Value.category]; done) | rfl)
def QCh (Z : State) (x1 : Addr) (cs : List Int32) (i : Nat) (zc : Int32) (fm : Value) (h0 : Heap) (n0 : Nat) (v : Option Value) (h : Heap) (L : List Loc) : Prop := v = some (.int (cs.getD i 0)) ∧ Fr n0 L ∧ h = h0
theorem d12_0 : decode jdk_42_method_56_code 0 = .ok (.aload_n 0, 1) := by decide +kernel
theorem d12_1 : decode jdk_42_method_56_code 1 = .ok (.invokevirtual 492, 3) := by decide +kernel
theorem pd___Z : parseMethodDescriptor "()Z" = some ⟨[], some .boolean⟩ := by decide +kernel
theorem d12_4 : decode jdk_42_method_56_code 4 = .ok (.ifCond .eq 12, 3) := by decide +kernel
theorem d12_7 : decode jdk_42_method_56_code 7 = .ok (.aload_n 0, 1) := by decide +kernel
theorem d12_8 : decode jdk_42_method_56_code 8 = .ok (.getfield 9, 3) := by decide +kernel
theorem d12_11 : decode jdk_42_method_56_code 11 = .ok (.iload_n 1, 1) := by decide +kernel
theorem d12_12 : decode jdk_42_method_56_code 12 = .ok (.invokestatic 495, 3) := by decide +kernel
theorem d12_15 : decode jdk_42_method_56_code 15 = .ok (.ireturn, 1) := by decide +kernel
theorem d12_16 : decode jdk_42_method_56_code 16 = .ok (.aload_n 0, 1) := by decide +kernel
theorem d12_17 : decode jdk_42_method_56_code 17 = .ok (.getfield 9, 3) := by decide +kernel
theorem d12_20 : decode jdk_42_method_56_code 20 = .ok (.iload_n 1, 1) := by decide +kernel
theorem d12_21 : decode jdk_42_method_56_code 21 = .ok (.invokestatic 498, 3) := by decide +kernel
theorem d12_24 : decode jdk_42_method_56_code 24 = .ok (.ireturn, 1) := by decide +kernel
set_option maxRecDepth 65536 in
set_option maxHeartbeats 40000000 in
theorem rmCh (l : Launch) (Z : State) (a0 : Array Value) (hw : ∀ d ∈ tables_1, d.before a0 Z = true) (ws : List Jvm.Cond) (x1 : Addr) (cs : List Int32) (i : Nat) (zc : Int32) (fm : Value) (h0 : Heap) (n0 : Nat) (Z0 : n0 ≤ h0.size) (SC : Sta Z h0 "java/lang/String" "COMPACT_STRINGS" "Z" (.int zc)) (hzc : ¬ zc = (0 : Int32)) (SFm : Sta Z h0 "jdk/internal/util/Preconditions" "SIOOBE_FORMATTER" "Ljava/util/function/BiFunction;" fm) (rf : fm.isRef = true) (SA : Sta Z h0 "java/lang/StringUTF16" "$assertionsDisabled" "Z" (.int (1 : Int32))) (SH : Sta Z h0 "java/lang/StringUTF16" "HI_BYTE_SHIFT" "I" (.int (0 : Int32))) (SL : Sta Z h0 "java/lang/StringUTF16" "LO_BYTE_SHIFT" "I" (.int (8 : Int32))) (SP : own_str Z h0 x1 cs) (hn : cs.length < 100) (hi : i < cs.length) (hcs : nar .char (cs.getD i 0) = cs.getD i 0) :
    MetFree l (⟨"java/lang/String", "charAt", "(I)C"⟩ : MethodName) (head1 (Jvm.Cond.code (⟨"java/lang/String", "charAt", "(I)C"⟩ : MethodName) jdk_42_method_56_code 2 (some .char) :: ws) ({ frames := 4, cells := 0, slots := 0, locals := 55 } : Room)) (fun a U => a = #[(.ref x1), (.int (Int32.ofNat i))] ∧ Z.Warmed39 U.vm ∧ U.heap = h0) (fun _ _ _ _ _ => True) (fun _ U o U' => ∃ v L, o = .returned v ∧ QCh Z x1 cs i zc fm h0 n0 v U'.heap L ∧ FrameEnd U o U' L ({ frames := 4, cells := 0, slots := 0, locals := 55 } : Room).cells ({ frames := 4, cells := 0, slots := 0, locals := 55 } : Room).slots) := by
  refine MetFree.of_bodySF (plainFor_of_name pn_java_lang_String) hisR ?_
  intro p e s m args below meth c s₁ Bd hml0 hP hK
  obtain ⟨rfl, hZ, hh⟩ := hP
  have hx := Bd.exec
  have hby := Bd.bytes
  have hml : c.maxLocals = 2 := hml0
  have hown : s.vm.findClass "java/lang/String" = some m.cls := findClass_of_methodNamed Bd.named
  have hnm := (name_of_methodNamed Bd.named Bd.method).1
  have X0 : Stand p l e ({ frames := 4, cells := 0, slots := 0, locals := 55 } : Room) s m #[(.ref x1), (.int (Int32.ofNat i))] below meth c s₁ [] 0 0 := Stand.of_body Bd
  have e0 : s₁.heap = h0 := by rw [← hh, Bd.state]; rfl
  have N0 := Fr.nil n0
  have pre0 : ∀ t, Steps p.tables e below (s₁.setTop (mkF m 0 #[.val (.ref x1), .val (.int (Int32.ofNat i))] [])) t → Steps p.tables e below (s₁.setTop (entryFrame m #[(.ref x1), (.int (Int32.ofNat i))] 2)) t := fun t k => castTop (ef_Ch m x1 (Int32.ofNat i)) k
  obtain ⟨t1, kb, EX, FV, hor⟩ := SP
  rcases hor with ⟨FC, KA, hl⟩ | ⟨FC, KA⟩
  · skip
    obtain ⟨cq58, kq58, q58a, q58b, q58c⟩ := isOf hZ e0 EX
    obtain ⟨_, _, ⟨T58, L58, k58, n58⟩, -, X58, ⟨Lc58, hQ58, l58, y58, z58⟩, st58⟩ := X0.virtualBack hx (y := (⟨"java/lang/String", "isLatin1", "()Z"⟩ : MethodName)) (z := (⟨"java/lang/String", "isLatin1", "()Z"⟩ : MethodName)) hown (mvT hZ (tw hw 61 rfl)) (mvT hZ (tw hw 62 rfl)) (notFace_of_selects (args := #[]) (mvT hZ (tw hw 64 rfl))) (mvT hZ (tw hw 64 rfl)) (mvT hZ (tw hw 63 rfl)) (by decide) (backOf (W := 0) (rmIsL l Z a0 hw [] x1 zc h0 n0 Z0 SC hzc FC) hZ (tw hw 65 rfl) (tw hw 8 rfl) (by decide) (by decide)) q58a q58c (g := (mkF m 1 #[.val (.ref x1), .val (.int (Int32.ofNat i))] [(.ref x1)])) rfl (by rw [hml]; rfl) (Steps.refl _) (argsL := []) (rest := []) (lenOf pd___Z rfl) rfl (by show 2 * 0 + _ ≤ _; exact Nat.le_of_eq rfl) (hb hby d12_1) (fun _ _ => ⟨rfl, e0, (by decide : 0 + 0 ≤ _), (by decide : 0 + 0 ≤ _)⟩)
    dsimp only [Pt.U, Pt.locs, Pt.cells, Pt.slots] at X58 l58 y58 z58 st58 hQ58
    subst l58 y58 z58
    obtain ⟨rfl, N58q, EQ58⟩ := hQ58
    have N58 := Fr.app N0 N58q
    have Z58 : n0 ≤ T58.heap.size := by rw [EQ58]; exact Z0
    have f59 := (EQ58 ▸ FV)
    obtain ⟨T60, X60, e60, st60⟩ := getF X58 hx hZ hown (host := "") (Or.inl (tw hw 26 rfl)) Via.refl rfl f59 (g := (mkF m 8 #[.val (.ref x1), .val (.int (Int32.ofNat i))] [(.ref x1)])) rfl rfl (hb hby d12_8)
    have f61 := (EQ58 ▸ SFm)
    have f62 := (EQ58 ▸ KA)
    obtain ⟨_, _, ⟨T63, L63, k63, n63⟩, -, X63, ⟨Lc63, hQ63, l63, y63, z63⟩, st63⟩ := Jvm.LawKit.callS X60 hx (y := (⟨"java/lang/StringLatin1", "charAt", "([BI)C"⟩ : MethodName)) hown (mvT hZ (tw hw 66 rfl)) (mvT hZ (tw hw 67 rfl)) (mvT hZ (tw hw 68 rfl)) (mvT hZ (tw hw 69 rfl)) (by decide) (backOf (W := 0) (rmLCh l Z a0 hw [] t1 kb (Int32.ofNat cs.length) (cs.map own_B) (Int32.ofNat i) (nar .byte ((cs.getD i 0).toInt8.toInt32)) fm T58.heap n0 Z58 f61 rf f62 (own_nn (by omega)) (by rw [own_lt (by omega) (by omega)]; exact hi) (by rw [own_nc (by omega)]; exact own_getL cs _ i hi)) hZ (tw hw 69 rfl) (tw hw 68 rfl) (by decide) (by decide)) (g := (mkF m 12 #[.val (.ref x1), .val (.int (Int32.ofNat i))] [(.int (Int32.ofNat i)), (.ref t1)])) rfl (by rw [hml]; rfl) (argsL := [(.ref t1), (.int (Int32.ofNat i))]) (rest := []) (lenOf pd___BI_C rfl) rfl (by show 2 * 0 + _ ≤ _; exact Nat.le_of_eq rfl) (hb hby d12_12) (fun _ _ => ⟨rfl, e60, (by decide : 0 + 0 ≤ _), (by decide : 0 + 0 ≤ _)⟩)
    dsimp only [Pt.U, Pt.locs, Pt.cells, Pt.slots] at X63 l63 y63 z63 st63 hQ63
    subst l63 y63 z63
    obtain ⟨rfl, N63q, EQ63⟩ := hQ63
    have N63 := Fr.app N58 N63q
    have pre64 : ∀ t, Steps p.tables e below (T63.setTop (mkF m 15 #[.val (.ref x1), .val (.int (Int32.ofNat i))] [(.int (nar .char (((nar .byte ((cs.getD i 0).toInt8.toInt32)) &&& (255 : Int32)).toUInt32.toUInt16.toUInt32.toInt32)))])) t → Steps p.tables e below (s₁.setTop (mkF m 0 #[.val (.ref x1), .val (.int (Int32.ofNat i))] [])) t := by
      intro t kt
      show Steps p.tables e below (s₁.setTop (mkF m 0 #[.val (.ref x1), .val (.int (Int32.ofNat i))] [])) _
      refine XS.aloadN X0.here hx rfl (hb hby d12_0) rfl rfl ?_
      refine st58.trans ?_
      refine XS.ifNo X58.here hx rfl (hb hby d12_4) rfl ((if0 _ _).trans (feq (by decide : ¬ ((1 : Int32) = (0 : Int32)))).1) ?_
      show Steps p.tables e below (T58.setTop (mkF m 7 #[.val (.ref x1), .val (.int (Int32.ofNat i))] [])) _
      refine XS.aloadN X58.here hx rfl (hb hby d12_7) rfl rfl ?_
      refine st60 _ ?_
      show Steps p.tables e below (T60.setTop (mkF m 11 #[.val (.ref x1), .val (.int (Int32.ofNat i))] [(.ref t1)])) _
      refine XS.iloadN X60.here hx rfl (hb hby d12_11) rfl ?_
      refine st63 _ ?_
      exact kt
    obtain ⟨fs, hr, hrun, hended, hW, hsame⟩ := X63.leave (v := some (.int (nar .char (nar .char (((nar .byte ((cs.getD i 0).toInt8.toInt32)) &&& (255 : Int32)).toUInt32.toUInt16.toUInt32.toInt32))))) (fun h => by rw [Bd.returns] at h; cases h)
    refine ⟨_, _, (pre0 _ (pre64 _ ?_)), hrun, hended, _, _, rfl, ?_, ⟨_, rfl⟩, hW, hsame.mono (by decide) (by decide)⟩
    · show Steps p.tables e below (T63.setTop (mkF m 15 #[.val (.ref x1), .val (.int (Int32.ofNat i))] [(.int (nar .char (((nar .byte ((cs.getD i 0).toInt8.toInt32)) &&& (255 : Int32)).toUInt32.toUInt16.toUInt32.toInt32)))])) _
      exact retN X63 hx (t := .char) Bd.returns (by simp) (hb hby d12_15) hr
    · show QCh Z x1 cs i zc fm h0 n0 _ T63.heap _
      exact ⟨by rw [own_chL hcs (hl i hi)], N63, by rw [EQ63, EQ58]⟩
  · skip
    obtain ⟨cq65, kq65, q65a, q65b, q65c⟩ := isOf hZ e0 EX
    obtain ⟨_, _, ⟨T65, L65, k65, n65⟩, -, X65, ⟨Lc65, hQ65, l65, y65, z65⟩, st65⟩ := X0.virtualBack hx (y := (⟨"java/lang/String", "isLatin1", "()Z"⟩ : MethodName)) (z := (⟨"java/lang/String", "isLatin1", "()Z"⟩ : MethodName)) hown (mvT hZ (tw hw 61 rfl)) (mvT hZ (tw hw 62 rfl)) (notFace_of_selects (args := #[]) (mvT hZ (tw hw 64 rfl))) (mvT hZ (tw hw 64 rfl)) (mvT hZ (tw hw 63 rfl)) (by decide) (backOf (W := 0) (rmIsU l Z a0 hw [] x1 zc h0 n0 Z0 SC hzc FC) hZ (tw hw 65 rfl) (tw hw 8 rfl) (by decide) (by decide)) q65a q65c (g := (mkF m 1 #[.val (.ref x1), .val (.int (Int32.ofNat i))] [(.ref x1)])) rfl (by rw [hml]; rfl) (Steps.refl _) (argsL := []) (rest := []) (lenOf pd___Z rfl) rfl (by show 2 * 0 + _ ≤ _; exact Nat.le_of_eq rfl) (hb hby d12_1) (fun _ _ => ⟨rfl, e0, (by decide : 0 + 0 ≤ _), (by decide : 0 + 0 ≤ _)⟩)
    dsimp only [Pt.U, Pt.locs, Pt.cells, Pt.slots] at X65 l65 y65 z65 st65 hQ65
    subst l65 y65 z65
    obtain ⟨rfl, N65q, EQ65⟩ := hQ65
    have N65 := Fr.app N0 N65q
    have Z65 : n0 ≤ T65.heap.size := by rw [EQ65]; exact Z0
    have f66 := (EQ65 ▸ FV)
    obtain ⟨T67, X67, e67, st67⟩ := getF X65 hx hZ hown (host := "") (Or.inl (tw hw 26 rfl)) Via.refl rfl f66 (g := (mkF m 17 #[.val (.ref x1), .val (.int (Int32.ofNat i))] [(.ref x1)])) rfl rfl (hb hby d12_17)
    have f68 := (EQ65 ▸ SFm)
    have f69 := (EQ65 ▸ SA)
    have f70 := (EQ65 ▸ SH)
    have f71 := (EQ65 ▸ SL)
    have f72 := (EQ65 ▸ KA)
    obtain ⟨_, _, ⟨T73, L73, k73, n73⟩, -, X73, ⟨Lc73, hQ73, l73, y73, z73⟩, st73⟩ := Jvm.LawKit.callS X67 hx (y := (⟨"java/lang/StringUTF16", "charAt", "([BI)C"⟩ : MethodName)) hown (mvT hZ (tw hw 100 rfl)) (mvT hZ (tw hw 101 rfl)) (mvT hZ (tw hw 45 rfl)) (mvT hZ (tw hw 102 rfl)) (by decide) (backOf (W := 0) (rmUCh l Z a0 hw [] t1 kb cs.length (cs.flatMap own_U) i (nar .byte (((cs.getD i 0) >>> ((0 : Int32) &&& 31)).toInt8.toInt32)) (nar .byte (((cs.getD i 0) >>> ((8 : Int32) &&& 31)).toInt8.toInt32)) fm T65.heap n0 Z65 f68 rf f69 f70 f71 f72 (by omega) hi (own_getU cs _ i hi).1 (own_getU cs _ i hi).2) hZ (tw hw 102 rfl) (tw hw 45 rfl) (by decide) (by decide)) (g := (mkF m 21 #[.val (.ref x1), .val (.int (Int32.ofNat i))] [(.int (Int32.ofNat i)), (.ref t1)])) rfl (by rw [hml]; rfl) (argsL := [(.ref t1), (.int (Int32.ofNat i))]) (rest := []) (lenOf pd___BI_C rfl) rfl (by show 2 * 0 + _ ≤ _; exact Nat.le_of_eq rfl) (hb hby d12_21) (fun _ _ => ⟨rfl, e67, (by decide : 0 + 0 ≤ _), (by decide : 0 + 0 ≤ _)⟩)
    dsimp only [Pt.U, Pt.locs, Pt.cells, Pt.slots] at X73 l73 y73 z73 st73 hQ73
    subst l73 y73 z73
    obtain ⟨rfl, N73q, EQ73⟩ := hQ73
    have N73 := Fr.app N65 N73q
    have pre74 : ∀ t, Steps p.tables e below (T73.setTop (mkF m 24 #[.val (.ref x1), .val (.int (Int32.ofNat i))] [(.int (nar .char (nar .char (((((nar .byte (((cs.getD i 0) >>> ((0 : Int32) &&& 31)).toInt8.toInt32)) &&& (255 : Int32)) <<< ((0 : Int32) &&& 31)) ||| (((nar .byte (((cs.getD i 0) >>> ((8 : Int32) &&& 31)).toInt8.toInt32)) &&& (255 : Int32)) <<< ((8 : Int32) &&& 31))).toUInt32.toUInt16.toUInt32.toInt32))))])) t → Steps p.tables e below (s₁.setTop (mkF m 0 #[.val (.ref x1), .val (.int (Int32.ofNat i))] [])) t := by
      intro t kt
      show Steps p.tables e below (s₁.setTop (mkF m 0 #[.val (.ref x1), .val (.int (Int32.ofNat i))] [])) _
      refine XS.aloadN X0.here hx rfl (hb hby d12_0) rfl rfl ?_
      refine st65.trans ?_
      refine XS.ifYes X65.here hx rfl (pc0 := 4) (pc' := 16) rfl (hb hby d12_4) rfl ((if0 _ _).trans (teq (rfl : (0 : Int32) = (0 : Int32))).1) (by decide) (by decide) ?_
      show Steps p.tables e below (T65.setTop (mkF m 16 #[.val (.ref x1), .val (.int (Int32.ofNat i))] [])) _
      refine XS.aloadN X65.here hx rfl (hb hby d12_16) rfl rfl ?_
      refine st67 _ ?_
      show Steps p.tables e below (T67.setTop (mkF m 20 #[.val (.ref x1), .val (.int (Int32.ofNat i))] [(.ref t1)])) _
      refine XS.iloadN X67.here hx rfl (hb hby d12_20) rfl ?_
      refine st73 _ ?_
      exact kt
    obtain ⟨fs, hr, hrun, hended, hW, hsame⟩ := X73.leave (v := some (.int (nar .char (nar .char (nar .char (((((nar .byte (((cs.getD i 0) >>> ((0 : Int32) &&& 31)).toInt8.toInt32)) &&& (255 : Int32)) <<< ((0 : Int32) &&& 31)) ||| (((nar .byte (((cs.getD i 0) >>> ((8 : Int32) &&& 31)).toInt8.toInt32)) &&& (255 : Int32)) <<< ((8 : Int32) &&& 31))).toUInt32.toUInt16.toUInt32.toInt32)))))) (fun h => by rw [Bd.returns] at h; cases h)
    refine ⟨_, _, (pre0 _ (pre74 _ ?_)), hrun, hended, _, _, rfl, ?_, ⟨_, rfl⟩, hW, hsame.mono (by decide) (by decide)⟩
    · show Steps p.tables e below (T73.setTop (mkF m 24 #[.val (.ref x1), .val (.int (Int32.ofNat i))] [(.int (nar .char (nar .char (((((nar .byte (((cs.getD i 0) >>> ((0 : Int32) &&& 31)).toInt8.toInt32)) &&& (255 : Int32)) <<< ((0 : Int32) &&& 31)) ||| (((nar .byte (((cs.getD i 0) >>> ((8 : Int32) &&& 31)).toInt8.toInt32)) &&& (255 : Int32)) <<< ((8 : Int32) &&& 31))).toUInt32.toUInt16.toUInt32.toInt32))))])) _
      exact retN X73 hx (t := .char) Bd.returns (by simp) (hb hby d12_24) hr
    · show QCh Z x1 cs i zc fm h0 n0 _ T73.heap _
      exact ⟨by rw [own_chU hcs], N73, by rw [EQ73, EQ65]⟩
def own_mu (c : Int32) : Int32 := if c = 0 then 2 else if c < 128 then 1 else if c < 2048 then 2 else 3
def own_acc (cs : List Int32) : Nat → Int32
  | 0 => 0
  | i + 1 => own_acc cs i + own_mu (cs.getD i 0)
theorem ef_MuC (m : MethodId) (x0 : Int32) : entryFrame m #[(.int x0)] 1 = mkF m 0 #[.val (.int x0)] [] := by (first | (simp [entryFrame, mkF, argsToLocals, Value.category]; done) | rfl)
def QMuC (Z : State) (p1 : Int32) (h0 : Heap) (n0 : Nat) (v : Option Value) (h : Heap) (L : List Loc) : Prop := v = some (.int (own_mu p1)) ∧ Fr n0 L ∧ h = h0
theorem pn_com_example_corvid_corvid_classfile_ConstantPool : plainName "com/example/corvid/corvid/classfile/ConstantPool" = true := by first | (simp [plainName, overriddenIn]; done) | decide +kernel
theorem d17_0 : decode prog_14_method_14_code 0 = .ok (.iload_n 0, 1) := by decide +kernel
theorem d17_1 : decode prog_14_method_14_code 1 = .ok (.ifCond .eq 14, 3) := by decide +kernel
theorem d17_15 : decode prog_14_method_14_code 15 = .ok (.iload_n 0, 1) := by decide +kernel
theorem d17_16 : decode prog_14_method_14_code 16 = .ok (.sipush 2048, 3) := by decide +kernel
theorem d17_19 : decode prog_14_method_14_code 19 = .ok (.if_icmp .ge 7, 3) := by decide +kernel
theorem d17_22 : decode prog_14_method_14_code 22 = .ok (.iconst 2, 1) := by decide +kernel
theorem d17_23 : decode prog_14_method_14_code 23 = .ok (.goto 4, 3) := by decide +kernel
theorem d17_27 : decode prog_14_method_14_code 27 = .ok (.ireturn, 1) := by decide +kernel
theorem d17_4 : decode prog_14_method_14_code 4 = .ok (.iload_n 0, 1) := by decide +kernel
theorem d17_5 : decode prog_14_method_14_code 5 = .ok (.sipush 128, 3) := by decide +kernel
theorem d17_8 : decode prog_14_method_14_code 8 = .ok (.if_icmp .ge 7, 3) := by decide +kernel
theorem d17_11 : decode prog_14_method_14_code 11 = .ok (.iconst 1, 1) := by decide +kernel
theorem d17_12 : decode prog_14_method_14_code 12 = .ok (.goto 15, 3) := by decide +kernel
theorem d17_26 : decode prog_14_method_14_code 26 = .ok (.iconst 3, 1) := by decide +kernel
set_option maxRecDepth 65536 in
set_option maxHeartbeats 40000000 in
theorem rmMuC (l : Launch) (Z : State) (a0 : Array Value) (hw : ∀ d ∈ tables_1, d.before a0 Z = true) (ws : List Jvm.Cond) (p1 : Int32) (h0 : Heap) (n0 : Nat) (Z0 : n0 ≤ h0.size)  :
    MetFree l (⟨"com/example/corvid/corvid/classfile/ConstantPool", "modifiedUtf8Length", "(C)I"⟩ : MethodName) (head1 (Jvm.Cond.code (⟨"com/example/corvid/corvid/classfile/ConstantPool", "modifiedUtf8Length", "(C)I"⟩ : MethodName) prog_14_method_14_code 1 (some .int) :: ws) ({ frames := 0, cells := 0, slots := 0, locals := 0 } : Room)) (fun a U => a = #[(.int p1)] ∧ Z.Warmed39 U.vm ∧ U.heap = h0) (fun _ _ _ _ _ => True) (fun _ U o U' => ∃ v L, o = .returned v ∧ QMuC Z p1 h0 n0 v U'.heap L ∧ FrameEnd U o U' L ({ frames := 0, cells := 0, slots := 0, locals := 0 } : Room).cells ({ frames := 0, cells := 0, slots := 0, locals := 0 } : Room).slots) := by
  refine MetFree.of_bodySF (plainFor_of_name pn_com_example_corvid_corvid_classfile_ConstantPool) hisR ?_
  intro p e s m args below meth c s₁ Bd hml0 hP hK
  obtain ⟨rfl, hZ, hh⟩ := hP
  have hx := Bd.exec
  have hby := Bd.bytes
  have hml : c.maxLocals = 1 := hml0
  have hown : s.vm.findClass "com/example/corvid/corvid/classfile/ConstantPool" = some m.cls := findClass_of_methodNamed Bd.named
  have hnm := (name_of_methodNamed Bd.named Bd.method).1
  have X0 : Stand p l e ({ frames := 0, cells := 0, slots := 0, locals := 0 } : Room) s m #[(.int p1)] below meth c s₁ [] 0 0 := Stand.of_body Bd
  have e0 : s₁.heap = h0 := by rw [← hh, Bd.state]; rfl
  have N0 := Fr.nil n0
  have pre0 : ∀ t, Steps p.tables e below (s₁.setTop (mkF m 0 #[.val (.int p1)] [])) t → Steps p.tables e below (s₁.setTop (entryFrame m #[(.int p1)] 1)) t := fun t k => castTop (ef_MuC m p1) k
  by_cases c0 : p1 = (0 : Int32)
  · skip
    have emu : own_mu p1 = (2 : Int32) := by unfold own_mu; rw [if_pos c0]
    have pre75 : ∀ t, Steps p.tables e below (s₁.setTop (mkF m 27 #[.val (.int p1)] [(.int (2 : Int32))])) t → Steps p.tables e below (s₁.setTop (mkF m 0 #[.val (.int p1)] [])) t := by
      intro t kt
      show Steps p.tables e below (s₁.setTop (mkF m 0 #[.val (.int p1)] [])) _
      refine XS.iloadN X0.here hx rfl (hb hby d17_0) rfl ?_
      refine XS.ifYes X0.here hx rfl (pc0 := 1) (pc' := 15) rfl (hb hby d17_1) rfl ((if0 _ _).trans (teq (c0 : p1 = (0 : Int32))).1) (by decide) (by decide) ?_
      show Steps p.tables e below (s₁.setTop (mkF m 15 #[.val (.int p1)] [])) _
      refine XS.iloadN X0.here hx rfl (hb hby d17_15) rfl ?_
      refine XS.sipush X0.here hx rfl (hb hby d17_16) ?_
      refine XS.icmpNo X0.here hx rfl (hb hby d17_19) rfl (tlt (by rw [c0]; decide : p1 < (2048 : Int32))).2.1 ?_
      show Steps p.tables e below (s₁.setTop (mkF m 22 #[.val (.int p1)] [])) _
      refine XS.iconst X0.here hx rfl (hb hby d17_22) ?_
      refine XS.goto X0.here hx rfl (pc0 := 23) (pc' := 27) rfl (hb hby d17_23) (by decide) (by decide) ?_
      exact kt
    obtain ⟨fs, hr, hrun, hended, hW, hsame⟩ := X0.leave (v := some (.int (2 : Int32))) (fun h => by rw [Bd.returns] at h; cases h)
    refine ⟨_, _, (pre0 _ (pre75 _ ?_)), hrun, hended, _, _, rfl, ?_, ⟨_, rfl⟩, hW, hsame.mono (by decide) (by decide)⟩
    · show Steps p.tables e below (s₁.setTop (mkF m 27 #[.val (.int p1)] [(.int (2 : Int32))])) _
      exact retOut X0 hx (t := .int) Bd.returns rfl (Or.inl ⟨rfl, Or.inl rfl, _, rfl⟩) (hb hby d17_27) hr
    · show QMuC Z p1 h0 n0 _ s₁.heap _
      rw [e0]
      exact ⟨by rw [emu], N0, rfl⟩
  · skip
    by_cases c1 : p1 < (128 : Int32)
    · skip
      have emu : own_mu p1 = (1 : Int32) := by unfold own_mu; rw [if_neg c0, if_pos c1]
      have pre76 : ∀ t, Steps p.tables e below (s₁.setTop (mkF m 27 #[.val (.int p1)] [(.int (1 : Int32))])) t → Steps p.tables e below (s₁.setTop (mkF m 0 #[.val (.int p1)] [])) t := by
        intro t kt
        show Steps p.tables e below (s₁.setTop (mkF m 0 #[.val (.int p1)] [])) _
        refine XS.iloadN X0.here hx rfl (hb hby d17_0) rfl ?_
        refine XS.ifNo X0.here hx rfl (hb hby d17_1) rfl ((if0 _ _).trans (feq (c0 : ¬ (p1 = (0 : Int32)))).1) ?_
        show Steps p.tables e below (s₁.setTop (mkF m 4 #[.val (.int p1)] [])) _
        refine XS.iloadN X0.here hx rfl (hb hby d17_4) rfl ?_
        refine XS.sipush X0.here hx rfl (hb hby d17_5) ?_
        refine XS.icmpNo X0.here hx rfl (hb hby d17_8) rfl (tlt (c1 : p1 < (128 : Int32))).2.1 ?_
        show Steps p.tables e below (s₁.setTop (mkF m 11 #[.val (.int p1)] [])) _
        refine XS.iconst X0.here hx rfl (hb hby d17_11) ?_
        refine XS.goto X0.here hx rfl (pc0 := 12) (pc' := 27) rfl (hb hby d17_12) (by decide) (by decide) ?_
        exact kt
      obtain ⟨fs, hr, hrun, hended, hW, hsame⟩ := X0.leave (v := some (.int (1 : Int32))) (fun h => by rw [Bd.returns] at h; cases h)
      refine ⟨_, _, (pre0 _ (pre76 _ ?_)), hrun, hended, _, _, rfl, ?_, ⟨_, rfl⟩, hW, hsame.mono (by decide) (by decide)⟩
      · show Steps p.tables e below (s₁.setTop (mkF m 27 #[.val (.int p1)] [(.int (1 : Int32))])) _
        exact retOut X0 hx (t := .int) Bd.returns rfl (Or.inl ⟨rfl, Or.inl rfl, _, rfl⟩) (hb hby d17_27) hr
      · show QMuC Z p1 h0 n0 _ s₁.heap _
        rw [e0]
        exact ⟨by rw [emu], N0, rfl⟩
    · skip
      by_cases c2 : p1 < (2048 : Int32)
      · skip
        have emu : own_mu p1 = (2 : Int32) := by unfold own_mu; rw [if_neg c0, if_neg c1, if_pos c2]
        have pre77 : ∀ t, Steps p.tables e below (s₁.setTop (mkF m 27 #[.val (.int p1)] [(.int (2 : Int32))])) t → Steps p.tables e below (s₁.setTop (mkF m 0 #[.val (.int p1)] [])) t := by
          intro t kt
          show Steps p.tables e below (s₁.setTop (mkF m 0 #[.val (.int p1)] [])) _
          refine XS.iloadN X0.here hx rfl (hb hby d17_0) rfl ?_
          refine XS.ifNo X0.here hx rfl (hb hby d17_1) rfl ((if0 _ _).trans (feq (c0 : ¬ (p1 = (0 : Int32)))).1) ?_
          show Steps p.tables e below (s₁.setTop (mkF m 4 #[.val (.int p1)] [])) _
          refine XS.iloadN X0.here hx rfl (hb hby d17_4) rfl ?_
          refine XS.sipush X0.here hx rfl (hb hby d17_5) ?_
          refine XS.icmpYes X0.here hx rfl (pc0 := 8) (pc' := 15) rfl (hb hby d17_8) rfl (flt (c1 : ¬ (p1 < (128 : Int32)))).2.1 (by decide) (by decide) ?_
          show Steps p.tables e below (s₁.setTop (mkF m 15 #[.val (.int p1)] [])) _
          refine XS.iloadN X0.here hx rfl (hb hby d17_15) rfl ?_
          refine XS.sipush X0.here hx rfl (hb hby d17_16) ?_
          refine XS.icmpNo X0.here hx rfl (hb hby d17_19) rfl (tlt (c2 : p1 < (2048 : Int32))).2.1 ?_
          show Steps p.tables e below (s₁.setTop (mkF m 22 #[.val (.int p1)] [])) _
          refine XS.iconst X0.here hx rfl (hb hby d17_22) ?_
          refine XS.goto X0.here hx rfl (pc0 := 23) (pc' := 27) rfl (hb hby d17_23) (by decide) (by decide) ?_
          exact kt
        obtain ⟨fs, hr, hrun, hended, hW, hsame⟩ := X0.leave (v := some (.int (2 : Int32))) (fun h => by rw [Bd.returns] at h; cases h)
        refine ⟨_, _, (pre0 _ (pre77 _ ?_)), hrun, hended, _, _, rfl, ?_, ⟨_, rfl⟩, hW, hsame.mono (by decide) (by decide)⟩
        · show Steps p.tables e below (s₁.setTop (mkF m 27 #[.val (.int p1)] [(.int (2 : Int32))])) _
          exact retOut X0 hx (t := .int) Bd.returns rfl (Or.inl ⟨rfl, Or.inl rfl, _, rfl⟩) (hb hby d17_27) hr
        · show QMuC Z p1 h0 n0 _ s₁.heap _
          rw [e0]
          exact ⟨by rw [emu], N0, rfl⟩
      · skip
        have emu : own_mu p1 = (3 : Int32) := by unfold own_mu; rw [if_neg c0, if_neg c1, if_neg c2]
        have pre78 : ∀ t, Steps p.tables e below (s₁.setTop (mkF m 27 #[.val (.int p1)] [(.int (3 : Int32))])) t → Steps p.tables e below (s₁.setTop (mkF m 0 #[.val (.int p1)] [])) t := by
          intro t kt
          show Steps p.tables e below (s₁.setTop (mkF m 0 #[.val (.int p1)] [])) _
          refine XS.iloadN X0.here hx rfl (hb hby d17_0) rfl ?_
          refine XS.ifNo X0.here hx rfl (hb hby d17_1) rfl ((if0 _ _).trans (feq (c0 : ¬ (p1 = (0 : Int32)))).1) ?_
          show Steps p.tables e below (s₁.setTop (mkF m 4 #[.val (.int p1)] [])) _
          refine XS.iloadN X0.here hx rfl (hb hby d17_4) rfl ?_
          refine XS.sipush X0.here hx rfl (hb hby d17_5) ?_
          refine XS.icmpYes X0.here hx rfl (pc0 := 8) (pc' := 15) rfl (hb hby d17_8) rfl (flt (c1 : ¬ (p1 < (128 : Int32)))).2.1 (by decide) (by decide) ?_
          show Steps p.tables e below (s₁.setTop (mkF m 15 #[.val (.int p1)] [])) _
          refine XS.iloadN X0.here hx rfl (hb hby d17_15) rfl ?_
          refine XS.sipush X0.here hx rfl (hb hby d17_16) ?_
          refine XS.icmpYes X0.here hx rfl (pc0 := 19) (pc' := 26) rfl (hb hby d17_19) rfl (flt (c2 : ¬ (p1 < (2048 : Int32)))).2.1 (by decide) (by decide) ?_
          show Steps p.tables e below (s₁.setTop (mkF m 26 #[.val (.int p1)] [])) _
          refine XS.iconst X0.here hx rfl (hb hby d17_26) ?_
          exact kt
        obtain ⟨fs, hr, hrun, hended, hW, hsame⟩ := X0.leave (v := some (.int (3 : Int32))) (fun h => by rw [Bd.returns] at h; cases h)
        refine ⟨_, _, (pre0 _ (pre78 _ ?_)), hrun, hended, _, _, rfl, ?_, ⟨_, rfl⟩, hW, hsame.mono (by decide) (by decide)⟩
        · show Steps p.tables e below (s₁.setTop (mkF m 27 #[.val (.int p1)] [(.int (3 : Int32))])) _
          exact retOut X0 hx (t := .int) Bd.returns rfl (Or.inl ⟨rfl, Or.inl rfl, _, rfl⟩) (hb hby d17_27) hr
        · show QMuC Z p1 h0 n0 _ s₁.heap _
          rw [e0]
          exact ⟨by rw [emu], N0, rfl⟩
theorem ef_Byt (m : MethodId) (x0 : Int32) : entryFrame m #[(.int x0)] 3 = mkF m 0 #[.val (.int x0), .unset, .unset] [] := by (first | (simp [entryFrame, mkF, argsToLocals, Value.category]; done) | rfl)
def QByt (Z : State) (p1 : Int32) (h0 : Heap) (n0 : Nat) (v : Option Value) (h : Heap) (L : List Loc) : Prop := v = some (.int (own_mu p1)) ∧ Fr n0 L ∧ h = h0
theorem pn_com_example_corvid_corvid_classfile_ConstantPoolModifiedUtf8LengthPinLaw : plainName "com/example/corvid/corvid/classfile/ConstantPoolModifiedUtf8LengthPinLaw" = true := by first | (simp [plainName, overriddenIn]; done) | decide +kernel
theorem d11_0 : decode method_3_code 0 = .ok (.iload_n 0, 1) := by decide +kernel
theorem d11_1 : decode method_3_code 1 = .ok (.istore_n 1, 1) := by decide +kernel
theorem d11_2 : decode method_3_code 2 = .ok (.iconst 1, 1) := by decide +kernel
theorem d11_3 : decode method_3_code 3 = .ok (.istore_n 2, 1) := by decide +kernel
theorem d11_4 : decode method_3_code 4 = .ok (.iload_n 1, 1) := by decide +kernel
theorem d11_5 : decode method_3_code 5 = .ok (.ifCond .eq 10, 3) := by decide +kernel
theorem d11_15 : decode method_3_code 15 = .ok (.iload_n 2, 1) := by decide +kernel
theorem d11_16 : decode method_3_code 16 = .ok (.iconst 1, 1) := by decide +kernel
theorem d11_17 : decode method_3_code 17 = .ok (.iadd, 1) := by decide +kernel
theorem d11_18 : decode method_3_code 18 = .ok (.istore_n 2, 1) := by decide +kernel
theorem d11_19 : decode method_3_code 19 = .ok (.iload_n 1, 1) := by decide +kernel
theorem d11_20 : decode method_3_code 20 = .ok (.sipush 2048, 3) := by decide +kernel
theorem d11_23 : decode method_3_code 23 = .ok (.if_icmp .lt 7, 3) := by decide +kernel
theorem d11_30 : decode method_3_code 30 = .ok (.iload_n 2, 1) := by decide +kernel
theorem d11_31 : decode method_3_code 31 = .ok (.ireturn, 1) := by decide +kernel
theorem d11_8 : decode method_3_code 8 = .ok (.iload_n 1, 1) := by decide +kernel
theorem d11_9 : decode method_3_code 9 = .ok (.sipush 128, 3) := by decide +kernel
theorem d11_12 : decode method_3_code 12 = .ok (.if_icmp .lt 7, 3) := by decide +kernel
theorem d11_26 : decode method_3_code 26 = .ok (.iload_n 2, 1) := by decide +kernel
theorem d11_27 : decode method_3_code 27 = .ok (.iconst 1, 1) := by decide +kernel
theorem d11_28 : decode method_3_code 28 = .ok (.iadd, 1) := by decide +kernel
theorem d11_29 : decode method_3_code 29 = .ok (.istore_n 2, 1) := by decide +kernel
set_option maxRecDepth 65536 in
set_option maxHeartbeats 40000000 in
theorem rmByt (l : Launch) (Z : State) (a0 : Array Value) (hw : ∀ d ∈ tables_1, d.before a0 Z = true) (ws : List Jvm.Cond) (p1 : Int32) (h0 : Heap) (n0 : Nat) (Z0 : n0 ≤ h0.size)  :
    MetFree l (⟨"com/example/corvid/corvid/classfile/ConstantPoolModifiedUtf8LengthPinLaw", "bytes", "(C)I"⟩ : MethodName) (head1 (Jvm.Cond.code (⟨"com/example/corvid/corvid/classfile/ConstantPoolModifiedUtf8LengthPinLaw", "bytes", "(C)I"⟩ : MethodName) method_3_code 3 (some .int) :: ws) ({ frames := 0, cells := 0, slots := 0, locals := 0 } : Room)) (fun a U => a = #[(.int p1)] ∧ Z.Warmed39 U.vm ∧ U.heap = h0) (fun _ _ _ _ _ => True) (fun _ U o U' => ∃ v L, o = .returned v ∧ QByt Z p1 h0 n0 v U'.heap L ∧ FrameEnd U o U' L ({ frames := 0, cells := 0, slots := 0, locals := 0 } : Room).cells ({ frames := 0, cells := 0, slots := 0, locals := 0 } : Room).slots) := by
  refine MetFree.of_bodySF (plainFor_of_name pn_com_example_corvid_corvid_classfile_ConstantPoolModifiedUtf8LengthPinLaw) hisR ?_
  intro p e s m args below meth c s₁ Bd hml0 hP hK
  obtain ⟨rfl, hZ, hh⟩ := hP
  have hx := Bd.exec
  have hby := Bd.bytes
  have hml : c.maxLocals = 3 := hml0
  have hown : s.vm.findClass "com/example/corvid/corvid/classfile/ConstantPoolModifiedUtf8LengthPinLaw" = some m.cls := findClass_of_methodNamed Bd.named
  have hnm := (name_of_methodNamed Bd.named Bd.method).1
  have X0 : Stand p l e ({ frames := 0, cells := 0, slots := 0, locals := 0 } : Room) s m #[(.int p1)] below meth c s₁ [] 0 0 := Stand.of_body Bd
  have e0 : s₁.heap = h0 := by rw [← hh, Bd.state]; rfl
  have N0 := Fr.nil n0
  have pre0 : ∀ t, Steps p.tables e below (s₁.setTop (mkF m 0 #[.val (.int p1), .unset, .unset] [])) t → Steps p.tables e below (s₁.setTop (entryFrame m #[(.int p1)] 3)) t := fun t k => castTop (ef_Byt m p1) k
  by_cases c0 : p1 = (0 : Int32)
  · skip
    have emu : own_mu p1 = ((1 : Int32) + (1 : Int32)) := by unfold own_mu; rw [if_pos c0]; decide
    have pre79 : ∀ t, Steps p.tables e below (s₁.setTop (mkF m 31 #[.val (.int p1), .val (.int p1), .val (.int ((1 : Int32) + (1 : Int32)))] [(.int ((1 : Int32) + (1 : Int32)))])) t → Steps p.tables e below (s₁.setTop (mkF m 0 #[.val (.int p1), .unset, .unset] [])) t := by
      intro t kt
      show Steps p.tables e below (s₁.setTop (mkF m 0 #[.val (.int p1), .unset, .unset] [])) _
      refine XS.iloadN X0.here hx rfl (hb hby d11_0) rfl ?_
      refine XS.istoreN X0.here hx rfl (hb hby d11_1) rfl (l' := #[.val (.int p1), .val (.int p1), .unset]) rfl ?_
      refine XS.iconst X0.here hx rfl (hb hby d11_2) ?_
      refine XS.istoreN X0.here hx rfl (hb hby d11_3) rfl (l' := #[.val (.int p1), .val (.int p1), .val (.int (1 : Int32))]) rfl ?_
      refine XS.iloadN X0.here hx rfl (hb hby d11_4) rfl ?_
      refine XS.ifYes X0.here hx rfl (pc0 := 5) (pc' := 15) rfl (hb hby d11_5) rfl ((if0 _ _).trans (teq (c0 : p1 = (0 : Int32))).1) (by decide) (by decide) ?_
      show Steps p.tables e below (s₁.setTop (mkF m 15 #[.val (.int p1), .val (.int p1), .val (.int (1 : Int32))] [])) _
      refine XS.iloadN X0.here hx rfl (hb hby d11_15) rfl ?_
      refine XS.iconst X0.here hx rfl (hb hby d11_16) ?_
      refine XS.iadd X0.here hx rfl (hb hby d11_17) rfl ?_
      refine XS.istoreN X0.here hx rfl (hb hby d11_18) rfl (l' := #[.val (.int p1), .val (.int p1), .val (.int ((1 : Int32) + (1 : Int32)))]) rfl ?_
      refine XS.iloadN X0.here hx rfl (hb hby d11_19) rfl ?_
      refine XS.sipush X0.here hx rfl (hb hby d11_20) ?_
      refine XS.icmpYes X0.here hx rfl (pc0 := 23) (pc' := 30) rfl (hb hby d11_23) rfl (tlt (by rw [c0]; decide : p1 < (2048 : Int32))).1 (by decide) (by decide) ?_
      show Steps p.tables e below (s₁.setTop (mkF m 30 #[.val (.int p1), .val (.int p1), .val (.int ((1 : Int32) + (1 : Int32)))] [])) _
      refine XS.iloadN X0.here hx rfl (hb hby d11_30) rfl ?_
      exact kt
    obtain ⟨fs, hr, hrun, hended, hW, hsame⟩ := X0.leave (v := some (.int ((1 : Int32) + (1 : Int32)))) (fun h => by rw [Bd.returns] at h; cases h)
    refine ⟨_, _, (pre0 _ (pre79 _ ?_)), hrun, hended, _, _, rfl, ?_, ⟨_, rfl⟩, hW, hsame.mono (by decide) (by decide)⟩
    · show Steps p.tables e below (s₁.setTop (mkF m 31 #[.val (.int p1), .val (.int p1), .val (.int ((1 : Int32) + (1 : Int32)))] [(.int ((1 : Int32) + (1 : Int32)))])) _
      exact retOut X0 hx (t := .int) Bd.returns rfl (Or.inl ⟨rfl, Or.inl rfl, _, rfl⟩) (hb hby d11_31) hr
    · show QByt Z p1 h0 n0 _ s₁.heap _
      rw [e0]
      exact ⟨by rw [emu], N0, rfl⟩
  · skip
    by_cases c1 : p1 < (128 : Int32)
    · skip
      have emu : own_mu p1 = (1 : Int32) := by unfold own_mu; rw [if_neg c0, if_pos c1]
      have pre80 : ∀ t, Steps p.tables e below (s₁.setTop (mkF m 31 #[.val (.int p1), .val (.int p1), .val (.int (1 : Int32))] [(.int (1 : Int32))])) t → Steps p.tables e below (s₁.setTop (mkF m 0 #[.val (.int p1), .unset, .unset] [])) t := by
        intro t kt
        show Steps p.tables e below (s₁.setTop (mkF m 0 #[.val (.int p1), .unset, .unset] [])) _
        refine XS.iloadN X0.here hx rfl (hb hby d11_0) rfl ?_
        refine XS.istoreN X0.here hx rfl (hb hby d11_1) rfl (l' := #[.val (.int p1), .val (.int p1), .unset]) rfl ?_
        refine XS.iconst X0.here hx rfl (hb hby d11_2) ?_
        refine XS.istoreN X0.here hx rfl (hb hby d11_3) rfl (l' := #[.val (.int p1), .val (.int p1), .val (.int (1 : Int32))]) rfl ?_
        refine XS.iloadN X0.here hx rfl (hb hby d11_4) rfl ?_
        refine XS.ifNo X0.here hx rfl (hb hby d11_5) rfl ((if0 _ _).trans (feq (c0 : ¬ (p1 = (0 : Int32)))).1) ?_
        show Steps p.tables e below (s₁.setTop (mkF m 8 #[.val (.int p1), .val (.int p1), .val (.int (1 : Int32))] [])) _
        refine XS.iloadN X0.here hx rfl (hb hby d11_8) rfl ?_
        refine XS.sipush X0.here hx rfl (hb hby d11_9) ?_
        refine XS.icmpYes X0.here hx rfl (pc0 := 12) (pc' := 19) rfl (hb hby d11_12) rfl (tlt (c1 : p1 < (128 : Int32))).1 (by decide) (by decide) ?_
        show Steps p.tables e below (s₁.setTop (mkF m 19 #[.val (.int p1), .val (.int p1), .val (.int (1 : Int32))] [])) _
        refine XS.iloadN X0.here hx rfl (hb hby d11_19) rfl ?_
        refine XS.sipush X0.here hx rfl (hb hby d11_20) ?_
        refine XS.icmpYes X0.here hx rfl (pc0 := 23) (pc' := 30) rfl (hb hby d11_23) rfl (tlt (Int32.lt_trans c1 (by decide) : p1 < (2048 : Int32))).1 (by decide) (by decide) ?_
        show Steps p.tables e below (s₁.setTop (mkF m 30 #[.val (.int p1), .val (.int p1), .val (.int (1 : Int32))] [])) _
        refine XS.iloadN X0.here hx rfl (hb hby d11_30) rfl ?_
        exact kt
      obtain ⟨fs, hr, hrun, hended, hW, hsame⟩ := X0.leave (v := some (.int (1 : Int32))) (fun h => by rw [Bd.returns] at h; cases h)
      refine ⟨_, _, (pre0 _ (pre80 _ ?_)), hrun, hended, _, _, rfl, ?_, ⟨_, rfl⟩, hW, hsame.mono (by decide) (by decide)⟩
      · show Steps p.tables e below (s₁.setTop (mkF m 31 #[.val (.int p1), .val (.int p1), .val (.int (1 : Int32))] [(.int (1 : Int32))])) _
        exact retOut X0 hx (t := .int) Bd.returns rfl (Or.inl ⟨rfl, Or.inl rfl, _, rfl⟩) (hb hby d11_31) hr
      · show QByt Z p1 h0 n0 _ s₁.heap _
        rw [e0]
        exact ⟨by rw [emu], N0, rfl⟩
    · skip
      by_cases c2 : p1 < (2048 : Int32)
      · skip
        have emu : own_mu p1 = ((1 : Int32) + (1 : Int32)) := by unfold own_mu; rw [if_neg c0, if_neg c1, if_pos c2]; decide
        have pre81 : ∀ t, Steps p.tables e below (s₁.setTop (mkF m 31 #[.val (.int p1), .val (.int p1), .val (.int ((1 : Int32) + (1 : Int32)))] [(.int ((1 : Int32) + (1 : Int32)))])) t → Steps p.tables e below (s₁.setTop (mkF m 0 #[.val (.int p1), .unset, .unset] [])) t := by
          intro t kt
          show Steps p.tables e below (s₁.setTop (mkF m 0 #[.val (.int p1), .unset, .unset] [])) _
          refine XS.iloadN X0.here hx rfl (hb hby d11_0) rfl ?_
          refine XS.istoreN X0.here hx rfl (hb hby d11_1) rfl (l' := #[.val (.int p1), .val (.int p1), .unset]) rfl ?_
          refine XS.iconst X0.here hx rfl (hb hby d11_2) ?_
          refine XS.istoreN X0.here hx rfl (hb hby d11_3) rfl (l' := #[.val (.int p1), .val (.int p1), .val (.int (1 : Int32))]) rfl ?_
          refine XS.iloadN X0.here hx rfl (hb hby d11_4) rfl ?_
          refine XS.ifNo X0.here hx rfl (hb hby d11_5) rfl ((if0 _ _).trans (feq (c0 : ¬ (p1 = (0 : Int32)))).1) ?_
          show Steps p.tables e below (s₁.setTop (mkF m 8 #[.val (.int p1), .val (.int p1), .val (.int (1 : Int32))] [])) _
          refine XS.iloadN X0.here hx rfl (hb hby d11_8) rfl ?_
          refine XS.sipush X0.here hx rfl (hb hby d11_9) ?_
          refine XS.icmpNo X0.here hx rfl (hb hby d11_12) rfl (flt (c1 : ¬ (p1 < (128 : Int32)))).1 ?_
          show Steps p.tables e below (s₁.setTop (mkF m 15 #[.val (.int p1), .val (.int p1), .val (.int (1 : Int32))] [])) _
          refine XS.iloadN X0.here hx rfl (hb hby d11_15) rfl ?_
          refine XS.iconst X0.here hx rfl (hb hby d11_16) ?_
          refine XS.iadd X0.here hx rfl (hb hby d11_17) rfl ?_
          refine XS.istoreN X0.here hx rfl (hb hby d11_18) rfl (l' := #[.val (.int p1), .val (.int p1), .val (.int ((1 : Int32) + (1 : Int32)))]) rfl ?_
          refine XS.iloadN X0.here hx rfl (hb hby d11_19) rfl ?_
          refine XS.sipush X0.here hx rfl (hb hby d11_20) ?_
          refine XS.icmpYes X0.here hx rfl (pc0 := 23) (pc' := 30) rfl (hb hby d11_23) rfl (tlt (c2 : p1 < (2048 : Int32))).1 (by decide) (by decide) ?_
          show Steps p.tables e below (s₁.setTop (mkF m 30 #[.val (.int p1), .val (.int p1), .val (.int ((1 : Int32) + (1 : Int32)))] [])) _
          refine XS.iloadN X0.here hx rfl (hb hby d11_30) rfl ?_
          exact kt
        obtain ⟨fs, hr, hrun, hended, hW, hsame⟩ := X0.leave (v := some (.int ((1 : Int32) + (1 : Int32)))) (fun h => by rw [Bd.returns] at h; cases h)
        refine ⟨_, _, (pre0 _ (pre81 _ ?_)), hrun, hended, _, _, rfl, ?_, ⟨_, rfl⟩, hW, hsame.mono (by decide) (by decide)⟩
        · show Steps p.tables e below (s₁.setTop (mkF m 31 #[.val (.int p1), .val (.int p1), .val (.int ((1 : Int32) + (1 : Int32)))] [(.int ((1 : Int32) + (1 : Int32)))])) _
          exact retOut X0 hx (t := .int) Bd.returns rfl (Or.inl ⟨rfl, Or.inl rfl, _, rfl⟩) (hb hby d11_31) hr
        · show QByt Z p1 h0 n0 _ s₁.heap _
          rw [e0]
          exact ⟨by rw [emu], N0, rfl⟩
      · skip
        have emu : own_mu p1 = (((1 : Int32) + (1 : Int32)) + (1 : Int32)) := by unfold own_mu; rw [if_neg c0, if_neg c1, if_neg c2]; decide
        have pre82 : ∀ t, Steps p.tables e below (s₁.setTop (mkF m 31 #[.val (.int p1), .val (.int p1), .val (.int (((1 : Int32) + (1 : Int32)) + (1 : Int32)))] [(.int (((1 : Int32) + (1 : Int32)) + (1 : Int32)))])) t → Steps p.tables e below (s₁.setTop (mkF m 0 #[.val (.int p1), .unset, .unset] [])) t := by
          intro t kt
          show Steps p.tables e below (s₁.setTop (mkF m 0 #[.val (.int p1), .unset, .unset] [])) _
          refine XS.iloadN X0.here hx rfl (hb hby d11_0) rfl ?_
          refine XS.istoreN X0.here hx rfl (hb hby d11_1) rfl (l' := #[.val (.int p1), .val (.int p1), .unset]) rfl ?_
          refine XS.iconst X0.here hx rfl (hb hby d11_2) ?_
          refine XS.istoreN X0.here hx rfl (hb hby d11_3) rfl (l' := #[.val (.int p1), .val (.int p1), .val (.int (1 : Int32))]) rfl ?_
          refine XS.iloadN X0.here hx rfl (hb hby d11_4) rfl ?_
          refine XS.ifNo X0.here hx rfl (hb hby d11_5) rfl ((if0 _ _).trans (feq (c0 : ¬ (p1 = (0 : Int32)))).1) ?_
          show Steps p.tables e below (s₁.setTop (mkF m 8 #[.val (.int p1), .val (.int p1), .val (.int (1 : Int32))] [])) _
          refine XS.iloadN X0.here hx rfl (hb hby d11_8) rfl ?_
          refine XS.sipush X0.here hx rfl (hb hby d11_9) ?_
          refine XS.icmpNo X0.here hx rfl (hb hby d11_12) rfl (flt (c1 : ¬ (p1 < (128 : Int32)))).1 ?_
          show Steps p.tables e below (s₁.setTop (mkF m 15 #[.val (.int p1), .val (.int p1), .val (.int (1 : Int32))] [])) _
          refine XS.iloadN X0.here hx rfl (hb hby d11_15) rfl ?_
          refine XS.iconst X0.here hx rfl (hb hby d11_16) ?_
          refine XS.iadd X0.here hx rfl (hb hby d11_17) rfl ?_
          refine XS.istoreN X0.here hx rfl (hb hby d11_18) rfl (l' := #[.val (.int p1), .val (.int p1), .val (.int ((1 : Int32) + (1 : Int32)))]) rfl ?_
          refine XS.iloadN X0.here hx rfl (hb hby d11_19) rfl ?_
          refine XS.sipush X0.here hx rfl (hb hby d11_20) ?_
          refine XS.icmpNo X0.here hx rfl (hb hby d11_23) rfl (flt (c2 : ¬ (p1 < (2048 : Int32)))).1 ?_
          show Steps p.tables e below (s₁.setTop (mkF m 26 #[.val (.int p1), .val (.int p1), .val (.int ((1 : Int32) + (1 : Int32)))] [])) _
          refine XS.iloadN X0.here hx rfl (hb hby d11_26) rfl ?_
          refine XS.iconst X0.here hx rfl (hb hby d11_27) ?_
          refine XS.iadd X0.here hx rfl (hb hby d11_28) rfl ?_
          refine XS.istoreN X0.here hx rfl (hb hby d11_29) rfl (l' := #[.val (.int p1), .val (.int p1), .val (.int (((1 : Int32) + (1 : Int32)) + (1 : Int32)))]) rfl ?_
          refine XS.iloadN X0.here hx rfl (hb hby d11_30) rfl ?_
          exact kt
        obtain ⟨fs, hr, hrun, hended, hW, hsame⟩ := X0.leave (v := some (.int (((1 : Int32) + (1 : Int32)) + (1 : Int32)))) (fun h => by rw [Bd.returns] at h; cases h)
        refine ⟨_, _, (pre0 _ (pre82 _ ?_)), hrun, hended, _, _, rfl, ?_, ⟨_, rfl⟩, hW, hsame.mono (by decide) (by decide)⟩
        · show Steps p.tables e below (s₁.setTop (mkF m 31 #[.val (.int p1), .val (.int p1), .val (.int (((1 : Int32) + (1 : Int32)) + (1 : Int32)))] [(.int (((1 : Int32) + (1 : Int32)) + (1 : Int32)))])) _
          exact retOut X0 hx (t := .int) Bd.returns rfl (Or.inl ⟨rfl, Or.inl rfl, _, rfl⟩) (hb hby d11_31) hr
        · show QByt Z p1 h0 n0 _ s₁.heap _
          rw [e0]
          exact ⟨by rw [emu], N0, rfl⟩
theorem ef_MuS (m : MethodId) (x0 : Addr) : entryFrame m #[(.ref x0)] 3 = mkF m 0 #[.val (.ref x0), .unset, .unset] [] := by (first | (simp [entryFrame, mkF, argsToLocals, Value.category]; done) | rfl)
def QMuS (Z : State) (x1 : Addr) (cs : List Int32) (zc : Int32) (fm : Value) (h0 : Heap) (n0 : Nat) (v : Option Value) (h : Heap) (L : List Loc) : Prop := v = some (.int (own_acc cs cs.length)) ∧ Fr n0 L ∧ h = h0
theorem d5_0 : decode prog_14_method_13_code 0 = .ok (.iconst 0, 1) := by decide +kernel
theorem d5_1 : decode prog_14_method_13_code 1 = .ok (.istore_n 1, 1) := by decide +kernel
theorem d5_2 : decode prog_14_method_13_code 2 = .ok (.iconst 0, 1) := by decide +kernel
theorem d5_3 : decode prog_14_method_13_code 3 = .ok (.istore_n 2, 1) := by decide +kernel
theorem d5_4 : decode prog_14_method_13_code 4 = .ok (.iload_n 2, 1) := by decide +kernel
theorem d5_5 : decode prog_14_method_13_code 5 = .ok (.aload_n 0, 1) := by decide +kernel
theorem d5_6 : decode prog_14_method_13_code 6 = .ok (.invokevirtual 129, 3) := by decide +kernel
theorem pd___I : parseMethodDescriptor "()I" = some ⟨[], some .int⟩ := by decide +kernel
theorem d5_9 : decode prog_14_method_13_code 9 = .ok (.if_icmp .ge 20, 3) := by decide +kernel
theorem d5_29 : decode prog_14_method_13_code 29 = .ok (.iload_n 1, 1) := by decide +kernel
theorem d5_30 : decode prog_14_method_13_code 30 = .ok (.ireturn, 1) := by decide +kernel
theorem d5_12 : decode prog_14_method_13_code 12 = .ok (.iload_n 1, 1) := by decide +kernel
theorem d5_13 : decode prog_14_method_13_code 13 = .ok (.aload_n 0, 1) := by decide +kernel
theorem d5_14 : decode prog_14_method_13_code 14 = .ok (.iload_n 2, 1) := by decide +kernel
theorem d5_15 : decode prog_14_method_13_code 15 = .ok (.invokevirtual 134, 3) := by decide +kernel
theorem pd__I_C : parseMethodDescriptor "(I)C" = some ⟨[.int], some .char⟩ := by decide +kernel
theorem d5_18 : decode prog_14_method_13_code 18 = .ok (.invokestatic 138, 3) := by decide +kernel
theorem pd__C_I : parseMethodDescriptor "(C)I" = some ⟨[.char], some .int⟩ := by decide +kernel
theorem d5_21 : decode prog_14_method_13_code 21 = .ok (.iadd, 1) := by decide +kernel
theorem d5_22 : decode prog_14_method_13_code 22 = .ok (.istore_n 1, 1) := by decide +kernel
theorem d5_23 : decode prog_14_method_13_code 23 = .ok (.iinc 2 1, 3) := by decide +kernel
theorem d5_26 : decode prog_14_method_13_code 26 = .ok (.goto (-22), 3) := by decide +kernel
set_option maxRecDepth 65536 in
set_option maxHeartbeats 40000000 in
theorem rmMuS (l : Launch) (Z : State) (a0 : Array Value) (hw : ∀ d ∈ tables_1, d.before a0 Z = true) (ws : List Jvm.Cond) (x1 : Addr) (cs : List Int32) (zc : Int32) (fm : Value) (h0 : Heap) (n0 : Nat) (Z0 : n0 ≤ h0.size) (SC : Sta Z h0 "java/lang/String" "COMPACT_STRINGS" "Z" (.int zc)) (hzc : ¬ zc = (0 : Int32)) (SFm : Sta Z h0 "jdk/internal/util/Preconditions" "SIOOBE_FORMATTER" "Ljava/util/function/BiFunction;" fm) (rf : fm.isRef = true) (SA : Sta Z h0 "java/lang/StringUTF16" "$assertionsDisabled" "Z" (.int (1 : Int32))) (SH : Sta Z h0 "java/lang/StringUTF16" "HI_BYTE_SHIFT" "I" (.int (0 : Int32))) (SL : Sta Z h0 "java/lang/StringUTF16" "LO_BYTE_SHIFT" "I" (.int (8 : Int32))) (EX : Exa Z h0 x1 "java/lang/String") (SP : own_str Z h0 x1 cs) (hn : cs.length ≤ 5) (hcs : ∀ i, i < cs.length → nar .char (cs.getD i 0) = cs.getD i 0) :
    MetFree l (⟨"com/example/corvid/corvid/classfile/ConstantPool", "modifiedUtf8Length", "(Ljava/lang/String;)I"⟩ : MethodName) (head1 (Jvm.Cond.code (⟨"com/example/corvid/corvid/classfile/ConstantPool", "modifiedUtf8Length", "(Ljava/lang/String;)I"⟩ : MethodName) prog_14_method_13_code 3 (some .int) :: ws) ({ frames := 5, cells := 0, slots := 0, locals := 75 } : Room)) (fun a U => a = #[(.ref x1)] ∧ Z.Warmed39 U.vm ∧ U.heap = h0) (fun _ _ _ _ _ => True) (fun _ U o U' => ∃ v L, o = .returned v ∧ QMuS Z x1 cs zc fm h0 n0 v U'.heap L ∧ FrameEnd U o U' L ({ frames := 5, cells := 0, slots := 0, locals := 75 } : Room).cells ({ frames := 5, cells := 0, slots := 0, locals := 75 } : Room).slots) := by
  refine MetFree.of_bodySF (plainFor_of_name pn_com_example_corvid_corvid_classfile_ConstantPool) hisR ?_
  intro p e s m args below meth c s₁ Bd hml0 hP hK
  obtain ⟨rfl, hZ, hh⟩ := hP
  have hx := Bd.exec
  have hby := Bd.bytes
  have hml : c.maxLocals = 3 := hml0
  have hown : s.vm.findClass "com/example/corvid/corvid/classfile/ConstantPool" = some m.cls := findClass_of_methodNamed Bd.named
  have hnm := (name_of_methodNamed Bd.named Bd.method).1
  have X0 : Stand p l e ({ frames := 5, cells := 0, slots := 0, locals := 75 } : Room) s m #[(.ref x1)] below meth c s₁ [] 0 0 := Stand.of_body Bd
  have e0 : s₁.heap = h0 := by rw [← hh, Bd.state]; rfl
  have N0 := Fr.nil n0
  have pre0 : ∀ t, Steps p.tables e below (s₁.setTop (mkF m 0 #[.val (.ref x1), .unset, .unset] [])) t → Steps p.tables e below (s₁.setTop (entryFrame m #[(.ref x1)] 3)) t := fun t k => castTop (ef_MuS m x1) k
  obtain ⟨cq83, kq83, q83a, q83b, q83c⟩ := isOf hZ e0 EX
  obtain ⟨_, _, ⟨T83, L83, k83, n83⟩, -, X83, ⟨Lc83, hQ83, l83, y83, z83⟩, st83⟩ := X0.virtualBack hx (y := (⟨"java/lang/String", "length", "()I"⟩ : MethodName)) (z := (⟨"java/lang/String", "length", "()I"⟩ : MethodName)) hown (mvT hZ (tw hw 32 rfl)) (mvT hZ (tw hw 33 rfl)) (notFace_of_selects (args := #[]) (mvT hZ (tw hw 35 rfl))) (mvT hZ (tw hw 35 rfl)) (mvT hZ (tw hw 34 rfl)) (by decide) (backOf (W := 1) (rmLn l Z a0 hw [] x1 cs zc h0 n0 Z0 SC hzc SP (by omega)) hZ (tw hw 36 rfl) (tw hw 8 rfl) (by decide) (by decide)) q83a q83c (g := (mkF m 6 #[.val (.ref x1), .val (.int (0 : Int32)), .val (.int (0 : Int32))] [(.ref x1), (.int (0 : Int32))])) rfl (by rw [hml]; rfl) (Steps.refl _) (argsL := []) (rest := [(.int (0 : Int32))]) (lenOf pd___I rfl) rfl (by show 2 * 0 + _ ≤ _; exact Nat.le_of_eq rfl) (hb hby d5_6) (fun _ _ => ⟨rfl, e0, (by decide : 0 + 0 ≤ _), (by decide : 0 + 0 ≤ _)⟩)
  dsimp only [Pt.U, Pt.locs, Pt.cells, Pt.slots] at X83 l83 y83 z83 st83 hQ83
  subst l83 y83 z83
  obtain ⟨rfl, N83q, EQ83⟩ := hQ83
  have N83 := Fr.app N0 N83q
  have Z83 : n0 ≤ T83.heap.size := by rw [EQ83]; exact Z0
  have pre84 : ∀ t, Steps p.tables e below (T83.setTop (mkF m 9 #[.val (.ref x1), .val (.int (0 : Int32)), .val (.int (0 : Int32))] [(.int (Int32.ofNat cs.length)), (.int (0 : Int32))])) t → Steps p.tables e below (s₁.setTop (mkF m 0 #[.val (.ref x1), .unset, .unset] [])) t := by
    intro t kt
    show Steps p.tables e below (s₁.setTop (mkF m 0 #[.val (.ref x1), .unset, .unset] [])) _
    refine XS.iconst X0.here hx rfl (hb hby d5_0) ?_
    refine XS.istoreN X0.here hx rfl (hb hby d5_1) rfl (l' := #[.val (.ref x1), .val (.int (0 : Int32)), .unset]) rfl ?_
    refine XS.iconst X0.here hx rfl (hb hby d5_2) ?_
    refine XS.istoreN X0.here hx rfl (hb hby d5_3) rfl (l' := #[.val (.ref x1), .val (.int (0 : Int32)), .val (.int (0 : Int32))]) rfl ?_
    show Steps p.tables e below (s₁.setTop (mkF m 4 #[.val (.ref x1), .val (.int (0 : Int32)), .val (.int (0 : Int32))] [])) _
    refine XS.iloadN X0.here hx rfl (hb hby d5_4) rfl ?_
    refine XS.aloadN X0.here hx rfl (hb hby d5_5) rfl rfl ?_
    refine st83.trans ?_
    exact kt
  by_cases q0 : 0 < cs.length
  · skip
    have f86 := (EQ83 ▸ SC)
    have f87 := (EQ83 ▸ SFm)
    have f88 := (EQ83 ▸ SA)
    have f89 := (EQ83 ▸ SH)
    have f90 := (EQ83 ▸ SL)
    have f91 := (EQ83 ▸ SP)
    have f93 := (EQ83 ▸ EX)
    obtain ⟨cq92, kq92, q92a, q92b, q92c⟩ := isOf hZ rfl f93
    obtain ⟨_, _, ⟨T92, L92, k92, n92⟩, -, X92, ⟨Lc92, hQ92, l92, y92, z92⟩, st92⟩ := X83.virtualBack hx (y := (⟨"java/lang/String", "charAt", "(I)C"⟩ : MethodName)) (z := (⟨"java/lang/String", "charAt", "(I)C"⟩ : MethodName)) hown (mvT hZ (tw hw 56 rfl)) (mvT hZ (tw hw 57 rfl)) (notFace_of_selects (args := #[]) (mvT hZ (tw hw 59 rfl))) (mvT hZ (tw hw 59 rfl)) (mvT hZ (tw hw 58 rfl)) (by decide) (backOf (W := 1) (rmCh l Z a0 hw [] x1 cs 0 zc fm T83.heap n0 Z83 f86 hzc f87 rf f88 f89 f90 f91 (by omega) q0 (hcs 0 q0)) hZ (tw hw 60 rfl) (tw hw 8 rfl) (by decide) (by decide)) q92a q92c (g := (mkF m 15 #[.val (.ref x1), .val (.int (0 : Int32)), .val (.int (0 : Int32))] [(.int (0 : Int32)), (.ref x1), (.int (0 : Int32))])) rfl (by rw [hml]; rfl) (Steps.refl _) (argsL := [(.int (0 : Int32))]) (rest := [(.int (0 : Int32))]) (lenOf pd__I_C rfl) rfl (by show 2 * 0 + _ ≤ _; exact Nat.le_of_eq rfl) (hb hby d5_15) (fun _ _ => ⟨rfl, rfl, (by decide : 0 + 0 ≤ _), (by decide : 0 + 0 ≤ _)⟩)
    dsimp only [Pt.U, Pt.locs, Pt.cells, Pt.slots] at X92 l92 y92 z92 st92 hQ92
    subst l92 y92 z92
    obtain ⟨rfl, N92q, EQ92⟩ := hQ92
    have N92 := Fr.app N83 N92q
    have Z92 : n0 ≤ T92.heap.size := by rw [EQ92]; exact Z83
    obtain ⟨_, _, ⟨T94, L94, k94, n94⟩, -, X94, ⟨Lc94, hQ94, l94, y94, z94⟩, st94⟩ := Jvm.LawKit.callS X92 hx (y := (⟨"com/example/corvid/corvid/classfile/ConstantPool", "modifiedUtf8Length", "(C)I"⟩ : MethodName)) hown (mvT hZ (tw hw 78 rfl)) (mvT hZ (tw hw 79 rfl)) (mvT hZ (tw hw 30 rfl)) (mvT hZ (tw hw 80 rfl)) (by decide) (backOf (W := 1) (rmMuC l Z a0 hw [] (cs.getD 0 0) T92.heap n0 Z92) hZ (tw hw 80 rfl) (tw hw 30 rfl) (by decide) (by decide)) (g := (mkF m 18 #[.val (.ref x1), .val (.int (0 : Int32)), .val (.int (0 : Int32))] [(.int (cs.getD 0 0)), (.int (0 : Int32))])) rfl (by rw [hml]; rfl) (argsL := [(.int (cs.getD 0 0))]) (rest := [(.int (0 : Int32))]) (lenOf pd__C_I rfl) rfl (by show 2 * 0 + _ ≤ _; exact Nat.le_of_eq rfl) (hb hby d5_18) (fun _ _ => ⟨rfl, rfl, (by decide : 0 + 0 ≤ _), (by decide : 0 + 0 ≤ _)⟩)
    dsimp only [Pt.U, Pt.locs, Pt.cells, Pt.slots] at X94 l94 y94 z94 st94 hQ94
    subst l94 y94 z94
    obtain ⟨rfl, N94q, EQ94⟩ := hQ94
    have N94 := Fr.app N92 N94q
    have Z94 : n0 ≤ T94.heap.size := by rw [EQ94]; exact Z92
    have f95 := (EQ94 ▸ (EQ92 ▸ f86))
    have f96 := (EQ94 ▸ (EQ92 ▸ f91))
    have f98 := (EQ94 ▸ (EQ92 ▸ f93))
    obtain ⟨cq97, kq97, q97a, q97b, q97c⟩ := isOf hZ rfl f98
    obtain ⟨_, _, ⟨T97, L97, k97, n97⟩, -, X97, ⟨Lc97, hQ97, l97, y97, z97⟩, st97⟩ := X94.virtualBack hx (y := (⟨"java/lang/String", "length", "()I"⟩ : MethodName)) (z := (⟨"java/lang/String", "length", "()I"⟩ : MethodName)) hown (mvT hZ (tw hw 32 rfl)) (mvT hZ (tw hw 33 rfl)) (notFace_of_selects (args := #[]) (mvT hZ (tw hw 35 rfl))) (mvT hZ (tw hw 35 rfl)) (mvT hZ (tw hw 34 rfl)) (by decide) (backOf (W := 1) (rmLn l Z a0 hw [] x1 cs zc T94.heap n0 Z94 f95 hzc f96 (by omega)) hZ (tw hw 36 rfl) (tw hw 8 rfl) (by decide) (by decide)) q97a q97c (g := (mkF m 6 #[.val (.ref x1), .val (.int ((0 : Int32) + (own_mu (cs.getD 0 0)))), .val (.int (1 : Int32))] [(.ref x1), (.int (1 : Int32))])) rfl (by rw [hml]; rfl) (Steps.refl _) (argsL := []) (rest := [(.int (1 : Int32))]) (lenOf pd___I rfl) rfl (by show 2 * 0 + _ ≤ _; exact Nat.le_of_eq rfl) (hb hby d5_6) (fun _ _ => ⟨rfl, rfl, (by decide : 0 + 0 ≤ _), (by decide : 0 + 0 ≤ _)⟩)
    dsimp only [Pt.U, Pt.locs, Pt.cells, Pt.slots] at X97 l97 y97 z97 st97 hQ97
    subst l97 y97 z97
    obtain ⟨rfl, N97q, EQ97⟩ := hQ97
    have N97 := Fr.app N94 N97q
    have Z97 : n0 ≤ T97.heap.size := by rw [EQ97]; exact Z94
    have pre99 : ∀ t, Steps p.tables e below (T97.setTop (mkF m 9 #[.val (.ref x1), .val (.int ((0 : Int32) + (own_mu (cs.getD 0 0)))), .val (.int (1 : Int32))] [(.int (Int32.ofNat cs.length)), (.int (1 : Int32))])) t → Steps p.tables e below (T83.setTop (mkF m 9 #[.val (.ref x1), .val (.int (0 : Int32)), .val (.int (0 : Int32))] [(.int (Int32.ofNat cs.length)), (.int (0 : Int32))])) t := by
      intro t kt
      refine XS.icmpNo X83.here hx rfl (hb hby d5_9) rfl (tlt (by rw [show (0 : Int32) = Int32.ofNat 0 from by decide, own_lt (by omega) (by omega)]; omega : (0 : Int32) < (Int32.ofNat cs.length))).2.1 ?_
      show Steps p.tables e below (T83.setTop (mkF m 12 #[.val (.ref x1), .val (.int (0 : Int32)), .val (.int (0 : Int32))] [])) _
      refine XS.iloadN X83.here hx rfl (hb hby d5_12) rfl ?_
      refine XS.aloadN X83.here hx rfl (hb hby d5_13) rfl rfl ?_
      refine XS.iloadN X83.here hx rfl (hb hby d5_14) rfl ?_
      refine st92.trans ?_
      refine st94 _ ?_
      show Steps p.tables e below (T94.setTop (mkF m 21 #[.val (.ref x1), .val (.int (0 : Int32)), .val (.int (0 : Int32))] [(.int (own_mu (cs.getD 0 0))), (.int (0 : Int32))])) _
      refine XS.iadd X94.here hx rfl (hb hby d5_21) rfl ?_
      refine XS.istoreN X94.here hx rfl (hb hby d5_22) rfl (l' := #[.val (.ref x1), .val (.int ((0 : Int32) + (own_mu (cs.getD 0 0)))), .val (.int (0 : Int32))]) rfl ?_
      refine XS.iinc X94.here hx rfl (hb hby d5_23) rfl (l' := #[.val (.ref x1), .val (.int ((0 : Int32) + (own_mu (cs.getD 0 0)))), .val (.int ((0 : Int32) + (1 : Int32)))]) rfl ?_
      show Steps p.tables e below (T94.setTop (mkF m 26 #[.val (.ref x1), .val (.int ((0 : Int32) + (own_mu (cs.getD 0 0)))), .val (.int ((0 : Int32) + (1 : Int32)))] [])) _
      rw [show ((0 : Int32) + (1 : Int32)) = (1 : Int32) from by decide]
      show Steps p.tables e below (T94.setTop (mkF m 26 #[.val (.ref x1), .val (.int ((0 : Int32) + (own_mu (cs.getD 0 0)))), .val (.int (1 : Int32))] [])) _
      refine XS.goto X94.here hx rfl (pc0 := 26) (pc' := 4) rfl (hb hby d5_26) (by decide) (by decide) ?_
      show Steps p.tables e below (T94.setTop (mkF m 4 #[.val (.ref x1), .val (.int ((0 : Int32) + (own_mu (cs.getD 0 0)))), .val (.int (1 : Int32))] [])) _
      refine XS.iloadN X94.here hx rfl (hb hby d5_4) rfl ?_
      refine XS.aloadN X94.here hx rfl (hb hby d5_5) rfl rfl ?_
      refine st97.trans ?_
      exact kt
    by_cases q1 : 1 < cs.length
    · skip
      have f101 := (EQ97 ▸ f95)
      have f102 := (EQ97 ▸ (EQ94 ▸ (EQ92 ▸ f87)))
      have f103 := (EQ97 ▸ (EQ94 ▸ (EQ92 ▸ f88)))
      have f104 := (EQ97 ▸ (EQ94 ▸ (EQ92 ▸ f89)))
      have f105 := (EQ97 ▸ (EQ94 ▸ (EQ92 ▸ f90)))
      have f106 := (EQ97 ▸ f96)
      have f108 := (EQ97 ▸ f98)
      obtain ⟨cq107, kq107, q107a, q107b, q107c⟩ := isOf hZ rfl f108
      obtain ⟨_, _, ⟨T107, L107, k107, n107⟩, -, X107, ⟨Lc107, hQ107, l107, y107, z107⟩, st107⟩ := X97.virtualBack hx (y := (⟨"java/lang/String", "charAt", "(I)C"⟩ : MethodName)) (z := (⟨"java/lang/String", "charAt", "(I)C"⟩ : MethodName)) hown (mvT hZ (tw hw 56 rfl)) (mvT hZ (tw hw 57 rfl)) (notFace_of_selects (args := #[]) (mvT hZ (tw hw 59 rfl))) (mvT hZ (tw hw 59 rfl)) (mvT hZ (tw hw 58 rfl)) (by decide) (backOf (W := 1) (rmCh l Z a0 hw [] x1 cs 1 zc fm T97.heap n0 Z97 f101 hzc f102 rf f103 f104 f105 f106 (by omega) q1 (hcs 1 q1)) hZ (tw hw 60 rfl) (tw hw 8 rfl) (by decide) (by decide)) q107a q107c (g := (mkF m 15 #[.val (.ref x1), .val (.int ((0 : Int32) + (own_mu (cs.getD 0 0)))), .val (.int (1 : Int32))] [(.int (1 : Int32)), (.ref x1), (.int ((0 : Int32) + (own_mu (cs.getD 0 0))))])) rfl (by rw [hml]; rfl) (Steps.refl _) (argsL := [(.int (1 : Int32))]) (rest := [(.int ((0 : Int32) + (own_mu (cs.getD 0 0))))]) (lenOf pd__I_C rfl) rfl (by show 2 * 0 + _ ≤ _; exact Nat.le_of_eq rfl) (hb hby d5_15) (fun _ _ => ⟨rfl, rfl, (by decide : 0 + 0 ≤ _), (by decide : 0 + 0 ≤ _)⟩)
      dsimp only [Pt.U, Pt.locs, Pt.cells, Pt.slots] at X107 l107 y107 z107 st107 hQ107
      subst l107 y107 z107
      obtain ⟨rfl, N107q, EQ107⟩ := hQ107
      have N107 := Fr.app N97 N107q
      have Z107 : n0 ≤ T107.heap.size := by rw [EQ107]; exact Z97
      obtain ⟨_, _, ⟨T109, L109, k109, n109⟩, -, X109, ⟨Lc109, hQ109, l109, y109, z109⟩, st109⟩ := Jvm.LawKit.callS X107 hx (y := (⟨"com/example/corvid/corvid/classfile/ConstantPool", "modifiedUtf8Length", "(C)I"⟩ : MethodName)) hown (mvT hZ (tw hw 78 rfl)) (mvT hZ (tw hw 79 rfl)) (mvT hZ (tw hw 30 rfl)) (mvT hZ (tw hw 80 rfl)) (by decide) (backOf (W := 1) (rmMuC l Z a0 hw [] (cs.getD 1 0) T107.heap n0 Z107) hZ (tw hw 80 rfl) (tw hw 30 rfl) (by decide) (by decide)) (g := (mkF m 18 #[.val (.ref x1), .val (.int ((0 : Int32) + (own_mu (cs.getD 0 0)))), .val (.int (1 : Int32))] [(.int (cs.getD 1 0)), (.int ((0 : Int32) + (own_mu (cs.getD 0 0))))])) rfl (by rw [hml]; rfl) (argsL := [(.int (cs.getD 1 0))]) (rest := [(.int ((0 : Int32) + (own_mu (cs.getD 0 0))))]) (lenOf pd__C_I rfl) rfl (by show 2 * 0 + _ ≤ _; exact Nat.le_of_eq rfl) (hb hby d5_18) (fun _ _ => ⟨rfl, rfl, (by decide : 0 + 0 ≤ _), (by decide : 0 + 0 ≤ _)⟩)
      dsimp only [Pt.U, Pt.locs, Pt.cells, Pt.slots] at X109 l109 y109 z109 st109 hQ109
      subst l109 y109 z109
      obtain ⟨rfl, N109q, EQ109⟩ := hQ109
      have N109 := Fr.app N107 N109q
      have Z109 : n0 ≤ T109.heap.size := by rw [EQ109]; exact Z107
      have f110 := (EQ109 ▸ (EQ107 ▸ f101))
      have f111 := (EQ109 ▸ (EQ107 ▸ f106))
      have f113 := (EQ109 ▸ (EQ107 ▸ f108))
      obtain ⟨cq112, kq112, q112a, q112b, q112c⟩ := isOf hZ rfl f113
      obtain ⟨_, _, ⟨T112, L112, k112, n112⟩, -, X112, ⟨Lc112, hQ112, l112, y112, z112⟩, st112⟩ := X109.virtualBack hx (y := (⟨"java/lang/String", "length", "()I"⟩ : MethodName)) (z := (⟨"java/lang/String", "length", "()I"⟩ : MethodName)) hown (mvT hZ (tw hw 32 rfl)) (mvT hZ (tw hw 33 rfl)) (notFace_of_selects (args := #[]) (mvT hZ (tw hw 35 rfl))) (mvT hZ (tw hw 35 rfl)) (mvT hZ (tw hw 34 rfl)) (by decide) (backOf (W := 1) (rmLn l Z a0 hw [] x1 cs zc T109.heap n0 Z109 f110 hzc f111 (by omega)) hZ (tw hw 36 rfl) (tw hw 8 rfl) (by decide) (by decide)) q112a q112c (g := (mkF m 6 #[.val (.ref x1), .val (.int (((0 : Int32) + (own_mu (cs.getD 0 0))) + (own_mu (cs.getD 1 0)))), .val (.int (2 : Int32))] [(.ref x1), (.int (2 : Int32))])) rfl (by rw [hml]; rfl) (Steps.refl _) (argsL := []) (rest := [(.int (2 : Int32))]) (lenOf pd___I rfl) rfl (by show 2 * 0 + _ ≤ _; exact Nat.le_of_eq rfl) (hb hby d5_6) (fun _ _ => ⟨rfl, rfl, (by decide : 0 + 0 ≤ _), (by decide : 0 + 0 ≤ _)⟩)
      dsimp only [Pt.U, Pt.locs, Pt.cells, Pt.slots] at X112 l112 y112 z112 st112 hQ112
      subst l112 y112 z112
      obtain ⟨rfl, N112q, EQ112⟩ := hQ112
      have N112 := Fr.app N109 N112q
      have Z112 : n0 ≤ T112.heap.size := by rw [EQ112]; exact Z109
      have pre114 : ∀ t, Steps p.tables e below (T112.setTop (mkF m 9 #[.val (.ref x1), .val (.int (((0 : Int32) + (own_mu (cs.getD 0 0))) + (own_mu (cs.getD 1 0)))), .val (.int (2 : Int32))] [(.int (Int32.ofNat cs.length)), (.int (2 : Int32))])) t → Steps p.tables e below (T97.setTop (mkF m 9 #[.val (.ref x1), .val (.int ((0 : Int32) + (own_mu (cs.getD 0 0)))), .val (.int (1 : Int32))] [(.int (Int32.ofNat cs.length)), (.int (1 : Int32))])) t := by
        intro t kt
        refine XS.icmpNo X97.here hx rfl (hb hby d5_9) rfl (tlt (by rw [show (1 : Int32) = Int32.ofNat 1 from by decide, own_lt (by omega) (by omega)]; omega : (1 : Int32) < (Int32.ofNat cs.length))).2.1 ?_
        show Steps p.tables e below (T97.setTop (mkF m 12 #[.val (.ref x1), .val (.int ((0 : Int32) + (own_mu (cs.getD 0 0)))), .val (.int (1 : Int32))] [])) _
        refine XS.iloadN X97.here hx rfl (hb hby d5_12) rfl ?_
        refine XS.aloadN X97.here hx rfl (hb hby d5_13) rfl rfl ?_
        refine XS.iloadN X97.here hx rfl (hb hby d5_14) rfl ?_
        refine st107.trans ?_
        refine st109 _ ?_
        show Steps p.tables e below (T109.setTop (mkF m 21 #[.val (.ref x1), .val (.int ((0 : Int32) + (own_mu (cs.getD 0 0)))), .val (.int (1 : Int32))] [(.int (own_mu (cs.getD 1 0))), (.int ((0 : Int32) + (own_mu (cs.getD 0 0))))])) _
        refine XS.iadd X109.here hx rfl (hb hby d5_21) rfl ?_
        refine XS.istoreN X109.here hx rfl (hb hby d5_22) rfl (l' := #[.val (.ref x1), .val (.int (((0 : Int32) + (own_mu (cs.getD 0 0))) + (own_mu (cs.getD 1 0)))), .val (.int (1 : Int32))]) rfl ?_
        refine XS.iinc X109.here hx rfl (hb hby d5_23) rfl (l' := #[.val (.ref x1), .val (.int (((0 : Int32) + (own_mu (cs.getD 0 0))) + (own_mu (cs.getD 1 0)))), .val (.int ((1 : Int32) + (1 : Int32)))]) rfl ?_
        show Steps p.tables e below (T109.setTop (mkF m 26 #[.val (.ref x1), .val (.int (((0 : Int32) + (own_mu (cs.getD 0 0))) + (own_mu (cs.getD 1 0)))), .val (.int ((1 : Int32) + (1 : Int32)))] [])) _
        rw [show ((1 : Int32) + (1 : Int32)) = (2 : Int32) from by decide]
        show Steps p.tables e below (T109.setTop (mkF m 26 #[.val (.ref x1), .val (.int (((0 : Int32) + (own_mu (cs.getD 0 0))) + (own_mu (cs.getD 1 0)))), .val (.int (2 : Int32))] [])) _
        refine XS.goto X109.here hx rfl (pc0 := 26) (pc' := 4) rfl (hb hby d5_26) (by decide) (by decide) ?_
        show Steps p.tables e below (T109.setTop (mkF m 4 #[.val (.ref x1), .val (.int (((0 : Int32) + (own_mu (cs.getD 0 0))) + (own_mu (cs.getD 1 0)))), .val (.int (2 : Int32))] [])) _
        refine XS.iloadN X109.here hx rfl (hb hby d5_4) rfl ?_
        refine XS.aloadN X109.here hx rfl (hb hby d5_5) rfl rfl ?_
        refine st112.trans ?_
        exact kt
      by_cases q2 : 2 < cs.length
      · skip
        have f116 := (EQ112 ▸ f110)
        have f117 := (EQ112 ▸ (EQ109 ▸ (EQ107 ▸ f102)))
        have f118 := (EQ112 ▸ (EQ109 ▸ (EQ107 ▸ f103)))
        have f119 := (EQ112 ▸ (EQ109 ▸ (EQ107 ▸ f104)))
        have f120 := (EQ112 ▸ (EQ109 ▸ (EQ107 ▸ f105)))
        have f121 := (EQ112 ▸ f111)
        have f123 := (EQ112 ▸ f113)
        obtain ⟨cq122, kq122, q122a, q122b, q122c⟩ := isOf hZ rfl f123
        obtain ⟨_, _, ⟨T122, L122, k122, n122⟩, -, X122, ⟨Lc122, hQ122, l122, y122, z122⟩, st122⟩ := X112.virtualBack hx (y := (⟨"java/lang/String", "charAt", "(I)C"⟩ : MethodName)) (z := (⟨"java/lang/String", "charAt", "(I)C"⟩ : MethodName)) hown (mvT hZ (tw hw 56 rfl)) (mvT hZ (tw hw 57 rfl)) (notFace_of_selects (args := #[]) (mvT hZ (tw hw 59 rfl))) (mvT hZ (tw hw 59 rfl)) (mvT hZ (tw hw 58 rfl)) (by decide) (backOf (W := 1) (rmCh l Z a0 hw [] x1 cs 2 zc fm T112.heap n0 Z112 f116 hzc f117 rf f118 f119 f120 f121 (by omega) q2 (hcs 2 q2)) hZ (tw hw 60 rfl) (tw hw 8 rfl) (by decide) (by decide)) q122a q122c (g := (mkF m 15 #[.val (.ref x1), .val (.int (((0 : Int32) + (own_mu (cs.getD 0 0))) + (own_mu (cs.getD 1 0)))), .val (.int (2 : Int32))] [(.int (2 : Int32)), (.ref x1), (.int (((0 : Int32) + (own_mu (cs.getD 0 0))) + (own_mu (cs.getD 1 0))))])) rfl (by rw [hml]; rfl) (Steps.refl _) (argsL := [(.int (2 : Int32))]) (rest := [(.int (((0 : Int32) + (own_mu (cs.getD 0 0))) + (own_mu (cs.getD 1 0))))]) (lenOf pd__I_C rfl) rfl (by show 2 * 0 + _ ≤ _; exact Nat.le_of_eq rfl) (hb hby d5_15) (fun _ _ => ⟨rfl, rfl, (by decide : 0 + 0 ≤ _), (by decide : 0 + 0 ≤ _)⟩)
        dsimp only [Pt.U, Pt.locs, Pt.cells, Pt.slots] at X122 l122 y122 z122 st122 hQ122
        subst l122 y122 z122
        obtain ⟨rfl, N122q, EQ122⟩ := hQ122
        have N122 := Fr.app N112 N122q
        have Z122 : n0 ≤ T122.heap.size := by rw [EQ122]; exact Z112
        obtain ⟨_, _, ⟨T124, L124, k124, n124⟩, -, X124, ⟨Lc124, hQ124, l124, y124, z124⟩, st124⟩ := Jvm.LawKit.callS X122 hx (y := (⟨"com/example/corvid/corvid/classfile/ConstantPool", "modifiedUtf8Length", "(C)I"⟩ : MethodName)) hown (mvT hZ (tw hw 78 rfl)) (mvT hZ (tw hw 79 rfl)) (mvT hZ (tw hw 30 rfl)) (mvT hZ (tw hw 80 rfl)) (by decide) (backOf (W := 1) (rmMuC l Z a0 hw [] (cs.getD 2 0) T122.heap n0 Z122) hZ (tw hw 80 rfl) (tw hw 30 rfl) (by decide) (by decide)) (g := (mkF m 18 #[.val (.ref x1), .val (.int (((0 : Int32) + (own_mu (cs.getD 0 0))) + (own_mu (cs.getD 1 0)))), .val (.int (2 : Int32))] [(.int (cs.getD 2 0)), (.int (((0 : Int32) + (own_mu (cs.getD 0 0))) + (own_mu (cs.getD 1 0))))])) rfl (by rw [hml]; rfl) (argsL := [(.int (cs.getD 2 0))]) (rest := [(.int (((0 : Int32) + (own_mu (cs.getD 0 0))) + (own_mu (cs.getD 1 0))))]) (lenOf pd__C_I rfl) rfl (by show 2 * 0 + _ ≤ _; exact Nat.le_of_eq rfl) (hb hby d5_18) (fun _ _ => ⟨rfl, rfl, (by decide : 0 + 0 ≤ _), (by decide : 0 + 0 ≤ _)⟩)
        dsimp only [Pt.U, Pt.locs, Pt.cells, Pt.slots] at X124 l124 y124 z124 st124 hQ124
        subst l124 y124 z124
        obtain ⟨rfl, N124q, EQ124⟩ := hQ124
        have N124 := Fr.app N122 N124q
        have Z124 : n0 ≤ T124.heap.size := by rw [EQ124]; exact Z122
        have f125 := (EQ124 ▸ (EQ122 ▸ f116))
        have f126 := (EQ124 ▸ (EQ122 ▸ f121))
        have f128 := (EQ124 ▸ (EQ122 ▸ f123))
        obtain ⟨cq127, kq127, q127a, q127b, q127c⟩ := isOf hZ rfl f128
        obtain ⟨_, _, ⟨T127, L127, k127, n127⟩, -, X127, ⟨Lc127, hQ127, l127, y127, z127⟩, st127⟩ := X124.virtualBack hx (y := (⟨"java/lang/String", "length", "()I"⟩ : MethodName)) (z := (⟨"java/lang/String", "length", "()I"⟩ : MethodName)) hown (mvT hZ (tw hw 32 rfl)) (mvT hZ (tw hw 33 rfl)) (notFace_of_selects (args := #[]) (mvT hZ (tw hw 35 rfl))) (mvT hZ (tw hw 35 rfl)) (mvT hZ (tw hw 34 rfl)) (by decide) (backOf (W := 1) (rmLn l Z a0 hw [] x1 cs zc T124.heap n0 Z124 f125 hzc f126 (by omega)) hZ (tw hw 36 rfl) (tw hw 8 rfl) (by decide) (by decide)) q127a q127c (g := (mkF m 6 #[.val (.ref x1), .val (.int ((((0 : Int32) + (own_mu (cs.getD 0 0))) + (own_mu (cs.getD 1 0))) + (own_mu (cs.getD 2 0)))), .val (.int (3 : Int32))] [(.ref x1), (.int (3 : Int32))])) rfl (by rw [hml]; rfl) (Steps.refl _) (argsL := []) (rest := [(.int (3 : Int32))]) (lenOf pd___I rfl) rfl (by show 2 * 0 + _ ≤ _; exact Nat.le_of_eq rfl) (hb hby d5_6) (fun _ _ => ⟨rfl, rfl, (by decide : 0 + 0 ≤ _), (by decide : 0 + 0 ≤ _)⟩)
        dsimp only [Pt.U, Pt.locs, Pt.cells, Pt.slots] at X127 l127 y127 z127 st127 hQ127
        subst l127 y127 z127
        obtain ⟨rfl, N127q, EQ127⟩ := hQ127
        have N127 := Fr.app N124 N127q
        have Z127 : n0 ≤ T127.heap.size := by rw [EQ127]; exact Z124
        have pre129 : ∀ t, Steps p.tables e below (T127.setTop (mkF m 9 #[.val (.ref x1), .val (.int ((((0 : Int32) + (own_mu (cs.getD 0 0))) + (own_mu (cs.getD 1 0))) + (own_mu (cs.getD 2 0)))), .val (.int (3 : Int32))] [(.int (Int32.ofNat cs.length)), (.int (3 : Int32))])) t → Steps p.tables e below (T112.setTop (mkF m 9 #[.val (.ref x1), .val (.int (((0 : Int32) + (own_mu (cs.getD 0 0))) + (own_mu (cs.getD 1 0)))), .val (.int (2 : Int32))] [(.int (Int32.ofNat cs.length)), (.int (2 : Int32))])) t := by
          intro t kt
          refine XS.icmpNo X112.here hx rfl (hb hby d5_9) rfl (tlt (by rw [show (2 : Int32) = Int32.ofNat 2 from by decide, own_lt (by omega) (by omega)]; omega : (2 : Int32) < (Int32.ofNat cs.length))).2.1 ?_
          show Steps p.tables e below (T112.setTop (mkF m 12 #[.val (.ref x1), .val (.int (((0 : Int32) + (own_mu (cs.getD 0 0))) + (own_mu (cs.getD 1 0)))), .val (.int (2 : Int32))] [])) _
          refine XS.iloadN X112.here hx rfl (hb hby d5_12) rfl ?_
          refine XS.aloadN X112.here hx rfl (hb hby d5_13) rfl rfl ?_
          refine XS.iloadN X112.here hx rfl (hb hby d5_14) rfl ?_
          refine st122.trans ?_
          refine st124 _ ?_
          show Steps p.tables e below (T124.setTop (mkF m 21 #[.val (.ref x1), .val (.int (((0 : Int32) + (own_mu (cs.getD 0 0))) + (own_mu (cs.getD 1 0)))), .val (.int (2 : Int32))] [(.int (own_mu (cs.getD 2 0))), (.int (((0 : Int32) + (own_mu (cs.getD 0 0))) + (own_mu (cs.getD 1 0))))])) _
          refine XS.iadd X124.here hx rfl (hb hby d5_21) rfl ?_
          refine XS.istoreN X124.here hx rfl (hb hby d5_22) rfl (l' := #[.val (.ref x1), .val (.int ((((0 : Int32) + (own_mu (cs.getD 0 0))) + (own_mu (cs.getD 1 0))) + (own_mu (cs.getD 2 0)))), .val (.int (2 : Int32))]) rfl ?_
          refine XS.iinc X124.here hx rfl (hb hby d5_23) rfl (l' := #[.val (.ref x1), .val (.int ((((0 : Int32) + (own_mu (cs.getD 0 0))) + (own_mu (cs.getD 1 0))) + (own_mu (cs.getD 2 0)))), .val (.int ((2 : Int32) + (1 : Int32)))]) rfl ?_
          show Steps p.tables e below (T124.setTop (mkF m 26 #[.val (.ref x1), .val (.int ((((0 : Int32) + (own_mu (cs.getD 0 0))) + (own_mu (cs.getD 1 0))) + (own_mu (cs.getD 2 0)))), .val (.int ((2 : Int32) + (1 : Int32)))] [])) _
          rw [show ((2 : Int32) + (1 : Int32)) = (3 : Int32) from by decide]
          show Steps p.tables e below (T124.setTop (mkF m 26 #[.val (.ref x1), .val (.int ((((0 : Int32) + (own_mu (cs.getD 0 0))) + (own_mu (cs.getD 1 0))) + (own_mu (cs.getD 2 0)))), .val (.int (3 : Int32))] [])) _
          refine XS.goto X124.here hx rfl (pc0 := 26) (pc' := 4) rfl (hb hby d5_26) (by decide) (by decide) ?_
          show Steps p.tables e below (T124.setTop (mkF m 4 #[.val (.ref x1), .val (.int ((((0 : Int32) + (own_mu (cs.getD 0 0))) + (own_mu (cs.getD 1 0))) + (own_mu (cs.getD 2 0)))), .val (.int (3 : Int32))] [])) _
          refine XS.iloadN X124.here hx rfl (hb hby d5_4) rfl ?_
          refine XS.aloadN X124.here hx rfl (hb hby d5_5) rfl rfl ?_
          refine st127.trans ?_
          exact kt
        by_cases q3 : 3 < cs.length
        · skip
          have f131 := (EQ127 ▸ f125)
          have f132 := (EQ127 ▸ (EQ124 ▸ (EQ122 ▸ f117)))
          have f133 := (EQ127 ▸ (EQ124 ▸ (EQ122 ▸ f118)))
          have f134 := (EQ127 ▸ (EQ124 ▸ (EQ122 ▸ f119)))
          have f135 := (EQ127 ▸ (EQ124 ▸ (EQ122 ▸ f120)))
          have f136 := (EQ127 ▸ f126)
          have f138 := (EQ127 ▸ f128)
          obtain ⟨cq137, kq137, q137a, q137b, q137c⟩ := isOf hZ rfl f138
          obtain ⟨_, _, ⟨T137, L137, k137, n137⟩, -, X137, ⟨Lc137, hQ137, l137, y137, z137⟩, st137⟩ := X127.virtualBack hx (y := (⟨"java/lang/String", "charAt", "(I)C"⟩ : MethodName)) (z := (⟨"java/lang/String", "charAt", "(I)C"⟩ : MethodName)) hown (mvT hZ (tw hw 56 rfl)) (mvT hZ (tw hw 57 rfl)) (notFace_of_selects (args := #[]) (mvT hZ (tw hw 59 rfl))) (mvT hZ (tw hw 59 rfl)) (mvT hZ (tw hw 58 rfl)) (by decide) (backOf (W := 1) (rmCh l Z a0 hw [] x1 cs 3 zc fm T127.heap n0 Z127 f131 hzc f132 rf f133 f134 f135 f136 (by omega) q3 (hcs 3 q3)) hZ (tw hw 60 rfl) (tw hw 8 rfl) (by decide) (by decide)) q137a q137c (g := (mkF m 15 #[.val (.ref x1), .val (.int ((((0 : Int32) + (own_mu (cs.getD 0 0))) + (own_mu (cs.getD 1 0))) + (own_mu (cs.getD 2 0)))), .val (.int (3 : Int32))] [(.int (3 : Int32)), (.ref x1), (.int ((((0 : Int32) + (own_mu (cs.getD 0 0))) + (own_mu (cs.getD 1 0))) + (own_mu (cs.getD 2 0))))])) rfl (by rw [hml]; rfl) (Steps.refl _) (argsL := [(.int (3 : Int32))]) (rest := [(.int ((((0 : Int32) + (own_mu (cs.getD 0 0))) + (own_mu (cs.getD 1 0))) + (own_mu (cs.getD 2 0))))]) (lenOf pd__I_C rfl) rfl (by show 2 * 0 + _ ≤ _; exact Nat.le_of_eq rfl) (hb hby d5_15) (fun _ _ => ⟨rfl, rfl, (by decide : 0 + 0 ≤ _), (by decide : 0 + 0 ≤ _)⟩)
          dsimp only [Pt.U, Pt.locs, Pt.cells, Pt.slots] at X137 l137 y137 z137 st137 hQ137
          subst l137 y137 z137
          obtain ⟨rfl, N137q, EQ137⟩ := hQ137
          have N137 := Fr.app N127 N137q
          have Z137 : n0 ≤ T137.heap.size := by rw [EQ137]; exact Z127
          obtain ⟨_, _, ⟨T139, L139, k139, n139⟩, -, X139, ⟨Lc139, hQ139, l139, y139, z139⟩, st139⟩ := Jvm.LawKit.callS X137 hx (y := (⟨"com/example/corvid/corvid/classfile/ConstantPool", "modifiedUtf8Length", "(C)I"⟩ : MethodName)) hown (mvT hZ (tw hw 78 rfl)) (mvT hZ (tw hw 79 rfl)) (mvT hZ (tw hw 30 rfl)) (mvT hZ (tw hw 80 rfl)) (by decide) (backOf (W := 1) (rmMuC l Z a0 hw [] (cs.getD 3 0) T137.heap n0 Z137) hZ (tw hw 80 rfl) (tw hw 30 rfl) (by decide) (by decide)) (g := (mkF m 18 #[.val (.ref x1), .val (.int ((((0 : Int32) + (own_mu (cs.getD 0 0))) + (own_mu (cs.getD 1 0))) + (own_mu (cs.getD 2 0)))), .val (.int (3 : Int32))] [(.int (cs.getD 3 0)), (.int ((((0 : Int32) + (own_mu (cs.getD 0 0))) + (own_mu (cs.getD 1 0))) + (own_mu (cs.getD 2 0))))])) rfl (by rw [hml]; rfl) (argsL := [(.int (cs.getD 3 0))]) (rest := [(.int ((((0 : Int32) + (own_mu (cs.getD 0 0))) + (own_mu (cs.getD 1 0))) + (own_mu (cs.getD 2 0))))]) (lenOf pd__C_I rfl) rfl (by show 2 * 0 + _ ≤ _; exact Nat.le_of_eq rfl) (hb hby d5_18) (fun _ _ => ⟨rfl, rfl, (by decide : 0 + 0 ≤ _), (by decide : 0 + 0 ≤ _)⟩)
          dsimp only [Pt.U, Pt.locs, Pt.cells, Pt.slots] at X139 l139 y139 z139 st139 hQ139
          subst l139 y139 z139
          obtain ⟨rfl, N139q, EQ139⟩ := hQ139
          have N139 := Fr.app N137 N139q
          have Z139 : n0 ≤ T139.heap.size := by rw [EQ139]; exact Z137
          have f140 := (EQ139 ▸ (EQ137 ▸ f131))
          have f141 := (EQ139 ▸ (EQ137 ▸ f136))
          have f143 := (EQ139 ▸ (EQ137 ▸ f138))
          obtain ⟨cq142, kq142, q142a, q142b, q142c⟩ := isOf hZ rfl f143
          obtain ⟨_, _, ⟨T142, L142, k142, n142⟩, -, X142, ⟨Lc142, hQ142, l142, y142, z142⟩, st142⟩ := X139.virtualBack hx (y := (⟨"java/lang/String", "length", "()I"⟩ : MethodName)) (z := (⟨"java/lang/String", "length", "()I"⟩ : MethodName)) hown (mvT hZ (tw hw 32 rfl)) (mvT hZ (tw hw 33 rfl)) (notFace_of_selects (args := #[]) (mvT hZ (tw hw 35 rfl))) (mvT hZ (tw hw 35 rfl)) (mvT hZ (tw hw 34 rfl)) (by decide) (backOf (W := 1) (rmLn l Z a0 hw [] x1 cs zc T139.heap n0 Z139 f140 hzc f141 (by omega)) hZ (tw hw 36 rfl) (tw hw 8 rfl) (by decide) (by decide)) q142a q142c (g := (mkF m 6 #[.val (.ref x1), .val (.int (((((0 : Int32) + (own_mu (cs.getD 0 0))) + (own_mu (cs.getD 1 0))) + (own_mu (cs.getD 2 0))) + (own_mu (cs.getD 3 0)))), .val (.int (4 : Int32))] [(.ref x1), (.int (4 : Int32))])) rfl (by rw [hml]; rfl) (Steps.refl _) (argsL := []) (rest := [(.int (4 : Int32))]) (lenOf pd___I rfl) rfl (by show 2 * 0 + _ ≤ _; exact Nat.le_of_eq rfl) (hb hby d5_6) (fun _ _ => ⟨rfl, rfl, (by decide : 0 + 0 ≤ _), (by decide : 0 + 0 ≤ _)⟩)
          dsimp only [Pt.U, Pt.locs, Pt.cells, Pt.slots] at X142 l142 y142 z142 st142 hQ142
          subst l142 y142 z142
          obtain ⟨rfl, N142q, EQ142⟩ := hQ142
          have N142 := Fr.app N139 N142q
          have Z142 : n0 ≤ T142.heap.size := by rw [EQ142]; exact Z139
          have pre144 : ∀ t, Steps p.tables e below (T142.setTop (mkF m 9 #[.val (.ref x1), .val (.int (((((0 : Int32) + (own_mu (cs.getD 0 0))) + (own_mu (cs.getD 1 0))) + (own_mu (cs.getD 2 0))) + (own_mu (cs.getD 3 0)))), .val (.int (4 : Int32))] [(.int (Int32.ofNat cs.length)), (.int (4 : Int32))])) t → Steps p.tables e below (T127.setTop (mkF m 9 #[.val (.ref x1), .val (.int ((((0 : Int32) + (own_mu (cs.getD 0 0))) + (own_mu (cs.getD 1 0))) + (own_mu (cs.getD 2 0)))), .val (.int (3 : Int32))] [(.int (Int32.ofNat cs.length)), (.int (3 : Int32))])) t := by
            intro t kt
            refine XS.icmpNo X127.here hx rfl (hb hby d5_9) rfl (tlt (by rw [show (3 : Int32) = Int32.ofNat 3 from by decide, own_lt (by omega) (by omega)]; omega : (3 : Int32) < (Int32.ofNat cs.length))).2.1 ?_
            show Steps p.tables e below (T127.setTop (mkF m 12 #[.val (.ref x1), .val (.int ((((0 : Int32) + (own_mu (cs.getD 0 0))) + (own_mu (cs.getD 1 0))) + (own_mu (cs.getD 2 0)))), .val (.int (3 : Int32))] [])) _
            refine XS.iloadN X127.here hx rfl (hb hby d5_12) rfl ?_
            refine XS.aloadN X127.here hx rfl (hb hby d5_13) rfl rfl ?_
            refine XS.iloadN X127.here hx rfl (hb hby d5_14) rfl ?_
            refine st137.trans ?_
            refine st139 _ ?_
            show Steps p.tables e below (T139.setTop (mkF m 21 #[.val (.ref x1), .val (.int ((((0 : Int32) + (own_mu (cs.getD 0 0))) + (own_mu (cs.getD 1 0))) + (own_mu (cs.getD 2 0)))), .val (.int (3 : Int32))] [(.int (own_mu (cs.getD 3 0))), (.int ((((0 : Int32) + (own_mu (cs.getD 0 0))) + (own_mu (cs.getD 1 0))) + (own_mu (cs.getD 2 0))))])) _
            refine XS.iadd X139.here hx rfl (hb hby d5_21) rfl ?_
            refine XS.istoreN X139.here hx rfl (hb hby d5_22) rfl (l' := #[.val (.ref x1), .val (.int (((((0 : Int32) + (own_mu (cs.getD 0 0))) + (own_mu (cs.getD 1 0))) + (own_mu (cs.getD 2 0))) + (own_mu (cs.getD 3 0)))), .val (.int (3 : Int32))]) rfl ?_
            refine XS.iinc X139.here hx rfl (hb hby d5_23) rfl (l' := #[.val (.ref x1), .val (.int (((((0 : Int32) + (own_mu (cs.getD 0 0))) + (own_mu (cs.getD 1 0))) + (own_mu (cs.getD 2 0))) + (own_mu (cs.getD 3 0)))), .val (.int ((3 : Int32) + (1 : Int32)))]) rfl ?_
            show Steps p.tables e below (T139.setTop (mkF m 26 #[.val (.ref x1), .val (.int (((((0 : Int32) + (own_mu (cs.getD 0 0))) + (own_mu (cs.getD 1 0))) + (own_mu (cs.getD 2 0))) + (own_mu (cs.getD 3 0)))), .val (.int ((3 : Int32) + (1 : Int32)))] [])) _
            rw [show ((3 : Int32) + (1 : Int32)) = (4 : Int32) from by decide]
            show Steps p.tables e below (T139.setTop (mkF m 26 #[.val (.ref x1), .val (.int (((((0 : Int32) + (own_mu (cs.getD 0 0))) + (own_mu (cs.getD 1 0))) + (own_mu (cs.getD 2 0))) + (own_mu (cs.getD 3 0)))), .val (.int (4 : Int32))] [])) _
            refine XS.goto X139.here hx rfl (pc0 := 26) (pc' := 4) rfl (hb hby d5_26) (by decide) (by decide) ?_
            show Steps p.tables e below (T139.setTop (mkF m 4 #[.val (.ref x1), .val (.int (((((0 : Int32) + (own_mu (cs.getD 0 0))) + (own_mu (cs.getD 1 0))) + (own_mu (cs.getD 2 0))) + (own_mu (cs.getD 3 0)))), .val (.int (4 : Int32))] [])) _
            refine XS.iloadN X139.here hx rfl (hb hby d5_4) rfl ?_
            refine XS.aloadN X139.here hx rfl (hb hby d5_5) rfl rfl ?_
            refine st142.trans ?_
            exact kt
          by_cases q4 : 4 < cs.length
          · skip
            have f146 := (EQ142 ▸ f140)
            have f147 := (EQ142 ▸ (EQ139 ▸ (EQ137 ▸ f132)))
            have f148 := (EQ142 ▸ (EQ139 ▸ (EQ137 ▸ f133)))
            have f149 := (EQ142 ▸ (EQ139 ▸ (EQ137 ▸ f134)))
            have f150 := (EQ142 ▸ (EQ139 ▸ (EQ137 ▸ f135)))
            have f151 := (EQ142 ▸ f141)
            have f153 := (EQ142 ▸ f143)
            obtain ⟨cq152, kq152, q152a, q152b, q152c⟩ := isOf hZ rfl f153
            obtain ⟨_, _, ⟨T152, L152, k152, n152⟩, -, X152, ⟨Lc152, hQ152, l152, y152, z152⟩, st152⟩ := X142.virtualBack hx (y := (⟨"java/lang/String", "charAt", "(I)C"⟩ : MethodName)) (z := (⟨"java/lang/String", "charAt", "(I)C"⟩ : MethodName)) hown (mvT hZ (tw hw 56 rfl)) (mvT hZ (tw hw 57 rfl)) (notFace_of_selects (args := #[]) (mvT hZ (tw hw 59 rfl))) (mvT hZ (tw hw 59 rfl)) (mvT hZ (tw hw 58 rfl)) (by decide) (backOf (W := 1) (rmCh l Z a0 hw [] x1 cs 4 zc fm T142.heap n0 Z142 f146 hzc f147 rf f148 f149 f150 f151 (by omega) q4 (hcs 4 q4)) hZ (tw hw 60 rfl) (tw hw 8 rfl) (by decide) (by decide)) q152a q152c (g := (mkF m 15 #[.val (.ref x1), .val (.int (((((0 : Int32) + (own_mu (cs.getD 0 0))) + (own_mu (cs.getD 1 0))) + (own_mu (cs.getD 2 0))) + (own_mu (cs.getD 3 0)))), .val (.int (4 : Int32))] [(.int (4 : Int32)), (.ref x1), (.int (((((0 : Int32) + (own_mu (cs.getD 0 0))) + (own_mu (cs.getD 1 0))) + (own_mu (cs.getD 2 0))) + (own_mu (cs.getD 3 0))))])) rfl (by rw [hml]; rfl) (Steps.refl _) (argsL := [(.int (4 : Int32))]) (rest := [(.int (((((0 : Int32) + (own_mu (cs.getD 0 0))) + (own_mu (cs.getD 1 0))) + (own_mu (cs.getD 2 0))) + (own_mu (cs.getD 3 0))))]) (lenOf pd__I_C rfl) rfl (by show 2 * 0 + _ ≤ _; exact Nat.le_of_eq rfl) (hb hby d5_15) (fun _ _ => ⟨rfl, rfl, (by decide : 0 + 0 ≤ _), (by decide : 0 + 0 ≤ _)⟩)
            dsimp only [Pt.U, Pt.locs, Pt.cells, Pt.slots] at X152 l152 y152 z152 st152 hQ152
            subst l152 y152 z152
            obtain ⟨rfl, N152q, EQ152⟩ := hQ152
            have N152 := Fr.app N142 N152q
            have Z152 : n0 ≤ T152.heap.size := by rw [EQ152]; exact Z142
            obtain ⟨_, _, ⟨T154, L154, k154, n154⟩, -, X154, ⟨Lc154, hQ154, l154, y154, z154⟩, st154⟩ := Jvm.LawKit.callS X152 hx (y := (⟨"com/example/corvid/corvid/classfile/ConstantPool", "modifiedUtf8Length", "(C)I"⟩ : MethodName)) hown (mvT hZ (tw hw 78 rfl)) (mvT hZ (tw hw 79 rfl)) (mvT hZ (tw hw 30 rfl)) (mvT hZ (tw hw 80 rfl)) (by decide) (backOf (W := 1) (rmMuC l Z a0 hw [] (cs.getD 4 0) T152.heap n0 Z152) hZ (tw hw 80 rfl) (tw hw 30 rfl) (by decide) (by decide)) (g := (mkF m 18 #[.val (.ref x1), .val (.int (((((0 : Int32) + (own_mu (cs.getD 0 0))) + (own_mu (cs.getD 1 0))) + (own_mu (cs.getD 2 0))) + (own_mu (cs.getD 3 0)))), .val (.int (4 : Int32))] [(.int (cs.getD 4 0)), (.int (((((0 : Int32) + (own_mu (cs.getD 0 0))) + (own_mu (cs.getD 1 0))) + (own_mu (cs.getD 2 0))) + (own_mu (cs.getD 3 0))))])) rfl (by rw [hml]; rfl) (argsL := [(.int (cs.getD 4 0))]) (rest := [(.int (((((0 : Int32) + (own_mu (cs.getD 0 0))) + (own_mu (cs.getD 1 0))) + (own_mu (cs.getD 2 0))) + (own_mu (cs.getD 3 0))))]) (lenOf pd__C_I rfl) rfl (by show 2 * 0 + _ ≤ _; exact Nat.le_of_eq rfl) (hb hby d5_18) (fun _ _ => ⟨rfl, rfl, (by decide : 0 + 0 ≤ _), (by decide : 0 + 0 ≤ _)⟩)
            dsimp only [Pt.U, Pt.locs, Pt.cells, Pt.slots] at X154 l154 y154 z154 st154 hQ154
            subst l154 y154 z154
            obtain ⟨rfl, N154q, EQ154⟩ := hQ154
            have N154 := Fr.app N152 N154q
            have Z154 : n0 ≤ T154.heap.size := by rw [EQ154]; exact Z152
            have f155 := (EQ154 ▸ (EQ152 ▸ f146))
            have f156 := (EQ154 ▸ (EQ152 ▸ f151))
            have f158 := (EQ154 ▸ (EQ152 ▸ f153))
            obtain ⟨cq157, kq157, q157a, q157b, q157c⟩ := isOf hZ rfl f158
            obtain ⟨_, _, ⟨T157, L157, k157, n157⟩, -, X157, ⟨Lc157, hQ157, l157, y157, z157⟩, st157⟩ := X154.virtualBack hx (y := (⟨"java/lang/String", "length", "()I"⟩ : MethodName)) (z := (⟨"java/lang/String", "length", "()I"⟩ : MethodName)) hown (mvT hZ (tw hw 32 rfl)) (mvT hZ (tw hw 33 rfl)) (notFace_of_selects (args := #[]) (mvT hZ (tw hw 35 rfl))) (mvT hZ (tw hw 35 rfl)) (mvT hZ (tw hw 34 rfl)) (by decide) (backOf (W := 1) (rmLn l Z a0 hw [] x1 cs zc T154.heap n0 Z154 f155 hzc f156 (by omega)) hZ (tw hw 36 rfl) (tw hw 8 rfl) (by decide) (by decide)) q157a q157c (g := (mkF m 6 #[.val (.ref x1), .val (.int ((((((0 : Int32) + (own_mu (cs.getD 0 0))) + (own_mu (cs.getD 1 0))) + (own_mu (cs.getD 2 0))) + (own_mu (cs.getD 3 0))) + (own_mu (cs.getD 4 0)))), .val (.int (5 : Int32))] [(.ref x1), (.int (5 : Int32))])) rfl (by rw [hml]; rfl) (Steps.refl _) (argsL := []) (rest := [(.int (5 : Int32))]) (lenOf pd___I rfl) rfl (by show 2 * 0 + _ ≤ _; exact Nat.le_of_eq rfl) (hb hby d5_6) (fun _ _ => ⟨rfl, rfl, (by decide : 0 + 0 ≤ _), (by decide : 0 + 0 ≤ _)⟩)
            dsimp only [Pt.U, Pt.locs, Pt.cells, Pt.slots] at X157 l157 y157 z157 st157 hQ157
            subst l157 y157 z157
            obtain ⟨rfl, N157q, EQ157⟩ := hQ157
            have N157 := Fr.app N154 N157q
            have el : cs.length = 5 := by omega
            have pre159 : ∀ t, Steps p.tables e below (T157.setTop (mkF m 30 #[.val (.ref x1), .val (.int ((((((0 : Int32) + (own_mu (cs.getD 0 0))) + (own_mu (cs.getD 1 0))) + (own_mu (cs.getD 2 0))) + (own_mu (cs.getD 3 0))) + (own_mu (cs.getD 4 0)))), .val (.int (5 : Int32))] [(.int ((((((0 : Int32) + (own_mu (cs.getD 0 0))) + (own_mu (cs.getD 1 0))) + (own_mu (cs.getD 2 0))) + (own_mu (cs.getD 3 0))) + (own_mu (cs.getD 4 0))))])) t → Steps p.tables e below (T142.setTop (mkF m 9 #[.val (.ref x1), .val (.int (((((0 : Int32) + (own_mu (cs.getD 0 0))) + (own_mu (cs.getD 1 0))) + (own_mu (cs.getD 2 0))) + (own_mu (cs.getD 3 0)))), .val (.int (4 : Int32))] [(.int (Int32.ofNat cs.length)), (.int (4 : Int32))])) t := by
              intro t kt
              refine XS.icmpNo X142.here hx rfl (hb hby d5_9) rfl (tlt (by rw [show (4 : Int32) = Int32.ofNat 4 from by decide, own_lt (by omega) (by omega)]; omega : (4 : Int32) < (Int32.ofNat cs.length))).2.1 ?_
              show Steps p.tables e below (T142.setTop (mkF m 12 #[.val (.ref x1), .val (.int (((((0 : Int32) + (own_mu (cs.getD 0 0))) + (own_mu (cs.getD 1 0))) + (own_mu (cs.getD 2 0))) + (own_mu (cs.getD 3 0)))), .val (.int (4 : Int32))] [])) _
              refine XS.iloadN X142.here hx rfl (hb hby d5_12) rfl ?_
              refine XS.aloadN X142.here hx rfl (hb hby d5_13) rfl rfl ?_
              refine XS.iloadN X142.here hx rfl (hb hby d5_14) rfl ?_
              refine st152.trans ?_
              refine st154 _ ?_
              show Steps p.tables e below (T154.setTop (mkF m 21 #[.val (.ref x1), .val (.int (((((0 : Int32) + (own_mu (cs.getD 0 0))) + (own_mu (cs.getD 1 0))) + (own_mu (cs.getD 2 0))) + (own_mu (cs.getD 3 0)))), .val (.int (4 : Int32))] [(.int (own_mu (cs.getD 4 0))), (.int (((((0 : Int32) + (own_mu (cs.getD 0 0))) + (own_mu (cs.getD 1 0))) + (own_mu (cs.getD 2 0))) + (own_mu (cs.getD 3 0))))])) _
              refine XS.iadd X154.here hx rfl (hb hby d5_21) rfl ?_
              refine XS.istoreN X154.here hx rfl (hb hby d5_22) rfl (l' := #[.val (.ref x1), .val (.int ((((((0 : Int32) + (own_mu (cs.getD 0 0))) + (own_mu (cs.getD 1 0))) + (own_mu (cs.getD 2 0))) + (own_mu (cs.getD 3 0))) + (own_mu (cs.getD 4 0)))), .val (.int (4 : Int32))]) rfl ?_
              refine XS.iinc X154.here hx rfl (hb hby d5_23) rfl (l' := #[.val (.ref x1), .val (.int ((((((0 : Int32) + (own_mu (cs.getD 0 0))) + (own_mu (cs.getD 1 0))) + (own_mu (cs.getD 2 0))) + (own_mu (cs.getD 3 0))) + (own_mu (cs.getD 4 0)))), .val (.int ((4 : Int32) + (1 : Int32)))]) rfl ?_
              show Steps p.tables e below (T154.setTop (mkF m 26 #[.val (.ref x1), .val (.int ((((((0 : Int32) + (own_mu (cs.getD 0 0))) + (own_mu (cs.getD 1 0))) + (own_mu (cs.getD 2 0))) + (own_mu (cs.getD 3 0))) + (own_mu (cs.getD 4 0)))), .val (.int ((4 : Int32) + (1 : Int32)))] [])) _
              rw [show ((4 : Int32) + (1 : Int32)) = (5 : Int32) from by decide]
              show Steps p.tables e below (T154.setTop (mkF m 26 #[.val (.ref x1), .val (.int ((((((0 : Int32) + (own_mu (cs.getD 0 0))) + (own_mu (cs.getD 1 0))) + (own_mu (cs.getD 2 0))) + (own_mu (cs.getD 3 0))) + (own_mu (cs.getD 4 0)))), .val (.int (5 : Int32))] [])) _
              refine XS.goto X154.here hx rfl (pc0 := 26) (pc' := 4) rfl (hb hby d5_26) (by decide) (by decide) ?_
              show Steps p.tables e below (T154.setTop (mkF m 4 #[.val (.ref x1), .val (.int ((((((0 : Int32) + (own_mu (cs.getD 0 0))) + (own_mu (cs.getD 1 0))) + (own_mu (cs.getD 2 0))) + (own_mu (cs.getD 3 0))) + (own_mu (cs.getD 4 0)))), .val (.int (5 : Int32))] [])) _
              refine XS.iloadN X154.here hx rfl (hb hby d5_4) rfl ?_
              refine XS.aloadN X154.here hx rfl (hb hby d5_5) rfl rfl ?_
              refine st157.trans ?_
              refine XS.icmpYes X157.here hx rfl (pc0 := 9) (pc' := 29) rfl (hb hby d5_9) rfl (flt (by rw [show (5 : Int32) = Int32.ofNat 5 from by decide, own_lt (by omega) (by omega)]; omega : ¬ ((5 : Int32) < (Int32.ofNat cs.length)))).2.1 (by decide) (by decide) ?_
              show Steps p.tables e below (T157.setTop (mkF m 29 #[.val (.ref x1), .val (.int ((((((0 : Int32) + (own_mu (cs.getD 0 0))) + (own_mu (cs.getD 1 0))) + (own_mu (cs.getD 2 0))) + (own_mu (cs.getD 3 0))) + (own_mu (cs.getD 4 0)))), .val (.int (5 : Int32))] [])) _
              refine XS.iloadN X157.here hx rfl (hb hby d5_29) rfl ?_
              exact kt
            obtain ⟨fs, hr, hrun, hended, hW, hsame⟩ := X157.leave (v := some (.int ((((((0 : Int32) + (own_mu (cs.getD 0 0))) + (own_mu (cs.getD 1 0))) + (own_mu (cs.getD 2 0))) + (own_mu (cs.getD 3 0))) + (own_mu (cs.getD 4 0))))) (fun h => by rw [Bd.returns] at h; cases h)
            refine ⟨_, _, (pre0 _ (pre84 _ (pre99 _ (pre114 _ (pre129 _ (pre144 _ (pre159 _ ?_))))))), hrun, hended, _, _, rfl, ?_, ⟨_, rfl⟩, hW, hsame.mono (by decide) (by decide)⟩
            · show Steps p.tables e below (T157.setTop (mkF m 30 #[.val (.ref x1), .val (.int ((((((0 : Int32) + (own_mu (cs.getD 0 0))) + (own_mu (cs.getD 1 0))) + (own_mu (cs.getD 2 0))) + (own_mu (cs.getD 3 0))) + (own_mu (cs.getD 4 0)))), .val (.int (5 : Int32))] [(.int ((((((0 : Int32) + (own_mu (cs.getD 0 0))) + (own_mu (cs.getD 1 0))) + (own_mu (cs.getD 2 0))) + (own_mu (cs.getD 3 0))) + (own_mu (cs.getD 4 0))))])) _
              exact retOut X157 hx (t := .int) Bd.returns rfl (Or.inl ⟨rfl, Or.inl rfl, _, rfl⟩) (hb hby d5_30) hr
            · show QMuS Z x1 cs zc fm h0 n0 _ T157.heap _
              exact ⟨by rw [el]; rfl, N157, by rw [EQ157, EQ154, EQ152, EQ142, EQ139, EQ137, EQ127, EQ124, EQ122, EQ112, EQ109, EQ107, EQ97, EQ94, EQ92, EQ83]⟩
          · skip
            have el : cs.length = 4 := by omega
            have pre145 : ∀ t, Steps p.tables e below (T142.setTop (mkF m 30 #[.val (.ref x1), .val (.int (((((0 : Int32) + (own_mu (cs.getD 0 0))) + (own_mu (cs.getD 1 0))) + (own_mu (cs.getD 2 0))) + (own_mu (cs.getD 3 0)))), .val (.int (4 : Int32))] [(.int (((((0 : Int32) + (own_mu (cs.getD 0 0))) + (own_mu (cs.getD 1 0))) + (own_mu (cs.getD 2 0))) + (own_mu (cs.getD 3 0))))])) t → Steps p.tables e below (T142.setTop (mkF m 9 #[.val (.ref x1), .val (.int (((((0 : Int32) + (own_mu (cs.getD 0 0))) + (own_mu (cs.getD 1 0))) + (own_mu (cs.getD 2 0))) + (own_mu (cs.getD 3 0)))), .val (.int (4 : Int32))] [(.int (Int32.ofNat cs.length)), (.int (4 : Int32))])) t := by
              intro t kt
              refine XS.icmpYes X142.here hx rfl (pc0 := 9) (pc' := 29) rfl (hb hby d5_9) rfl (flt (by rw [show (4 : Int32) = Int32.ofNat 4 from by decide, own_lt (by omega) (by omega)]; omega : ¬ ((4 : Int32) < (Int32.ofNat cs.length)))).2.1 (by decide) (by decide) ?_
              show Steps p.tables e below (T142.setTop (mkF m 29 #[.val (.ref x1), .val (.int (((((0 : Int32) + (own_mu (cs.getD 0 0))) + (own_mu (cs.getD 1 0))) + (own_mu (cs.getD 2 0))) + (own_mu (cs.getD 3 0)))), .val (.int (4 : Int32))] [])) _
              refine XS.iloadN X142.here hx rfl (hb hby d5_29) rfl ?_
              exact kt
            obtain ⟨fs, hr, hrun, hended, hW, hsame⟩ := X142.leave (v := some (.int (((((0 : Int32) + (own_mu (cs.getD 0 0))) + (own_mu (cs.getD 1 0))) + (own_mu (cs.getD 2 0))) + (own_mu (cs.getD 3 0))))) (fun h => by rw [Bd.returns] at h; cases h)
            refine ⟨_, _, (pre0 _ (pre84 _ (pre99 _ (pre114 _ (pre129 _ (pre144 _ (pre145 _ ?_))))))), hrun, hended, _, _, rfl, ?_, ⟨_, rfl⟩, hW, hsame.mono (by decide) (by decide)⟩
            · show Steps p.tables e below (T142.setTop (mkF m 30 #[.val (.ref x1), .val (.int (((((0 : Int32) + (own_mu (cs.getD 0 0))) + (own_mu (cs.getD 1 0))) + (own_mu (cs.getD 2 0))) + (own_mu (cs.getD 3 0)))), .val (.int (4 : Int32))] [(.int (((((0 : Int32) + (own_mu (cs.getD 0 0))) + (own_mu (cs.getD 1 0))) + (own_mu (cs.getD 2 0))) + (own_mu (cs.getD 3 0))))])) _
              exact retOut X142 hx (t := .int) Bd.returns rfl (Or.inl ⟨rfl, Or.inl rfl, _, rfl⟩) (hb hby d5_30) hr
            · show QMuS Z x1 cs zc fm h0 n0 _ T142.heap _
              exact ⟨by rw [el]; rfl, N142, by rw [EQ142, EQ139, EQ137, EQ127, EQ124, EQ122, EQ112, EQ109, EQ107, EQ97, EQ94, EQ92, EQ83]⟩
        · skip
          have el : cs.length = 3 := by omega
          have pre130 : ∀ t, Steps p.tables e below (T127.setTop (mkF m 30 #[.val (.ref x1), .val (.int ((((0 : Int32) + (own_mu (cs.getD 0 0))) + (own_mu (cs.getD 1 0))) + (own_mu (cs.getD 2 0)))), .val (.int (3 : Int32))] [(.int ((((0 : Int32) + (own_mu (cs.getD 0 0))) + (own_mu (cs.getD 1 0))) + (own_mu (cs.getD 2 0))))])) t → Steps p.tables e below (T127.setTop (mkF m 9 #[.val (.ref x1), .val (.int ((((0 : Int32) + (own_mu (cs.getD 0 0))) + (own_mu (cs.getD 1 0))) + (own_mu (cs.getD 2 0)))), .val (.int (3 : Int32))] [(.int (Int32.ofNat cs.length)), (.int (3 : Int32))])) t := by
            intro t kt
            refine XS.icmpYes X127.here hx rfl (pc0 := 9) (pc' := 29) rfl (hb hby d5_9) rfl (flt (by rw [show (3 : Int32) = Int32.ofNat 3 from by decide, own_lt (by omega) (by omega)]; omega : ¬ ((3 : Int32) < (Int32.ofNat cs.length)))).2.1 (by decide) (by decide) ?_
            show Steps p.tables e below (T127.setTop (mkF m 29 #[.val (.ref x1), .val (.int ((((0 : Int32) + (own_mu (cs.getD 0 0))) + (own_mu (cs.getD 1 0))) + (own_mu (cs.getD 2 0)))), .val (.int (3 : Int32))] [])) _
            refine XS.iloadN X127.here hx rfl (hb hby d5_29) rfl ?_
            exact kt
          obtain ⟨fs, hr, hrun, hended, hW, hsame⟩ := X127.leave (v := some (.int ((((0 : Int32) + (own_mu (cs.getD 0 0))) + (own_mu (cs.getD 1 0))) + (own_mu (cs.getD 2 0))))) (fun h => by rw [Bd.returns] at h; cases h)
          refine ⟨_, _, (pre0 _ (pre84 _ (pre99 _ (pre114 _ (pre129 _ (pre130 _ ?_)))))), hrun, hended, _, _, rfl, ?_, ⟨_, rfl⟩, hW, hsame.mono (by decide) (by decide)⟩
          · show Steps p.tables e below (T127.setTop (mkF m 30 #[.val (.ref x1), .val (.int ((((0 : Int32) + (own_mu (cs.getD 0 0))) + (own_mu (cs.getD 1 0))) + (own_mu (cs.getD 2 0)))), .val (.int (3 : Int32))] [(.int ((((0 : Int32) + (own_mu (cs.getD 0 0))) + (own_mu (cs.getD 1 0))) + (own_mu (cs.getD 2 0))))])) _
            exact retOut X127 hx (t := .int) Bd.returns rfl (Or.inl ⟨rfl, Or.inl rfl, _, rfl⟩) (hb hby d5_30) hr
          · show QMuS Z x1 cs zc fm h0 n0 _ T127.heap _
            exact ⟨by rw [el]; rfl, N127, by rw [EQ127, EQ124, EQ122, EQ112, EQ109, EQ107, EQ97, EQ94, EQ92, EQ83]⟩
      · skip
        have el : cs.length = 2 := by omega
        have pre115 : ∀ t, Steps p.tables e below (T112.setTop (mkF m 30 #[.val (.ref x1), .val (.int (((0 : Int32) + (own_mu (cs.getD 0 0))) + (own_mu (cs.getD 1 0)))), .val (.int (2 : Int32))] [(.int (((0 : Int32) + (own_mu (cs.getD 0 0))) + (own_mu (cs.getD 1 0))))])) t → Steps p.tables e below (T112.setTop (mkF m 9 #[.val (.ref x1), .val (.int (((0 : Int32) + (own_mu (cs.getD 0 0))) + (own_mu (cs.getD 1 0)))), .val (.int (2 : Int32))] [(.int (Int32.ofNat cs.length)), (.int (2 : Int32))])) t := by
          intro t kt
          refine XS.icmpYes X112.here hx rfl (pc0 := 9) (pc' := 29) rfl (hb hby d5_9) rfl (flt (by rw [show (2 : Int32) = Int32.ofNat 2 from by decide, own_lt (by omega) (by omega)]; omega : ¬ ((2 : Int32) < (Int32.ofNat cs.length)))).2.1 (by decide) (by decide) ?_
          show Steps p.tables e below (T112.setTop (mkF m 29 #[.val (.ref x1), .val (.int (((0 : Int32) + (own_mu (cs.getD 0 0))) + (own_mu (cs.getD 1 0)))), .val (.int (2 : Int32))] [])) _
          refine XS.iloadN X112.here hx rfl (hb hby d5_29) rfl ?_
          exact kt
        obtain ⟨fs, hr, hrun, hended, hW, hsame⟩ := X112.leave (v := some (.int (((0 : Int32) + (own_mu (cs.getD 0 0))) + (own_mu (cs.getD 1 0))))) (fun h => by rw [Bd.returns] at h; cases h)
        refine ⟨_, _, (pre0 _ (pre84 _ (pre99 _ (pre114 _ (pre115 _ ?_))))), hrun, hended, _, _, rfl, ?_, ⟨_, rfl⟩, hW, hsame.mono (by decide) (by decide)⟩
        · show Steps p.tables e below (T112.setTop (mkF m 30 #[.val (.ref x1), .val (.int (((0 : Int32) + (own_mu (cs.getD 0 0))) + (own_mu (cs.getD 1 0)))), .val (.int (2 : Int32))] [(.int (((0 : Int32) + (own_mu (cs.getD 0 0))) + (own_mu (cs.getD 1 0))))])) _
          exact retOut X112 hx (t := .int) Bd.returns rfl (Or.inl ⟨rfl, Or.inl rfl, _, rfl⟩) (hb hby d5_30) hr
        · show QMuS Z x1 cs zc fm h0 n0 _ T112.heap _
          exact ⟨by rw [el]; rfl, N112, by rw [EQ112, EQ109, EQ107, EQ97, EQ94, EQ92, EQ83]⟩
    · skip
      have el : cs.length = 1 := by omega
      have pre100 : ∀ t, Steps p.tables e below (T97.setTop (mkF m 30 #[.val (.ref x1), .val (.int ((0 : Int32) + (own_mu (cs.getD 0 0)))), .val (.int (1 : Int32))] [(.int ((0 : Int32) + (own_mu (cs.getD 0 0))))])) t → Steps p.tables e below (T97.setTop (mkF m 9 #[.val (.ref x1), .val (.int ((0 : Int32) + (own_mu (cs.getD 0 0)))), .val (.int (1 : Int32))] [(.int (Int32.ofNat cs.length)), (.int (1 : Int32))])) t := by
        intro t kt
        refine XS.icmpYes X97.here hx rfl (pc0 := 9) (pc' := 29) rfl (hb hby d5_9) rfl (flt (by rw [show (1 : Int32) = Int32.ofNat 1 from by decide, own_lt (by omega) (by omega)]; omega : ¬ ((1 : Int32) < (Int32.ofNat cs.length)))).2.1 (by decide) (by decide) ?_
        show Steps p.tables e below (T97.setTop (mkF m 29 #[.val (.ref x1), .val (.int ((0 : Int32) + (own_mu (cs.getD 0 0)))), .val (.int (1 : Int32))] [])) _
        refine XS.iloadN X97.here hx rfl (hb hby d5_29) rfl ?_
        exact kt
      obtain ⟨fs, hr, hrun, hended, hW, hsame⟩ := X97.leave (v := some (.int ((0 : Int32) + (own_mu (cs.getD 0 0))))) (fun h => by rw [Bd.returns] at h; cases h)
      refine ⟨_, _, (pre0 _ (pre84 _ (pre99 _ (pre100 _ ?_)))), hrun, hended, _, _, rfl, ?_, ⟨_, rfl⟩, hW, hsame.mono (by decide) (by decide)⟩
      · show Steps p.tables e below (T97.setTop (mkF m 30 #[.val (.ref x1), .val (.int ((0 : Int32) + (own_mu (cs.getD 0 0)))), .val (.int (1 : Int32))] [(.int ((0 : Int32) + (own_mu (cs.getD 0 0))))])) _
        exact retOut X97 hx (t := .int) Bd.returns rfl (Or.inl ⟨rfl, Or.inl rfl, _, rfl⟩) (hb hby d5_30) hr
      · show QMuS Z x1 cs zc fm h0 n0 _ T97.heap _
        exact ⟨by rw [el]; rfl, N97, by rw [EQ97, EQ94, EQ92, EQ83]⟩
  · skip
    have el : cs.length = 0 := by omega
    have pre85 : ∀ t, Steps p.tables e below (T83.setTop (mkF m 30 #[.val (.ref x1), .val (.int (0 : Int32)), .val (.int (0 : Int32))] [(.int (0 : Int32))])) t → Steps p.tables e below (T83.setTop (mkF m 9 #[.val (.ref x1), .val (.int (0 : Int32)), .val (.int (0 : Int32))] [(.int (Int32.ofNat cs.length)), (.int (0 : Int32))])) t := by
      intro t kt
      refine XS.icmpYes X83.here hx rfl (pc0 := 9) (pc' := 29) rfl (hb hby d5_9) rfl (flt (by rw [show (0 : Int32) = Int32.ofNat 0 from by decide, own_lt (by omega) (by omega)]; omega : ¬ ((0 : Int32) < (Int32.ofNat cs.length)))).2.1 (by decide) (by decide) ?_
      show Steps p.tables e below (T83.setTop (mkF m 29 #[.val (.ref x1), .val (.int (0 : Int32)), .val (.int (0 : Int32))] [])) _
      refine XS.iloadN X83.here hx rfl (hb hby d5_29) rfl ?_
      exact kt
    obtain ⟨fs, hr, hrun, hended, hW, hsame⟩ := X83.leave (v := some (.int (0 : Int32))) (fun h => by rw [Bd.returns] at h; cases h)
    refine ⟨_, _, (pre0 _ (pre84 _ (pre85 _ ?_))), hrun, hended, _, _, rfl, ?_, ⟨_, rfl⟩, hW, hsame.mono (by decide) (by decide)⟩
    · show Steps p.tables e below (T83.setTop (mkF m 30 #[.val (.ref x1), .val (.int (0 : Int32)), .val (.int (0 : Int32))] [(.int (0 : Int32))])) _
      exact retOut X83 hx (t := .int) Bd.returns rfl (Or.inl ⟨rfl, Or.inl rfl, _, rfl⟩) (hb hby d5_30) hr
    · show QMuS Z x1 cs zc fm h0 n0 _ T83.heap _
      exact ⟨by rw [el]; rfl, N83, by rw [EQ83]⟩
theorem own_cf0 (x : Int32) : ((((x - x).toUInt32 >>> ((31 : Int32) &&& 31).toUInt32).toInt32).toInt8.toInt32) = (0 : Int32) := by rw [Int32.sub_self]; decide
theorem own_cf1 {n : Nat} (h : 0 < n) (h5 : n ≤ 5) : ((((Int32.ofNat n - Int32.ofNat (2 * n)).toUInt32 >>> ((31 : Int32) &&& 31).toUInt32).toInt32).toInt8.toInt32) = (1 : Int32) := by
  have q := c_isub (Int32.ofNat n) (Int32.ofNat (2 * n))
  have r := rng32 (Int32.ofNat n - Int32.ofNat (2 * n))
  rw [own_n (by omega), own_n (by omega)] at q
  generalize Int32.ofNat n - Int32.ofNat (2 * n) = x at *
  have s := c_iushr x 31 31 (by decide) (by decide)
  generalize (x.toUInt32 >>> ((31 : Int32) &&& 31).toUInt32).toInt32 = y at *
  have b := c_i2b y
  have e1 : (1 : Int32).toInt = 1 := by decide
  exact Int32.toInt_inj.mp (by rw [e1]; omega)
theorem own_chU1 {c : Int32} (hc : nar .char c = c) : (nar .char (((((nar .byte ((c >>> ((0 : Int32) &&& 31)).toInt8.toInt32)) &&& (255 : Int32)) <<< ((0 : Int32) &&& 31)) ||| (((nar .byte ((c >>> ((8 : Int32) &&& 31)).toInt8.toInt32)) &&& (255 : Int32)) <<< ((8 : Int32) &&& 31))).toUInt32.toUInt16.toUInt32.toInt32)) = c := by
  have q := own_chU hc
  have e : ∀ x : Int32, nar .char (nar .char (nar .char x)) = nar .char x := fun x => by
    simp only [nar]
    have q1 := c_i2c x
    generalize x.toUInt32.toUInt16.toUInt32.toInt32 = x1 at *
    have q2 := c_i2c x1
    have e1 : x1.toUInt32.toUInt16.toUInt32.toInt32 = x1 := Int32.toInt_inj.mp (by omega)
    rw [e1, e1]
  rw [e] at q; exact q
theorem ef_NBL (m : MethodId) (x0 : Int32) : entryFrame m #[(.int x0)] 1 = mkF m 0 #[.val (.int x0)] [] := by (first | (simp [entryFrame, mkF, argsToLocals, Value.category]; done) | rfl)
def QNBL (Z : State) (n : Nat) (h0 : Heap) (n0 : Nat) (v : Option Value) (h : Heap) (L : List Loc) : Prop := v = some (.int (Int32.ofNat (2 * n))) ∧ Fr n0 L ∧ h = h0
theorem d20_0 : decode jdk_52_method_3_code 0 = .ok (.iload_n 0, 1) := by decide +kernel
theorem d20_1 : decode jdk_52_method_3_code 1 = .ok (.ifCond .ge 11, 3) := by decide +kernel
theorem d20_12 : decode jdk_52_method_3_code 12 = .ok (.iload_n 0, 1) := by decide +kernel
theorem d20_13 : decode jdk_52_method_3_code 13 = .ok (.ldc 20, 2) := by decide +kernel
theorem d20_15 : decode jdk_52_method_3_code 15 = .ok (.if_icmp .lt 40, 3) := by decide +kernel
theorem d20_55 : decode jdk_52_method_3_code 55 = .ok (.iload_n 0, 1) := by decide +kernel
theorem d20_56 : decode jdk_52_method_3_code 56 = .ok (.iconst 1, 1) := by decide +kernel
theorem d20_57 : decode jdk_52_method_3_code 57 = .ok (.ishl, 1) := by decide +kernel
theorem d20_58 : decode jdk_52_method_3_code 58 = .ok (.ireturn, 1) := by decide +kernel
set_option maxRecDepth 65536 in
set_option maxHeartbeats 40000000 in
theorem rmNBL (l : Launch) (Z : State) (a0 : Array Value) (hw : ∀ d ∈ tables_1, d.before a0 Z = true) (ws : List Jvm.Cond) (n : Nat) (h0 : Heap) (n0 : Nat) (Z0 : n0 ≤ h0.size) (hn : n < 1000) :
    MetFree l (⟨"java/lang/StringUTF16", "newBytesLength", "(I)I"⟩ : MethodName) (head1 (Jvm.Cond.code (⟨"java/lang/StringUTF16", "newBytesLength", "(I)I"⟩ : MethodName) jdk_52_method_3_code 1 (some .int) :: ws) ({ frames := 0, cells := 0, slots := 0, locals := 0 } : Room)) (fun a U => a = #[(.int (Int32.ofNat n))] ∧ Z.Warmed39 U.vm ∧ U.heap = h0) (fun _ _ _ _ _ => True) (fun _ U o U' => ∃ v L, o = .returned v ∧ QNBL Z n h0 n0 v U'.heap L ∧ FrameEnd U o U' L ({ frames := 0, cells := 0, slots := 0, locals := 0 } : Room).cells ({ frames := 0, cells := 0, slots := 0, locals := 0 } : Room).slots) := by
  refine MetFree.of_bodySF (plainFor_of_name pn_java_lang_StringUTF16) hisR ?_
  intro p e s m args below meth c s₁ Bd hml0 hP hK
  obtain ⟨rfl, hZ, hh⟩ := hP
  have hx := Bd.exec
  have hby := Bd.bytes
  have hml : c.maxLocals = 1 := hml0
  have hown : s.vm.findClass "java/lang/StringUTF16" = some m.cls := findClass_of_methodNamed Bd.named
  have hnm := (name_of_methodNamed Bd.named Bd.method).1
  have X0 : Stand p l e ({ frames := 0, cells := 0, slots := 0, locals := 0 } : Room) s m #[(.int (Int32.ofNat n))] below meth c s₁ [] 0 0 := Stand.of_body Bd
  have e0 : s₁.heap = h0 := by rw [← hh, Bd.state]; rfl
  have N0 := Fr.nil n0
  have pre0 : ∀ t, Steps p.tables e below (s₁.setTop (mkF m 0 #[.val (.int (Int32.ofNat n))] [])) t → Steps p.tables e below (s₁.setTop (entryFrame m #[(.int (Int32.ofNat n))] 1)) t := fun t k => castTop (ef_NBL m (Int32.ofNat n)) k
  have pre160 : ∀ t, Steps p.tables e below (s₁.setTop (mkF m 58 #[.val (.int (Int32.ofNat n))] [(.int (Int32.ofNat (2 * n)))])) t → Steps p.tables e below (s₁.setTop (mkF m 0 #[.val (.int (Int32.ofNat n))] [])) t := by
    intro t kt
    show Steps p.tables e below (s₁.setTop (mkF m 0 #[.val (.int (Int32.ofNat n))] [])) _
    refine XS.iloadN X0.here hx rfl (hb hby d20_0) rfl ?_
    refine XS.ifYes X0.here hx rfl (pc0 := 1) (pc' := 12) rfl (hb hby d20_1) rfl ((if0 _ _).trans (flt (own_nn (by omega) : ¬ ((Int32.ofNat n) < (0 : Int32)))).2.1) (by decide) (by decide) ?_
    show Steps p.tables e below (s₁.setTop (mkF m 12 #[.val (.int (Int32.ofNat n))] [])) _
    refine XS.iloadN X0.here hx rfl (hb hby d20_12) rfl ?_
    refine X0.ldcInt hx hown (mvT hZ (tw hw 90 rfl)) (g := (mkF m 13 #[.val (.int (Int32.ofNat n))] [(.int (Int32.ofNat n))])) rfl (hb hby d20_13) _ ?_
    refine XS.icmpYes X0.here hx rfl (pc0 := 15) (pc' := 55) rfl (hb hby d20_15) rfl (tlt (by rw [show (1073741823 : Int32) = Int32.ofNat 1073741823 from rfl, own_lt (by omega) (by omega)]; omega : (Int32.ofNat n) < (1073741823 : Int32))).1 (by decide) (by decide) ?_
    show Steps p.tables e below (s₁.setTop (mkF m 55 #[.val (.int (Int32.ofNat n))] [])) _
    refine XS.iloadN X0.here hx rfl (hb hby d20_55) rfl ?_
    refine XS.iconst X0.here hx rfl (hb hby d20_56) ?_
    refine XS.ishl X0.here hx rfl (hb hby d20_57) rfl ?_
    show Steps p.tables e below (s₁.setTop (mkF m 58 #[.val (.int (Int32.ofNat n))] [(.int ((Int32.ofNat n) <<< ((1 : Int32) &&& 31)))])) _
    rw [own_shl hn]
    exact kt
  obtain ⟨fs, hr, hrun, hended, hW, hsame⟩ := X0.leave (v := some (.int (Int32.ofNat (2 * n)))) (fun h => by rw [Bd.returns] at h; cases h)
  refine ⟨_, _, (pre0 _ (pre160 _ ?_)), hrun, hended, _, _, rfl, ?_, ⟨_, rfl⟩, hW, hsame.mono (by decide) (by decide)⟩
  · show Steps p.tables e below (s₁.setTop (mkF m 58 #[.val (.int (Int32.ofNat n))] [(.int (Int32.ofNat (2 * n)))])) _
    exact retOut X0 hx (t := .int) Bd.returns rfl (Or.inl ⟨rfl, Or.inl rfl, _, rfl⟩) (hb hby d20_58) hr
  · show QNBL Z n h0 n0 _ s₁.heap _
    rw [e0]
    exact ⟨rfl, N0, rfl⟩
theorem ef_NBF (m : MethodId) (x0 : Int32) : entryFrame m #[(.int x0)] 1 = mkF m 0 #[.val (.int x0)] [] := by (first | (simp [entryFrame, mkF, argsToLocals, Value.category]; done) | rfl)
def QNBF (Z : State) (n : Nat) (h0 : Heap) (n0 : Nat) (v : Option Value) (h : Heap) (L : List Loc) : Prop := ∃ x2, v = some (.ref x2) ∧ Fr n0 L ∧ Ext h0 h ∧ h0.size ≤ x2 ∧ ∃ (k2 : ClassId), Arv Z h x2 k2 .byte (Int32.ofNat (2 * n)) (List.replicate (2 * n) (.int (0 : Int32))) (.int (0 : Int32))
theorem d19_0 : decode jdk_52_method_2_code 0 = .ok (.iload_n 0, 1) := by decide +kernel
theorem d19_1 : decode jdk_52_method_2_code 1 = .ok (.invokestatic 11, 3) := by decide +kernel
theorem pd__I_I : parseMethodDescriptor "(I)I" = some ⟨[.int], some .int⟩ := by decide +kernel
theorem d19_4 : decode jdk_52_method_2_code 4 = .ok (.newarray .byte, 2) := by decide +kernel
theorem d19_6 : decode jdk_52_method_2_code 6 = .ok (.areturn, 1) := by decide +kernel
set_option maxRecDepth 65536 in
set_option maxHeartbeats 40000000 in
theorem rmNBF (l : Launch) (Z : State) (a0 : Array Value) (hw : ∀ d ∈ tables_1, d.before a0 Z = true) (ws : List Jvm.Cond) (n : Nat) (h0 : Heap) (n0 : Nat) (Z0 : n0 ≤ h0.size) (hn : n ≤ 5) :
    MetFree l (⟨"java/lang/StringUTF16", "newBytesFor", "(I)[B"⟩ : MethodName) (head1 (Jvm.Cond.code (⟨"java/lang/StringUTF16", "newBytesFor", "(I)[B"⟩ : MethodName) jdk_52_method_2_code 1 (some (.array .byte)) :: ws) ({ frames := 1, cells := 1, slots := 10, locals := 13 } : Room)) (fun a U => a = #[(.int (Int32.ofNat n))] ∧ Z.Warmed39 U.vm ∧ U.heap = h0) (fun _ _ _ _ _ => True) (fun _ U o U' => ∃ v L, o = .returned v ∧ QNBF Z n h0 n0 v U'.heap L ∧ FrameEnd U o U' L ({ frames := 1, cells := 1, slots := 10, locals := 13 } : Room).cells ({ frames := 1, cells := 1, slots := 10, locals := 13 } : Room).slots) := by
  refine MetFree.of_bodySF (plainFor_of_name pn_java_lang_StringUTF16) hisR ?_
  intro p e s m args below meth c s₁ Bd hml0 hP hK
  obtain ⟨rfl, hZ, hh⟩ := hP
  have hx := Bd.exec
  have hby := Bd.bytes
  have hml : c.maxLocals = 1 := hml0
  have hown : s.vm.findClass "java/lang/StringUTF16" = some m.cls := findClass_of_methodNamed Bd.named
  have hnm := (name_of_methodNamed Bd.named Bd.method).1
  have X0 : Stand p l e ({ frames := 1, cells := 1, slots := 10, locals := 13 } : Room) s m #[(.int (Int32.ofNat n))] below meth c s₁ [] 0 0 := Stand.of_body Bd
  have e0 : s₁.heap = h0 := by rw [← hh, Bd.state]; rfl
  have N0 := Fr.nil n0
  have pre0 : ∀ t, Steps p.tables e below (s₁.setTop (mkF m 0 #[.val (.int (Int32.ofNat n))] [])) t → Steps p.tables e below (s₁.setTop (entryFrame m #[(.int (Int32.ofNat n))] 1)) t := fun t k => castTop (ef_NBF m (Int32.ofNat n)) k
  obtain ⟨_, _, ⟨T161, L161, k161, n161⟩, -, X161, ⟨Lc161, hQ161, l161, y161, z161⟩, st161⟩ := Jvm.LawKit.callS X0 hx (y := (⟨"java/lang/StringUTF16", "newBytesLength", "(I)I"⟩ : MethodName)) hown (mvT hZ (tw hw 87 rfl)) (mvT hZ (tw hw 88 rfl)) (mvT hZ (tw hw 45 rfl)) (mvT hZ (tw hw 89 rfl)) (by decide) (backOf (W := 0) (rmNBL l Z a0 hw [] n h0 n0 Z0 (by omega)) hZ (tw hw 89 rfl) (tw hw 45 rfl) (by decide) (by decide)) (g := (mkF m 1 #[.val (.int (Int32.ofNat n))] [(.int (Int32.ofNat n))])) rfl (by rw [hml]; rfl) (argsL := [(.int (Int32.ofNat n))]) (rest := []) (lenOf pd__I_I rfl) rfl (by show 2 * 0 + _ ≤ _; exact Nat.le_of_eq rfl) (hb hby d19_1) (fun _ _ => ⟨rfl, e0, (by decide : 0 + 0 ≤ _), (by decide : 0 + 0 ≤ _)⟩)
  dsimp only [Pt.U, Pt.locs, Pt.cells, Pt.slots] at X161 l161 y161 z161 st161 hQ161
  subst l161 y161 z161
  obtain ⟨rfl, N161q, EQ161⟩ := hQ161
  have N161 := Fr.app N0 N161q
  have K161 := own_keq EQ161 (Keep.refl h0 [])
  obtain ⟨T162, h162, k162, X162, e162, E162, A162, st162⟩ := newP X161 hx hZ (tw hw 21 rfl) rfl (g := (mkF m 4 #[.val (.int (Int32.ofNat n))] [(.int (Int32.ofNat (2 * n)))])) rfl (hb hby d19_4) rfl (own_nn (by omega)) (cap := 10) (by rw [own_nc (by omega)]; omega) (by decide) (by decide) (by decide)
  obtain ⟨b162, g162⟩ : ∃ z, z = T161.heap.size := ⟨_, rfl⟩
  rw [← g162] at A162 st162
  have sz_b162 : h0.size ≤ b162 := Nat.le_trans K161.1 (Nat.le_of_eq g162.symm)
  have K162 := K161.ext E162
  have V162 := Arv.new A162 (own_nn (by omega))
  have VP : Arv Z h162 b162 k162 .byte (Int32.ofNat (2 * n)) (List.replicate (2 * n) (.int (0 : Int32))) (.int (0 : Int32)) := V162.pad (pad_rep [] (.int (0 : Int32)) (2 * n))
  have pre163 : ∀ t, Steps p.tables e below (T162.setTop (mkF m 6 #[.val (.int (Int32.ofNat n))] [(.ref b162)])) t → Steps p.tables e below (s₁.setTop (mkF m 0 #[.val (.int (Int32.ofNat n))] [])) t := by
    intro t kt
    show Steps p.tables e below (s₁.setTop (mkF m 0 #[.val (.int (Int32.ofNat n))] [])) _
    refine XS.iloadN X0.here hx rfl (hb hby d19_0) rfl ?_
    refine st161 _ ?_
    show Steps p.tables e below (T161.setTop (mkF m 4 #[.val (.int (Int32.ofNat n))] [(.int (Int32.ofNat (2 * n)))])) _
    refine st162 _ ?_
    exact kt
  obtain ⟨fs, hr, hrun, hended, hW, hsame⟩ := X162.leave (v := some (.ref b162)) (fun h => by rw [Bd.returns] at h; cases h)
  refine ⟨_, _, (pre0 _ (pre163 _ ?_)), hrun, hended, _, _, rfl, ?_, ⟨_, rfl⟩, hW, hsame.mono (by decide) (by decide)⟩
  · show Steps p.tables e below (T162.setTop (mkF m 6 #[.val (.int (Int32.ofNat n))] [(.ref b162)])) _
    exact retOut X162 hx (t := (.array .byte)) Bd.returns rfl (Or.inr (Or.inr (Or.inr (Or.inr ⟨rfl, rfl, rfl⟩)))) (hb hby d19_6) hr
  · show QNBF Z n h0 n0 _ T162.heap _
    rw [e162]
    exact ⟨b162, rfl, N161, own_ext K162, sz_b162, k162, VP⟩
theorem ef_CFL (m : MethodId) (x0 : Addr) (x1 : Int32) : entryFrame m #[(.ref x0), (.int x1)] 2 = mkF m 0 #[.val (.ref x0), .val (.int x1)] [] := by (first | (simp [entryFrame, mkF, argsToLocals, Value.category]; done) | rfl)
def QCFL (Z : State) (t1 : Addr) (kb : ClassId) (n : Nat) (vb : List Value) (h0 : Heap) (n0 : Nat) (v : Option Value) (h : Heap) (L : List Loc) : Prop := v = some (.int (0 : Int32)) ∧ Fr n0 L ∧ h = h0
theorem d10_0 : decode jdk_52_method_15_code 0 = .ok (.iload_n 1, 1) := by decide +kernel
theorem d10_1 : decode jdk_52_method_15_code 1 = .ok (.aload_n 0, 1) := by decide +kernel
theorem d10_2 : decode jdk_52_method_15_code 2 = .ok (.arraylength, 1) := by decide +kernel
theorem d10_3 : decode jdk_52_method_15_code 3 = .ok (.isub, 1) := by decide +kernel
theorem d10_4 : decode jdk_52_method_15_code 4 = .ok (.bipush 31, 2) := by decide +kernel
theorem d10_6 : decode jdk_52_method_15_code 6 = .ok (.iushr, 1) := by decide +kernel
theorem d10_7 : decode jdk_52_method_15_code 7 = .ok (.i2b, 1) := by decide +kernel
theorem d10_8 : decode jdk_52_method_15_code 8 = .ok (.ireturn, 1) := by decide +kernel
set_option maxRecDepth 65536 in
set_option maxHeartbeats 40000000 in
theorem rmCFL (l : Launch) (Z : State) (a0 : Array Value) (hw : ∀ d ∈ tables_1, d.before a0 Z = true) (ws : List Jvm.Cond) (t1 : Addr) (kb : ClassId) (n : Nat) (vb : List Value) (h0 : Heap) (n0 : Nat) (Z0 : n0 ≤ h0.size) (KA : Arv Z h0 t1 kb .byte (Int32.ofNat (n)) vb (.int (0 : Int32))) (hn : 0 < n) (hn5 : n ≤ 5) :
    MetFree l (⟨"java/lang/StringUTF16", "coderFromArrayLen", "([BI)B"⟩ : MethodName) (head1 (Jvm.Cond.code (⟨"java/lang/StringUTF16", "coderFromArrayLen", "([BI)B"⟩ : MethodName) jdk_52_method_15_code 2 (some .byte) :: ws) ({ frames := 0, cells := 0, slots := 0, locals := 0 } : Room)) (fun a U => a = #[(.ref t1), (.int (Int32.ofNat n))] ∧ Z.Warmed39 U.vm ∧ U.heap = h0) (fun _ _ _ _ _ => True) (fun _ U o U' => ∃ v L, o = .returned v ∧ QCFL Z t1 kb n vb h0 n0 v U'.heap L ∧ FrameEnd U o U' L ({ frames := 0, cells := 0, slots := 0, locals := 0 } : Room).cells ({ frames := 0, cells := 0, slots := 0, locals := 0 } : Room).slots) := by
  refine MetFree.of_bodySF (plainFor_of_name pn_java_lang_StringUTF16) hisR ?_
  intro p e s m args below meth c s₁ Bd hml0 hP hK
  obtain ⟨rfl, hZ, hh⟩ := hP
  have hx := Bd.exec
  have hby := Bd.bytes
  have hml : c.maxLocals = 2 := hml0
  have hown : s.vm.findClass "java/lang/StringUTF16" = some m.cls := findClass_of_methodNamed Bd.named
  have hnm := (name_of_methodNamed Bd.named Bd.method).1
  have X0 : Stand p l e ({ frames := 0, cells := 0, slots := 0, locals := 0 } : Room) s m #[(.ref t1), (.int (Int32.ofNat n))] below meth c s₁ [] 0 0 := Stand.of_body Bd
  have e0 : s₁.heap = h0 := by rw [← hh, Bd.state]; rfl
  have N0 := Fr.nil n0
  have pre0 : ∀ t, Steps p.tables e below (s₁.setTop (mkF m 0 #[.val (.ref t1), .val (.int (Int32.ofNat n))] [])) t → Steps p.tables e below (s₁.setTop (entryFrame m #[(.ref t1), (.int (Int32.ofNat n))] 2)) t := fun t k => castTop (ef_CFL m t1 (Int32.ofNat n)) k
  obtain ⟨c164, Ar164, -, S164, M164, -, -⟩ := id KA
  have ecf : (((((Int32.ofNat n) - (Int32.ofNat (n))).toUInt32 >>> ((31 : Int32) &&& 31).toUInt32).toInt32).toInt8.toInt32) = (0 : Int32) := by
    exact own_cf0 _
  have pre165 : ∀ t, Steps p.tables e below (s₁.setTop (mkF m 8 #[.val (.ref t1), .val (.int (Int32.ofNat n))] [(.int (0 : Int32))])) t → Steps p.tables e below (s₁.setTop (mkF m 0 #[.val (.ref t1), .val (.int (Int32.ofNat n))] [])) t := by
    intro t kt
    show Steps p.tables e below (s₁.setTop (mkF m 0 #[.val (.ref t1), .val (.int (Int32.ofNat n))] [])) _
    refine XS.iloadN X0.here hx rfl (hb hby d10_0) rfl ?_
    refine XS.aloadN X0.here hx rfl (hb hby d10_1) rfl rfl ?_
    refine X0.arraylength hx (by rw [e0]; exact Ar164.1) (State.isArrayOf_alike hZ.alike Ar164.2.1) (g := (mkF m 2 #[.val (.ref t1), .val (.int (Int32.ofNat n))] [(.ref t1), (.int (Int32.ofNat n))])) rfl rfl (hb hby d10_2) _ ?_
    rw [len_of S164 M164]
    show Steps p.tables e below (s₁.setTop (mkF m 3 #[.val (.ref t1), .val (.int (Int32.ofNat n))] [(.int (Int32.ofNat (n))), (.int (Int32.ofNat n))])) _
    refine XS.isub X0.here hx rfl (hb hby d10_3) rfl ?_
    refine XS.bipush X0.here hx rfl (hb hby d10_4) ?_
    refine XS.iushr X0.here hx rfl (hb hby d10_6) rfl ?_
    refine XS.i2b X0.here hx rfl (hb hby d10_7) rfl ?_
    show Steps p.tables e below (s₁.setTop (mkF m 8 #[.val (.ref t1), .val (.int (Int32.ofNat n))] [(.int (((((Int32.ofNat n) - (Int32.ofNat (n))).toUInt32 >>> ((31 : Int32) &&& 31).toUInt32).toInt32).toInt8.toInt32))])) _
    rw [ecf]
    exact kt
  obtain ⟨fs, hr, hrun, hended, hW, hsame⟩ := X0.leave (v := some (.int (0 : Int32))) (fun h => by rw [Bd.returns] at h; cases h)
  refine ⟨_, _, (pre0 _ (pre165 _ ?_)), hrun, hended, _, _, rfl, ?_, ⟨_, rfl⟩, hW, hsame.mono (by decide) (by decide)⟩
  · show Steps p.tables e below (s₁.setTop (mkF m 8 #[.val (.ref t1), .val (.int (Int32.ofNat n))] [(.int (0 : Int32))])) _
    exact retN X0 hx (t := .byte) Bd.returns (by simp) (hb hby d10_8) hr
  · show QCFL Z t1 kb n vb h0 n0 _ s₁.heap _
    rw [e0]
    exact ⟨rfl, N0, rfl⟩
theorem ef_CFU (m : MethodId) (x0 : Addr) (x1 : Int32) : entryFrame m #[(.ref x0), (.int x1)] 2 = mkF m 0 #[.val (.ref x0), .val (.int x1)] [] := by (first | (simp [entryFrame, mkF, argsToLocals, Value.category]; done) | rfl)
def QCFU (Z : State) (t1 : Addr) (kb : ClassId) (n : Nat) (vb : List Value) (h0 : Heap) (n0 : Nat) (v : Option Value) (h : Heap) (L : List Loc) : Prop := v = some (.int (1 : Int32)) ∧ Fr n0 L ∧ h = h0
set_option maxRecDepth 65536 in
set_option maxHeartbeats 40000000 in
theorem rmCFU (l : Launch) (Z : State) (a0 : Array Value) (hw : ∀ d ∈ tables_1, d.before a0 Z = true) (ws : List Jvm.Cond) (t1 : Addr) (kb : ClassId) (n : Nat) (vb : List Value) (h0 : Heap) (n0 : Nat) (Z0 : n0 ≤ h0.size) (KA : Arv Z h0 t1 kb .byte (Int32.ofNat (2 * n)) vb (.int (0 : Int32))) (hn : 0 < n) (hn5 : n ≤ 5) :
    MetFree l (⟨"java/lang/StringUTF16", "coderFromArrayLen", "([BI)B"⟩ : MethodName) (head1 (Jvm.Cond.code (⟨"java/lang/StringUTF16", "coderFromArrayLen", "([BI)B"⟩ : MethodName) jdk_52_method_15_code 2 (some .byte) :: ws) ({ frames := 0, cells := 0, slots := 0, locals := 0 } : Room)) (fun a U => a = #[(.ref t1), (.int (Int32.ofNat n))] ∧ Z.Warmed39 U.vm ∧ U.heap = h0) (fun _ _ _ _ _ => True) (fun _ U o U' => ∃ v L, o = .returned v ∧ QCFU Z t1 kb n vb h0 n0 v U'.heap L ∧ FrameEnd U o U' L ({ frames := 0, cells := 0, slots := 0, locals := 0 } : Room).cells ({ frames := 0, cells := 0, slots := 0, locals := 0 } : Room).slots) := by
  refine MetFree.of_bodySF (plainFor_of_name pn_java_lang_StringUTF16) hisR ?_
  intro p e s m args below meth c s₁ Bd hml0 hP hK
  obtain ⟨rfl, hZ, hh⟩ := hP
  have hx := Bd.exec
  have hby := Bd.bytes
  have hml : c.maxLocals = 2 := hml0
  have hown : s.vm.findClass "java/lang/StringUTF16" = some m.cls := findClass_of_methodNamed Bd.named
  have hnm := (name_of_methodNamed Bd.named Bd.method).1
  have X0 : Stand p l e ({ frames := 0, cells := 0, slots := 0, locals := 0 } : Room) s m #[(.ref t1), (.int (Int32.ofNat n))] below meth c s₁ [] 0 0 := Stand.of_body Bd
  have e0 : s₁.heap = h0 := by rw [← hh, Bd.state]; rfl
  have N0 := Fr.nil n0
  have pre0 : ∀ t, Steps p.tables e below (s₁.setTop (mkF m 0 #[.val (.ref t1), .val (.int (Int32.ofNat n))] [])) t → Steps p.tables e below (s₁.setTop (entryFrame m #[(.ref t1), (.int (Int32.ofNat n))] 2)) t := fun t k => castTop (ef_CFU m t1 (Int32.ofNat n)) k
  obtain ⟨c166, Ar166, -, S166, M166, -, -⟩ := id KA
  have ecf : (((((Int32.ofNat n) - (Int32.ofNat (2 * n))).toUInt32 >>> ((31 : Int32) &&& 31).toUInt32).toInt32).toInt8.toInt32) = (1 : Int32) := by
    exact own_cf1 hn hn5
  have pre167 : ∀ t, Steps p.tables e below (s₁.setTop (mkF m 8 #[.val (.ref t1), .val (.int (Int32.ofNat n))] [(.int (1 : Int32))])) t → Steps p.tables e below (s₁.setTop (mkF m 0 #[.val (.ref t1), .val (.int (Int32.ofNat n))] [])) t := by
    intro t kt
    show Steps p.tables e below (s₁.setTop (mkF m 0 #[.val (.ref t1), .val (.int (Int32.ofNat n))] [])) _
    refine XS.iloadN X0.here hx rfl (hb hby d10_0) rfl ?_
    refine XS.aloadN X0.here hx rfl (hb hby d10_1) rfl rfl ?_
    refine X0.arraylength hx (by rw [e0]; exact Ar166.1) (State.isArrayOf_alike hZ.alike Ar166.2.1) (g := (mkF m 2 #[.val (.ref t1), .val (.int (Int32.ofNat n))] [(.ref t1), (.int (Int32.ofNat n))])) rfl rfl (hb hby d10_2) _ ?_
    rw [len_of S166 M166]
    show Steps p.tables e below (s₁.setTop (mkF m 3 #[.val (.ref t1), .val (.int (Int32.ofNat n))] [(.int (Int32.ofNat (2 * n))), (.int (Int32.ofNat n))])) _
    refine XS.isub X0.here hx rfl (hb hby d10_3) rfl ?_
    refine XS.bipush X0.here hx rfl (hb hby d10_4) ?_
    refine XS.iushr X0.here hx rfl (hb hby d10_6) rfl ?_
    refine XS.i2b X0.here hx rfl (hb hby d10_7) rfl ?_
    show Steps p.tables e below (s₁.setTop (mkF m 8 #[.val (.ref t1), .val (.int (Int32.ofNat n))] [(.int (((((Int32.ofNat n) - (Int32.ofNat (2 * n))).toUInt32 >>> ((31 : Int32) &&& 31).toUInt32).toInt32).toInt8.toInt32))])) _
    rw [ecf]
    exact kt
  obtain ⟨fs, hr, hrun, hended, hW, hsame⟩ := X0.leave (v := some (.int (1 : Int32))) (fun h => by rw [Bd.returns] at h; cases h)
  refine ⟨_, _, (pre0 _ (pre167 _ ?_)), hrun, hended, _, _, rfl, ?_, ⟨_, rfl⟩, hW, hsame.mono (by decide) (by decide)⟩
  · show Steps p.tables e below (s₁.setTop (mkF m 8 #[.val (.ref t1), .val (.int (Int32.ofNat n))] [(.int (1 : Int32))])) _
    exact retN X0 hx (t := .byte) Bd.returns (by simp) (hb hby d10_8) hr
  · show QCFU Z t1 kb n vb h0 n0 _ s₁.heap _
    rw [e0]
    exact ⟨rfl, N0, rfl⟩
theorem own_eqv {args : Array Value} {s : State} {a b : Term} {z : Int32} (h : (Cond.eq a b).value args s none s [] = some true) (hb : b.eval args s none [] s = some (.int z)) : a.eval args s none [] s = some (.int z) := by
  obtain ⟨x, y', ha, hb', k1, k2⟩ := cmp_v (Or.inl h)
  cases hb.symm.trans hb'
  rw [ha]
  obtain ⟨z', rfl⟩ := k2
  simp [Cond.value, ha, hb] at h
  rw [h]
theorem own_dep (p : Int32) : ∃ n : Nat, ((p &&& (2147483647 : Int32)) % (6 : Int32)) = Int32.ofNat n ∧ n ≤ 5 := by
  have h1 := c_mask p 2147483647 31 (by decide) (by decide)
  have h2 := (c_irem (p &&& 2147483647) 6 6 (by decide)).1 (by rw [h1]; omega)
  have a2 := Int.emod_nonneg (p &&& 2147483647).toInt (b := 6) (by omega)
  have a3 := Int.emod_lt_of_pos (p &&& 2147483647).toInt (b := 6) (by omega)
  refine ⟨((p &&& 2147483647) % 6).toInt.toNat, Int32.toInt_inj.mp ?_, by omega⟩
  rw [own_n (by omega)]; omega
theorem own_c16 (x : Int32) : ∃ c : Int32, x.toUInt32.toUInt16.toUInt32.toInt32 = c ∧ nar .char c = c := by
  refine ⟨_, rfl, ?_⟩
  simp only [nar]
  have q1 := c_i2c x
  generalize x.toUInt32.toUInt16.toUInt32.toInt32 = x1 at *
  have q2 := c_i2c x1
  exact Int32.toInt_inj.mp (by omega)
theorem own_six {n : Nat} (h : n ≤ 5) : n = 0 ∨ n = 1 ∨ n = 2 ∨ n = 3 ∨ n = 4 ∨ n = 5 := by omega
theorem ef_Cp2 (m : MethodId) (x0 : Addr) (x1 : Int32) (x2 : Addr) (x3 : Int32) (x4 : Int32) : entryFrame m #[(.ref x0), (.int x1), (.ref x2), (.int x3), (.int x4)] 7 = mkF m 0 #[.val (.ref x0), .val (.int x1), .val (.ref x2), .val (.int x3), .val (.int x4), .unset, .unset] [] := by (first | (simp [entryFrame, mkF, argsToLocals, Value.category]; done) | rfl)
def QCp2 (Z : State) (t1 : Addr) (kc : ClassId) (t3 : Addr) (k3 : ClassId) (c0 : Int32) (c1 : Int32) (h0 : Heap) (n0 : Nat) (v : Option Value) (h : Heap) (L : List Loc) : Prop := ∃ k : Nat, v = some (.int (Int32.ofNat k)) ∧ Fr n0 L ∧ Keep h0 h [t3] ∧ ((k = 2 ∧ Arv Z h t3 k3 .byte (2 : Int32) [(.int (nar .byte (c0.toInt8.toInt32))), (.int (nar .byte (c1.toInt8.toInt32)))] (.int (0 : Int32)) ∧ ¬ ((255 : Int32) < c0) ∧ ¬ ((255 : Int32) < c1)) ∨ (k < 2 ∧ (255 : Int32) < [c0, c1].getD k 0))
theorem d9_0 : decode jdk_52_method_21_code 0 = .ok (.iconst 0, 1) := by decide +kernel
theorem d9_1 : decode jdk_52_method_21_code 1 = .ok (.istore 5, 2) := by decide +kernel
theorem d9_3 : decode jdk_52_method_21_code 3 = .ok (.iload 5, 2) := by decide +kernel
theorem d9_5 : decode jdk_52_method_21_code 5 = .ok (.iload 4, 2) := by decide +kernel
theorem d9_7 : decode jdk_52_method_21_code 7 = .ok (.if_icmp .ge 37, 3) := by decide +kernel
theorem d9_10 : decode jdk_52_method_21_code 10 = .ok (.aload_n 0, 1) := by decide +kernel
theorem d9_11 : decode jdk_52_method_21_code 11 = .ok (.iload_n 1, 1) := by decide +kernel
theorem d9_12 : decode jdk_52_method_21_code 12 = .ok (.caload, 1) := by decide +kernel
theorem d9_13 : decode jdk_52_method_21_code 13 = .ok (.istore 6, 2) := by decide +kernel
theorem d9_15 : decode jdk_52_method_21_code 15 = .ok (.iload 6, 2) := by decide +kernel
theorem d9_17 : decode jdk_52_method_21_code 17 = .ok (.sipush 255, 3) := by decide +kernel
theorem d9_20 : decode jdk_52_method_21_code 20 = .ok (.if_icmp .le 6, 3) := by decide +kernel
theorem d9_23 : decode jdk_52_method_21_code 23 = .ok (.iload 5, 2) := by decide +kernel
theorem d9_25 : decode jdk_52_method_21_code 25 = .ok (.ireturn, 1) := by decide +kernel
theorem d9_26 : decode jdk_52_method_21_code 26 = .ok (.aload_n 2, 1) := by decide +kernel
theorem d9_27 : decode jdk_52_method_21_code 27 = .ok (.iload_n 3, 1) := by decide +kernel
theorem d9_28 : decode jdk_52_method_21_code 28 = .ok (.iload 6, 2) := by decide +kernel
theorem d9_30 : decode jdk_52_method_21_code 30 = .ok (.i2b, 1) := by decide +kernel
theorem d9_31 : decode jdk_52_method_21_code 31 = .ok (.bastore, 1) := by decide +kernel
theorem d9_32 : decode jdk_52_method_21_code 32 = .ok (.iinc 1 1, 3) := by decide +kernel
theorem d9_35 : decode jdk_52_method_21_code 35 = .ok (.iinc 3 1, 3) := by decide +kernel
theorem d9_38 : decode jdk_52_method_21_code 38 = .ok (.iinc 5 1, 3) := by decide +kernel
theorem d9_41 : decode jdk_52_method_21_code 41 = .ok (.goto (-38), 3) := by decide +kernel
theorem d9_44 : decode jdk_52_method_21_code 44 = .ok (.iload 4, 2) := by decide +kernel
theorem d9_46 : decode jdk_52_method_21_code 46 = .ok (.ireturn, 1) := by decide +kernel
set_option maxRecDepth 65536 in
set_option maxHeartbeats 40000000 in
theorem rmCp2 (l : Launch) (Z : State) (a0 : Array Value) (hw : ∀ d ∈ tables_1, d.before a0 Z = true) (ws : List Jvm.Cond) (t1 : Addr) (kc : ClassId) (t3 : Addr) (k3 : ClassId) (c0 : Int32) (c1 : Int32) (h0 : Heap) (n0 : Nat) (Z0 : n0 ≤ h0.size) (KT : Arv Z h0 t1 kc .char (2 : Int32) [(.int c0), (.int c1)] (.int (0 : Int32))) (K3 : Arv Z h0 t3 k3 .byte (2 : Int32) [(.int (0 : Int32)), (.int (0 : Int32))] (.int (0 : Int32))) (g_t3 : n0 ≤ t3) (ne_t1_t3 : t1 ≠ t3) :
    MetFree l (⟨"java/lang/StringUTF16", "compress", "([CI[BII)I"⟩ : MethodName) (head1 (Jvm.Cond.code (⟨"java/lang/StringUTF16", "compress", "([CI[BII)I"⟩ : MethodName) jdk_52_method_21_code 7 (some .int) :: ws) ({ frames := 0, cells := 0, slots := 0, locals := 0 } : Room)) (fun a U => a = #[(.ref t1), (.int (0 : Int32)), (.ref t3), (.int (0 : Int32)), (.int (2 : Int32))] ∧ Z.Warmed39 U.vm ∧ U.heap = h0) (fun _ _ _ _ _ => True) (fun _ U o U' => ∃ v L, o = .returned v ∧ QCp2 Z t1 kc t3 k3 c0 c1 h0 n0 v U'.heap L ∧ FrameEnd U o U' L ({ frames := 0, cells := 0, slots := 0, locals := 0 } : Room).cells ({ frames := 0, cells := 0, slots := 0, locals := 0 } : Room).slots) := by
  refine MetFree.of_bodySF (plainFor_of_name pn_java_lang_StringUTF16) hisR ?_
  intro p e s m args below meth c s₁ Bd hml0 hP hK
  obtain ⟨rfl, hZ, hh⟩ := hP
  have hx := Bd.exec
  have hby := Bd.bytes
  have hml : c.maxLocals = 7 := hml0
  have hown : s.vm.findClass "java/lang/StringUTF16" = some m.cls := findClass_of_methodNamed Bd.named
  have hnm := (name_of_methodNamed Bd.named Bd.method).1
  have X0 : Stand p l e ({ frames := 0, cells := 0, slots := 0, locals := 0 } : Room) s m #[(.ref t1), (.int (0 : Int32)), (.ref t3), (.int (0 : Int32)), (.int (2 : Int32))] below meth c s₁ [] 0 0 := Stand.of_body Bd
  have e0 : s₁.heap = h0 := by rw [← hh, Bd.state]; rfl
  have N0 := Fr.nil n0
  have pre0 : ∀ t, Steps p.tables e below (s₁.setTop (mkF m 0 #[.val (.ref t1), .val (.int (0 : Int32)), .val (.ref t3), .val (.int (0 : Int32)), .val (.int (2 : Int32)), .unset, .unset] [])) t → Steps p.tables e below (s₁.setTop (entryFrame m #[(.ref t1), (.int (0 : Int32)), (.ref t3), (.int (0 : Int32)), (.int (2 : Int32))] 7)) t := fun t k => castTop (ef_Cp2 m t1 (0 : Int32) t3 (0 : Int32) (2 : Int32)) k
  have mem_t3 : t3 ∈ [t3] := List.mem_of_getElem? (i := 0) rfl
  obtain ⟨c168, Ar168, q168, S168, M168, H168, G168⟩ := id KT
  have hin168 : ¬ ((0 : Int32) < 0 ∨ c168.slots.size ≤ ((0 : Int32)).toNatClampNeg) := inb_of S168 ⟨by decide, by decide⟩
  have hat168 : c168.slots[((0 : Int32)).toNatClampNeg]? = some (.int c0) := (H168 _ (Nat.lt_of_not_le fun y => hin168 (Or.inr y))).trans rfl
  have pre169 : ∀ t, Steps p.tables e below (s₁.setTop (mkF m 20 #[.val (.ref t1), .val (.int (0 : Int32)), .val (.ref t3), .val (.int (0 : Int32)), .val (.int (2 : Int32)), .val (.int (0 : Int32)), .val (.int c0)] [(.int (255 : Int32)), (.int c0)])) t → Steps p.tables e below (s₁.setTop (mkF m 0 #[.val (.ref t1), .val (.int (0 : Int32)), .val (.ref t3), .val (.int (0 : Int32)), .val (.int (2 : Int32)), .unset, .unset] [])) t := by
    intro t kt
    show Steps p.tables e below (s₁.setTop (mkF m 0 #[.val (.ref t1), .val (.int (0 : Int32)), .val (.ref t3), .val (.int (0 : Int32)), .val (.int (2 : Int32)), .unset, .unset] [])) _
    refine XS.iconst X0.here hx rfl (hb hby d9_0) ?_
    refine XS.istore X0.here hx rfl (hb hby d9_1) rfl (l' := #[.val (.ref t1), .val (.int (0 : Int32)), .val (.ref t3), .val (.int (0 : Int32)), .val (.int (2 : Int32)), .val (.int (0 : Int32)), .unset]) rfl ?_
    refine XS.iload X0.here hx rfl (hb hby d9_3) rfl ?_
    refine XS.iload X0.here hx rfl (hb hby d9_5) rfl ?_
    refine XS.icmpNo X0.here hx rfl (hb hby d9_7) rfl (tlt (by decide : (0 : Int32) < (2 : Int32))).2.1 ?_
    show Steps p.tables e below (s₁.setTop (mkF m 10 #[.val (.ref t1), .val (.int (0 : Int32)), .val (.ref t3), .val (.int (0 : Int32)), .val (.int (2 : Int32)), .val (.int (0 : Int32)), .unset] [])) _
    refine XS.aloadN X0.here hx rfl (hb hby d9_10) rfl rfl ?_
    refine XS.iloadN X0.here hx rfl (hb hby d9_11) rfl ?_
    show Steps p.tables e below (s₁.setTop (mkF m 12 #[.val (.ref t1), .val (.int (0 : Int32)), .val (.ref t3), .val (.int (0 : Int32)), .val (.int (2 : Int32)), .val (.int (0 : Int32)), .unset] [(.int (0 : Int32)), (.ref t1)])) _
    refine X0.caload hx (j := (0 : Int32)) (v := (.int c0)) (by rw [e0]; exact Ar168.1) (State.isArrayOf_alike hZ.alike Ar168.2.1) Ar168.2.2 hin168 hat168 (g := (mkF m 12 #[.val (.ref t1), .val (.int (0 : Int32)), .val (.ref t3), .val (.int (0 : Int32)), .val (.int (2 : Int32)), .val (.int (0 : Int32)), .unset] [(.int (0 : Int32)), (.ref t1)])) rfl rfl (hb hby d9_12) _ ?_
    show Steps p.tables e below (s₁.setTop (mkF m 13 #[.val (.ref t1), .val (.int (0 : Int32)), .val (.ref t3), .val (.int (0 : Int32)), .val (.int (2 : Int32)), .val (.int (0 : Int32)), .unset] [(.int c0)])) _
    refine XS.istore X0.here hx rfl (hb hby d9_13) rfl (l' := #[.val (.ref t1), .val (.int (0 : Int32)), .val (.ref t3), .val (.int (0 : Int32)), .val (.int (2 : Int32)), .val (.int (0 : Int32)), .val (.int c0)]) rfl ?_
    refine XS.iload X0.here hx rfl (hb hby d9_15) rfl ?_
    refine XS.sipush X0.here hx rfl (hb hby d9_17) ?_
    exact kt
  by_cases gt0 : (255 : Int32) < c0
  · skip
    have pre170 : ∀ t, Steps p.tables e below (s₁.setTop (mkF m 25 #[.val (.ref t1), .val (.int (0 : Int32)), .val (.ref t3), .val (.int (0 : Int32)), .val (.int (2 : Int32)), .val (.int (0 : Int32)), .val (.int c0)] [(.int (0 : Int32))])) t → Steps p.tables e below (s₁.setTop (mkF m 20 #[.val (.ref t1), .val (.int (0 : Int32)), .val (.ref t3), .val (.int (0 : Int32)), .val (.int (2 : Int32)), .val (.int (0 : Int32)), .val (.int c0)] [(.int (255 : Int32)), (.int c0)])) t := by
      intro t kt
      refine XS.icmpNo X0.here hx rfl (hb hby d9_20) rfl (tlt (gt0 : (255 : Int32) < c0)).2.2.2 ?_
      show Steps p.tables e below (s₁.setTop (mkF m 23 #[.val (.ref t1), .val (.int (0 : Int32)), .val (.ref t3), .val (.int (0 : Int32)), .val (.int (2 : Int32)), .val (.int (0 : Int32)), .val (.int c0)] [])) _
      refine XS.iload X0.here hx rfl (hb hby d9_23) rfl ?_
      exact kt
    obtain ⟨fs, hr, hrun, hended, hW, hsame⟩ := X0.leave (v := some (.int (0 : Int32))) (fun h => by rw [Bd.returns] at h; cases h)
    refine ⟨_, _, (pre0 _ (pre169 _ (pre170 _ ?_))), hrun, hended, _, _, rfl, ?_, ⟨_, rfl⟩, hW, hsame.mono (by decide) (by decide)⟩
    · show Steps p.tables e below (s₁.setTop (mkF m 25 #[.val (.ref t1), .val (.int (0 : Int32)), .val (.ref t3), .val (.int (0 : Int32)), .val (.int (2 : Int32)), .val (.int (0 : Int32)), .val (.int c0)] [(.int (0 : Int32))])) _
      exact retOut X0 hx (t := .int) Bd.returns rfl (Or.inl ⟨rfl, Or.inl rfl, _, rfl⟩) (hb hby d9_25) hr
    · show QCp2 Z t1 kc t3 k3 c0 c1 h0 n0 _ s₁.heap _
      rw [e0]
      exact ⟨0, rfl, N0, (Keep.refl h0 [t3]), Or.inr ⟨by decide, gt0⟩⟩
  · skip
    obtain ⟨c171, Ar171, q171, S171, M171, H171, G171⟩ := id K3
    have hin171 : ¬ ((0 : Int32) < 0 ∨ c171.slots.size ≤ ((0 : Int32)).toNatClampNeg) := inb_of S171 ⟨by decide, by decide⟩
    obtain ⟨T172, h172, X172, e172, W172, st172⟩ := stB X0 hx hZ e0 Ar171 (j := (0 : Int32)) hin171 (g := (mkF m 31 #[.val (.ref t1), .val (.int (0 : Int32)), .val (.ref t3), .val (.int (0 : Int32)), .val (.int (2 : Int32)), .val (.int (0 : Int32)), .val (.int c0)] [(.int (c0.toInt8.toInt32)), (.int (0 : Int32)), (.ref t3)])) rfl rfl (hb hby d9_31)
    have N172 := Fr.snoc X172 N0 g_t3
    have K172 := (Keep.refl h0 [t3]).wr W172 (Or.inl mem_t3)
    have V172 : Arv Z h172 t3 k3 .byte (2 : Int32) [(.int (nar .byte (c0.toInt8.toInt32))), (.int (0 : Int32))] (.int (0 : Int32)) := Arv.set Ar171 q171 S171 M171 H171 G171 (fits_nar_byte _) W172 0 rfl (Nat.le_of_ble_eq_true rfl)
    have f173 := (KT.other W172 ne_t1_t3)
    obtain ⟨c174, Ar174, q174, S174, M174, H174, G174⟩ := id f173
    have hin174 : ¬ ((1 : Int32) < 0 ∨ c174.slots.size ≤ ((1 : Int32)).toNatClampNeg) := inb_of S174 ⟨by decide, by decide⟩
    have hat174 : c174.slots[((1 : Int32)).toNatClampNeg]? = some (.int c1) := (H174 _ (Nat.lt_of_not_le fun y => hin174 (Or.inr y))).trans rfl
    have pre175 : ∀ t, Steps p.tables e below (T172.setTop (mkF m 20 #[.val (.ref t1), .val (.int (1 : Int32)), .val (.ref t3), .val (.int (1 : Int32)), .val (.int (2 : Int32)), .val (.int (1 : Int32)), .val (.int c1)] [(.int (255 : Int32)), (.int c1)])) t → Steps p.tables e below (s₁.setTop (mkF m 20 #[.val (.ref t1), .val (.int (0 : Int32)), .val (.ref t3), .val (.int (0 : Int32)), .val (.int (2 : Int32)), .val (.int (0 : Int32)), .val (.int c0)] [(.int (255 : Int32)), (.int c0)])) t := by
      intro t kt
      refine XS.icmpYes X0.here hx rfl (pc0 := 20) (pc' := 26) rfl (hb hby d9_20) rfl (flt (gt0 : ¬ ((255 : Int32) < c0))).2.2.2 (by decide) (by decide) ?_
      show Steps p.tables e below (s₁.setTop (mkF m 26 #[.val (.ref t1), .val (.int (0 : Int32)), .val (.ref t3), .val (.int (0 : Int32)), .val (.int (2 : Int32)), .val (.int (0 : Int32)), .val (.int c0)] [])) _
      refine XS.aloadN X0.here hx rfl (hb hby d9_26) rfl rfl ?_
      refine XS.iloadN X0.here hx rfl (hb hby d9_27) rfl ?_
      refine XS.iload X0.here hx rfl (hb hby d9_28) rfl ?_
      refine XS.i2b X0.here hx rfl (hb hby d9_30) rfl ?_
      show Steps p.tables e below (s₁.setTop (mkF m 31 #[.val (.ref t1), .val (.int (0 : Int32)), .val (.ref t3), .val (.int (0 : Int32)), .val (.int (2 : Int32)), .val (.int (0 : Int32)), .val (.int c0)] [(.int (c0.toInt8.toInt32)), (.int (0 : Int32)), (.ref t3)])) _
      refine st172 _ ?_
      show Steps p.tables e below (T172.setTop (mkF m 32 #[.val (.ref t1), .val (.int (0 : Int32)), .val (.ref t3), .val (.int (0 : Int32)), .val (.int (2 : Int32)), .val (.int (0 : Int32)), .val (.int c0)] [])) _
      refine XS.iinc X172.here hx rfl (hb hby d9_32) rfl (l' := #[.val (.ref t1), .val (.int ((0 : Int32) + (1 : Int32))), .val (.ref t3), .val (.int (0 : Int32)), .val (.int (2 : Int32)), .val (.int (0 : Int32)), .val (.int c0)]) rfl ?_
      refine XS.iinc X172.here hx rfl (hb hby d9_35) rfl (l' := #[.val (.ref t1), .val (.int ((0 : Int32) + (1 : Int32))), .val (.ref t3), .val (.int ((0 : Int32) + (1 : Int32))), .val (.int (2 : Int32)), .val (.int (0 : Int32)), .val (.int c0)]) rfl ?_
      refine XS.iinc X172.here hx rfl (hb hby d9_38) rfl (l' := #[.val (.ref t1), .val (.int ((0 : Int32) + (1 : Int32))), .val (.ref t3), .val (.int ((0 : Int32) + (1 : Int32))), .val (.int (2 : Int32)), .val (.int ((0 : Int32) + (1 : Int32))), .val (.int c0)]) rfl ?_
      show Steps p.tables e below (T172.setTop (mkF m 41 #[.val (.ref t1), .val (.int ((0 : Int32) + (1 : Int32))), .val (.ref t3), .val (.int ((0 : Int32) + (1 : Int32))), .val (.int (2 : Int32)), .val (.int ((0 : Int32) + (1 : Int32))), .val (.int c0)] [])) _
      rw [show ((0 : Int32) + (1 : Int32)) = (1 : Int32) from by decide]
      show Steps p.tables e below (T172.setTop (mkF m 41 #[.val (.ref t1), .val (.int (1 : Int32)), .val (.ref t3), .val (.int (1 : Int32)), .val (.int (2 : Int32)), .val (.int (1 : Int32)), .val (.int c0)] [])) _
      refine XS.goto X172.here hx rfl (pc0 := 41) (pc' := 3) rfl (hb hby d9_41) (by decide) (by decide) ?_
      show Steps p.tables e below (T172.setTop (mkF m 3 #[.val (.ref t1), .val (.int (1 : Int32)), .val (.ref t3), .val (.int (1 : Int32)), .val (.int (2 : Int32)), .val (.int (1 : Int32)), .val (.int c0)] [])) _
      refine XS.iload X172.here hx rfl (hb hby d9_3) rfl ?_
      refine XS.iload X172.here hx rfl (hb hby d9_5) rfl ?_
      refine XS.icmpNo X172.here hx rfl (hb hby d9_7) rfl (tlt (by decide : (1 : Int32) < (2 : Int32))).2.1 ?_
      show Steps p.tables e below (T172.setTop (mkF m 10 #[.val (.ref t1), .val (.int (1 : Int32)), .val (.ref t3), .val (.int (1 : Int32)), .val (.int (2 : Int32)), .val (.int (1 : Int32)), .val (.int c0)] [])) _
      refine XS.aloadN X172.here hx rfl (hb hby d9_10) rfl rfl ?_
      refine XS.iloadN X172.here hx rfl (hb hby d9_11) rfl ?_
      show Steps p.tables e below (T172.setTop (mkF m 12 #[.val (.ref t1), .val (.int (1 : Int32)), .val (.ref t3), .val (.int (1 : Int32)), .val (.int (2 : Int32)), .val (.int (1 : Int32)), .val (.int c0)] [(.int (1 : Int32)), (.ref t1)])) _
      refine X172.caload hx (j := (1 : Int32)) (v := (.int c1)) (by rw [e172]; exact Ar174.1) (State.isArrayOf_alike hZ.alike Ar174.2.1) Ar174.2.2 hin174 hat174 (g := (mkF m 12 #[.val (.ref t1), .val (.int (1 : Int32)), .val (.ref t3), .val (.int (1 : Int32)), .val (.int (2 : Int32)), .val (.int (1 : Int32)), .val (.int c0)] [(.int (1 : Int32)), (.ref t1)])) rfl rfl (hb hby d9_12) _ ?_
      show Steps p.tables e below (T172.setTop (mkF m 13 #[.val (.ref t1), .val (.int (1 : Int32)), .val (.ref t3), .val (.int (1 : Int32)), .val (.int (2 : Int32)), .val (.int (1 : Int32)), .val (.int c0)] [(.int c1)])) _
      refine XS.istore X172.here hx rfl (hb hby d9_13) rfl (l' := #[.val (.ref t1), .val (.int (1 : Int32)), .val (.ref t3), .val (.int (1 : Int32)), .val (.int (2 : Int32)), .val (.int (1 : Int32)), .val (.int c1)]) rfl ?_
      refine XS.iload X172.here hx rfl (hb hby d9_15) rfl ?_
      refine XS.sipush X172.here hx rfl (hb hby d9_17) ?_
      exact kt
    by_cases gt1 : (255 : Int32) < c1
    · skip
      have pre176 : ∀ t, Steps p.tables e below (T172.setTop (mkF m 25 #[.val (.ref t1), .val (.int (1 : Int32)), .val (.ref t3), .val (.int (1 : Int32)), .val (.int (2 : Int32)), .val (.int (1 : Int32)), .val (.int c1)] [(.int (1 : Int32))])) t → Steps p.tables e below (T172.setTop (mkF m 20 #[.val (.ref t1), .val (.int (1 : Int32)), .val (.ref t3), .val (.int (1 : Int32)), .val (.int (2 : Int32)), .val (.int (1 : Int32)), .val (.int c1)] [(.int (255 : Int32)), (.int c1)])) t := by
        intro t kt
        refine XS.icmpNo X172.here hx rfl (hb hby d9_20) rfl (tlt (gt1 : (255 : Int32) < c1)).2.2.2 ?_
        show Steps p.tables e below (T172.setTop (mkF m 23 #[.val (.ref t1), .val (.int (1 : Int32)), .val (.ref t3), .val (.int (1 : Int32)), .val (.int (2 : Int32)), .val (.int (1 : Int32)), .val (.int c1)] [])) _
        refine XS.iload X172.here hx rfl (hb hby d9_23) rfl ?_
        exact kt
      obtain ⟨fs, hr, hrun, hended, hW, hsame⟩ := X172.leave (v := some (.int (1 : Int32))) (fun h => by rw [Bd.returns] at h; cases h)
      refine ⟨_, _, (pre0 _ (pre169 _ (pre175 _ (pre176 _ ?_)))), hrun, hended, _, _, rfl, ?_, ⟨_, rfl⟩, hW, hsame.mono (by decide) (by decide)⟩
      · show Steps p.tables e below (T172.setTop (mkF m 25 #[.val (.ref t1), .val (.int (1 : Int32)), .val (.ref t3), .val (.int (1 : Int32)), .val (.int (2 : Int32)), .val (.int (1 : Int32)), .val (.int c1)] [(.int (1 : Int32))])) _
        exact retOut X172 hx (t := .int) Bd.returns rfl (Or.inl ⟨rfl, Or.inl rfl, _, rfl⟩) (hb hby d9_25) hr
      · show QCp2 Z t1 kc t3 k3 c0 c1 h0 n0 _ T172.heap _
        rw [e172]
        exact ⟨1, rfl, N172, K172, Or.inr ⟨by decide, gt1⟩⟩
    · skip
      obtain ⟨c177, Ar177, q177, S177, M177, H177, G177⟩ := id V172
      have hin177 : ¬ ((1 : Int32) < 0 ∨ c177.slots.size ≤ ((1 : Int32)).toNatClampNeg) := inb_of S177 ⟨by decide, by decide⟩
      obtain ⟨T178, h178, X178, e178, W178, st178⟩ := stB X172 hx hZ e172 Ar177 (j := (1 : Int32)) hin177 (g := (mkF m 31 #[.val (.ref t1), .val (.int (1 : Int32)), .val (.ref t3), .val (.int (1 : Int32)), .val (.int (2 : Int32)), .val (.int (1 : Int32)), .val (.int c1)] [(.int (c1.toInt8.toInt32)), (.int (1 : Int32)), (.ref t3)])) rfl rfl (hb hby d9_31)
      have N178 := Fr.snoc X178 N172 g_t3
      have K178 := K172.wr W178 (Or.inl mem_t3)
      have V178 : Arv Z h178 t3 k3 .byte (2 : Int32) [(.int (nar .byte (c0.toInt8.toInt32))), (.int (nar .byte (c1.toInt8.toInt32)))] (.int (0 : Int32)) := Arv.set Ar177 q177 S177 M177 H177 G177 (fits_nar_byte _) W178 1 rfl (Nat.le_of_ble_eq_true rfl)
      have pre179 : ∀ t, Steps p.tables e below (T178.setTop (mkF m 46 #[.val (.ref t1), .val (.int (2 : Int32)), .val (.ref t3), .val (.int (2 : Int32)), .val (.int (2 : Int32)), .val (.int (2 : Int32)), .val (.int c1)] [(.int (2 : Int32))])) t → Steps p.tables e below (T172.setTop (mkF m 20 #[.val (.ref t1), .val (.int (1 : Int32)), .val (.ref t3), .val (.int (1 : Int32)), .val (.int (2 : Int32)), .val (.int (1 : Int32)), .val (.int c1)] [(.int (255 : Int32)), (.int c1)])) t := by
        intro t kt
        refine XS.icmpYes X172.here hx rfl (pc0 := 20) (pc' := 26) rfl (hb hby d9_20) rfl (flt (gt1 : ¬ ((255 : Int32) < c1))).2.2.2 (by decide) (by decide) ?_
        show Steps p.tables e below (T172.setTop (mkF m 26 #[.val (.ref t1), .val (.int (1 : Int32)), .val (.ref t3), .val (.int (1 : Int32)), .val (.int (2 : Int32)), .val (.int (1 : Int32)), .val (.int c1)] [])) _
        refine XS.aloadN X172.here hx rfl (hb hby d9_26) rfl rfl ?_
        refine XS.iloadN X172.here hx rfl (hb hby d9_27) rfl ?_
        refine XS.iload X172.here hx rfl (hb hby d9_28) rfl ?_
        refine XS.i2b X172.here hx rfl (hb hby d9_30) rfl ?_
        show Steps p.tables e below (T172.setTop (mkF m 31 #[.val (.ref t1), .val (.int (1 : Int32)), .val (.ref t3), .val (.int (1 : Int32)), .val (.int (2 : Int32)), .val (.int (1 : Int32)), .val (.int c1)] [(.int (c1.toInt8.toInt32)), (.int (1 : Int32)), (.ref t3)])) _
        refine st178 _ ?_
        show Steps p.tables e below (T178.setTop (mkF m 32 #[.val (.ref t1), .val (.int (1 : Int32)), .val (.ref t3), .val (.int (1 : Int32)), .val (.int (2 : Int32)), .val (.int (1 : Int32)), .val (.int c1)] [])) _
        refine XS.iinc X178.here hx rfl (hb hby d9_32) rfl (l' := #[.val (.ref t1), .val (.int ((1 : Int32) + (1 : Int32))), .val (.ref t3), .val (.int (1 : Int32)), .val (.int (2 : Int32)), .val (.int (1 : Int32)), .val (.int c1)]) rfl ?_
        refine XS.iinc X178.here hx rfl (hb hby d9_35) rfl (l' := #[.val (.ref t1), .val (.int ((1 : Int32) + (1 : Int32))), .val (.ref t3), .val (.int ((1 : Int32) + (1 : Int32))), .val (.int (2 : Int32)), .val (.int (1 : Int32)), .val (.int c1)]) rfl ?_
        refine XS.iinc X178.here hx rfl (hb hby d9_38) rfl (l' := #[.val (.ref t1), .val (.int ((1 : Int32) + (1 : Int32))), .val (.ref t3), .val (.int ((1 : Int32) + (1 : Int32))), .val (.int (2 : Int32)), .val (.int ((1 : Int32) + (1 : Int32))), .val (.int c1)]) rfl ?_
        show Steps p.tables e below (T178.setTop (mkF m 41 #[.val (.ref t1), .val (.int ((1 : Int32) + (1 : Int32))), .val (.ref t3), .val (.int ((1 : Int32) + (1 : Int32))), .val (.int (2 : Int32)), .val (.int ((1 : Int32) + (1 : Int32))), .val (.int c1)] [])) _
        rw [show ((1 : Int32) + (1 : Int32)) = (2 : Int32) from by decide]
        show Steps p.tables e below (T178.setTop (mkF m 41 #[.val (.ref t1), .val (.int (2 : Int32)), .val (.ref t3), .val (.int (2 : Int32)), .val (.int (2 : Int32)), .val (.int (2 : Int32)), .val (.int c1)] [])) _
        refine XS.goto X178.here hx rfl (pc0 := 41) (pc' := 3) rfl (hb hby d9_41) (by decide) (by decide) ?_
        show Steps p.tables e below (T178.setTop (mkF m 3 #[.val (.ref t1), .val (.int (2 : Int32)), .val (.ref t3), .val (.int (2 : Int32)), .val (.int (2 : Int32)), .val (.int (2 : Int32)), .val (.int c1)] [])) _
        refine XS.iload X178.here hx rfl (hb hby d9_3) rfl ?_
        refine XS.iload X178.here hx rfl (hb hby d9_5) rfl ?_
        refine XS.icmpYes X178.here hx rfl (pc0 := 7) (pc' := 44) rfl (hb hby d9_7) rfl (flt (by decide : ¬ ((2 : Int32) < (2 : Int32)))).2.1 (by decide) (by decide) ?_
        show Steps p.tables e below (T178.setTop (mkF m 44 #[.val (.ref t1), .val (.int (2 : Int32)), .val (.ref t3), .val (.int (2 : Int32)), .val (.int (2 : Int32)), .val (.int (2 : Int32)), .val (.int c1)] [])) _
        refine XS.iload X178.here hx rfl (hb hby d9_44) rfl ?_
        exact kt
      obtain ⟨fs, hr, hrun, hended, hW, hsame⟩ := X178.leave (v := some (.int (2 : Int32))) (fun h => by rw [Bd.returns] at h; cases h)
      refine ⟨_, _, (pre0 _ (pre169 _ (pre175 _ (pre179 _ ?_)))), hrun, hended, _, _, rfl, ?_, ⟨_, rfl⟩, hW, hsame.mono (by decide) (by decide)⟩
      · show Steps p.tables e below (T178.setTop (mkF m 46 #[.val (.ref t1), .val (.int (2 : Int32)), .val (.ref t3), .val (.int (2 : Int32)), .val (.int (2 : Int32)), .val (.int (2 : Int32)), .val (.int c1)] [(.int (2 : Int32))])) _
        exact retOut X178 hx (t := .int) Bd.returns rfl (Or.inl ⟨rfl, Or.inl rfl, _, rfl⟩) (hb hby d9_46) hr
      · show QCp2 Z t1 kc t3 k3 c0 c1 h0 n0 _ T178.heap _
        rw [e178]
        exact ⟨2, rfl, N178, K178, Or.inl ⟨rfl, V178, gt0, gt1⟩⟩
theorem ef_TB2 (m : MethodId) (x0 : Addr) (x1 : Int32) (x2 : Int32) : entryFrame m #[(.ref x0), (.int x1), (.int x2)] 5 = mkF m 0 #[.val (.ref x0), .val (.int x1), .val (.int x2), .unset, .unset] [] := by (first | (simp [entryFrame, mkF, argsToLocals, Value.category]; done) | rfl)
def QTB2 (Z : State) (t1 : Addr) (kc : ClassId) (c0 : Int32) (c1 : Int32) (zc : Int32) (h0 : Heap) (n0 : Nat) (v : Option Value) (h : Heap) (L : List Loc) : Prop := ∃ x2, v = some (.ref x2) ∧ Fr n0 L ∧ Ext h0 h ∧ h0.size ≤ x2 ∧ ∃ (k2 : ClassId), Arv Z h x2 k2 .byte (Int32.ofNat (2 * 2)) ([c0, c1].flatMap own_U) (.int (0 : Int32))
theorem d18_0 : decode jdk_52_method_14_code 0 = .ok (.iload_n 2, 1) := by decide +kernel
theorem d18_1 : decode jdk_52_method_14_code 1 = .ok (.invokestatic 107, 3) := by decide +kernel
theorem pd__I__B : parseMethodDescriptor "(I)[B" = some ⟨[.int], some (.array .byte)⟩ := by decide +kernel
theorem d18_4 : decode jdk_52_method_14_code 4 = .ok (.astore_n 3, 1) := by decide +kernel
theorem d18_5 : decode jdk_52_method_14_code 5 = .ok (.iconst 0, 1) := by decide +kernel
theorem d18_6 : decode jdk_52_method_14_code 6 = .ok (.istore 4, 2) := by decide +kernel
theorem d18_8 : decode jdk_52_method_14_code 8 = .ok (.iload 4, 2) := by decide +kernel
theorem d18_10 : decode jdk_52_method_14_code 10 = .ok (.iload_n 2, 1) := by decide +kernel
theorem d18_11 : decode jdk_52_method_14_code 11 = .ok (.if_icmp .ge 21, 3) := by decide +kernel
theorem d18_14 : decode jdk_52_method_14_code 14 = .ok (.aload_n 3, 1) := by decide +kernel
theorem d18_15 : decode jdk_52_method_14_code 15 = .ok (.iload 4, 2) := by decide +kernel
theorem d18_17 : decode jdk_52_method_14_code 17 = .ok (.aload_n 0, 1) := by decide +kernel
theorem d18_18 : decode jdk_52_method_14_code 18 = .ok (.iload_n 1, 1) := by decide +kernel
theorem d18_19 : decode jdk_52_method_14_code 19 = .ok (.caload, 1) := by decide +kernel
theorem d18_20 : decode jdk_52_method_14_code 20 = .ok (.invokestatic 111, 3) := by decide +kernel
theorem pd___BII_V : parseMethodDescriptor "([BII)V" = some ⟨[(.array .byte), .int, .int], none⟩ := by decide +kernel
theorem d18_23 : decode jdk_52_method_14_code 23 = .ok (.iinc 1 1, 3) := by decide +kernel
theorem d18_26 : decode jdk_52_method_14_code 26 = .ok (.iinc 4 1, 3) := by decide +kernel
theorem d18_29 : decode jdk_52_method_14_code 29 = .ok (.goto (-21), 3) := by decide +kernel
theorem d18_32 : decode jdk_52_method_14_code 32 = .ok (.aload_n 3, 1) := by decide +kernel
theorem d18_33 : decode jdk_52_method_14_code 33 = .ok (.areturn, 1) := by decide +kernel
set_option maxRecDepth 65536 in
set_option maxHeartbeats 40000000 in
theorem rmTB2 (l : Launch) (Z : State) (a0 : Array Value) (hw : ∀ d ∈ tables_1, d.before a0 Z = true) (ws : List Jvm.Cond) (t1 : Addr) (kc : ClassId) (c0 : Int32) (c1 : Int32) (zc : Int32) (h0 : Heap) (n0 : Nat) (Z0 : n0 ≤ h0.size) (KT : Arv Z h0 t1 kc .char (2 : Int32) [(.int c0), (.int c1)] (.int (0 : Int32))) (OZ : Old Z n0 h0) (SC : Sta Z Z.heap "java/lang/String" "COMPACT_STRINGS" "Z" (.int zc)) (hzc : ¬ zc = (0 : Int32)) (SA : Sta Z Z.heap "java/lang/StringUTF16" "$assertionsDisabled" "Z" (.int (1 : Int32))) (SH : Sta Z Z.heap "java/lang/StringUTF16" "HI_BYTE_SHIFT" "I" (.int (0 : Int32))) (SL : Sta Z Z.heap "java/lang/StringUTF16" "LO_BYTE_SHIFT" "I" (.int (8 : Int32))) :
    MetFree l (⟨"java/lang/StringUTF16", "toBytes", "([CII)[B"⟩ : MethodName) (head1 (Jvm.Cond.code (⟨"java/lang/StringUTF16", "toBytes", "([CII)[B"⟩ : MethodName) jdk_52_method_14_code 5 (some (.array .byte)) :: ws) ({ frames := 2, cells := 1, slots := 10, locals := 27 } : Room)) (fun a U => a = #[(.ref t1), (.int (0 : Int32)), (.int (2 : Int32))] ∧ Z.Warmed39 U.vm ∧ U.heap = h0) (fun _ _ _ _ _ => True) (fun _ U o U' => ∃ v L, o = .returned v ∧ QTB2 Z t1 kc c0 c1 zc h0 n0 v U'.heap L ∧ FrameEnd U o U' L ({ frames := 2, cells := 1, slots := 10, locals := 27 } : Room).cells ({ frames := 2, cells := 1, slots := 10, locals := 27 } : Room).slots) := by
  refine MetFree.of_bodySF (plainFor_of_name pn_java_lang_StringUTF16) hisR ?_
  intro p e s m args below meth c s₁ Bd hml0 hP hK
  obtain ⟨rfl, hZ, hh⟩ := hP
  have hx := Bd.exec
  have hby := Bd.bytes
  have hml : c.maxLocals = 5 := hml0
  have hown : s.vm.findClass "java/lang/StringUTF16" = some m.cls := findClass_of_methodNamed Bd.named
  have hnm := (name_of_methodNamed Bd.named Bd.method).1
  have X0 : Stand p l e ({ frames := 2, cells := 1, slots := 10, locals := 27 } : Room) s m #[(.ref t1), (.int (0 : Int32)), (.int (2 : Int32))] below meth c s₁ [] 0 0 := Stand.of_body Bd
  have e0 : s₁.heap = h0 := by rw [← hh, Bd.state]; rfl
  have N0 := Fr.nil n0
  have pre0 : ∀ t, Steps p.tables e below (s₁.setTop (mkF m 0 #[.val (.ref t1), .val (.int (0 : Int32)), .val (.int (2 : Int32)), .unset, .unset] [])) t → Steps p.tables e below (s₁.setTop (entryFrame m #[(.ref t1), (.int (0 : Int32)), (.int (2 : Int32))] 5)) t := fun t k => castTop (ef_TB2 m t1 (0 : Int32) (2 : Int32)) k
  obtain ⟨_, _, ⟨T180, L180, k180, n180⟩, -, X180, ⟨Lc180, hQ180, l180, y180, z180⟩, st180⟩ := Jvm.LawKit.callS X0 hx (y := (⟨"java/lang/StringUTF16", "newBytesFor", "(I)[B"⟩ : MethodName)) hown (mvT hZ (tw hw 84 rfl)) (mvT hZ (tw hw 85 rfl)) (mvT hZ (tw hw 45 rfl)) (mvT hZ (tw hw 86 rfl)) (by decide) (backOf (W := 0) (rmNBF l Z a0 hw [] 2 h0 n0 Z0 (by decide)) hZ (tw hw 86 rfl) (tw hw 45 rfl) (by decide) (by decide)) (g := (mkF m 1 #[.val (.ref t1), .val (.int (0 : Int32)), .val (.int (2 : Int32)), .unset, .unset] [(.int (2 : Int32))])) rfl (by rw [hml]; rfl) (argsL := [(.int (2 : Int32))]) (rest := []) (lenOf pd__I__B rfl) rfl (by show 2 * 0 + _ ≤ _; exact Nat.le_of_eq rfl) (hb hby d18_1) (fun _ _ => ⟨rfl, e0, (by decide : 0 + 1 ≤ _), (by decide : 0 + 10 ≤ _)⟩)
  dsimp only [Pt.U, Pt.locs, Pt.cells, Pt.slots] at X180 l180 y180 z180 st180 hQ180
  subst l180 y180 z180
  obtain ⟨t3, rfl, N180q, EX180, le3, k3, V3⟩ := hQ180
  have N180 := Fr.app N0 N180q
  have g_t3 : n0 ≤ t3 := Nat.le_trans Z0 le3
  have sz_t3 : h0.size ≤ t3 := Nat.le_trans (Keep.refl h0 []).1 le3
  have ne_t1_t3 : t1 ≠ t3 := Nat.ne_of_lt (Nat.lt_of_lt_of_le KT.lt le3)
  have Z180 := Nat.le_trans Z0 EX180.1
  have K180 := (Keep.refl h0 []).ext EX180
  have VA0 : Arv Z T180.heap t3 k3 .byte (Int32.ofNat (2 * 2)) [(.int (0 : Int32)), (.int (0 : Int32)), (.int (0 : Int32)), (.int (0 : Int32))] (.int (0 : Int32)) := V3
  have f181 := (KT.ext EX180)
  obtain ⟨c182, Ar182, q182, S182, M182, H182, G182⟩ := id f181
  have hin182 : ¬ ((0 : Int32) < 0 ∨ c182.slots.size ≤ ((0 : Int32)).toNatClampNeg) := inb_of S182 ⟨by decide, by decide⟩
  have hat182 : c182.slots[((0 : Int32)).toNatClampNeg]? = some (.int c0) := (H182 _ (Nat.lt_of_not_le fun y => hin182 (Or.inr y))).trans rfl
  have f183 := (OZ.ext EX180)
  obtain ⟨_, _, ⟨T184, L184, k184, n184⟩, -, X184, ⟨Lc184, hQ184, l184, y184, z184⟩, st184⟩ := Jvm.LawKit.callS X180 hx (y := (⟨"java/lang/StringUTF16", "putChar", "([BII)V"⟩ : MethodName)) hown (mvT hZ (tw hw 91 rfl)) (mvT hZ (tw hw 92 rfl)) (mvT hZ (tw hw 45 rfl)) (mvT hZ (tw hw 93 rfl)) (by decide) (backOf (W := 0) (rmPutC l Z a0 hw [] t3 k3 2 [(.int (0 : Int32)), (.int (0 : Int32)), (.int (0 : Int32)), (.int (0 : Int32))] 0 c0 T180.heap n0 Z180 (SA.ext f183.2) (SH.ext f183.2) (SL.ext f183.2) VA0 (by decide) (by decide) rfl g_t3) hZ (tw hw 93 rfl) (tw hw 45 rfl) (by decide) (by decide)) (g := (mkF m 20 #[.val (.ref t1), .val (.int (0 : Int32)), .val (.int (2 : Int32)), .val (.ref t3), .val (.int (0 : Int32))] [(.int c0), (.int (0 : Int32)), (.ref t3)])) rfl (by rw [hml]; rfl) (argsL := [(.ref t3), (.int (0 : Int32)), (.int c0)]) (rest := []) (lenOf pd___BII_V rfl) rfl (by show 2 * 0 + _ ≤ _; exact Nat.le_of_eq rfl) (hb hby d18_20) (fun _ _ => ⟨rfl, rfl, (by decide : 1 + 0 ≤ _), (by decide : 10 + 0 ≤ _)⟩)
  dsimp only [Pt.U, Pt.locs, Pt.cells, Pt.slots] at X184 l184 y184 z184 st184 hQ184
  subst l184 y184 z184
  obtain ⟨rfl, N184q, KC184, PV0⟩ := hQ184
  have N184 := Fr.app N180 N184q
  have Z184 := Nat.le_trans Z180 KC184.1
  have K184 := K180.trans KC184 (allS (Or.inr sz_t3) all0)
  have VA1 : Arv Z T184.heap t3 k3 .byte (Int32.ofNat (2 * 2)) [(.int (nar .byte ((c0 >>> ((0 : Int32) &&& 31)).toInt8.toInt32))), (.int (nar .byte ((c0 >>> ((8 : Int32) &&& 31)).toInt8.toInt32))), (.int (0 : Int32)), (.int (0 : Int32))] (.int (0 : Int32)) := PV0
  have f185 := (f181.keep KC184 (ninS ne_t1_t3 nin0))
  obtain ⟨c186, Ar186, q186, S186, M186, H186, G186⟩ := id f185
  have hin186 : ¬ ((1 : Int32) < 0 ∨ c186.slots.size ≤ ((1 : Int32)).toNatClampNeg) := inb_of S186 ⟨by decide, by decide⟩
  have hat186 : c186.slots[((1 : Int32)).toNatClampNeg]? = some (.int c1) := (H186 _ (Nat.lt_of_not_le fun y => hin186 (Or.inr y))).trans rfl
  have f187 := (f183.keep KC184 (allS g_t3 all0))
  obtain ⟨_, _, ⟨T188, L188, k188, n188⟩, -, X188, ⟨Lc188, hQ188, l188, y188, z188⟩, st188⟩ := Jvm.LawKit.callS X184 hx (y := (⟨"java/lang/StringUTF16", "putChar", "([BII)V"⟩ : MethodName)) hown (mvT hZ (tw hw 91 rfl)) (mvT hZ (tw hw 92 rfl)) (mvT hZ (tw hw 45 rfl)) (mvT hZ (tw hw 93 rfl)) (by decide) (backOf (W := 0) (rmPutC l Z a0 hw [] t3 k3 2 [(.int (nar .byte ((c0 >>> ((0 : Int32) &&& 31)).toInt8.toInt32))), (.int (nar .byte ((c0 >>> ((8 : Int32) &&& 31)).toInt8.toInt32))), (.int (0 : Int32)), (.int (0 : Int32))] 1 c1 T184.heap n0 Z184 (SA.ext f187.2) (SH.ext f187.2) (SL.ext f187.2) VA1 (by decide) (by decide) rfl g_t3) hZ (tw hw 93 rfl) (tw hw 45 rfl) (by decide) (by decide)) (g := (mkF m 20 #[.val (.ref t1), .val (.int (1 : Int32)), .val (.int (2 : Int32)), .val (.ref t3), .val (.int (1 : Int32))] [(.int c1), (.int (1 : Int32)), (.ref t3)])) rfl (by rw [hml]; rfl) (argsL := [(.ref t3), (.int (1 : Int32)), (.int c1)]) (rest := []) (lenOf pd___BII_V rfl) rfl (by show 2 * 0 + _ ≤ _; exact Nat.le_of_eq rfl) (hb hby d18_20) (fun _ _ => ⟨rfl, rfl, (by decide : 1 + 0 ≤ _), (by decide : 10 + 0 ≤ _)⟩)
  dsimp only [Pt.U, Pt.locs, Pt.cells, Pt.slots] at X188 l188 y188 z188 st188 hQ188
  subst l188 y188 z188
  obtain ⟨rfl, N188q, KC188, PV1⟩ := hQ188
  have N188 := Fr.app N184 N188q
  have K188 := K184.trans KC188 (allS (Or.inr sz_t3) all0)
  have VA2 : Arv Z T188.heap t3 k3 .byte (Int32.ofNat (2 * 2)) [(.int (nar .byte ((c0 >>> ((0 : Int32) &&& 31)).toInt8.toInt32))), (.int (nar .byte ((c0 >>> ((8 : Int32) &&& 31)).toInt8.toInt32))), (.int (nar .byte ((c1 >>> ((0 : Int32) &&& 31)).toInt8.toInt32))), (.int (nar .byte ((c1 >>> ((8 : Int32) &&& 31)).toInt8.toInt32)))] (.int (0 : Int32)) := PV1
  have pre189 : ∀ t, Steps p.tables e below (T188.setTop (mkF m 33 #[.val (.ref t1), .val (.int (2 : Int32)), .val (.int (2 : Int32)), .val (.ref t3), .val (.int (2 : Int32))] [(.ref t3)])) t → Steps p.tables e below (s₁.setTop (mkF m 0 #[.val (.ref t1), .val (.int (0 : Int32)), .val (.int (2 : Int32)), .unset, .unset] [])) t := by
    intro t kt
    show Steps p.tables e below (s₁.setTop (mkF m 0 #[.val (.ref t1), .val (.int (0 : Int32)), .val (.int (2 : Int32)), .unset, .unset] [])) _
    refine XS.iloadN X0.here hx rfl (hb hby d18_0) rfl ?_
    refine st180 _ ?_
    show Steps p.tables e below (T180.setTop (mkF m 4 #[.val (.ref t1), .val (.int (0 : Int32)), .val (.int (2 : Int32)), .unset, .unset] [(.ref t3)])) _
    refine XS.astoreN X180.here hx rfl (hb hby d18_4) rfl rfl (l' := #[.val (.ref t1), .val (.int (0 : Int32)), .val (.int (2 : Int32)), .val (.ref t3), .unset]) rfl ?_
    refine XS.iconst X180.here hx rfl (hb hby d18_5) ?_
    refine XS.istore X180.here hx rfl (hb hby d18_6) rfl (l' := #[.val (.ref t1), .val (.int (0 : Int32)), .val (.int (2 : Int32)), .val (.ref t3), .val (.int (0 : Int32))]) rfl ?_
    show Steps p.tables e below (T180.setTop (mkF m 8 #[.val (.ref t1), .val (.int (0 : Int32)), .val (.int (2 : Int32)), .val (.ref t3), .val (.int (0 : Int32))] [])) _
    refine XS.iload X180.here hx rfl (hb hby d18_8) rfl ?_
    refine XS.iloadN X180.here hx rfl (hb hby d18_10) rfl ?_
    refine XS.icmpNo X180.here hx rfl (hb hby d18_11) rfl (tlt (by decide : (0 : Int32) < (2 : Int32))).2.1 ?_
    show Steps p.tables e below (T180.setTop (mkF m 14 #[.val (.ref t1), .val (.int (0 : Int32)), .val (.int (2 : Int32)), .val (.ref t3), .val (.int (0 : Int32))] [])) _
    refine XS.aloadN X180.here hx rfl (hb hby d18_14) rfl rfl ?_
    refine XS.iload X180.here hx rfl (hb hby d18_15) rfl ?_
    refine XS.aloadN X180.here hx rfl (hb hby d18_17) rfl rfl ?_
    refine XS.iloadN X180.here hx rfl (hb hby d18_18) rfl ?_
    show Steps p.tables e below (T180.setTop (mkF m 19 #[.val (.ref t1), .val (.int (0 : Int32)), .val (.int (2 : Int32)), .val (.ref t3), .val (.int (0 : Int32))] [(.int (0 : Int32)), (.ref t1), (.int (0 : Int32)), (.ref t3)])) _
    refine X180.caload hx (j := (0 : Int32)) (v := (.int c0)) Ar182.1 (State.isArrayOf_alike hZ.alike Ar182.2.1) Ar182.2.2 hin182 hat182 (g := (mkF m 19 #[.val (.ref t1), .val (.int (0 : Int32)), .val (.int (2 : Int32)), .val (.ref t3), .val (.int (0 : Int32))] [(.int (0 : Int32)), (.ref t1), (.int (0 : Int32)), (.ref t3)])) rfl rfl (hb hby d18_19) _ ?_
    refine st184 _ ?_
    show Steps p.tables e below (T184.setTop (mkF m 23 #[.val (.ref t1), .val (.int (0 : Int32)), .val (.int (2 : Int32)), .val (.ref t3), .val (.int (0 : Int32))] [])) _
    refine XS.iinc X184.here hx rfl (hb hby d18_23) rfl (l' := #[.val (.ref t1), .val (.int ((0 : Int32) + (1 : Int32))), .val (.int (2 : Int32)), .val (.ref t3), .val (.int (0 : Int32))]) rfl ?_
    refine XS.iinc X184.here hx rfl (hb hby d18_26) rfl (l' := #[.val (.ref t1), .val (.int ((0 : Int32) + (1 : Int32))), .val (.int (2 : Int32)), .val (.ref t3), .val (.int ((0 : Int32) + (1 : Int32)))]) rfl ?_
    show Steps p.tables e below (T184.setTop (mkF m 29 #[.val (.ref t1), .val (.int ((0 : Int32) + (1 : Int32))), .val (.int (2 : Int32)), .val (.ref t3), .val (.int ((0 : Int32) + (1 : Int32)))] [])) _
    rw [show ((0 : Int32) + (1 : Int32)) = (1 : Int32) from by decide]
    show Steps p.tables e below (T184.setTop (mkF m 29 #[.val (.ref t1), .val (.int (1 : Int32)), .val (.int (2 : Int32)), .val (.ref t3), .val (.int (1 : Int32))] [])) _
    refine XS.goto X184.here hx rfl (pc0 := 29) (pc' := 8) rfl (hb hby d18_29) (by decide) (by decide) ?_
    show Steps p.tables e below (T184.setTop (mkF m 8 #[.val (.ref t1), .val (.int (1 : Int32)), .val (.int (2 : Int32)), .val (.ref t3), .val (.int (1 : Int32))] [])) _
    refine XS.iload X184.here hx rfl (hb hby d18_8) rfl ?_
    refine XS.iloadN X184.here hx rfl (hb hby d18_10) rfl ?_
    refine XS.icmpNo X184.here hx rfl (hb hby d18_11) rfl (tlt (by decide : (1 : Int32) < (2 : Int32))).2.1 ?_
    show Steps p.tables e below (T184.setTop (mkF m 14 #[.val (.ref t1), .val (.int (1 : Int32)), .val (.int (2 : Int32)), .val (.ref t3), .val (.int (1 : Int32))] [])) _
    refine XS.aloadN X184.here hx rfl (hb hby d18_14) rfl rfl ?_
    refine XS.iload X184.here hx rfl (hb hby d18_15) rfl ?_
    refine XS.aloadN X184.here hx rfl (hb hby d18_17) rfl rfl ?_
    refine XS.iloadN X184.here hx rfl (hb hby d18_18) rfl ?_
    show Steps p.tables e below (T184.setTop (mkF m 19 #[.val (.ref t1), .val (.int (1 : Int32)), .val (.int (2 : Int32)), .val (.ref t3), .val (.int (1 : Int32))] [(.int (1 : Int32)), (.ref t1), (.int (1 : Int32)), (.ref t3)])) _
    refine X184.caload hx (j := (1 : Int32)) (v := (.int c1)) Ar186.1 (State.isArrayOf_alike hZ.alike Ar186.2.1) Ar186.2.2 hin186 hat186 (g := (mkF m 19 #[.val (.ref t1), .val (.int (1 : Int32)), .val (.int (2 : Int32)), .val (.ref t3), .val (.int (1 : Int32))] [(.int (1 : Int32)), (.ref t1), (.int (1 : Int32)), (.ref t3)])) rfl rfl (hb hby d18_19) _ ?_
    refine st188 _ ?_
    show Steps p.tables e below (T188.setTop (mkF m 23 #[.val (.ref t1), .val (.int (1 : Int32)), .val (.int (2 : Int32)), .val (.ref t3), .val (.int (1 : Int32))] [])) _
    refine XS.iinc X188.here hx rfl (hb hby d18_23) rfl (l' := #[.val (.ref t1), .val (.int ((1 : Int32) + (1 : Int32))), .val (.int (2 : Int32)), .val (.ref t3), .val (.int (1 : Int32))]) rfl ?_
    refine XS.iinc X188.here hx rfl (hb hby d18_26) rfl (l' := #[.val (.ref t1), .val (.int ((1 : Int32) + (1 : Int32))), .val (.int (2 : Int32)), .val (.ref t3), .val (.int ((1 : Int32) + (1 : Int32)))]) rfl ?_
    show Steps p.tables e below (T188.setTop (mkF m 29 #[.val (.ref t1), .val (.int ((1 : Int32) + (1 : Int32))), .val (.int (2 : Int32)), .val (.ref t3), .val (.int ((1 : Int32) + (1 : Int32)))] [])) _
    rw [show ((1 : Int32) + (1 : Int32)) = (2 : Int32) from by decide]
    show Steps p.tables e below (T188.setTop (mkF m 29 #[.val (.ref t1), .val (.int (2 : Int32)), .val (.int (2 : Int32)), .val (.ref t3), .val (.int (2 : Int32))] [])) _
    refine XS.goto X188.here hx rfl (pc0 := 29) (pc' := 8) rfl (hb hby d18_29) (by decide) (by decide) ?_
    show Steps p.tables e below (T188.setTop (mkF m 8 #[.val (.ref t1), .val (.int (2 : Int32)), .val (.int (2 : Int32)), .val (.ref t3), .val (.int (2 : Int32))] [])) _
    refine XS.iload X188.here hx rfl (hb hby d18_8) rfl ?_
    refine XS.iloadN X188.here hx rfl (hb hby d18_10) rfl ?_
    refine XS.icmpYes X188.here hx rfl (pc0 := 11) (pc' := 32) rfl (hb hby d18_11) rfl (flt (by decide : ¬ ((2 : Int32) < (2 : Int32)))).2.1 (by decide) (by decide) ?_
    show Steps p.tables e below (T188.setTop (mkF m 32 #[.val (.ref t1), .val (.int (2 : Int32)), .val (.int (2 : Int32)), .val (.ref t3), .val (.int (2 : Int32))] [])) _
    refine XS.aloadN X188.here hx rfl (hb hby d18_32) rfl rfl ?_
    exact kt
  obtain ⟨fs, hr, hrun, hended, hW, hsame⟩ := X188.leave (v := some (.ref t3)) (fun h => by rw [Bd.returns] at h; cases h)
  refine ⟨_, _, (pre0 _ (pre189 _ ?_)), hrun, hended, _, _, rfl, ?_, ⟨_, rfl⟩, hW, hsame.mono (by decide) (by decide)⟩
  · show Steps p.tables e below (T188.setTop (mkF m 33 #[.val (.ref t1), .val (.int (2 : Int32)), .val (.int (2 : Int32)), .val (.ref t3), .val (.int (2 : Int32))] [(.ref t3)])) _
    exact retOut X188 hx (t := (.array .byte)) Bd.returns rfl (Or.inr (Or.inr (Or.inr (Or.inr ⟨rfl, rfl, rfl⟩)))) (hb hby d18_33) hr
  · show QTB2 Z t1 kc c0 c1 zc h0 n0 _ T188.heap _
    exact ⟨t3, rfl, N188, own_ext K188, sz_t3, k3, VA2⟩
theorem ef_CB2 (m : MethodId) (x0 : Addr) (x1 : Int32) (x2 : Int32) : entryFrame m #[(.ref x0), (.int x1), (.int x2)] 6 = mkF m 0 #[.val (.ref x0), .val (.int x1), .val (.int x2), .unset, .unset, .unset] [] := by (first | (simp [entryFrame, mkF, argsToLocals, Value.category]; done) | rfl)
def QCB2 (Z : State) (t1 : Addr) (kc : ClassId) (c0 : Int32) (c1 : Int32) (zc : Int32) (h0 : Heap) (n0 : Nat) (v : Option Value) (h : Heap) (L : List Loc) : Prop := ∃ x2, v = some (.ref x2) ∧ Fr n0 L ∧ Ext h0 h ∧ h0.size ≤ x2 ∧ ∃ (k2 : ClassId), ((Arv Z h x2 k2 .byte (Int32.ofNat (2)) ([c0, c1].map own_B) (.int (0 : Int32)) ∧ ¬ ((255 : Int32) < c0) ∧ ¬ ((255 : Int32) < c1)) ∨ Arv Z h x2 k2 .byte (Int32.ofNat (2 * 2)) ([c0, c1].flatMap own_U) (.int (0 : Int32)))
theorem d8_0 : decode jdk_52_method_16_code 0 = .ok (.iload_n 2, 1) := by decide +kernel
theorem d8_1 : decode jdk_52_method_16_code 1 = .ok (.newarray .byte, 2) := by decide +kernel
theorem d8_3 : decode jdk_52_method_16_code 3 = .ok (.astore_n 3, 1) := by decide +kernel
theorem d8_4 : decode jdk_52_method_16_code 4 = .ok (.aload_n 0, 1) := by decide +kernel
theorem d8_5 : decode jdk_52_method_16_code 5 = .ok (.iload_n 1, 1) := by decide +kernel
theorem d8_6 : decode jdk_52_method_16_code 6 = .ok (.aload_n 3, 1) := by decide +kernel
theorem d8_7 : decode jdk_52_method_16_code 7 = .ok (.iconst 0, 1) := by decide +kernel
theorem d8_8 : decode jdk_52_method_16_code 8 = .ok (.iload_n 2, 1) := by decide +kernel
theorem d8_9 : decode jdk_52_method_16_code 9 = .ok (.invokestatic 115, 3) := by decide +kernel
theorem pd___CI_BII_I : parseMethodDescriptor "([CI[BII)I" = some ⟨[(.array .char), .int, (.array .byte), .int, .int], some .int⟩ := by decide +kernel
theorem d8_12 : decode jdk_52_method_16_code 12 = .ok (.istore 4, 2) := by decide +kernel
theorem d8_14 : decode jdk_52_method_16_code 14 = .ok (.iload 4, 2) := by decide +kernel
theorem d8_16 : decode jdk_52_method_16_code 16 = .ok (.iload_n 2, 1) := by decide +kernel
theorem d8_17 : decode jdk_52_method_16_code 17 = .ok (.if_icmp .eq 40, 3) := by decide +kernel
theorem d8_57 : decode jdk_52_method_16_code 57 = .ok (.aload_n 3, 1) := by decide +kernel
theorem d8_58 : decode jdk_52_method_16_code 58 = .ok (.areturn, 1) := by decide +kernel
theorem d8_20 : decode jdk_52_method_16_code 20 = .ok (.aload_n 0, 1) := by decide +kernel
theorem d8_21 : decode jdk_52_method_16_code 21 = .ok (.iload_n 1, 1) := by decide +kernel
theorem d8_22 : decode jdk_52_method_16_code 22 = .ok (.iload_n 2, 1) := by decide +kernel
theorem d8_23 : decode jdk_52_method_16_code 23 = .ok (.invokestatic 119, 3) := by decide +kernel
theorem pd___CII__B : parseMethodDescriptor "([CII)[B" = some ⟨[(.array .char), .int, .int], some (.array .byte)⟩ := by decide +kernel
theorem d8_26 : decode jdk_52_method_16_code 26 = .ok (.astore 5, 2) := by decide +kernel
theorem d8_28 : decode jdk_52_method_16_code 28 = .ok (.aload 5, 2) := by decide +kernel
theorem d8_30 : decode jdk_52_method_16_code 30 = .ok (.iload 4, 2) := by decide +kernel
theorem d8_32 : decode jdk_52_method_16_code 32 = .ok (.invokestatic 71, 3) := by decide +kernel
theorem d8_35 : decode jdk_52_method_16_code 35 = .ok (.sipush 255, 3) := by decide +kernel
theorem d8_38 : decode jdk_52_method_16_code 38 = .ok (.if_icmp .gt 16, 3) := by decide +kernel
theorem d8_54 : decode jdk_52_method_16_code 54 = .ok (.aload 5, 2) := by decide +kernel
theorem d8_56 : decode jdk_52_method_16_code 56 = .ok (.areturn, 1) := by decide +kernel
set_option maxRecDepth 65536 in
set_option maxHeartbeats 40000000 in
theorem rmCB2 (l : Launch) (Z : State) (a0 : Array Value) (hw : ∀ d ∈ tables_1, d.before a0 Z = true) (ws : List Jvm.Cond) (t1 : Addr) (kc : ClassId) (c0 : Int32) (c1 : Int32) (zc : Int32) (h0 : Heap) (n0 : Nat) (Z0 : n0 ≤ h0.size) (KT : Arv Z h0 t1 kc .char (2 : Int32) [(.int c0), (.int c1)] (.int (0 : Int32))) (hc0 : nar .char c0 = c0) (hc1 : nar .char c1 = c1) (OZ : Old Z n0 h0) (SC : Sta Z Z.heap "java/lang/String" "COMPACT_STRINGS" "Z" (.int zc)) (hzc : ¬ zc = (0 : Int32)) (SA : Sta Z Z.heap "java/lang/StringUTF16" "$assertionsDisabled" "Z" (.int (1 : Int32))) (SH : Sta Z Z.heap "java/lang/StringUTF16" "HI_BYTE_SHIFT" "I" (.int (0 : Int32))) (SL : Sta Z Z.heap "java/lang/StringUTF16" "LO_BYTE_SHIFT" "I" (.int (8 : Int32))) :
    MetFree l (⟨"java/lang/StringUTF16", "compress", "([CII)[B"⟩ : MethodName) (head1 (Jvm.Cond.code (⟨"java/lang/StringUTF16", "compress", "([CII)[B"⟩ : MethodName) jdk_52_method_16_code 6 (some (.array .byte)) :: ws) ({ frames := 3, cells := 2, slots := 12, locals := 45 } : Room)) (fun a U => a = #[(.ref t1), (.int (0 : Int32)), (.int (2 : Int32))] ∧ Z.Warmed39 U.vm ∧ U.heap = h0) (fun _ _ _ _ _ => True) (fun _ U o U' => ∃ v L, o = .returned v ∧ QCB2 Z t1 kc c0 c1 zc h0 n0 v U'.heap L ∧ FrameEnd U o U' L ({ frames := 3, cells := 2, slots := 12, locals := 45 } : Room).cells ({ frames := 3, cells := 2, slots := 12, locals := 45 } : Room).slots) := by
  refine MetFree.of_bodySF (plainFor_of_name pn_java_lang_StringUTF16) hisR ?_
  intro p e s m args below meth c s₁ Bd hml0 hP hK
  obtain ⟨rfl, hZ, hh⟩ := hP
  have hx := Bd.exec
  have hby := Bd.bytes
  have hml : c.maxLocals = 6 := hml0
  have hown : s.vm.findClass "java/lang/StringUTF16" = some m.cls := findClass_of_methodNamed Bd.named
  have hnm := (name_of_methodNamed Bd.named Bd.method).1
  have X0 : Stand p l e ({ frames := 3, cells := 2, slots := 12, locals := 45 } : Room) s m #[(.ref t1), (.int (0 : Int32)), (.int (2 : Int32))] below meth c s₁ [] 0 0 := Stand.of_body Bd
  have e0 : s₁.heap = h0 := by rw [← hh, Bd.state]; rfl
  have N0 := Fr.nil n0
  have pre0 : ∀ t, Steps p.tables e below (s₁.setTop (mkF m 0 #[.val (.ref t1), .val (.int (0 : Int32)), .val (.int (2 : Int32)), .unset, .unset, .unset] [])) t → Steps p.tables e below (s₁.setTop (entryFrame m #[(.ref t1), (.int (0 : Int32)), (.int (2 : Int32))] 6)) t := fun t k => castTop (ef_CB2 m t1 (0 : Int32) (2 : Int32)) k
  have hcs : ∀ i, i < 2 → nar .char ([c0, c1].getD i 0) = [c0, c1].getD i 0 := fun i hi => by
    match i, hi with
    | 0, _ => exact hc0
    | 1, _ => exact hc1
  obtain ⟨T190, h190, k190, X190, e190, E190, A190, st190⟩ := newP X0 hx hZ (tw hw 21 rfl) e0 (g := (mkF m 1 #[.val (.ref t1), .val (.int (0 : Int32)), .val (.int (2 : Int32)), .unset, .unset, .unset] [(.int (2 : Int32))])) rfl (hb hby d8_1) rfl (by decide) (cap := 2) (by decide) (by decide) (by decide) (by decide)
  obtain ⟨b190, g190⟩ : ∃ z, z = h0.size := ⟨_, rfl⟩
  rw [← g190] at A190 st190
  have g_b190 : n0 ≤ b190 := Nat.le_trans Z0 (Nat.le_of_eq g190.symm)
  have sz_b190 : h0.size ≤ b190 := Nat.le_trans (Keep.refl h0 []).1 (Nat.le_of_eq g190.symm)
  have ne_t1_b190 : t1 ≠ b190 := Nat.ne_of_lt (Nat.lt_of_lt_of_le KT.lt (Nat.le_of_eq g190.symm))
  have Z190 := Nat.le_trans Z0 E190.1
  have K190 := (Keep.refl h0 []).ext E190
  have V190 : Arv Z h190 b190 k190 .byte (2 : Int32) [(.int (0 : Int32)), (.int (0 : Int32))] (.int (0 : Int32)) := (Arv.new A190 (by decide)).pad (pad_rep [] (.int (0 : Int32)) 2)
  have f191 := (KT.ext E190)
  obtain ⟨_, _, ⟨T192, L192, k192, n192⟩, -, X192, ⟨Lc192, hQ192, l192, y192, z192⟩, st192⟩ := Jvm.LawKit.callS X190 hx (y := (⟨"java/lang/StringUTF16", "compress", "([CI[BII)I"⟩ : MethodName)) hown (mvT hZ (tw hw 47 rfl)) (mvT hZ (tw hw 48 rfl)) (mvT hZ (tw hw 45 rfl)) (mvT hZ (tw hw 49 rfl)) (by decide) (backOf (W := 0) (rmCp2 l Z a0 hw [] t1 kc b190 k190 c0 c1 h190 n0 Z190 f191 V190 g_b190 ne_t1_b190) hZ (tw hw 49 rfl) (tw hw 45 rfl) (by decide) (by decide)) (g := (mkF m 9 #[.val (.ref t1), .val (.int (0 : Int32)), .val (.int (2 : Int32)), .val (.ref b190), .unset, .unset] [(.int (2 : Int32)), (.int (0 : Int32)), (.ref b190), (.int (0 : Int32)), (.ref t1)])) rfl (by rw [hml]; rfl) (argsL := [(.ref t1), (.int (0 : Int32)), (.ref b190), (.int (0 : Int32)), (.int (2 : Int32))]) (rest := []) (lenOf pd___CI_BII_I rfl) rfl (by show 2 * 0 + _ ≤ _; exact Nat.le_of_eq rfl) (hb hby d8_9) (fun _ _ => ⟨rfl, e190, (by decide : 1 + 0 ≤ _), (by decide : 2 + 0 ≤ _)⟩)
  dsimp only [Pt.U, Pt.locs, Pt.cells, Pt.slots] at X192 l192 y192 z192 st192 hQ192
  subst l192 y192 z192
  obtain ⟨k, rfl, N192q, KC192, hk⟩ := hQ192
  have N192 := Fr.app N0 N192q
  have Z192 := Nat.le_trans Z190 KC192.1
  have K192 := K190.trans KC192 (allS (Or.inr sz_b190) all0)
  have pre193 : ∀ t, Steps p.tables e below (T192.setTop (mkF m 12 #[.val (.ref t1), .val (.int (0 : Int32)), .val (.int (2 : Int32)), .val (.ref b190), .unset, .unset] [(.int (Int32.ofNat k))])) t → Steps p.tables e below (s₁.setTop (mkF m 0 #[.val (.ref t1), .val (.int (0 : Int32)), .val (.int (2 : Int32)), .unset, .unset, .unset] [])) t := by
    intro t kt
    show Steps p.tables e below (s₁.setTop (mkF m 0 #[.val (.ref t1), .val (.int (0 : Int32)), .val (.int (2 : Int32)), .unset, .unset, .unset] [])) _
    refine XS.iloadN X0.here hx rfl (hb hby d8_0) rfl ?_
    show Steps p.tables e below (s₁.setTop (mkF m 1 #[.val (.ref t1), .val (.int (0 : Int32)), .val (.int (2 : Int32)), .unset, .unset, .unset] [(.int (2 : Int32))])) _
    refine st190 _ ?_
    show Steps p.tables e below (T190.setTop (mkF m 3 #[.val (.ref t1), .val (.int (0 : Int32)), .val (.int (2 : Int32)), .unset, .unset, .unset] [(.ref b190)])) _
    refine XS.astoreN X190.here hx rfl (hb hby d8_3) rfl rfl (l' := #[.val (.ref t1), .val (.int (0 : Int32)), .val (.int (2 : Int32)), .val (.ref b190), .unset, .unset]) rfl ?_
    refine XS.aloadN X190.here hx rfl (hb hby d8_4) rfl rfl ?_
    refine XS.iloadN X190.here hx rfl (hb hby d8_5) rfl ?_
    refine XS.aloadN X190.here hx rfl (hb hby d8_6) rfl rfl ?_
    refine XS.iconst X190.here hx rfl (hb hby d8_7) ?_
    refine XS.iloadN X190.here hx rfl (hb hby d8_8) rfl ?_
    refine st192 _ ?_
    exact kt
  rcases hk with ⟨ek, V5, l0, l1⟩ | ⟨lk, gk⟩
  · skip
    have pre194 : ∀ t, Steps p.tables e below (T192.setTop (mkF m 58 #[.val (.ref t1), .val (.int (0 : Int32)), .val (.int (2 : Int32)), .val (.ref b190), .val (.int (Int32.ofNat k)), .unset] [(.ref b190)])) t → Steps p.tables e below (T192.setTop (mkF m 12 #[.val (.ref t1), .val (.int (0 : Int32)), .val (.int (2 : Int32)), .val (.ref b190), .unset, .unset] [(.int (Int32.ofNat k))])) t := by
      intro t kt
      show Steps p.tables e below (T192.setTop (mkF m 12 #[.val (.ref t1), .val (.int (0 : Int32)), .val (.int (2 : Int32)), .val (.ref b190), .unset, .unset] [(.int (Int32.ofNat k))])) _
      refine XS.istore X192.here hx rfl (hb hby d8_12) rfl (l' := #[.val (.ref t1), .val (.int (0 : Int32)), .val (.int (2 : Int32)), .val (.ref b190), .val (.int (Int32.ofNat k)), .unset]) rfl ?_
      refine XS.iload X192.here hx rfl (hb hby d8_14) rfl ?_
      refine XS.iloadN X192.here hx rfl (hb hby d8_16) rfl ?_
      refine XS.icmpYes X192.here hx rfl (pc0 := 17) (pc' := 57) rfl (hb hby d8_17) rfl (teq (by rw [ek]; rfl : (Int32.ofNat k) = (2 : Int32))).1 (by decide) (by decide) ?_
      show Steps p.tables e below (T192.setTop (mkF m 57 #[.val (.ref t1), .val (.int (0 : Int32)), .val (.int (2 : Int32)), .val (.ref b190), .val (.int (Int32.ofNat k)), .unset] [])) _
      refine XS.aloadN X192.here hx rfl (hb hby d8_57) rfl rfl ?_
      exact kt
    obtain ⟨fs, hr, hrun, hended, hW, hsame⟩ := X192.leave (v := some (.ref b190)) (fun h => by rw [Bd.returns] at h; cases h)
    refine ⟨_, _, (pre0 _ (pre193 _ (pre194 _ ?_))), hrun, hended, _, _, rfl, ?_, ⟨_, rfl⟩, hW, hsame.mono (by decide) (by decide)⟩
    · show Steps p.tables e below (T192.setTop (mkF m 58 #[.val (.ref t1), .val (.int (0 : Int32)), .val (.int (2 : Int32)), .val (.ref b190), .val (.int (Int32.ofNat k)), .unset] [(.ref b190)])) _
      exact retOut X192 hx (t := (.array .byte)) Bd.returns rfl (Or.inr (Or.inr (Or.inr (Or.inr ⟨rfl, rfl, rfl⟩)))) (hb hby d8_58) hr
    · show QCB2 Z t1 kc c0 c1 zc h0 n0 _ T192.heap _
      exact ⟨b190, rfl, N192, own_ext K192, sz_b190, k190, Or.inl ⟨V5, l0, l1⟩⟩
  · skip
    have f195 := (f191.keep KC192 (ninS ne_t1_b190 nin0))
    have f196 := ((OZ.ext E190).keep KC192 (allS g_b190 all0))
    obtain ⟨_, _, ⟨T197, L197, k197, n197⟩, -, X197, ⟨Lc197, hQ197, l197, y197, z197⟩, st197⟩ := Jvm.LawKit.callS X192 hx (y := (⟨"java/lang/StringUTF16", "toBytes", "([CII)[B"⟩ : MethodName)) hown (mvT hZ (tw hw 81 rfl)) (mvT hZ (tw hw 82 rfl)) (mvT hZ (tw hw 45 rfl)) (mvT hZ (tw hw 83 rfl)) (by decide) (backOf (W := 0) (rmTB2 l Z a0 hw [] t1 kc c0 c1 zc T192.heap n0 Z192 f195 f196 SC hzc SA SH SL) hZ (tw hw 83 rfl) (tw hw 45 rfl) (by decide) (by decide)) (g := (mkF m 23 #[.val (.ref t1), .val (.int (0 : Int32)), .val (.int (2 : Int32)), .val (.ref b190), .val (.int (Int32.ofNat k)), .unset] [(.int (2 : Int32)), (.int (0 : Int32)), (.ref t1)])) rfl (by rw [hml]; rfl) (argsL := [(.ref t1), (.int (0 : Int32)), (.int (2 : Int32))]) (rest := []) (lenOf pd___CII__B rfl) rfl (by show 2 * 0 + _ ≤ _; exact Nat.le_of_eq rfl) (hb hby d8_23) (fun _ _ => ⟨rfl, rfl, (by decide : 1 + 1 ≤ _), (by decide : 2 + 10 ≤ _)⟩)
    dsimp only [Pt.U, Pt.locs, Pt.cells, Pt.slots] at X197 l197 y197 z197 st197 hQ197
    subst l197 y197 z197
    obtain ⟨t5, rfl, N197q, EX197, le5, k5, V5⟩ := hQ197
    have N197 := Fr.app N192 N197q
    have sz_t5 : h0.size ≤ t5 := Nat.le_trans K192.1 le5
    have Z197 := Nat.le_trans Z192 EX197.1
    have K197 := K192.ext EX197
    have f198 := (f196.ext EX197)
    obtain ⟨_, _, ⟨T199, L199, k199, n199⟩, -, X199, ⟨Lc199, hQ199, l199, y199, z199⟩, st199⟩ := Jvm.LawKit.callS X197 hx (y := (⟨"java/lang/StringUTF16", "getChar", "([BI)C"⟩ : MethodName)) hown (mvT hZ (tw hw 97 rfl)) (mvT hZ (tw hw 98 rfl)) (mvT hZ (tw hw 45 rfl)) (mvT hZ (tw hw 99 rfl)) (by decide) (backOf (W := 0) (rmGetC l Z a0 hw [] t5 k5 2 ([c0, c1].flatMap own_U) k (nar .byte ((([c0, c1].getD k 0) >>> ((0 : Int32) &&& 31)).toInt8.toInt32)) (nar .byte ((([c0, c1].getD k 0) >>> ((8 : Int32) &&& 31)).toInt8.toInt32)) T197.heap n0 Z197 (SA.ext f198.2) (SH.ext f198.2) (SL.ext f198.2) V5 (by decide) lk (own_getU [c0, c1] _ k lk).1 (own_getU [c0, c1] _ k lk).2) hZ (tw hw 99 rfl) (tw hw 45 rfl) (by decide) (by decide)) (g := (mkF m 32 #[.val (.ref t1), .val (.int (0 : Int32)), .val (.int (2 : Int32)), .val (.ref b190), .val (.int (Int32.ofNat k)), .val (.ref t5)] [(.int (Int32.ofNat k)), (.ref t5)])) rfl (by rw [hml]; rfl) (argsL := [(.ref t5), (.int (Int32.ofNat k))]) (rest := []) (lenOf pd___BI_C rfl) rfl (by show 2 * 0 + _ ≤ _; exact Nat.le_of_eq rfl) (hb hby d8_32) (fun _ _ => ⟨rfl, rfl, (by decide : 2 + 0 ≤ _), (by decide : 12 + 0 ≤ _)⟩)
    dsimp only [Pt.U, Pt.locs, Pt.cells, Pt.slots] at X199 l199 y199 z199 st199 hQ199
    subst l199 y199 z199
    obtain ⟨rfl, N199q, EQ199⟩ := hQ199
    have N199 := Fr.app N197 N199q
    have K199 := own_keq EQ199 K197
    have f200 := (EQ199 ▸ V5)
    have pre201 : ∀ t, Steps p.tables e below (T199.setTop (mkF m 56 #[.val (.ref t1), .val (.int (0 : Int32)), .val (.int (2 : Int32)), .val (.ref b190), .val (.int (Int32.ofNat k)), .val (.ref t5)] [(.ref t5)])) t → Steps p.tables e below (T192.setTop (mkF m 12 #[.val (.ref t1), .val (.int (0 : Int32)), .val (.int (2 : Int32)), .val (.ref b190), .unset, .unset] [(.int (Int32.ofNat k))])) t := by
      intro t kt
      show Steps p.tables e below (T192.setTop (mkF m 12 #[.val (.ref t1), .val (.int (0 : Int32)), .val (.int (2 : Int32)), .val (.ref b190), .unset, .unset] [(.int (Int32.ofNat k))])) _
      refine XS.istore X192.here hx rfl (hb hby d8_12) rfl (l' := #[.val (.ref t1), .val (.int (0 : Int32)), .val (.int (2 : Int32)), .val (.ref b190), .val (.int (Int32.ofNat k)), .unset]) rfl ?_
      refine XS.iload X192.here hx rfl (hb hby d8_14) rfl ?_
      refine XS.iloadN X192.here hx rfl (hb hby d8_16) rfl ?_
      refine XS.icmpNo X192.here hx rfl (hb hby d8_17) rfl (feq (fun q => absurd (congrArg Int32.toInt q) (by rw [own_n (by omega), show ((2 : Int32)).toInt = 2 from by decide]; omega) : ¬ ((Int32.ofNat k) = (2 : Int32)))).1 ?_
      show Steps p.tables e below (T192.setTop (mkF m 20 #[.val (.ref t1), .val (.int (0 : Int32)), .val (.int (2 : Int32)), .val (.ref b190), .val (.int (Int32.ofNat k)), .unset] [])) _
      refine XS.aloadN X192.here hx rfl (hb hby d8_20) rfl rfl ?_
      refine XS.iloadN X192.here hx rfl (hb hby d8_21) rfl ?_
      refine XS.iloadN X192.here hx rfl (hb hby d8_22) rfl ?_
      refine st197 _ ?_
      show Steps p.tables e below (T197.setTop (mkF m 26 #[.val (.ref t1), .val (.int (0 : Int32)), .val (.int (2 : Int32)), .val (.ref b190), .val (.int (Int32.ofNat k)), .unset] [(.ref t5)])) _
      refine XS.astore X197.here hx rfl (hb hby d8_26) rfl rfl (l' := #[.val (.ref t1), .val (.int (0 : Int32)), .val (.int (2 : Int32)), .val (.ref b190), .val (.int (Int32.ofNat k)), .val (.ref t5)]) rfl ?_
      refine XS.aload X197.here hx rfl (hb hby d8_28) rfl rfl ?_
      refine XS.iload X197.here hx rfl (hb hby d8_30) rfl ?_
      refine st199 _ ?_
      show Steps p.tables e below (T199.setTop (mkF m 35 #[.val (.ref t1), .val (.int (0 : Int32)), .val (.int (2 : Int32)), .val (.ref b190), .val (.int (Int32.ofNat k)), .val (.ref t5)] [(.int (nar .char (((((nar .byte ((([c0, c1].getD k 0) >>> ((0 : Int32) &&& 31)).toInt8.toInt32)) &&& (255 : Int32)) <<< ((0 : Int32) &&& 31)) ||| (((nar .byte ((([c0, c1].getD k 0) >>> ((8 : Int32) &&& 31)).toInt8.toInt32)) &&& (255 : Int32)) <<< ((8 : Int32) &&& 31))).toUInt32.toUInt16.toUInt32.toInt32)))])) _
      rw [own_chU1 (hcs k lk)]
      show Steps p.tables e below (T199.setTop (mkF m 35 #[.val (.ref t1), .val (.int (0 : Int32)), .val (.int (2 : Int32)), .val (.ref b190), .val (.int (Int32.ofNat k)), .val (.ref t5)] [(.int ([c0, c1].getD k 0))])) _
      refine XS.sipush X199.here hx rfl (hb hby d8_35) ?_
      refine XS.icmpYes X199.here hx rfl (pc0 := 38) (pc' := 54) rfl (hb hby d8_38) rfl (tlt (gk : (255 : Int32) < ([c0, c1].getD k 0))).2.2.1 (by decide) (by decide) ?_
      show Steps p.tables e below (T199.setTop (mkF m 54 #[.val (.ref t1), .val (.int (0 : Int32)), .val (.int (2 : Int32)), .val (.ref b190), .val (.int (Int32.ofNat k)), .val (.ref t5)] [])) _
      refine XS.aload X199.here hx rfl (hb hby d8_54) rfl rfl ?_
      exact kt
    obtain ⟨fs, hr, hrun, hended, hW, hsame⟩ := X199.leave (v := some (.ref t5)) (fun h => by rw [Bd.returns] at h; cases h)
    refine ⟨_, _, (pre0 _ (pre193 _ (pre201 _ ?_))), hrun, hended, _, _, rfl, ?_, ⟨_, rfl⟩, hW, hsame.mono (by decide) (by decide)⟩
    · show Steps p.tables e below (T199.setTop (mkF m 56 #[.val (.ref t1), .val (.int (0 : Int32)), .val (.int (2 : Int32)), .val (.ref b190), .val (.int (Int32.ofNat k)), .val (.ref t5)] [(.ref t5)])) _
      exact retOut X199 hx (t := (.array .byte)) Bd.returns rfl (Or.inr (Or.inr (Or.inr (Or.inr ⟨rfl, rfl, rfl⟩)))) (hb hby d8_56) hr
    · show QCB2 Z t1 kc c0 c1 zc h0 n0 _ T199.heap _
      exact ⟨t5, rfl, N199, own_ext K199, sz_t5, k5, Or.inr f200⟩
theorem ef_I4_2 (m : MethodId) (x0 : Addr) (x1 : Addr) (x2 : Int32) (x3 : Int32) : entryFrame m #[(.ref x0), (.ref x1), (.int x2), (.int x3), .null] 6 = mkF m 0 #[.val (.ref x0), .val (.ref x1), .val (.int x2), .val (.int x3), .val .null, .unset] [] := by (first | (simp [entryFrame, mkF, argsToLocals, Value.category]; done) | rfl)
def QI4_2 (Z : State) (x1 : Addr) (t1 : Addr) (kc : ClassId) (c0 : Int32) (c1 : Int32) (zc : Int32) (h0 : Heap) (n0 : Nat) (v : Option Value) (h : Heap) (L : List Loc) : Prop := v = none ∧ Fr n0 L ∧ Keep h0 h [x1] ∧ own_str Z h x1 [c0, c1]
theorem d3_0 : decode jdk_42_method_149_code 0 = .ok (.aload_n 0, 1) := by decide +kernel
theorem d3_1 : decode jdk_42_method_149_code 1 = .ok (.invokespecial 1, 3) := by decide +kernel
theorem d3_4 : decode jdk_42_method_149_code 4 = .ok (.iload_n 3, 1) := by decide +kernel
theorem d3_5 : decode jdk_42_method_149_code 5 = .ok (.ifCond .ne 22, 3) := by decide +kernel
theorem d3_27 : decode jdk_42_method_149_code 27 = .ok (.getstatic 38, 3) := by decide +kernel
theorem d3_30 : decode jdk_42_method_149_code 30 = .ok (.ifCond .eq 28, 3) := by decide +kernel
theorem d3_33 : decode jdk_42_method_149_code 33 = .ok (.aload_n 1, 1) := by decide +kernel
theorem d3_34 : decode jdk_42_method_149_code 34 = .ok (.iload_n 2, 1) := by decide +kernel
theorem d3_35 : decode jdk_42_method_149_code 35 = .ok (.iload_n 3, 1) := by decide +kernel
theorem d3_36 : decode jdk_42_method_149_code 36 = .ok (.invokestatic 177, 3) := by decide +kernel
theorem d3_39 : decode jdk_42_method_149_code 39 = .ok (.astore 5, 2) := by decide +kernel
theorem d3_41 : decode jdk_42_method_149_code 41 = .ok (.aload_n 0, 1) := by decide +kernel
theorem d3_42 : decode jdk_42_method_149_code 42 = .ok (.aload 5, 2) := by decide +kernel
theorem d3_44 : decode jdk_42_method_149_code 44 = .ok (.iload_n 3, 1) := by decide +kernel
theorem d3_45 : decode jdk_42_method_149_code 45 = .ok (.invokestatic 47, 3) := by decide +kernel
theorem pd___BI_B : parseMethodDescriptor "([BI)B" = some ⟨[(.array .byte), .int], some .byte⟩ := by decide +kernel
theorem d3_48 : decode jdk_42_method_149_code 48 = .ok (.putfield 15, 3) := by decide +kernel
theorem d3_51 : decode jdk_42_method_149_code 51 = .ok (.aload_n 0, 1) := by decide +kernel
theorem d3_52 : decode jdk_42_method_149_code 52 = .ok (.aload 5, 2) := by decide +kernel
theorem d3_54 : decode jdk_42_method_149_code 54 = .ok (.putfield 9, 3) := by decide +kernel
theorem d3_57 : decode jdk_42_method_149_code 57 = .ok (.return_, 1) := by decide +kernel
set_option maxRecDepth 65536 in
set_option maxHeartbeats 40000000 in
theorem rmI4_2 (l : Launch) (Z : State) (a0 : Array Value) (hw : ∀ d ∈ tables_1, d.before a0 Z = true) (ws : List Jvm.Cond) (x1 : Addr) (t1 : Addr) (kc : ClassId) (c0 : Int32) (c1 : Int32) (zc : Int32) (h0 : Heap) (n0 : Nat) (Z0 : n0 ≤ h0.size) (XE : Exa Z h0 x1 "java/lang/String") (XV0 : Fld Z h0 x1 "java/lang/String" "value" "[B" .null) (XC0 : Fld Z h0 x1 "java/lang/String" "coder" "B" (.int (0 : Int32))) (g_x1 : n0 ≤ x1) (KT : Arv Z h0 t1 kc .char (2 : Int32) [(.int c0), (.int c1)] (.int (0 : Int32))) (hc0 : nar .char c0 = c0) (hc1 : nar .char c1 = c1) (OZ : Old Z n0 h0) (SC : Sta Z Z.heap "java/lang/String" "COMPACT_STRINGS" "Z" (.int zc)) (hzc : ¬ zc = (0 : Int32)) (SA : Sta Z Z.heap "java/lang/StringUTF16" "$assertionsDisabled" "Z" (.int (1 : Int32))) (SH : Sta Z Z.heap "java/lang/StringUTF16" "HI_BYTE_SHIFT" "I" (.int (0 : Int32))) (SL : Sta Z Z.heap "java/lang/StringUTF16" "LO_BYTE_SHIFT" "I" (.int (8 : Int32))) :
    MetFree l (⟨"java/lang/String", "<init>", "([CIILjava/lang/Void;)V"⟩ : MethodName) (head1 (Jvm.Cond.code (⟨"java/lang/String", "<init>", "([CIILjava/lang/Void;)V"⟩ : MethodName) jdk_42_method_149_code 6 none :: ws) ({ frames := 4, cells := 2, slots := 12, locals := 64 } : Room)) (fun a U => a = #[(.ref x1), (.ref t1), (.int (0 : Int32)), (.int (2 : Int32)), .null] ∧ Z.Warmed39 U.vm ∧ U.heap = h0) (fun _ _ _ _ _ => True) (fun _ U o U' => ∃ v L, o = .returned v ∧ QI4_2 Z x1 t1 kc c0 c1 zc h0 n0 v U'.heap L ∧ FrameEnd U o U' L ({ frames := 4, cells := 2, slots := 12, locals := 64 } : Room).cells ({ frames := 4, cells := 2, slots := 12, locals := 64 } : Room).slots) := by
  refine MetFree.of_bodySF (plainFor_of_name pn_java_lang_String) hisR ?_
  intro p e s m args below meth c s₁ Bd hml0 hP hK
  obtain ⟨rfl, hZ, hh⟩ := hP
  have hx := Bd.exec
  have hby := Bd.bytes
  have hml : c.maxLocals = 6 := hml0
  have hown : s.vm.findClass "java/lang/String" = some m.cls := findClass_of_methodNamed Bd.named
  have hnm := (name_of_methodNamed Bd.named Bd.method).1
  have X0 : Stand p l e ({ frames := 4, cells := 2, slots := 12, locals := 64 } : Room) s m #[(.ref x1), (.ref t1), (.int (0 : Int32)), (.int (2 : Int32)), .null] below meth c s₁ [] 0 0 := Stand.of_body Bd
  have e0 : s₁.heap = h0 := by rw [← hh, Bd.state]; rfl
  have N0 := Fr.nil n0
  have pre0 : ∀ t, Steps p.tables e below (s₁.setTop (mkF m 0 #[.val (.ref x1), .val (.ref t1), .val (.int (0 : Int32)), .val (.int (2 : Int32)), .val .null, .unset] [])) t → Steps p.tables e below (s₁.setTop (entryFrame m #[(.ref x1), (.ref t1), (.int (0 : Int32)), (.int (2 : Int32)), .null] 6)) t := fun t k => castTop (ef_I4_2 m x1 t1 (0 : Int32) (2 : Int32)) k
  have mem_x1 : x1 ∈ [x1] := List.mem_of_getElem? (i := 0) rfl
  obtain ⟨T202, X202, e202, st202⟩ := initO X0 hx hZ hown (tw hw 17 rfl) (tw hw 18 rfl) (tw hw 19 rfl) e0 (g := (mkF m 1 #[.val (.ref x1), .val (.ref t1), .val (.int (0 : Int32)), .val (.int (2 : Int32)), .val .null, .unset] [(.ref x1)])) rfl (by rw [hml]; rfl) rfl (hb hby d3_1) (by decide) (W := 0) (by show 2 * 0 + _ ≤ _; exact Nat.le_of_eq rfl) (by decide)
  obtain ⟨T203, X203, e203, st203⟩ := getS2 X202 hx hZ hown (host := "") (Or.inl (tw hw 42 rfl)) Via.refl e202 (SC.ext OZ.2) (g := (mkF m 27 #[.val (.ref x1), .val (.ref t1), .val (.int (0 : Int32)), .val (.int (2 : Int32)), .val .null, .unset] [])) rfl (hb hby d3_27)
  obtain ⟨_, _, ⟨T204, L204, k204, n204⟩, -, X204, ⟨Lc204, hQ204, l204, y204, z204⟩, st204⟩ := Jvm.LawKit.callS X203 hx (y := (⟨"java/lang/StringUTF16", "compress", "([CII)[B"⟩ : MethodName)) hown (mvT hZ (tw hw 43 rfl)) (mvT hZ (tw hw 44 rfl)) (mvT hZ (tw hw 45 rfl)) (mvT hZ (tw hw 46 rfl)) (by decide) (backOf (W := 0) (rmCB2 l Z a0 hw [] t1 kc c0 c1 zc h0 n0 Z0 KT hc0 hc1 OZ SC hzc SA SH SL) hZ (tw hw 46 rfl) (tw hw 45 rfl) (by decide) (by decide)) (g := (mkF m 36 #[.val (.ref x1), .val (.ref t1), .val (.int (0 : Int32)), .val (.int (2 : Int32)), .val .null, .unset] [(.int (2 : Int32)), (.int (0 : Int32)), (.ref t1)])) rfl (by rw [hml]; rfl) (argsL := [(.ref t1), (.int (0 : Int32)), (.int (2 : Int32))]) (rest := []) (lenOf pd___CII__B rfl) rfl (by show 2 * 0 + _ ≤ _; exact Nat.le_of_eq rfl) (hb hby d3_36) (fun _ _ => ⟨rfl, e203, (by decide : 0 + 2 ≤ _), (by decide : 0 + 12 ≤ _)⟩)
  dsimp only [Pt.U, Pt.locs, Pt.cells, Pt.slots] at X204 l204 y204 z204 st204 hQ204
  subst l204 y204 z204
  obtain ⟨t5, rfl, N204q, EX204, le5, k5, hor⟩ := hQ204
  have N204 := Fr.app N0 N204q
  have ne_x1_t5 : x1 ≠ t5 := Nat.ne_of_lt (Nat.lt_of_lt_of_le XE.lt le5)
  have Z204 := Nat.le_trans Z0 EX204.1
  have K204 := (Keep.refl h0 [x1]).ext EX204
  have pre205 : ∀ t, Steps p.tables e below (T204.setTop (mkF m 45 #[.val (.ref x1), .val (.ref t1), .val (.int (0 : Int32)), .val (.int (2 : Int32)), .val .null, .val (.ref t5)] [(.int (2 : Int32)), (.ref t5), (.ref x1)])) t → Steps p.tables e below (s₁.setTop (mkF m 0 #[.val (.ref x1), .val (.ref t1), .val (.int (0 : Int32)), .val (.int (2 : Int32)), .val .null, .unset] [])) t := by
    intro t kt
    show Steps p.tables e below (s₁.setTop (mkF m 0 #[.val (.ref x1), .val (.ref t1), .val (.int (0 : Int32)), .val (.int (2 : Int32)), .val .null, .unset] [])) _
    refine XS.aloadN X0.here hx rfl (hb hby d3_0) rfl rfl ?_
    show Steps p.tables e below (s₁.setTop (mkF m 1 #[.val (.ref x1), .val (.ref t1), .val (.int (0 : Int32)), .val (.int (2 : Int32)), .val .null, .unset] [(.ref x1)])) _
    refine st202 _ ?_
    show Steps p.tables e below (T202.setTop (mkF m 4 #[.val (.ref x1), .val (.ref t1), .val (.int (0 : Int32)), .val (.int (2 : Int32)), .val .null, .unset] [])) _
    refine XS.iloadN X202.here hx rfl (hb hby d3_4) rfl ?_
    refine XS.ifYes X202.here hx rfl (pc0 := 5) (pc' := 27) rfl (hb hby d3_5) rfl ((if0 _ _).trans (feq (by decide : ¬ ((2 : Int32) = (0 : Int32)))).2) (by decide) (by decide) ?_
    refine st203 _ ?_
    refine XS.ifNo X203.here hx rfl (hb hby d3_30) rfl ((if0 _ _).trans (feq (hzc : ¬ (zc = (0 : Int32)))).1) ?_
    show Steps p.tables e below (T203.setTop (mkF m 33 #[.val (.ref x1), .val (.ref t1), .val (.int (0 : Int32)), .val (.int (2 : Int32)), .val .null, .unset] [])) _
    refine XS.aloadN X203.here hx rfl (hb hby d3_33) rfl rfl ?_
    refine XS.iloadN X203.here hx rfl (hb hby d3_34) rfl ?_
    refine XS.iloadN X203.here hx rfl (hb hby d3_35) rfl ?_
    refine st204 _ ?_
    show Steps p.tables e below (T204.setTop (mkF m 39 #[.val (.ref x1), .val (.ref t1), .val (.int (0 : Int32)), .val (.int (2 : Int32)), .val .null, .unset] [(.ref t5)])) _
    refine XS.astore X204.here hx rfl (hb hby d3_39) rfl rfl (l' := #[.val (.ref x1), .val (.ref t1), .val (.int (0 : Int32)), .val (.int (2 : Int32)), .val .null, .val (.ref t5)]) rfl ?_
    refine XS.aloadN X204.here hx rfl (hb hby d3_41) rfl rfl ?_
    refine XS.aload X204.here hx rfl (hb hby d3_42) rfl rfl ?_
    refine XS.iloadN X204.here hx rfl (hb hby d3_44) rfl ?_
    exact kt
  rcases hor with ⟨V5, l0, l1⟩ | V5
  · skip
    obtain ⟨_, _, ⟨T206, L206, k206, n206⟩, -, X206, ⟨Lc206, hQ206, l206, y206, z206⟩, st206⟩ := Jvm.LawKit.callS X204 hx (y := (⟨"java/lang/StringUTF16", "coderFromArrayLen", "([BI)B"⟩ : MethodName)) hown (mvT hZ (tw hw 50 rfl)) (mvT hZ (tw hw 51 rfl)) (mvT hZ (tw hw 45 rfl)) (mvT hZ (tw hw 52 rfl)) (by decide) (backOf (W := 1) (rmCFL l Z a0 hw [] t5 k5 2 ([c0, c1].map own_B) T204.heap n0 Z204 V5 (by decide) (by decide)) hZ (tw hw 52 rfl) (tw hw 45 rfl) (by decide) (by decide)) (g := (mkF m 45 #[.val (.ref x1), .val (.ref t1), .val (.int (0 : Int32)), .val (.int (2 : Int32)), .val .null, .val (.ref t5)] [(.int (2 : Int32)), (.ref t5), (.ref x1)])) rfl (by rw [hml]; rfl) (argsL := [(.ref t5), (.int (2 : Int32))]) (rest := [(.ref x1)]) (lenOf pd___BI_B rfl) rfl (by show 2 * 0 + _ ≤ _; exact Nat.le_of_eq rfl) (hb hby d3_45) (fun _ _ => ⟨rfl, rfl, (by decide : 2 + 0 ≤ _), (by decide : 12 + 0 ≤ _)⟩)
    dsimp only [Pt.U, Pt.locs, Pt.cells, Pt.slots] at X206 l206 y206 z206 st206 hQ206
    subst l206 y206 z206
    obtain ⟨rfl, N206q, EQ206⟩ := hQ206
    have N206 := Fr.app N204 N206q
    have K206 := own_keq EQ206 K204
    have f207 := (EQ206 ▸ (XC0.ext EX204))
    have f208 := (EQ206 ▸ (XE.ext EX204))
    obtain ⟨T209, h209, X209, e209, W209, st209⟩ := putFN X206 hx hZ hown (tw hw 27 rfl) Via.refl rfl f207 f208 (Or.inr ⟨(tw hw 23 rfl), rfl, hnm⟩) (tw hw 7 rfl) (ty := .byte) (v' := (.int (0 : Int32))) (by decide) rfl rfl (g := (mkF m 48 #[.val (.ref x1), .val (.ref t1), .val (.int (0 : Int32)), .val (.int (2 : Int32)), .val .null, .val (.ref t5)] [(.int (0 : Int32)), (.ref x1)])) rfl rfl (hb hby d3_48)
    have N209 := Fr.snoc X209 N206 g_x1
    have K209 := K206.wr W209 (Or.inl mem_x1)
    have Fw209 := f207.same W209
    have f210 := ((EQ206 ▸ (XV0.ext EX204)).other W209 (Or.inr (slot_ne (Or.inr (tw hw 22 rfl)) (Or.inr (tw hw 23 rfl)) (by decide) (t := (.array .byte)) (t' := .byte) (by decide) (by decide))))
    have f211 := (f208.wr W209)
    obtain ⟨T212, h212, X212, e212, W212, st212⟩ := putF X209 hx hZ hown (host := "") (Or.inl (tw hw 26 rfl)) Via.refl e209 f210 f211 (Or.inr ⟨(tw hw 22 rfl), rfl, hnm⟩) (tw hw 7 rfl) (ty := (.array .byte)) (by decide) rfl rfl (g := (mkF m 54 #[.val (.ref x1), .val (.ref t1), .val (.int (0 : Int32)), .val (.int (2 : Int32)), .val .null, .val (.ref t5)] [(.ref t5), (.ref x1)])) rfl rfl (hb hby d3_54)
    have N212 := Fr.snoc X212 N209 g_x1
    have K212 := K209.wr W212 (Or.inl mem_x1)
    have Fw212 := f210.same W212
    have hl : ∀ i, i < [c0, c1].length → ¬ ((255 : Int32) < [c0, c1].getD i 0) := fun i hi => by
      match i, hi with
      | 0, _ => exact l0
      | 1, _ => exact l1
    have f213 := (f211.wr W212)
    have f214 := (Fw209.other W212 (Or.inr (slot_ne (Or.inr (tw hw 23 rfl)) (Or.inr (tw hw 22 rfl)) (by decide) (t := .byte) (t' := (.array .byte)) (by decide) (by decide))))
    have f215 := (((EQ206 ▸ V5).other W209 (Ne.symm ne_x1_t5)).other W212 (Ne.symm ne_x1_t5))
    have pre216 : ∀ t, Steps p.tables e below (T212.setTop (mkF m 57 #[.val (.ref x1), .val (.ref t1), .val (.int (0 : Int32)), .val (.int (2 : Int32)), .val .null, .val (.ref t5)] [])) t → Steps p.tables e below (T204.setTop (mkF m 45 #[.val (.ref x1), .val (.ref t1), .val (.int (0 : Int32)), .val (.int (2 : Int32)), .val .null, .val (.ref t5)] [(.int (2 : Int32)), (.ref t5), (.ref x1)])) t := by
      intro t kt
      refine st206 _ ?_
      refine st209 _ ?_
      show Steps p.tables e below (T209.setTop (mkF m 51 #[.val (.ref x1), .val (.ref t1), .val (.int (0 : Int32)), .val (.int (2 : Int32)), .val .null, .val (.ref t5)] [])) _
      refine XS.aloadN X209.here hx rfl (hb hby d3_51) rfl rfl ?_
      refine XS.aload X209.here hx rfl (hb hby d3_52) rfl rfl ?_
      refine st212 _ ?_
      exact kt
    obtain ⟨fs, hr, hrun, hended, hW, hsame⟩ := X212.leave (v := none) (fun _ => rfl)
    refine ⟨_, _, (pre0 _ (pre205 _ (pre216 _ ?_))), hrun, hended, _, _, rfl, ?_, ⟨_, rfl⟩, hW, hsame.mono (by decide) (by decide)⟩
    · show Steps p.tables e below (T212.setTop (mkF m 57 #[.val (.ref x1), .val (.ref t1), .val (.int (0 : Int32)), .val (.int (2 : Int32)), .val .null, .val (.ref t5)] [])) _
      exact X212.returnOut hx Bd.returns (hb hby d3_57) hr
    · show QI4_2 Z x1 t1 kc c0 c1 zc h0 n0 _ T212.heap _
      rw [e212]
      exact ⟨rfl, N212, K212, t5, k5, f213, Fw212, Or.inl ⟨f214, f215, hl⟩⟩
  · skip
    obtain ⟨_, _, ⟨T217, L217, k217, n217⟩, -, X217, ⟨Lc217, hQ217, l217, y217, z217⟩, st217⟩ := Jvm.LawKit.callS X204 hx (y := (⟨"java/lang/StringUTF16", "coderFromArrayLen", "([BI)B"⟩ : MethodName)) hown (mvT hZ (tw hw 50 rfl)) (mvT hZ (tw hw 51 rfl)) (mvT hZ (tw hw 45 rfl)) (mvT hZ (tw hw 52 rfl)) (by decide) (backOf (W := 1) (rmCFU l Z a0 hw [] t5 k5 2 ([c0, c1].flatMap own_U) T204.heap n0 Z204 V5 (by decide) (by decide)) hZ (tw hw 52 rfl) (tw hw 45 rfl) (by decide) (by decide)) (g := (mkF m 45 #[.val (.ref x1), .val (.ref t1), .val (.int (0 : Int32)), .val (.int (2 : Int32)), .val .null, .val (.ref t5)] [(.int (2 : Int32)), (.ref t5), (.ref x1)])) rfl (by rw [hml]; rfl) (argsL := [(.ref t5), (.int (2 : Int32))]) (rest := [(.ref x1)]) (lenOf pd___BI_B rfl) rfl (by show 2 * 0 + _ ≤ _; exact Nat.le_of_eq rfl) (hb hby d3_45) (fun _ _ => ⟨rfl, rfl, (by decide : 2 + 0 ≤ _), (by decide : 12 + 0 ≤ _)⟩)
    dsimp only [Pt.U, Pt.locs, Pt.cells, Pt.slots] at X217 l217 y217 z217 st217 hQ217
    subst l217 y217 z217
    obtain ⟨rfl, N217q, EQ217⟩ := hQ217
    have N217 := Fr.app N204 N217q
    have K217 := own_keq EQ217 K204
    have f218 := (EQ217 ▸ (XC0.ext EX204))
    have f219 := (EQ217 ▸ (XE.ext EX204))
    obtain ⟨T220, h220, X220, e220, W220, st220⟩ := putFN X217 hx hZ hown (tw hw 27 rfl) Via.refl rfl f218 f219 (Or.inr ⟨(tw hw 23 rfl), rfl, hnm⟩) (tw hw 7 rfl) (ty := .byte) (v' := (.int (1 : Int32))) (by decide) rfl rfl (g := (mkF m 48 #[.val (.ref x1), .val (.ref t1), .val (.int (0 : Int32)), .val (.int (2 : Int32)), .val .null, .val (.ref t5)] [(.int (1 : Int32)), (.ref x1)])) rfl rfl (hb hby d3_48)
    have N220 := Fr.snoc X220 N217 g_x1
    have K220 := K217.wr W220 (Or.inl mem_x1)
    have Fw220 := f218.same W220
    have f221 := ((EQ217 ▸ (XV0.ext EX204)).other W220 (Or.inr (slot_ne (Or.inr (tw hw 22 rfl)) (Or.inr (tw hw 23 rfl)) (by decide) (t := (.array .byte)) (t' := .byte) (by decide) (by decide))))
    have f222 := (f219.wr W220)
    obtain ⟨T223, h223, X223, e223, W223, st223⟩ := putF X220 hx hZ hown (host := "") (Or.inl (tw hw 26 rfl)) Via.refl e220 f221 f222 (Or.inr ⟨(tw hw 22 rfl), rfl, hnm⟩) (tw hw 7 rfl) (ty := (.array .byte)) (by decide) rfl rfl (g := (mkF m 54 #[.val (.ref x1), .val (.ref t1), .val (.int (0 : Int32)), .val (.int (2 : Int32)), .val .null, .val (.ref t5)] [(.ref t5), (.ref x1)])) rfl rfl (hb hby d3_54)
    have N223 := Fr.snoc X223 N220 g_x1
    have K223 := K220.wr W223 (Or.inl mem_x1)
    have Fw223 := f221.same W223
    have f224 := (f222.wr W223)
    have f225 := (Fw220.other W223 (Or.inr (slot_ne (Or.inr (tw hw 23 rfl)) (Or.inr (tw hw 22 rfl)) (by decide) (t := .byte) (t' := (.array .byte)) (by decide) (by decide))))
    have f226 := (((EQ217 ▸ V5).other W220 (Ne.symm ne_x1_t5)).other W223 (Ne.symm ne_x1_t5))
    have pre227 : ∀ t, Steps p.tables e below (T223.setTop (mkF m 57 #[.val (.ref x1), .val (.ref t1), .val (.int (0 : Int32)), .val (.int (2 : Int32)), .val .null, .val (.ref t5)] [])) t → Steps p.tables e below (T204.setTop (mkF m 45 #[.val (.ref x1), .val (.ref t1), .val (.int (0 : Int32)), .val (.int (2 : Int32)), .val .null, .val (.ref t5)] [(.int (2 : Int32)), (.ref t5), (.ref x1)])) t := by
      intro t kt
      refine st217 _ ?_
      refine st220 _ ?_
      show Steps p.tables e below (T220.setTop (mkF m 51 #[.val (.ref x1), .val (.ref t1), .val (.int (0 : Int32)), .val (.int (2 : Int32)), .val .null, .val (.ref t5)] [])) _
      refine XS.aloadN X220.here hx rfl (hb hby d3_51) rfl rfl ?_
      refine XS.aload X220.here hx rfl (hb hby d3_52) rfl rfl ?_
      refine st223 _ ?_
      exact kt
    obtain ⟨fs, hr, hrun, hended, hW, hsame⟩ := X223.leave (v := none) (fun _ => rfl)
    refine ⟨_, _, (pre0 _ (pre205 _ (pre227 _ ?_))), hrun, hended, _, _, rfl, ?_, ⟨_, rfl⟩, hW, hsame.mono (by decide) (by decide)⟩
    · show Steps p.tables e below (T223.setTop (mkF m 57 #[.val (.ref x1), .val (.ref t1), .val (.int (0 : Int32)), .val (.int (2 : Int32)), .val .null, .val (.ref t5)] [])) _
      exact X223.returnOut hx Bd.returns (hb hby d3_57) hr
    · show QI4_2 Z x1 t1 kc c0 c1 zc h0 n0 _ T223.heap _
      rw [e223]
      exact ⟨rfl, N223, K223, t5, k5, f224, Fw223, Or.inr ⟨f225, f226⟩⟩
theorem ef_I1_2 (m : MethodId) (x0 : Addr) (x1 : Addr) : entryFrame m #[(.ref x0), (.ref x1)] 2 = mkF m 0 #[.val (.ref x0), .val (.ref x1)] [] := by (first | (simp [entryFrame, mkF, argsToLocals, Value.category]; done) | rfl)
def QI1_2 (Z : State) (x1 : Addr) (t1 : Addr) (kc : ClassId) (c0 : Int32) (c1 : Int32) (zc : Int32) (h0 : Heap) (n0 : Nat) (v : Option Value) (h : Heap) (L : List Loc) : Prop := v = none ∧ Fr n0 L ∧ Keep h0 h [x1] ∧ own_str Z h x1 [c0, c1]
theorem d2_0 : decode jdk_42_method_3_code 0 = .ok (.aload_n 0, 1) := by decide +kernel
theorem d2_1 : decode jdk_42_method_3_code 1 = .ok (.aload_n 1, 1) := by decide +kernel
theorem d2_2 : decode jdk_42_method_3_code 2 = .ok (.iconst 0, 1) := by decide +kernel
theorem d2_3 : decode jdk_42_method_3_code 3 = .ok (.aload_n 1, 1) := by decide +kernel
theorem d2_4 : decode jdk_42_method_3_code 4 = .ok (.arraylength, 1) := by decide +kernel
theorem d2_5 : decode jdk_42_method_3_code 5 = .ok (.aconst_null, 1) := by decide +kernel
theorem d2_6 : decode jdk_42_method_3_code 6 = .ok (.invokespecial 27, 3) := by decide +kernel
theorem pd___CIILjava_lang_Void__V : parseMethodDescriptor "([CIILjava/lang/Void;)V" = some ⟨[(.array .char), .int, .int, (.object "java/lang/Void")], none⟩ := by decide +kernel
theorem d2_9 : decode jdk_42_method_3_code 9 = .ok (.return_, 1) := by decide +kernel
set_option maxRecDepth 65536 in
set_option maxHeartbeats 40000000 in
theorem rmI1_2 (l : Launch) (Z : State) (a0 : Array Value) (hw : ∀ d ∈ tables_1, d.before a0 Z = true) (ws : List Jvm.Cond) (x1 : Addr) (t1 : Addr) (kc : ClassId) (c0 : Int32) (c1 : Int32) (zc : Int32) (h0 : Heap) (n0 : Nat) (Z0 : n0 ≤ h0.size) (XE : Exa Z h0 x1 "java/lang/String") (XV0 : Fld Z h0 x1 "java/lang/String" "value" "[B" .null) (XC0 : Fld Z h0 x1 "java/lang/String" "coder" "B" (.int (0 : Int32))) (g_x1 : n0 ≤ x1) (KT : Arv Z h0 t1 kc .char (2 : Int32) [(.int c0), (.int c1)] (.int (0 : Int32))) (hc0 : nar .char c0 = c0) (hc1 : nar .char c1 = c1) (OZ : Old Z n0 h0) (SC : Sta Z Z.heap "java/lang/String" "COMPACT_STRINGS" "Z" (.int zc)) (hzc : ¬ zc = (0 : Int32)) (SA : Sta Z Z.heap "java/lang/StringUTF16" "$assertionsDisabled" "Z" (.int (1 : Int32))) (SH : Sta Z Z.heap "java/lang/StringUTF16" "HI_BYTE_SHIFT" "I" (.int (0 : Int32))) (SL : Sta Z Z.heap "java/lang/StringUTF16" "LO_BYTE_SHIFT" "I" (.int (8 : Int32))) :
    MetFree l (⟨"java/lang/String", "<init>", "([C)V"⟩ : MethodName) (head1 (Jvm.Cond.code (⟨"java/lang/String", "<init>", "([C)V"⟩ : MethodName) jdk_42_method_3_code 2 none :: ws) ({ frames := 5, cells := 2, slots := 12, locals := 82 } : Room)) (fun a U => a = #[(.ref x1), (.ref t1)] ∧ Z.Warmed39 U.vm ∧ U.heap = h0) (fun _ _ _ _ _ => True) (fun _ U o U' => ∃ v L, o = .returned v ∧ QI1_2 Z x1 t1 kc c0 c1 zc h0 n0 v U'.heap L ∧ FrameEnd U o U' L ({ frames := 5, cells := 2, slots := 12, locals := 82 } : Room).cells ({ frames := 5, cells := 2, slots := 12, locals := 82 } : Room).slots) := by
  refine MetFree.of_bodySF (plainFor_of_name pn_java_lang_String) hisR ?_
  intro p e s m args below meth c s₁ Bd hml0 hP hK
  obtain ⟨rfl, hZ, hh⟩ := hP
  have hx := Bd.exec
  have hby := Bd.bytes
  have hml : c.maxLocals = 2 := hml0
  have hown : s.vm.findClass "java/lang/String" = some m.cls := findClass_of_methodNamed Bd.named
  have hnm := (name_of_methodNamed Bd.named Bd.method).1
  have X0 : Stand p l e ({ frames := 5, cells := 2, slots := 12, locals := 82 } : Room) s m #[(.ref x1), (.ref t1)] below meth c s₁ [] 0 0 := Stand.of_body Bd
  have e0 : s₁.heap = h0 := by rw [← hh, Bd.state]; rfl
  have N0 := Fr.nil n0
  have pre0 : ∀ t, Steps p.tables e below (s₁.setTop (mkF m 0 #[.val (.ref x1), .val (.ref t1)] [])) t → Steps p.tables e below (s₁.setTop (entryFrame m #[(.ref x1), (.ref t1)] 2)) t := fun t k => castTop (ef_I1_2 m x1 t1) k
  have mem_x1 : x1 ∈ [x1] := List.mem_of_getElem? (i := 0) rfl
  obtain ⟨c228, Ar228, -, S228, M228, -, -⟩ := id KT
  obtain ⟨_, _, ⟨T229, L229, k229, n229⟩, -, X229, ⟨Lc229, hQ229, l229, y229, z229⟩, st229⟩ := X0.specialBack hx (y := (⟨"java/lang/String", "<init>", "([CIILjava/lang/Void;)V"⟩ : MethodName)) rfl hown (mvT hZ (tw hw 13 rfl)) (mvT hZ (tw hw 14 rfl)) (mvT hZ (tw hw 16 rfl)) (by decide) (backOf (W := 0) (rmI4_2 l Z a0 hw [] x1 t1 kc c0 c1 zc h0 n0 Z0 XE XV0 XC0 g_x1 KT hc0 hc1 OZ SC hzc SA SH SL) hZ (tw hw 16 rfl) (tw hw 8 rfl) (by decide) (by decide)) (g := (mkF m 6 #[.val (.ref x1), .val (.ref t1)] [.null, (.int (2 : Int32)), (.int (0 : Int32)), (.ref t1), (.ref x1)])) rfl (by rw [hml]; rfl) (Steps.refl _) (a := x1) (argsL := [(.ref t1), (.int (0 : Int32)), (.int (2 : Int32)), .null]) (rest := []) (lenOf pd___CIILjava_lang_Void__V rfl) rfl (by show 2 * 0 + _ ≤ _; exact Nat.le_of_eq rfl) (hb hby d2_6) (fun _ _ => ⟨rfl, e0, (by decide : 0 + 2 ≤ _), (by decide : 0 + 12 ≤ _)⟩)
  dsimp only [Pt.U, Pt.locs, Pt.cells, Pt.slots] at X229 l229 y229 z229 st229 hQ229
  subst l229 y229 z229
  obtain ⟨rfl, N229q, KC229, SP⟩ := hQ229
  have N229 := Fr.app N0 N229q
  have K229 := (Keep.refl h0 [x1]).trans KC229 (allS (Or.inl mem_x1) all0)
  have pre230 : ∀ t, Steps p.tables e below (T229.setTop (mkF m 9 #[.val (.ref x1), .val (.ref t1)] [])) t → Steps p.tables e below (s₁.setTop (mkF m 0 #[.val (.ref x1), .val (.ref t1)] [])) t := by
    intro t kt
    show Steps p.tables e below (s₁.setTop (mkF m 0 #[.val (.ref x1), .val (.ref t1)] [])) _
    refine XS.aloadN X0.here hx rfl (hb hby d2_0) rfl rfl ?_
    refine XS.aloadN X0.here hx rfl (hb hby d2_1) rfl rfl ?_
    refine XS.iconst X0.here hx rfl (hb hby d2_2) ?_
    refine XS.aloadN X0.here hx rfl (hb hby d2_3) rfl rfl ?_
    refine X0.arraylength hx (by rw [e0]; exact Ar228.1) (State.isArrayOf_alike hZ.alike Ar228.2.1) (g := (mkF m 4 #[.val (.ref x1), .val (.ref t1)] [(.ref t1), (.int (0 : Int32)), (.ref t1), (.ref x1)])) rfl rfl (hb hby d2_4) _ ?_
    rw [len_of S228 M228]
    show Steps p.tables e below (s₁.setTop (mkF m 5 #[.val (.ref x1), .val (.ref t1)] [(.int (2 : Int32)), (.int (0 : Int32)), (.ref t1), (.ref x1)])) _
    refine XS.aconstNull X0.here hx rfl (hb hby d2_5) ?_
    refine st229.trans ?_
    exact kt
  obtain ⟨fs, hr, hrun, hended, hW, hsame⟩ := X229.leave (v := none) (fun _ => rfl)
  refine ⟨_, _, (pre0 _ (pre230 _ ?_)), hrun, hended, _, _, rfl, ?_, ⟨_, rfl⟩, hW, hsame.mono (by decide) (by decide)⟩
  · show Steps p.tables e below (T229.setTop (mkF m 9 #[.val (.ref x1), .val (.ref t1)] [])) _
    exact X229.returnOut hx Bd.returns (hb hby d2_9) hr
  · show QI1_2 Z x1 t1 kc c0 c1 zc h0 n0 _ T229.heap _
    exact ⟨rfl, N229, K229, SP⟩
theorem ef_Mk2 (m : MethodId) (x0 : Int32) (x1 : Int32) (x2 : Int32) (x3 : Int32) (x4 : Int32) (x5 : Int32) : entryFrame m #[(.int x0), (.int x1), (.int x2), (.int x3), (.int x4), (.int x5)] 6 = mkF m 0 #[.val (.int x0), .val (.int x1), .val (.int x2), .val (.int x3), .val (.int x4), .val (.int x5)] [] := by (first | (simp [entryFrame, mkF, argsToLocals, Value.category]; done) | rfl)
def QMk2 (Z : State) (c0 : Int32) (c1 : Int32) (c2 : Int32) (c3 : Int32) (c4 : Int32) (zc : Int32) (h0 : Heap) (n0 : Nat) (v : Option Value) (h : Heap) (L : List Loc) : Prop := ∃ x2, v = some (.ref x2) ∧ Fr n0 L ∧ Ext h0 h ∧ Exa Z h x2 "java/lang/String" ∧ own_str Z h x2 [c0, c1]
theorem d1_0 : decode method_4_code 0 = .ok (.iload_n 0, 1) := by decide +kernel
theorem d1_1 : decode method_4_code 1 = .ok (.ifCond .ne 14, 3) := by decide +kernel
theorem d1_15 : decode method_4_code 15 = .ok (.iload_n 0, 1) := by decide +kernel
theorem d1_16 : decode method_4_code 16 = .ok (.iconst 1, 1) := by decide +kernel
theorem d1_17 : decode method_4_code 17 = .ok (.if_icmp .ne 8, 3) := by decide +kernel
theorem d1_25 : decode method_4_code 25 = .ok (.iload_n 0, 1) := by decide +kernel
theorem d1_26 : decode method_4_code 26 = .ok (.iconst 2, 1) := by decide +kernel
theorem d1_27 : decode method_4_code 27 = .ok (.if_icmp .ne 22, 3) := by decide +kernel
theorem d1_30 : decode method_4_code 30 = .ok (.new 25, 3) := by decide +kernel
theorem d1_33 : decode method_4_code 33 = .ok (.dup, 1) := by decide +kernel
theorem d1_34 : decode method_4_code 34 = .ok (.iconst 2, 1) := by decide +kernel
theorem d1_35 : decode method_4_code 35 = .ok (.newarray .char, 2) := by decide +kernel
theorem d1_37 : decode method_4_code 37 = .ok (.dup, 1) := by decide +kernel
theorem d1_38 : decode method_4_code 38 = .ok (.iconst 0, 1) := by decide +kernel
theorem d1_39 : decode method_4_code 39 = .ok (.iload_n 1, 1) := by decide +kernel
theorem d1_40 : decode method_4_code 40 = .ok (.castore, 1) := by decide +kernel
theorem d1_41 : decode method_4_code 41 = .ok (.dup, 1) := by decide +kernel
theorem d1_42 : decode method_4_code 42 = .ok (.iconst 1, 1) := by decide +kernel
theorem d1_43 : decode method_4_code 43 = .ok (.iload_n 2, 1) := by decide +kernel
theorem d1_44 : decode method_4_code 44 = .ok (.castore, 1) := by decide +kernel
theorem d1_45 : decode method_4_code 45 = .ok (.invokespecial 27, 3) := by decide +kernel
theorem pd___C_V : parseMethodDescriptor "([C)V" = some ⟨[(.array .char)], none⟩ := by decide +kernel
theorem d1_48 : decode method_4_code 48 = .ok (.areturn, 1) := by decide +kernel
set_option maxRecDepth 65536 in
set_option maxHeartbeats 40000000 in
theorem rmMk2 (l : Launch) (Z : State) (a0 : Array Value) (hw : ∀ d ∈ tables_1, d.before a0 Z = true) (ws : List Jvm.Cond) (c0 : Int32) (c1 : Int32) (c2 : Int32) (c3 : Int32) (c4 : Int32) (zc : Int32) (h0 : Heap) (n0 : Nat) (Z0 : n0 ≤ h0.size) (hc0 : nar .char c0 = c0) (hc1 : nar .char c1 = c1) (OZ : Old Z n0 h0) (SC : Sta Z Z.heap "java/lang/String" "COMPACT_STRINGS" "Z" (.int zc)) (hzc : ¬ zc = (0 : Int32)) (SA : Sta Z Z.heap "java/lang/StringUTF16" "$assertionsDisabled" "Z" (.int (1 : Int32))) (SH : Sta Z Z.heap "java/lang/StringUTF16" "HI_BYTE_SHIFT" "I" (.int (0 : Int32))) (SL : Sta Z Z.heap "java/lang/StringUTF16" "LO_BYTE_SHIFT" "I" (.int (8 : Int32))) :
    MetFree l (⟨"com/example/corvid/corvid/classfile/ConstantPoolModifiedUtf8LengthPinLaw", "make", "(ICCCCC)Ljava/lang/String;"⟩ : MethodName) (head1 (Jvm.Cond.code (⟨"com/example/corvid/corvid/classfile/ConstantPoolModifiedUtf8LengthPinLaw", "make", "(ICCCCC)Ljava/lang/String;"⟩ : MethodName) method_4_code 6 (some (.object "java/lang/String")) :: ws) ({ frames := 6, cells := 4, slots := 24, locals := 97 } : Room)) (fun a U => a = #[(.int (2 : Int32)), (.int c0), (.int c1), (.int c2), (.int c3), (.int c4)] ∧ Z.Warmed39 U.vm ∧ U.heap = h0) (fun _ _ _ _ _ => True) (fun _ U o U' => ∃ v L, o = .returned v ∧ QMk2 Z c0 c1 c2 c3 c4 zc h0 n0 v U'.heap L ∧ FrameEnd U o U' L ({ frames := 6, cells := 4, slots := 24, locals := 97 } : Room).cells ({ frames := 6, cells := 4, slots := 24, locals := 97 } : Room).slots) := by
  refine MetFree.of_bodySF (plainFor_of_name pn_com_example_corvid_corvid_classfile_ConstantPoolModifiedUtf8LengthPinLaw) hisR ?_
  intro p e s m args below meth c s₁ Bd hml0 hP hK
  obtain ⟨rfl, hZ, hh⟩ := hP
  have hx := Bd.exec
  have hby := Bd.bytes
  have hml : c.maxLocals = 6 := hml0
  have hown : s.vm.findClass "com/example/corvid/corvid/classfile/ConstantPoolModifiedUtf8LengthPinLaw" = some m.cls := findClass_of_methodNamed Bd.named
  have hnm := (name_of_methodNamed Bd.named Bd.method).1
  have X0 : Stand p l e ({ frames := 6, cells := 4, slots := 24, locals := 97 } : Room) s m #[(.int (2 : Int32)), (.int c0), (.int c1), (.int c2), (.int c3), (.int c4)] below meth c s₁ [] 0 0 := Stand.of_body Bd
  have e0 : s₁.heap = h0 := by rw [← hh, Bd.state]; rfl
  have N0 := Fr.nil n0
  have pre0 : ∀ t, Steps p.tables e below (s₁.setTop (mkF m 0 #[.val (.int (2 : Int32)), .val (.int c0), .val (.int c1), .val (.int c2), .val (.int c3), .val (.int c4)] [])) t → Steps p.tables e below (s₁.setTop (entryFrame m #[(.int (2 : Int32)), (.int c0), (.int c1), (.int c2), (.int c3), (.int c4)] 6)) t := fun t k => castTop (ef_Mk2 m (2 : Int32) c0 c1 c2 c3 c4) k
  obtain ⟨T231, h231, X231, e231, E231, A231, D231, -, st231⟩ := newO X0 hx hZ hown (tw hw 6 rfl) (tw hw 7 rfl) (tw hw 8 rfl) e0 (g := (mkF m 30 #[.val (.int (2 : Int32)), .val (.int c0), .val (.int c1), .val (.int c2), .val (.int c3), .val (.int c4)] [])) rfl (hb hby d1_30) (by decide) (by decide)
  obtain ⟨b231, g231⟩ : ∃ z, z = h0.size := ⟨_, rfl⟩
  rw [← g231] at A231 D231 st231
  have g_b231 : n0 ≤ b231 := Nat.le_trans Z0 (Nat.le_of_eq g231.symm)
  have sz_b231 : h0.size ≤ b231 := Nat.le_trans (Keep.refl h0 []).1 (Nat.le_of_eq g231.symm)
  have Z231 := Nat.le_trans Z0 E231.1
  have K231 := (Keep.refl h0 []).ext E231
  have F231_value : Fld Z h231 b231 "java/lang/String" "value" "[B" .null := D231 (Or.inr (tw hw 22 rfl)) (ty := (.array .byte)) (by decide)
  have F231_coder : Fld Z h231 b231 "java/lang/String" "coder" "B" (.int (0 : Int32)) := D231 (Or.inr (tw hw 23 rfl)) (ty := .byte) (by decide)
  obtain ⟨T232, h232, k232, X232, e232, E232, A232, st232⟩ := newP X231 hx hZ (tw hw 9 rfl) e231 (g := (mkF m 35 #[.val (.int (2 : Int32)), .val (.int c0), .val (.int c1), .val (.int c2), .val (.int c3), .val (.int c4)] [(.int (2 : Int32)), (.ref b231), (.ref b231)])) rfl (hb hby d1_35) rfl (by decide) (cap := 2) (by decide) (by decide) (by decide) (by decide)
  obtain ⟨b232, g232⟩ : ∃ z, z = h231.size := ⟨_, rfl⟩
  rw [← g232] at A232 st232
  have g_b232 : n0 ≤ b232 := Nat.le_trans Z231 (Nat.le_of_eq g232.symm)
  have sz_b232 : h0.size ≤ b232 := Nat.le_trans K231.1 (Nat.le_of_eq g232.symm)
  have ne_b231_b232 : b231 ≠ b232 := Nat.ne_of_lt (Nat.lt_of_lt_of_le A231.lt (Nat.le_of_eq g232.symm))
  have Z232 := Nat.le_trans Z231 E232.1
  have K232 := K231.ext E232
  have V232 : Arv Z h232 b232 k232 .char (2 : Int32) [(.int (0 : Int32)), (.int (0 : Int32))] (.int (0 : Int32)) := (Arv.new A232 (by decide)).pad (pad_rep [] (.int (0 : Int32)) 2)
  obtain ⟨c233, Ar233, q233, S233, M233, H233, G233⟩ := id V232
  have hin233 : ¬ ((0 : Int32) < 0 ∨ c233.slots.size ≤ ((0 : Int32)).toNatClampNeg) := inb_of S233 ⟨by decide, by decide⟩
  obtain ⟨T234, h234, X234, e234, W234, st234⟩ := stC X232 hx hZ e232 Ar233 (j := (0 : Int32)) hin233 (g := (mkF m 40 #[.val (.int (2 : Int32)), .val (.int c0), .val (.int c1), .val (.int c2), .val (.int c3), .val (.int c4)] [(.int c0), (.int (0 : Int32)), (.ref b232), (.ref b232), (.ref b231), (.ref b231)])) rfl rfl (hb hby d1_40)
  have N234 := Fr.snoc X234 N0 g_b232
  have Z234 := Nat.le_trans Z232 (Keep.of_wr W234).1
  have K234 := K232.wr W234 (Or.inr sz_b232)
  have V234 : Arv Z h234 b232 k232 .char (2 : Int32) [(.int (nar .char c0)), (.int (0 : Int32))] (.int (0 : Int32)) := Arv.set Ar233 q233 S233 M233 H233 G233 (fits_nar_char _) W234 0 rfl (Nat.le_of_ble_eq_true rfl)
  obtain ⟨c235, Ar235, q235, S235, M235, H235, G235⟩ := id V234
  have hin235 : ¬ ((1 : Int32) < 0 ∨ c235.slots.size ≤ ((1 : Int32)).toNatClampNeg) := inb_of S235 ⟨by decide, by decide⟩
  obtain ⟨T236, h236, X236, e236, W236, st236⟩ := stC X234 hx hZ e234 Ar235 (j := (1 : Int32)) hin235 (g := (mkF m 44 #[.val (.int (2 : Int32)), .val (.int c0), .val (.int c1), .val (.int c2), .val (.int c3), .val (.int c4)] [(.int c1), (.int (1 : Int32)), (.ref b232), (.ref b232), (.ref b231), (.ref b231)])) rfl rfl (hb hby d1_44)
  have N236 := Fr.snoc X236 N234 g_b232
  have Z236 := Nat.le_trans Z234 (Keep.of_wr W236).1
  have K236 := K234.wr W236 (Or.inr sz_b232)
  have V236 : Arv Z h236 b232 k232 .char (2 : Int32) [(.int (nar .char c0)), (.int (nar .char c1))] (.int (0 : Int32)) := Arv.set Ar235 q235 S235 M235 H235 G235 (fits_nar_char _) W236 1 rfl (Nat.le_of_ble_eq_true rfl)
  have VT : Arv Z h236 b232 k232 .char (2 : Int32) [(.int c0), (.int c1)] (.int (0 : Int32)) := by have q := V236; rw [hc0, hc1] at q; exact q
  have f237 := (((A231.ext E232).wr W234).wr W236)
  have f238 := (((F231_value.ext E232).other W234 (Or.inl ne_b231_b232)).other W236 (Or.inl ne_b231_b232))
  have f239 := (((F231_coder.ext E232).other W234 (Or.inl ne_b231_b232)).other W236 (Or.inl ne_b231_b232))
  have f240 := ((((OZ.ext E231).ext E232).wr W234 g_b232).wr W236 g_b232)
  obtain ⟨_, _, ⟨T241, L241, k241, n241⟩, -, X241, ⟨Lc241, hQ241, l241, y241, z241⟩, st241⟩ := X236.specialBack hx (y := (⟨"java/lang/String", "<init>", "([C)V"⟩ : MethodName)) rfl hown (mvT hZ (tw hw 10 rfl)) (mvT hZ (tw hw 11 rfl)) (mvT hZ (tw hw 12 rfl)) (by decide) (backOf (W := 1) (rmI1_2 l Z a0 hw [] b231 b232 k232 c0 c1 zc h236 n0 Z236 f237 f238 f239 g_b231 VT hc0 hc1 f240 SC hzc SA SH SL) hZ (tw hw 12 rfl) (tw hw 8 rfl) (by decide) (by decide)) (g := (mkF m 45 #[.val (.int (2 : Int32)), .val (.int c0), .val (.int c1), .val (.int c2), .val (.int c3), .val (.int c4)] [(.ref b232), (.ref b231), (.ref b231)])) rfl (by rw [hml]; rfl) (Steps.refl _) (a := b231) (argsL := [(.ref b232)]) (rest := [(.ref b231)]) (lenOf pd___C_V rfl) rfl (by show 2 * 0 + _ ≤ _; exact Nat.le_of_eq rfl) (hb hby d1_45) (fun _ _ => ⟨rfl, e236, (by decide : 2 + 2 ≤ _), (by decide : 6 + 12 ≤ _)⟩)
  dsimp only [Pt.U, Pt.locs, Pt.cells, Pt.slots] at X241 l241 y241 z241 st241 hQ241
  subst l241 y241 z241
  obtain ⟨rfl, N241q, KC241, SP⟩ := hQ241
  have N241 := Fr.app N236 N241q
  have K241 := K236.trans KC241 (allS (Or.inr sz_b231) all0)
  have f242 := (f237.keep KC241)
  have pre243 : ∀ t, Steps p.tables e below (T241.setTop (mkF m 48 #[.val (.int (2 : Int32)), .val (.int c0), .val (.int c1), .val (.int c2), .val (.int c3), .val (.int c4)] [(.ref b231)])) t → Steps p.tables e below (s₁.setTop (mkF m 0 #[.val (.int (2 : Int32)), .val (.int c0), .val (.int c1), .val (.int c2), .val (.int c3), .val (.int c4)] [])) t := by
    intro t kt
    show Steps p.tables e below (s₁.setTop (mkF m 0 #[.val (.int (2 : Int32)), .val (.int c0), .val (.int c1), .val (.int c2), .val (.int c3), .val (.int c4)] [])) _
    refine XS.iloadN X0.here hx rfl (hb hby d1_0) rfl ?_
    refine XS.ifYes X0.here hx rfl (pc0 := 1) (pc' := 15) rfl (hb hby d1_1) rfl ((if0 _ _).trans (feq (by decide : ¬ ((2 : Int32) = (0 : Int32)))).2) (by decide) (by decide) ?_
    show Steps p.tables e below (s₁.setTop (mkF m 15 #[.val (.int (2 : Int32)), .val (.int c0), .val (.int c1), .val (.int c2), .val (.int c3), .val (.int c4)] [])) _
    refine XS.iloadN X0.here hx rfl (hb hby d1_15) rfl ?_
    refine XS.iconst X0.here hx rfl (hb hby d1_16) ?_
    refine XS.icmpYes X0.here hx rfl (pc0 := 17) (pc' := 25) rfl (hb hby d1_17) rfl (feq (by decide : ¬ ((2 : Int32) = (1 : Int32)))).2 (by decide) (by decide) ?_
    show Steps p.tables e below (s₁.setTop (mkF m 25 #[.val (.int (2 : Int32)), .val (.int c0), .val (.int c1), .val (.int c2), .val (.int c3), .val (.int c4)] [])) _
    refine XS.iloadN X0.here hx rfl (hb hby d1_25) rfl ?_
    refine XS.iconst X0.here hx rfl (hb hby d1_26) ?_
    refine XS.icmpNo X0.here hx rfl (hb hby d1_27) rfl (teq (by decide : (2 : Int32) = (2 : Int32))).2 ?_
    show Steps p.tables e below (s₁.setTop (mkF m 30 #[.val (.int (2 : Int32)), .val (.int c0), .val (.int c1), .val (.int c2), .val (.int c3), .val (.int c4)] [])) _
    refine st231 _ ?_
    show Steps p.tables e below (T231.setTop (mkF m 33 #[.val (.int (2 : Int32)), .val (.int c0), .val (.int c1), .val (.int c2), .val (.int c3), .val (.int c4)] [(.ref b231)])) _
    refine XS.dup X231.here hx rfl (hb hby d1_33) rfl rfl ?_
    refine XS.iconst X231.here hx rfl (hb hby d1_34) ?_
    show Steps p.tables e below (T231.setTop (mkF m 35 #[.val (.int (2 : Int32)), .val (.int c0), .val (.int c1), .val (.int c2), .val (.int c3), .val (.int c4)] [(.int (2 : Int32)), (.ref b231), (.ref b231)])) _
    refine st232 _ ?_
    show Steps p.tables e below (T232.setTop (mkF m 37 #[.val (.int (2 : Int32)), .val (.int c0), .val (.int c1), .val (.int c2), .val (.int c3), .val (.int c4)] [(.ref b232), (.ref b231), (.ref b231)])) _
    refine XS.dup X232.here hx rfl (hb hby d1_37) rfl rfl ?_
    refine XS.iconst X232.here hx rfl (hb hby d1_38) ?_
    refine XS.iloadN X232.here hx rfl (hb hby d1_39) rfl ?_
    show Steps p.tables e below (T232.setTop (mkF m 40 #[.val (.int (2 : Int32)), .val (.int c0), .val (.int c1), .val (.int c2), .val (.int c3), .val (.int c4)] [(.int c0), (.int (0 : Int32)), (.ref b232), (.ref b232), (.ref b231), (.ref b231)])) _
    refine st234 _ ?_
    show Steps p.tables e below (T234.setTop (mkF m 41 #[.val (.int (2 : Int32)), .val (.int c0), .val (.int c1), .val (.int c2), .val (.int c3), .val (.int c4)] [(.ref b232), (.ref b231), (.ref b231)])) _
    refine XS.dup X234.here hx rfl (hb hby d1_41) rfl rfl ?_
    refine XS.iconst X234.here hx rfl (hb hby d1_42) ?_
    refine XS.iloadN X234.here hx rfl (hb hby d1_43) rfl ?_
    show Steps p.tables e below (T234.setTop (mkF m 44 #[.val (.int (2 : Int32)), .val (.int c0), .val (.int c1), .val (.int c2), .val (.int c3), .val (.int c4)] [(.int c1), (.int (1 : Int32)), (.ref b232), (.ref b232), (.ref b231), (.ref b231)])) _
    refine st236 _ ?_
    refine st241.trans ?_
    exact kt
  obtain ⟨fs, hr, hrun, hended, hW, hsame⟩ := X241.leave (v := some (.ref b231)) (fun h => by rw [Bd.returns] at h; cases h)
  refine ⟨_, _, (pre0 _ (pre243 _ ?_)), hrun, hended, _, _, rfl, ?_, ⟨_, rfl⟩, hW, hsame.mono (by decide) (by decide)⟩
  · show Steps p.tables e below (T241.setTop (mkF m 48 #[.val (.int (2 : Int32)), .val (.int c0), .val (.int c1), .val (.int c2), .val (.int c3), .val (.int c4)] [(.ref b231)])) _
    exact retOut X241 hx (t := (.object "java/lang/String")) Bd.returns rfl (Or.inr (Or.inr (Or.inr (Or.inr ⟨rfl, rfl, rfl⟩)))) (hb hby d1_48) hr
  · show QMk2 Z c0 c1 c2 c3 c4 zc h0 n0 _ T241.heap _
    exact ⟨b231, rfl, N241, own_ext K241, f242, SP⟩
theorem ef_Cp3 (m : MethodId) (x0 : Addr) (x1 : Int32) (x2 : Addr) (x3 : Int32) (x4 : Int32) : entryFrame m #[(.ref x0), (.int x1), (.ref x2), (.int x3), (.int x4)] 7 = mkF m 0 #[.val (.ref x0), .val (.int x1), .val (.ref x2), .val (.int x3), .val (.int x4), .unset, .unset] [] := by (first | (simp [entryFrame, mkF, argsToLocals, Value.category]; done) | rfl)
def QCp3 (Z : State) (t1 : Addr) (kc : ClassId) (t3 : Addr) (k3 : ClassId) (c0 : Int32) (c1 : Int32) (c2 : Int32) (h0 : Heap) (n0 : Nat) (v : Option Value) (h : Heap) (L : List Loc) : Prop := ∃ k : Nat, v = some (.int (Int32.ofNat k)) ∧ Fr n0 L ∧ Keep h0 h [t3] ∧ ((k = 3 ∧ Arv Z h t3 k3 .byte (3 : Int32) [(.int (nar .byte (c0.toInt8.toInt32))), (.int (nar .byte (c1.toInt8.toInt32))), (.int (nar .byte (c2.toInt8.toInt32)))] (.int (0 : Int32)) ∧ ¬ ((255 : Int32) < c0) ∧ ¬ ((255 : Int32) < c1) ∧ ¬ ((255 : Int32) < c2)) ∨ (k < 3 ∧ (255 : Int32) < [c0, c1, c2].getD k 0))
set_option maxRecDepth 65536 in
set_option maxHeartbeats 40000000 in
theorem rmCp3 (l : Launch) (Z : State) (a0 : Array Value) (hw : ∀ d ∈ tables_1, d.before a0 Z = true) (ws : List Jvm.Cond) (t1 : Addr) (kc : ClassId) (t3 : Addr) (k3 : ClassId) (c0 : Int32) (c1 : Int32) (c2 : Int32) (h0 : Heap) (n0 : Nat) (Z0 : n0 ≤ h0.size) (KT : Arv Z h0 t1 kc .char (3 : Int32) [(.int c0), (.int c1), (.int c2)] (.int (0 : Int32))) (K3 : Arv Z h0 t3 k3 .byte (3 : Int32) [(.int (0 : Int32)), (.int (0 : Int32)), (.int (0 : Int32))] (.int (0 : Int32))) (g_t3 : n0 ≤ t3) (ne_t1_t3 : t1 ≠ t3) :
    MetFree l (⟨"java/lang/StringUTF16", "compress", "([CI[BII)I"⟩ : MethodName) (head1 (Jvm.Cond.code (⟨"java/lang/StringUTF16", "compress", "([CI[BII)I"⟩ : MethodName) jdk_52_method_21_code 7 (some .int) :: ws) ({ frames := 0, cells := 0, slots := 0, locals := 0 } : Room)) (fun a U => a = #[(.ref t1), (.int (0 : Int32)), (.ref t3), (.int (0 : Int32)), (.int (3 : Int32))] ∧ Z.Warmed39 U.vm ∧ U.heap = h0) (fun _ _ _ _ _ => True) (fun _ U o U' => ∃ v L, o = .returned v ∧ QCp3 Z t1 kc t3 k3 c0 c1 c2 h0 n0 v U'.heap L ∧ FrameEnd U o U' L ({ frames := 0, cells := 0, slots := 0, locals := 0 } : Room).cells ({ frames := 0, cells := 0, slots := 0, locals := 0 } : Room).slots) := by
  refine MetFree.of_bodySF (plainFor_of_name pn_java_lang_StringUTF16) hisR ?_
  intro p e s m args below meth c s₁ Bd hml0 hP hK
  obtain ⟨rfl, hZ, hh⟩ := hP
  have hx := Bd.exec
  have hby := Bd.bytes
  have hml : c.maxLocals = 7 := hml0
  have hown : s.vm.findClass "java/lang/StringUTF16" = some m.cls := findClass_of_methodNamed Bd.named
  have hnm := (name_of_methodNamed Bd.named Bd.method).1
  have X0 : Stand p l e ({ frames := 0, cells := 0, slots := 0, locals := 0 } : Room) s m #[(.ref t1), (.int (0 : Int32)), (.ref t3), (.int (0 : Int32)), (.int (3 : Int32))] below meth c s₁ [] 0 0 := Stand.of_body Bd
  have e0 : s₁.heap = h0 := by rw [← hh, Bd.state]; rfl
  have N0 := Fr.nil n0
  have pre0 : ∀ t, Steps p.tables e below (s₁.setTop (mkF m 0 #[.val (.ref t1), .val (.int (0 : Int32)), .val (.ref t3), .val (.int (0 : Int32)), .val (.int (3 : Int32)), .unset, .unset] [])) t → Steps p.tables e below (s₁.setTop (entryFrame m #[(.ref t1), (.int (0 : Int32)), (.ref t3), (.int (0 : Int32)), (.int (3 : Int32))] 7)) t := fun t k => castTop (ef_Cp3 m t1 (0 : Int32) t3 (0 : Int32) (3 : Int32)) k
  have mem_t3 : t3 ∈ [t3] := List.mem_of_getElem? (i := 0) rfl
  obtain ⟨c244, Ar244, q244, S244, M244, H244, G244⟩ := id KT
  have hin244 : ¬ ((0 : Int32) < 0 ∨ c244.slots.size ≤ ((0 : Int32)).toNatClampNeg) := inb_of S244 ⟨by decide, by decide⟩
  have hat244 : c244.slots[((0 : Int32)).toNatClampNeg]? = some (.int c0) := (H244 _ (Nat.lt_of_not_le fun y => hin244 (Or.inr y))).trans rfl
  have pre245 : ∀ t, Steps p.tables e below (s₁.setTop (mkF m 20 #[.val (.ref t1), .val (.int (0 : Int32)), .val (.ref t3), .val (.int (0 : Int32)), .val (.int (3 : Int32)), .val (.int (0 : Int32)), .val (.int c0)] [(.int (255 : Int32)), (.int c0)])) t → Steps p.tables e below (s₁.setTop (mkF m 0 #[.val (.ref t1), .val (.int (0 : Int32)), .val (.ref t3), .val (.int (0 : Int32)), .val (.int (3 : Int32)), .unset, .unset] [])) t := by
    intro t kt
    show Steps p.tables e below (s₁.setTop (mkF m 0 #[.val (.ref t1), .val (.int (0 : Int32)), .val (.ref t3), .val (.int (0 : Int32)), .val (.int (3 : Int32)), .unset, .unset] [])) _
    refine XS.iconst X0.here hx rfl (hb hby d9_0) ?_
    refine XS.istore X0.here hx rfl (hb hby d9_1) rfl (l' := #[.val (.ref t1), .val (.int (0 : Int32)), .val (.ref t3), .val (.int (0 : Int32)), .val (.int (3 : Int32)), .val (.int (0 : Int32)), .unset]) rfl ?_
    refine XS.iload X0.here hx rfl (hb hby d9_3) rfl ?_
    refine XS.iload X0.here hx rfl (hb hby d9_5) rfl ?_
    refine XS.icmpNo X0.here hx rfl (hb hby d9_7) rfl (tlt (by decide : (0 : Int32) < (3 : Int32))).2.1 ?_
    show Steps p.tables e below (s₁.setTop (mkF m 10 #[.val (.ref t1), .val (.int (0 : Int32)), .val (.ref t3), .val (.int (0 : Int32)), .val (.int (3 : Int32)), .val (.int (0 : Int32)), .unset] [])) _
    refine XS.aloadN X0.here hx rfl (hb hby d9_10) rfl rfl ?_
    refine XS.iloadN X0.here hx rfl (hb hby d9_11) rfl ?_
    show Steps p.tables e below (s₁.setTop (mkF m 12 #[.val (.ref t1), .val (.int (0 : Int32)), .val (.ref t3), .val (.int (0 : Int32)), .val (.int (3 : Int32)), .val (.int (0 : Int32)), .unset] [(.int (0 : Int32)), (.ref t1)])) _
    refine X0.caload hx (j := (0 : Int32)) (v := (.int c0)) (by rw [e0]; exact Ar244.1) (State.isArrayOf_alike hZ.alike Ar244.2.1) Ar244.2.2 hin244 hat244 (g := (mkF m 12 #[.val (.ref t1), .val (.int (0 : Int32)), .val (.ref t3), .val (.int (0 : Int32)), .val (.int (3 : Int32)), .val (.int (0 : Int32)), .unset] [(.int (0 : Int32)), (.ref t1)])) rfl rfl (hb hby d9_12) _ ?_
    show Steps p.tables e below (s₁.setTop (mkF m 13 #[.val (.ref t1), .val (.int (0 : Int32)), .val (.ref t3), .val (.int (0 : Int32)), .val (.int (3 : Int32)), .val (.int (0 : Int32)), .unset] [(.int c0)])) _
    refine XS.istore X0.here hx rfl (hb hby d9_13) rfl (l' := #[.val (.ref t1), .val (.int (0 : Int32)), .val (.ref t3), .val (.int (0 : Int32)), .val (.int (3 : Int32)), .val (.int (0 : Int32)), .val (.int c0)]) rfl ?_
    refine XS.iload X0.here hx rfl (hb hby d9_15) rfl ?_
    refine XS.sipush X0.here hx rfl (hb hby d9_17) ?_
    exact kt
  by_cases gt0 : (255 : Int32) < c0
  · skip
    have pre246 : ∀ t, Steps p.tables e below (s₁.setTop (mkF m 25 #[.val (.ref t1), .val (.int (0 : Int32)), .val (.ref t3), .val (.int (0 : Int32)), .val (.int (3 : Int32)), .val (.int (0 : Int32)), .val (.int c0)] [(.int (0 : Int32))])) t → Steps p.tables e below (s₁.setTop (mkF m 20 #[.val (.ref t1), .val (.int (0 : Int32)), .val (.ref t3), .val (.int (0 : Int32)), .val (.int (3 : Int32)), .val (.int (0 : Int32)), .val (.int c0)] [(.int (255 : Int32)), (.int c0)])) t := by
      intro t kt
      refine XS.icmpNo X0.here hx rfl (hb hby d9_20) rfl (tlt (gt0 : (255 : Int32) < c0)).2.2.2 ?_
      show Steps p.tables e below (s₁.setTop (mkF m 23 #[.val (.ref t1), .val (.int (0 : Int32)), .val (.ref t3), .val (.int (0 : Int32)), .val (.int (3 : Int32)), .val (.int (0 : Int32)), .val (.int c0)] [])) _
      refine XS.iload X0.here hx rfl (hb hby d9_23) rfl ?_
      exact kt
    obtain ⟨fs, hr, hrun, hended, hW, hsame⟩ := X0.leave (v := some (.int (0 : Int32))) (fun h => by rw [Bd.returns] at h; cases h)
    refine ⟨_, _, (pre0 _ (pre245 _ (pre246 _ ?_))), hrun, hended, _, _, rfl, ?_, ⟨_, rfl⟩, hW, hsame.mono (by decide) (by decide)⟩
    · show Steps p.tables e below (s₁.setTop (mkF m 25 #[.val (.ref t1), .val (.int (0 : Int32)), .val (.ref t3), .val (.int (0 : Int32)), .val (.int (3 : Int32)), .val (.int (0 : Int32)), .val (.int c0)] [(.int (0 : Int32))])) _
      exact retOut X0 hx (t := .int) Bd.returns rfl (Or.inl ⟨rfl, Or.inl rfl, _, rfl⟩) (hb hby d9_25) hr
    · show QCp3 Z t1 kc t3 k3 c0 c1 c2 h0 n0 _ s₁.heap _
      rw [e0]
      exact ⟨0, rfl, N0, (Keep.refl h0 [t3]), Or.inr ⟨by decide, gt0⟩⟩
  · skip
    obtain ⟨c247, Ar247, q247, S247, M247, H247, G247⟩ := id K3
    have hin247 : ¬ ((0 : Int32) < 0 ∨ c247.slots.size ≤ ((0 : Int32)).toNatClampNeg) := inb_of S247 ⟨by decide, by decide⟩
    obtain ⟨T248, h248, X248, e248, W248, st248⟩ := stB X0 hx hZ e0 Ar247 (j := (0 : Int32)) hin247 (g := (mkF m 31 #[.val (.ref t1), .val (.int (0 : Int32)), .val (.ref t3), .val (.int (0 : Int32)), .val (.int (3 : Int32)), .val (.int (0 : Int32)), .val (.int c0)] [(.int (c0.toInt8.toInt32)), (.int (0 : Int32)), (.ref t3)])) rfl rfl (hb hby d9_31)
    have N248 := Fr.snoc X248 N0 g_t3
    have K248 := (Keep.refl h0 [t3]).wr W248 (Or.inl mem_t3)
    have V248 : Arv Z h248 t3 k3 .byte (3 : Int32) [(.int (nar .byte (c0.toInt8.toInt32))), (.int (0 : Int32)), (.int (0 : Int32))] (.int (0 : Int32)) := Arv.set Ar247 q247 S247 M247 H247 G247 (fits_nar_byte _) W248 0 rfl (Nat.le_of_ble_eq_true rfl)
    have f249 := (KT.other W248 ne_t1_t3)
    obtain ⟨c250, Ar250, q250, S250, M250, H250, G250⟩ := id f249
    have hin250 : ¬ ((1 : Int32) < 0 ∨ c250.slots.size ≤ ((1 : Int32)).toNatClampNeg) := inb_of S250 ⟨by decide, by decide⟩
    have hat250 : c250.slots[((1 : Int32)).toNatClampNeg]? = some (.int c1) := (H250 _ (Nat.lt_of_not_le fun y => hin250 (Or.inr y))).trans rfl
    have pre251 : ∀ t, Steps p.tables e below (T248.setTop (mkF m 20 #[.val (.ref t1), .val (.int (1 : Int32)), .val (.ref t3), .val (.int (1 : Int32)), .val (.int (3 : Int32)), .val (.int (1 : Int32)), .val (.int c1)] [(.int (255 : Int32)), (.int c1)])) t → Steps p.tables e below (s₁.setTop (mkF m 20 #[.val (.ref t1), .val (.int (0 : Int32)), .val (.ref t3), .val (.int (0 : Int32)), .val (.int (3 : Int32)), .val (.int (0 : Int32)), .val (.int c0)] [(.int (255 : Int32)), (.int c0)])) t := by
      intro t kt
      refine XS.icmpYes X0.here hx rfl (pc0 := 20) (pc' := 26) rfl (hb hby d9_20) rfl (flt (gt0 : ¬ ((255 : Int32) < c0))).2.2.2 (by decide) (by decide) ?_
      show Steps p.tables e below (s₁.setTop (mkF m 26 #[.val (.ref t1), .val (.int (0 : Int32)), .val (.ref t3), .val (.int (0 : Int32)), .val (.int (3 : Int32)), .val (.int (0 : Int32)), .val (.int c0)] [])) _
      refine XS.aloadN X0.here hx rfl (hb hby d9_26) rfl rfl ?_
      refine XS.iloadN X0.here hx rfl (hb hby d9_27) rfl ?_
      refine XS.iload X0.here hx rfl (hb hby d9_28) rfl ?_
      refine XS.i2b X0.here hx rfl (hb hby d9_30) rfl ?_
      show Steps p.tables e below (s₁.setTop (mkF m 31 #[.val (.ref t1), .val (.int (0 : Int32)), .val (.ref t3), .val (.int (0 : Int32)), .val (.int (3 : Int32)), .val (.int (0 : Int32)), .val (.int c0)] [(.int (c0.toInt8.toInt32)), (.int (0 : Int32)), (.ref t3)])) _
      refine st248 _ ?_
      show Steps p.tables e below (T248.setTop (mkF m 32 #[.val (.ref t1), .val (.int (0 : Int32)), .val (.ref t3), .val (.int (0 : Int32)), .val (.int (3 : Int32)), .val (.int (0 : Int32)), .val (.int c0)] [])) _
      refine XS.iinc X248.here hx rfl (hb hby d9_32) rfl (l' := #[.val (.ref t1), .val (.int ((0 : Int32) + (1 : Int32))), .val (.ref t3), .val (.int (0 : Int32)), .val (.int (3 : Int32)), .val (.int (0 : Int32)), .val (.int c0)]) rfl ?_
      refine XS.iinc X248.here hx rfl (hb hby d9_35) rfl (l' := #[.val (.ref t1), .val (.int ((0 : Int32) + (1 : Int32))), .val (.ref t3), .val (.int ((0 : Int32) + (1 : Int32))), .val (.int (3 : Int32)), .val (.int (0 : Int32)), .val (.int c0)]) rfl ?_
      refine XS.iinc X248.here hx rfl (hb hby d9_38) rfl (l' := #[.val (.ref t1), .val (.int ((0 : Int32) + (1 : Int32))), .val (.ref t3), .val (.int ((0 : Int32) + (1 : Int32))), .val (.int (3 : Int32)), .val (.int ((0 : Int32) + (1 : Int32))), .val (.int c0)]) rfl ?_
      show Steps p.tables e below (T248.setTop (mkF m 41 #[.val (.ref t1), .val (.int ((0 : Int32) + (1 : Int32))), .val (.ref t3), .val (.int ((0 : Int32) + (1 : Int32))), .val (.int (3 : Int32)), .val (.int ((0 : Int32) + (1 : Int32))), .val (.int c0)] [])) _
      rw [show ((0 : Int32) + (1 : Int32)) = (1 : Int32) from by decide]
      show Steps p.tables e below (T248.setTop (mkF m 41 #[.val (.ref t1), .val (.int (1 : Int32)), .val (.ref t3), .val (.int (1 : Int32)), .val (.int (3 : Int32)), .val (.int (1 : Int32)), .val (.int c0)] [])) _
      refine XS.goto X248.here hx rfl (pc0 := 41) (pc' := 3) rfl (hb hby d9_41) (by decide) (by decide) ?_
      show Steps p.tables e below (T248.setTop (mkF m 3 #[.val (.ref t1), .val (.int (1 : Int32)), .val (.ref t3), .val (.int (1 : Int32)), .val (.int (3 : Int32)), .val (.int (1 : Int32)), .val (.int c0)] [])) _
      refine XS.iload X248.here hx rfl (hb hby d9_3) rfl ?_
      refine XS.iload X248.here hx rfl (hb hby d9_5) rfl ?_
      refine XS.icmpNo X248.here hx rfl (hb hby d9_7) rfl (tlt (by decide : (1 : Int32) < (3 : Int32))).2.1 ?_
      show Steps p.tables e below (T248.setTop (mkF m 10 #[.val (.ref t1), .val (.int (1 : Int32)), .val (.ref t3), .val (.int (1 : Int32)), .val (.int (3 : Int32)), .val (.int (1 : Int32)), .val (.int c0)] [])) _
      refine XS.aloadN X248.here hx rfl (hb hby d9_10) rfl rfl ?_
      refine XS.iloadN X248.here hx rfl (hb hby d9_11) rfl ?_
      show Steps p.tables e below (T248.setTop (mkF m 12 #[.val (.ref t1), .val (.int (1 : Int32)), .val (.ref t3), .val (.int (1 : Int32)), .val (.int (3 : Int32)), .val (.int (1 : Int32)), .val (.int c0)] [(.int (1 : Int32)), (.ref t1)])) _
      refine X248.caload hx (j := (1 : Int32)) (v := (.int c1)) (by rw [e248]; exact Ar250.1) (State.isArrayOf_alike hZ.alike Ar250.2.1) Ar250.2.2 hin250 hat250 (g := (mkF m 12 #[.val (.ref t1), .val (.int (1 : Int32)), .val (.ref t3), .val (.int (1 : Int32)), .val (.int (3 : Int32)), .val (.int (1 : Int32)), .val (.int c0)] [(.int (1 : Int32)), (.ref t1)])) rfl rfl (hb hby d9_12) _ ?_
      show Steps p.tables e below (T248.setTop (mkF m 13 #[.val (.ref t1), .val (.int (1 : Int32)), .val (.ref t3), .val (.int (1 : Int32)), .val (.int (3 : Int32)), .val (.int (1 : Int32)), .val (.int c0)] [(.int c1)])) _
      refine XS.istore X248.here hx rfl (hb hby d9_13) rfl (l' := #[.val (.ref t1), .val (.int (1 : Int32)), .val (.ref t3), .val (.int (1 : Int32)), .val (.int (3 : Int32)), .val (.int (1 : Int32)), .val (.int c1)]) rfl ?_
      refine XS.iload X248.here hx rfl (hb hby d9_15) rfl ?_
      refine XS.sipush X248.here hx rfl (hb hby d9_17) ?_
      exact kt
    by_cases gt1 : (255 : Int32) < c1
    · skip
      have pre252 : ∀ t, Steps p.tables e below (T248.setTop (mkF m 25 #[.val (.ref t1), .val (.int (1 : Int32)), .val (.ref t3), .val (.int (1 : Int32)), .val (.int (3 : Int32)), .val (.int (1 : Int32)), .val (.int c1)] [(.int (1 : Int32))])) t → Steps p.tables e below (T248.setTop (mkF m 20 #[.val (.ref t1), .val (.int (1 : Int32)), .val (.ref t3), .val (.int (1 : Int32)), .val (.int (3 : Int32)), .val (.int (1 : Int32)), .val (.int c1)] [(.int (255 : Int32)), (.int c1)])) t := by
        intro t kt
        refine XS.icmpNo X248.here hx rfl (hb hby d9_20) rfl (tlt (gt1 : (255 : Int32) < c1)).2.2.2 ?_
        show Steps p.tables e below (T248.setTop (mkF m 23 #[.val (.ref t1), .val (.int (1 : Int32)), .val (.ref t3), .val (.int (1 : Int32)), .val (.int (3 : Int32)), .val (.int (1 : Int32)), .val (.int c1)] [])) _
        refine XS.iload X248.here hx rfl (hb hby d9_23) rfl ?_
        exact kt
      obtain ⟨fs, hr, hrun, hended, hW, hsame⟩ := X248.leave (v := some (.int (1 : Int32))) (fun h => by rw [Bd.returns] at h; cases h)
      refine ⟨_, _, (pre0 _ (pre245 _ (pre251 _ (pre252 _ ?_)))), hrun, hended, _, _, rfl, ?_, ⟨_, rfl⟩, hW, hsame.mono (by decide) (by decide)⟩
      · show Steps p.tables e below (T248.setTop (mkF m 25 #[.val (.ref t1), .val (.int (1 : Int32)), .val (.ref t3), .val (.int (1 : Int32)), .val (.int (3 : Int32)), .val (.int (1 : Int32)), .val (.int c1)] [(.int (1 : Int32))])) _
        exact retOut X248 hx (t := .int) Bd.returns rfl (Or.inl ⟨rfl, Or.inl rfl, _, rfl⟩) (hb hby d9_25) hr
      · show QCp3 Z t1 kc t3 k3 c0 c1 c2 h0 n0 _ T248.heap _
        rw [e248]
        exact ⟨1, rfl, N248, K248, Or.inr ⟨by decide, gt1⟩⟩
    · skip
      obtain ⟨c253, Ar253, q253, S253, M253, H253, G253⟩ := id V248
      have hin253 : ¬ ((1 : Int32) < 0 ∨ c253.slots.size ≤ ((1 : Int32)).toNatClampNeg) := inb_of S253 ⟨by decide, by decide⟩
      obtain ⟨T254, h254, X254, e254, W254, st254⟩ := stB X248 hx hZ e248 Ar253 (j := (1 : Int32)) hin253 (g := (mkF m 31 #[.val (.ref t1), .val (.int (1 : Int32)), .val (.ref t3), .val (.int (1 : Int32)), .val (.int (3 : Int32)), .val (.int (1 : Int32)), .val (.int c1)] [(.int (c1.toInt8.toInt32)), (.int (1 : Int32)), (.ref t3)])) rfl rfl (hb hby d9_31)
      have N254 := Fr.snoc X254 N248 g_t3
      have K254 := K248.wr W254 (Or.inl mem_t3)
      have V254 : Arv Z h254 t3 k3 .byte (3 : Int32) [(.int (nar .byte (c0.toInt8.toInt32))), (.int (nar .byte (c1.toInt8.toInt32))), (.int (0 : Int32))] (.int (0 : Int32)) := Arv.set Ar253 q253 S253 M253 H253 G253 (fits_nar_byte _) W254 1 rfl (Nat.le_of_ble_eq_true rfl)
      have f255 := (f249.other W254 ne_t1_t3)
      obtain ⟨c256, Ar256, q256, S256, M256, H256, G256⟩ := id f255
      have hin256 : ¬ ((2 : Int32) < 0 ∨ c256.slots.size ≤ ((2 : Int32)).toNatClampNeg) := inb_of S256 ⟨by decide, by decide⟩
      have hat256 : c256.slots[((2 : Int32)).toNatClampNeg]? = some (.int c2) := (H256 _ (Nat.lt_of_not_le fun y => hin256 (Or.inr y))).trans rfl
      have pre257 : ∀ t, Steps p.tables e below (T254.setTop (mkF m 20 #[.val (.ref t1), .val (.int (2 : Int32)), .val (.ref t3), .val (.int (2 : Int32)), .val (.int (3 : Int32)), .val (.int (2 : Int32)), .val (.int c2)] [(.int (255 : Int32)), (.int c2)])) t → Steps p.tables e below (T248.setTop (mkF m 20 #[.val (.ref t1), .val (.int (1 : Int32)), .val (.ref t3), .val (.int (1 : Int32)), .val (.int (3 : Int32)), .val (.int (1 : Int32)), .val (.int c1)] [(.int (255 : Int32)), (.int c1)])) t := by
        intro t kt
        refine XS.icmpYes X248.here hx rfl (pc0 := 20) (pc' := 26) rfl (hb hby d9_20) rfl (flt (gt1 : ¬ ((255 : Int32) < c1))).2.2.2 (by decide) (by decide) ?_
        show Steps p.tables e below (T248.setTop (mkF m 26 #[.val (.ref t1), .val (.int (1 : Int32)), .val (.ref t3), .val (.int (1 : Int32)), .val (.int (3 : Int32)), .val (.int (1 : Int32)), .val (.int c1)] [])) _
        refine XS.aloadN X248.here hx rfl (hb hby d9_26) rfl rfl ?_
        refine XS.iloadN X248.here hx rfl (hb hby d9_27) rfl ?_
        refine XS.iload X248.here hx rfl (hb hby d9_28) rfl ?_
        refine XS.i2b X248.here hx rfl (hb hby d9_30) rfl ?_
        show Steps p.tables e below (T248.setTop (mkF m 31 #[.val (.ref t1), .val (.int (1 : Int32)), .val (.ref t3), .val (.int (1 : Int32)), .val (.int (3 : Int32)), .val (.int (1 : Int32)), .val (.int c1)] [(.int (c1.toInt8.toInt32)), (.int (1 : Int32)), (.ref t3)])) _
        refine st254 _ ?_
        show Steps p.tables e below (T254.setTop (mkF m 32 #[.val (.ref t1), .val (.int (1 : Int32)), .val (.ref t3), .val (.int (1 : Int32)), .val (.int (3 : Int32)), .val (.int (1 : Int32)), .val (.int c1)] [])) _
        refine XS.iinc X254.here hx rfl (hb hby d9_32) rfl (l' := #[.val (.ref t1), .val (.int ((1 : Int32) + (1 : Int32))), .val (.ref t3), .val (.int (1 : Int32)), .val (.int (3 : Int32)), .val (.int (1 : Int32)), .val (.int c1)]) rfl ?_
        refine XS.iinc X254.here hx rfl (hb hby d9_35) rfl (l' := #[.val (.ref t1), .val (.int ((1 : Int32) + (1 : Int32))), .val (.ref t3), .val (.int ((1 : Int32) + (1 : Int32))), .val (.int (3 : Int32)), .val (.int (1 : Int32)), .val (.int c1)]) rfl ?_
        refine XS.iinc X254.here hx rfl (hb hby d9_38) rfl (l' := #[.val (.ref t1), .val (.int ((1 : Int32) + (1 : Int32))), .val (.ref t3), .val (.int ((1 : Int32) + (1 : Int32))), .val (.int (3 : Int32)), .val (.int ((1 : Int32) + (1 : Int32))), .val (.int c1)]) rfl ?_
        show Steps p.tables e below (T254.setTop (mkF m 41 #[.val (.ref t1), .val (.int ((1 : Int32) + (1 : Int32))), .val (.ref t3), .val (.int ((1 : Int32) + (1 : Int32))), .val (.int (3 : Int32)), .val (.int ((1 : Int32) + (1 : Int32))), .val (.int c1)] [])) _
        rw [show ((1 : Int32) + (1 : Int32)) = (2 : Int32) from by decide]
        show Steps p.tables e below (T254.setTop (mkF m 41 #[.val (.ref t1), .val (.int (2 : Int32)), .val (.ref t3), .val (.int (2 : Int32)), .val (.int (3 : Int32)), .val (.int (2 : Int32)), .val (.int c1)] [])) _
        refine XS.goto X254.here hx rfl (pc0 := 41) (pc' := 3) rfl (hb hby d9_41) (by decide) (by decide) ?_
        show Steps p.tables e below (T254.setTop (mkF m 3 #[.val (.ref t1), .val (.int (2 : Int32)), .val (.ref t3), .val (.int (2 : Int32)), .val (.int (3 : Int32)), .val (.int (2 : Int32)), .val (.int c1)] [])) _
        refine XS.iload X254.here hx rfl (hb hby d9_3) rfl ?_
        refine XS.iload X254.here hx rfl (hb hby d9_5) rfl ?_
        refine XS.icmpNo X254.here hx rfl (hb hby d9_7) rfl (tlt (by decide : (2 : Int32) < (3 : Int32))).2.1 ?_
        show Steps p.tables e below (T254.setTop (mkF m 10 #[.val (.ref t1), .val (.int (2 : Int32)), .val (.ref t3), .val (.int (2 : Int32)), .val (.int (3 : Int32)), .val (.int (2 : Int32)), .val (.int c1)] [])) _
        refine XS.aloadN X254.here hx rfl (hb hby d9_10) rfl rfl ?_
        refine XS.iloadN X254.here hx rfl (hb hby d9_11) rfl ?_
        show Steps p.tables e below (T254.setTop (mkF m 12 #[.val (.ref t1), .val (.int (2 : Int32)), .val (.ref t3), .val (.int (2 : Int32)), .val (.int (3 : Int32)), .val (.int (2 : Int32)), .val (.int c1)] [(.int (2 : Int32)), (.ref t1)])) _
        refine X254.caload hx (j := (2 : Int32)) (v := (.int c2)) (by rw [e254]; exact Ar256.1) (State.isArrayOf_alike hZ.alike Ar256.2.1) Ar256.2.2 hin256 hat256 (g := (mkF m 12 #[.val (.ref t1), .val (.int (2 : Int32)), .val (.ref t3), .val (.int (2 : Int32)), .val (.int (3 : Int32)), .val (.int (2 : Int32)), .val (.int c1)] [(.int (2 : Int32)), (.ref t1)])) rfl rfl (hb hby d9_12) _ ?_
        show Steps p.tables e below (T254.setTop (mkF m 13 #[.val (.ref t1), .val (.int (2 : Int32)), .val (.ref t3), .val (.int (2 : Int32)), .val (.int (3 : Int32)), .val (.int (2 : Int32)), .val (.int c1)] [(.int c2)])) _
        refine XS.istore X254.here hx rfl (hb hby d9_13) rfl (l' := #[.val (.ref t1), .val (.int (2 : Int32)), .val (.ref t3), .val (.int (2 : Int32)), .val (.int (3 : Int32)), .val (.int (2 : Int32)), .val (.int c2)]) rfl ?_
        refine XS.iload X254.here hx rfl (hb hby d9_15) rfl ?_
        refine XS.sipush X254.here hx rfl (hb hby d9_17) ?_
        exact kt
      by_cases gt2 : (255 : Int32) < c2
      · skip
        have pre258 : ∀ t, Steps p.tables e below (T254.setTop (mkF m 25 #[.val (.ref t1), .val (.int (2 : Int32)), .val (.ref t3), .val (.int (2 : Int32)), .val (.int (3 : Int32)), .val (.int (2 : Int32)), .val (.int c2)] [(.int (2 : Int32))])) t → Steps p.tables e below (T254.setTop (mkF m 20 #[.val (.ref t1), .val (.int (2 : Int32)), .val (.ref t3), .val (.int (2 : Int32)), .val (.int (3 : Int32)), .val (.int (2 : Int32)), .val (.int c2)] [(.int (255 : Int32)), (.int c2)])) t := by
          intro t kt
          refine XS.icmpNo X254.here hx rfl (hb hby d9_20) rfl (tlt (gt2 : (255 : Int32) < c2)).2.2.2 ?_
          show Steps p.tables e below (T254.setTop (mkF m 23 #[.val (.ref t1), .val (.int (2 : Int32)), .val (.ref t3), .val (.int (2 : Int32)), .val (.int (3 : Int32)), .val (.int (2 : Int32)), .val (.int c2)] [])) _
          refine XS.iload X254.here hx rfl (hb hby d9_23) rfl ?_
          exact kt
        obtain ⟨fs, hr, hrun, hended, hW, hsame⟩ := X254.leave (v := some (.int (2 : Int32))) (fun h => by rw [Bd.returns] at h; cases h)
        refine ⟨_, _, (pre0 _ (pre245 _ (pre251 _ (pre257 _ (pre258 _ ?_))))), hrun, hended, _, _, rfl, ?_, ⟨_, rfl⟩, hW, hsame.mono (by decide) (by decide)⟩
        · show Steps p.tables e below (T254.setTop (mkF m 25 #[.val (.ref t1), .val (.int (2 : Int32)), .val (.ref t3), .val (.int (2 : Int32)), .val (.int (3 : Int32)), .val (.int (2 : Int32)), .val (.int c2)] [(.int (2 : Int32))])) _
          exact retOut X254 hx (t := .int) Bd.returns rfl (Or.inl ⟨rfl, Or.inl rfl, _, rfl⟩) (hb hby d9_25) hr
        · show QCp3 Z t1 kc t3 k3 c0 c1 c2 h0 n0 _ T254.heap _
          rw [e254]
          exact ⟨2, rfl, N254, K254, Or.inr ⟨by decide, gt2⟩⟩
      · skip
        obtain ⟨c259, Ar259, q259, S259, M259, H259, G259⟩ := id V254
        have hin259 : ¬ ((2 : Int32) < 0 ∨ c259.slots.size ≤ ((2 : Int32)).toNatClampNeg) := inb_of S259 ⟨by decide, by decide⟩
        obtain ⟨T260, h260, X260, e260, W260, st260⟩ := stB X254 hx hZ e254 Ar259 (j := (2 : Int32)) hin259 (g := (mkF m 31 #[.val (.ref t1), .val (.int (2 : Int32)), .val (.ref t3), .val (.int (2 : Int32)), .val (.int (3 : Int32)), .val (.int (2 : Int32)), .val (.int c2)] [(.int (c2.toInt8.toInt32)), (.int (2 : Int32)), (.ref t3)])) rfl rfl (hb hby d9_31)
        have N260 := Fr.snoc X260 N254 g_t3
        have K260 := K254.wr W260 (Or.inl mem_t3)
        have V260 : Arv Z h260 t3 k3 .byte (3 : Int32) [(.int (nar .byte (c0.toInt8.toInt32))), (.int (nar .byte (c1.toInt8.toInt32))), (.int (nar .byte (c2.toInt8.toInt32)))] (.int (0 : Int32)) := Arv.set Ar259 q259 S259 M259 H259 G259 (fits_nar_byte _) W260 2 rfl (Nat.le_of_ble_eq_true rfl)
        have pre261 : ∀ t, Steps p.tables e below (T260.setTop (mkF m 46 #[.val (.ref t1), .val (.int (3 : Int32)), .val (.ref t3), .val (.int (3 : Int32)), .val (.int (3 : Int32)), .val (.int (3 : Int32)), .val (.int c2)] [(.int (3 : Int32))])) t → Steps p.tables e below (T254.setTop (mkF m 20 #[.val (.ref t1), .val (.int (2 : Int32)), .val (.ref t3), .val (.int (2 : Int32)), .val (.int (3 : Int32)), .val (.int (2 : Int32)), .val (.int c2)] [(.int (255 : Int32)), (.int c2)])) t := by
          intro t kt
          refine XS.icmpYes X254.here hx rfl (pc0 := 20) (pc' := 26) rfl (hb hby d9_20) rfl (flt (gt2 : ¬ ((255 : Int32) < c2))).2.2.2 (by decide) (by decide) ?_
          show Steps p.tables e below (T254.setTop (mkF m 26 #[.val (.ref t1), .val (.int (2 : Int32)), .val (.ref t3), .val (.int (2 : Int32)), .val (.int (3 : Int32)), .val (.int (2 : Int32)), .val (.int c2)] [])) _
          refine XS.aloadN X254.here hx rfl (hb hby d9_26) rfl rfl ?_
          refine XS.iloadN X254.here hx rfl (hb hby d9_27) rfl ?_
          refine XS.iload X254.here hx rfl (hb hby d9_28) rfl ?_
          refine XS.i2b X254.here hx rfl (hb hby d9_30) rfl ?_
          show Steps p.tables e below (T254.setTop (mkF m 31 #[.val (.ref t1), .val (.int (2 : Int32)), .val (.ref t3), .val (.int (2 : Int32)), .val (.int (3 : Int32)), .val (.int (2 : Int32)), .val (.int c2)] [(.int (c2.toInt8.toInt32)), (.int (2 : Int32)), (.ref t3)])) _
          refine st260 _ ?_
          show Steps p.tables e below (T260.setTop (mkF m 32 #[.val (.ref t1), .val (.int (2 : Int32)), .val (.ref t3), .val (.int (2 : Int32)), .val (.int (3 : Int32)), .val (.int (2 : Int32)), .val (.int c2)] [])) _
          refine XS.iinc X260.here hx rfl (hb hby d9_32) rfl (l' := #[.val (.ref t1), .val (.int ((2 : Int32) + (1 : Int32))), .val (.ref t3), .val (.int (2 : Int32)), .val (.int (3 : Int32)), .val (.int (2 : Int32)), .val (.int c2)]) rfl ?_
          refine XS.iinc X260.here hx rfl (hb hby d9_35) rfl (l' := #[.val (.ref t1), .val (.int ((2 : Int32) + (1 : Int32))), .val (.ref t3), .val (.int ((2 : Int32) + (1 : Int32))), .val (.int (3 : Int32)), .val (.int (2 : Int32)), .val (.int c2)]) rfl ?_
          refine XS.iinc X260.here hx rfl (hb hby d9_38) rfl (l' := #[.val (.ref t1), .val (.int ((2 : Int32) + (1 : Int32))), .val (.ref t3), .val (.int ((2 : Int32) + (1 : Int32))), .val (.int (3 : Int32)), .val (.int ((2 : Int32) + (1 : Int32))), .val (.int c2)]) rfl ?_
          show Steps p.tables e below (T260.setTop (mkF m 41 #[.val (.ref t1), .val (.int ((2 : Int32) + (1 : Int32))), .val (.ref t3), .val (.int ((2 : Int32) + (1 : Int32))), .val (.int (3 : Int32)), .val (.int ((2 : Int32) + (1 : Int32))), .val (.int c2)] [])) _
          rw [show ((2 : Int32) + (1 : Int32)) = (3 : Int32) from by decide]
          show Steps p.tables e below (T260.setTop (mkF m 41 #[.val (.ref t1), .val (.int (3 : Int32)), .val (.ref t3), .val (.int (3 : Int32)), .val (.int (3 : Int32)), .val (.int (3 : Int32)), .val (.int c2)] [])) _
          refine XS.goto X260.here hx rfl (pc0 := 41) (pc' := 3) rfl (hb hby d9_41) (by decide) (by decide) ?_
          show Steps p.tables e below (T260.setTop (mkF m 3 #[.val (.ref t1), .val (.int (3 : Int32)), .val (.ref t3), .val (.int (3 : Int32)), .val (.int (3 : Int32)), .val (.int (3 : Int32)), .val (.int c2)] [])) _
          refine XS.iload X260.here hx rfl (hb hby d9_3) rfl ?_
          refine XS.iload X260.here hx rfl (hb hby d9_5) rfl ?_
          refine XS.icmpYes X260.here hx rfl (pc0 := 7) (pc' := 44) rfl (hb hby d9_7) rfl (flt (by decide : ¬ ((3 : Int32) < (3 : Int32)))).2.1 (by decide) (by decide) ?_
          show Steps p.tables e below (T260.setTop (mkF m 44 #[.val (.ref t1), .val (.int (3 : Int32)), .val (.ref t3), .val (.int (3 : Int32)), .val (.int (3 : Int32)), .val (.int (3 : Int32)), .val (.int c2)] [])) _
          refine XS.iload X260.here hx rfl (hb hby d9_44) rfl ?_
          exact kt
        obtain ⟨fs, hr, hrun, hended, hW, hsame⟩ := X260.leave (v := some (.int (3 : Int32))) (fun h => by rw [Bd.returns] at h; cases h)
        refine ⟨_, _, (pre0 _ (pre245 _ (pre251 _ (pre257 _ (pre261 _ ?_))))), hrun, hended, _, _, rfl, ?_, ⟨_, rfl⟩, hW, hsame.mono (by decide) (by decide)⟩
        · show Steps p.tables e below (T260.setTop (mkF m 46 #[.val (.ref t1), .val (.int (3 : Int32)), .val (.ref t3), .val (.int (3 : Int32)), .val (.int (3 : Int32)), .val (.int (3 : Int32)), .val (.int c2)] [(.int (3 : Int32))])) _
          exact retOut X260 hx (t := .int) Bd.returns rfl (Or.inl ⟨rfl, Or.inl rfl, _, rfl⟩) (hb hby d9_46) hr
        · show QCp3 Z t1 kc t3 k3 c0 c1 c2 h0 n0 _ T260.heap _
          rw [e260]
          exact ⟨3, rfl, N260, K260, Or.inl ⟨rfl, V260, gt0, gt1, gt2⟩⟩
theorem ef_TB3 (m : MethodId) (x0 : Addr) (x1 : Int32) (x2 : Int32) : entryFrame m #[(.ref x0), (.int x1), (.int x2)] 5 = mkF m 0 #[.val (.ref x0), .val (.int x1), .val (.int x2), .unset, .unset] [] := by (first | (simp [entryFrame, mkF, argsToLocals, Value.category]; done) | rfl)
def QTB3 (Z : State) (t1 : Addr) (kc : ClassId) (c0 : Int32) (c1 : Int32) (c2 : Int32) (zc : Int32) (h0 : Heap) (n0 : Nat) (v : Option Value) (h : Heap) (L : List Loc) : Prop := ∃ x2, v = some (.ref x2) ∧ Fr n0 L ∧ Ext h0 h ∧ h0.size ≤ x2 ∧ ∃ (k2 : ClassId), Arv Z h x2 k2 .byte (Int32.ofNat (2 * 3)) ([c0, c1, c2].flatMap own_U) (.int (0 : Int32))
set_option maxRecDepth 65536 in
set_option maxHeartbeats 40000000 in
theorem rmTB3 (l : Launch) (Z : State) (a0 : Array Value) (hw : ∀ d ∈ tables_1, d.before a0 Z = true) (ws : List Jvm.Cond) (t1 : Addr) (kc : ClassId) (c0 : Int32) (c1 : Int32) (c2 : Int32) (zc : Int32) (h0 : Heap) (n0 : Nat) (Z0 : n0 ≤ h0.size) (KT : Arv Z h0 t1 kc .char (3 : Int32) [(.int c0), (.int c1), (.int c2)] (.int (0 : Int32))) (OZ : Old Z n0 h0) (SC : Sta Z Z.heap "java/lang/String" "COMPACT_STRINGS" "Z" (.int zc)) (hzc : ¬ zc = (0 : Int32)) (SA : Sta Z Z.heap "java/lang/StringUTF16" "$assertionsDisabled" "Z" (.int (1 : Int32))) (SH : Sta Z Z.heap "java/lang/StringUTF16" "HI_BYTE_SHIFT" "I" (.int (0 : Int32))) (SL : Sta Z Z.heap "java/lang/StringUTF16" "LO_BYTE_SHIFT" "I" (.int (8 : Int32))) :
    MetFree l (⟨"java/lang/StringUTF16", "toBytes", "([CII)[B"⟩ : MethodName) (head1 (Jvm.Cond.code (⟨"java/lang/StringUTF16", "toBytes", "([CII)[B"⟩ : MethodName) jdk_52_method_14_code 5 (some (.array .byte)) :: ws) ({ frames := 2, cells := 1, slots := 10, locals := 27 } : Room)) (fun a U => a = #[(.ref t1), (.int (0 : Int32)), (.int (3 : Int32))] ∧ Z.Warmed39 U.vm ∧ U.heap = h0) (fun _ _ _ _ _ => True) (fun _ U o U' => ∃ v L, o = .returned v ∧ QTB3 Z t1 kc c0 c1 c2 zc h0 n0 v U'.heap L ∧ FrameEnd U o U' L ({ frames := 2, cells := 1, slots := 10, locals := 27 } : Room).cells ({ frames := 2, cells := 1, slots := 10, locals := 27 } : Room).slots) := by
  refine MetFree.of_bodySF (plainFor_of_name pn_java_lang_StringUTF16) hisR ?_
  intro p e s m args below meth c s₁ Bd hml0 hP hK
  obtain ⟨rfl, hZ, hh⟩ := hP
  have hx := Bd.exec
  have hby := Bd.bytes
  have hml : c.maxLocals = 5 := hml0
  have hown : s.vm.findClass "java/lang/StringUTF16" = some m.cls := findClass_of_methodNamed Bd.named
  have hnm := (name_of_methodNamed Bd.named Bd.method).1
  have X0 : Stand p l e ({ frames := 2, cells := 1, slots := 10, locals := 27 } : Room) s m #[(.ref t1), (.int (0 : Int32)), (.int (3 : Int32))] below meth c s₁ [] 0 0 := Stand.of_body Bd
  have e0 : s₁.heap = h0 := by rw [← hh, Bd.state]; rfl
  have N0 := Fr.nil n0
  have pre0 : ∀ t, Steps p.tables e below (s₁.setTop (mkF m 0 #[.val (.ref t1), .val (.int (0 : Int32)), .val (.int (3 : Int32)), .unset, .unset] [])) t → Steps p.tables e below (s₁.setTop (entryFrame m #[(.ref t1), (.int (0 : Int32)), (.int (3 : Int32))] 5)) t := fun t k => castTop (ef_TB3 m t1 (0 : Int32) (3 : Int32)) k
  obtain ⟨_, _, ⟨T262, L262, k262, n262⟩, -, X262, ⟨Lc262, hQ262, l262, y262, z262⟩, st262⟩ := Jvm.LawKit.callS X0 hx (y := (⟨"java/lang/StringUTF16", "newBytesFor", "(I)[B"⟩ : MethodName)) hown (mvT hZ (tw hw 84 rfl)) (mvT hZ (tw hw 85 rfl)) (mvT hZ (tw hw 45 rfl)) (mvT hZ (tw hw 86 rfl)) (by decide) (backOf (W := 0) (rmNBF l Z a0 hw [] 3 h0 n0 Z0 (by decide)) hZ (tw hw 86 rfl) (tw hw 45 rfl) (by decide) (by decide)) (g := (mkF m 1 #[.val (.ref t1), .val (.int (0 : Int32)), .val (.int (3 : Int32)), .unset, .unset] [(.int (3 : Int32))])) rfl (by rw [hml]; rfl) (argsL := [(.int (3 : Int32))]) (rest := []) (lenOf pd__I__B rfl) rfl (by show 2 * 0 + _ ≤ _; exact Nat.le_of_eq rfl) (hb hby d18_1) (fun _ _ => ⟨rfl, e0, (by decide : 0 + 1 ≤ _), (by decide : 0 + 10 ≤ _)⟩)
  dsimp only [Pt.U, Pt.locs, Pt.cells, Pt.slots] at X262 l262 y262 z262 st262 hQ262
  subst l262 y262 z262
  obtain ⟨t3, rfl, N262q, EX262, le3, k3, V3⟩ := hQ262
  have N262 := Fr.app N0 N262q
  have g_t3 : n0 ≤ t3 := Nat.le_trans Z0 le3
  have sz_t3 : h0.size ≤ t3 := Nat.le_trans (Keep.refl h0 []).1 le3
  have ne_t1_t3 : t1 ≠ t3 := Nat.ne_of_lt (Nat.lt_of_lt_of_le KT.lt le3)
  have Z262 := Nat.le_trans Z0 EX262.1
  have K262 := (Keep.refl h0 []).ext EX262
  have VA0 : Arv Z T262.heap t3 k3 .byte (Int32.ofNat (2 * 3)) [(.int (0 : Int32)), (.int (0 : Int32)), (.int (0 : Int32)), (.int (0 : Int32)), (.int (0 : Int32)), (.int (0 : Int32))] (.int (0 : Int32)) := V3
  have f263 := (KT.ext EX262)
  obtain ⟨c264, Ar264, q264, S264, M264, H264, G264⟩ := id f263
  have hin264 : ¬ ((0 : Int32) < 0 ∨ c264.slots.size ≤ ((0 : Int32)).toNatClampNeg) := inb_of S264 ⟨by decide, by decide⟩
  have hat264 : c264.slots[((0 : Int32)).toNatClampNeg]? = some (.int c0) := (H264 _ (Nat.lt_of_not_le fun y => hin264 (Or.inr y))).trans rfl
  have f265 := (OZ.ext EX262)
  obtain ⟨_, _, ⟨T266, L266, k266, n266⟩, -, X266, ⟨Lc266, hQ266, l266, y266, z266⟩, st266⟩ := Jvm.LawKit.callS X262 hx (y := (⟨"java/lang/StringUTF16", "putChar", "([BII)V"⟩ : MethodName)) hown (mvT hZ (tw hw 91 rfl)) (mvT hZ (tw hw 92 rfl)) (mvT hZ (tw hw 45 rfl)) (mvT hZ (tw hw 93 rfl)) (by decide) (backOf (W := 0) (rmPutC l Z a0 hw [] t3 k3 3 [(.int (0 : Int32)), (.int (0 : Int32)), (.int (0 : Int32)), (.int (0 : Int32)), (.int (0 : Int32)), (.int (0 : Int32))] 0 c0 T262.heap n0 Z262 (SA.ext f265.2) (SH.ext f265.2) (SL.ext f265.2) VA0 (by decide) (by decide) rfl g_t3) hZ (tw hw 93 rfl) (tw hw 45 rfl) (by decide) (by decide)) (g := (mkF m 20 #[.val (.ref t1), .val (.int (0 : Int32)), .val (.int (3 : Int32)), .val (.ref t3), .val (.int (0 : Int32))] [(.int c0), (.int (0 : Int32)), (.ref t3)])) rfl (by rw [hml]; rfl) (argsL := [(.ref t3), (.int (0 : Int32)), (.int c0)]) (rest := []) (lenOf pd___BII_V rfl) rfl (by show 2 * 0 + _ ≤ _; exact Nat.le_of_eq rfl) (hb hby d18_20) (fun _ _ => ⟨rfl, rfl, (by decide : 1 + 0 ≤ _), (by decide : 10 + 0 ≤ _)⟩)
  dsimp only [Pt.U, Pt.locs, Pt.cells, Pt.slots] at X266 l266 y266 z266 st266 hQ266
  subst l266 y266 z266
  obtain ⟨rfl, N266q, KC266, PV0⟩ := hQ266
  have N266 := Fr.app N262 N266q
  have Z266 := Nat.le_trans Z262 KC266.1
  have K266 := K262.trans KC266 (allS (Or.inr sz_t3) all0)
  have VA1 : Arv Z T266.heap t3 k3 .byte (Int32.ofNat (2 * 3)) [(.int (nar .byte ((c0 >>> ((0 : Int32) &&& 31)).toInt8.toInt32))), (.int (nar .byte ((c0 >>> ((8 : Int32) &&& 31)).toInt8.toInt32))), (.int (0 : Int32)), (.int (0 : Int32)), (.int (0 : Int32)), (.int (0 : Int32))] (.int (0 : Int32)) := PV0
  have f267 := (f263.keep KC266 (ninS ne_t1_t3 nin0))
  obtain ⟨c268, Ar268, q268, S268, M268, H268, G268⟩ := id f267
  have hin268 : ¬ ((1 : Int32) < 0 ∨ c268.slots.size ≤ ((1 : Int32)).toNatClampNeg) := inb_of S268 ⟨by decide, by decide⟩
  have hat268 : c268.slots[((1 : Int32)).toNatClampNeg]? = some (.int c1) := (H268 _ (Nat.lt_of_not_le fun y => hin268 (Or.inr y))).trans rfl
  have f269 := (f265.keep KC266 (allS g_t3 all0))
  obtain ⟨_, _, ⟨T270, L270, k270, n270⟩, -, X270, ⟨Lc270, hQ270, l270, y270, z270⟩, st270⟩ := Jvm.LawKit.callS X266 hx (y := (⟨"java/lang/StringUTF16", "putChar", "([BII)V"⟩ : MethodName)) hown (mvT hZ (tw hw 91 rfl)) (mvT hZ (tw hw 92 rfl)) (mvT hZ (tw hw 45 rfl)) (mvT hZ (tw hw 93 rfl)) (by decide) (backOf (W := 0) (rmPutC l Z a0 hw [] t3 k3 3 [(.int (nar .byte ((c0 >>> ((0 : Int32) &&& 31)).toInt8.toInt32))), (.int (nar .byte ((c0 >>> ((8 : Int32) &&& 31)).toInt8.toInt32))), (.int (0 : Int32)), (.int (0 : Int32)), (.int (0 : Int32)), (.int (0 : Int32))] 1 c1 T266.heap n0 Z266 (SA.ext f269.2) (SH.ext f269.2) (SL.ext f269.2) VA1 (by decide) (by decide) rfl g_t3) hZ (tw hw 93 rfl) (tw hw 45 rfl) (by decide) (by decide)) (g := (mkF m 20 #[.val (.ref t1), .val (.int (1 : Int32)), .val (.int (3 : Int32)), .val (.ref t3), .val (.int (1 : Int32))] [(.int c1), (.int (1 : Int32)), (.ref t3)])) rfl (by rw [hml]; rfl) (argsL := [(.ref t3), (.int (1 : Int32)), (.int c1)]) (rest := []) (lenOf pd___BII_V rfl) rfl (by show 2 * 0 + _ ≤ _; exact Nat.le_of_eq rfl) (hb hby d18_20) (fun _ _ => ⟨rfl, rfl, (by decide : 1 + 0 ≤ _), (by decide : 10 + 0 ≤ _)⟩)
  dsimp only [Pt.U, Pt.locs, Pt.cells, Pt.slots] at X270 l270 y270 z270 st270 hQ270
  subst l270 y270 z270
  obtain ⟨rfl, N270q, KC270, PV1⟩ := hQ270
  have N270 := Fr.app N266 N270q
  have Z270 := Nat.le_trans Z266 KC270.1
  have K270 := K266.trans KC270 (allS (Or.inr sz_t3) all0)
  have VA2 : Arv Z T270.heap t3 k3 .byte (Int32.ofNat (2 * 3)) [(.int (nar .byte ((c0 >>> ((0 : Int32) &&& 31)).toInt8.toInt32))), (.int (nar .byte ((c0 >>> ((8 : Int32) &&& 31)).toInt8.toInt32))), (.int (nar .byte ((c1 >>> ((0 : Int32) &&& 31)).toInt8.toInt32))), (.int (nar .byte ((c1 >>> ((8 : Int32) &&& 31)).toInt8.toInt32))), (.int (0 : Int32)), (.int (0 : Int32))] (.int (0 : Int32)) := PV1
  have f271 := (f267.keep KC270 (ninS ne_t1_t3 nin0))
  obtain ⟨c272, Ar272, q272, S272, M272, H272, G272⟩ := id f271
  have hin272 : ¬ ((2 : Int32) < 0 ∨ c272.slots.size ≤ ((2 : Int32)).toNatClampNeg) := inb_of S272 ⟨by decide, by decide⟩
  have hat272 : c272.slots[((2 : Int32)).toNatClampNeg]? = some (.int c2) := (H272 _ (Nat.lt_of_not_le fun y => hin272 (Or.inr y))).trans rfl
  have f273 := (f269.keep KC270 (allS g_t3 all0))
  obtain ⟨_, _, ⟨T274, L274, k274, n274⟩, -, X274, ⟨Lc274, hQ274, l274, y274, z274⟩, st274⟩ := Jvm.LawKit.callS X270 hx (y := (⟨"java/lang/StringUTF16", "putChar", "([BII)V"⟩ : MethodName)) hown (mvT hZ (tw hw 91 rfl)) (mvT hZ (tw hw 92 rfl)) (mvT hZ (tw hw 45 rfl)) (mvT hZ (tw hw 93 rfl)) (by decide) (backOf (W := 0) (rmPutC l Z a0 hw [] t3 k3 3 [(.int (nar .byte ((c0 >>> ((0 : Int32) &&& 31)).toInt8.toInt32))), (.int (nar .byte ((c0 >>> ((8 : Int32) &&& 31)).toInt8.toInt32))), (.int (nar .byte ((c1 >>> ((0 : Int32) &&& 31)).toInt8.toInt32))), (.int (nar .byte ((c1 >>> ((8 : Int32) &&& 31)).toInt8.toInt32))), (.int (0 : Int32)), (.int (0 : Int32))] 2 c2 T270.heap n0 Z270 (SA.ext f273.2) (SH.ext f273.2) (SL.ext f273.2) VA2 (by decide) (by decide) rfl g_t3) hZ (tw hw 93 rfl) (tw hw 45 rfl) (by decide) (by decide)) (g := (mkF m 20 #[.val (.ref t1), .val (.int (2 : Int32)), .val (.int (3 : Int32)), .val (.ref t3), .val (.int (2 : Int32))] [(.int c2), (.int (2 : Int32)), (.ref t3)])) rfl (by rw [hml]; rfl) (argsL := [(.ref t3), (.int (2 : Int32)), (.int c2)]) (rest := []) (lenOf pd___BII_V rfl) rfl (by show 2 * 0 + _ ≤ _; exact Nat.le_of_eq rfl) (hb hby d18_20) (fun _ _ => ⟨rfl, rfl, (by decide : 1 + 0 ≤ _), (by decide : 10 + 0 ≤ _)⟩)
  dsimp only [Pt.U, Pt.locs, Pt.cells, Pt.slots] at X274 l274 y274 z274 st274 hQ274
  subst l274 y274 z274
  obtain ⟨rfl, N274q, KC274, PV2⟩ := hQ274
  have N274 := Fr.app N270 N274q
  have K274 := K270.trans KC274 (allS (Or.inr sz_t3) all0)
  have VA3 : Arv Z T274.heap t3 k3 .byte (Int32.ofNat (2 * 3)) [(.int (nar .byte ((c0 >>> ((0 : Int32) &&& 31)).toInt8.toInt32))), (.int (nar .byte ((c0 >>> ((8 : Int32) &&& 31)).toInt8.toInt32))), (.int (nar .byte ((c1 >>> ((0 : Int32) &&& 31)).toInt8.toInt32))), (.int (nar .byte ((c1 >>> ((8 : Int32) &&& 31)).toInt8.toInt32))), (.int (nar .byte ((c2 >>> ((0 : Int32) &&& 31)).toInt8.toInt32))), (.int (nar .byte ((c2 >>> ((8 : Int32) &&& 31)).toInt8.toInt32)))] (.int (0 : Int32)) := PV2
  have pre275 : ∀ t, Steps p.tables e below (T274.setTop (mkF m 33 #[.val (.ref t1), .val (.int (3 : Int32)), .val (.int (3 : Int32)), .val (.ref t3), .val (.int (3 : Int32))] [(.ref t3)])) t → Steps p.tables e below (s₁.setTop (mkF m 0 #[.val (.ref t1), .val (.int (0 : Int32)), .val (.int (3 : Int32)), .unset, .unset] [])) t := by
    intro t kt
    show Steps p.tables e below (s₁.setTop (mkF m 0 #[.val (.ref t1), .val (.int (0 : Int32)), .val (.int (3 : Int32)), .unset, .unset] [])) _
    refine XS.iloadN X0.here hx rfl (hb hby d18_0) rfl ?_
    refine st262 _ ?_
    show Steps p.tables e below (T262.setTop (mkF m 4 #[.val (.ref t1), .val (.int (0 : Int32)), .val (.int (3 : Int32)), .unset, .unset] [(.ref t3)])) _
    refine XS.astoreN X262.here hx rfl (hb hby d18_4) rfl rfl (l' := #[.val (.ref t1), .val (.int (0 : Int32)), .val (.int (3 : Int32)), .val (.ref t3), .unset]) rfl ?_
    refine XS.iconst X262.here hx rfl (hb hby d18_5) ?_
    refine XS.istore X262.here hx rfl (hb hby d18_6) rfl (l' := #[.val (.ref t1), .val (.int (0 : Int32)), .val (.int (3 : Int32)), .val (.ref t3), .val (.int (0 : Int32))]) rfl ?_
    show Steps p.tables e below (T262.setTop (mkF m 8 #[.val (.ref t1), .val (.int (0 : Int32)), .val (.int (3 : Int32)), .val (.ref t3), .val (.int (0 : Int32))] [])) _
    refine XS.iload X262.here hx rfl (hb hby d18_8) rfl ?_
    refine XS.iloadN X262.here hx rfl (hb hby d18_10) rfl ?_
    refine XS.icmpNo X262.here hx rfl (hb hby d18_11) rfl (tlt (by decide : (0 : Int32) < (3 : Int32))).2.1 ?_
    show Steps p.tables e below (T262.setTop (mkF m 14 #[.val (.ref t1), .val (.int (0 : Int32)), .val (.int (3 : Int32)), .val (.ref t3), .val (.int (0 : Int32))] [])) _
    refine XS.aloadN X262.here hx rfl (hb hby d18_14) rfl rfl ?_
    refine XS.iload X262.here hx rfl (hb hby d18_15) rfl ?_
    refine XS.aloadN X262.here hx rfl (hb hby d18_17) rfl rfl ?_
    refine XS.iloadN X262.here hx rfl (hb hby d18_18) rfl ?_
    show Steps p.tables e below (T262.setTop (mkF m 19 #[.val (.ref t1), .val (.int (0 : Int32)), .val (.int (3 : Int32)), .val (.ref t3), .val (.int (0 : Int32))] [(.int (0 : Int32)), (.ref t1), (.int (0 : Int32)), (.ref t3)])) _
    refine X262.caload hx (j := (0 : Int32)) (v := (.int c0)) Ar264.1 (State.isArrayOf_alike hZ.alike Ar264.2.1) Ar264.2.2 hin264 hat264 (g := (mkF m 19 #[.val (.ref t1), .val (.int (0 : Int32)), .val (.int (3 : Int32)), .val (.ref t3), .val (.int (0 : Int32))] [(.int (0 : Int32)), (.ref t1), (.int (0 : Int32)), (.ref t3)])) rfl rfl (hb hby d18_19) _ ?_
    refine st266 _ ?_
    show Steps p.tables e below (T266.setTop (mkF m 23 #[.val (.ref t1), .val (.int (0 : Int32)), .val (.int (3 : Int32)), .val (.ref t3), .val (.int (0 : Int32))] [])) _
    refine XS.iinc X266.here hx rfl (hb hby d18_23) rfl (l' := #[.val (.ref t1), .val (.int ((0 : Int32) + (1 : Int32))), .val (.int (3 : Int32)), .val (.ref t3), .val (.int (0 : Int32))]) rfl ?_
    refine XS.iinc X266.here hx rfl (hb hby d18_26) rfl (l' := #[.val (.ref t1), .val (.int ((0 : Int32) + (1 : Int32))), .val (.int (3 : Int32)), .val (.ref t3), .val (.int ((0 : Int32) + (1 : Int32)))]) rfl ?_
    show Steps p.tables e below (T266.setTop (mkF m 29 #[.val (.ref t1), .val (.int ((0 : Int32) + (1 : Int32))), .val (.int (3 : Int32)), .val (.ref t3), .val (.int ((0 : Int32) + (1 : Int32)))] [])) _
    rw [show ((0 : Int32) + (1 : Int32)) = (1 : Int32) from by decide]
    show Steps p.tables e below (T266.setTop (mkF m 29 #[.val (.ref t1), .val (.int (1 : Int32)), .val (.int (3 : Int32)), .val (.ref t3), .val (.int (1 : Int32))] [])) _
    refine XS.goto X266.here hx rfl (pc0 := 29) (pc' := 8) rfl (hb hby d18_29) (by decide) (by decide) ?_
    show Steps p.tables e below (T266.setTop (mkF m 8 #[.val (.ref t1), .val (.int (1 : Int32)), .val (.int (3 : Int32)), .val (.ref t3), .val (.int (1 : Int32))] [])) _
    refine XS.iload X266.here hx rfl (hb hby d18_8) rfl ?_
    refine XS.iloadN X266.here hx rfl (hb hby d18_10) rfl ?_
    refine XS.icmpNo X266.here hx rfl (hb hby d18_11) rfl (tlt (by decide : (1 : Int32) < (3 : Int32))).2.1 ?_
    show Steps p.tables e below (T266.setTop (mkF m 14 #[.val (.ref t1), .val (.int (1 : Int32)), .val (.int (3 : Int32)), .val (.ref t3), .val (.int (1 : Int32))] [])) _
    refine XS.aloadN X266.here hx rfl (hb hby d18_14) rfl rfl ?_
    refine XS.iload X266.here hx rfl (hb hby d18_15) rfl ?_
    refine XS.aloadN X266.here hx rfl (hb hby d18_17) rfl rfl ?_
    refine XS.iloadN X266.here hx rfl (hb hby d18_18) rfl ?_
    show Steps p.tables e below (T266.setTop (mkF m 19 #[.val (.ref t1), .val (.int (1 : Int32)), .val (.int (3 : Int32)), .val (.ref t3), .val (.int (1 : Int32))] [(.int (1 : Int32)), (.ref t1), (.int (1 : Int32)), (.ref t3)])) _
    refine X266.caload hx (j := (1 : Int32)) (v := (.int c1)) Ar268.1 (State.isArrayOf_alike hZ.alike Ar268.2.1) Ar268.2.2 hin268 hat268 (g := (mkF m 19 #[.val (.ref t1), .val (.int (1 : Int32)), .val (.int (3 : Int32)), .val (.ref t3), .val (.int (1 : Int32))] [(.int (1 : Int32)), (.ref t1), (.int (1 : Int32)), (.ref t3)])) rfl rfl (hb hby d18_19) _ ?_
    refine st270 _ ?_
    show Steps p.tables e below (T270.setTop (mkF m 23 #[.val (.ref t1), .val (.int (1 : Int32)), .val (.int (3 : Int32)), .val (.ref t3), .val (.int (1 : Int32))] [])) _
    refine XS.iinc X270.here hx rfl (hb hby d18_23) rfl (l' := #[.val (.ref t1), .val (.int ((1 : Int32) + (1 : Int32))), .val (.int (3 : Int32)), .val (.ref t3), .val (.int (1 : Int32))]) rfl ?_
    refine XS.iinc X270.here hx rfl (hb hby d18_26) rfl (l' := #[.val (.ref t1), .val (.int ((1 : Int32) + (1 : Int32))), .val (.int (3 : Int32)), .val (.ref t3), .val (.int ((1 : Int32) + (1 : Int32)))]) rfl ?_
    show Steps p.tables e below (T270.setTop (mkF m 29 #[.val (.ref t1), .val (.int ((1 : Int32) + (1 : Int32))), .val (.int (3 : Int32)), .val (.ref t3), .val (.int ((1 : Int32) + (1 : Int32)))] [])) _
    rw [show ((1 : Int32) + (1 : Int32)) = (2 : Int32) from by decide]
    show Steps p.tables e below (T270.setTop (mkF m 29 #[.val (.ref t1), .val (.int (2 : Int32)), .val (.int (3 : Int32)), .val (.ref t3), .val (.int (2 : Int32))] [])) _
    refine XS.goto X270.here hx rfl (pc0 := 29) (pc' := 8) rfl (hb hby d18_29) (by decide) (by decide) ?_
    show Steps p.tables e below (T270.setTop (mkF m 8 #[.val (.ref t1), .val (.int (2 : Int32)), .val (.int (3 : Int32)), .val (.ref t3), .val (.int (2 : Int32))] [])) _
    refine XS.iload X270.here hx rfl (hb hby d18_8) rfl ?_
    refine XS.iloadN X270.here hx rfl (hb hby d18_10) rfl ?_
    refine XS.icmpNo X270.here hx rfl (hb hby d18_11) rfl (tlt (by decide : (2 : Int32) < (3 : Int32))).2.1 ?_
    show Steps p.tables e below (T270.setTop (mkF m 14 #[.val (.ref t1), .val (.int (2 : Int32)), .val (.int (3 : Int32)), .val (.ref t3), .val (.int (2 : Int32))] [])) _
    refine XS.aloadN X270.here hx rfl (hb hby d18_14) rfl rfl ?_
    refine XS.iload X270.here hx rfl (hb hby d18_15) rfl ?_
    refine XS.aloadN X270.here hx rfl (hb hby d18_17) rfl rfl ?_
    refine XS.iloadN X270.here hx rfl (hb hby d18_18) rfl ?_
    show Steps p.tables e below (T270.setTop (mkF m 19 #[.val (.ref t1), .val (.int (2 : Int32)), .val (.int (3 : Int32)), .val (.ref t3), .val (.int (2 : Int32))] [(.int (2 : Int32)), (.ref t1), (.int (2 : Int32)), (.ref t3)])) _
    refine X270.caload hx (j := (2 : Int32)) (v := (.int c2)) Ar272.1 (State.isArrayOf_alike hZ.alike Ar272.2.1) Ar272.2.2 hin272 hat272 (g := (mkF m 19 #[.val (.ref t1), .val (.int (2 : Int32)), .val (.int (3 : Int32)), .val (.ref t3), .val (.int (2 : Int32))] [(.int (2 : Int32)), (.ref t1), (.int (2 : Int32)), (.ref t3)])) rfl rfl (hb hby d18_19) _ ?_
    refine st274 _ ?_
    show Steps p.tables e below (T274.setTop (mkF m 23 #[.val (.ref t1), .val (.int (2 : Int32)), .val (.int (3 : Int32)), .val (.ref t3), .val (.int (2 : Int32))] [])) _
    refine XS.iinc X274.here hx rfl (hb hby d18_23) rfl (l' := #[.val (.ref t1), .val (.int ((2 : Int32) + (1 : Int32))), .val (.int (3 : Int32)), .val (.ref t3), .val (.int (2 : Int32))]) rfl ?_
    refine XS.iinc X274.here hx rfl (hb hby d18_26) rfl (l' := #[.val (.ref t1), .val (.int ((2 : Int32) + (1 : Int32))), .val (.int (3 : Int32)), .val (.ref t3), .val (.int ((2 : Int32) + (1 : Int32)))]) rfl ?_
    show Steps p.tables e below (T274.setTop (mkF m 29 #[.val (.ref t1), .val (.int ((2 : Int32) + (1 : Int32))), .val (.int (3 : Int32)), .val (.ref t3), .val (.int ((2 : Int32) + (1 : Int32)))] [])) _
    rw [show ((2 : Int32) + (1 : Int32)) = (3 : Int32) from by decide]
    show Steps p.tables e below (T274.setTop (mkF m 29 #[.val (.ref t1), .val (.int (3 : Int32)), .val (.int (3 : Int32)), .val (.ref t3), .val (.int (3 : Int32))] [])) _
    refine XS.goto X274.here hx rfl (pc0 := 29) (pc' := 8) rfl (hb hby d18_29) (by decide) (by decide) ?_
    show Steps p.tables e below (T274.setTop (mkF m 8 #[.val (.ref t1), .val (.int (3 : Int32)), .val (.int (3 : Int32)), .val (.ref t3), .val (.int (3 : Int32))] [])) _
    refine XS.iload X274.here hx rfl (hb hby d18_8) rfl ?_
    refine XS.iloadN X274.here hx rfl (hb hby d18_10) rfl ?_
    refine XS.icmpYes X274.here hx rfl (pc0 := 11) (pc' := 32) rfl (hb hby d18_11) rfl (flt (by decide : ¬ ((3 : Int32) < (3 : Int32)))).2.1 (by decide) (by decide) ?_
    show Steps p.tables e below (T274.setTop (mkF m 32 #[.val (.ref t1), .val (.int (3 : Int32)), .val (.int (3 : Int32)), .val (.ref t3), .val (.int (3 : Int32))] [])) _
    refine XS.aloadN X274.here hx rfl (hb hby d18_32) rfl rfl ?_
    exact kt
  obtain ⟨fs, hr, hrun, hended, hW, hsame⟩ := X274.leave (v := some (.ref t3)) (fun h => by rw [Bd.returns] at h; cases h)
  refine ⟨_, _, (pre0 _ (pre275 _ ?_)), hrun, hended, _, _, rfl, ?_, ⟨_, rfl⟩, hW, hsame.mono (by decide) (by decide)⟩
  · show Steps p.tables e below (T274.setTop (mkF m 33 #[.val (.ref t1), .val (.int (3 : Int32)), .val (.int (3 : Int32)), .val (.ref t3), .val (.int (3 : Int32))] [(.ref t3)])) _
    exact retOut X274 hx (t := (.array .byte)) Bd.returns rfl (Or.inr (Or.inr (Or.inr (Or.inr ⟨rfl, rfl, rfl⟩)))) (hb hby d18_33) hr
  · show QTB3 Z t1 kc c0 c1 c2 zc h0 n0 _ T274.heap _
    exact ⟨t3, rfl, N274, own_ext K274, sz_t3, k3, VA3⟩
theorem ef_CB3 (m : MethodId) (x0 : Addr) (x1 : Int32) (x2 : Int32) : entryFrame m #[(.ref x0), (.int x1), (.int x2)] 6 = mkF m 0 #[.val (.ref x0), .val (.int x1), .val (.int x2), .unset, .unset, .unset] [] := by (first | (simp [entryFrame, mkF, argsToLocals, Value.category]; done) | rfl)
def QCB3 (Z : State) (t1 : Addr) (kc : ClassId) (c0 : Int32) (c1 : Int32) (c2 : Int32) (zc : Int32) (h0 : Heap) (n0 : Nat) (v : Option Value) (h : Heap) (L : List Loc) : Prop := ∃ x2, v = some (.ref x2) ∧ Fr n0 L ∧ Ext h0 h ∧ h0.size ≤ x2 ∧ ∃ (k2 : ClassId), ((Arv Z h x2 k2 .byte (Int32.ofNat (3)) ([c0, c1, c2].map own_B) (.int (0 : Int32)) ∧ ¬ ((255 : Int32) < c0) ∧ ¬ ((255 : Int32) < c1) ∧ ¬ ((255 : Int32) < c2)) ∨ Arv Z h x2 k2 .byte (Int32.ofNat (2 * 3)) ([c0, c1, c2].flatMap own_U) (.int (0 : Int32)))
set_option maxRecDepth 65536 in
set_option maxHeartbeats 40000000 in
theorem rmCB3 (l : Launch) (Z : State) (a0 : Array Value) (hw : ∀ d ∈ tables_1, d.before a0 Z = true) (ws : List Jvm.Cond) (t1 : Addr) (kc : ClassId) (c0 : Int32) (c1 : Int32) (c2 : Int32) (zc : Int32) (h0 : Heap) (n0 : Nat) (Z0 : n0 ≤ h0.size) (KT : Arv Z h0 t1 kc .char (3 : Int32) [(.int c0), (.int c1), (.int c2)] (.int (0 : Int32))) (hc0 : nar .char c0 = c0) (hc1 : nar .char c1 = c1) (hc2 : nar .char c2 = c2) (OZ : Old Z n0 h0) (SC : Sta Z Z.heap "java/lang/String" "COMPACT_STRINGS" "Z" (.int zc)) (hzc : ¬ zc = (0 : Int32)) (SA : Sta Z Z.heap "java/lang/StringUTF16" "$assertionsDisabled" "Z" (.int (1 : Int32))) (SH : Sta Z Z.heap "java/lang/StringUTF16" "HI_BYTE_SHIFT" "I" (.int (0 : Int32))) (SL : Sta Z Z.heap "java/lang/StringUTF16" "LO_BYTE_SHIFT" "I" (.int (8 : Int32))) :
    MetFree l (⟨"java/lang/StringUTF16", "compress", "([CII)[B"⟩ : MethodName) (head1 (Jvm.Cond.code (⟨"java/lang/StringUTF16", "compress", "([CII)[B"⟩ : MethodName) jdk_52_method_16_code 6 (some (.array .byte)) :: ws) ({ frames := 3, cells := 2, slots := 13, locals := 45 } : Room)) (fun a U => a = #[(.ref t1), (.int (0 : Int32)), (.int (3 : Int32))] ∧ Z.Warmed39 U.vm ∧ U.heap = h0) (fun _ _ _ _ _ => True) (fun _ U o U' => ∃ v L, o = .returned v ∧ QCB3 Z t1 kc c0 c1 c2 zc h0 n0 v U'.heap L ∧ FrameEnd U o U' L ({ frames := 3, cells := 2, slots := 13, locals := 45 } : Room).cells ({ frames := 3, cells := 2, slots := 13, locals := 45 } : Room).slots) := by
  refine MetFree.of_bodySF (plainFor_of_name pn_java_lang_StringUTF16) hisR ?_
  intro p e s m args below meth c s₁ Bd hml0 hP hK
  obtain ⟨rfl, hZ, hh⟩ := hP
  have hx := Bd.exec
  have hby := Bd.bytes
  have hml : c.maxLocals = 6 := hml0
  have hown : s.vm.findClass "java/lang/StringUTF16" = some m.cls := findClass_of_methodNamed Bd.named
  have hnm := (name_of_methodNamed Bd.named Bd.method).1
  have X0 : Stand p l e ({ frames := 3, cells := 2, slots := 13, locals := 45 } : Room) s m #[(.ref t1), (.int (0 : Int32)), (.int (3 : Int32))] below meth c s₁ [] 0 0 := Stand.of_body Bd
  have e0 : s₁.heap = h0 := by rw [← hh, Bd.state]; rfl
  have N0 := Fr.nil n0
  have pre0 : ∀ t, Steps p.tables e below (s₁.setTop (mkF m 0 #[.val (.ref t1), .val (.int (0 : Int32)), .val (.int (3 : Int32)), .unset, .unset, .unset] [])) t → Steps p.tables e below (s₁.setTop (entryFrame m #[(.ref t1), (.int (0 : Int32)), (.int (3 : Int32))] 6)) t := fun t k => castTop (ef_CB3 m t1 (0 : Int32) (3 : Int32)) k
  have hcs : ∀ i, i < 3 → nar .char ([c0, c1, c2].getD i 0) = [c0, c1, c2].getD i 0 := fun i hi => by
    match i, hi with
    | 0, _ => exact hc0
    | 1, _ => exact hc1
    | 2, _ => exact hc2
  obtain ⟨T276, h276, k276, X276, e276, E276, A276, st276⟩ := newP X0 hx hZ (tw hw 21 rfl) e0 (g := (mkF m 1 #[.val (.ref t1), .val (.int (0 : Int32)), .val (.int (3 : Int32)), .unset, .unset, .unset] [(.int (3 : Int32))])) rfl (hb hby d8_1) rfl (by decide) (cap := 3) (by decide) (by decide) (by decide) (by decide)
  obtain ⟨b276, g276⟩ : ∃ z, z = h0.size := ⟨_, rfl⟩
  rw [← g276] at A276 st276
  have g_b276 : n0 ≤ b276 := Nat.le_trans Z0 (Nat.le_of_eq g276.symm)
  have sz_b276 : h0.size ≤ b276 := Nat.le_trans (Keep.refl h0 []).1 (Nat.le_of_eq g276.symm)
  have ne_t1_b276 : t1 ≠ b276 := Nat.ne_of_lt (Nat.lt_of_lt_of_le KT.lt (Nat.le_of_eq g276.symm))
  have Z276 := Nat.le_trans Z0 E276.1
  have K276 := (Keep.refl h0 []).ext E276
  have V276 : Arv Z h276 b276 k276 .byte (3 : Int32) [(.int (0 : Int32)), (.int (0 : Int32)), (.int (0 : Int32))] (.int (0 : Int32)) := (Arv.new A276 (by decide)).pad (pad_rep [] (.int (0 : Int32)) 3)
  have f277 := (KT.ext E276)
  obtain ⟨_, _, ⟨T278, L278, k278, n278⟩, -, X278, ⟨Lc278, hQ278, l278, y278, z278⟩, st278⟩ := Jvm.LawKit.callS X276 hx (y := (⟨"java/lang/StringUTF16", "compress", "([CI[BII)I"⟩ : MethodName)) hown (mvT hZ (tw hw 47 rfl)) (mvT hZ (tw hw 48 rfl)) (mvT hZ (tw hw 45 rfl)) (mvT hZ (tw hw 49 rfl)) (by decide) (backOf (W := 0) (rmCp3 l Z a0 hw [] t1 kc b276 k276 c0 c1 c2 h276 n0 Z276 f277 V276 g_b276 ne_t1_b276) hZ (tw hw 49 rfl) (tw hw 45 rfl) (by decide) (by decide)) (g := (mkF m 9 #[.val (.ref t1), .val (.int (0 : Int32)), .val (.int (3 : Int32)), .val (.ref b276), .unset, .unset] [(.int (3 : Int32)), (.int (0 : Int32)), (.ref b276), (.int (0 : Int32)), (.ref t1)])) rfl (by rw [hml]; rfl) (argsL := [(.ref t1), (.int (0 : Int32)), (.ref b276), (.int (0 : Int32)), (.int (3 : Int32))]) (rest := []) (lenOf pd___CI_BII_I rfl) rfl (by show 2 * 0 + _ ≤ _; exact Nat.le_of_eq rfl) (hb hby d8_9) (fun _ _ => ⟨rfl, e276, (by decide : 1 + 0 ≤ _), (by decide : 3 + 0 ≤ _)⟩)
  dsimp only [Pt.U, Pt.locs, Pt.cells, Pt.slots] at X278 l278 y278 z278 st278 hQ278
  subst l278 y278 z278
  obtain ⟨k, rfl, N278q, KC278, hk⟩ := hQ278
  have N278 := Fr.app N0 N278q
  have Z278 := Nat.le_trans Z276 KC278.1
  have K278 := K276.trans KC278 (allS (Or.inr sz_b276) all0)
  have pre279 : ∀ t, Steps p.tables e below (T278.setTop (mkF m 12 #[.val (.ref t1), .val (.int (0 : Int32)), .val (.int (3 : Int32)), .val (.ref b276), .unset, .unset] [(.int (Int32.ofNat k))])) t → Steps p.tables e below (s₁.setTop (mkF m 0 #[.val (.ref t1), .val (.int (0 : Int32)), .val (.int (3 : Int32)), .unset, .unset, .unset] [])) t := by
    intro t kt
    show Steps p.tables e below (s₁.setTop (mkF m 0 #[.val (.ref t1), .val (.int (0 : Int32)), .val (.int (3 : Int32)), .unset, .unset, .unset] [])) _
    refine XS.iloadN X0.here hx rfl (hb hby d8_0) rfl ?_
    show Steps p.tables e below (s₁.setTop (mkF m 1 #[.val (.ref t1), .val (.int (0 : Int32)), .val (.int (3 : Int32)), .unset, .unset, .unset] [(.int (3 : Int32))])) _
    refine st276 _ ?_
    show Steps p.tables e below (T276.setTop (mkF m 3 #[.val (.ref t1), .val (.int (0 : Int32)), .val (.int (3 : Int32)), .unset, .unset, .unset] [(.ref b276)])) _
    refine XS.astoreN X276.here hx rfl (hb hby d8_3) rfl rfl (l' := #[.val (.ref t1), .val (.int (0 : Int32)), .val (.int (3 : Int32)), .val (.ref b276), .unset, .unset]) rfl ?_
    refine XS.aloadN X276.here hx rfl (hb hby d8_4) rfl rfl ?_
    refine XS.iloadN X276.here hx rfl (hb hby d8_5) rfl ?_
    refine XS.aloadN X276.here hx rfl (hb hby d8_6) rfl rfl ?_
    refine XS.iconst X276.here hx rfl (hb hby d8_7) ?_
    refine XS.iloadN X276.here hx rfl (hb hby d8_8) rfl ?_
    refine st278 _ ?_
    exact kt
  rcases hk with ⟨ek, V5, l0, l1, l2⟩ | ⟨lk, gk⟩
  · skip
    have pre280 : ∀ t, Steps p.tables e below (T278.setTop (mkF m 58 #[.val (.ref t1), .val (.int (0 : Int32)), .val (.int (3 : Int32)), .val (.ref b276), .val (.int (Int32.ofNat k)), .unset] [(.ref b276)])) t → Steps p.tables e below (T278.setTop (mkF m 12 #[.val (.ref t1), .val (.int (0 : Int32)), .val (.int (3 : Int32)), .val (.ref b276), .unset, .unset] [(.int (Int32.ofNat k))])) t := by
      intro t kt
      show Steps p.tables e below (T278.setTop (mkF m 12 #[.val (.ref t1), .val (.int (0 : Int32)), .val (.int (3 : Int32)), .val (.ref b276), .unset, .unset] [(.int (Int32.ofNat k))])) _
      refine XS.istore X278.here hx rfl (hb hby d8_12) rfl (l' := #[.val (.ref t1), .val (.int (0 : Int32)), .val (.int (3 : Int32)), .val (.ref b276), .val (.int (Int32.ofNat k)), .unset]) rfl ?_
      refine XS.iload X278.here hx rfl (hb hby d8_14) rfl ?_
      refine XS.iloadN X278.here hx rfl (hb hby d8_16) rfl ?_
      refine XS.icmpYes X278.here hx rfl (pc0 := 17) (pc' := 57) rfl (hb hby d8_17) rfl (teq (by rw [ek]; rfl : (Int32.ofNat k) = (3 : Int32))).1 (by decide) (by decide) ?_
      show Steps p.tables e below (T278.setTop (mkF m 57 #[.val (.ref t1), .val (.int (0 : Int32)), .val (.int (3 : Int32)), .val (.ref b276), .val (.int (Int32.ofNat k)), .unset] [])) _
      refine XS.aloadN X278.here hx rfl (hb hby d8_57) rfl rfl ?_
      exact kt
    obtain ⟨fs, hr, hrun, hended, hW, hsame⟩ := X278.leave (v := some (.ref b276)) (fun h => by rw [Bd.returns] at h; cases h)
    refine ⟨_, _, (pre0 _ (pre279 _ (pre280 _ ?_))), hrun, hended, _, _, rfl, ?_, ⟨_, rfl⟩, hW, hsame.mono (by decide) (by decide)⟩
    · show Steps p.tables e below (T278.setTop (mkF m 58 #[.val (.ref t1), .val (.int (0 : Int32)), .val (.int (3 : Int32)), .val (.ref b276), .val (.int (Int32.ofNat k)), .unset] [(.ref b276)])) _
      exact retOut X278 hx (t := (.array .byte)) Bd.returns rfl (Or.inr (Or.inr (Or.inr (Or.inr ⟨rfl, rfl, rfl⟩)))) (hb hby d8_58) hr
    · show QCB3 Z t1 kc c0 c1 c2 zc h0 n0 _ T278.heap _
      exact ⟨b276, rfl, N278, own_ext K278, sz_b276, k276, Or.inl ⟨V5, l0, l1, l2⟩⟩
  · skip
    have f281 := (f277.keep KC278 (ninS ne_t1_b276 nin0))
    have f282 := ((OZ.ext E276).keep KC278 (allS g_b276 all0))
    obtain ⟨_, _, ⟨T283, L283, k283, n283⟩, -, X283, ⟨Lc283, hQ283, l283, y283, z283⟩, st283⟩ := Jvm.LawKit.callS X278 hx (y := (⟨"java/lang/StringUTF16", "toBytes", "([CII)[B"⟩ : MethodName)) hown (mvT hZ (tw hw 81 rfl)) (mvT hZ (tw hw 82 rfl)) (mvT hZ (tw hw 45 rfl)) (mvT hZ (tw hw 83 rfl)) (by decide) (backOf (W := 0) (rmTB3 l Z a0 hw [] t1 kc c0 c1 c2 zc T278.heap n0 Z278 f281 f282 SC hzc SA SH SL) hZ (tw hw 83 rfl) (tw hw 45 rfl) (by decide) (by decide)) (g := (mkF m 23 #[.val (.ref t1), .val (.int (0 : Int32)), .val (.int (3 : Int32)), .val (.ref b276), .val (.int (Int32.ofNat k)), .unset] [(.int (3 : Int32)), (.int (0 : Int32)), (.ref t1)])) rfl (by rw [hml]; rfl) (argsL := [(.ref t1), (.int (0 : Int32)), (.int (3 : Int32))]) (rest := []) (lenOf pd___CII__B rfl) rfl (by show 2 * 0 + _ ≤ _; exact Nat.le_of_eq rfl) (hb hby d8_23) (fun _ _ => ⟨rfl, rfl, (by decide : 1 + 1 ≤ _), (by decide : 3 + 10 ≤ _)⟩)
    dsimp only [Pt.U, Pt.locs, Pt.cells, Pt.slots] at X283 l283 y283 z283 st283 hQ283
    subst l283 y283 z283
    obtain ⟨t5, rfl, N283q, EX283, le5, k5, V5⟩ := hQ283
    have N283 := Fr.app N278 N283q
    have sz_t5 : h0.size ≤ t5 := Nat.le_trans K278.1 le5
    have Z283 := Nat.le_trans Z278 EX283.1
    have K283 := K278.ext EX283
    have f284 := (f282.ext EX283)
    obtain ⟨_, _, ⟨T285, L285, k285, n285⟩, -, X285, ⟨Lc285, hQ285, l285, y285, z285⟩, st285⟩ := Jvm.LawKit.callS X283 hx (y := (⟨"java/lang/StringUTF16", "getChar", "([BI)C"⟩ : MethodName)) hown (mvT hZ (tw hw 97 rfl)) (mvT hZ (tw hw 98 rfl)) (mvT hZ (tw hw 45 rfl)) (mvT hZ (tw hw 99 rfl)) (by decide) (backOf (W := 0) (rmGetC l Z a0 hw [] t5 k5 3 ([c0, c1, c2].flatMap own_U) k (nar .byte ((([c0, c1, c2].getD k 0) >>> ((0 : Int32) &&& 31)).toInt8.toInt32)) (nar .byte ((([c0, c1, c2].getD k 0) >>> ((8 : Int32) &&& 31)).toInt8.toInt32)) T283.heap n0 Z283 (SA.ext f284.2) (SH.ext f284.2) (SL.ext f284.2) V5 (by decide) lk (own_getU [c0, c1, c2] _ k lk).1 (own_getU [c0, c1, c2] _ k lk).2) hZ (tw hw 99 rfl) (tw hw 45 rfl) (by decide) (by decide)) (g := (mkF m 32 #[.val (.ref t1), .val (.int (0 : Int32)), .val (.int (3 : Int32)), .val (.ref b276), .val (.int (Int32.ofNat k)), .val (.ref t5)] [(.int (Int32.ofNat k)), (.ref t5)])) rfl (by rw [hml]; rfl) (argsL := [(.ref t5), (.int (Int32.ofNat k))]) (rest := []) (lenOf pd___BI_C rfl) rfl (by show 2 * 0 + _ ≤ _; exact Nat.le_of_eq rfl) (hb hby d8_32) (fun _ _ => ⟨rfl, rfl, (by decide : 2 + 0 ≤ _), (by decide : 13 + 0 ≤ _)⟩)
    dsimp only [Pt.U, Pt.locs, Pt.cells, Pt.slots] at X285 l285 y285 z285 st285 hQ285
    subst l285 y285 z285
    obtain ⟨rfl, N285q, EQ285⟩ := hQ285
    have N285 := Fr.app N283 N285q
    have K285 := own_keq EQ285 K283
    have f286 := (EQ285 ▸ V5)
    have pre287 : ∀ t, Steps p.tables e below (T285.setTop (mkF m 56 #[.val (.ref t1), .val (.int (0 : Int32)), .val (.int (3 : Int32)), .val (.ref b276), .val (.int (Int32.ofNat k)), .val (.ref t5)] [(.ref t5)])) t → Steps p.tables e below (T278.setTop (mkF m 12 #[.val (.ref t1), .val (.int (0 : Int32)), .val (.int (3 : Int32)), .val (.ref b276), .unset, .unset] [(.int (Int32.ofNat k))])) t := by
      intro t kt
      show Steps p.tables e below (T278.setTop (mkF m 12 #[.val (.ref t1), .val (.int (0 : Int32)), .val (.int (3 : Int32)), .val (.ref b276), .unset, .unset] [(.int (Int32.ofNat k))])) _
      refine XS.istore X278.here hx rfl (hb hby d8_12) rfl (l' := #[.val (.ref t1), .val (.int (0 : Int32)), .val (.int (3 : Int32)), .val (.ref b276), .val (.int (Int32.ofNat k)), .unset]) rfl ?_
      refine XS.iload X278.here hx rfl (hb hby d8_14) rfl ?_
      refine XS.iloadN X278.here hx rfl (hb hby d8_16) rfl ?_
      refine XS.icmpNo X278.here hx rfl (hb hby d8_17) rfl (feq (fun q => absurd (congrArg Int32.toInt q) (by rw [own_n (by omega), show ((3 : Int32)).toInt = 3 from by decide]; omega) : ¬ ((Int32.ofNat k) = (3 : Int32)))).1 ?_
      show Steps p.tables e below (T278.setTop (mkF m 20 #[.val (.ref t1), .val (.int (0 : Int32)), .val (.int (3 : Int32)), .val (.ref b276), .val (.int (Int32.ofNat k)), .unset] [])) _
      refine XS.aloadN X278.here hx rfl (hb hby d8_20) rfl rfl ?_
      refine XS.iloadN X278.here hx rfl (hb hby d8_21) rfl ?_
      refine XS.iloadN X278.here hx rfl (hb hby d8_22) rfl ?_
      refine st283 _ ?_
      show Steps p.tables e below (T283.setTop (mkF m 26 #[.val (.ref t1), .val (.int (0 : Int32)), .val (.int (3 : Int32)), .val (.ref b276), .val (.int (Int32.ofNat k)), .unset] [(.ref t5)])) _
      refine XS.astore X283.here hx rfl (hb hby d8_26) rfl rfl (l' := #[.val (.ref t1), .val (.int (0 : Int32)), .val (.int (3 : Int32)), .val (.ref b276), .val (.int (Int32.ofNat k)), .val (.ref t5)]) rfl ?_
      refine XS.aload X283.here hx rfl (hb hby d8_28) rfl rfl ?_
      refine XS.iload X283.here hx rfl (hb hby d8_30) rfl ?_
      refine st285 _ ?_
      show Steps p.tables e below (T285.setTop (mkF m 35 #[.val (.ref t1), .val (.int (0 : Int32)), .val (.int (3 : Int32)), .val (.ref b276), .val (.int (Int32.ofNat k)), .val (.ref t5)] [(.int (nar .char (((((nar .byte ((([c0, c1, c2].getD k 0) >>> ((0 : Int32) &&& 31)).toInt8.toInt32)) &&& (255 : Int32)) <<< ((0 : Int32) &&& 31)) ||| (((nar .byte ((([c0, c1, c2].getD k 0) >>> ((8 : Int32) &&& 31)).toInt8.toInt32)) &&& (255 : Int32)) <<< ((8 : Int32) &&& 31))).toUInt32.toUInt16.toUInt32.toInt32)))])) _
      rw [own_chU1 (hcs k lk)]
      show Steps p.tables e below (T285.setTop (mkF m 35 #[.val (.ref t1), .val (.int (0 : Int32)), .val (.int (3 : Int32)), .val (.ref b276), .val (.int (Int32.ofNat k)), .val (.ref t5)] [(.int ([c0, c1, c2].getD k 0))])) _
      refine XS.sipush X285.here hx rfl (hb hby d8_35) ?_
      refine XS.icmpYes X285.here hx rfl (pc0 := 38) (pc' := 54) rfl (hb hby d8_38) rfl (tlt (gk : (255 : Int32) < ([c0, c1, c2].getD k 0))).2.2.1 (by decide) (by decide) ?_
      show Steps p.tables e below (T285.setTop (mkF m 54 #[.val (.ref t1), .val (.int (0 : Int32)), .val (.int (3 : Int32)), .val (.ref b276), .val (.int (Int32.ofNat k)), .val (.ref t5)] [])) _
      refine XS.aload X285.here hx rfl (hb hby d8_54) rfl rfl ?_
      exact kt
    obtain ⟨fs, hr, hrun, hended, hW, hsame⟩ := X285.leave (v := some (.ref t5)) (fun h => by rw [Bd.returns] at h; cases h)
    refine ⟨_, _, (pre0 _ (pre279 _ (pre287 _ ?_))), hrun, hended, _, _, rfl, ?_, ⟨_, rfl⟩, hW, hsame.mono (by decide) (by decide)⟩
    · show Steps p.tables e below (T285.setTop (mkF m 56 #[.val (.ref t1), .val (.int (0 : Int32)), .val (.int (3 : Int32)), .val (.ref b276), .val (.int (Int32.ofNat k)), .val (.ref t5)] [(.ref t5)])) _
      exact retOut X285 hx (t := (.array .byte)) Bd.returns rfl (Or.inr (Or.inr (Or.inr (Or.inr ⟨rfl, rfl, rfl⟩)))) (hb hby d8_56) hr
    · show QCB3 Z t1 kc c0 c1 c2 zc h0 n0 _ T285.heap _
      exact ⟨t5, rfl, N285, own_ext K285, sz_t5, k5, Or.inr f286⟩
theorem ef_I4_3 (m : MethodId) (x0 : Addr) (x1 : Addr) (x2 : Int32) (x3 : Int32) : entryFrame m #[(.ref x0), (.ref x1), (.int x2), (.int x3), .null] 6 = mkF m 0 #[.val (.ref x0), .val (.ref x1), .val (.int x2), .val (.int x3), .val .null, .unset] [] := by (first | (simp [entryFrame, mkF, argsToLocals, Value.category]; done) | rfl)
def QI4_3 (Z : State) (x1 : Addr) (t1 : Addr) (kc : ClassId) (c0 : Int32) (c1 : Int32) (c2 : Int32) (zc : Int32) (h0 : Heap) (n0 : Nat) (v : Option Value) (h : Heap) (L : List Loc) : Prop := v = none ∧ Fr n0 L ∧ Keep h0 h [x1] ∧ own_str Z h x1 [c0, c1, c2]
set_option maxRecDepth 65536 in
set_option maxHeartbeats 40000000 in
theorem rmI4_3 (l : Launch) (Z : State) (a0 : Array Value) (hw : ∀ d ∈ tables_1, d.before a0 Z = true) (ws : List Jvm.Cond) (x1 : Addr) (t1 : Addr) (kc : ClassId) (c0 : Int32) (c1 : Int32) (c2 : Int32) (zc : Int32) (h0 : Heap) (n0 : Nat) (Z0 : n0 ≤ h0.size) (XE : Exa Z h0 x1 "java/lang/String") (XV0 : Fld Z h0 x1 "java/lang/String" "value" "[B" .null) (XC0 : Fld Z h0 x1 "java/lang/String" "coder" "B" (.int (0 : Int32))) (g_x1 : n0 ≤ x1) (KT : Arv Z h0 t1 kc .char (3 : Int32) [(.int c0), (.int c1), (.int c2)] (.int (0 : Int32))) (hc0 : nar .char c0 = c0) (hc1 : nar .char c1 = c1) (hc2 : nar .char c2 = c2) (OZ : Old Z n0 h0) (SC : Sta Z Z.heap "java/lang/String" "COMPACT_STRINGS" "Z" (.int zc)) (hzc : ¬ zc = (0 : Int32)) (SA : Sta Z Z.heap "java/lang/StringUTF16" "$assertionsDisabled" "Z" (.int (1 : Int32))) (SH : Sta Z Z.heap "java/lang/StringUTF16" "HI_BYTE_SHIFT" "I" (.int (0 : Int32))) (SL : Sta Z Z.heap "java/lang/StringUTF16" "LO_BYTE_SHIFT" "I" (.int (8 : Int32))) :
    MetFree l (⟨"java/lang/String", "<init>", "([CIILjava/lang/Void;)V"⟩ : MethodName) (head1 (Jvm.Cond.code (⟨"java/lang/String", "<init>", "([CIILjava/lang/Void;)V"⟩ : MethodName) jdk_42_method_149_code 6 none :: ws) ({ frames := 4, cells := 2, slots := 13, locals := 64 } : Room)) (fun a U => a = #[(.ref x1), (.ref t1), (.int (0 : Int32)), (.int (3 : Int32)), .null] ∧ Z.Warmed39 U.vm ∧ U.heap = h0) (fun _ _ _ _ _ => True) (fun _ U o U' => ∃ v L, o = .returned v ∧ QI4_3 Z x1 t1 kc c0 c1 c2 zc h0 n0 v U'.heap L ∧ FrameEnd U o U' L ({ frames := 4, cells := 2, slots := 13, locals := 64 } : Room).cells ({ frames := 4, cells := 2, slots := 13, locals := 64 } : Room).slots) := by
  refine MetFree.of_bodySF (plainFor_of_name pn_java_lang_String) hisR ?_
  intro p e s m args below meth c s₁ Bd hml0 hP hK
  obtain ⟨rfl, hZ, hh⟩ := hP
  have hx := Bd.exec
  have hby := Bd.bytes
  have hml : c.maxLocals = 6 := hml0
  have hown : s.vm.findClass "java/lang/String" = some m.cls := findClass_of_methodNamed Bd.named
  have hnm := (name_of_methodNamed Bd.named Bd.method).1
  have X0 : Stand p l e ({ frames := 4, cells := 2, slots := 13, locals := 64 } : Room) s m #[(.ref x1), (.ref t1), (.int (0 : Int32)), (.int (3 : Int32)), .null] below meth c s₁ [] 0 0 := Stand.of_body Bd
  have e0 : s₁.heap = h0 := by rw [← hh, Bd.state]; rfl
  have N0 := Fr.nil n0
  have pre0 : ∀ t, Steps p.tables e below (s₁.setTop (mkF m 0 #[.val (.ref x1), .val (.ref t1), .val (.int (0 : Int32)), .val (.int (3 : Int32)), .val .null, .unset] [])) t → Steps p.tables e below (s₁.setTop (entryFrame m #[(.ref x1), (.ref t1), (.int (0 : Int32)), (.int (3 : Int32)), .null] 6)) t := fun t k => castTop (ef_I4_3 m x1 t1 (0 : Int32) (3 : Int32)) k
  have mem_x1 : x1 ∈ [x1] := List.mem_of_getElem? (i := 0) rfl
  obtain ⟨T288, X288, e288, st288⟩ := initO X0 hx hZ hown (tw hw 17 rfl) (tw hw 18 rfl) (tw hw 19 rfl) e0 (g := (mkF m 1 #[.val (.ref x1), .val (.ref t1), .val (.int (0 : Int32)), .val (.int (3 : Int32)), .val .null, .unset] [(.ref x1)])) rfl (by rw [hml]; rfl) rfl (hb hby d3_1) (by decide) (W := 0) (by show 2 * 0 + _ ≤ _; exact Nat.le_of_eq rfl) (by decide)
  obtain ⟨T289, X289, e289, st289⟩ := getS2 X288 hx hZ hown (host := "") (Or.inl (tw hw 42 rfl)) Via.refl e288 (SC.ext OZ.2) (g := (mkF m 27 #[.val (.ref x1), .val (.ref t1), .val (.int (0 : Int32)), .val (.int (3 : Int32)), .val .null, .unset] [])) rfl (hb hby d3_27)
  obtain ⟨_, _, ⟨T290, L290, k290, n290⟩, -, X290, ⟨Lc290, hQ290, l290, y290, z290⟩, st290⟩ := Jvm.LawKit.callS X289 hx (y := (⟨"java/lang/StringUTF16", "compress", "([CII)[B"⟩ : MethodName)) hown (mvT hZ (tw hw 43 rfl)) (mvT hZ (tw hw 44 rfl)) (mvT hZ (tw hw 45 rfl)) (mvT hZ (tw hw 46 rfl)) (by decide) (backOf (W := 0) (rmCB3 l Z a0 hw [] t1 kc c0 c1 c2 zc h0 n0 Z0 KT hc0 hc1 hc2 OZ SC hzc SA SH SL) hZ (tw hw 46 rfl) (tw hw 45 rfl) (by decide) (by decide)) (g := (mkF m 36 #[.val (.ref x1), .val (.ref t1), .val (.int (0 : Int32)), .val (.int (3 : Int32)), .val .null, .unset] [(.int (3 : Int32)), (.int (0 : Int32)), (.ref t1)])) rfl (by rw [hml]; rfl) (argsL := [(.ref t1), (.int (0 : Int32)), (.int (3 : Int32))]) (rest := []) (lenOf pd___CII__B rfl) rfl (by show 2 * 0 + _ ≤ _; exact Nat.le_of_eq rfl) (hb hby d3_36) (fun _ _ => ⟨rfl, e289, (by decide : 0 + 2 ≤ _), (by decide : 0 + 13 ≤ _)⟩)
  dsimp only [Pt.U, Pt.locs, Pt.cells, Pt.slots] at X290 l290 y290 z290 st290 hQ290
  subst l290 y290 z290
  obtain ⟨t5, rfl, N290q, EX290, le5, k5, hor⟩ := hQ290
  have N290 := Fr.app N0 N290q
  have ne_x1_t5 : x1 ≠ t5 := Nat.ne_of_lt (Nat.lt_of_lt_of_le XE.lt le5)
  have Z290 := Nat.le_trans Z0 EX290.1
  have K290 := (Keep.refl h0 [x1]).ext EX290
  have pre291 : ∀ t, Steps p.tables e below (T290.setTop (mkF m 45 #[.val (.ref x1), .val (.ref t1), .val (.int (0 : Int32)), .val (.int (3 : Int32)), .val .null, .val (.ref t5)] [(.int (3 : Int32)), (.ref t5), (.ref x1)])) t → Steps p.tables e below (s₁.setTop (mkF m 0 #[.val (.ref x1), .val (.ref t1), .val (.int (0 : Int32)), .val (.int (3 : Int32)), .val .null, .unset] [])) t := by
    intro t kt
    show Steps p.tables e below (s₁.setTop (mkF m 0 #[.val (.ref x1), .val (.ref t1), .val (.int (0 : Int32)), .val (.int (3 : Int32)), .val .null, .unset] [])) _
    refine XS.aloadN X0.here hx rfl (hb hby d3_0) rfl rfl ?_
    show Steps p.tables e below (s₁.setTop (mkF m 1 #[.val (.ref x1), .val (.ref t1), .val (.int (0 : Int32)), .val (.int (3 : Int32)), .val .null, .unset] [(.ref x1)])) _
    refine st288 _ ?_
    show Steps p.tables e below (T288.setTop (mkF m 4 #[.val (.ref x1), .val (.ref t1), .val (.int (0 : Int32)), .val (.int (3 : Int32)), .val .null, .unset] [])) _
    refine XS.iloadN X288.here hx rfl (hb hby d3_4) rfl ?_
    refine XS.ifYes X288.here hx rfl (pc0 := 5) (pc' := 27) rfl (hb hby d3_5) rfl ((if0 _ _).trans (feq (by decide : ¬ ((3 : Int32) = (0 : Int32)))).2) (by decide) (by decide) ?_
    refine st289 _ ?_
    refine XS.ifNo X289.here hx rfl (hb hby d3_30) rfl ((if0 _ _).trans (feq (hzc : ¬ (zc = (0 : Int32)))).1) ?_
    show Steps p.tables e below (T289.setTop (mkF m 33 #[.val (.ref x1), .val (.ref t1), .val (.int (0 : Int32)), .val (.int (3 : Int32)), .val .null, .unset] [])) _
    refine XS.aloadN X289.here hx rfl (hb hby d3_33) rfl rfl ?_
    refine XS.iloadN X289.here hx rfl (hb hby d3_34) rfl ?_
    refine XS.iloadN X289.here hx rfl (hb hby d3_35) rfl ?_
    refine st290 _ ?_
    show Steps p.tables e below (T290.setTop (mkF m 39 #[.val (.ref x1), .val (.ref t1), .val (.int (0 : Int32)), .val (.int (3 : Int32)), .val .null, .unset] [(.ref t5)])) _
    refine XS.astore X290.here hx rfl (hb hby d3_39) rfl rfl (l' := #[.val (.ref x1), .val (.ref t1), .val (.int (0 : Int32)), .val (.int (3 : Int32)), .val .null, .val (.ref t5)]) rfl ?_
    refine XS.aloadN X290.here hx rfl (hb hby d3_41) rfl rfl ?_
    refine XS.aload X290.here hx rfl (hb hby d3_42) rfl rfl ?_
    refine XS.iloadN X290.here hx rfl (hb hby d3_44) rfl ?_
    exact kt
  rcases hor with ⟨V5, l0, l1, l2⟩ | V5
  · skip
    obtain ⟨_, _, ⟨T292, L292, k292, n292⟩, -, X292, ⟨Lc292, hQ292, l292, y292, z292⟩, st292⟩ := Jvm.LawKit.callS X290 hx (y := (⟨"java/lang/StringUTF16", "coderFromArrayLen", "([BI)B"⟩ : MethodName)) hown (mvT hZ (tw hw 50 rfl)) (mvT hZ (tw hw 51 rfl)) (mvT hZ (tw hw 45 rfl)) (mvT hZ (tw hw 52 rfl)) (by decide) (backOf (W := 1) (rmCFL l Z a0 hw [] t5 k5 3 ([c0, c1, c2].map own_B) T290.heap n0 Z290 V5 (by decide) (by decide)) hZ (tw hw 52 rfl) (tw hw 45 rfl) (by decide) (by decide)) (g := (mkF m 45 #[.val (.ref x1), .val (.ref t1), .val (.int (0 : Int32)), .val (.int (3 : Int32)), .val .null, .val (.ref t5)] [(.int (3 : Int32)), (.ref t5), (.ref x1)])) rfl (by rw [hml]; rfl) (argsL := [(.ref t5), (.int (3 : Int32))]) (rest := [(.ref x1)]) (lenOf pd___BI_B rfl) rfl (by show 2 * 0 + _ ≤ _; exact Nat.le_of_eq rfl) (hb hby d3_45) (fun _ _ => ⟨rfl, rfl, (by decide : 2 + 0 ≤ _), (by decide : 13 + 0 ≤ _)⟩)
    dsimp only [Pt.U, Pt.locs, Pt.cells, Pt.slots] at X292 l292 y292 z292 st292 hQ292
    subst l292 y292 z292
    obtain ⟨rfl, N292q, EQ292⟩ := hQ292
    have N292 := Fr.app N290 N292q
    have K292 := own_keq EQ292 K290
    have f293 := (EQ292 ▸ (XC0.ext EX290))
    have f294 := (EQ292 ▸ (XE.ext EX290))
    obtain ⟨T295, h295, X295, e295, W295, st295⟩ := putFN X292 hx hZ hown (tw hw 27 rfl) Via.refl rfl f293 f294 (Or.inr ⟨(tw hw 23 rfl), rfl, hnm⟩) (tw hw 7 rfl) (ty := .byte) (v' := (.int (0 : Int32))) (by decide) rfl rfl (g := (mkF m 48 #[.val (.ref x1), .val (.ref t1), .val (.int (0 : Int32)), .val (.int (3 : Int32)), .val .null, .val (.ref t5)] [(.int (0 : Int32)), (.ref x1)])) rfl rfl (hb hby d3_48)
    have N295 := Fr.snoc X295 N292 g_x1
    have K295 := K292.wr W295 (Or.inl mem_x1)
    have Fw295 := f293.same W295
    have f296 := ((EQ292 ▸ (XV0.ext EX290)).other W295 (Or.inr (slot_ne (Or.inr (tw hw 22 rfl)) (Or.inr (tw hw 23 rfl)) (by decide) (t := (.array .byte)) (t' := .byte) (by decide) (by decide))))
    have f297 := (f294.wr W295)
    obtain ⟨T298, h298, X298, e298, W298, st298⟩ := putF X295 hx hZ hown (host := "") (Or.inl (tw hw 26 rfl)) Via.refl e295 f296 f297 (Or.inr ⟨(tw hw 22 rfl), rfl, hnm⟩) (tw hw 7 rfl) (ty := (.array .byte)) (by decide) rfl rfl (g := (mkF m 54 #[.val (.ref x1), .val (.ref t1), .val (.int (0 : Int32)), .val (.int (3 : Int32)), .val .null, .val (.ref t5)] [(.ref t5), (.ref x1)])) rfl rfl (hb hby d3_54)
    have N298 := Fr.snoc X298 N295 g_x1
    have K298 := K295.wr W298 (Or.inl mem_x1)
    have Fw298 := f296.same W298
    have hl : ∀ i, i < [c0, c1, c2].length → ¬ ((255 : Int32) < [c0, c1, c2].getD i 0) := fun i hi => by
      match i, hi with
      | 0, _ => exact l0
      | 1, _ => exact l1
      | 2, _ => exact l2
    have f299 := (f297.wr W298)
    have f300 := (Fw295.other W298 (Or.inr (slot_ne (Or.inr (tw hw 23 rfl)) (Or.inr (tw hw 22 rfl)) (by decide) (t := .byte) (t' := (.array .byte)) (by decide) (by decide))))
    have f301 := (((EQ292 ▸ V5).other W295 (Ne.symm ne_x1_t5)).other W298 (Ne.symm ne_x1_t5))
    have pre302 : ∀ t, Steps p.tables e below (T298.setTop (mkF m 57 #[.val (.ref x1), .val (.ref t1), .val (.int (0 : Int32)), .val (.int (3 : Int32)), .val .null, .val (.ref t5)] [])) t → Steps p.tables e below (T290.setTop (mkF m 45 #[.val (.ref x1), .val (.ref t1), .val (.int (0 : Int32)), .val (.int (3 : Int32)), .val .null, .val (.ref t5)] [(.int (3 : Int32)), (.ref t5), (.ref x1)])) t := by
      intro t kt
      refine st292 _ ?_
      refine st295 _ ?_
      show Steps p.tables e below (T295.setTop (mkF m 51 #[.val (.ref x1), .val (.ref t1), .val (.int (0 : Int32)), .val (.int (3 : Int32)), .val .null, .val (.ref t5)] [])) _
      refine XS.aloadN X295.here hx rfl (hb hby d3_51) rfl rfl ?_
      refine XS.aload X295.here hx rfl (hb hby d3_52) rfl rfl ?_
      refine st298 _ ?_
      exact kt
    obtain ⟨fs, hr, hrun, hended, hW, hsame⟩ := X298.leave (v := none) (fun _ => rfl)
    refine ⟨_, _, (pre0 _ (pre291 _ (pre302 _ ?_))), hrun, hended, _, _, rfl, ?_, ⟨_, rfl⟩, hW, hsame.mono (by decide) (by decide)⟩
    · show Steps p.tables e below (T298.setTop (mkF m 57 #[.val (.ref x1), .val (.ref t1), .val (.int (0 : Int32)), .val (.int (3 : Int32)), .val .null, .val (.ref t5)] [])) _
      exact X298.returnOut hx Bd.returns (hb hby d3_57) hr
    · show QI4_3 Z x1 t1 kc c0 c1 c2 zc h0 n0 _ T298.heap _
      rw [e298]
      exact ⟨rfl, N298, K298, t5, k5, f299, Fw298, Or.inl ⟨f300, f301, hl⟩⟩
  · skip
    obtain ⟨_, _, ⟨T303, L303, k303, n303⟩, -, X303, ⟨Lc303, hQ303, l303, y303, z303⟩, st303⟩ := Jvm.LawKit.callS X290 hx (y := (⟨"java/lang/StringUTF16", "coderFromArrayLen", "([BI)B"⟩ : MethodName)) hown (mvT hZ (tw hw 50 rfl)) (mvT hZ (tw hw 51 rfl)) (mvT hZ (tw hw 45 rfl)) (mvT hZ (tw hw 52 rfl)) (by decide) (backOf (W := 1) (rmCFU l Z a0 hw [] t5 k5 3 ([c0, c1, c2].flatMap own_U) T290.heap n0 Z290 V5 (by decide) (by decide)) hZ (tw hw 52 rfl) (tw hw 45 rfl) (by decide) (by decide)) (g := (mkF m 45 #[.val (.ref x1), .val (.ref t1), .val (.int (0 : Int32)), .val (.int (3 : Int32)), .val .null, .val (.ref t5)] [(.int (3 : Int32)), (.ref t5), (.ref x1)])) rfl (by rw [hml]; rfl) (argsL := [(.ref t5), (.int (3 : Int32))]) (rest := [(.ref x1)]) (lenOf pd___BI_B rfl) rfl (by show 2 * 0 + _ ≤ _; exact Nat.le_of_eq rfl) (hb hby d3_45) (fun _ _ => ⟨rfl, rfl, (by decide : 2 + 0 ≤ _), (by decide : 13 + 0 ≤ _)⟩)
    dsimp only [Pt.U, Pt.locs, Pt.cells, Pt.slots] at X303 l303 y303 z303 st303 hQ303
    subst l303 y303 z303
    obtain ⟨rfl, N303q, EQ303⟩ := hQ303
    have N303 := Fr.app N290 N303q
    have K303 := own_keq EQ303 K290
    have f304 := (EQ303 ▸ (XC0.ext EX290))
    have f305 := (EQ303 ▸ (XE.ext EX290))
    obtain ⟨T306, h306, X306, e306, W306, st306⟩ := putFN X303 hx hZ hown (tw hw 27 rfl) Via.refl rfl f304 f305 (Or.inr ⟨(tw hw 23 rfl), rfl, hnm⟩) (tw hw 7 rfl) (ty := .byte) (v' := (.int (1 : Int32))) (by decide) rfl rfl (g := (mkF m 48 #[.val (.ref x1), .val (.ref t1), .val (.int (0 : Int32)), .val (.int (3 : Int32)), .val .null, .val (.ref t5)] [(.int (1 : Int32)), (.ref x1)])) rfl rfl (hb hby d3_48)
    have N306 := Fr.snoc X306 N303 g_x1
    have K306 := K303.wr W306 (Or.inl mem_x1)
    have Fw306 := f304.same W306
    have f307 := ((EQ303 ▸ (XV0.ext EX290)).other W306 (Or.inr (slot_ne (Or.inr (tw hw 22 rfl)) (Or.inr (tw hw 23 rfl)) (by decide) (t := (.array .byte)) (t' := .byte) (by decide) (by decide))))
    have f308 := (f305.wr W306)
    obtain ⟨T309, h309, X309, e309, W309, st309⟩ := putF X306 hx hZ hown (host := "") (Or.inl (tw hw 26 rfl)) Via.refl e306 f307 f308 (Or.inr ⟨(tw hw 22 rfl), rfl, hnm⟩) (tw hw 7 rfl) (ty := (.array .byte)) (by decide) rfl rfl (g := (mkF m 54 #[.val (.ref x1), .val (.ref t1), .val (.int (0 : Int32)), .val (.int (3 : Int32)), .val .null, .val (.ref t5)] [(.ref t5), (.ref x1)])) rfl rfl (hb hby d3_54)
    have N309 := Fr.snoc X309 N306 g_x1
    have K309 := K306.wr W309 (Or.inl mem_x1)
    have Fw309 := f307.same W309
    have f310 := (f308.wr W309)
    have f311 := (Fw306.other W309 (Or.inr (slot_ne (Or.inr (tw hw 23 rfl)) (Or.inr (tw hw 22 rfl)) (by decide) (t := .byte) (t' := (.array .byte)) (by decide) (by decide))))
    have f312 := (((EQ303 ▸ V5).other W306 (Ne.symm ne_x1_t5)).other W309 (Ne.symm ne_x1_t5))
    have pre313 : ∀ t, Steps p.tables e below (T309.setTop (mkF m 57 #[.val (.ref x1), .val (.ref t1), .val (.int (0 : Int32)), .val (.int (3 : Int32)), .val .null, .val (.ref t5)] [])) t → Steps p.tables e below (T290.setTop (mkF m 45 #[.val (.ref x1), .val (.ref t1), .val (.int (0 : Int32)), .val (.int (3 : Int32)), .val .null, .val (.ref t5)] [(.int (3 : Int32)), (.ref t5), (.ref x1)])) t := by
      intro t kt
      refine st303 _ ?_
      refine st306 _ ?_
      show Steps p.tables e below (T306.setTop (mkF m 51 #[.val (.ref x1), .val (.ref t1), .val (.int (0 : Int32)), .val (.int (3 : Int32)), .val .null, .val (.ref t5)] [])) _
      refine XS.aloadN X306.here hx rfl (hb hby d3_51) rfl rfl ?_
      refine XS.aload X306.here hx rfl (hb hby d3_52) rfl rfl ?_
      refine st309 _ ?_
      exact kt
    obtain ⟨fs, hr, hrun, hended, hW, hsame⟩ := X309.leave (v := none) (fun _ => rfl)
    refine ⟨_, _, (pre0 _ (pre291 _ (pre313 _ ?_))), hrun, hended, _, _, rfl, ?_, ⟨_, rfl⟩, hW, hsame.mono (by decide) (by decide)⟩
    · show Steps p.tables e below (T309.setTop (mkF m 57 #[.val (.ref x1), .val (.ref t1), .val (.int (0 : Int32)), .val (.int (3 : Int32)), .val .null, .val (.ref t5)] [])) _
      exact X309.returnOut hx Bd.returns (hb hby d3_57) hr
    · show QI4_3 Z x1 t1 kc c0 c1 c2 zc h0 n0 _ T309.heap _
      rw [e309]
      exact ⟨rfl, N309, K309, t5, k5, f310, Fw309, Or.inr ⟨f311, f312⟩⟩
theorem ef_I1_3 (m : MethodId) (x0 : Addr) (x1 : Addr) : entryFrame m #[(.ref x0), (.ref x1)] 2 = mkF m 0 #[.val (.ref x0), .val (.ref x1)] [] := by (first | (simp [entryFrame, mkF, argsToLocals, Value.category]; done) | rfl)
def QI1_3 (Z : State) (x1 : Addr) (t1 : Addr) (kc : ClassId) (c0 : Int32) (c1 : Int32) (c2 : Int32) (zc : Int32) (h0 : Heap) (n0 : Nat) (v : Option Value) (h : Heap) (L : List Loc) : Prop := v = none ∧ Fr n0 L ∧ Keep h0 h [x1] ∧ own_str Z h x1 [c0, c1, c2]
set_option maxRecDepth 65536 in
set_option maxHeartbeats 40000000 in
theorem rmI1_3 (l : Launch) (Z : State) (a0 : Array Value) (hw : ∀ d ∈ tables_1, d.before a0 Z = true) (ws : List Jvm.Cond) (x1 : Addr) (t1 : Addr) (kc : ClassId) (c0 : Int32) (c1 : Int32) (c2 : Int32) (zc : Int32) (h0 : Heap) (n0 : Nat) (Z0 : n0 ≤ h0.size) (XE : Exa Z h0 x1 "java/lang/String") (XV0 : Fld Z h0 x1 "java/lang/String" "value" "[B" .null) (XC0 : Fld Z h0 x1 "java/lang/String" "coder" "B" (.int (0 : Int32))) (g_x1 : n0 ≤ x1) (KT : Arv Z h0 t1 kc .char (3 : Int32) [(.int c0), (.int c1), (.int c2)] (.int (0 : Int32))) (hc0 : nar .char c0 = c0) (hc1 : nar .char c1 = c1) (hc2 : nar .char c2 = c2) (OZ : Old Z n0 h0) (SC : Sta Z Z.heap "java/lang/String" "COMPACT_STRINGS" "Z" (.int zc)) (hzc : ¬ zc = (0 : Int32)) (SA : Sta Z Z.heap "java/lang/StringUTF16" "$assertionsDisabled" "Z" (.int (1 : Int32))) (SH : Sta Z Z.heap "java/lang/StringUTF16" "HI_BYTE_SHIFT" "I" (.int (0 : Int32))) (SL : Sta Z Z.heap "java/lang/StringUTF16" "LO_BYTE_SHIFT" "I" (.int (8 : Int32))) :
    MetFree l (⟨"java/lang/String", "<init>", "([C)V"⟩ : MethodName) (head1 (Jvm.Cond.code (⟨"java/lang/String", "<init>", "([C)V"⟩ : MethodName) jdk_42_method_3_code 2 none :: ws) ({ frames := 5, cells := 2, slots := 13, locals := 82 } : Room)) (fun a U => a = #[(.ref x1), (.ref t1)] ∧ Z.Warmed39 U.vm ∧ U.heap = h0) (fun _ _ _ _ _ => True) (fun _ U o U' => ∃ v L, o = .returned v ∧ QI1_3 Z x1 t1 kc c0 c1 c2 zc h0 n0 v U'.heap L ∧ FrameEnd U o U' L ({ frames := 5, cells := 2, slots := 13, locals := 82 } : Room).cells ({ frames := 5, cells := 2, slots := 13, locals := 82 } : Room).slots) := by
  refine MetFree.of_bodySF (plainFor_of_name pn_java_lang_String) hisR ?_
  intro p e s m args below meth c s₁ Bd hml0 hP hK
  obtain ⟨rfl, hZ, hh⟩ := hP
  have hx := Bd.exec
  have hby := Bd.bytes
  have hml : c.maxLocals = 2 := hml0
  have hown : s.vm.findClass "java/lang/String" = some m.cls := findClass_of_methodNamed Bd.named
  have hnm := (name_of_methodNamed Bd.named Bd.method).1
  have X0 : Stand p l e ({ frames := 5, cells := 2, slots := 13, locals := 82 } : Room) s m #[(.ref x1), (.ref t1)] below meth c s₁ [] 0 0 := Stand.of_body Bd
  have e0 : s₁.heap = h0 := by rw [← hh, Bd.state]; rfl
  have N0 := Fr.nil n0
  have pre0 : ∀ t, Steps p.tables e below (s₁.setTop (mkF m 0 #[.val (.ref x1), .val (.ref t1)] [])) t → Steps p.tables e below (s₁.setTop (entryFrame m #[(.ref x1), (.ref t1)] 2)) t := fun t k => castTop (ef_I1_3 m x1 t1) k
  have mem_x1 : x1 ∈ [x1] := List.mem_of_getElem? (i := 0) rfl
  obtain ⟨c314, Ar314, -, S314, M314, -, -⟩ := id KT
  obtain ⟨_, _, ⟨T315, L315, k315, n315⟩, -, X315, ⟨Lc315, hQ315, l315, y315, z315⟩, st315⟩ := X0.specialBack hx (y := (⟨"java/lang/String", "<init>", "([CIILjava/lang/Void;)V"⟩ : MethodName)) rfl hown (mvT hZ (tw hw 13 rfl)) (mvT hZ (tw hw 14 rfl)) (mvT hZ (tw hw 16 rfl)) (by decide) (backOf (W := 0) (rmI4_3 l Z a0 hw [] x1 t1 kc c0 c1 c2 zc h0 n0 Z0 XE XV0 XC0 g_x1 KT hc0 hc1 hc2 OZ SC hzc SA SH SL) hZ (tw hw 16 rfl) (tw hw 8 rfl) (by decide) (by decide)) (g := (mkF m 6 #[.val (.ref x1), .val (.ref t1)] [.null, (.int (3 : Int32)), (.int (0 : Int32)), (.ref t1), (.ref x1)])) rfl (by rw [hml]; rfl) (Steps.refl _) (a := x1) (argsL := [(.ref t1), (.int (0 : Int32)), (.int (3 : Int32)), .null]) (rest := []) (lenOf pd___CIILjava_lang_Void__V rfl) rfl (by show 2 * 0 + _ ≤ _; exact Nat.le_of_eq rfl) (hb hby d2_6) (fun _ _ => ⟨rfl, e0, (by decide : 0 + 2 ≤ _), (by decide : 0 + 13 ≤ _)⟩)
  dsimp only [Pt.U, Pt.locs, Pt.cells, Pt.slots] at X315 l315 y315 z315 st315 hQ315
  subst l315 y315 z315
  obtain ⟨rfl, N315q, KC315, SP⟩ := hQ315
  have N315 := Fr.app N0 N315q
  have K315 := (Keep.refl h0 [x1]).trans KC315 (allS (Or.inl mem_x1) all0)
  have pre316 : ∀ t, Steps p.tables e below (T315.setTop (mkF m 9 #[.val (.ref x1), .val (.ref t1)] [])) t → Steps p.tables e below (s₁.setTop (mkF m 0 #[.val (.ref x1), .val (.ref t1)] [])) t := by
    intro t kt
    show Steps p.tables e below (s₁.setTop (mkF m 0 #[.val (.ref x1), .val (.ref t1)] [])) _
    refine XS.aloadN X0.here hx rfl (hb hby d2_0) rfl rfl ?_
    refine XS.aloadN X0.here hx rfl (hb hby d2_1) rfl rfl ?_
    refine XS.iconst X0.here hx rfl (hb hby d2_2) ?_
    refine XS.aloadN X0.here hx rfl (hb hby d2_3) rfl rfl ?_
    refine X0.arraylength hx (by rw [e0]; exact Ar314.1) (State.isArrayOf_alike hZ.alike Ar314.2.1) (g := (mkF m 4 #[.val (.ref x1), .val (.ref t1)] [(.ref t1), (.int (0 : Int32)), (.ref t1), (.ref x1)])) rfl rfl (hb hby d2_4) _ ?_
    rw [len_of S314 M314]
    show Steps p.tables e below (s₁.setTop (mkF m 5 #[.val (.ref x1), .val (.ref t1)] [(.int (3 : Int32)), (.int (0 : Int32)), (.ref t1), (.ref x1)])) _
    refine XS.aconstNull X0.here hx rfl (hb hby d2_5) ?_
    refine st315.trans ?_
    exact kt
  obtain ⟨fs, hr, hrun, hended, hW, hsame⟩ := X315.leave (v := none) (fun _ => rfl)
  refine ⟨_, _, (pre0 _ (pre316 _ ?_)), hrun, hended, _, _, rfl, ?_, ⟨_, rfl⟩, hW, hsame.mono (by decide) (by decide)⟩
  · show Steps p.tables e below (T315.setTop (mkF m 9 #[.val (.ref x1), .val (.ref t1)] [])) _
    exact X315.returnOut hx Bd.returns (hb hby d2_9) hr
  · show QI1_3 Z x1 t1 kc c0 c1 c2 zc h0 n0 _ T315.heap _
    exact ⟨rfl, N315, K315, SP⟩
theorem ef_Mk3 (m : MethodId) (x0 : Int32) (x1 : Int32) (x2 : Int32) (x3 : Int32) (x4 : Int32) (x5 : Int32) : entryFrame m #[(.int x0), (.int x1), (.int x2), (.int x3), (.int x4), (.int x5)] 6 = mkF m 0 #[.val (.int x0), .val (.int x1), .val (.int x2), .val (.int x3), .val (.int x4), .val (.int x5)] [] := by (first | (simp [entryFrame, mkF, argsToLocals, Value.category]; done) | rfl)
def QMk3 (Z : State) (c0 : Int32) (c1 : Int32) (c2 : Int32) (c3 : Int32) (c4 : Int32) (zc : Int32) (h0 : Heap) (n0 : Nat) (v : Option Value) (h : Heap) (L : List Loc) : Prop := ∃ x2, v = some (.ref x2) ∧ Fr n0 L ∧ Ext h0 h ∧ Exa Z h x2 "java/lang/String" ∧ own_str Z h x2 [c0, c1, c2]
theorem d1_49 : decode method_4_code 49 = .ok (.iload_n 0, 1) := by decide +kernel
theorem d1_50 : decode method_4_code 50 = .ok (.iconst 3, 1) := by decide +kernel
theorem d1_51 : decode method_4_code 51 = .ok (.if_icmp .ne 26, 3) := by decide +kernel
theorem d1_54 : decode method_4_code 54 = .ok (.new 25, 3) := by decide +kernel
theorem d1_57 : decode method_4_code 57 = .ok (.dup, 1) := by decide +kernel
theorem d1_58 : decode method_4_code 58 = .ok (.iconst 3, 1) := by decide +kernel
theorem d1_59 : decode method_4_code 59 = .ok (.newarray .char, 2) := by decide +kernel
theorem d1_61 : decode method_4_code 61 = .ok (.dup, 1) := by decide +kernel
theorem d1_62 : decode method_4_code 62 = .ok (.iconst 0, 1) := by decide +kernel
theorem d1_63 : decode method_4_code 63 = .ok (.iload_n 1, 1) := by decide +kernel
theorem d1_64 : decode method_4_code 64 = .ok (.castore, 1) := by decide +kernel
theorem d1_65 : decode method_4_code 65 = .ok (.dup, 1) := by decide +kernel
theorem d1_66 : decode method_4_code 66 = .ok (.iconst 1, 1) := by decide +kernel
theorem d1_67 : decode method_4_code 67 = .ok (.iload_n 2, 1) := by decide +kernel
theorem d1_68 : decode method_4_code 68 = .ok (.castore, 1) := by decide +kernel
theorem d1_69 : decode method_4_code 69 = .ok (.dup, 1) := by decide +kernel
theorem d1_70 : decode method_4_code 70 = .ok (.iconst 2, 1) := by decide +kernel
theorem d1_71 : decode method_4_code 71 = .ok (.iload_n 3, 1) := by decide +kernel
theorem d1_72 : decode method_4_code 72 = .ok (.castore, 1) := by decide +kernel
theorem d1_73 : decode method_4_code 73 = .ok (.invokespecial 27, 3) := by decide +kernel
theorem d1_76 : decode method_4_code 76 = .ok (.areturn, 1) := by decide +kernel
set_option maxRecDepth 65536 in
set_option maxHeartbeats 40000000 in
theorem rmMk3 (l : Launch) (Z : State) (a0 : Array Value) (hw : ∀ d ∈ tables_1, d.before a0 Z = true) (ws : List Jvm.Cond) (c0 : Int32) (c1 : Int32) (c2 : Int32) (c3 : Int32) (c4 : Int32) (zc : Int32) (h0 : Heap) (n0 : Nat) (Z0 : n0 ≤ h0.size) (hc0 : nar .char c0 = c0) (hc1 : nar .char c1 = c1) (hc2 : nar .char c2 = c2) (OZ : Old Z n0 h0) (SC : Sta Z Z.heap "java/lang/String" "COMPACT_STRINGS" "Z" (.int zc)) (hzc : ¬ zc = (0 : Int32)) (SA : Sta Z Z.heap "java/lang/StringUTF16" "$assertionsDisabled" "Z" (.int (1 : Int32))) (SH : Sta Z Z.heap "java/lang/StringUTF16" "HI_BYTE_SHIFT" "I" (.int (0 : Int32))) (SL : Sta Z Z.heap "java/lang/StringUTF16" "LO_BYTE_SHIFT" "I" (.int (8 : Int32))) :
    MetFree l (⟨"com/example/corvid/corvid/classfile/ConstantPoolModifiedUtf8LengthPinLaw", "make", "(ICCCCC)Ljava/lang/String;"⟩ : MethodName) (head1 (Jvm.Cond.code (⟨"com/example/corvid/corvid/classfile/ConstantPoolModifiedUtf8LengthPinLaw", "make", "(ICCCCC)Ljava/lang/String;"⟩ : MethodName) method_4_code 6 (some (.object "java/lang/String")) :: ws) ({ frames := 6, cells := 4, slots := 26, locals := 97 } : Room)) (fun a U => a = #[(.int (3 : Int32)), (.int c0), (.int c1), (.int c2), (.int c3), (.int c4)] ∧ Z.Warmed39 U.vm ∧ U.heap = h0) (fun _ _ _ _ _ => True) (fun _ U o U' => ∃ v L, o = .returned v ∧ QMk3 Z c0 c1 c2 c3 c4 zc h0 n0 v U'.heap L ∧ FrameEnd U o U' L ({ frames := 6, cells := 4, slots := 26, locals := 97 } : Room).cells ({ frames := 6, cells := 4, slots := 26, locals := 97 } : Room).slots) := by
  refine MetFree.of_bodySF (plainFor_of_name pn_com_example_corvid_corvid_classfile_ConstantPoolModifiedUtf8LengthPinLaw) hisR ?_
  intro p e s m args below meth c s₁ Bd hml0 hP hK
  obtain ⟨rfl, hZ, hh⟩ := hP
  have hx := Bd.exec
  have hby := Bd.bytes
  have hml : c.maxLocals = 6 := hml0
  have hown : s.vm.findClass "com/example/corvid/corvid/classfile/ConstantPoolModifiedUtf8LengthPinLaw" = some m.cls := findClass_of_methodNamed Bd.named
  have hnm := (name_of_methodNamed Bd.named Bd.method).1
  have X0 : Stand p l e ({ frames := 6, cells := 4, slots := 26, locals := 97 } : Room) s m #[(.int (3 : Int32)), (.int c0), (.int c1), (.int c2), (.int c3), (.int c4)] below meth c s₁ [] 0 0 := Stand.of_body Bd
  have e0 : s₁.heap = h0 := by rw [← hh, Bd.state]; rfl
  have N0 := Fr.nil n0
  have pre0 : ∀ t, Steps p.tables e below (s₁.setTop (mkF m 0 #[.val (.int (3 : Int32)), .val (.int c0), .val (.int c1), .val (.int c2), .val (.int c3), .val (.int c4)] [])) t → Steps p.tables e below (s₁.setTop (entryFrame m #[(.int (3 : Int32)), (.int c0), (.int c1), (.int c2), (.int c3), (.int c4)] 6)) t := fun t k => castTop (ef_Mk3 m (3 : Int32) c0 c1 c2 c3 c4) k
  obtain ⟨T317, h317, X317, e317, E317, A317, D317, -, st317⟩ := newO X0 hx hZ hown (tw hw 6 rfl) (tw hw 7 rfl) (tw hw 8 rfl) e0 (g := (mkF m 54 #[.val (.int (3 : Int32)), .val (.int c0), .val (.int c1), .val (.int c2), .val (.int c3), .val (.int c4)] [])) rfl (hb hby d1_54) (by decide) (by decide)
  obtain ⟨b317, g317⟩ : ∃ z, z = h0.size := ⟨_, rfl⟩
  rw [← g317] at A317 D317 st317
  have g_b317 : n0 ≤ b317 := Nat.le_trans Z0 (Nat.le_of_eq g317.symm)
  have sz_b317 : h0.size ≤ b317 := Nat.le_trans (Keep.refl h0 []).1 (Nat.le_of_eq g317.symm)
  have Z317 := Nat.le_trans Z0 E317.1
  have K317 := (Keep.refl h0 []).ext E317
  have F317_value : Fld Z h317 b317 "java/lang/String" "value" "[B" .null := D317 (Or.inr (tw hw 22 rfl)) (ty := (.array .byte)) (by decide)
  have F317_coder : Fld Z h317 b317 "java/lang/String" "coder" "B" (.int (0 : Int32)) := D317 (Or.inr (tw hw 23 rfl)) (ty := .byte) (by decide)
  obtain ⟨T318, h318, k318, X318, e318, E318, A318, st318⟩ := newP X317 hx hZ (tw hw 9 rfl) e317 (g := (mkF m 59 #[.val (.int (3 : Int32)), .val (.int c0), .val (.int c1), .val (.int c2), .val (.int c3), .val (.int c4)] [(.int (3 : Int32)), (.ref b317), (.ref b317)])) rfl (hb hby d1_59) rfl (by decide) (cap := 3) (by decide) (by decide) (by decide) (by decide)
  obtain ⟨b318, g318⟩ : ∃ z, z = h317.size := ⟨_, rfl⟩
  rw [← g318] at A318 st318
  have g_b318 : n0 ≤ b318 := Nat.le_trans Z317 (Nat.le_of_eq g318.symm)
  have sz_b318 : h0.size ≤ b318 := Nat.le_trans K317.1 (Nat.le_of_eq g318.symm)
  have ne_b317_b318 : b317 ≠ b318 := Nat.ne_of_lt (Nat.lt_of_lt_of_le A317.lt (Nat.le_of_eq g318.symm))
  have Z318 := Nat.le_trans Z317 E318.1
  have K318 := K317.ext E318
  have V318 : Arv Z h318 b318 k318 .char (3 : Int32) [(.int (0 : Int32)), (.int (0 : Int32)), (.int (0 : Int32))] (.int (0 : Int32)) := (Arv.new A318 (by decide)).pad (pad_rep [] (.int (0 : Int32)) 3)
  obtain ⟨c319, Ar319, q319, S319, M319, H319, G319⟩ := id V318
  have hin319 : ¬ ((0 : Int32) < 0 ∨ c319.slots.size ≤ ((0 : Int32)).toNatClampNeg) := inb_of S319 ⟨by decide, by decide⟩
  obtain ⟨T320, h320, X320, e320, W320, st320⟩ := stC X318 hx hZ e318 Ar319 (j := (0 : Int32)) hin319 (g := (mkF m 64 #[.val (.int (3 : Int32)), .val (.int c0), .val (.int c1), .val (.int c2), .val (.int c3), .val (.int c4)] [(.int c0), (.int (0 : Int32)), (.ref b318), (.ref b318), (.ref b317), (.ref b317)])) rfl rfl (hb hby d1_64)
  have N320 := Fr.snoc X320 N0 g_b318
  have Z320 := Nat.le_trans Z318 (Keep.of_wr W320).1
  have K320 := K318.wr W320 (Or.inr sz_b318)
  have V320 : Arv Z h320 b318 k318 .char (3 : Int32) [(.int (nar .char c0)), (.int (0 : Int32)), (.int (0 : Int32))] (.int (0 : Int32)) := Arv.set Ar319 q319 S319 M319 H319 G319 (fits_nar_char _) W320 0 rfl (Nat.le_of_ble_eq_true rfl)
  obtain ⟨c321, Ar321, q321, S321, M321, H321, G321⟩ := id V320
  have hin321 : ¬ ((1 : Int32) < 0 ∨ c321.slots.size ≤ ((1 : Int32)).toNatClampNeg) := inb_of S321 ⟨by decide, by decide⟩
  obtain ⟨T322, h322, X322, e322, W322, st322⟩ := stC X320 hx hZ e320 Ar321 (j := (1 : Int32)) hin321 (g := (mkF m 68 #[.val (.int (3 : Int32)), .val (.int c0), .val (.int c1), .val (.int c2), .val (.int c3), .val (.int c4)] [(.int c1), (.int (1 : Int32)), (.ref b318), (.ref b318), (.ref b317), (.ref b317)])) rfl rfl (hb hby d1_68)
  have N322 := Fr.snoc X322 N320 g_b318
  have Z322 := Nat.le_trans Z320 (Keep.of_wr W322).1
  have K322 := K320.wr W322 (Or.inr sz_b318)
  have V322 : Arv Z h322 b318 k318 .char (3 : Int32) [(.int (nar .char c0)), (.int (nar .char c1)), (.int (0 : Int32))] (.int (0 : Int32)) := Arv.set Ar321 q321 S321 M321 H321 G321 (fits_nar_char _) W322 1 rfl (Nat.le_of_ble_eq_true rfl)
  obtain ⟨c323, Ar323, q323, S323, M323, H323, G323⟩ := id V322
  have hin323 : ¬ ((2 : Int32) < 0 ∨ c323.slots.size ≤ ((2 : Int32)).toNatClampNeg) := inb_of S323 ⟨by decide, by decide⟩
  obtain ⟨T324, h324, X324, e324, W324, st324⟩ := stC X322 hx hZ e322 Ar323 (j := (2 : Int32)) hin323 (g := (mkF m 72 #[.val (.int (3 : Int32)), .val (.int c0), .val (.int c1), .val (.int c2), .val (.int c3), .val (.int c4)] [(.int c2), (.int (2 : Int32)), (.ref b318), (.ref b318), (.ref b317), (.ref b317)])) rfl rfl (hb hby d1_72)
  have N324 := Fr.snoc X324 N322 g_b318
  have Z324 := Nat.le_trans Z322 (Keep.of_wr W324).1
  have K324 := K322.wr W324 (Or.inr sz_b318)
  have V324 : Arv Z h324 b318 k318 .char (3 : Int32) [(.int (nar .char c0)), (.int (nar .char c1)), (.int (nar .char c2))] (.int (0 : Int32)) := Arv.set Ar323 q323 S323 M323 H323 G323 (fits_nar_char _) W324 2 rfl (Nat.le_of_ble_eq_true rfl)
  have VT : Arv Z h324 b318 k318 .char (3 : Int32) [(.int c0), (.int c1), (.int c2)] (.int (0 : Int32)) := by have q := V324; rw [hc0, hc1, hc2] at q; exact q
  have f325 := ((((A317.ext E318).wr W320).wr W322).wr W324)
  have f326 := ((((F317_value.ext E318).other W320 (Or.inl ne_b317_b318)).other W322 (Or.inl ne_b317_b318)).other W324 (Or.inl ne_b317_b318))
  have f327 := ((((F317_coder.ext E318).other W320 (Or.inl ne_b317_b318)).other W322 (Or.inl ne_b317_b318)).other W324 (Or.inl ne_b317_b318))
  have f328 := (((((OZ.ext E317).ext E318).wr W320 g_b318).wr W322 g_b318).wr W324 g_b318)
  obtain ⟨_, _, ⟨T329, L329, k329, n329⟩, -, X329, ⟨Lc329, hQ329, l329, y329, z329⟩, st329⟩ := X324.specialBack hx (y := (⟨"java/lang/String", "<init>", "([C)V"⟩ : MethodName)) rfl hown (mvT hZ (tw hw 10 rfl)) (mvT hZ (tw hw 11 rfl)) (mvT hZ (tw hw 12 rfl)) (by decide) (backOf (W := 1) (rmI1_3 l Z a0 hw [] b317 b318 k318 c0 c1 c2 zc h324 n0 Z324 f325 f326 f327 g_b317 VT hc0 hc1 hc2 f328 SC hzc SA SH SL) hZ (tw hw 12 rfl) (tw hw 8 rfl) (by decide) (by decide)) (g := (mkF m 73 #[.val (.int (3 : Int32)), .val (.int c0), .val (.int c1), .val (.int c2), .val (.int c3), .val (.int c4)] [(.ref b318), (.ref b317), (.ref b317)])) rfl (by rw [hml]; rfl) (Steps.refl _) (a := b317) (argsL := [(.ref b318)]) (rest := [(.ref b317)]) (lenOf pd___C_V rfl) rfl (by show 2 * 0 + _ ≤ _; exact Nat.le_of_eq rfl) (hb hby d1_73) (fun _ _ => ⟨rfl, e324, (by decide : 2 + 2 ≤ _), (by decide : 7 + 13 ≤ _)⟩)
  dsimp only [Pt.U, Pt.locs, Pt.cells, Pt.slots] at X329 l329 y329 z329 st329 hQ329
  subst l329 y329 z329
  obtain ⟨rfl, N329q, KC329, SP⟩ := hQ329
  have N329 := Fr.app N324 N329q
  have K329 := K324.trans KC329 (allS (Or.inr sz_b317) all0)
  have f330 := (f325.keep KC329)
  have pre331 : ∀ t, Steps p.tables e below (T329.setTop (mkF m 76 #[.val (.int (3 : Int32)), .val (.int c0), .val (.int c1), .val (.int c2), .val (.int c3), .val (.int c4)] [(.ref b317)])) t → Steps p.tables e below (s₁.setTop (mkF m 0 #[.val (.int (3 : Int32)), .val (.int c0), .val (.int c1), .val (.int c2), .val (.int c3), .val (.int c4)] [])) t := by
    intro t kt
    show Steps p.tables e below (s₁.setTop (mkF m 0 #[.val (.int (3 : Int32)), .val (.int c0), .val (.int c1), .val (.int c2), .val (.int c3), .val (.int c4)] [])) _
    refine XS.iloadN X0.here hx rfl (hb hby d1_0) rfl ?_
    refine XS.ifYes X0.here hx rfl (pc0 := 1) (pc' := 15) rfl (hb hby d1_1) rfl ((if0 _ _).trans (feq (by decide : ¬ ((3 : Int32) = (0 : Int32)))).2) (by decide) (by decide) ?_
    show Steps p.tables e below (s₁.setTop (mkF m 15 #[.val (.int (3 : Int32)), .val (.int c0), .val (.int c1), .val (.int c2), .val (.int c3), .val (.int c4)] [])) _
    refine XS.iloadN X0.here hx rfl (hb hby d1_15) rfl ?_
    refine XS.iconst X0.here hx rfl (hb hby d1_16) ?_
    refine XS.icmpYes X0.here hx rfl (pc0 := 17) (pc' := 25) rfl (hb hby d1_17) rfl (feq (by decide : ¬ ((3 : Int32) = (1 : Int32)))).2 (by decide) (by decide) ?_
    show Steps p.tables e below (s₁.setTop (mkF m 25 #[.val (.int (3 : Int32)), .val (.int c0), .val (.int c1), .val (.int c2), .val (.int c3), .val (.int c4)] [])) _
    refine XS.iloadN X0.here hx rfl (hb hby d1_25) rfl ?_
    refine XS.iconst X0.here hx rfl (hb hby d1_26) ?_
    refine XS.icmpYes X0.here hx rfl (pc0 := 27) (pc' := 49) rfl (hb hby d1_27) rfl (feq (by decide : ¬ ((3 : Int32) = (2 : Int32)))).2 (by decide) (by decide) ?_
    show Steps p.tables e below (s₁.setTop (mkF m 49 #[.val (.int (3 : Int32)), .val (.int c0), .val (.int c1), .val (.int c2), .val (.int c3), .val (.int c4)] [])) _
    refine XS.iloadN X0.here hx rfl (hb hby d1_49) rfl ?_
    refine XS.iconst X0.here hx rfl (hb hby d1_50) ?_
    refine XS.icmpNo X0.here hx rfl (hb hby d1_51) rfl (teq (by decide : (3 : Int32) = (3 : Int32))).2 ?_
    show Steps p.tables e below (s₁.setTop (mkF m 54 #[.val (.int (3 : Int32)), .val (.int c0), .val (.int c1), .val (.int c2), .val (.int c3), .val (.int c4)] [])) _
    refine st317 _ ?_
    show Steps p.tables e below (T317.setTop (mkF m 57 #[.val (.int (3 : Int32)), .val (.int c0), .val (.int c1), .val (.int c2), .val (.int c3), .val (.int c4)] [(.ref b317)])) _
    refine XS.dup X317.here hx rfl (hb hby d1_57) rfl rfl ?_
    refine XS.iconst X317.here hx rfl (hb hby d1_58) ?_
    show Steps p.tables e below (T317.setTop (mkF m 59 #[.val (.int (3 : Int32)), .val (.int c0), .val (.int c1), .val (.int c2), .val (.int c3), .val (.int c4)] [(.int (3 : Int32)), (.ref b317), (.ref b317)])) _
    refine st318 _ ?_
    show Steps p.tables e below (T318.setTop (mkF m 61 #[.val (.int (3 : Int32)), .val (.int c0), .val (.int c1), .val (.int c2), .val (.int c3), .val (.int c4)] [(.ref b318), (.ref b317), (.ref b317)])) _
    refine XS.dup X318.here hx rfl (hb hby d1_61) rfl rfl ?_
    refine XS.iconst X318.here hx rfl (hb hby d1_62) ?_
    refine XS.iloadN X318.here hx rfl (hb hby d1_63) rfl ?_
    show Steps p.tables e below (T318.setTop (mkF m 64 #[.val (.int (3 : Int32)), .val (.int c0), .val (.int c1), .val (.int c2), .val (.int c3), .val (.int c4)] [(.int c0), (.int (0 : Int32)), (.ref b318), (.ref b318), (.ref b317), (.ref b317)])) _
    refine st320 _ ?_
    show Steps p.tables e below (T320.setTop (mkF m 65 #[.val (.int (3 : Int32)), .val (.int c0), .val (.int c1), .val (.int c2), .val (.int c3), .val (.int c4)] [(.ref b318), (.ref b317), (.ref b317)])) _
    refine XS.dup X320.here hx rfl (hb hby d1_65) rfl rfl ?_
    refine XS.iconst X320.here hx rfl (hb hby d1_66) ?_
    refine XS.iloadN X320.here hx rfl (hb hby d1_67) rfl ?_
    show Steps p.tables e below (T320.setTop (mkF m 68 #[.val (.int (3 : Int32)), .val (.int c0), .val (.int c1), .val (.int c2), .val (.int c3), .val (.int c4)] [(.int c1), (.int (1 : Int32)), (.ref b318), (.ref b318), (.ref b317), (.ref b317)])) _
    refine st322 _ ?_
    show Steps p.tables e below (T322.setTop (mkF m 69 #[.val (.int (3 : Int32)), .val (.int c0), .val (.int c1), .val (.int c2), .val (.int c3), .val (.int c4)] [(.ref b318), (.ref b317), (.ref b317)])) _
    refine XS.dup X322.here hx rfl (hb hby d1_69) rfl rfl ?_
    refine XS.iconst X322.here hx rfl (hb hby d1_70) ?_
    refine XS.iloadN X322.here hx rfl (hb hby d1_71) rfl ?_
    show Steps p.tables e below (T322.setTop (mkF m 72 #[.val (.int (3 : Int32)), .val (.int c0), .val (.int c1), .val (.int c2), .val (.int c3), .val (.int c4)] [(.int c2), (.int (2 : Int32)), (.ref b318), (.ref b318), (.ref b317), (.ref b317)])) _
    refine st324 _ ?_
    refine st329.trans ?_
    exact kt
  obtain ⟨fs, hr, hrun, hended, hW, hsame⟩ := X329.leave (v := some (.ref b317)) (fun h => by rw [Bd.returns] at h; cases h)
  refine ⟨_, _, (pre0 _ (pre331 _ ?_)), hrun, hended, _, _, rfl, ?_, ⟨_, rfl⟩, hW, hsame.mono (by decide) (by decide)⟩
  · show Steps p.tables e below (T329.setTop (mkF m 76 #[.val (.int (3 : Int32)), .val (.int c0), .val (.int c1), .val (.int c2), .val (.int c3), .val (.int c4)] [(.ref b317)])) _
    exact retOut X329 hx (t := (.object "java/lang/String")) Bd.returns rfl (Or.inr (Or.inr (Or.inr (Or.inr ⟨rfl, rfl, rfl⟩)))) (hb hby d1_76) hr
  · show QMk3 Z c0 c1 c2 c3 c4 zc h0 n0 _ T329.heap _
    exact ⟨b317, rfl, N329, own_ext K329, f330, SP⟩
theorem ef_Cp4 (m : MethodId) (x0 : Addr) (x1 : Int32) (x2 : Addr) (x3 : Int32) (x4 : Int32) : entryFrame m #[(.ref x0), (.int x1), (.ref x2), (.int x3), (.int x4)] 7 = mkF m 0 #[.val (.ref x0), .val (.int x1), .val (.ref x2), .val (.int x3), .val (.int x4), .unset, .unset] [] := by (first | (simp [entryFrame, mkF, argsToLocals, Value.category]; done) | rfl)
def QCp4 (Z : State) (t1 : Addr) (kc : ClassId) (t3 : Addr) (k3 : ClassId) (c0 : Int32) (c1 : Int32) (c2 : Int32) (c3 : Int32) (h0 : Heap) (n0 : Nat) (v : Option Value) (h : Heap) (L : List Loc) : Prop := ∃ k : Nat, v = some (.int (Int32.ofNat k)) ∧ Fr n0 L ∧ Keep h0 h [t3] ∧ ((k = 4 ∧ Arv Z h t3 k3 .byte (4 : Int32) [(.int (nar .byte (c0.toInt8.toInt32))), (.int (nar .byte (c1.toInt8.toInt32))), (.int (nar .byte (c2.toInt8.toInt32))), (.int (nar .byte (c3.toInt8.toInt32)))] (.int (0 : Int32)) ∧ ¬ ((255 : Int32) < c0) ∧ ¬ ((255 : Int32) < c1) ∧ ¬ ((255 : Int32) < c2) ∧ ¬ ((255 : Int32) < c3)) ∨ (k < 4 ∧ (255 : Int32) < [c0, c1, c2, c3].getD k 0))
set_option maxRecDepth 65536 in
set_option maxHeartbeats 40000000 in
theorem rmCp4 (l : Launch) (Z : State) (a0 : Array Value) (hw : ∀ d ∈ tables_1, d.before a0 Z = true) (ws : List Jvm.Cond) (t1 : Addr) (kc : ClassId) (t3 : Addr) (k3 : ClassId) (c0 : Int32) (c1 : Int32) (c2 : Int32) (c3 : Int32) (h0 : Heap) (n0 : Nat) (Z0 : n0 ≤ h0.size) (KT : Arv Z h0 t1 kc .char (4 : Int32) [(.int c0), (.int c1), (.int c2), (.int c3)] (.int (0 : Int32))) (K3 : Arv Z h0 t3 k3 .byte (4 : Int32) [(.int (0 : Int32)), (.int (0 : Int32)), (.int (0 : Int32)), (.int (0 : Int32))] (.int (0 : Int32))) (g_t3 : n0 ≤ t3) (ne_t1_t3 : t1 ≠ t3) :
    MetFree l (⟨"java/lang/StringUTF16", "compress", "([CI[BII)I"⟩ : MethodName) (head1 (Jvm.Cond.code (⟨"java/lang/StringUTF16", "compress", "([CI[BII)I"⟩ : MethodName) jdk_52_method_21_code 7 (some .int) :: ws) ({ frames := 0, cells := 0, slots := 0, locals := 0 } : Room)) (fun a U => a = #[(.ref t1), (.int (0 : Int32)), (.ref t3), (.int (0 : Int32)), (.int (4 : Int32))] ∧ Z.Warmed39 U.vm ∧ U.heap = h0) (fun _ _ _ _ _ => True) (fun _ U o U' => ∃ v L, o = .returned v ∧ QCp4 Z t1 kc t3 k3 c0 c1 c2 c3 h0 n0 v U'.heap L ∧ FrameEnd U o U' L ({ frames := 0, cells := 0, slots := 0, locals := 0 } : Room).cells ({ frames := 0, cells := 0, slots := 0, locals := 0 } : Room).slots) := by
  refine MetFree.of_bodySF (plainFor_of_name pn_java_lang_StringUTF16) hisR ?_
  intro p e s m args below meth c s₁ Bd hml0 hP hK
  obtain ⟨rfl, hZ, hh⟩ := hP
  have hx := Bd.exec
  have hby := Bd.bytes
  have hml : c.maxLocals = 7 := hml0
  have hown : s.vm.findClass "java/lang/StringUTF16" = some m.cls := findClass_of_methodNamed Bd.named
  have hnm := (name_of_methodNamed Bd.named Bd.method).1
  have X0 : Stand p l e ({ frames := 0, cells := 0, slots := 0, locals := 0 } : Room) s m #[(.ref t1), (.int (0 : Int32)), (.ref t3), (.int (0 : Int32)), (.int (4 : Int32))] below meth c s₁ [] 0 0 := Stand.of_body Bd
  have e0 : s₁.heap = h0 := by rw [← hh, Bd.state]; rfl
  have N0 := Fr.nil n0
  have pre0 : ∀ t, Steps p.tables e below (s₁.setTop (mkF m 0 #[.val (.ref t1), .val (.int (0 : Int32)), .val (.ref t3), .val (.int (0 : Int32)), .val (.int (4 : Int32)), .unset, .unset] [])) t → Steps p.tables e below (s₁.setTop (entryFrame m #[(.ref t1), (.int (0 : Int32)), (.ref t3), (.int (0 : Int32)), (.int (4 : Int32))] 7)) t := fun t k => castTop (ef_Cp4 m t1 (0 : Int32) t3 (0 : Int32) (4 : Int32)) k
  have mem_t3 : t3 ∈ [t3] := List.mem_of_getElem? (i := 0) rfl
  obtain ⟨c332, Ar332, q332, S332, M332, H332, G332⟩ := id KT
  have hin332 : ¬ ((0 : Int32) < 0 ∨ c332.slots.size ≤ ((0 : Int32)).toNatClampNeg) := inb_of S332 ⟨by decide, by decide⟩
  have hat332 : c332.slots[((0 : Int32)).toNatClampNeg]? = some (.int c0) := (H332 _ (Nat.lt_of_not_le fun y => hin332 (Or.inr y))).trans rfl
  have pre333 : ∀ t, Steps p.tables e below (s₁.setTop (mkF m 20 #[.val (.ref t1), .val (.int (0 : Int32)), .val (.ref t3), .val (.int (0 : Int32)), .val (.int (4 : Int32)), .val (.int (0 : Int32)), .val (.int c0)] [(.int (255 : Int32)), (.int c0)])) t → Steps p.tables e below (s₁.setTop (mkF m 0 #[.val (.ref t1), .val (.int (0 : Int32)), .val (.ref t3), .val (.int (0 : Int32)), .val (.int (4 : Int32)), .unset, .unset] [])) t := by
    intro t kt
    show Steps p.tables e below (s₁.setTop (mkF m 0 #[.val (.ref t1), .val (.int (0 : Int32)), .val (.ref t3), .val (.int (0 : Int32)), .val (.int (4 : Int32)), .unset, .unset] [])) _
    refine XS.iconst X0.here hx rfl (hb hby d9_0) ?_
    refine XS.istore X0.here hx rfl (hb hby d9_1) rfl (l' := #[.val (.ref t1), .val (.int (0 : Int32)), .val (.ref t3), .val (.int (0 : Int32)), .val (.int (4 : Int32)), .val (.int (0 : Int32)), .unset]) rfl ?_
    refine XS.iload X0.here hx rfl (hb hby d9_3) rfl ?_
    refine XS.iload X0.here hx rfl (hb hby d9_5) rfl ?_
    refine XS.icmpNo X0.here hx rfl (hb hby d9_7) rfl (tlt (by decide : (0 : Int32) < (4 : Int32))).2.1 ?_
    show Steps p.tables e below (s₁.setTop (mkF m 10 #[.val (.ref t1), .val (.int (0 : Int32)), .val (.ref t3), .val (.int (0 : Int32)), .val (.int (4 : Int32)), .val (.int (0 : Int32)), .unset] [])) _
    refine XS.aloadN X0.here hx rfl (hb hby d9_10) rfl rfl ?_
    refine XS.iloadN X0.here hx rfl (hb hby d9_11) rfl ?_
    show Steps p.tables e below (s₁.setTop (mkF m 12 #[.val (.ref t1), .val (.int (0 : Int32)), .val (.ref t3), .val (.int (0 : Int32)), .val (.int (4 : Int32)), .val (.int (0 : Int32)), .unset] [(.int (0 : Int32)), (.ref t1)])) _
    refine X0.caload hx (j := (0 : Int32)) (v := (.int c0)) (by rw [e0]; exact Ar332.1) (State.isArrayOf_alike hZ.alike Ar332.2.1) Ar332.2.2 hin332 hat332 (g := (mkF m 12 #[.val (.ref t1), .val (.int (0 : Int32)), .val (.ref t3), .val (.int (0 : Int32)), .val (.int (4 : Int32)), .val (.int (0 : Int32)), .unset] [(.int (0 : Int32)), (.ref t1)])) rfl rfl (hb hby d9_12) _ ?_
    show Steps p.tables e below (s₁.setTop (mkF m 13 #[.val (.ref t1), .val (.int (0 : Int32)), .val (.ref t3), .val (.int (0 : Int32)), .val (.int (4 : Int32)), .val (.int (0 : Int32)), .unset] [(.int c0)])) _
    refine XS.istore X0.here hx rfl (hb hby d9_13) rfl (l' := #[.val (.ref t1), .val (.int (0 : Int32)), .val (.ref t3), .val (.int (0 : Int32)), .val (.int (4 : Int32)), .val (.int (0 : Int32)), .val (.int c0)]) rfl ?_
    refine XS.iload X0.here hx rfl (hb hby d9_15) rfl ?_
    refine XS.sipush X0.here hx rfl (hb hby d9_17) ?_
    exact kt
  by_cases gt0 : (255 : Int32) < c0
  · skip
    have pre334 : ∀ t, Steps p.tables e below (s₁.setTop (mkF m 25 #[.val (.ref t1), .val (.int (0 : Int32)), .val (.ref t3), .val (.int (0 : Int32)), .val (.int (4 : Int32)), .val (.int (0 : Int32)), .val (.int c0)] [(.int (0 : Int32))])) t → Steps p.tables e below (s₁.setTop (mkF m 20 #[.val (.ref t1), .val (.int (0 : Int32)), .val (.ref t3), .val (.int (0 : Int32)), .val (.int (4 : Int32)), .val (.int (0 : Int32)), .val (.int c0)] [(.int (255 : Int32)), (.int c0)])) t := by
      intro t kt
      refine XS.icmpNo X0.here hx rfl (hb hby d9_20) rfl (tlt (gt0 : (255 : Int32) < c0)).2.2.2 ?_
      show Steps p.tables e below (s₁.setTop (mkF m 23 #[.val (.ref t1), .val (.int (0 : Int32)), .val (.ref t3), .val (.int (0 : Int32)), .val (.int (4 : Int32)), .val (.int (0 : Int32)), .val (.int c0)] [])) _
      refine XS.iload X0.here hx rfl (hb hby d9_23) rfl ?_
      exact kt
    obtain ⟨fs, hr, hrun, hended, hW, hsame⟩ := X0.leave (v := some (.int (0 : Int32))) (fun h => by rw [Bd.returns] at h; cases h)
    refine ⟨_, _, (pre0 _ (pre333 _ (pre334 _ ?_))), hrun, hended, _, _, rfl, ?_, ⟨_, rfl⟩, hW, hsame.mono (by decide) (by decide)⟩
    · show Steps p.tables e below (s₁.setTop (mkF m 25 #[.val (.ref t1), .val (.int (0 : Int32)), .val (.ref t3), .val (.int (0 : Int32)), .val (.int (4 : Int32)), .val (.int (0 : Int32)), .val (.int c0)] [(.int (0 : Int32))])) _
      exact retOut X0 hx (t := .int) Bd.returns rfl (Or.inl ⟨rfl, Or.inl rfl, _, rfl⟩) (hb hby d9_25) hr
    · show QCp4 Z t1 kc t3 k3 c0 c1 c2 c3 h0 n0 _ s₁.heap _
      rw [e0]
      exact ⟨0, rfl, N0, (Keep.refl h0 [t3]), Or.inr ⟨by decide, gt0⟩⟩
  · skip
    obtain ⟨c335, Ar335, q335, S335, M335, H335, G335⟩ := id K3
    have hin335 : ¬ ((0 : Int32) < 0 ∨ c335.slots.size ≤ ((0 : Int32)).toNatClampNeg) := inb_of S335 ⟨by decide, by decide⟩
    obtain ⟨T336, h336, X336, e336, W336, st336⟩ := stB X0 hx hZ e0 Ar335 (j := (0 : Int32)) hin335 (g := (mkF m 31 #[.val (.ref t1), .val (.int (0 : Int32)), .val (.ref t3), .val (.int (0 : Int32)), .val (.int (4 : Int32)), .val (.int (0 : Int32)), .val (.int c0)] [(.int (c0.toInt8.toInt32)), (.int (0 : Int32)), (.ref t3)])) rfl rfl (hb hby d9_31)
    have N336 := Fr.snoc X336 N0 g_t3
    have K336 := (Keep.refl h0 [t3]).wr W336 (Or.inl mem_t3)
    have V336 : Arv Z h336 t3 k3 .byte (4 : Int32) [(.int (nar .byte (c0.toInt8.toInt32))), (.int (0 : Int32)), (.int (0 : Int32)), (.int (0 : Int32))] (.int (0 : Int32)) := Arv.set Ar335 q335 S335 M335 H335 G335 (fits_nar_byte _) W336 0 rfl (Nat.le_of_ble_eq_true rfl)
    have f337 := (KT.other W336 ne_t1_t3)
    obtain ⟨c338, Ar338, q338, S338, M338, H338, G338⟩ := id f337
    have hin338 : ¬ ((1 : Int32) < 0 ∨ c338.slots.size ≤ ((1 : Int32)).toNatClampNeg) := inb_of S338 ⟨by decide, by decide⟩
    have hat338 : c338.slots[((1 : Int32)).toNatClampNeg]? = some (.int c1) := (H338 _ (Nat.lt_of_not_le fun y => hin338 (Or.inr y))).trans rfl
    have pre339 : ∀ t, Steps p.tables e below (T336.setTop (mkF m 20 #[.val (.ref t1), .val (.int (1 : Int32)), .val (.ref t3), .val (.int (1 : Int32)), .val (.int (4 : Int32)), .val (.int (1 : Int32)), .val (.int c1)] [(.int (255 : Int32)), (.int c1)])) t → Steps p.tables e below (s₁.setTop (mkF m 20 #[.val (.ref t1), .val (.int (0 : Int32)), .val (.ref t3), .val (.int (0 : Int32)), .val (.int (4 : Int32)), .val (.int (0 : Int32)), .val (.int c0)] [(.int (255 : Int32)), (.int c0)])) t := by
      intro t kt
      refine XS.icmpYes X0.here hx rfl (pc0 := 20) (pc' := 26) rfl (hb hby d9_20) rfl (flt (gt0 : ¬ ((255 : Int32) < c0))).2.2.2 (by decide) (by decide) ?_
      show Steps p.tables e below (s₁.setTop (mkF m 26 #[.val (.ref t1), .val (.int (0 : Int32)), .val (.ref t3), .val (.int (0 : Int32)), .val (.int (4 : Int32)), .val (.int (0 : Int32)), .val (.int c0)] [])) _
      refine XS.aloadN X0.here hx rfl (hb hby d9_26) rfl rfl ?_
      refine XS.iloadN X0.here hx rfl (hb hby d9_27) rfl ?_
      refine XS.iload X0.here hx rfl (hb hby d9_28) rfl ?_
      refine XS.i2b X0.here hx rfl (hb hby d9_30) rfl ?_
      show Steps p.tables e below (s₁.setTop (mkF m 31 #[.val (.ref t1), .val (.int (0 : Int32)), .val (.ref t3), .val (.int (0 : Int32)), .val (.int (4 : Int32)), .val (.int (0 : Int32)), .val (.int c0)] [(.int (c0.toInt8.toInt32)), (.int (0 : Int32)), (.ref t3)])) _
      refine st336 _ ?_
      show Steps p.tables e below (T336.setTop (mkF m 32 #[.val (.ref t1), .val (.int (0 : Int32)), .val (.ref t3), .val (.int (0 : Int32)), .val (.int (4 : Int32)), .val (.int (0 : Int32)), .val (.int c0)] [])) _
      refine XS.iinc X336.here hx rfl (hb hby d9_32) rfl (l' := #[.val (.ref t1), .val (.int ((0 : Int32) + (1 : Int32))), .val (.ref t3), .val (.int (0 : Int32)), .val (.int (4 : Int32)), .val (.int (0 : Int32)), .val (.int c0)]) rfl ?_
      refine XS.iinc X336.here hx rfl (hb hby d9_35) rfl (l' := #[.val (.ref t1), .val (.int ((0 : Int32) + (1 : Int32))), .val (.ref t3), .val (.int ((0 : Int32) + (1 : Int32))), .val (.int (4 : Int32)), .val (.int (0 : Int32)), .val (.int c0)]) rfl ?_
      refine XS.iinc X336.here hx rfl (hb hby d9_38) rfl (l' := #[.val (.ref t1), .val (.int ((0 : Int32) + (1 : Int32))), .val (.ref t3), .val (.int ((0 : Int32) + (1 : Int32))), .val (.int (4 : Int32)), .val (.int ((0 : Int32) + (1 : Int32))), .val (.int c0)]) rfl ?_
      show Steps p.tables e below (T336.setTop (mkF m 41 #[.val (.ref t1), .val (.int ((0 : Int32) + (1 : Int32))), .val (.ref t3), .val (.int ((0 : Int32) + (1 : Int32))), .val (.int (4 : Int32)), .val (.int ((0 : Int32) + (1 : Int32))), .val (.int c0)] [])) _
      rw [show ((0 : Int32) + (1 : Int32)) = (1 : Int32) from by decide]
      show Steps p.tables e below (T336.setTop (mkF m 41 #[.val (.ref t1), .val (.int (1 : Int32)), .val (.ref t3), .val (.int (1 : Int32)), .val (.int (4 : Int32)), .val (.int (1 : Int32)), .val (.int c0)] [])) _
      refine XS.goto X336.here hx rfl (pc0 := 41) (pc' := 3) rfl (hb hby d9_41) (by decide) (by decide) ?_
      show Steps p.tables e below (T336.setTop (mkF m 3 #[.val (.ref t1), .val (.int (1 : Int32)), .val (.ref t3), .val (.int (1 : Int32)), .val (.int (4 : Int32)), .val (.int (1 : Int32)), .val (.int c0)] [])) _
      refine XS.iload X336.here hx rfl (hb hby d9_3) rfl ?_
      refine XS.iload X336.here hx rfl (hb hby d9_5) rfl ?_
      refine XS.icmpNo X336.here hx rfl (hb hby d9_7) rfl (tlt (by decide : (1 : Int32) < (4 : Int32))).2.1 ?_
      show Steps p.tables e below (T336.setTop (mkF m 10 #[.val (.ref t1), .val (.int (1 : Int32)), .val (.ref t3), .val (.int (1 : Int32)), .val (.int (4 : Int32)), .val (.int (1 : Int32)), .val (.int c0)] [])) _
      refine XS.aloadN X336.here hx rfl (hb hby d9_10) rfl rfl ?_
      refine XS.iloadN X336.here hx rfl (hb hby d9_11) rfl ?_
      show Steps p.tables e below (T336.setTop (mkF m 12 #[.val (.ref t1), .val (.int (1 : Int32)), .val (.ref t3), .val (.int (1 : Int32)), .val (.int (4 : Int32)), .val (.int (1 : Int32)), .val (.int c0)] [(.int (1 : Int32)), (.ref t1)])) _
      refine X336.caload hx (j := (1 : Int32)) (v := (.int c1)) (by rw [e336]; exact Ar338.1) (State.isArrayOf_alike hZ.alike Ar338.2.1) Ar338.2.2 hin338 hat338 (g := (mkF m 12 #[.val (.ref t1), .val (.int (1 : Int32)), .val (.ref t3), .val (.int (1 : Int32)), .val (.int (4 : Int32)), .val (.int (1 : Int32)), .val (.int c0)] [(.int (1 : Int32)), (.ref t1)])) rfl rfl (hb hby d9_12) _ ?_
      show Steps p.tables e below (T336.setTop (mkF m 13 #[.val (.ref t1), .val (.int (1 : Int32)), .val (.ref t3), .val (.int (1 : Int32)), .val (.int (4 : Int32)), .val (.int (1 : Int32)), .val (.int c0)] [(.int c1)])) _
      refine XS.istore X336.here hx rfl (hb hby d9_13) rfl (l' := #[.val (.ref t1), .val (.int (1 : Int32)), .val (.ref t3), .val (.int (1 : Int32)), .val (.int (4 : Int32)), .val (.int (1 : Int32)), .val (.int c1)]) rfl ?_
      refine XS.iload X336.here hx rfl (hb hby d9_15) rfl ?_
      refine XS.sipush X336.here hx rfl (hb hby d9_17) ?_
      exact kt
    by_cases gt1 : (255 : Int32) < c1
    · skip
      have pre340 : ∀ t, Steps p.tables e below (T336.setTop (mkF m 25 #[.val (.ref t1), .val (.int (1 : Int32)), .val (.ref t3), .val (.int (1 : Int32)), .val (.int (4 : Int32)), .val (.int (1 : Int32)), .val (.int c1)] [(.int (1 : Int32))])) t → Steps p.tables e below (T336.setTop (mkF m 20 #[.val (.ref t1), .val (.int (1 : Int32)), .val (.ref t3), .val (.int (1 : Int32)), .val (.int (4 : Int32)), .val (.int (1 : Int32)), .val (.int c1)] [(.int (255 : Int32)), (.int c1)])) t := by
        intro t kt
        refine XS.icmpNo X336.here hx rfl (hb hby d9_20) rfl (tlt (gt1 : (255 : Int32) < c1)).2.2.2 ?_
        show Steps p.tables e below (T336.setTop (mkF m 23 #[.val (.ref t1), .val (.int (1 : Int32)), .val (.ref t3), .val (.int (1 : Int32)), .val (.int (4 : Int32)), .val (.int (1 : Int32)), .val (.int c1)] [])) _
        refine XS.iload X336.here hx rfl (hb hby d9_23) rfl ?_
        exact kt
      obtain ⟨fs, hr, hrun, hended, hW, hsame⟩ := X336.leave (v := some (.int (1 : Int32))) (fun h => by rw [Bd.returns] at h; cases h)
      refine ⟨_, _, (pre0 _ (pre333 _ (pre339 _ (pre340 _ ?_)))), hrun, hended, _, _, rfl, ?_, ⟨_, rfl⟩, hW, hsame.mono (by decide) (by decide)⟩
      · show Steps p.tables e below (T336.setTop (mkF m 25 #[.val (.ref t1), .val (.int (1 : Int32)), .val (.ref t3), .val (.int (1 : Int32)), .val (.int (4 : Int32)), .val (.int (1 : Int32)), .val (.int c1)] [(.int (1 : Int32))])) _
        exact retOut X336 hx (t := .int) Bd.returns rfl (Or.inl ⟨rfl, Or.inl rfl, _, rfl⟩) (hb hby d9_25) hr
      · show QCp4 Z t1 kc t3 k3 c0 c1 c2 c3 h0 n0 _ T336.heap _
        rw [e336]
        exact ⟨1, rfl, N336, K336, Or.inr ⟨by decide, gt1⟩⟩
    · skip
      obtain ⟨c341, Ar341, q341, S341, M341, H341, G341⟩ := id V336
      have hin341 : ¬ ((1 : Int32) < 0 ∨ c341.slots.size ≤ ((1 : Int32)).toNatClampNeg) := inb_of S341 ⟨by decide, by decide⟩
      obtain ⟨T342, h342, X342, e342, W342, st342⟩ := stB X336 hx hZ e336 Ar341 (j := (1 : Int32)) hin341 (g := (mkF m 31 #[.val (.ref t1), .val (.int (1 : Int32)), .val (.ref t3), .val (.int (1 : Int32)), .val (.int (4 : Int32)), .val (.int (1 : Int32)), .val (.int c1)] [(.int (c1.toInt8.toInt32)), (.int (1 : Int32)), (.ref t3)])) rfl rfl (hb hby d9_31)
      have N342 := Fr.snoc X342 N336 g_t3
      have K342 := K336.wr W342 (Or.inl mem_t3)
      have V342 : Arv Z h342 t3 k3 .byte (4 : Int32) [(.int (nar .byte (c0.toInt8.toInt32))), (.int (nar .byte (c1.toInt8.toInt32))), (.int (0 : Int32)), (.int (0 : Int32))] (.int (0 : Int32)) := Arv.set Ar341 q341 S341 M341 H341 G341 (fits_nar_byte _) W342 1 rfl (Nat.le_of_ble_eq_true rfl)
      have f343 := (f337.other W342 ne_t1_t3)
      obtain ⟨c344, Ar344, q344, S344, M344, H344, G344⟩ := id f343
      have hin344 : ¬ ((2 : Int32) < 0 ∨ c344.slots.size ≤ ((2 : Int32)).toNatClampNeg) := inb_of S344 ⟨by decide, by decide⟩
      have hat344 : c344.slots[((2 : Int32)).toNatClampNeg]? = some (.int c2) := (H344 _ (Nat.lt_of_not_le fun y => hin344 (Or.inr y))).trans rfl
      have pre345 : ∀ t, Steps p.tables e below (T342.setTop (mkF m 20 #[.val (.ref t1), .val (.int (2 : Int32)), .val (.ref t3), .val (.int (2 : Int32)), .val (.int (4 : Int32)), .val (.int (2 : Int32)), .val (.int c2)] [(.int (255 : Int32)), (.int c2)])) t → Steps p.tables e below (T336.setTop (mkF m 20 #[.val (.ref t1), .val (.int (1 : Int32)), .val (.ref t3), .val (.int (1 : Int32)), .val (.int (4 : Int32)), .val (.int (1 : Int32)), .val (.int c1)] [(.int (255 : Int32)), (.int c1)])) t := by
        intro t kt
        refine XS.icmpYes X336.here hx rfl (pc0 := 20) (pc' := 26) rfl (hb hby d9_20) rfl (flt (gt1 : ¬ ((255 : Int32) < c1))).2.2.2 (by decide) (by decide) ?_
        show Steps p.tables e below (T336.setTop (mkF m 26 #[.val (.ref t1), .val (.int (1 : Int32)), .val (.ref t3), .val (.int (1 : Int32)), .val (.int (4 : Int32)), .val (.int (1 : Int32)), .val (.int c1)] [])) _
        refine XS.aloadN X336.here hx rfl (hb hby d9_26) rfl rfl ?_
        refine XS.iloadN X336.here hx rfl (hb hby d9_27) rfl ?_
        refine XS.iload X336.here hx rfl (hb hby d9_28) rfl ?_
        refine XS.i2b X336.here hx rfl (hb hby d9_30) rfl ?_
        show Steps p.tables e below (T336.setTop (mkF m 31 #[.val (.ref t1), .val (.int (1 : Int32)), .val (.ref t3), .val (.int (1 : Int32)), .val (.int (4 : Int32)), .val (.int (1 : Int32)), .val (.int c1)] [(.int (c1.toInt8.toInt32)), (.int (1 : Int32)), (.ref t3)])) _
        refine st342 _ ?_
        show Steps p.tables e below (T342.setTop (mkF m 32 #[.val (.ref t1), .val (.int (1 : Int32)), .val (.ref t3), .val (.int (1 : Int32)), .val (.int (4 : Int32)), .val (.int (1 : Int32)), .val (.int c1)] [])) _
        refine XS.iinc X342.here hx rfl (hb hby d9_32) rfl (l' := #[.val (.ref t1), .val (.int ((1 : Int32) + (1 : Int32))), .val (.ref t3), .val (.int (1 : Int32)), .val (.int (4 : Int32)), .val (.int (1 : Int32)), .val (.int c1)]) rfl ?_
        refine XS.iinc X342.here hx rfl (hb hby d9_35) rfl (l' := #[.val (.ref t1), .val (.int ((1 : Int32) + (1 : Int32))), .val (.ref t3), .val (.int ((1 : Int32) + (1 : Int32))), .val (.int (4 : Int32)), .val (.int (1 : Int32)), .val (.int c1)]) rfl ?_
        refine XS.iinc X342.here hx rfl (hb hby d9_38) rfl (l' := #[.val (.ref t1), .val (.int ((1 : Int32) + (1 : Int32))), .val (.ref t3), .val (.int ((1 : Int32) + (1 : Int32))), .val (.int (4 : Int32)), .val (.int ((1 : Int32) + (1 : Int32))), .val (.int c1)]) rfl ?_
        show Steps p.tables e below (T342.setTop (mkF m 41 #[.val (.ref t1), .val (.int ((1 : Int32) + (1 : Int32))), .val (.ref t3), .val (.int ((1 : Int32) + (1 : Int32))), .val (.int (4 : Int32)), .val (.int ((1 : Int32) + (1 : Int32))), .val (.int c1)] [])) _
        rw [show ((1 : Int32) + (1 : Int32)) = (2 : Int32) from by decide]
        show Steps p.tables e below (T342.setTop (mkF m 41 #[.val (.ref t1), .val (.int (2 : Int32)), .val (.ref t3), .val (.int (2 : Int32)), .val (.int (4 : Int32)), .val (.int (2 : Int32)), .val (.int c1)] [])) _
        refine XS.goto X342.here hx rfl (pc0 := 41) (pc' := 3) rfl (hb hby d9_41) (by decide) (by decide) ?_
        show Steps p.tables e below (T342.setTop (mkF m 3 #[.val (.ref t1), .val (.int (2 : Int32)), .val (.ref t3), .val (.int (2 : Int32)), .val (.int (4 : Int32)), .val (.int (2 : Int32)), .val (.int c1)] [])) _
        refine XS.iload X342.here hx rfl (hb hby d9_3) rfl ?_
        refine XS.iload X342.here hx rfl (hb hby d9_5) rfl ?_
        refine XS.icmpNo X342.here hx rfl (hb hby d9_7) rfl (tlt (by decide : (2 : Int32) < (4 : Int32))).2.1 ?_
        show Steps p.tables e below (T342.setTop (mkF m 10 #[.val (.ref t1), .val (.int (2 : Int32)), .val (.ref t3), .val (.int (2 : Int32)), .val (.int (4 : Int32)), .val (.int (2 : Int32)), .val (.int c1)] [])) _
        refine XS.aloadN X342.here hx rfl (hb hby d9_10) rfl rfl ?_
        refine XS.iloadN X342.here hx rfl (hb hby d9_11) rfl ?_
        show Steps p.tables e below (T342.setTop (mkF m 12 #[.val (.ref t1), .val (.int (2 : Int32)), .val (.ref t3), .val (.int (2 : Int32)), .val (.int (4 : Int32)), .val (.int (2 : Int32)), .val (.int c1)] [(.int (2 : Int32)), (.ref t1)])) _
        refine X342.caload hx (j := (2 : Int32)) (v := (.int c2)) (by rw [e342]; exact Ar344.1) (State.isArrayOf_alike hZ.alike Ar344.2.1) Ar344.2.2 hin344 hat344 (g := (mkF m 12 #[.val (.ref t1), .val (.int (2 : Int32)), .val (.ref t3), .val (.int (2 : Int32)), .val (.int (4 : Int32)), .val (.int (2 : Int32)), .val (.int c1)] [(.int (2 : Int32)), (.ref t1)])) rfl rfl (hb hby d9_12) _ ?_
        show Steps p.tables e below (T342.setTop (mkF m 13 #[.val (.ref t1), .val (.int (2 : Int32)), .val (.ref t3), .val (.int (2 : Int32)), .val (.int (4 : Int32)), .val (.int (2 : Int32)), .val (.int c1)] [(.int c2)])) _
        refine XS.istore X342.here hx rfl (hb hby d9_13) rfl (l' := #[.val (.ref t1), .val (.int (2 : Int32)), .val (.ref t3), .val (.int (2 : Int32)), .val (.int (4 : Int32)), .val (.int (2 : Int32)), .val (.int c2)]) rfl ?_
        refine XS.iload X342.here hx rfl (hb hby d9_15) rfl ?_
        refine XS.sipush X342.here hx rfl (hb hby d9_17) ?_
        exact kt
      by_cases gt2 : (255 : Int32) < c2
      · skip
        have pre346 : ∀ t, Steps p.tables e below (T342.setTop (mkF m 25 #[.val (.ref t1), .val (.int (2 : Int32)), .val (.ref t3), .val (.int (2 : Int32)), .val (.int (4 : Int32)), .val (.int (2 : Int32)), .val (.int c2)] [(.int (2 : Int32))])) t → Steps p.tables e below (T342.setTop (mkF m 20 #[.val (.ref t1), .val (.int (2 : Int32)), .val (.ref t3), .val (.int (2 : Int32)), .val (.int (4 : Int32)), .val (.int (2 : Int32)), .val (.int c2)] [(.int (255 : Int32)), (.int c2)])) t := by
          intro t kt
          refine XS.icmpNo X342.here hx rfl (hb hby d9_20) rfl (tlt (gt2 : (255 : Int32) < c2)).2.2.2 ?_
          show Steps p.tables e below (T342.setTop (mkF m 23 #[.val (.ref t1), .val (.int (2 : Int32)), .val (.ref t3), .val (.int (2 : Int32)), .val (.int (4 : Int32)), .val (.int (2 : Int32)), .val (.int c2)] [])) _
          refine XS.iload X342.here hx rfl (hb hby d9_23) rfl ?_
          exact kt
        obtain ⟨fs, hr, hrun, hended, hW, hsame⟩ := X342.leave (v := some (.int (2 : Int32))) (fun h => by rw [Bd.returns] at h; cases h)
        refine ⟨_, _, (pre0 _ (pre333 _ (pre339 _ (pre345 _ (pre346 _ ?_))))), hrun, hended, _, _, rfl, ?_, ⟨_, rfl⟩, hW, hsame.mono (by decide) (by decide)⟩
        · show Steps p.tables e below (T342.setTop (mkF m 25 #[.val (.ref t1), .val (.int (2 : Int32)), .val (.ref t3), .val (.int (2 : Int32)), .val (.int (4 : Int32)), .val (.int (2 : Int32)), .val (.int c2)] [(.int (2 : Int32))])) _
          exact retOut X342 hx (t := .int) Bd.returns rfl (Or.inl ⟨rfl, Or.inl rfl, _, rfl⟩) (hb hby d9_25) hr
        · show QCp4 Z t1 kc t3 k3 c0 c1 c2 c3 h0 n0 _ T342.heap _
          rw [e342]
          exact ⟨2, rfl, N342, K342, Or.inr ⟨by decide, gt2⟩⟩
      · skip
        obtain ⟨c347, Ar347, q347, S347, M347, H347, G347⟩ := id V342
        have hin347 : ¬ ((2 : Int32) < 0 ∨ c347.slots.size ≤ ((2 : Int32)).toNatClampNeg) := inb_of S347 ⟨by decide, by decide⟩
        obtain ⟨T348, h348, X348, e348, W348, st348⟩ := stB X342 hx hZ e342 Ar347 (j := (2 : Int32)) hin347 (g := (mkF m 31 #[.val (.ref t1), .val (.int (2 : Int32)), .val (.ref t3), .val (.int (2 : Int32)), .val (.int (4 : Int32)), .val (.int (2 : Int32)), .val (.int c2)] [(.int (c2.toInt8.toInt32)), (.int (2 : Int32)), (.ref t3)])) rfl rfl (hb hby d9_31)
        have N348 := Fr.snoc X348 N342 g_t3
        have K348 := K342.wr W348 (Or.inl mem_t3)
        have V348 : Arv Z h348 t3 k3 .byte (4 : Int32) [(.int (nar .byte (c0.toInt8.toInt32))), (.int (nar .byte (c1.toInt8.toInt32))), (.int (nar .byte (c2.toInt8.toInt32))), (.int (0 : Int32))] (.int (0 : Int32)) := Arv.set Ar347 q347 S347 M347 H347 G347 (fits_nar_byte _) W348 2 rfl (Nat.le_of_ble_eq_true rfl)
        have f349 := (f343.other W348 ne_t1_t3)
        obtain ⟨c350, Ar350, q350, S350, M350, H350, G350⟩ := id f349
        have hin350 : ¬ ((3 : Int32) < 0 ∨ c350.slots.size ≤ ((3 : Int32)).toNatClampNeg) := inb_of S350 ⟨by decide, by decide⟩
        have hat350 : c350.slots[((3 : Int32)).toNatClampNeg]? = some (.int c3) := (H350 _ (Nat.lt_of_not_le fun y => hin350 (Or.inr y))).trans rfl
        have pre351 : ∀ t, Steps p.tables e below (T348.setTop (mkF m 20 #[.val (.ref t1), .val (.int (3 : Int32)), .val (.ref t3), .val (.int (3 : Int32)), .val (.int (4 : Int32)), .val (.int (3 : Int32)), .val (.int c3)] [(.int (255 : Int32)), (.int c3)])) t → Steps p.tables e below (T342.setTop (mkF m 20 #[.val (.ref t1), .val (.int (2 : Int32)), .val (.ref t3), .val (.int (2 : Int32)), .val (.int (4 : Int32)), .val (.int (2 : Int32)), .val (.int c2)] [(.int (255 : Int32)), (.int c2)])) t := by
          intro t kt
          refine XS.icmpYes X342.here hx rfl (pc0 := 20) (pc' := 26) rfl (hb hby d9_20) rfl (flt (gt2 : ¬ ((255 : Int32) < c2))).2.2.2 (by decide) (by decide) ?_
          show Steps p.tables e below (T342.setTop (mkF m 26 #[.val (.ref t1), .val (.int (2 : Int32)), .val (.ref t3), .val (.int (2 : Int32)), .val (.int (4 : Int32)), .val (.int (2 : Int32)), .val (.int c2)] [])) _
          refine XS.aloadN X342.here hx rfl (hb hby d9_26) rfl rfl ?_
          refine XS.iloadN X342.here hx rfl (hb hby d9_27) rfl ?_
          refine XS.iload X342.here hx rfl (hb hby d9_28) rfl ?_
          refine XS.i2b X342.here hx rfl (hb hby d9_30) rfl ?_
          show Steps p.tables e below (T342.setTop (mkF m 31 #[.val (.ref t1), .val (.int (2 : Int32)), .val (.ref t3), .val (.int (2 : Int32)), .val (.int (4 : Int32)), .val (.int (2 : Int32)), .val (.int c2)] [(.int (c2.toInt8.toInt32)), (.int (2 : Int32)), (.ref t3)])) _
          refine st348 _ ?_
          show Steps p.tables e below (T348.setTop (mkF m 32 #[.val (.ref t1), .val (.int (2 : Int32)), .val (.ref t3), .val (.int (2 : Int32)), .val (.int (4 : Int32)), .val (.int (2 : Int32)), .val (.int c2)] [])) _
          refine XS.iinc X348.here hx rfl (hb hby d9_32) rfl (l' := #[.val (.ref t1), .val (.int ((2 : Int32) + (1 : Int32))), .val (.ref t3), .val (.int (2 : Int32)), .val (.int (4 : Int32)), .val (.int (2 : Int32)), .val (.int c2)]) rfl ?_
          refine XS.iinc X348.here hx rfl (hb hby d9_35) rfl (l' := #[.val (.ref t1), .val (.int ((2 : Int32) + (1 : Int32))), .val (.ref t3), .val (.int ((2 : Int32) + (1 : Int32))), .val (.int (4 : Int32)), .val (.int (2 : Int32)), .val (.int c2)]) rfl ?_
          refine XS.iinc X348.here hx rfl (hb hby d9_38) rfl (l' := #[.val (.ref t1), .val (.int ((2 : Int32) + (1 : Int32))), .val (.ref t3), .val (.int ((2 : Int32) + (1 : Int32))), .val (.int (4 : Int32)), .val (.int ((2 : Int32) + (1 : Int32))), .val (.int c2)]) rfl ?_
          show Steps p.tables e below (T348.setTop (mkF m 41 #[.val (.ref t1), .val (.int ((2 : Int32) + (1 : Int32))), .val (.ref t3), .val (.int ((2 : Int32) + (1 : Int32))), .val (.int (4 : Int32)), .val (.int ((2 : Int32) + (1 : Int32))), .val (.int c2)] [])) _
          rw [show ((2 : Int32) + (1 : Int32)) = (3 : Int32) from by decide]
          show Steps p.tables e below (T348.setTop (mkF m 41 #[.val (.ref t1), .val (.int (3 : Int32)), .val (.ref t3), .val (.int (3 : Int32)), .val (.int (4 : Int32)), .val (.int (3 : Int32)), .val (.int c2)] [])) _
          refine XS.goto X348.here hx rfl (pc0 := 41) (pc' := 3) rfl (hb hby d9_41) (by decide) (by decide) ?_
          show Steps p.tables e below (T348.setTop (mkF m 3 #[.val (.ref t1), .val (.int (3 : Int32)), .val (.ref t3), .val (.int (3 : Int32)), .val (.int (4 : Int32)), .val (.int (3 : Int32)), .val (.int c2)] [])) _
          refine XS.iload X348.here hx rfl (hb hby d9_3) rfl ?_
          refine XS.iload X348.here hx rfl (hb hby d9_5) rfl ?_
          refine XS.icmpNo X348.here hx rfl (hb hby d9_7) rfl (tlt (by decide : (3 : Int32) < (4 : Int32))).2.1 ?_
          show Steps p.tables e below (T348.setTop (mkF m 10 #[.val (.ref t1), .val (.int (3 : Int32)), .val (.ref t3), .val (.int (3 : Int32)), .val (.int (4 : Int32)), .val (.int (3 : Int32)), .val (.int c2)] [])) _
          refine XS.aloadN X348.here hx rfl (hb hby d9_10) rfl rfl ?_
          refine XS.iloadN X348.here hx rfl (hb hby d9_11) rfl ?_
          show Steps p.tables e below (T348.setTop (mkF m 12 #[.val (.ref t1), .val (.int (3 : Int32)), .val (.ref t3), .val (.int (3 : Int32)), .val (.int (4 : Int32)), .val (.int (3 : Int32)), .val (.int c2)] [(.int (3 : Int32)), (.ref t1)])) _
          refine X348.caload hx (j := (3 : Int32)) (v := (.int c3)) (by rw [e348]; exact Ar350.1) (State.isArrayOf_alike hZ.alike Ar350.2.1) Ar350.2.2 hin350 hat350 (g := (mkF m 12 #[.val (.ref t1), .val (.int (3 : Int32)), .val (.ref t3), .val (.int (3 : Int32)), .val (.int (4 : Int32)), .val (.int (3 : Int32)), .val (.int c2)] [(.int (3 : Int32)), (.ref t1)])) rfl rfl (hb hby d9_12) _ ?_
          show Steps p.tables e below (T348.setTop (mkF m 13 #[.val (.ref t1), .val (.int (3 : Int32)), .val (.ref t3), .val (.int (3 : Int32)), .val (.int (4 : Int32)), .val (.int (3 : Int32)), .val (.int c2)] [(.int c3)])) _
          refine XS.istore X348.here hx rfl (hb hby d9_13) rfl (l' := #[.val (.ref t1), .val (.int (3 : Int32)), .val (.ref t3), .val (.int (3 : Int32)), .val (.int (4 : Int32)), .val (.int (3 : Int32)), .val (.int c3)]) rfl ?_
          refine XS.iload X348.here hx rfl (hb hby d9_15) rfl ?_
          refine XS.sipush X348.here hx rfl (hb hby d9_17) ?_
          exact kt
        by_cases gt3 : (255 : Int32) < c3
        · skip
          have pre352 : ∀ t, Steps p.tables e below (T348.setTop (mkF m 25 #[.val (.ref t1), .val (.int (3 : Int32)), .val (.ref t3), .val (.int (3 : Int32)), .val (.int (4 : Int32)), .val (.int (3 : Int32)), .val (.int c3)] [(.int (3 : Int32))])) t → Steps p.tables e below (T348.setTop (mkF m 20 #[.val (.ref t1), .val (.int (3 : Int32)), .val (.ref t3), .val (.int (3 : Int32)), .val (.int (4 : Int32)), .val (.int (3 : Int32)), .val (.int c3)] [(.int (255 : Int32)), (.int c3)])) t := by
            intro t kt
            refine XS.icmpNo X348.here hx rfl (hb hby d9_20) rfl (tlt (gt3 : (255 : Int32) < c3)).2.2.2 ?_
            show Steps p.tables e below (T348.setTop (mkF m 23 #[.val (.ref t1), .val (.int (3 : Int32)), .val (.ref t3), .val (.int (3 : Int32)), .val (.int (4 : Int32)), .val (.int (3 : Int32)), .val (.int c3)] [])) _
            refine XS.iload X348.here hx rfl (hb hby d9_23) rfl ?_
            exact kt
          obtain ⟨fs, hr, hrun, hended, hW, hsame⟩ := X348.leave (v := some (.int (3 : Int32))) (fun h => by rw [Bd.returns] at h; cases h)
          refine ⟨_, _, (pre0 _ (pre333 _ (pre339 _ (pre345 _ (pre351 _ (pre352 _ ?_)))))), hrun, hended, _, _, rfl, ?_, ⟨_, rfl⟩, hW, hsame.mono (by decide) (by decide)⟩
          · show Steps p.tables e below (T348.setTop (mkF m 25 #[.val (.ref t1), .val (.int (3 : Int32)), .val (.ref t3), .val (.int (3 : Int32)), .val (.int (4 : Int32)), .val (.int (3 : Int32)), .val (.int c3)] [(.int (3 : Int32))])) _
            exact retOut X348 hx (t := .int) Bd.returns rfl (Or.inl ⟨rfl, Or.inl rfl, _, rfl⟩) (hb hby d9_25) hr
          · show QCp4 Z t1 kc t3 k3 c0 c1 c2 c3 h0 n0 _ T348.heap _
            rw [e348]
            exact ⟨3, rfl, N348, K348, Or.inr ⟨by decide, gt3⟩⟩
        · skip
          obtain ⟨c353, Ar353, q353, S353, M353, H353, G353⟩ := id V348
          have hin353 : ¬ ((3 : Int32) < 0 ∨ c353.slots.size ≤ ((3 : Int32)).toNatClampNeg) := inb_of S353 ⟨by decide, by decide⟩
          obtain ⟨T354, h354, X354, e354, W354, st354⟩ := stB X348 hx hZ e348 Ar353 (j := (3 : Int32)) hin353 (g := (mkF m 31 #[.val (.ref t1), .val (.int (3 : Int32)), .val (.ref t3), .val (.int (3 : Int32)), .val (.int (4 : Int32)), .val (.int (3 : Int32)), .val (.int c3)] [(.int (c3.toInt8.toInt32)), (.int (3 : Int32)), (.ref t3)])) rfl rfl (hb hby d9_31)
          have N354 := Fr.snoc X354 N348 g_t3
          have K354 := K348.wr W354 (Or.inl mem_t3)
          have V354 : Arv Z h354 t3 k3 .byte (4 : Int32) [(.int (nar .byte (c0.toInt8.toInt32))), (.int (nar .byte (c1.toInt8.toInt32))), (.int (nar .byte (c2.toInt8.toInt32))), (.int (nar .byte (c3.toInt8.toInt32)))] (.int (0 : Int32)) := Arv.set Ar353 q353 S353 M353 H353 G353 (fits_nar_byte _) W354 3 rfl (Nat.le_of_ble_eq_true rfl)
          have pre355 : ∀ t, Steps p.tables e below (T354.setTop (mkF m 46 #[.val (.ref t1), .val (.int (4 : Int32)), .val (.ref t3), .val (.int (4 : Int32)), .val (.int (4 : Int32)), .val (.int (4 : Int32)), .val (.int c3)] [(.int (4 : Int32))])) t → Steps p.tables e below (T348.setTop (mkF m 20 #[.val (.ref t1), .val (.int (3 : Int32)), .val (.ref t3), .val (.int (3 : Int32)), .val (.int (4 : Int32)), .val (.int (3 : Int32)), .val (.int c3)] [(.int (255 : Int32)), (.int c3)])) t := by
            intro t kt
            refine XS.icmpYes X348.here hx rfl (pc0 := 20) (pc' := 26) rfl (hb hby d9_20) rfl (flt (gt3 : ¬ ((255 : Int32) < c3))).2.2.2 (by decide) (by decide) ?_
            show Steps p.tables e below (T348.setTop (mkF m 26 #[.val (.ref t1), .val (.int (3 : Int32)), .val (.ref t3), .val (.int (3 : Int32)), .val (.int (4 : Int32)), .val (.int (3 : Int32)), .val (.int c3)] [])) _
            refine XS.aloadN X348.here hx rfl (hb hby d9_26) rfl rfl ?_
            refine XS.iloadN X348.here hx rfl (hb hby d9_27) rfl ?_
            refine XS.iload X348.here hx rfl (hb hby d9_28) rfl ?_
            refine XS.i2b X348.here hx rfl (hb hby d9_30) rfl ?_
            show Steps p.tables e below (T348.setTop (mkF m 31 #[.val (.ref t1), .val (.int (3 : Int32)), .val (.ref t3), .val (.int (3 : Int32)), .val (.int (4 : Int32)), .val (.int (3 : Int32)), .val (.int c3)] [(.int (c3.toInt8.toInt32)), (.int (3 : Int32)), (.ref t3)])) _
            refine st354 _ ?_
            show Steps p.tables e below (T354.setTop (mkF m 32 #[.val (.ref t1), .val (.int (3 : Int32)), .val (.ref t3), .val (.int (3 : Int32)), .val (.int (4 : Int32)), .val (.int (3 : Int32)), .val (.int c3)] [])) _
            refine XS.iinc X354.here hx rfl (hb hby d9_32) rfl (l' := #[.val (.ref t1), .val (.int ((3 : Int32) + (1 : Int32))), .val (.ref t3), .val (.int (3 : Int32)), .val (.int (4 : Int32)), .val (.int (3 : Int32)), .val (.int c3)]) rfl ?_
            refine XS.iinc X354.here hx rfl (hb hby d9_35) rfl (l' := #[.val (.ref t1), .val (.int ((3 : Int32) + (1 : Int32))), .val (.ref t3), .val (.int ((3 : Int32) + (1 : Int32))), .val (.int (4 : Int32)), .val (.int (3 : Int32)), .val (.int c3)]) rfl ?_
            refine XS.iinc X354.here hx rfl (hb hby d9_38) rfl (l' := #[.val (.ref t1), .val (.int ((3 : Int32) + (1 : Int32))), .val (.ref t3), .val (.int ((3 : Int32) + (1 : Int32))), .val (.int (4 : Int32)), .val (.int ((3 : Int32) + (1 : Int32))), .val (.int c3)]) rfl ?_
            show Steps p.tables e below (T354.setTop (mkF m 41 #[.val (.ref t1), .val (.int ((3 : Int32) + (1 : Int32))), .val (.ref t3), .val (.int ((3 : Int32) + (1 : Int32))), .val (.int (4 : Int32)), .val (.int ((3 : Int32) + (1 : Int32))), .val (.int c3)] [])) _
            rw [show ((3 : Int32) + (1 : Int32)) = (4 : Int32) from by decide]
            show Steps p.tables e below (T354.setTop (mkF m 41 #[.val (.ref t1), .val (.int (4 : Int32)), .val (.ref t3), .val (.int (4 : Int32)), .val (.int (4 : Int32)), .val (.int (4 : Int32)), .val (.int c3)] [])) _
            refine XS.goto X354.here hx rfl (pc0 := 41) (pc' := 3) rfl (hb hby d9_41) (by decide) (by decide) ?_
            show Steps p.tables e below (T354.setTop (mkF m 3 #[.val (.ref t1), .val (.int (4 : Int32)), .val (.ref t3), .val (.int (4 : Int32)), .val (.int (4 : Int32)), .val (.int (4 : Int32)), .val (.int c3)] [])) _
            refine XS.iload X354.here hx rfl (hb hby d9_3) rfl ?_
            refine XS.iload X354.here hx rfl (hb hby d9_5) rfl ?_
            refine XS.icmpYes X354.here hx rfl (pc0 := 7) (pc' := 44) rfl (hb hby d9_7) rfl (flt (by decide : ¬ ((4 : Int32) < (4 : Int32)))).2.1 (by decide) (by decide) ?_
            show Steps p.tables e below (T354.setTop (mkF m 44 #[.val (.ref t1), .val (.int (4 : Int32)), .val (.ref t3), .val (.int (4 : Int32)), .val (.int (4 : Int32)), .val (.int (4 : Int32)), .val (.int c3)] [])) _
            refine XS.iload X354.here hx rfl (hb hby d9_44) rfl ?_
            exact kt
          obtain ⟨fs, hr, hrun, hended, hW, hsame⟩ := X354.leave (v := some (.int (4 : Int32))) (fun h => by rw [Bd.returns] at h; cases h)
          refine ⟨_, _, (pre0 _ (pre333 _ (pre339 _ (pre345 _ (pre351 _ (pre355 _ ?_)))))), hrun, hended, _, _, rfl, ?_, ⟨_, rfl⟩, hW, hsame.mono (by decide) (by decide)⟩
          · show Steps p.tables e below (T354.setTop (mkF m 46 #[.val (.ref t1), .val (.int (4 : Int32)), .val (.ref t3), .val (.int (4 : Int32)), .val (.int (4 : Int32)), .val (.int (4 : Int32)), .val (.int c3)] [(.int (4 : Int32))])) _
            exact retOut X354 hx (t := .int) Bd.returns rfl (Or.inl ⟨rfl, Or.inl rfl, _, rfl⟩) (hb hby d9_46) hr
          · show QCp4 Z t1 kc t3 k3 c0 c1 c2 c3 h0 n0 _ T354.heap _
            rw [e354]
            exact ⟨4, rfl, N354, K354, Or.inl ⟨rfl, V354, gt0, gt1, gt2, gt3⟩⟩
theorem ef_TB4 (m : MethodId) (x0 : Addr) (x1 : Int32) (x2 : Int32) : entryFrame m #[(.ref x0), (.int x1), (.int x2)] 5 = mkF m 0 #[.val (.ref x0), .val (.int x1), .val (.int x2), .unset, .unset] [] := by (first | (simp [entryFrame, mkF, argsToLocals, Value.category]; done) | rfl)
def QTB4 (Z : State) (t1 : Addr) (kc : ClassId) (c0 : Int32) (c1 : Int32) (c2 : Int32) (c3 : Int32) (zc : Int32) (h0 : Heap) (n0 : Nat) (v : Option Value) (h : Heap) (L : List Loc) : Prop := ∃ x2, v = some (.ref x2) ∧ Fr n0 L ∧ Ext h0 h ∧ h0.size ≤ x2 ∧ ∃ (k2 : ClassId), Arv Z h x2 k2 .byte (Int32.ofNat (2 * 4)) ([c0, c1, c2, c3].flatMap own_U) (.int (0 : Int32))
set_option maxRecDepth 65536 in
set_option maxHeartbeats 40000000 in
theorem rmTB4 (l : Launch) (Z : State) (a0 : Array Value) (hw : ∀ d ∈ tables_1, d.before a0 Z = true) (ws : List Jvm.Cond) (t1 : Addr) (kc : ClassId) (c0 : Int32) (c1 : Int32) (c2 : Int32) (c3 : Int32) (zc : Int32) (h0 : Heap) (n0 : Nat) (Z0 : n0 ≤ h0.size) (KT : Arv Z h0 t1 kc .char (4 : Int32) [(.int c0), (.int c1), (.int c2), (.int c3)] (.int (0 : Int32))) (OZ : Old Z n0 h0) (SC : Sta Z Z.heap "java/lang/String" "COMPACT_STRINGS" "Z" (.int zc)) (hzc : ¬ zc = (0 : Int32)) (SA : Sta Z Z.heap "java/lang/StringUTF16" "$assertionsDisabled" "Z" (.int (1 : Int32))) (SH : Sta Z Z.heap "java/lang/StringUTF16" "HI_BYTE_SHIFT" "I" (.int (0 : Int32))) (SL : Sta Z Z.heap "java/lang/StringUTF16" "LO_BYTE_SHIFT" "I" (.int (8 : Int32))) :
    MetFree l (⟨"java/lang/StringUTF16", "toBytes", "([CII)[B"⟩ : MethodName) (head1 (Jvm.Cond.code (⟨"java/lang/StringUTF16", "toBytes", "([CII)[B"⟩ : MethodName) jdk_52_method_14_code 5 (some (.array .byte)) :: ws) ({ frames := 2, cells := 1, slots := 10, locals := 27 } : Room)) (fun a U => a = #[(.ref t1), (.int (0 : Int32)), (.int (4 : Int32))] ∧ Z.Warmed39 U.vm ∧ U.heap = h0) (fun _ _ _ _ _ => True) (fun _ U o U' => ∃ v L, o = .returned v ∧ QTB4 Z t1 kc c0 c1 c2 c3 zc h0 n0 v U'.heap L ∧ FrameEnd U o U' L ({ frames := 2, cells := 1, slots := 10, locals := 27 } : Room).cells ({ frames := 2, cells := 1, slots := 10, locals := 27 } : Room).slots) := by
  refine MetFree.of_bodySF (plainFor_of_name pn_java_lang_StringUTF16) hisR ?_
  intro p e s m args below meth c s₁ Bd hml0 hP hK
  obtain ⟨rfl, hZ, hh⟩ := hP
  have hx := Bd.exec
  have hby := Bd.bytes
  have hml : c.maxLocals = 5 := hml0
  have hown : s.vm.findClass "java/lang/StringUTF16" = some m.cls := findClass_of_methodNamed Bd.named
  have hnm := (name_of_methodNamed Bd.named Bd.method).1
  have X0 : Stand p l e ({ frames := 2, cells := 1, slots := 10, locals := 27 } : Room) s m #[(.ref t1), (.int (0 : Int32)), (.int (4 : Int32))] below meth c s₁ [] 0 0 := Stand.of_body Bd
  have e0 : s₁.heap = h0 := by rw [← hh, Bd.state]; rfl
  have N0 := Fr.nil n0
  have pre0 : ∀ t, Steps p.tables e below (s₁.setTop (mkF m 0 #[.val (.ref t1), .val (.int (0 : Int32)), .val (.int (4 : Int32)), .unset, .unset] [])) t → Steps p.tables e below (s₁.setTop (entryFrame m #[(.ref t1), (.int (0 : Int32)), (.int (4 : Int32))] 5)) t := fun t k => castTop (ef_TB4 m t1 (0 : Int32) (4 : Int32)) k
  obtain ⟨_, _, ⟨T356, L356, k356, n356⟩, -, X356, ⟨Lc356, hQ356, l356, y356, z356⟩, st356⟩ := Jvm.LawKit.callS X0 hx (y := (⟨"java/lang/StringUTF16", "newBytesFor", "(I)[B"⟩ : MethodName)) hown (mvT hZ (tw hw 84 rfl)) (mvT hZ (tw hw 85 rfl)) (mvT hZ (tw hw 45 rfl)) (mvT hZ (tw hw 86 rfl)) (by decide) (backOf (W := 0) (rmNBF l Z a0 hw [] 4 h0 n0 Z0 (by decide)) hZ (tw hw 86 rfl) (tw hw 45 rfl) (by decide) (by decide)) (g := (mkF m 1 #[.val (.ref t1), .val (.int (0 : Int32)), .val (.int (4 : Int32)), .unset, .unset] [(.int (4 : Int32))])) rfl (by rw [hml]; rfl) (argsL := [(.int (4 : Int32))]) (rest := []) (lenOf pd__I__B rfl) rfl (by show 2 * 0 + _ ≤ _; exact Nat.le_of_eq rfl) (hb hby d18_1) (fun _ _ => ⟨rfl, e0, (by decide : 0 + 1 ≤ _), (by decide : 0 + 10 ≤ _)⟩)
  dsimp only [Pt.U, Pt.locs, Pt.cells, Pt.slots] at X356 l356 y356 z356 st356 hQ356
  subst l356 y356 z356
  obtain ⟨t3, rfl, N356q, EX356, le3, k3, V3⟩ := hQ356
  have N356 := Fr.app N0 N356q
  have g_t3 : n0 ≤ t3 := Nat.le_trans Z0 le3
  have sz_t3 : h0.size ≤ t3 := Nat.le_trans (Keep.refl h0 []).1 le3
  have ne_t1_t3 : t1 ≠ t3 := Nat.ne_of_lt (Nat.lt_of_lt_of_le KT.lt le3)
  have Z356 := Nat.le_trans Z0 EX356.1
  have K356 := (Keep.refl h0 []).ext EX356
  have VA0 : Arv Z T356.heap t3 k3 .byte (Int32.ofNat (2 * 4)) [(.int (0 : Int32)), (.int (0 : Int32)), (.int (0 : Int32)), (.int (0 : Int32)), (.int (0 : Int32)), (.int (0 : Int32)), (.int (0 : Int32)), (.int (0 : Int32))] (.int (0 : Int32)) := V3
  have f357 := (KT.ext EX356)
  obtain ⟨c358, Ar358, q358, S358, M358, H358, G358⟩ := id f357
  have hin358 : ¬ ((0 : Int32) < 0 ∨ c358.slots.size ≤ ((0 : Int32)).toNatClampNeg) := inb_of S358 ⟨by decide, by decide⟩
  have hat358 : c358.slots[((0 : Int32)).toNatClampNeg]? = some (.int c0) := (H358 _ (Nat.lt_of_not_le fun y => hin358 (Or.inr y))).trans rfl
  have f359 := (OZ.ext EX356)
  obtain ⟨_, _, ⟨T360, L360, k360, n360⟩, -, X360, ⟨Lc360, hQ360, l360, y360, z360⟩, st360⟩ := Jvm.LawKit.callS X356 hx (y := (⟨"java/lang/StringUTF16", "putChar", "([BII)V"⟩ : MethodName)) hown (mvT hZ (tw hw 91 rfl)) (mvT hZ (tw hw 92 rfl)) (mvT hZ (tw hw 45 rfl)) (mvT hZ (tw hw 93 rfl)) (by decide) (backOf (W := 0) (rmPutC l Z a0 hw [] t3 k3 4 [(.int (0 : Int32)), (.int (0 : Int32)), (.int (0 : Int32)), (.int (0 : Int32)), (.int (0 : Int32)), (.int (0 : Int32)), (.int (0 : Int32)), (.int (0 : Int32))] 0 c0 T356.heap n0 Z356 (SA.ext f359.2) (SH.ext f359.2) (SL.ext f359.2) VA0 (by decide) (by decide) rfl g_t3) hZ (tw hw 93 rfl) (tw hw 45 rfl) (by decide) (by decide)) (g := (mkF m 20 #[.val (.ref t1), .val (.int (0 : Int32)), .val (.int (4 : Int32)), .val (.ref t3), .val (.int (0 : Int32))] [(.int c0), (.int (0 : Int32)), (.ref t3)])) rfl (by rw [hml]; rfl) (argsL := [(.ref t3), (.int (0 : Int32)), (.int c0)]) (rest := []) (lenOf pd___BII_V rfl) rfl (by show 2 * 0 + _ ≤ _; exact Nat.le_of_eq rfl) (hb hby d18_20) (fun _ _ => ⟨rfl, rfl, (by decide : 1 + 0 ≤ _), (by decide : 10 + 0 ≤ _)⟩)
  dsimp only [Pt.U, Pt.locs, Pt.cells, Pt.slots] at X360 l360 y360 z360 st360 hQ360
  subst l360 y360 z360
  obtain ⟨rfl, N360q, KC360, PV0⟩ := hQ360
  have N360 := Fr.app N356 N360q
  have Z360 := Nat.le_trans Z356 KC360.1
  have K360 := K356.trans KC360 (allS (Or.inr sz_t3) all0)
  have VA1 : Arv Z T360.heap t3 k3 .byte (Int32.ofNat (2 * 4)) [(.int (nar .byte ((c0 >>> ((0 : Int32) &&& 31)).toInt8.toInt32))), (.int (nar .byte ((c0 >>> ((8 : Int32) &&& 31)).toInt8.toInt32))), (.int (0 : Int32)), (.int (0 : Int32)), (.int (0 : Int32)), (.int (0 : Int32)), (.int (0 : Int32)), (.int (0 : Int32))] (.int (0 : Int32)) := PV0
  have f361 := (f357.keep KC360 (ninS ne_t1_t3 nin0))
  obtain ⟨c362, Ar362, q362, S362, M362, H362, G362⟩ := id f361
  have hin362 : ¬ ((1 : Int32) < 0 ∨ c362.slots.size ≤ ((1 : Int32)).toNatClampNeg) := inb_of S362 ⟨by decide, by decide⟩
  have hat362 : c362.slots[((1 : Int32)).toNatClampNeg]? = some (.int c1) := (H362 _ (Nat.lt_of_not_le fun y => hin362 (Or.inr y))).trans rfl
  have f363 := (f359.keep KC360 (allS g_t3 all0))
  obtain ⟨_, _, ⟨T364, L364, k364, n364⟩, -, X364, ⟨Lc364, hQ364, l364, y364, z364⟩, st364⟩ := Jvm.LawKit.callS X360 hx (y := (⟨"java/lang/StringUTF16", "putChar", "([BII)V"⟩ : MethodName)) hown (mvT hZ (tw hw 91 rfl)) (mvT hZ (tw hw 92 rfl)) (mvT hZ (tw hw 45 rfl)) (mvT hZ (tw hw 93 rfl)) (by decide) (backOf (W := 0) (rmPutC l Z a0 hw [] t3 k3 4 [(.int (nar .byte ((c0 >>> ((0 : Int32) &&& 31)).toInt8.toInt32))), (.int (nar .byte ((c0 >>> ((8 : Int32) &&& 31)).toInt8.toInt32))), (.int (0 : Int32)), (.int (0 : Int32)), (.int (0 : Int32)), (.int (0 : Int32)), (.int (0 : Int32)), (.int (0 : Int32))] 1 c1 T360.heap n0 Z360 (SA.ext f363.2) (SH.ext f363.2) (SL.ext f363.2) VA1 (by decide) (by decide) rfl g_t3) hZ (tw hw 93 rfl) (tw hw 45 rfl) (by decide) (by decide)) (g := (mkF m 20 #[.val (.ref t1), .val (.int (1 : Int32)), .val (.int (4 : Int32)), .val (.ref t3), .val (.int (1 : Int32))] [(.int c1), (.int (1 : Int32)), (.ref t3)])) rfl (by rw [hml]; rfl) (argsL := [(.ref t3), (.int (1 : Int32)), (.int c1)]) (rest := []) (lenOf pd___BII_V rfl) rfl (by show 2 * 0 + _ ≤ _; exact Nat.le_of_eq rfl) (hb hby d18_20) (fun _ _ => ⟨rfl, rfl, (by decide : 1 + 0 ≤ _), (by decide : 10 + 0 ≤ _)⟩)
  dsimp only [Pt.U, Pt.locs, Pt.cells, Pt.slots] at X364 l364 y364 z364 st364 hQ364
  subst l364 y364 z364
  obtain ⟨rfl, N364q, KC364, PV1⟩ := hQ364
  have N364 := Fr.app N360 N364q
  have Z364 := Nat.le_trans Z360 KC364.1
  have K364 := K360.trans KC364 (allS (Or.inr sz_t3) all0)
  have VA2 : Arv Z T364.heap t3 k3 .byte (Int32.ofNat (2 * 4)) [(.int (nar .byte ((c0 >>> ((0 : Int32) &&& 31)).toInt8.toInt32))), (.int (nar .byte ((c0 >>> ((8 : Int32) &&& 31)).toInt8.toInt32))), (.int (nar .byte ((c1 >>> ((0 : Int32) &&& 31)).toInt8.toInt32))), (.int (nar .byte ((c1 >>> ((8 : Int32) &&& 31)).toInt8.toInt32))), (.int (0 : Int32)), (.int (0 : Int32)), (.int (0 : Int32)), (.int (0 : Int32))] (.int (0 : Int32)) := PV1
  have f365 := (f361.keep KC364 (ninS ne_t1_t3 nin0))
  obtain ⟨c366, Ar366, q366, S366, M366, H366, G366⟩ := id f365
  have hin366 : ¬ ((2 : Int32) < 0 ∨ c366.slots.size ≤ ((2 : Int32)).toNatClampNeg) := inb_of S366 ⟨by decide, by decide⟩
  have hat366 : c366.slots[((2 : Int32)).toNatClampNeg]? = some (.int c2) := (H366 _ (Nat.lt_of_not_le fun y => hin366 (Or.inr y))).trans rfl
  have f367 := (f363.keep KC364 (allS g_t3 all0))
  obtain ⟨_, _, ⟨T368, L368, k368, n368⟩, -, X368, ⟨Lc368, hQ368, l368, y368, z368⟩, st368⟩ := Jvm.LawKit.callS X364 hx (y := (⟨"java/lang/StringUTF16", "putChar", "([BII)V"⟩ : MethodName)) hown (mvT hZ (tw hw 91 rfl)) (mvT hZ (tw hw 92 rfl)) (mvT hZ (tw hw 45 rfl)) (mvT hZ (tw hw 93 rfl)) (by decide) (backOf (W := 0) (rmPutC l Z a0 hw [] t3 k3 4 [(.int (nar .byte ((c0 >>> ((0 : Int32) &&& 31)).toInt8.toInt32))), (.int (nar .byte ((c0 >>> ((8 : Int32) &&& 31)).toInt8.toInt32))), (.int (nar .byte ((c1 >>> ((0 : Int32) &&& 31)).toInt8.toInt32))), (.int (nar .byte ((c1 >>> ((8 : Int32) &&& 31)).toInt8.toInt32))), (.int (0 : Int32)), (.int (0 : Int32)), (.int (0 : Int32)), (.int (0 : Int32))] 2 c2 T364.heap n0 Z364 (SA.ext f367.2) (SH.ext f367.2) (SL.ext f367.2) VA2 (by decide) (by decide) rfl g_t3) hZ (tw hw 93 rfl) (tw hw 45 rfl) (by decide) (by decide)) (g := (mkF m 20 #[.val (.ref t1), .val (.int (2 : Int32)), .val (.int (4 : Int32)), .val (.ref t3), .val (.int (2 : Int32))] [(.int c2), (.int (2 : Int32)), (.ref t3)])) rfl (by rw [hml]; rfl) (argsL := [(.ref t3), (.int (2 : Int32)), (.int c2)]) (rest := []) (lenOf pd___BII_V rfl) rfl (by show 2 * 0 + _ ≤ _; exact Nat.le_of_eq rfl) (hb hby d18_20) (fun _ _ => ⟨rfl, rfl, (by decide : 1 + 0 ≤ _), (by decide : 10 + 0 ≤ _)⟩)
  dsimp only [Pt.U, Pt.locs, Pt.cells, Pt.slots] at X368 l368 y368 z368 st368 hQ368
  subst l368 y368 z368
  obtain ⟨rfl, N368q, KC368, PV2⟩ := hQ368
  have N368 := Fr.app N364 N368q
  have Z368 := Nat.le_trans Z364 KC368.1
  have K368 := K364.trans KC368 (allS (Or.inr sz_t3) all0)
  have VA3 : Arv Z T368.heap t3 k3 .byte (Int32.ofNat (2 * 4)) [(.int (nar .byte ((c0 >>> ((0 : Int32) &&& 31)).toInt8.toInt32))), (.int (nar .byte ((c0 >>> ((8 : Int32) &&& 31)).toInt8.toInt32))), (.int (nar .byte ((c1 >>> ((0 : Int32) &&& 31)).toInt8.toInt32))), (.int (nar .byte ((c1 >>> ((8 : Int32) &&& 31)).toInt8.toInt32))), (.int (nar .byte ((c2 >>> ((0 : Int32) &&& 31)).toInt8.toInt32))), (.int (nar .byte ((c2 >>> ((8 : Int32) &&& 31)).toInt8.toInt32))), (.int (0 : Int32)), (.int (0 : Int32))] (.int (0 : Int32)) := PV2
  have f369 := (f365.keep KC368 (ninS ne_t1_t3 nin0))
  obtain ⟨c370, Ar370, q370, S370, M370, H370, G370⟩ := id f369
  have hin370 : ¬ ((3 : Int32) < 0 ∨ c370.slots.size ≤ ((3 : Int32)).toNatClampNeg) := inb_of S370 ⟨by decide, by decide⟩
  have hat370 : c370.slots[((3 : Int32)).toNatClampNeg]? = some (.int c3) := (H370 _ (Nat.lt_of_not_le fun y => hin370 (Or.inr y))).trans rfl
  have f371 := (f367.keep KC368 (allS g_t3 all0))
  obtain ⟨_, _, ⟨T372, L372, k372, n372⟩, -, X372, ⟨Lc372, hQ372, l372, y372, z372⟩, st372⟩ := Jvm.LawKit.callS X368 hx (y := (⟨"java/lang/StringUTF16", "putChar", "([BII)V"⟩ : MethodName)) hown (mvT hZ (tw hw 91 rfl)) (mvT hZ (tw hw 92 rfl)) (mvT hZ (tw hw 45 rfl)) (mvT hZ (tw hw 93 rfl)) (by decide) (backOf (W := 0) (rmPutC l Z a0 hw [] t3 k3 4 [(.int (nar .byte ((c0 >>> ((0 : Int32) &&& 31)).toInt8.toInt32))), (.int (nar .byte ((c0 >>> ((8 : Int32) &&& 31)).toInt8.toInt32))), (.int (nar .byte ((c1 >>> ((0 : Int32) &&& 31)).toInt8.toInt32))), (.int (nar .byte ((c1 >>> ((8 : Int32) &&& 31)).toInt8.toInt32))), (.int (nar .byte ((c2 >>> ((0 : Int32) &&& 31)).toInt8.toInt32))), (.int (nar .byte ((c2 >>> ((8 : Int32) &&& 31)).toInt8.toInt32))), (.int (0 : Int32)), (.int (0 : Int32))] 3 c3 T368.heap n0 Z368 (SA.ext f371.2) (SH.ext f371.2) (SL.ext f371.2) VA3 (by decide) (by decide) rfl g_t3) hZ (tw hw 93 rfl) (tw hw 45 rfl) (by decide) (by decide)) (g := (mkF m 20 #[.val (.ref t1), .val (.int (3 : Int32)), .val (.int (4 : Int32)), .val (.ref t3), .val (.int (3 : Int32))] [(.int c3), (.int (3 : Int32)), (.ref t3)])) rfl (by rw [hml]; rfl) (argsL := [(.ref t3), (.int (3 : Int32)), (.int c3)]) (rest := []) (lenOf pd___BII_V rfl) rfl (by show 2 * 0 + _ ≤ _; exact Nat.le_of_eq rfl) (hb hby d18_20) (fun _ _ => ⟨rfl, rfl, (by decide : 1 + 0 ≤ _), (by decide : 10 + 0 ≤ _)⟩)
  dsimp only [Pt.U, Pt.locs, Pt.cells, Pt.slots] at X372 l372 y372 z372 st372 hQ372
  subst l372 y372 z372
  obtain ⟨rfl, N372q, KC372, PV3⟩ := hQ372
  have N372 := Fr.app N368 N372q
  have K372 := K368.trans KC372 (allS (Or.inr sz_t3) all0)
  have VA4 : Arv Z T372.heap t3 k3 .byte (Int32.ofNat (2 * 4)) [(.int (nar .byte ((c0 >>> ((0 : Int32) &&& 31)).toInt8.toInt32))), (.int (nar .byte ((c0 >>> ((8 : Int32) &&& 31)).toInt8.toInt32))), (.int (nar .byte ((c1 >>> ((0 : Int32) &&& 31)).toInt8.toInt32))), (.int (nar .byte ((c1 >>> ((8 : Int32) &&& 31)).toInt8.toInt32))), (.int (nar .byte ((c2 >>> ((0 : Int32) &&& 31)).toInt8.toInt32))), (.int (nar .byte ((c2 >>> ((8 : Int32) &&& 31)).toInt8.toInt32))), (.int (nar .byte ((c3 >>> ((0 : Int32) &&& 31)).toInt8.toInt32))), (.int (nar .byte ((c3 >>> ((8 : Int32) &&& 31)).toInt8.toInt32)))] (.int (0 : Int32)) := PV3
  have pre373 : ∀ t, Steps p.tables e below (T372.setTop (mkF m 33 #[.val (.ref t1), .val (.int (4 : Int32)), .val (.int (4 : Int32)), .val (.ref t3), .val (.int (4 : Int32))] [(.ref t3)])) t → Steps p.tables e below (s₁.setTop (mkF m 0 #[.val (.ref t1), .val (.int (0 : Int32)), .val (.int (4 : Int32)), .unset, .unset] [])) t := by
    intro t kt
    show Steps p.tables e below (s₁.setTop (mkF m 0 #[.val (.ref t1), .val (.int (0 : Int32)), .val (.int (4 : Int32)), .unset, .unset] [])) _
    refine XS.iloadN X0.here hx rfl (hb hby d18_0) rfl ?_
    refine st356 _ ?_
    show Steps p.tables e below (T356.setTop (mkF m 4 #[.val (.ref t1), .val (.int (0 : Int32)), .val (.int (4 : Int32)), .unset, .unset] [(.ref t3)])) _
    refine XS.astoreN X356.here hx rfl (hb hby d18_4) rfl rfl (l' := #[.val (.ref t1), .val (.int (0 : Int32)), .val (.int (4 : Int32)), .val (.ref t3), .unset]) rfl ?_
    refine XS.iconst X356.here hx rfl (hb hby d18_5) ?_
    refine XS.istore X356.here hx rfl (hb hby d18_6) rfl (l' := #[.val (.ref t1), .val (.int (0 : Int32)), .val (.int (4 : Int32)), .val (.ref t3), .val (.int (0 : Int32))]) rfl ?_
    show Steps p.tables e below (T356.setTop (mkF m 8 #[.val (.ref t1), .val (.int (0 : Int32)), .val (.int (4 : Int32)), .val (.ref t3), .val (.int (0 : Int32))] [])) _
    refine XS.iload X356.here hx rfl (hb hby d18_8) rfl ?_
    refine XS.iloadN X356.here hx rfl (hb hby d18_10) rfl ?_
    refine XS.icmpNo X356.here hx rfl (hb hby d18_11) rfl (tlt (by decide : (0 : Int32) < (4 : Int32))).2.1 ?_
    show Steps p.tables e below (T356.setTop (mkF m 14 #[.val (.ref t1), .val (.int (0 : Int32)), .val (.int (4 : Int32)), .val (.ref t3), .val (.int (0 : Int32))] [])) _
    refine XS.aloadN X356.here hx rfl (hb hby d18_14) rfl rfl ?_
    refine XS.iload X356.here hx rfl (hb hby d18_15) rfl ?_
    refine XS.aloadN X356.here hx rfl (hb hby d18_17) rfl rfl ?_
    refine XS.iloadN X356.here hx rfl (hb hby d18_18) rfl ?_
    show Steps p.tables e below (T356.setTop (mkF m 19 #[.val (.ref t1), .val (.int (0 : Int32)), .val (.int (4 : Int32)), .val (.ref t3), .val (.int (0 : Int32))] [(.int (0 : Int32)), (.ref t1), (.int (0 : Int32)), (.ref t3)])) _
    refine X356.caload hx (j := (0 : Int32)) (v := (.int c0)) Ar358.1 (State.isArrayOf_alike hZ.alike Ar358.2.1) Ar358.2.2 hin358 hat358 (g := (mkF m 19 #[.val (.ref t1), .val (.int (0 : Int32)), .val (.int (4 : Int32)), .val (.ref t3), .val (.int (0 : Int32))] [(.int (0 : Int32)), (.ref t1), (.int (0 : Int32)), (.ref t3)])) rfl rfl (hb hby d18_19) _ ?_
    refine st360 _ ?_
    show Steps p.tables e below (T360.setTop (mkF m 23 #[.val (.ref t1), .val (.int (0 : Int32)), .val (.int (4 : Int32)), .val (.ref t3), .val (.int (0 : Int32))] [])) _
    refine XS.iinc X360.here hx rfl (hb hby d18_23) rfl (l' := #[.val (.ref t1), .val (.int ((0 : Int32) + (1 : Int32))), .val (.int (4 : Int32)), .val (.ref t3), .val (.int (0 : Int32))]) rfl ?_
    refine XS.iinc X360.here hx rfl (hb hby d18_26) rfl (l' := #[.val (.ref t1), .val (.int ((0 : Int32) + (1 : Int32))), .val (.int (4 : Int32)), .val (.ref t3), .val (.int ((0 : Int32) + (1 : Int32)))]) rfl ?_
    show Steps p.tables e below (T360.setTop (mkF m 29 #[.val (.ref t1), .val (.int ((0 : Int32) + (1 : Int32))), .val (.int (4 : Int32)), .val (.ref t3), .val (.int ((0 : Int32) + (1 : Int32)))] [])) _
    rw [show ((0 : Int32) + (1 : Int32)) = (1 : Int32) from by decide]
    show Steps p.tables e below (T360.setTop (mkF m 29 #[.val (.ref t1), .val (.int (1 : Int32)), .val (.int (4 : Int32)), .val (.ref t3), .val (.int (1 : Int32))] [])) _
    refine XS.goto X360.here hx rfl (pc0 := 29) (pc' := 8) rfl (hb hby d18_29) (by decide) (by decide) ?_
    show Steps p.tables e below (T360.setTop (mkF m 8 #[.val (.ref t1), .val (.int (1 : Int32)), .val (.int (4 : Int32)), .val (.ref t3), .val (.int (1 : Int32))] [])) _
    refine XS.iload X360.here hx rfl (hb hby d18_8) rfl ?_
    refine XS.iloadN X360.here hx rfl (hb hby d18_10) rfl ?_
    refine XS.icmpNo X360.here hx rfl (hb hby d18_11) rfl (tlt (by decide : (1 : Int32) < (4 : Int32))).2.1 ?_
    show Steps p.tables e below (T360.setTop (mkF m 14 #[.val (.ref t1), .val (.int (1 : Int32)), .val (.int (4 : Int32)), .val (.ref t3), .val (.int (1 : Int32))] [])) _
    refine XS.aloadN X360.here hx rfl (hb hby d18_14) rfl rfl ?_
    refine XS.iload X360.here hx rfl (hb hby d18_15) rfl ?_
    refine XS.aloadN X360.here hx rfl (hb hby d18_17) rfl rfl ?_
    refine XS.iloadN X360.here hx rfl (hb hby d18_18) rfl ?_
    show Steps p.tables e below (T360.setTop (mkF m 19 #[.val (.ref t1), .val (.int (1 : Int32)), .val (.int (4 : Int32)), .val (.ref t3), .val (.int (1 : Int32))] [(.int (1 : Int32)), (.ref t1), (.int (1 : Int32)), (.ref t3)])) _
    refine X360.caload hx (j := (1 : Int32)) (v := (.int c1)) Ar362.1 (State.isArrayOf_alike hZ.alike Ar362.2.1) Ar362.2.2 hin362 hat362 (g := (mkF m 19 #[.val (.ref t1), .val (.int (1 : Int32)), .val (.int (4 : Int32)), .val (.ref t3), .val (.int (1 : Int32))] [(.int (1 : Int32)), (.ref t1), (.int (1 : Int32)), (.ref t3)])) rfl rfl (hb hby d18_19) _ ?_
    refine st364 _ ?_
    show Steps p.tables e below (T364.setTop (mkF m 23 #[.val (.ref t1), .val (.int (1 : Int32)), .val (.int (4 : Int32)), .val (.ref t3), .val (.int (1 : Int32))] [])) _
    refine XS.iinc X364.here hx rfl (hb hby d18_23) rfl (l' := #[.val (.ref t1), .val (.int ((1 : Int32) + (1 : Int32))), .val (.int (4 : Int32)), .val (.ref t3), .val (.int (1 : Int32))]) rfl ?_
    refine XS.iinc X364.here hx rfl (hb hby d18_26) rfl (l' := #[.val (.ref t1), .val (.int ((1 : Int32) + (1 : Int32))), .val (.int (4 : Int32)), .val (.ref t3), .val (.int ((1 : Int32) + (1 : Int32)))]) rfl ?_
    show Steps p.tables e below (T364.setTop (mkF m 29 #[.val (.ref t1), .val (.int ((1 : Int32) + (1 : Int32))), .val (.int (4 : Int32)), .val (.ref t3), .val (.int ((1 : Int32) + (1 : Int32)))] [])) _
    rw [show ((1 : Int32) + (1 : Int32)) = (2 : Int32) from by decide]
    show Steps p.tables e below (T364.setTop (mkF m 29 #[.val (.ref t1), .val (.int (2 : Int32)), .val (.int (4 : Int32)), .val (.ref t3), .val (.int (2 : Int32))] [])) _
    refine XS.goto X364.here hx rfl (pc0 := 29) (pc' := 8) rfl (hb hby d18_29) (by decide) (by decide) ?_
    show Steps p.tables e below (T364.setTop (mkF m 8 #[.val (.ref t1), .val (.int (2 : Int32)), .val (.int (4 : Int32)), .val (.ref t3), .val (.int (2 : Int32))] [])) _
    refine XS.iload X364.here hx rfl (hb hby d18_8) rfl ?_
    refine XS.iloadN X364.here hx rfl (hb hby d18_10) rfl ?_
    refine XS.icmpNo X364.here hx rfl (hb hby d18_11) rfl (tlt (by decide : (2 : Int32) < (4 : Int32))).2.1 ?_
    show Steps p.tables e below (T364.setTop (mkF m 14 #[.val (.ref t1), .val (.int (2 : Int32)), .val (.int (4 : Int32)), .val (.ref t3), .val (.int (2 : Int32))] [])) _
    refine XS.aloadN X364.here hx rfl (hb hby d18_14) rfl rfl ?_
    refine XS.iload X364.here hx rfl (hb hby d18_15) rfl ?_
    refine XS.aloadN X364.here hx rfl (hb hby d18_17) rfl rfl ?_
    refine XS.iloadN X364.here hx rfl (hb hby d18_18) rfl ?_
    show Steps p.tables e below (T364.setTop (mkF m 19 #[.val (.ref t1), .val (.int (2 : Int32)), .val (.int (4 : Int32)), .val (.ref t3), .val (.int (2 : Int32))] [(.int (2 : Int32)), (.ref t1), (.int (2 : Int32)), (.ref t3)])) _
    refine X364.caload hx (j := (2 : Int32)) (v := (.int c2)) Ar366.1 (State.isArrayOf_alike hZ.alike Ar366.2.1) Ar366.2.2 hin366 hat366 (g := (mkF m 19 #[.val (.ref t1), .val (.int (2 : Int32)), .val (.int (4 : Int32)), .val (.ref t3), .val (.int (2 : Int32))] [(.int (2 : Int32)), (.ref t1), (.int (2 : Int32)), (.ref t3)])) rfl rfl (hb hby d18_19) _ ?_
    refine st368 _ ?_
    show Steps p.tables e below (T368.setTop (mkF m 23 #[.val (.ref t1), .val (.int (2 : Int32)), .val (.int (4 : Int32)), .val (.ref t3), .val (.int (2 : Int32))] [])) _
    refine XS.iinc X368.here hx rfl (hb hby d18_23) rfl (l' := #[.val (.ref t1), .val (.int ((2 : Int32) + (1 : Int32))), .val (.int (4 : Int32)), .val (.ref t3), .val (.int (2 : Int32))]) rfl ?_
    refine XS.iinc X368.here hx rfl (hb hby d18_26) rfl (l' := #[.val (.ref t1), .val (.int ((2 : Int32) + (1 : Int32))), .val (.int (4 : Int32)), .val (.ref t3), .val (.int ((2 : Int32) + (1 : Int32)))]) rfl ?_
    show Steps p.tables e below (T368.setTop (mkF m 29 #[.val (.ref t1), .val (.int ((2 : Int32) + (1 : Int32))), .val (.int (4 : Int32)), .val (.ref t3), .val (.int ((2 : Int32) + (1 : Int32)))] [])) _
    rw [show ((2 : Int32) + (1 : Int32)) = (3 : Int32) from by decide]
    show Steps p.tables e below (T368.setTop (mkF m 29 #[.val (.ref t1), .val (.int (3 : Int32)), .val (.int (4 : Int32)), .val (.ref t3), .val (.int (3 : Int32))] [])) _
    refine XS.goto X368.here hx rfl (pc0 := 29) (pc' := 8) rfl (hb hby d18_29) (by decide) (by decide) ?_
    show Steps p.tables e below (T368.setTop (mkF m 8 #[.val (.ref t1), .val (.int (3 : Int32)), .val (.int (4 : Int32)), .val (.ref t3), .val (.int (3 : Int32))] [])) _
    refine XS.iload X368.here hx rfl (hb hby d18_8) rfl ?_
    refine XS.iloadN X368.here hx rfl (hb hby d18_10) rfl ?_
    refine XS.icmpNo X368.here hx rfl (hb hby d18_11) rfl (tlt (by decide : (3 : Int32) < (4 : Int32))).2.1 ?_
    show Steps p.tables e below (T368.setTop (mkF m 14 #[.val (.ref t1), .val (.int (3 : Int32)), .val (.int (4 : Int32)), .val (.ref t3), .val (.int (3 : Int32))] [])) _
    refine XS.aloadN X368.here hx rfl (hb hby d18_14) rfl rfl ?_
    refine XS.iload X368.here hx rfl (hb hby d18_15) rfl ?_
    refine XS.aloadN X368.here hx rfl (hb hby d18_17) rfl rfl ?_
    refine XS.iloadN X368.here hx rfl (hb hby d18_18) rfl ?_
    show Steps p.tables e below (T368.setTop (mkF m 19 #[.val (.ref t1), .val (.int (3 : Int32)), .val (.int (4 : Int32)), .val (.ref t3), .val (.int (3 : Int32))] [(.int (3 : Int32)), (.ref t1), (.int (3 : Int32)), (.ref t3)])) _
    refine X368.caload hx (j := (3 : Int32)) (v := (.int c3)) Ar370.1 (State.isArrayOf_alike hZ.alike Ar370.2.1) Ar370.2.2 hin370 hat370 (g := (mkF m 19 #[.val (.ref t1), .val (.int (3 : Int32)), .val (.int (4 : Int32)), .val (.ref t3), .val (.int (3 : Int32))] [(.int (3 : Int32)), (.ref t1), (.int (3 : Int32)), (.ref t3)])) rfl rfl (hb hby d18_19) _ ?_
    refine st372 _ ?_
    show Steps p.tables e below (T372.setTop (mkF m 23 #[.val (.ref t1), .val (.int (3 : Int32)), .val (.int (4 : Int32)), .val (.ref t3), .val (.int (3 : Int32))] [])) _
    refine XS.iinc X372.here hx rfl (hb hby d18_23) rfl (l' := #[.val (.ref t1), .val (.int ((3 : Int32) + (1 : Int32))), .val (.int (4 : Int32)), .val (.ref t3), .val (.int (3 : Int32))]) rfl ?_
    refine XS.iinc X372.here hx rfl (hb hby d18_26) rfl (l' := #[.val (.ref t1), .val (.int ((3 : Int32) + (1 : Int32))), .val (.int (4 : Int32)), .val (.ref t3), .val (.int ((3 : Int32) + (1 : Int32)))]) rfl ?_
    show Steps p.tables e below (T372.setTop (mkF m 29 #[.val (.ref t1), .val (.int ((3 : Int32) + (1 : Int32))), .val (.int (4 : Int32)), .val (.ref t3), .val (.int ((3 : Int32) + (1 : Int32)))] [])) _
    rw [show ((3 : Int32) + (1 : Int32)) = (4 : Int32) from by decide]
    show Steps p.tables e below (T372.setTop (mkF m 29 #[.val (.ref t1), .val (.int (4 : Int32)), .val (.int (4 : Int32)), .val (.ref t3), .val (.int (4 : Int32))] [])) _
    refine XS.goto X372.here hx rfl (pc0 := 29) (pc' := 8) rfl (hb hby d18_29) (by decide) (by decide) ?_
    show Steps p.tables e below (T372.setTop (mkF m 8 #[.val (.ref t1), .val (.int (4 : Int32)), .val (.int (4 : Int32)), .val (.ref t3), .val (.int (4 : Int32))] [])) _
    refine XS.iload X372.here hx rfl (hb hby d18_8) rfl ?_
    refine XS.iloadN X372.here hx rfl (hb hby d18_10) rfl ?_
    refine XS.icmpYes X372.here hx rfl (pc0 := 11) (pc' := 32) rfl (hb hby d18_11) rfl (flt (by decide : ¬ ((4 : Int32) < (4 : Int32)))).2.1 (by decide) (by decide) ?_
    show Steps p.tables e below (T372.setTop (mkF m 32 #[.val (.ref t1), .val (.int (4 : Int32)), .val (.int (4 : Int32)), .val (.ref t3), .val (.int (4 : Int32))] [])) _
    refine XS.aloadN X372.here hx rfl (hb hby d18_32) rfl rfl ?_
    exact kt
  obtain ⟨fs, hr, hrun, hended, hW, hsame⟩ := X372.leave (v := some (.ref t3)) (fun h => by rw [Bd.returns] at h; cases h)
  refine ⟨_, _, (pre0 _ (pre373 _ ?_)), hrun, hended, _, _, rfl, ?_, ⟨_, rfl⟩, hW, hsame.mono (by decide) (by decide)⟩
  · show Steps p.tables e below (T372.setTop (mkF m 33 #[.val (.ref t1), .val (.int (4 : Int32)), .val (.int (4 : Int32)), .val (.ref t3), .val (.int (4 : Int32))] [(.ref t3)])) _
    exact retOut X372 hx (t := (.array .byte)) Bd.returns rfl (Or.inr (Or.inr (Or.inr (Or.inr ⟨rfl, rfl, rfl⟩)))) (hb hby d18_33) hr
  · show QTB4 Z t1 kc c0 c1 c2 c3 zc h0 n0 _ T372.heap _
    exact ⟨t3, rfl, N372, own_ext K372, sz_t3, k3, VA4⟩
theorem ef_CB4 (m : MethodId) (x0 : Addr) (x1 : Int32) (x2 : Int32) : entryFrame m #[(.ref x0), (.int x1), (.int x2)] 6 = mkF m 0 #[.val (.ref x0), .val (.int x1), .val (.int x2), .unset, .unset, .unset] [] := by (first | (simp [entryFrame, mkF, argsToLocals, Value.category]; done) | rfl)
def QCB4 (Z : State) (t1 : Addr) (kc : ClassId) (c0 : Int32) (c1 : Int32) (c2 : Int32) (c3 : Int32) (zc : Int32) (h0 : Heap) (n0 : Nat) (v : Option Value) (h : Heap) (L : List Loc) : Prop := ∃ x2, v = some (.ref x2) ∧ Fr n0 L ∧ Ext h0 h ∧ h0.size ≤ x2 ∧ ∃ (k2 : ClassId), ((Arv Z h x2 k2 .byte (Int32.ofNat (4)) ([c0, c1, c2, c3].map own_B) (.int (0 : Int32)) ∧ ¬ ((255 : Int32) < c0) ∧ ¬ ((255 : Int32) < c1) ∧ ¬ ((255 : Int32) < c2) ∧ ¬ ((255 : Int32) < c3)) ∨ Arv Z h x2 k2 .byte (Int32.ofNat (2 * 4)) ([c0, c1, c2, c3].flatMap own_U) (.int (0 : Int32)))
set_option maxRecDepth 65536 in
set_option maxHeartbeats 40000000 in
theorem rmCB4 (l : Launch) (Z : State) (a0 : Array Value) (hw : ∀ d ∈ tables_1, d.before a0 Z = true) (ws : List Jvm.Cond) (t1 : Addr) (kc : ClassId) (c0 : Int32) (c1 : Int32) (c2 : Int32) (c3 : Int32) (zc : Int32) (h0 : Heap) (n0 : Nat) (Z0 : n0 ≤ h0.size) (KT : Arv Z h0 t1 kc .char (4 : Int32) [(.int c0), (.int c1), (.int c2), (.int c3)] (.int (0 : Int32))) (hc0 : nar .char c0 = c0) (hc1 : nar .char c1 = c1) (hc2 : nar .char c2 = c2) (hc3 : nar .char c3 = c3) (OZ : Old Z n0 h0) (SC : Sta Z Z.heap "java/lang/String" "COMPACT_STRINGS" "Z" (.int zc)) (hzc : ¬ zc = (0 : Int32)) (SA : Sta Z Z.heap "java/lang/StringUTF16" "$assertionsDisabled" "Z" (.int (1 : Int32))) (SH : Sta Z Z.heap "java/lang/StringUTF16" "HI_BYTE_SHIFT" "I" (.int (0 : Int32))) (SL : Sta Z Z.heap "java/lang/StringUTF16" "LO_BYTE_SHIFT" "I" (.int (8 : Int32))) :
    MetFree l (⟨"java/lang/StringUTF16", "compress", "([CII)[B"⟩ : MethodName) (head1 (Jvm.Cond.code (⟨"java/lang/StringUTF16", "compress", "([CII)[B"⟩ : MethodName) jdk_52_method_16_code 6 (some (.array .byte)) :: ws) ({ frames := 3, cells := 2, slots := 14, locals := 45 } : Room)) (fun a U => a = #[(.ref t1), (.int (0 : Int32)), (.int (4 : Int32))] ∧ Z.Warmed39 U.vm ∧ U.heap = h0) (fun _ _ _ _ _ => True) (fun _ U o U' => ∃ v L, o = .returned v ∧ QCB4 Z t1 kc c0 c1 c2 c3 zc h0 n0 v U'.heap L ∧ FrameEnd U o U' L ({ frames := 3, cells := 2, slots := 14, locals := 45 } : Room).cells ({ frames := 3, cells := 2, slots := 14, locals := 45 } : Room).slots) := by
  refine MetFree.of_bodySF (plainFor_of_name pn_java_lang_StringUTF16) hisR ?_
  intro p e s m args below meth c s₁ Bd hml0 hP hK
  obtain ⟨rfl, hZ, hh⟩ := hP
  have hx := Bd.exec
  have hby := Bd.bytes
  have hml : c.maxLocals = 6 := hml0
  have hown : s.vm.findClass "java/lang/StringUTF16" = some m.cls := findClass_of_methodNamed Bd.named
  have hnm := (name_of_methodNamed Bd.named Bd.method).1
  have X0 : Stand p l e ({ frames := 3, cells := 2, slots := 14, locals := 45 } : Room) s m #[(.ref t1), (.int (0 : Int32)), (.int (4 : Int32))] below meth c s₁ [] 0 0 := Stand.of_body Bd
  have e0 : s₁.heap = h0 := by rw [← hh, Bd.state]; rfl
  have N0 := Fr.nil n0
  have pre0 : ∀ t, Steps p.tables e below (s₁.setTop (mkF m 0 #[.val (.ref t1), .val (.int (0 : Int32)), .val (.int (4 : Int32)), .unset, .unset, .unset] [])) t → Steps p.tables e below (s₁.setTop (entryFrame m #[(.ref t1), (.int (0 : Int32)), (.int (4 : Int32))] 6)) t := fun t k => castTop (ef_CB4 m t1 (0 : Int32) (4 : Int32)) k
  have hcs : ∀ i, i < 4 → nar .char ([c0, c1, c2, c3].getD i 0) = [c0, c1, c2, c3].getD i 0 := fun i hi => by
    match i, hi with
    | 0, _ => exact hc0
    | 1, _ => exact hc1
    | 2, _ => exact hc2
    | 3, _ => exact hc3
  obtain ⟨T374, h374, k374, X374, e374, E374, A374, st374⟩ := newP X0 hx hZ (tw hw 21 rfl) e0 (g := (mkF m 1 #[.val (.ref t1), .val (.int (0 : Int32)), .val (.int (4 : Int32)), .unset, .unset, .unset] [(.int (4 : Int32))])) rfl (hb hby d8_1) rfl (by decide) (cap := 4) (by decide) (by decide) (by decide) (by decide)
  obtain ⟨b374, g374⟩ : ∃ z, z = h0.size := ⟨_, rfl⟩
  rw [← g374] at A374 st374
  have g_b374 : n0 ≤ b374 := Nat.le_trans Z0 (Nat.le_of_eq g374.symm)
  have sz_b374 : h0.size ≤ b374 := Nat.le_trans (Keep.refl h0 []).1 (Nat.le_of_eq g374.symm)
  have ne_t1_b374 : t1 ≠ b374 := Nat.ne_of_lt (Nat.lt_of_lt_of_le KT.lt (Nat.le_of_eq g374.symm))
  have Z374 := Nat.le_trans Z0 E374.1
  have K374 := (Keep.refl h0 []).ext E374
  have V374 : Arv Z h374 b374 k374 .byte (4 : Int32) [(.int (0 : Int32)), (.int (0 : Int32)), (.int (0 : Int32)), (.int (0 : Int32))] (.int (0 : Int32)) := (Arv.new A374 (by decide)).pad (pad_rep [] (.int (0 : Int32)) 4)
  have f375 := (KT.ext E374)
  obtain ⟨_, _, ⟨T376, L376, k376, n376⟩, -, X376, ⟨Lc376, hQ376, l376, y376, z376⟩, st376⟩ := Jvm.LawKit.callS X374 hx (y := (⟨"java/lang/StringUTF16", "compress", "([CI[BII)I"⟩ : MethodName)) hown (mvT hZ (tw hw 47 rfl)) (mvT hZ (tw hw 48 rfl)) (mvT hZ (tw hw 45 rfl)) (mvT hZ (tw hw 49 rfl)) (by decide) (backOf (W := 0) (rmCp4 l Z a0 hw [] t1 kc b374 k374 c0 c1 c2 c3 h374 n0 Z374 f375 V374 g_b374 ne_t1_b374) hZ (tw hw 49 rfl) (tw hw 45 rfl) (by decide) (by decide)) (g := (mkF m 9 #[.val (.ref t1), .val (.int (0 : Int32)), .val (.int (4 : Int32)), .val (.ref b374), .unset, .unset] [(.int (4 : Int32)), (.int (0 : Int32)), (.ref b374), (.int (0 : Int32)), (.ref t1)])) rfl (by rw [hml]; rfl) (argsL := [(.ref t1), (.int (0 : Int32)), (.ref b374), (.int (0 : Int32)), (.int (4 : Int32))]) (rest := []) (lenOf pd___CI_BII_I rfl) rfl (by show 2 * 0 + _ ≤ _; exact Nat.le_of_eq rfl) (hb hby d8_9) (fun _ _ => ⟨rfl, e374, (by decide : 1 + 0 ≤ _), (by decide : 4 + 0 ≤ _)⟩)
  dsimp only [Pt.U, Pt.locs, Pt.cells, Pt.slots] at X376 l376 y376 z376 st376 hQ376
  subst l376 y376 z376
  obtain ⟨k, rfl, N376q, KC376, hk⟩ := hQ376
  have N376 := Fr.app N0 N376q
  have Z376 := Nat.le_trans Z374 KC376.1
  have K376 := K374.trans KC376 (allS (Or.inr sz_b374) all0)
  have pre377 : ∀ t, Steps p.tables e below (T376.setTop (mkF m 12 #[.val (.ref t1), .val (.int (0 : Int32)), .val (.int (4 : Int32)), .val (.ref b374), .unset, .unset] [(.int (Int32.ofNat k))])) t → Steps p.tables e below (s₁.setTop (mkF m 0 #[.val (.ref t1), .val (.int (0 : Int32)), .val (.int (4 : Int32)), .unset, .unset, .unset] [])) t := by
    intro t kt
    show Steps p.tables e below (s₁.setTop (mkF m 0 #[.val (.ref t1), .val (.int (0 : Int32)), .val (.int (4 : Int32)), .unset, .unset, .unset] [])) _
    refine XS.iloadN X0.here hx rfl (hb hby d8_0) rfl ?_
    show Steps p.tables e below (s₁.setTop (mkF m 1 #[.val (.ref t1), .val (.int (0 : Int32)), .val (.int (4 : Int32)), .unset, .unset, .unset] [(.int (4 : Int32))])) _
    refine st374 _ ?_
    show Steps p.tables e below (T374.setTop (mkF m 3 #[.val (.ref t1), .val (.int (0 : Int32)), .val (.int (4 : Int32)), .unset, .unset, .unset] [(.ref b374)])) _
    refine XS.astoreN X374.here hx rfl (hb hby d8_3) rfl rfl (l' := #[.val (.ref t1), .val (.int (0 : Int32)), .val (.int (4 : Int32)), .val (.ref b374), .unset, .unset]) rfl ?_
    refine XS.aloadN X374.here hx rfl (hb hby d8_4) rfl rfl ?_
    refine XS.iloadN X374.here hx rfl (hb hby d8_5) rfl ?_
    refine XS.aloadN X374.here hx rfl (hb hby d8_6) rfl rfl ?_
    refine XS.iconst X374.here hx rfl (hb hby d8_7) ?_
    refine XS.iloadN X374.here hx rfl (hb hby d8_8) rfl ?_
    refine st376 _ ?_
    exact kt
  rcases hk with ⟨ek, V5, l0, l1, l2, l3⟩ | ⟨lk, gk⟩
  · skip
    have pre378 : ∀ t, Steps p.tables e below (T376.setTop (mkF m 58 #[.val (.ref t1), .val (.int (0 : Int32)), .val (.int (4 : Int32)), .val (.ref b374), .val (.int (Int32.ofNat k)), .unset] [(.ref b374)])) t → Steps p.tables e below (T376.setTop (mkF m 12 #[.val (.ref t1), .val (.int (0 : Int32)), .val (.int (4 : Int32)), .val (.ref b374), .unset, .unset] [(.int (Int32.ofNat k))])) t := by
      intro t kt
      show Steps p.tables e below (T376.setTop (mkF m 12 #[.val (.ref t1), .val (.int (0 : Int32)), .val (.int (4 : Int32)), .val (.ref b374), .unset, .unset] [(.int (Int32.ofNat k))])) _
      refine XS.istore X376.here hx rfl (hb hby d8_12) rfl (l' := #[.val (.ref t1), .val (.int (0 : Int32)), .val (.int (4 : Int32)), .val (.ref b374), .val (.int (Int32.ofNat k)), .unset]) rfl ?_
      refine XS.iload X376.here hx rfl (hb hby d8_14) rfl ?_
      refine XS.iloadN X376.here hx rfl (hb hby d8_16) rfl ?_
      refine XS.icmpYes X376.here hx rfl (pc0 := 17) (pc' := 57) rfl (hb hby d8_17) rfl (teq (by rw [ek]; rfl : (Int32.ofNat k) = (4 : Int32))).1 (by decide) (by decide) ?_
      show Steps p.tables e below (T376.setTop (mkF m 57 #[.val (.ref t1), .val (.int (0 : Int32)), .val (.int (4 : Int32)), .val (.ref b374), .val (.int (Int32.ofNat k)), .unset] [])) _
      refine XS.aloadN X376.here hx rfl (hb hby d8_57) rfl rfl ?_
      exact kt
    obtain ⟨fs, hr, hrun, hended, hW, hsame⟩ := X376.leave (v := some (.ref b374)) (fun h => by rw [Bd.returns] at h; cases h)
    refine ⟨_, _, (pre0 _ (pre377 _ (pre378 _ ?_))), hrun, hended, _, _, rfl, ?_, ⟨_, rfl⟩, hW, hsame.mono (by decide) (by decide)⟩
    · show Steps p.tables e below (T376.setTop (mkF m 58 #[.val (.ref t1), .val (.int (0 : Int32)), .val (.int (4 : Int32)), .val (.ref b374), .val (.int (Int32.ofNat k)), .unset] [(.ref b374)])) _
      exact retOut X376 hx (t := (.array .byte)) Bd.returns rfl (Or.inr (Or.inr (Or.inr (Or.inr ⟨rfl, rfl, rfl⟩)))) (hb hby d8_58) hr
    · show QCB4 Z t1 kc c0 c1 c2 c3 zc h0 n0 _ T376.heap _
      exact ⟨b374, rfl, N376, own_ext K376, sz_b374, k374, Or.inl ⟨V5, l0, l1, l2, l3⟩⟩
  · skip
    have f379 := (f375.keep KC376 (ninS ne_t1_b374 nin0))
    have f380 := ((OZ.ext E374).keep KC376 (allS g_b374 all0))
    obtain ⟨_, _, ⟨T381, L381, k381, n381⟩, -, X381, ⟨Lc381, hQ381, l381, y381, z381⟩, st381⟩ := Jvm.LawKit.callS X376 hx (y := (⟨"java/lang/StringUTF16", "toBytes", "([CII)[B"⟩ : MethodName)) hown (mvT hZ (tw hw 81 rfl)) (mvT hZ (tw hw 82 rfl)) (mvT hZ (tw hw 45 rfl)) (mvT hZ (tw hw 83 rfl)) (by decide) (backOf (W := 0) (rmTB4 l Z a0 hw [] t1 kc c0 c1 c2 c3 zc T376.heap n0 Z376 f379 f380 SC hzc SA SH SL) hZ (tw hw 83 rfl) (tw hw 45 rfl) (by decide) (by decide)) (g := (mkF m 23 #[.val (.ref t1), .val (.int (0 : Int32)), .val (.int (4 : Int32)), .val (.ref b374), .val (.int (Int32.ofNat k)), .unset] [(.int (4 : Int32)), (.int (0 : Int32)), (.ref t1)])) rfl (by rw [hml]; rfl) (argsL := [(.ref t1), (.int (0 : Int32)), (.int (4 : Int32))]) (rest := []) (lenOf pd___CII__B rfl) rfl (by show 2 * 0 + _ ≤ _; exact Nat.le_of_eq rfl) (hb hby d8_23) (fun _ _ => ⟨rfl, rfl, (by decide : 1 + 1 ≤ _), (by decide : 4 + 10 ≤ _)⟩)
    dsimp only [Pt.U, Pt.locs, Pt.cells, Pt.slots] at X381 l381 y381 z381 st381 hQ381
    subst l381 y381 z381
    obtain ⟨t5, rfl, N381q, EX381, le5, k5, V5⟩ := hQ381
    have N381 := Fr.app N376 N381q
    have sz_t5 : h0.size ≤ t5 := Nat.le_trans K376.1 le5
    have Z381 := Nat.le_trans Z376 EX381.1
    have K381 := K376.ext EX381
    have f382 := (f380.ext EX381)
    obtain ⟨_, _, ⟨T383, L383, k383, n383⟩, -, X383, ⟨Lc383, hQ383, l383, y383, z383⟩, st383⟩ := Jvm.LawKit.callS X381 hx (y := (⟨"java/lang/StringUTF16", "getChar", "([BI)C"⟩ : MethodName)) hown (mvT hZ (tw hw 97 rfl)) (mvT hZ (tw hw 98 rfl)) (mvT hZ (tw hw 45 rfl)) (mvT hZ (tw hw 99 rfl)) (by decide) (backOf (W := 0) (rmGetC l Z a0 hw [] t5 k5 4 ([c0, c1, c2, c3].flatMap own_U) k (nar .byte ((([c0, c1, c2, c3].getD k 0) >>> ((0 : Int32) &&& 31)).toInt8.toInt32)) (nar .byte ((([c0, c1, c2, c3].getD k 0) >>> ((8 : Int32) &&& 31)).toInt8.toInt32)) T381.heap n0 Z381 (SA.ext f382.2) (SH.ext f382.2) (SL.ext f382.2) V5 (by decide) lk (own_getU [c0, c1, c2, c3] _ k lk).1 (own_getU [c0, c1, c2, c3] _ k lk).2) hZ (tw hw 99 rfl) (tw hw 45 rfl) (by decide) (by decide)) (g := (mkF m 32 #[.val (.ref t1), .val (.int (0 : Int32)), .val (.int (4 : Int32)), .val (.ref b374), .val (.int (Int32.ofNat k)), .val (.ref t5)] [(.int (Int32.ofNat k)), (.ref t5)])) rfl (by rw [hml]; rfl) (argsL := [(.ref t5), (.int (Int32.ofNat k))]) (rest := []) (lenOf pd___BI_C rfl) rfl (by show 2 * 0 + _ ≤ _; exact Nat.le_of_eq rfl) (hb hby d8_32) (fun _ _ => ⟨rfl, rfl, (by decide : 2 + 0 ≤ _), (by decide : 14 + 0 ≤ _)⟩)
    dsimp only [Pt.U, Pt.locs, Pt.cells, Pt.slots] at X383 l383 y383 z383 st383 hQ383
    subst l383 y383 z383
    obtain ⟨rfl, N383q, EQ383⟩ := hQ383
    have N383 := Fr.app N381 N383q
    have K383 := own_keq EQ383 K381
    have f384 := (EQ383 ▸ V5)
    have pre385 : ∀ t, Steps p.tables e below (T383.setTop (mkF m 56 #[.val (.ref t1), .val (.int (0 : Int32)), .val (.int (4 : Int32)), .val (.ref b374), .val (.int (Int32.ofNat k)), .val (.ref t5)] [(.ref t5)])) t → Steps p.tables e below (T376.setTop (mkF m 12 #[.val (.ref t1), .val (.int (0 : Int32)), .val (.int (4 : Int32)), .val (.ref b374), .unset, .unset] [(.int (Int32.ofNat k))])) t := by
      intro t kt
      show Steps p.tables e below (T376.setTop (mkF m 12 #[.val (.ref t1), .val (.int (0 : Int32)), .val (.int (4 : Int32)), .val (.ref b374), .unset, .unset] [(.int (Int32.ofNat k))])) _
      refine XS.istore X376.here hx rfl (hb hby d8_12) rfl (l' := #[.val (.ref t1), .val (.int (0 : Int32)), .val (.int (4 : Int32)), .val (.ref b374), .val (.int (Int32.ofNat k)), .unset]) rfl ?_
      refine XS.iload X376.here hx rfl (hb hby d8_14) rfl ?_
      refine XS.iloadN X376.here hx rfl (hb hby d8_16) rfl ?_
      refine XS.icmpNo X376.here hx rfl (hb hby d8_17) rfl (feq (fun q => absurd (congrArg Int32.toInt q) (by rw [own_n (by omega), show ((4 : Int32)).toInt = 4 from by decide]; omega) : ¬ ((Int32.ofNat k) = (4 : Int32)))).1 ?_
      show Steps p.tables e below (T376.setTop (mkF m 20 #[.val (.ref t1), .val (.int (0 : Int32)), .val (.int (4 : Int32)), .val (.ref b374), .val (.int (Int32.ofNat k)), .unset] [])) _
      refine XS.aloadN X376.here hx rfl (hb hby d8_20) rfl rfl ?_
      refine XS.iloadN X376.here hx rfl (hb hby d8_21) rfl ?_
      refine XS.iloadN X376.here hx rfl (hb hby d8_22) rfl ?_
      refine st381 _ ?_
      show Steps p.tables e below (T381.setTop (mkF m 26 #[.val (.ref t1), .val (.int (0 : Int32)), .val (.int (4 : Int32)), .val (.ref b374), .val (.int (Int32.ofNat k)), .unset] [(.ref t5)])) _
      refine XS.astore X381.here hx rfl (hb hby d8_26) rfl rfl (l' := #[.val (.ref t1), .val (.int (0 : Int32)), .val (.int (4 : Int32)), .val (.ref b374), .val (.int (Int32.ofNat k)), .val (.ref t5)]) rfl ?_
      refine XS.aload X381.here hx rfl (hb hby d8_28) rfl rfl ?_
      refine XS.iload X381.here hx rfl (hb hby d8_30) rfl ?_
      refine st383 _ ?_
      show Steps p.tables e below (T383.setTop (mkF m 35 #[.val (.ref t1), .val (.int (0 : Int32)), .val (.int (4 : Int32)), .val (.ref b374), .val (.int (Int32.ofNat k)), .val (.ref t5)] [(.int (nar .char (((((nar .byte ((([c0, c1, c2, c3].getD k 0) >>> ((0 : Int32) &&& 31)).toInt8.toInt32)) &&& (255 : Int32)) <<< ((0 : Int32) &&& 31)) ||| (((nar .byte ((([c0, c1, c2, c3].getD k 0) >>> ((8 : Int32) &&& 31)).toInt8.toInt32)) &&& (255 : Int32)) <<< ((8 : Int32) &&& 31))).toUInt32.toUInt16.toUInt32.toInt32)))])) _
      rw [own_chU1 (hcs k lk)]
      show Steps p.tables e below (T383.setTop (mkF m 35 #[.val (.ref t1), .val (.int (0 : Int32)), .val (.int (4 : Int32)), .val (.ref b374), .val (.int (Int32.ofNat k)), .val (.ref t5)] [(.int ([c0, c1, c2, c3].getD k 0))])) _
      refine XS.sipush X383.here hx rfl (hb hby d8_35) ?_
      refine XS.icmpYes X383.here hx rfl (pc0 := 38) (pc' := 54) rfl (hb hby d8_38) rfl (tlt (gk : (255 : Int32) < ([c0, c1, c2, c3].getD k 0))).2.2.1 (by decide) (by decide) ?_
      show Steps p.tables e below (T383.setTop (mkF m 54 #[.val (.ref t1), .val (.int (0 : Int32)), .val (.int (4 : Int32)), .val (.ref b374), .val (.int (Int32.ofNat k)), .val (.ref t5)] [])) _
      refine XS.aload X383.here hx rfl (hb hby d8_54) rfl rfl ?_
      exact kt
    obtain ⟨fs, hr, hrun, hended, hW, hsame⟩ := X383.leave (v := some (.ref t5)) (fun h => by rw [Bd.returns] at h; cases h)
    refine ⟨_, _, (pre0 _ (pre377 _ (pre385 _ ?_))), hrun, hended, _, _, rfl, ?_, ⟨_, rfl⟩, hW, hsame.mono (by decide) (by decide)⟩
    · show Steps p.tables e below (T383.setTop (mkF m 56 #[.val (.ref t1), .val (.int (0 : Int32)), .val (.int (4 : Int32)), .val (.ref b374), .val (.int (Int32.ofNat k)), .val (.ref t5)] [(.ref t5)])) _
      exact retOut X383 hx (t := (.array .byte)) Bd.returns rfl (Or.inr (Or.inr (Or.inr (Or.inr ⟨rfl, rfl, rfl⟩)))) (hb hby d8_56) hr
    · show QCB4 Z t1 kc c0 c1 c2 c3 zc h0 n0 _ T383.heap _
      exact ⟨t5, rfl, N383, own_ext K383, sz_t5, k5, Or.inr f384⟩
theorem ef_I4_4 (m : MethodId) (x0 : Addr) (x1 : Addr) (x2 : Int32) (x3 : Int32) : entryFrame m #[(.ref x0), (.ref x1), (.int x2), (.int x3), .null] 6 = mkF m 0 #[.val (.ref x0), .val (.ref x1), .val (.int x2), .val (.int x3), .val .null, .unset] [] := by (first | (simp [entryFrame, mkF, argsToLocals, Value.category]; done) | rfl)
def QI4_4 (Z : State) (x1 : Addr) (t1 : Addr) (kc : ClassId) (c0 : Int32) (c1 : Int32) (c2 : Int32) (c3 : Int32) (zc : Int32) (h0 : Heap) (n0 : Nat) (v : Option Value) (h : Heap) (L : List Loc) : Prop := v = none ∧ Fr n0 L ∧ Keep h0 h [x1] ∧ own_str Z h x1 [c0, c1, c2, c3]
set_option maxRecDepth 65536 in
set_option maxHeartbeats 40000000 in
theorem rmI4_4 (l : Launch) (Z : State) (a0 : Array Value) (hw : ∀ d ∈ tables_1, d.before a0 Z = true) (ws : List Jvm.Cond) (x1 : Addr) (t1 : Addr) (kc : ClassId) (c0 : Int32) (c1 : Int32) (c2 : Int32) (c3 : Int32) (zc : Int32) (h0 : Heap) (n0 : Nat) (Z0 : n0 ≤ h0.size) (XE : Exa Z h0 x1 "java/lang/String") (XV0 : Fld Z h0 x1 "java/lang/String" "value" "[B" .null) (XC0 : Fld Z h0 x1 "java/lang/String" "coder" "B" (.int (0 : Int32))) (g_x1 : n0 ≤ x1) (KT : Arv Z h0 t1 kc .char (4 : Int32) [(.int c0), (.int c1), (.int c2), (.int c3)] (.int (0 : Int32))) (hc0 : nar .char c0 = c0) (hc1 : nar .char c1 = c1) (hc2 : nar .char c2 = c2) (hc3 : nar .char c3 = c3) (OZ : Old Z n0 h0) (SC : Sta Z Z.heap "java/lang/String" "COMPACT_STRINGS" "Z" (.int zc)) (hzc : ¬ zc = (0 : Int32)) (SA : Sta Z Z.heap "java/lang/StringUTF16" "$assertionsDisabled" "Z" (.int (1 : Int32))) (SH : Sta Z Z.heap "java/lang/StringUTF16" "HI_BYTE_SHIFT" "I" (.int (0 : Int32))) (SL : Sta Z Z.heap "java/lang/StringUTF16" "LO_BYTE_SHIFT" "I" (.int (8 : Int32))) :
    MetFree l (⟨"java/lang/String", "<init>", "([CIILjava/lang/Void;)V"⟩ : MethodName) (head1 (Jvm.Cond.code (⟨"java/lang/String", "<init>", "([CIILjava/lang/Void;)V"⟩ : MethodName) jdk_42_method_149_code 6 none :: ws) ({ frames := 4, cells := 2, slots := 14, locals := 64 } : Room)) (fun a U => a = #[(.ref x1), (.ref t1), (.int (0 : Int32)), (.int (4 : Int32)), .null] ∧ Z.Warmed39 U.vm ∧ U.heap = h0) (fun _ _ _ _ _ => True) (fun _ U o U' => ∃ v L, o = .returned v ∧ QI4_4 Z x1 t1 kc c0 c1 c2 c3 zc h0 n0 v U'.heap L ∧ FrameEnd U o U' L ({ frames := 4, cells := 2, slots := 14, locals := 64 } : Room).cells ({ frames := 4, cells := 2, slots := 14, locals := 64 } : Room).slots) := by
  refine MetFree.of_bodySF (plainFor_of_name pn_java_lang_String) hisR ?_
  intro p e s m args below meth c s₁ Bd hml0 hP hK
  obtain ⟨rfl, hZ, hh⟩ := hP
  have hx := Bd.exec
  have hby := Bd.bytes
  have hml : c.maxLocals = 6 := hml0
  have hown : s.vm.findClass "java/lang/String" = some m.cls := findClass_of_methodNamed Bd.named
  have hnm := (name_of_methodNamed Bd.named Bd.method).1
  have X0 : Stand p l e ({ frames := 4, cells := 2, slots := 14, locals := 64 } : Room) s m #[(.ref x1), (.ref t1), (.int (0 : Int32)), (.int (4 : Int32)), .null] below meth c s₁ [] 0 0 := Stand.of_body Bd
  have e0 : s₁.heap = h0 := by rw [← hh, Bd.state]; rfl
  have N0 := Fr.nil n0
  have pre0 : ∀ t, Steps p.tables e below (s₁.setTop (mkF m 0 #[.val (.ref x1), .val (.ref t1), .val (.int (0 : Int32)), .val (.int (4 : Int32)), .val .null, .unset] [])) t → Steps p.tables e below (s₁.setTop (entryFrame m #[(.ref x1), (.ref t1), (.int (0 : Int32)), (.int (4 : Int32)), .null] 6)) t := fun t k => castTop (ef_I4_4 m x1 t1 (0 : Int32) (4 : Int32)) k
  have mem_x1 : x1 ∈ [x1] := List.mem_of_getElem? (i := 0) rfl
  obtain ⟨T386, X386, e386, st386⟩ := initO X0 hx hZ hown (tw hw 17 rfl) (tw hw 18 rfl) (tw hw 19 rfl) e0 (g := (mkF m 1 #[.val (.ref x1), .val (.ref t1), .val (.int (0 : Int32)), .val (.int (4 : Int32)), .val .null, .unset] [(.ref x1)])) rfl (by rw [hml]; rfl) rfl (hb hby d3_1) (by decide) (W := 0) (by show 2 * 0 + _ ≤ _; exact Nat.le_of_eq rfl) (by decide)
  obtain ⟨T387, X387, e387, st387⟩ := getS2 X386 hx hZ hown (host := "") (Or.inl (tw hw 42 rfl)) Via.refl e386 (SC.ext OZ.2) (g := (mkF m 27 #[.val (.ref x1), .val (.ref t1), .val (.int (0 : Int32)), .val (.int (4 : Int32)), .val .null, .unset] [])) rfl (hb hby d3_27)
  obtain ⟨_, _, ⟨T388, L388, k388, n388⟩, -, X388, ⟨Lc388, hQ388, l388, y388, z388⟩, st388⟩ := Jvm.LawKit.callS X387 hx (y := (⟨"java/lang/StringUTF16", "compress", "([CII)[B"⟩ : MethodName)) hown (mvT hZ (tw hw 43 rfl)) (mvT hZ (tw hw 44 rfl)) (mvT hZ (tw hw 45 rfl)) (mvT hZ (tw hw 46 rfl)) (by decide) (backOf (W := 0) (rmCB4 l Z a0 hw [] t1 kc c0 c1 c2 c3 zc h0 n0 Z0 KT hc0 hc1 hc2 hc3 OZ SC hzc SA SH SL) hZ (tw hw 46 rfl) (tw hw 45 rfl) (by decide) (by decide)) (g := (mkF m 36 #[.val (.ref x1), .val (.ref t1), .val (.int (0 : Int32)), .val (.int (4 : Int32)), .val .null, .unset] [(.int (4 : Int32)), (.int (0 : Int32)), (.ref t1)])) rfl (by rw [hml]; rfl) (argsL := [(.ref t1), (.int (0 : Int32)), (.int (4 : Int32))]) (rest := []) (lenOf pd___CII__B rfl) rfl (by show 2 * 0 + _ ≤ _; exact Nat.le_of_eq rfl) (hb hby d3_36) (fun _ _ => ⟨rfl, e387, (by decide : 0 + 2 ≤ _), (by decide : 0 + 14 ≤ _)⟩)
  dsimp only [Pt.U, Pt.locs, Pt.cells, Pt.slots] at X388 l388 y388 z388 st388 hQ388
  subst l388 y388 z388
  obtain ⟨t5, rfl, N388q, EX388, le5, k5, hor⟩ := hQ388
  have N388 := Fr.app N0 N388q
  have ne_x1_t5 : x1 ≠ t5 := Nat.ne_of_lt (Nat.lt_of_lt_of_le XE.lt le5)
  have Z388 := Nat.le_trans Z0 EX388.1
  have K388 := (Keep.refl h0 [x1]).ext EX388
  have pre389 : ∀ t, Steps p.tables e below (T388.setTop (mkF m 45 #[.val (.ref x1), .val (.ref t1), .val (.int (0 : Int32)), .val (.int (4 : Int32)), .val .null, .val (.ref t5)] [(.int (4 : Int32)), (.ref t5), (.ref x1)])) t → Steps p.tables e below (s₁.setTop (mkF m 0 #[.val (.ref x1), .val (.ref t1), .val (.int (0 : Int32)), .val (.int (4 : Int32)), .val .null, .unset] [])) t := by
    intro t kt
    show Steps p.tables e below (s₁.setTop (mkF m 0 #[.val (.ref x1), .val (.ref t1), .val (.int (0 : Int32)), .val (.int (4 : Int32)), .val .null, .unset] [])) _
    refine XS.aloadN X0.here hx rfl (hb hby d3_0) rfl rfl ?_
    show Steps p.tables e below (s₁.setTop (mkF m 1 #[.val (.ref x1), .val (.ref t1), .val (.int (0 : Int32)), .val (.int (4 : Int32)), .val .null, .unset] [(.ref x1)])) _
    refine st386 _ ?_
    show Steps p.tables e below (T386.setTop (mkF m 4 #[.val (.ref x1), .val (.ref t1), .val (.int (0 : Int32)), .val (.int (4 : Int32)), .val .null, .unset] [])) _
    refine XS.iloadN X386.here hx rfl (hb hby d3_4) rfl ?_
    refine XS.ifYes X386.here hx rfl (pc0 := 5) (pc' := 27) rfl (hb hby d3_5) rfl ((if0 _ _).trans (feq (by decide : ¬ ((4 : Int32) = (0 : Int32)))).2) (by decide) (by decide) ?_
    refine st387 _ ?_
    refine XS.ifNo X387.here hx rfl (hb hby d3_30) rfl ((if0 _ _).trans (feq (hzc : ¬ (zc = (0 : Int32)))).1) ?_
    show Steps p.tables e below (T387.setTop (mkF m 33 #[.val (.ref x1), .val (.ref t1), .val (.int (0 : Int32)), .val (.int (4 : Int32)), .val .null, .unset] [])) _
    refine XS.aloadN X387.here hx rfl (hb hby d3_33) rfl rfl ?_
    refine XS.iloadN X387.here hx rfl (hb hby d3_34) rfl ?_
    refine XS.iloadN X387.here hx rfl (hb hby d3_35) rfl ?_
    refine st388 _ ?_
    show Steps p.tables e below (T388.setTop (mkF m 39 #[.val (.ref x1), .val (.ref t1), .val (.int (0 : Int32)), .val (.int (4 : Int32)), .val .null, .unset] [(.ref t5)])) _
    refine XS.astore X388.here hx rfl (hb hby d3_39) rfl rfl (l' := #[.val (.ref x1), .val (.ref t1), .val (.int (0 : Int32)), .val (.int (4 : Int32)), .val .null, .val (.ref t5)]) rfl ?_
    refine XS.aloadN X388.here hx rfl (hb hby d3_41) rfl rfl ?_
    refine XS.aload X388.here hx rfl (hb hby d3_42) rfl rfl ?_
    refine XS.iloadN X388.here hx rfl (hb hby d3_44) rfl ?_
    exact kt
  rcases hor with ⟨V5, l0, l1, l2, l3⟩ | V5
  · skip
    obtain ⟨_, _, ⟨T390, L390, k390, n390⟩, -, X390, ⟨Lc390, hQ390, l390, y390, z390⟩, st390⟩ := Jvm.LawKit.callS X388 hx (y := (⟨"java/lang/StringUTF16", "coderFromArrayLen", "([BI)B"⟩ : MethodName)) hown (mvT hZ (tw hw 50 rfl)) (mvT hZ (tw hw 51 rfl)) (mvT hZ (tw hw 45 rfl)) (mvT hZ (tw hw 52 rfl)) (by decide) (backOf (W := 1) (rmCFL l Z a0 hw [] t5 k5 4 ([c0, c1, c2, c3].map own_B) T388.heap n0 Z388 V5 (by decide) (by decide)) hZ (tw hw 52 rfl) (tw hw 45 rfl) (by decide) (by decide)) (g := (mkF m 45 #[.val (.ref x1), .val (.ref t1), .val (.int (0 : Int32)), .val (.int (4 : Int32)), .val .null, .val (.ref t5)] [(.int (4 : Int32)), (.ref t5), (.ref x1)])) rfl (by rw [hml]; rfl) (argsL := [(.ref t5), (.int (4 : Int32))]) (rest := [(.ref x1)]) (lenOf pd___BI_B rfl) rfl (by show 2 * 0 + _ ≤ _; exact Nat.le_of_eq rfl) (hb hby d3_45) (fun _ _ => ⟨rfl, rfl, (by decide : 2 + 0 ≤ _), (by decide : 14 + 0 ≤ _)⟩)
    dsimp only [Pt.U, Pt.locs, Pt.cells, Pt.slots] at X390 l390 y390 z390 st390 hQ390
    subst l390 y390 z390
    obtain ⟨rfl, N390q, EQ390⟩ := hQ390
    have N390 := Fr.app N388 N390q
    have K390 := own_keq EQ390 K388
    have f391 := (EQ390 ▸ (XC0.ext EX388))
    have f392 := (EQ390 ▸ (XE.ext EX388))
    obtain ⟨T393, h393, X393, e393, W393, st393⟩ := putFN X390 hx hZ hown (tw hw 27 rfl) Via.refl rfl f391 f392 (Or.inr ⟨(tw hw 23 rfl), rfl, hnm⟩) (tw hw 7 rfl) (ty := .byte) (v' := (.int (0 : Int32))) (by decide) rfl rfl (g := (mkF m 48 #[.val (.ref x1), .val (.ref t1), .val (.int (0 : Int32)), .val (.int (4 : Int32)), .val .null, .val (.ref t5)] [(.int (0 : Int32)), (.ref x1)])) rfl rfl (hb hby d3_48)
    have N393 := Fr.snoc X393 N390 g_x1
    have K393 := K390.wr W393 (Or.inl mem_x1)
    have Fw393 := f391.same W393
    have f394 := ((EQ390 ▸ (XV0.ext EX388)).other W393 (Or.inr (slot_ne (Or.inr (tw hw 22 rfl)) (Or.inr (tw hw 23 rfl)) (by decide) (t := (.array .byte)) (t' := .byte) (by decide) (by decide))))
    have f395 := (f392.wr W393)
    obtain ⟨T396, h396, X396, e396, W396, st396⟩ := putF X393 hx hZ hown (host := "") (Or.inl (tw hw 26 rfl)) Via.refl e393 f394 f395 (Or.inr ⟨(tw hw 22 rfl), rfl, hnm⟩) (tw hw 7 rfl) (ty := (.array .byte)) (by decide) rfl rfl (g := (mkF m 54 #[.val (.ref x1), .val (.ref t1), .val (.int (0 : Int32)), .val (.int (4 : Int32)), .val .null, .val (.ref t5)] [(.ref t5), (.ref x1)])) rfl rfl (hb hby d3_54)
    have N396 := Fr.snoc X396 N393 g_x1
    have K396 := K393.wr W396 (Or.inl mem_x1)
    have Fw396 := f394.same W396
    have hl : ∀ i, i < [c0, c1, c2, c3].length → ¬ ((255 : Int32) < [c0, c1, c2, c3].getD i 0) := fun i hi => by
      match i, hi with
      | 0, _ => exact l0
      | 1, _ => exact l1
      | 2, _ => exact l2
      | 3, _ => exact l3
    have f397 := (f395.wr W396)
    have f398 := (Fw393.other W396 (Or.inr (slot_ne (Or.inr (tw hw 23 rfl)) (Or.inr (tw hw 22 rfl)) (by decide) (t := .byte) (t' := (.array .byte)) (by decide) (by decide))))
    have f399 := (((EQ390 ▸ V5).other W393 (Ne.symm ne_x1_t5)).other W396 (Ne.symm ne_x1_t5))
    have pre400 : ∀ t, Steps p.tables e below (T396.setTop (mkF m 57 #[.val (.ref x1), .val (.ref t1), .val (.int (0 : Int32)), .val (.int (4 : Int32)), .val .null, .val (.ref t5)] [])) t → Steps p.tables e below (T388.setTop (mkF m 45 #[.val (.ref x1), .val (.ref t1), .val (.int (0 : Int32)), .val (.int (4 : Int32)), .val .null, .val (.ref t5)] [(.int (4 : Int32)), (.ref t5), (.ref x1)])) t := by
      intro t kt
      refine st390 _ ?_
      refine st393 _ ?_
      show Steps p.tables e below (T393.setTop (mkF m 51 #[.val (.ref x1), .val (.ref t1), .val (.int (0 : Int32)), .val (.int (4 : Int32)), .val .null, .val (.ref t5)] [])) _
      refine XS.aloadN X393.here hx rfl (hb hby d3_51) rfl rfl ?_
      refine XS.aload X393.here hx rfl (hb hby d3_52) rfl rfl ?_
      refine st396 _ ?_
      exact kt
    obtain ⟨fs, hr, hrun, hended, hW, hsame⟩ := X396.leave (v := none) (fun _ => rfl)
    refine ⟨_, _, (pre0 _ (pre389 _ (pre400 _ ?_))), hrun, hended, _, _, rfl, ?_, ⟨_, rfl⟩, hW, hsame.mono (by decide) (by decide)⟩
    · show Steps p.tables e below (T396.setTop (mkF m 57 #[.val (.ref x1), .val (.ref t1), .val (.int (0 : Int32)), .val (.int (4 : Int32)), .val .null, .val (.ref t5)] [])) _
      exact X396.returnOut hx Bd.returns (hb hby d3_57) hr
    · show QI4_4 Z x1 t1 kc c0 c1 c2 c3 zc h0 n0 _ T396.heap _
      rw [e396]
      exact ⟨rfl, N396, K396, t5, k5, f397, Fw396, Or.inl ⟨f398, f399, hl⟩⟩
  · skip
    obtain ⟨_, _, ⟨T401, L401, k401, n401⟩, -, X401, ⟨Lc401, hQ401, l401, y401, z401⟩, st401⟩ := Jvm.LawKit.callS X388 hx (y := (⟨"java/lang/StringUTF16", "coderFromArrayLen", "([BI)B"⟩ : MethodName)) hown (mvT hZ (tw hw 50 rfl)) (mvT hZ (tw hw 51 rfl)) (mvT hZ (tw hw 45 rfl)) (mvT hZ (tw hw 52 rfl)) (by decide) (backOf (W := 1) (rmCFU l Z a0 hw [] t5 k5 4 ([c0, c1, c2, c3].flatMap own_U) T388.heap n0 Z388 V5 (by decide) (by decide)) hZ (tw hw 52 rfl) (tw hw 45 rfl) (by decide) (by decide)) (g := (mkF m 45 #[.val (.ref x1), .val (.ref t1), .val (.int (0 : Int32)), .val (.int (4 : Int32)), .val .null, .val (.ref t5)] [(.int (4 : Int32)), (.ref t5), (.ref x1)])) rfl (by rw [hml]; rfl) (argsL := [(.ref t5), (.int (4 : Int32))]) (rest := [(.ref x1)]) (lenOf pd___BI_B rfl) rfl (by show 2 * 0 + _ ≤ _; exact Nat.le_of_eq rfl) (hb hby d3_45) (fun _ _ => ⟨rfl, rfl, (by decide : 2 + 0 ≤ _), (by decide : 14 + 0 ≤ _)⟩)
    dsimp only [Pt.U, Pt.locs, Pt.cells, Pt.slots] at X401 l401 y401 z401 st401 hQ401
    subst l401 y401 z401
    obtain ⟨rfl, N401q, EQ401⟩ := hQ401
    have N401 := Fr.app N388 N401q
    have K401 := own_keq EQ401 K388
    have f402 := (EQ401 ▸ (XC0.ext EX388))
    have f403 := (EQ401 ▸ (XE.ext EX388))
    obtain ⟨T404, h404, X404, e404, W404, st404⟩ := putFN X401 hx hZ hown (tw hw 27 rfl) Via.refl rfl f402 f403 (Or.inr ⟨(tw hw 23 rfl), rfl, hnm⟩) (tw hw 7 rfl) (ty := .byte) (v' := (.int (1 : Int32))) (by decide) rfl rfl (g := (mkF m 48 #[.val (.ref x1), .val (.ref t1), .val (.int (0 : Int32)), .val (.int (4 : Int32)), .val .null, .val (.ref t5)] [(.int (1 : Int32)), (.ref x1)])) rfl rfl (hb hby d3_48)
    have N404 := Fr.snoc X404 N401 g_x1
    have K404 := K401.wr W404 (Or.inl mem_x1)
    have Fw404 := f402.same W404
    have f405 := ((EQ401 ▸ (XV0.ext EX388)).other W404 (Or.inr (slot_ne (Or.inr (tw hw 22 rfl)) (Or.inr (tw hw 23 rfl)) (by decide) (t := (.array .byte)) (t' := .byte) (by decide) (by decide))))
    have f406 := (f403.wr W404)
    obtain ⟨T407, h407, X407, e407, W407, st407⟩ := putF X404 hx hZ hown (host := "") (Or.inl (tw hw 26 rfl)) Via.refl e404 f405 f406 (Or.inr ⟨(tw hw 22 rfl), rfl, hnm⟩) (tw hw 7 rfl) (ty := (.array .byte)) (by decide) rfl rfl (g := (mkF m 54 #[.val (.ref x1), .val (.ref t1), .val (.int (0 : Int32)), .val (.int (4 : Int32)), .val .null, .val (.ref t5)] [(.ref t5), (.ref x1)])) rfl rfl (hb hby d3_54)
    have N407 := Fr.snoc X407 N404 g_x1
    have K407 := K404.wr W407 (Or.inl mem_x1)
    have Fw407 := f405.same W407
    have f408 := (f406.wr W407)
    have f409 := (Fw404.other W407 (Or.inr (slot_ne (Or.inr (tw hw 23 rfl)) (Or.inr (tw hw 22 rfl)) (by decide) (t := .byte) (t' := (.array .byte)) (by decide) (by decide))))
    have f410 := (((EQ401 ▸ V5).other W404 (Ne.symm ne_x1_t5)).other W407 (Ne.symm ne_x1_t5))
    have pre411 : ∀ t, Steps p.tables e below (T407.setTop (mkF m 57 #[.val (.ref x1), .val (.ref t1), .val (.int (0 : Int32)), .val (.int (4 : Int32)), .val .null, .val (.ref t5)] [])) t → Steps p.tables e below (T388.setTop (mkF m 45 #[.val (.ref x1), .val (.ref t1), .val (.int (0 : Int32)), .val (.int (4 : Int32)), .val .null, .val (.ref t5)] [(.int (4 : Int32)), (.ref t5), (.ref x1)])) t := by
      intro t kt
      refine st401 _ ?_
      refine st404 _ ?_
      show Steps p.tables e below (T404.setTop (mkF m 51 #[.val (.ref x1), .val (.ref t1), .val (.int (0 : Int32)), .val (.int (4 : Int32)), .val .null, .val (.ref t5)] [])) _
      refine XS.aloadN X404.here hx rfl (hb hby d3_51) rfl rfl ?_
      refine XS.aload X404.here hx rfl (hb hby d3_52) rfl rfl ?_
      refine st407 _ ?_
      exact kt
    obtain ⟨fs, hr, hrun, hended, hW, hsame⟩ := X407.leave (v := none) (fun _ => rfl)
    refine ⟨_, _, (pre0 _ (pre389 _ (pre411 _ ?_))), hrun, hended, _, _, rfl, ?_, ⟨_, rfl⟩, hW, hsame.mono (by decide) (by decide)⟩
    · show Steps p.tables e below (T407.setTop (mkF m 57 #[.val (.ref x1), .val (.ref t1), .val (.int (0 : Int32)), .val (.int (4 : Int32)), .val .null, .val (.ref t5)] [])) _
      exact X407.returnOut hx Bd.returns (hb hby d3_57) hr
    · show QI4_4 Z x1 t1 kc c0 c1 c2 c3 zc h0 n0 _ T407.heap _
      rw [e407]
      exact ⟨rfl, N407, K407, t5, k5, f408, Fw407, Or.inr ⟨f409, f410⟩⟩
theorem ef_I1_4 (m : MethodId) (x0 : Addr) (x1 : Addr) : entryFrame m #[(.ref x0), (.ref x1)] 2 = mkF m 0 #[.val (.ref x0), .val (.ref x1)] [] := by (first | (simp [entryFrame, mkF, argsToLocals, Value.category]; done) | rfl)
def QI1_4 (Z : State) (x1 : Addr) (t1 : Addr) (kc : ClassId) (c0 : Int32) (c1 : Int32) (c2 : Int32) (c3 : Int32) (zc : Int32) (h0 : Heap) (n0 : Nat) (v : Option Value) (h : Heap) (L : List Loc) : Prop := v = none ∧ Fr n0 L ∧ Keep h0 h [x1] ∧ own_str Z h x1 [c0, c1, c2, c3]
set_option maxRecDepth 65536 in
set_option maxHeartbeats 40000000 in
theorem rmI1_4 (l : Launch) (Z : State) (a0 : Array Value) (hw : ∀ d ∈ tables_1, d.before a0 Z = true) (ws : List Jvm.Cond) (x1 : Addr) (t1 : Addr) (kc : ClassId) (c0 : Int32) (c1 : Int32) (c2 : Int32) (c3 : Int32) (zc : Int32) (h0 : Heap) (n0 : Nat) (Z0 : n0 ≤ h0.size) (XE : Exa Z h0 x1 "java/lang/String") (XV0 : Fld Z h0 x1 "java/lang/String" "value" "[B" .null) (XC0 : Fld Z h0 x1 "java/lang/String" "coder" "B" (.int (0 : Int32))) (g_x1 : n0 ≤ x1) (KT : Arv Z h0 t1 kc .char (4 : Int32) [(.int c0), (.int c1), (.int c2), (.int c3)] (.int (0 : Int32))) (hc0 : nar .char c0 = c0) (hc1 : nar .char c1 = c1) (hc2 : nar .char c2 = c2) (hc3 : nar .char c3 = c3) (OZ : Old Z n0 h0) (SC : Sta Z Z.heap "java/lang/String" "COMPACT_STRINGS" "Z" (.int zc)) (hzc : ¬ zc = (0 : Int32)) (SA : Sta Z Z.heap "java/lang/StringUTF16" "$assertionsDisabled" "Z" (.int (1 : Int32))) (SH : Sta Z Z.heap "java/lang/StringUTF16" "HI_BYTE_SHIFT" "I" (.int (0 : Int32))) (SL : Sta Z Z.heap "java/lang/StringUTF16" "LO_BYTE_SHIFT" "I" (.int (8 : Int32))) :
    MetFree l (⟨"java/lang/String", "<init>", "([C)V"⟩ : MethodName) (head1 (Jvm.Cond.code (⟨"java/lang/String", "<init>", "([C)V"⟩ : MethodName) jdk_42_method_3_code 2 none :: ws) ({ frames := 5, cells := 2, slots := 14, locals := 82 } : Room)) (fun a U => a = #[(.ref x1), (.ref t1)] ∧ Z.Warmed39 U.vm ∧ U.heap = h0) (fun _ _ _ _ _ => True) (fun _ U o U' => ∃ v L, o = .returned v ∧ QI1_4 Z x1 t1 kc c0 c1 c2 c3 zc h0 n0 v U'.heap L ∧ FrameEnd U o U' L ({ frames := 5, cells := 2, slots := 14, locals := 82 } : Room).cells ({ frames := 5, cells := 2, slots := 14, locals := 82 } : Room).slots) := by
  refine MetFree.of_bodySF (plainFor_of_name pn_java_lang_String) hisR ?_
  intro p e s m args below meth c s₁ Bd hml0 hP hK
  obtain ⟨rfl, hZ, hh⟩ := hP
  have hx := Bd.exec
  have hby := Bd.bytes
  have hml : c.maxLocals = 2 := hml0
  have hown : s.vm.findClass "java/lang/String" = some m.cls := findClass_of_methodNamed Bd.named
  have hnm := (name_of_methodNamed Bd.named Bd.method).1
  have X0 : Stand p l e ({ frames := 5, cells := 2, slots := 14, locals := 82 } : Room) s m #[(.ref x1), (.ref t1)] below meth c s₁ [] 0 0 := Stand.of_body Bd
  have e0 : s₁.heap = h0 := by rw [← hh, Bd.state]; rfl
  have N0 := Fr.nil n0
  have pre0 : ∀ t, Steps p.tables e below (s₁.setTop (mkF m 0 #[.val (.ref x1), .val (.ref t1)] [])) t → Steps p.tables e below (s₁.setTop (entryFrame m #[(.ref x1), (.ref t1)] 2)) t := fun t k => castTop (ef_I1_4 m x1 t1) k
  have mem_x1 : x1 ∈ [x1] := List.mem_of_getElem? (i := 0) rfl
  obtain ⟨c412, Ar412, -, S412, M412, -, -⟩ := id KT
  obtain ⟨_, _, ⟨T413, L413, k413, n413⟩, -, X413, ⟨Lc413, hQ413, l413, y413, z413⟩, st413⟩ := X0.specialBack hx (y := (⟨"java/lang/String", "<init>", "([CIILjava/lang/Void;)V"⟩ : MethodName)) rfl hown (mvT hZ (tw hw 13 rfl)) (mvT hZ (tw hw 14 rfl)) (mvT hZ (tw hw 16 rfl)) (by decide) (backOf (W := 0) (rmI4_4 l Z a0 hw [] x1 t1 kc c0 c1 c2 c3 zc h0 n0 Z0 XE XV0 XC0 g_x1 KT hc0 hc1 hc2 hc3 OZ SC hzc SA SH SL) hZ (tw hw 16 rfl) (tw hw 8 rfl) (by decide) (by decide)) (g := (mkF m 6 #[.val (.ref x1), .val (.ref t1)] [.null, (.int (4 : Int32)), (.int (0 : Int32)), (.ref t1), (.ref x1)])) rfl (by rw [hml]; rfl) (Steps.refl _) (a := x1) (argsL := [(.ref t1), (.int (0 : Int32)), (.int (4 : Int32)), .null]) (rest := []) (lenOf pd___CIILjava_lang_Void__V rfl) rfl (by show 2 * 0 + _ ≤ _; exact Nat.le_of_eq rfl) (hb hby d2_6) (fun _ _ => ⟨rfl, e0, (by decide : 0 + 2 ≤ _), (by decide : 0 + 14 ≤ _)⟩)
  dsimp only [Pt.U, Pt.locs, Pt.cells, Pt.slots] at X413 l413 y413 z413 st413 hQ413
  subst l413 y413 z413
  obtain ⟨rfl, N413q, KC413, SP⟩ := hQ413
  have N413 := Fr.app N0 N413q
  have K413 := (Keep.refl h0 [x1]).trans KC413 (allS (Or.inl mem_x1) all0)
  have pre414 : ∀ t, Steps p.tables e below (T413.setTop (mkF m 9 #[.val (.ref x1), .val (.ref t1)] [])) t → Steps p.tables e below (s₁.setTop (mkF m 0 #[.val (.ref x1), .val (.ref t1)] [])) t := by
    intro t kt
    show Steps p.tables e below (s₁.setTop (mkF m 0 #[.val (.ref x1), .val (.ref t1)] [])) _
    refine XS.aloadN X0.here hx rfl (hb hby d2_0) rfl rfl ?_
    refine XS.aloadN X0.here hx rfl (hb hby d2_1) rfl rfl ?_
    refine XS.iconst X0.here hx rfl (hb hby d2_2) ?_
    refine XS.aloadN X0.here hx rfl (hb hby d2_3) rfl rfl ?_
    refine X0.arraylength hx (by rw [e0]; exact Ar412.1) (State.isArrayOf_alike hZ.alike Ar412.2.1) (g := (mkF m 4 #[.val (.ref x1), .val (.ref t1)] [(.ref t1), (.int (0 : Int32)), (.ref t1), (.ref x1)])) rfl rfl (hb hby d2_4) _ ?_
    rw [len_of S412 M412]
    show Steps p.tables e below (s₁.setTop (mkF m 5 #[.val (.ref x1), .val (.ref t1)] [(.int (4 : Int32)), (.int (0 : Int32)), (.ref t1), (.ref x1)])) _
    refine XS.aconstNull X0.here hx rfl (hb hby d2_5) ?_
    refine st413.trans ?_
    exact kt
  obtain ⟨fs, hr, hrun, hended, hW, hsame⟩ := X413.leave (v := none) (fun _ => rfl)
  refine ⟨_, _, (pre0 _ (pre414 _ ?_)), hrun, hended, _, _, rfl, ?_, ⟨_, rfl⟩, hW, hsame.mono (by decide) (by decide)⟩
  · show Steps p.tables e below (T413.setTop (mkF m 9 #[.val (.ref x1), .val (.ref t1)] [])) _
    exact X413.returnOut hx Bd.returns (hb hby d2_9) hr
  · show QI1_4 Z x1 t1 kc c0 c1 c2 c3 zc h0 n0 _ T413.heap _
    exact ⟨rfl, N413, K413, SP⟩
theorem ef_Mk4 (m : MethodId) (x0 : Int32) (x1 : Int32) (x2 : Int32) (x3 : Int32) (x4 : Int32) (x5 : Int32) : entryFrame m #[(.int x0), (.int x1), (.int x2), (.int x3), (.int x4), (.int x5)] 6 = mkF m 0 #[.val (.int x0), .val (.int x1), .val (.int x2), .val (.int x3), .val (.int x4), .val (.int x5)] [] := by (first | (simp [entryFrame, mkF, argsToLocals, Value.category]; done) | rfl)
def QMk4 (Z : State) (c0 : Int32) (c1 : Int32) (c2 : Int32) (c3 : Int32) (c4 : Int32) (zc : Int32) (h0 : Heap) (n0 : Nat) (v : Option Value) (h : Heap) (L : List Loc) : Prop := ∃ x2, v = some (.ref x2) ∧ Fr n0 L ∧ Ext h0 h ∧ Exa Z h x2 "java/lang/String" ∧ own_str Z h x2 [c0, c1, c2, c3]
theorem d1_77 : decode method_4_code 77 = .ok (.iload_n 0, 1) := by decide +kernel
theorem d1_78 : decode method_4_code 78 = .ok (.iconst 4, 1) := by decide +kernel
theorem d1_79 : decode method_4_code 79 = .ok (.if_icmp .ne 31, 3) := by decide +kernel
theorem d1_82 : decode method_4_code 82 = .ok (.new 25, 3) := by decide +kernel
theorem d1_85 : decode method_4_code 85 = .ok (.dup, 1) := by decide +kernel
theorem d1_86 : decode method_4_code 86 = .ok (.iconst 4, 1) := by decide +kernel
theorem d1_87 : decode method_4_code 87 = .ok (.newarray .char, 2) := by decide +kernel
theorem d1_89 : decode method_4_code 89 = .ok (.dup, 1) := by decide +kernel
theorem d1_90 : decode method_4_code 90 = .ok (.iconst 0, 1) := by decide +kernel
theorem d1_91 : decode method_4_code 91 = .ok (.iload_n 1, 1) := by decide +kernel
theorem d1_92 : decode method_4_code 92 = .ok (.castore, 1) := by decide +kernel
theorem d1_93 : decode method_4_code 93 = .ok (.dup, 1) := by decide +kernel
theorem d1_94 : decode method_4_code 94 = .ok (.iconst 1, 1) := by decide +kernel
theorem d1_95 : decode method_4_code 95 = .ok (.iload_n 2, 1) := by decide +kernel
theorem d1_96 : decode method_4_code 96 = .ok (.castore, 1) := by decide +kernel
theorem d1_97 : decode method_4_code 97 = .ok (.dup, 1) := by decide +kernel
theorem d1_98 : decode method_4_code 98 = .ok (.iconst 2, 1) := by decide +kernel
theorem d1_99 : decode method_4_code 99 = .ok (.iload_n 3, 1) := by decide +kernel
theorem d1_100 : decode method_4_code 100 = .ok (.castore, 1) := by decide +kernel
theorem d1_101 : decode method_4_code 101 = .ok (.dup, 1) := by decide +kernel
theorem d1_102 : decode method_4_code 102 = .ok (.iconst 3, 1) := by decide +kernel
theorem d1_103 : decode method_4_code 103 = .ok (.iload 4, 2) := by decide +kernel
theorem d1_105 : decode method_4_code 105 = .ok (.castore, 1) := by decide +kernel
theorem d1_106 : decode method_4_code 106 = .ok (.invokespecial 27, 3) := by decide +kernel
theorem d1_109 : decode method_4_code 109 = .ok (.areturn, 1) := by decide +kernel
set_option maxRecDepth 65536 in
set_option maxHeartbeats 40000000 in
theorem rmMk4 (l : Launch) (Z : State) (a0 : Array Value) (hw : ∀ d ∈ tables_1, d.before a0 Z = true) (ws : List Jvm.Cond) (c0 : Int32) (c1 : Int32) (c2 : Int32) (c3 : Int32) (c4 : Int32) (zc : Int32) (h0 : Heap) (n0 : Nat) (Z0 : n0 ≤ h0.size) (hc0 : nar .char c0 = c0) (hc1 : nar .char c1 = c1) (hc2 : nar .char c2 = c2) (hc3 : nar .char c3 = c3) (OZ : Old Z n0 h0) (SC : Sta Z Z.heap "java/lang/String" "COMPACT_STRINGS" "Z" (.int zc)) (hzc : ¬ zc = (0 : Int32)) (SA : Sta Z Z.heap "java/lang/StringUTF16" "$assertionsDisabled" "Z" (.int (1 : Int32))) (SH : Sta Z Z.heap "java/lang/StringUTF16" "HI_BYTE_SHIFT" "I" (.int (0 : Int32))) (SL : Sta Z Z.heap "java/lang/StringUTF16" "LO_BYTE_SHIFT" "I" (.int (8 : Int32))) :
    MetFree l (⟨"com/example/corvid/corvid/classfile/ConstantPoolModifiedUtf8LengthPinLaw", "make", "(ICCCCC)Ljava/lang/String;"⟩ : MethodName) (head1 (Jvm.Cond.code (⟨"com/example/corvid/corvid/classfile/ConstantPoolModifiedUtf8LengthPinLaw", "make", "(ICCCCC)Ljava/lang/String;"⟩ : MethodName) method_4_code 6 (some (.object "java/lang/String")) :: ws) ({ frames := 6, cells := 4, slots := 28, locals := 97 } : Room)) (fun a U => a = #[(.int (4 : Int32)), (.int c0), (.int c1), (.int c2), (.int c3), (.int c4)] ∧ Z.Warmed39 U.vm ∧ U.heap = h0) (fun _ _ _ _ _ => True) (fun _ U o U' => ∃ v L, o = .returned v ∧ QMk4 Z c0 c1 c2 c3 c4 zc h0 n0 v U'.heap L ∧ FrameEnd U o U' L ({ frames := 6, cells := 4, slots := 28, locals := 97 } : Room).cells ({ frames := 6, cells := 4, slots := 28, locals := 97 } : Room).slots) := by
  refine MetFree.of_bodySF (plainFor_of_name pn_com_example_corvid_corvid_classfile_ConstantPoolModifiedUtf8LengthPinLaw) hisR ?_
  intro p e s m args below meth c s₁ Bd hml0 hP hK
  obtain ⟨rfl, hZ, hh⟩ := hP
  have hx := Bd.exec
  have hby := Bd.bytes
  have hml : c.maxLocals = 6 := hml0
  have hown : s.vm.findClass "com/example/corvid/corvid/classfile/ConstantPoolModifiedUtf8LengthPinLaw" = some m.cls := findClass_of_methodNamed Bd.named
  have hnm := (name_of_methodNamed Bd.named Bd.method).1
  have X0 : Stand p l e ({ frames := 6, cells := 4, slots := 28, locals := 97 } : Room) s m #[(.int (4 : Int32)), (.int c0), (.int c1), (.int c2), (.int c3), (.int c4)] below meth c s₁ [] 0 0 := Stand.of_body Bd
  have e0 : s₁.heap = h0 := by rw [← hh, Bd.state]; rfl
  have N0 := Fr.nil n0
  have pre0 : ∀ t, Steps p.tables e below (s₁.setTop (mkF m 0 #[.val (.int (4 : Int32)), .val (.int c0), .val (.int c1), .val (.int c2), .val (.int c3), .val (.int c4)] [])) t → Steps p.tables e below (s₁.setTop (entryFrame m #[(.int (4 : Int32)), (.int c0), (.int c1), (.int c2), (.int c3), (.int c4)] 6)) t := fun t k => castTop (ef_Mk4 m (4 : Int32) c0 c1 c2 c3 c4) k
  obtain ⟨T415, h415, X415, e415, E415, A415, D415, -, st415⟩ := newO X0 hx hZ hown (tw hw 6 rfl) (tw hw 7 rfl) (tw hw 8 rfl) e0 (g := (mkF m 82 #[.val (.int (4 : Int32)), .val (.int c0), .val (.int c1), .val (.int c2), .val (.int c3), .val (.int c4)] [])) rfl (hb hby d1_82) (by decide) (by decide)
  obtain ⟨b415, g415⟩ : ∃ z, z = h0.size := ⟨_, rfl⟩
  rw [← g415] at A415 D415 st415
  have g_b415 : n0 ≤ b415 := Nat.le_trans Z0 (Nat.le_of_eq g415.symm)
  have sz_b415 : h0.size ≤ b415 := Nat.le_trans (Keep.refl h0 []).1 (Nat.le_of_eq g415.symm)
  have Z415 := Nat.le_trans Z0 E415.1
  have K415 := (Keep.refl h0 []).ext E415
  have F415_value : Fld Z h415 b415 "java/lang/String" "value" "[B" .null := D415 (Or.inr (tw hw 22 rfl)) (ty := (.array .byte)) (by decide)
  have F415_coder : Fld Z h415 b415 "java/lang/String" "coder" "B" (.int (0 : Int32)) := D415 (Or.inr (tw hw 23 rfl)) (ty := .byte) (by decide)
  obtain ⟨T416, h416, k416, X416, e416, E416, A416, st416⟩ := newP X415 hx hZ (tw hw 9 rfl) e415 (g := (mkF m 87 #[.val (.int (4 : Int32)), .val (.int c0), .val (.int c1), .val (.int c2), .val (.int c3), .val (.int c4)] [(.int (4 : Int32)), (.ref b415), (.ref b415)])) rfl (hb hby d1_87) rfl (by decide) (cap := 4) (by decide) (by decide) (by decide) (by decide)
  obtain ⟨b416, g416⟩ : ∃ z, z = h415.size := ⟨_, rfl⟩
  rw [← g416] at A416 st416
  have g_b416 : n0 ≤ b416 := Nat.le_trans Z415 (Nat.le_of_eq g416.symm)
  have sz_b416 : h0.size ≤ b416 := Nat.le_trans K415.1 (Nat.le_of_eq g416.symm)
  have ne_b415_b416 : b415 ≠ b416 := Nat.ne_of_lt (Nat.lt_of_lt_of_le A415.lt (Nat.le_of_eq g416.symm))
  have Z416 := Nat.le_trans Z415 E416.1
  have K416 := K415.ext E416
  have V416 : Arv Z h416 b416 k416 .char (4 : Int32) [(.int (0 : Int32)), (.int (0 : Int32)), (.int (0 : Int32)), (.int (0 : Int32))] (.int (0 : Int32)) := (Arv.new A416 (by decide)).pad (pad_rep [] (.int (0 : Int32)) 4)
  obtain ⟨c417, Ar417, q417, S417, M417, H417, G417⟩ := id V416
  have hin417 : ¬ ((0 : Int32) < 0 ∨ c417.slots.size ≤ ((0 : Int32)).toNatClampNeg) := inb_of S417 ⟨by decide, by decide⟩
  obtain ⟨T418, h418, X418, e418, W418, st418⟩ := stC X416 hx hZ e416 Ar417 (j := (0 : Int32)) hin417 (g := (mkF m 92 #[.val (.int (4 : Int32)), .val (.int c0), .val (.int c1), .val (.int c2), .val (.int c3), .val (.int c4)] [(.int c0), (.int (0 : Int32)), (.ref b416), (.ref b416), (.ref b415), (.ref b415)])) rfl rfl (hb hby d1_92)
  have N418 := Fr.snoc X418 N0 g_b416
  have Z418 := Nat.le_trans Z416 (Keep.of_wr W418).1
  have K418 := K416.wr W418 (Or.inr sz_b416)
  have V418 : Arv Z h418 b416 k416 .char (4 : Int32) [(.int (nar .char c0)), (.int (0 : Int32)), (.int (0 : Int32)), (.int (0 : Int32))] (.int (0 : Int32)) := Arv.set Ar417 q417 S417 M417 H417 G417 (fits_nar_char _) W418 0 rfl (Nat.le_of_ble_eq_true rfl)
  obtain ⟨c419, Ar419, q419, S419, M419, H419, G419⟩ := id V418
  have hin419 : ¬ ((1 : Int32) < 0 ∨ c419.slots.size ≤ ((1 : Int32)).toNatClampNeg) := inb_of S419 ⟨by decide, by decide⟩
  obtain ⟨T420, h420, X420, e420, W420, st420⟩ := stC X418 hx hZ e418 Ar419 (j := (1 : Int32)) hin419 (g := (mkF m 96 #[.val (.int (4 : Int32)), .val (.int c0), .val (.int c1), .val (.int c2), .val (.int c3), .val (.int c4)] [(.int c1), (.int (1 : Int32)), (.ref b416), (.ref b416), (.ref b415), (.ref b415)])) rfl rfl (hb hby d1_96)
  have N420 := Fr.snoc X420 N418 g_b416
  have Z420 := Nat.le_trans Z418 (Keep.of_wr W420).1
  have K420 := K418.wr W420 (Or.inr sz_b416)
  have V420 : Arv Z h420 b416 k416 .char (4 : Int32) [(.int (nar .char c0)), (.int (nar .char c1)), (.int (0 : Int32)), (.int (0 : Int32))] (.int (0 : Int32)) := Arv.set Ar419 q419 S419 M419 H419 G419 (fits_nar_char _) W420 1 rfl (Nat.le_of_ble_eq_true rfl)
  obtain ⟨c421, Ar421, q421, S421, M421, H421, G421⟩ := id V420
  have hin421 : ¬ ((2 : Int32) < 0 ∨ c421.slots.size ≤ ((2 : Int32)).toNatClampNeg) := inb_of S421 ⟨by decide, by decide⟩
  obtain ⟨T422, h422, X422, e422, W422, st422⟩ := stC X420 hx hZ e420 Ar421 (j := (2 : Int32)) hin421 (g := (mkF m 100 #[.val (.int (4 : Int32)), .val (.int c0), .val (.int c1), .val (.int c2), .val (.int c3), .val (.int c4)] [(.int c2), (.int (2 : Int32)), (.ref b416), (.ref b416), (.ref b415), (.ref b415)])) rfl rfl (hb hby d1_100)
  have N422 := Fr.snoc X422 N420 g_b416
  have Z422 := Nat.le_trans Z420 (Keep.of_wr W422).1
  have K422 := K420.wr W422 (Or.inr sz_b416)
  have V422 : Arv Z h422 b416 k416 .char (4 : Int32) [(.int (nar .char c0)), (.int (nar .char c1)), (.int (nar .char c2)), (.int (0 : Int32))] (.int (0 : Int32)) := Arv.set Ar421 q421 S421 M421 H421 G421 (fits_nar_char _) W422 2 rfl (Nat.le_of_ble_eq_true rfl)
  obtain ⟨c423, Ar423, q423, S423, M423, H423, G423⟩ := id V422
  have hin423 : ¬ ((3 : Int32) < 0 ∨ c423.slots.size ≤ ((3 : Int32)).toNatClampNeg) := inb_of S423 ⟨by decide, by decide⟩
  obtain ⟨T424, h424, X424, e424, W424, st424⟩ := stC X422 hx hZ e422 Ar423 (j := (3 : Int32)) hin423 (g := (mkF m 105 #[.val (.int (4 : Int32)), .val (.int c0), .val (.int c1), .val (.int c2), .val (.int c3), .val (.int c4)] [(.int c3), (.int (3 : Int32)), (.ref b416), (.ref b416), (.ref b415), (.ref b415)])) rfl rfl (hb hby d1_105)
  have N424 := Fr.snoc X424 N422 g_b416
  have Z424 := Nat.le_trans Z422 (Keep.of_wr W424).1
  have K424 := K422.wr W424 (Or.inr sz_b416)
  have V424 : Arv Z h424 b416 k416 .char (4 : Int32) [(.int (nar .char c0)), (.int (nar .char c1)), (.int (nar .char c2)), (.int (nar .char c3))] (.int (0 : Int32)) := Arv.set Ar423 q423 S423 M423 H423 G423 (fits_nar_char _) W424 3 rfl (Nat.le_of_ble_eq_true rfl)
  have VT : Arv Z h424 b416 k416 .char (4 : Int32) [(.int c0), (.int c1), (.int c2), (.int c3)] (.int (0 : Int32)) := by have q := V424; rw [hc0, hc1, hc2, hc3] at q; exact q
  have f425 := (((((A415.ext E416).wr W418).wr W420).wr W422).wr W424)
  have f426 := (((((F415_value.ext E416).other W418 (Or.inl ne_b415_b416)).other W420 (Or.inl ne_b415_b416)).other W422 (Or.inl ne_b415_b416)).other W424 (Or.inl ne_b415_b416))
  have f427 := (((((F415_coder.ext E416).other W418 (Or.inl ne_b415_b416)).other W420 (Or.inl ne_b415_b416)).other W422 (Or.inl ne_b415_b416)).other W424 (Or.inl ne_b415_b416))
  have f428 := ((((((OZ.ext E415).ext E416).wr W418 g_b416).wr W420 g_b416).wr W422 g_b416).wr W424 g_b416)
  obtain ⟨_, _, ⟨T429, L429, k429, n429⟩, -, X429, ⟨Lc429, hQ429, l429, y429, z429⟩, st429⟩ := X424.specialBack hx (y := (⟨"java/lang/String", "<init>", "([C)V"⟩ : MethodName)) rfl hown (mvT hZ (tw hw 10 rfl)) (mvT hZ (tw hw 11 rfl)) (mvT hZ (tw hw 12 rfl)) (by decide) (backOf (W := 1) (rmI1_4 l Z a0 hw [] b415 b416 k416 c0 c1 c2 c3 zc h424 n0 Z424 f425 f426 f427 g_b415 VT hc0 hc1 hc2 hc3 f428 SC hzc SA SH SL) hZ (tw hw 12 rfl) (tw hw 8 rfl) (by decide) (by decide)) (g := (mkF m 106 #[.val (.int (4 : Int32)), .val (.int c0), .val (.int c1), .val (.int c2), .val (.int c3), .val (.int c4)] [(.ref b416), (.ref b415), (.ref b415)])) rfl (by rw [hml]; rfl) (Steps.refl _) (a := b415) (argsL := [(.ref b416)]) (rest := [(.ref b415)]) (lenOf pd___C_V rfl) rfl (by show 2 * 0 + _ ≤ _; exact Nat.le_of_eq rfl) (hb hby d1_106) (fun _ _ => ⟨rfl, e424, (by decide : 2 + 2 ≤ _), (by decide : 8 + 14 ≤ _)⟩)
  dsimp only [Pt.U, Pt.locs, Pt.cells, Pt.slots] at X429 l429 y429 z429 st429 hQ429
  subst l429 y429 z429
  obtain ⟨rfl, N429q, KC429, SP⟩ := hQ429
  have N429 := Fr.app N424 N429q
  have K429 := K424.trans KC429 (allS (Or.inr sz_b415) all0)
  have f430 := (f425.keep KC429)
  have pre431 : ∀ t, Steps p.tables e below (T429.setTop (mkF m 109 #[.val (.int (4 : Int32)), .val (.int c0), .val (.int c1), .val (.int c2), .val (.int c3), .val (.int c4)] [(.ref b415)])) t → Steps p.tables e below (s₁.setTop (mkF m 0 #[.val (.int (4 : Int32)), .val (.int c0), .val (.int c1), .val (.int c2), .val (.int c3), .val (.int c4)] [])) t := by
    intro t kt
    show Steps p.tables e below (s₁.setTop (mkF m 0 #[.val (.int (4 : Int32)), .val (.int c0), .val (.int c1), .val (.int c2), .val (.int c3), .val (.int c4)] [])) _
    refine XS.iloadN X0.here hx rfl (hb hby d1_0) rfl ?_
    refine XS.ifYes X0.here hx rfl (pc0 := 1) (pc' := 15) rfl (hb hby d1_1) rfl ((if0 _ _).trans (feq (by decide : ¬ ((4 : Int32) = (0 : Int32)))).2) (by decide) (by decide) ?_
    show Steps p.tables e below (s₁.setTop (mkF m 15 #[.val (.int (4 : Int32)), .val (.int c0), .val (.int c1), .val (.int c2), .val (.int c3), .val (.int c4)] [])) _
    refine XS.iloadN X0.here hx rfl (hb hby d1_15) rfl ?_
    refine XS.iconst X0.here hx rfl (hb hby d1_16) ?_
    refine XS.icmpYes X0.here hx rfl (pc0 := 17) (pc' := 25) rfl (hb hby d1_17) rfl (feq (by decide : ¬ ((4 : Int32) = (1 : Int32)))).2 (by decide) (by decide) ?_
    show Steps p.tables e below (s₁.setTop (mkF m 25 #[.val (.int (4 : Int32)), .val (.int c0), .val (.int c1), .val (.int c2), .val (.int c3), .val (.int c4)] [])) _
    refine XS.iloadN X0.here hx rfl (hb hby d1_25) rfl ?_
    refine XS.iconst X0.here hx rfl (hb hby d1_26) ?_
    refine XS.icmpYes X0.here hx rfl (pc0 := 27) (pc' := 49) rfl (hb hby d1_27) rfl (feq (by decide : ¬ ((4 : Int32) = (2 : Int32)))).2 (by decide) (by decide) ?_
    show Steps p.tables e below (s₁.setTop (mkF m 49 #[.val (.int (4 : Int32)), .val (.int c0), .val (.int c1), .val (.int c2), .val (.int c3), .val (.int c4)] [])) _
    refine XS.iloadN X0.here hx rfl (hb hby d1_49) rfl ?_
    refine XS.iconst X0.here hx rfl (hb hby d1_50) ?_
    refine XS.icmpYes X0.here hx rfl (pc0 := 51) (pc' := 77) rfl (hb hby d1_51) rfl (feq (by decide : ¬ ((4 : Int32) = (3 : Int32)))).2 (by decide) (by decide) ?_
    show Steps p.tables e below (s₁.setTop (mkF m 77 #[.val (.int (4 : Int32)), .val (.int c0), .val (.int c1), .val (.int c2), .val (.int c3), .val (.int c4)] [])) _
    refine XS.iloadN X0.here hx rfl (hb hby d1_77) rfl ?_
    refine XS.iconst X0.here hx rfl (hb hby d1_78) ?_
    refine XS.icmpNo X0.here hx rfl (hb hby d1_79) rfl (teq (by decide : (4 : Int32) = (4 : Int32))).2 ?_
    show Steps p.tables e below (s₁.setTop (mkF m 82 #[.val (.int (4 : Int32)), .val (.int c0), .val (.int c1), .val (.int c2), .val (.int c3), .val (.int c4)] [])) _
    refine st415 _ ?_
    show Steps p.tables e below (T415.setTop (mkF m 85 #[.val (.int (4 : Int32)), .val (.int c0), .val (.int c1), .val (.int c2), .val (.int c3), .val (.int c4)] [(.ref b415)])) _
    refine XS.dup X415.here hx rfl (hb hby d1_85) rfl rfl ?_
    refine XS.iconst X415.here hx rfl (hb hby d1_86) ?_
    show Steps p.tables e below (T415.setTop (mkF m 87 #[.val (.int (4 : Int32)), .val (.int c0), .val (.int c1), .val (.int c2), .val (.int c3), .val (.int c4)] [(.int (4 : Int32)), (.ref b415), (.ref b415)])) _
    refine st416 _ ?_
    show Steps p.tables e below (T416.setTop (mkF m 89 #[.val (.int (4 : Int32)), .val (.int c0), .val (.int c1), .val (.int c2), .val (.int c3), .val (.int c4)] [(.ref b416), (.ref b415), (.ref b415)])) _
    refine XS.dup X416.here hx rfl (hb hby d1_89) rfl rfl ?_
    refine XS.iconst X416.here hx rfl (hb hby d1_90) ?_
    refine XS.iloadN X416.here hx rfl (hb hby d1_91) rfl ?_
    show Steps p.tables e below (T416.setTop (mkF m 92 #[.val (.int (4 : Int32)), .val (.int c0), .val (.int c1), .val (.int c2), .val (.int c3), .val (.int c4)] [(.int c0), (.int (0 : Int32)), (.ref b416), (.ref b416), (.ref b415), (.ref b415)])) _
    refine st418 _ ?_
    show Steps p.tables e below (T418.setTop (mkF m 93 #[.val (.int (4 : Int32)), .val (.int c0), .val (.int c1), .val (.int c2), .val (.int c3), .val (.int c4)] [(.ref b416), (.ref b415), (.ref b415)])) _
    refine XS.dup X418.here hx rfl (hb hby d1_93) rfl rfl ?_
    refine XS.iconst X418.here hx rfl (hb hby d1_94) ?_
    refine XS.iloadN X418.here hx rfl (hb hby d1_95) rfl ?_
    show Steps p.tables e below (T418.setTop (mkF m 96 #[.val (.int (4 : Int32)), .val (.int c0), .val (.int c1), .val (.int c2), .val (.int c3), .val (.int c4)] [(.int c1), (.int (1 : Int32)), (.ref b416), (.ref b416), (.ref b415), (.ref b415)])) _
    refine st420 _ ?_
    show Steps p.tables e below (T420.setTop (mkF m 97 #[.val (.int (4 : Int32)), .val (.int c0), .val (.int c1), .val (.int c2), .val (.int c3), .val (.int c4)] [(.ref b416), (.ref b415), (.ref b415)])) _
    refine XS.dup X420.here hx rfl (hb hby d1_97) rfl rfl ?_
    refine XS.iconst X420.here hx rfl (hb hby d1_98) ?_
    refine XS.iloadN X420.here hx rfl (hb hby d1_99) rfl ?_
    show Steps p.tables e below (T420.setTop (mkF m 100 #[.val (.int (4 : Int32)), .val (.int c0), .val (.int c1), .val (.int c2), .val (.int c3), .val (.int c4)] [(.int c2), (.int (2 : Int32)), (.ref b416), (.ref b416), (.ref b415), (.ref b415)])) _
    refine st422 _ ?_
    show Steps p.tables e below (T422.setTop (mkF m 101 #[.val (.int (4 : Int32)), .val (.int c0), .val (.int c1), .val (.int c2), .val (.int c3), .val (.int c4)] [(.ref b416), (.ref b415), (.ref b415)])) _
    refine XS.dup X422.here hx rfl (hb hby d1_101) rfl rfl ?_
    refine XS.iconst X422.here hx rfl (hb hby d1_102) ?_
    refine XS.iload X422.here hx rfl (hb hby d1_103) rfl ?_
    show Steps p.tables e below (T422.setTop (mkF m 105 #[.val (.int (4 : Int32)), .val (.int c0), .val (.int c1), .val (.int c2), .val (.int c3), .val (.int c4)] [(.int c3), (.int (3 : Int32)), (.ref b416), (.ref b416), (.ref b415), (.ref b415)])) _
    refine st424 _ ?_
    refine st429.trans ?_
    exact kt
  obtain ⟨fs, hr, hrun, hended, hW, hsame⟩ := X429.leave (v := some (.ref b415)) (fun h => by rw [Bd.returns] at h; cases h)
  refine ⟨_, _, (pre0 _ (pre431 _ ?_)), hrun, hended, _, _, rfl, ?_, ⟨_, rfl⟩, hW, hsame.mono (by decide) (by decide)⟩
  · show Steps p.tables e below (T429.setTop (mkF m 109 #[.val (.int (4 : Int32)), .val (.int c0), .val (.int c1), .val (.int c2), .val (.int c3), .val (.int c4)] [(.ref b415)])) _
    exact retOut X429 hx (t := (.object "java/lang/String")) Bd.returns rfl (Or.inr (Or.inr (Or.inr (Or.inr ⟨rfl, rfl, rfl⟩)))) (hb hby d1_109) hr
  · show QMk4 Z c0 c1 c2 c3 c4 zc h0 n0 _ T429.heap _
    exact ⟨b415, rfl, N429, own_ext K429, f430, SP⟩
theorem ef_Cp5 (m : MethodId) (x0 : Addr) (x1 : Int32) (x2 : Addr) (x3 : Int32) (x4 : Int32) : entryFrame m #[(.ref x0), (.int x1), (.ref x2), (.int x3), (.int x4)] 7 = mkF m 0 #[.val (.ref x0), .val (.int x1), .val (.ref x2), .val (.int x3), .val (.int x4), .unset, .unset] [] := by (first | (simp [entryFrame, mkF, argsToLocals, Value.category]; done) | rfl)
def QCp5 (Z : State) (t1 : Addr) (kc : ClassId) (t3 : Addr) (k3 : ClassId) (c0 : Int32) (c1 : Int32) (c2 : Int32) (c3 : Int32) (c4 : Int32) (h0 : Heap) (n0 : Nat) (v : Option Value) (h : Heap) (L : List Loc) : Prop := ∃ k : Nat, v = some (.int (Int32.ofNat k)) ∧ Fr n0 L ∧ Keep h0 h [t3] ∧ ((k = 5 ∧ Arv Z h t3 k3 .byte (5 : Int32) [(.int (nar .byte (c0.toInt8.toInt32))), (.int (nar .byte (c1.toInt8.toInt32))), (.int (nar .byte (c2.toInt8.toInt32))), (.int (nar .byte (c3.toInt8.toInt32))), (.int (nar .byte (c4.toInt8.toInt32)))] (.int (0 : Int32)) ∧ ¬ ((255 : Int32) < c0) ∧ ¬ ((255 : Int32) < c1) ∧ ¬ ((255 : Int32) < c2) ∧ ¬ ((255 : Int32) < c3) ∧ ¬ ((255 : Int32) < c4)) ∨ (k < 5 ∧ (255 : Int32) < [c0, c1, c2, c3, c4].getD k 0))
set_option maxRecDepth 65536 in
set_option maxHeartbeats 40000000 in
theorem rmCp5 (l : Launch) (Z : State) (a0 : Array Value) (hw : ∀ d ∈ tables_1, d.before a0 Z = true) (ws : List Jvm.Cond) (t1 : Addr) (kc : ClassId) (t3 : Addr) (k3 : ClassId) (c0 : Int32) (c1 : Int32) (c2 : Int32) (c3 : Int32) (c4 : Int32) (h0 : Heap) (n0 : Nat) (Z0 : n0 ≤ h0.size) (KT : Arv Z h0 t1 kc .char (5 : Int32) [(.int c0), (.int c1), (.int c2), (.int c3), (.int c4)] (.int (0 : Int32))) (K3 : Arv Z h0 t3 k3 .byte (5 : Int32) [(.int (0 : Int32)), (.int (0 : Int32)), (.int (0 : Int32)), (.int (0 : Int32)), (.int (0 : Int32))] (.int (0 : Int32))) (g_t3 : n0 ≤ t3) (ne_t1_t3 : t1 ≠ t3) :
    MetFree l (⟨"java/lang/StringUTF16", "compress", "([CI[BII)I"⟩ : MethodName) (head1 (Jvm.Cond.code (⟨"java/lang/StringUTF16", "compress", "([CI[BII)I"⟩ : MethodName) jdk_52_method_21_code 7 (some .int) :: ws) ({ frames := 0, cells := 0, slots := 0, locals := 0 } : Room)) (fun a U => a = #[(.ref t1), (.int (0 : Int32)), (.ref t3), (.int (0 : Int32)), (.int (5 : Int32))] ∧ Z.Warmed39 U.vm ∧ U.heap = h0) (fun _ _ _ _ _ => True) (fun _ U o U' => ∃ v L, o = .returned v ∧ QCp5 Z t1 kc t3 k3 c0 c1 c2 c3 c4 h0 n0 v U'.heap L ∧ FrameEnd U o U' L ({ frames := 0, cells := 0, slots := 0, locals := 0 } : Room).cells ({ frames := 0, cells := 0, slots := 0, locals := 0 } : Room).slots) := by
  refine MetFree.of_bodySF (plainFor_of_name pn_java_lang_StringUTF16) hisR ?_
  intro p e s m args below meth c s₁ Bd hml0 hP hK
  obtain ⟨rfl, hZ, hh⟩ := hP
  have hx := Bd.exec
  have hby := Bd.bytes
  have hml : c.maxLocals = 7 := hml0
  have hown : s.vm.findClass "java/lang/StringUTF16" = some m.cls := findClass_of_methodNamed Bd.named
  have hnm := (name_of_methodNamed Bd.named Bd.method).1
  have X0 : Stand p l e ({ frames := 0, cells := 0, slots := 0, locals := 0 } : Room) s m #[(.ref t1), (.int (0 : Int32)), (.ref t3), (.int (0 : Int32)), (.int (5 : Int32))] below meth c s₁ [] 0 0 := Stand.of_body Bd
  have e0 : s₁.heap = h0 := by rw [← hh, Bd.state]; rfl
  have N0 := Fr.nil n0
  have pre0 : ∀ t, Steps p.tables e below (s₁.setTop (mkF m 0 #[.val (.ref t1), .val (.int (0 : Int32)), .val (.ref t3), .val (.int (0 : Int32)), .val (.int (5 : Int32)), .unset, .unset] [])) t → Steps p.tables e below (s₁.setTop (entryFrame m #[(.ref t1), (.int (0 : Int32)), (.ref t3), (.int (0 : Int32)), (.int (5 : Int32))] 7)) t := fun t k => castTop (ef_Cp5 m t1 (0 : Int32) t3 (0 : Int32) (5 : Int32)) k
  have mem_t3 : t3 ∈ [t3] := List.mem_of_getElem? (i := 0) rfl
  obtain ⟨c432, Ar432, q432, S432, M432, H432, G432⟩ := id KT
  have hin432 : ¬ ((0 : Int32) < 0 ∨ c432.slots.size ≤ ((0 : Int32)).toNatClampNeg) := inb_of S432 ⟨by decide, by decide⟩
  have hat432 : c432.slots[((0 : Int32)).toNatClampNeg]? = some (.int c0) := (H432 _ (Nat.lt_of_not_le fun y => hin432 (Or.inr y))).trans rfl
  have pre433 : ∀ t, Steps p.tables e below (s₁.setTop (mkF m 20 #[.val (.ref t1), .val (.int (0 : Int32)), .val (.ref t3), .val (.int (0 : Int32)), .val (.int (5 : Int32)), .val (.int (0 : Int32)), .val (.int c0)] [(.int (255 : Int32)), (.int c0)])) t → Steps p.tables e below (s₁.setTop (mkF m 0 #[.val (.ref t1), .val (.int (0 : Int32)), .val (.ref t3), .val (.int (0 : Int32)), .val (.int (5 : Int32)), .unset, .unset] [])) t := by
    intro t kt
    show Steps p.tables e below (s₁.setTop (mkF m 0 #[.val (.ref t1), .val (.int (0 : Int32)), .val (.ref t3), .val (.int (0 : Int32)), .val (.int (5 : Int32)), .unset, .unset] [])) _
    refine XS.iconst X0.here hx rfl (hb hby d9_0) ?_
    refine XS.istore X0.here hx rfl (hb hby d9_1) rfl (l' := #[.val (.ref t1), .val (.int (0 : Int32)), .val (.ref t3), .val (.int (0 : Int32)), .val (.int (5 : Int32)), .val (.int (0 : Int32)), .unset]) rfl ?_
    refine XS.iload X0.here hx rfl (hb hby d9_3) rfl ?_
    refine XS.iload X0.here hx rfl (hb hby d9_5) rfl ?_
    refine XS.icmpNo X0.here hx rfl (hb hby d9_7) rfl (tlt (by decide : (0 : Int32) < (5 : Int32))).2.1 ?_
    show Steps p.tables e below (s₁.setTop (mkF m 10 #[.val (.ref t1), .val (.int (0 : Int32)), .val (.ref t3), .val (.int (0 : Int32)), .val (.int (5 : Int32)), .val (.int (0 : Int32)), .unset] [])) _
    refine XS.aloadN X0.here hx rfl (hb hby d9_10) rfl rfl ?_
    refine XS.iloadN X0.here hx rfl (hb hby d9_11) rfl ?_
    show Steps p.tables e below (s₁.setTop (mkF m 12 #[.val (.ref t1), .val (.int (0 : Int32)), .val (.ref t3), .val (.int (0 : Int32)), .val (.int (5 : Int32)), .val (.int (0 : Int32)), .unset] [(.int (0 : Int32)), (.ref t1)])) _
    refine X0.caload hx (j := (0 : Int32)) (v := (.int c0)) (by rw [e0]; exact Ar432.1) (State.isArrayOf_alike hZ.alike Ar432.2.1) Ar432.2.2 hin432 hat432 (g := (mkF m 12 #[.val (.ref t1), .val (.int (0 : Int32)), .val (.ref t3), .val (.int (0 : Int32)), .val (.int (5 : Int32)), .val (.int (0 : Int32)), .unset] [(.int (0 : Int32)), (.ref t1)])) rfl rfl (hb hby d9_12) _ ?_
    show Steps p.tables e below (s₁.setTop (mkF m 13 #[.val (.ref t1), .val (.int (0 : Int32)), .val (.ref t3), .val (.int (0 : Int32)), .val (.int (5 : Int32)), .val (.int (0 : Int32)), .unset] [(.int c0)])) _
    refine XS.istore X0.here hx rfl (hb hby d9_13) rfl (l' := #[.val (.ref t1), .val (.int (0 : Int32)), .val (.ref t3), .val (.int (0 : Int32)), .val (.int (5 : Int32)), .val (.int (0 : Int32)), .val (.int c0)]) rfl ?_
    refine XS.iload X0.here hx rfl (hb hby d9_15) rfl ?_
    refine XS.sipush X0.here hx rfl (hb hby d9_17) ?_
    exact kt
  by_cases gt0 : (255 : Int32) < c0
  · skip
    have pre434 : ∀ t, Steps p.tables e below (s₁.setTop (mkF m 25 #[.val (.ref t1), .val (.int (0 : Int32)), .val (.ref t3), .val (.int (0 : Int32)), .val (.int (5 : Int32)), .val (.int (0 : Int32)), .val (.int c0)] [(.int (0 : Int32))])) t → Steps p.tables e below (s₁.setTop (mkF m 20 #[.val (.ref t1), .val (.int (0 : Int32)), .val (.ref t3), .val (.int (0 : Int32)), .val (.int (5 : Int32)), .val (.int (0 : Int32)), .val (.int c0)] [(.int (255 : Int32)), (.int c0)])) t := by
      intro t kt
      refine XS.icmpNo X0.here hx rfl (hb hby d9_20) rfl (tlt (gt0 : (255 : Int32) < c0)).2.2.2 ?_
      show Steps p.tables e below (s₁.setTop (mkF m 23 #[.val (.ref t1), .val (.int (0 : Int32)), .val (.ref t3), .val (.int (0 : Int32)), .val (.int (5 : Int32)), .val (.int (0 : Int32)), .val (.int c0)] [])) _
      refine XS.iload X0.here hx rfl (hb hby d9_23) rfl ?_
      exact kt
    obtain ⟨fs, hr, hrun, hended, hW, hsame⟩ := X0.leave (v := some (.int (0 : Int32))) (fun h => by rw [Bd.returns] at h; cases h)
    refine ⟨_, _, (pre0 _ (pre433 _ (pre434 _ ?_))), hrun, hended, _, _, rfl, ?_, ⟨_, rfl⟩, hW, hsame.mono (by decide) (by decide)⟩
    · show Steps p.tables e below (s₁.setTop (mkF m 25 #[.val (.ref t1), .val (.int (0 : Int32)), .val (.ref t3), .val (.int (0 : Int32)), .val (.int (5 : Int32)), .val (.int (0 : Int32)), .val (.int c0)] [(.int (0 : Int32))])) _
      exact retOut X0 hx (t := .int) Bd.returns rfl (Or.inl ⟨rfl, Or.inl rfl, _, rfl⟩) (hb hby d9_25) hr
    · show QCp5 Z t1 kc t3 k3 c0 c1 c2 c3 c4 h0 n0 _ s₁.heap _
      rw [e0]
      exact ⟨0, rfl, N0, (Keep.refl h0 [t3]), Or.inr ⟨by decide, gt0⟩⟩
  · skip
    obtain ⟨c435, Ar435, q435, S435, M435, H435, G435⟩ := id K3
    have hin435 : ¬ ((0 : Int32) < 0 ∨ c435.slots.size ≤ ((0 : Int32)).toNatClampNeg) := inb_of S435 ⟨by decide, by decide⟩
    obtain ⟨T436, h436, X436, e436, W436, st436⟩ := stB X0 hx hZ e0 Ar435 (j := (0 : Int32)) hin435 (g := (mkF m 31 #[.val (.ref t1), .val (.int (0 : Int32)), .val (.ref t3), .val (.int (0 : Int32)), .val (.int (5 : Int32)), .val (.int (0 : Int32)), .val (.int c0)] [(.int (c0.toInt8.toInt32)), (.int (0 : Int32)), (.ref t3)])) rfl rfl (hb hby d9_31)
    have N436 := Fr.snoc X436 N0 g_t3
    have K436 := (Keep.refl h0 [t3]).wr W436 (Or.inl mem_t3)
    have V436 : Arv Z h436 t3 k3 .byte (5 : Int32) [(.int (nar .byte (c0.toInt8.toInt32))), (.int (0 : Int32)), (.int (0 : Int32)), (.int (0 : Int32)), (.int (0 : Int32))] (.int (0 : Int32)) := Arv.set Ar435 q435 S435 M435 H435 G435 (fits_nar_byte _) W436 0 rfl (Nat.le_of_ble_eq_true rfl)
    have f437 := (KT.other W436 ne_t1_t3)
    obtain ⟨c438, Ar438, q438, S438, M438, H438, G438⟩ := id f437
    have hin438 : ¬ ((1 : Int32) < 0 ∨ c438.slots.size ≤ ((1 : Int32)).toNatClampNeg) := inb_of S438 ⟨by decide, by decide⟩
    have hat438 : c438.slots[((1 : Int32)).toNatClampNeg]? = some (.int c1) := (H438 _ (Nat.lt_of_not_le fun y => hin438 (Or.inr y))).trans rfl
    have pre439 : ∀ t, Steps p.tables e below (T436.setTop (mkF m 20 #[.val (.ref t1), .val (.int (1 : Int32)), .val (.ref t3), .val (.int (1 : Int32)), .val (.int (5 : Int32)), .val (.int (1 : Int32)), .val (.int c1)] [(.int (255 : Int32)), (.int c1)])) t → Steps p.tables e below (s₁.setTop (mkF m 20 #[.val (.ref t1), .val (.int (0 : Int32)), .val (.ref t3), .val (.int (0 : Int32)), .val (.int (5 : Int32)), .val (.int (0 : Int32)), .val (.int c0)] [(.int (255 : Int32)), (.int c0)])) t := by
      intro t kt
      refine XS.icmpYes X0.here hx rfl (pc0 := 20) (pc' := 26) rfl (hb hby d9_20) rfl (flt (gt0 : ¬ ((255 : Int32) < c0))).2.2.2 (by decide) (by decide) ?_
      show Steps p.tables e below (s₁.setTop (mkF m 26 #[.val (.ref t1), .val (.int (0 : Int32)), .val (.ref t3), .val (.int (0 : Int32)), .val (.int (5 : Int32)), .val (.int (0 : Int32)), .val (.int c0)] [])) _
      refine XS.aloadN X0.here hx rfl (hb hby d9_26) rfl rfl ?_
      refine XS.iloadN X0.here hx rfl (hb hby d9_27) rfl ?_
      refine XS.iload X0.here hx rfl (hb hby d9_28) rfl ?_
      refine XS.i2b X0.here hx rfl (hb hby d9_30) rfl ?_
      show Steps p.tables e below (s₁.setTop (mkF m 31 #[.val (.ref t1), .val (.int (0 : Int32)), .val (.ref t3), .val (.int (0 : Int32)), .val (.int (5 : Int32)), .val (.int (0 : Int32)), .val (.int c0)] [(.int (c0.toInt8.toInt32)), (.int (0 : Int32)), (.ref t3)])) _
      refine st436 _ ?_
      show Steps p.tables e below (T436.setTop (mkF m 32 #[.val (.ref t1), .val (.int (0 : Int32)), .val (.ref t3), .val (.int (0 : Int32)), .val (.int (5 : Int32)), .val (.int (0 : Int32)), .val (.int c0)] [])) _
      refine XS.iinc X436.here hx rfl (hb hby d9_32) rfl (l' := #[.val (.ref t1), .val (.int ((0 : Int32) + (1 : Int32))), .val (.ref t3), .val (.int (0 : Int32)), .val (.int (5 : Int32)), .val (.int (0 : Int32)), .val (.int c0)]) rfl ?_
      refine XS.iinc X436.here hx rfl (hb hby d9_35) rfl (l' := #[.val (.ref t1), .val (.int ((0 : Int32) + (1 : Int32))), .val (.ref t3), .val (.int ((0 : Int32) + (1 : Int32))), .val (.int (5 : Int32)), .val (.int (0 : Int32)), .val (.int c0)]) rfl ?_
      refine XS.iinc X436.here hx rfl (hb hby d9_38) rfl (l' := #[.val (.ref t1), .val (.int ((0 : Int32) + (1 : Int32))), .val (.ref t3), .val (.int ((0 : Int32) + (1 : Int32))), .val (.int (5 : Int32)), .val (.int ((0 : Int32) + (1 : Int32))), .val (.int c0)]) rfl ?_
      show Steps p.tables e below (T436.setTop (mkF m 41 #[.val (.ref t1), .val (.int ((0 : Int32) + (1 : Int32))), .val (.ref t3), .val (.int ((0 : Int32) + (1 : Int32))), .val (.int (5 : Int32)), .val (.int ((0 : Int32) + (1 : Int32))), .val (.int c0)] [])) _
      rw [show ((0 : Int32) + (1 : Int32)) = (1 : Int32) from by decide]
      show Steps p.tables e below (T436.setTop (mkF m 41 #[.val (.ref t1), .val (.int (1 : Int32)), .val (.ref t3), .val (.int (1 : Int32)), .val (.int (5 : Int32)), .val (.int (1 : Int32)), .val (.int c0)] [])) _
      refine XS.goto X436.here hx rfl (pc0 := 41) (pc' := 3) rfl (hb hby d9_41) (by decide) (by decide) ?_
      show Steps p.tables e below (T436.setTop (mkF m 3 #[.val (.ref t1), .val (.int (1 : Int32)), .val (.ref t3), .val (.int (1 : Int32)), .val (.int (5 : Int32)), .val (.int (1 : Int32)), .val (.int c0)] [])) _
      refine XS.iload X436.here hx rfl (hb hby d9_3) rfl ?_
      refine XS.iload X436.here hx rfl (hb hby d9_5) rfl ?_
      refine XS.icmpNo X436.here hx rfl (hb hby d9_7) rfl (tlt (by decide : (1 : Int32) < (5 : Int32))).2.1 ?_
      show Steps p.tables e below (T436.setTop (mkF m 10 #[.val (.ref t1), .val (.int (1 : Int32)), .val (.ref t3), .val (.int (1 : Int32)), .val (.int (5 : Int32)), .val (.int (1 : Int32)), .val (.int c0)] [])) _
      refine XS.aloadN X436.here hx rfl (hb hby d9_10) rfl rfl ?_
      refine XS.iloadN X436.here hx rfl (hb hby d9_11) rfl ?_
      show Steps p.tables e below (T436.setTop (mkF m 12 #[.val (.ref t1), .val (.int (1 : Int32)), .val (.ref t3), .val (.int (1 : Int32)), .val (.int (5 : Int32)), .val (.int (1 : Int32)), .val (.int c0)] [(.int (1 : Int32)), (.ref t1)])) _
      refine X436.caload hx (j := (1 : Int32)) (v := (.int c1)) (by rw [e436]; exact Ar438.1) (State.isArrayOf_alike hZ.alike Ar438.2.1) Ar438.2.2 hin438 hat438 (g := (mkF m 12 #[.val (.ref t1), .val (.int (1 : Int32)), .val (.ref t3), .val (.int (1 : Int32)), .val (.int (5 : Int32)), .val (.int (1 : Int32)), .val (.int c0)] [(.int (1 : Int32)), (.ref t1)])) rfl rfl (hb hby d9_12) _ ?_
      show Steps p.tables e below (T436.setTop (mkF m 13 #[.val (.ref t1), .val (.int (1 : Int32)), .val (.ref t3), .val (.int (1 : Int32)), .val (.int (5 : Int32)), .val (.int (1 : Int32)), .val (.int c0)] [(.int c1)])) _
      refine XS.istore X436.here hx rfl (hb hby d9_13) rfl (l' := #[.val (.ref t1), .val (.int (1 : Int32)), .val (.ref t3), .val (.int (1 : Int32)), .val (.int (5 : Int32)), .val (.int (1 : Int32)), .val (.int c1)]) rfl ?_
      refine XS.iload X436.here hx rfl (hb hby d9_15) rfl ?_
      refine XS.sipush X436.here hx rfl (hb hby d9_17) ?_
      exact kt
    by_cases gt1 : (255 : Int32) < c1
    · skip
      have pre440 : ∀ t, Steps p.tables e below (T436.setTop (mkF m 25 #[.val (.ref t1), .val (.int (1 : Int32)), .val (.ref t3), .val (.int (1 : Int32)), .val (.int (5 : Int32)), .val (.int (1 : Int32)), .val (.int c1)] [(.int (1 : Int32))])) t → Steps p.tables e below (T436.setTop (mkF m 20 #[.val (.ref t1), .val (.int (1 : Int32)), .val (.ref t3), .val (.int (1 : Int32)), .val (.int (5 : Int32)), .val (.int (1 : Int32)), .val (.int c1)] [(.int (255 : Int32)), (.int c1)])) t := by
        intro t kt
        refine XS.icmpNo X436.here hx rfl (hb hby d9_20) rfl (tlt (gt1 : (255 : Int32) < c1)).2.2.2 ?_
        show Steps p.tables e below (T436.setTop (mkF m 23 #[.val (.ref t1), .val (.int (1 : Int32)), .val (.ref t3), .val (.int (1 : Int32)), .val (.int (5 : Int32)), .val (.int (1 : Int32)), .val (.int c1)] [])) _
        refine XS.iload X436.here hx rfl (hb hby d9_23) rfl ?_
        exact kt
      obtain ⟨fs, hr, hrun, hended, hW, hsame⟩ := X436.leave (v := some (.int (1 : Int32))) (fun h => by rw [Bd.returns] at h; cases h)
      refine ⟨_, _, (pre0 _ (pre433 _ (pre439 _ (pre440 _ ?_)))), hrun, hended, _, _, rfl, ?_, ⟨_, rfl⟩, hW, hsame.mono (by decide) (by decide)⟩
      · show Steps p.tables e below (T436.setTop (mkF m 25 #[.val (.ref t1), .val (.int (1 : Int32)), .val (.ref t3), .val (.int (1 : Int32)), .val (.int (5 : Int32)), .val (.int (1 : Int32)), .val (.int c1)] [(.int (1 : Int32))])) _
        exact retOut X436 hx (t := .int) Bd.returns rfl (Or.inl ⟨rfl, Or.inl rfl, _, rfl⟩) (hb hby d9_25) hr
      · show QCp5 Z t1 kc t3 k3 c0 c1 c2 c3 c4 h0 n0 _ T436.heap _
        rw [e436]
        exact ⟨1, rfl, N436, K436, Or.inr ⟨by decide, gt1⟩⟩
    · skip
      obtain ⟨c441, Ar441, q441, S441, M441, H441, G441⟩ := id V436
      have hin441 : ¬ ((1 : Int32) < 0 ∨ c441.slots.size ≤ ((1 : Int32)).toNatClampNeg) := inb_of S441 ⟨by decide, by decide⟩
      obtain ⟨T442, h442, X442, e442, W442, st442⟩ := stB X436 hx hZ e436 Ar441 (j := (1 : Int32)) hin441 (g := (mkF m 31 #[.val (.ref t1), .val (.int (1 : Int32)), .val (.ref t3), .val (.int (1 : Int32)), .val (.int (5 : Int32)), .val (.int (1 : Int32)), .val (.int c1)] [(.int (c1.toInt8.toInt32)), (.int (1 : Int32)), (.ref t3)])) rfl rfl (hb hby d9_31)
      have N442 := Fr.snoc X442 N436 g_t3
      have K442 := K436.wr W442 (Or.inl mem_t3)
      have V442 : Arv Z h442 t3 k3 .byte (5 : Int32) [(.int (nar .byte (c0.toInt8.toInt32))), (.int (nar .byte (c1.toInt8.toInt32))), (.int (0 : Int32)), (.int (0 : Int32)), (.int (0 : Int32))] (.int (0 : Int32)) := Arv.set Ar441 q441 S441 M441 H441 G441 (fits_nar_byte _) W442 1 rfl (Nat.le_of_ble_eq_true rfl)
      have f443 := (f437.other W442 ne_t1_t3)
      obtain ⟨c444, Ar444, q444, S444, M444, H444, G444⟩ := id f443
      have hin444 : ¬ ((2 : Int32) < 0 ∨ c444.slots.size ≤ ((2 : Int32)).toNatClampNeg) := inb_of S444 ⟨by decide, by decide⟩
      have hat444 : c444.slots[((2 : Int32)).toNatClampNeg]? = some (.int c2) := (H444 _ (Nat.lt_of_not_le fun y => hin444 (Or.inr y))).trans rfl
      have pre445 : ∀ t, Steps p.tables e below (T442.setTop (mkF m 20 #[.val (.ref t1), .val (.int (2 : Int32)), .val (.ref t3), .val (.int (2 : Int32)), .val (.int (5 : Int32)), .val (.int (2 : Int32)), .val (.int c2)] [(.int (255 : Int32)), (.int c2)])) t → Steps p.tables e below (T436.setTop (mkF m 20 #[.val (.ref t1), .val (.int (1 : Int32)), .val (.ref t3), .val (.int (1 : Int32)), .val (.int (5 : Int32)), .val (.int (1 : Int32)), .val (.int c1)] [(.int (255 : Int32)), (.int c1)])) t := by
        intro t kt
        refine XS.icmpYes X436.here hx rfl (pc0 := 20) (pc' := 26) rfl (hb hby d9_20) rfl (flt (gt1 : ¬ ((255 : Int32) < c1))).2.2.2 (by decide) (by decide) ?_
        show Steps p.tables e below (T436.setTop (mkF m 26 #[.val (.ref t1), .val (.int (1 : Int32)), .val (.ref t3), .val (.int (1 : Int32)), .val (.int (5 : Int32)), .val (.int (1 : Int32)), .val (.int c1)] [])) _
        refine XS.aloadN X436.here hx rfl (hb hby d9_26) rfl rfl ?_
        refine XS.iloadN X436.here hx rfl (hb hby d9_27) rfl ?_
        refine XS.iload X436.here hx rfl (hb hby d9_28) rfl ?_
        refine XS.i2b X436.here hx rfl (hb hby d9_30) rfl ?_
        show Steps p.tables e below (T436.setTop (mkF m 31 #[.val (.ref t1), .val (.int (1 : Int32)), .val (.ref t3), .val (.int (1 : Int32)), .val (.int (5 : Int32)), .val (.int (1 : Int32)), .val (.int c1)] [(.int (c1.toInt8.toInt32)), (.int (1 : Int32)), (.ref t3)])) _
        refine st442 _ ?_
        show Steps p.tables e below (T442.setTop (mkF m 32 #[.val (.ref t1), .val (.int (1 : Int32)), .val (.ref t3), .val (.int (1 : Int32)), .val (.int (5 : Int32)), .val (.int (1 : Int32)), .val (.int c1)] [])) _
        refine XS.iinc X442.here hx rfl (hb hby d9_32) rfl (l' := #[.val (.ref t1), .val (.int ((1 : Int32) + (1 : Int32))), .val (.ref t3), .val (.int (1 : Int32)), .val (.int (5 : Int32)), .val (.int (1 : Int32)), .val (.int c1)]) rfl ?_
        refine XS.iinc X442.here hx rfl (hb hby d9_35) rfl (l' := #[.val (.ref t1), .val (.int ((1 : Int32) + (1 : Int32))), .val (.ref t3), .val (.int ((1 : Int32) + (1 : Int32))), .val (.int (5 : Int32)), .val (.int (1 : Int32)), .val (.int c1)]) rfl ?_
        refine XS.iinc X442.here hx rfl (hb hby d9_38) rfl (l' := #[.val (.ref t1), .val (.int ((1 : Int32) + (1 : Int32))), .val (.ref t3), .val (.int ((1 : Int32) + (1 : Int32))), .val (.int (5 : Int32)), .val (.int ((1 : Int32) + (1 : Int32))), .val (.int c1)]) rfl ?_
        show Steps p.tables e below (T442.setTop (mkF m 41 #[.val (.ref t1), .val (.int ((1 : Int32) + (1 : Int32))), .val (.ref t3), .val (.int ((1 : Int32) + (1 : Int32))), .val (.int (5 : Int32)), .val (.int ((1 : Int32) + (1 : Int32))), .val (.int c1)] [])) _
        rw [show ((1 : Int32) + (1 : Int32)) = (2 : Int32) from by decide]
        show Steps p.tables e below (T442.setTop (mkF m 41 #[.val (.ref t1), .val (.int (2 : Int32)), .val (.ref t3), .val (.int (2 : Int32)), .val (.int (5 : Int32)), .val (.int (2 : Int32)), .val (.int c1)] [])) _
        refine XS.goto X442.here hx rfl (pc0 := 41) (pc' := 3) rfl (hb hby d9_41) (by decide) (by decide) ?_
        show Steps p.tables e below (T442.setTop (mkF m 3 #[.val (.ref t1), .val (.int (2 : Int32)), .val (.ref t3), .val (.int (2 : Int32)), .val (.int (5 : Int32)), .val (.int (2 : Int32)), .val (.int c1)] [])) _
        refine XS.iload X442.here hx rfl (hb hby d9_3) rfl ?_
        refine XS.iload X442.here hx rfl (hb hby d9_5) rfl ?_
        refine XS.icmpNo X442.here hx rfl (hb hby d9_7) rfl (tlt (by decide : (2 : Int32) < (5 : Int32))).2.1 ?_
        show Steps p.tables e below (T442.setTop (mkF m 10 #[.val (.ref t1), .val (.int (2 : Int32)), .val (.ref t3), .val (.int (2 : Int32)), .val (.int (5 : Int32)), .val (.int (2 : Int32)), .val (.int c1)] [])) _
        refine XS.aloadN X442.here hx rfl (hb hby d9_10) rfl rfl ?_
        refine XS.iloadN X442.here hx rfl (hb hby d9_11) rfl ?_
        show Steps p.tables e below (T442.setTop (mkF m 12 #[.val (.ref t1), .val (.int (2 : Int32)), .val (.ref t3), .val (.int (2 : Int32)), .val (.int (5 : Int32)), .val (.int (2 : Int32)), .val (.int c1)] [(.int (2 : Int32)), (.ref t1)])) _
        refine X442.caload hx (j := (2 : Int32)) (v := (.int c2)) (by rw [e442]; exact Ar444.1) (State.isArrayOf_alike hZ.alike Ar444.2.1) Ar444.2.2 hin444 hat444 (g := (mkF m 12 #[.val (.ref t1), .val (.int (2 : Int32)), .val (.ref t3), .val (.int (2 : Int32)), .val (.int (5 : Int32)), .val (.int (2 : Int32)), .val (.int c1)] [(.int (2 : Int32)), (.ref t1)])) rfl rfl (hb hby d9_12) _ ?_
        show Steps p.tables e below (T442.setTop (mkF m 13 #[.val (.ref t1), .val (.int (2 : Int32)), .val (.ref t3), .val (.int (2 : Int32)), .val (.int (5 : Int32)), .val (.int (2 : Int32)), .val (.int c1)] [(.int c2)])) _
        refine XS.istore X442.here hx rfl (hb hby d9_13) rfl (l' := #[.val (.ref t1), .val (.int (2 : Int32)), .val (.ref t3), .val (.int (2 : Int32)), .val (.int (5 : Int32)), .val (.int (2 : Int32)), .val (.int c2)]) rfl ?_
        refine XS.iload X442.here hx rfl (hb hby d9_15) rfl ?_
        refine XS.sipush X442.here hx rfl (hb hby d9_17) ?_
        exact kt
      by_cases gt2 : (255 : Int32) < c2
      · skip
        have pre446 : ∀ t, Steps p.tables e below (T442.setTop (mkF m 25 #[.val (.ref t1), .val (.int (2 : Int32)), .val (.ref t3), .val (.int (2 : Int32)), .val (.int (5 : Int32)), .val (.int (2 : Int32)), .val (.int c2)] [(.int (2 : Int32))])) t → Steps p.tables e below (T442.setTop (mkF m 20 #[.val (.ref t1), .val (.int (2 : Int32)), .val (.ref t3), .val (.int (2 : Int32)), .val (.int (5 : Int32)), .val (.int (2 : Int32)), .val (.int c2)] [(.int (255 : Int32)), (.int c2)])) t := by
          intro t kt
          refine XS.icmpNo X442.here hx rfl (hb hby d9_20) rfl (tlt (gt2 : (255 : Int32) < c2)).2.2.2 ?_
          show Steps p.tables e below (T442.setTop (mkF m 23 #[.val (.ref t1), .val (.int (2 : Int32)), .val (.ref t3), .val (.int (2 : Int32)), .val (.int (5 : Int32)), .val (.int (2 : Int32)), .val (.int c2)] [])) _
          refine XS.iload X442.here hx rfl (hb hby d9_23) rfl ?_
          exact kt
        obtain ⟨fs, hr, hrun, hended, hW, hsame⟩ := X442.leave (v := some (.int (2 : Int32))) (fun h => by rw [Bd.returns] at h; cases h)
        refine ⟨_, _, (pre0 _ (pre433 _ (pre439 _ (pre445 _ (pre446 _ ?_))))), hrun, hended, _, _, rfl, ?_, ⟨_, rfl⟩, hW, hsame.mono (by decide) (by decide)⟩
        · show Steps p.tables e below (T442.setTop (mkF m 25 #[.val (.ref t1), .val (.int (2 : Int32)), .val (.ref t3), .val (.int (2 : Int32)), .val (.int (5 : Int32)), .val (.int (2 : Int32)), .val (.int c2)] [(.int (2 : Int32))])) _
          exact retOut X442 hx (t := .int) Bd.returns rfl (Or.inl ⟨rfl, Or.inl rfl, _, rfl⟩) (hb hby d9_25) hr
        · show QCp5 Z t1 kc t3 k3 c0 c1 c2 c3 c4 h0 n0 _ T442.heap _
          rw [e442]
          exact ⟨2, rfl, N442, K442, Or.inr ⟨by decide, gt2⟩⟩
      · skip
        obtain ⟨c447, Ar447, q447, S447, M447, H447, G447⟩ := id V442
        have hin447 : ¬ ((2 : Int32) < 0 ∨ c447.slots.size ≤ ((2 : Int32)).toNatClampNeg) := inb_of S447 ⟨by decide, by decide⟩
        obtain ⟨T448, h448, X448, e448, W448, st448⟩ := stB X442 hx hZ e442 Ar447 (j := (2 : Int32)) hin447 (g := (mkF m 31 #[.val (.ref t1), .val (.int (2 : Int32)), .val (.ref t3), .val (.int (2 : Int32)), .val (.int (5 : Int32)), .val (.int (2 : Int32)), .val (.int c2)] [(.int (c2.toInt8.toInt32)), (.int (2 : Int32)), (.ref t3)])) rfl rfl (hb hby d9_31)
        have N448 := Fr.snoc X448 N442 g_t3
        have K448 := K442.wr W448 (Or.inl mem_t3)
        have V448 : Arv Z h448 t3 k3 .byte (5 : Int32) [(.int (nar .byte (c0.toInt8.toInt32))), (.int (nar .byte (c1.toInt8.toInt32))), (.int (nar .byte (c2.toInt8.toInt32))), (.int (0 : Int32)), (.int (0 : Int32))] (.int (0 : Int32)) := Arv.set Ar447 q447 S447 M447 H447 G447 (fits_nar_byte _) W448 2 rfl (Nat.le_of_ble_eq_true rfl)
        have f449 := (f443.other W448 ne_t1_t3)
        obtain ⟨c450, Ar450, q450, S450, M450, H450, G450⟩ := id f449
        have hin450 : ¬ ((3 : Int32) < 0 ∨ c450.slots.size ≤ ((3 : Int32)).toNatClampNeg) := inb_of S450 ⟨by decide, by decide⟩
        have hat450 : c450.slots[((3 : Int32)).toNatClampNeg]? = some (.int c3) := (H450 _ (Nat.lt_of_not_le fun y => hin450 (Or.inr y))).trans rfl
        have pre451 : ∀ t, Steps p.tables e below (T448.setTop (mkF m 20 #[.val (.ref t1), .val (.int (3 : Int32)), .val (.ref t3), .val (.int (3 : Int32)), .val (.int (5 : Int32)), .val (.int (3 : Int32)), .val (.int c3)] [(.int (255 : Int32)), (.int c3)])) t → Steps p.tables e below (T442.setTop (mkF m 20 #[.val (.ref t1), .val (.int (2 : Int32)), .val (.ref t3), .val (.int (2 : Int32)), .val (.int (5 : Int32)), .val (.int (2 : Int32)), .val (.int c2)] [(.int (255 : Int32)), (.int c2)])) t := by
          intro t kt
          refine XS.icmpYes X442.here hx rfl (pc0 := 20) (pc' := 26) rfl (hb hby d9_20) rfl (flt (gt2 : ¬ ((255 : Int32) < c2))).2.2.2 (by decide) (by decide) ?_
          show Steps p.tables e below (T442.setTop (mkF m 26 #[.val (.ref t1), .val (.int (2 : Int32)), .val (.ref t3), .val (.int (2 : Int32)), .val (.int (5 : Int32)), .val (.int (2 : Int32)), .val (.int c2)] [])) _
          refine XS.aloadN X442.here hx rfl (hb hby d9_26) rfl rfl ?_
          refine XS.iloadN X442.here hx rfl (hb hby d9_27) rfl ?_
          refine XS.iload X442.here hx rfl (hb hby d9_28) rfl ?_
          refine XS.i2b X442.here hx rfl (hb hby d9_30) rfl ?_
          show Steps p.tables e below (T442.setTop (mkF m 31 #[.val (.ref t1), .val (.int (2 : Int32)), .val (.ref t3), .val (.int (2 : Int32)), .val (.int (5 : Int32)), .val (.int (2 : Int32)), .val (.int c2)] [(.int (c2.toInt8.toInt32)), (.int (2 : Int32)), (.ref t3)])) _
          refine st448 _ ?_
          show Steps p.tables e below (T448.setTop (mkF m 32 #[.val (.ref t1), .val (.int (2 : Int32)), .val (.ref t3), .val (.int (2 : Int32)), .val (.int (5 : Int32)), .val (.int (2 : Int32)), .val (.int c2)] [])) _
          refine XS.iinc X448.here hx rfl (hb hby d9_32) rfl (l' := #[.val (.ref t1), .val (.int ((2 : Int32) + (1 : Int32))), .val (.ref t3), .val (.int (2 : Int32)), .val (.int (5 : Int32)), .val (.int (2 : Int32)), .val (.int c2)]) rfl ?_
          refine XS.iinc X448.here hx rfl (hb hby d9_35) rfl (l' := #[.val (.ref t1), .val (.int ((2 : Int32) + (1 : Int32))), .val (.ref t3), .val (.int ((2 : Int32) + (1 : Int32))), .val (.int (5 : Int32)), .val (.int (2 : Int32)), .val (.int c2)]) rfl ?_
          refine XS.iinc X448.here hx rfl (hb hby d9_38) rfl (l' := #[.val (.ref t1), .val (.int ((2 : Int32) + (1 : Int32))), .val (.ref t3), .val (.int ((2 : Int32) + (1 : Int32))), .val (.int (5 : Int32)), .val (.int ((2 : Int32) + (1 : Int32))), .val (.int c2)]) rfl ?_
          show Steps p.tables e below (T448.setTop (mkF m 41 #[.val (.ref t1), .val (.int ((2 : Int32) + (1 : Int32))), .val (.ref t3), .val (.int ((2 : Int32) + (1 : Int32))), .val (.int (5 : Int32)), .val (.int ((2 : Int32) + (1 : Int32))), .val (.int c2)] [])) _
          rw [show ((2 : Int32) + (1 : Int32)) = (3 : Int32) from by decide]
          show Steps p.tables e below (T448.setTop (mkF m 41 #[.val (.ref t1), .val (.int (3 : Int32)), .val (.ref t3), .val (.int (3 : Int32)), .val (.int (5 : Int32)), .val (.int (3 : Int32)), .val (.int c2)] [])) _
          refine XS.goto X448.here hx rfl (pc0 := 41) (pc' := 3) rfl (hb hby d9_41) (by decide) (by decide) ?_
          show Steps p.tables e below (T448.setTop (mkF m 3 #[.val (.ref t1), .val (.int (3 : Int32)), .val (.ref t3), .val (.int (3 : Int32)), .val (.int (5 : Int32)), .val (.int (3 : Int32)), .val (.int c2)] [])) _
          refine XS.iload X448.here hx rfl (hb hby d9_3) rfl ?_
          refine XS.iload X448.here hx rfl (hb hby d9_5) rfl ?_
          refine XS.icmpNo X448.here hx rfl (hb hby d9_7) rfl (tlt (by decide : (3 : Int32) < (5 : Int32))).2.1 ?_
          show Steps p.tables e below (T448.setTop (mkF m 10 #[.val (.ref t1), .val (.int (3 : Int32)), .val (.ref t3), .val (.int (3 : Int32)), .val (.int (5 : Int32)), .val (.int (3 : Int32)), .val (.int c2)] [])) _
          refine XS.aloadN X448.here hx rfl (hb hby d9_10) rfl rfl ?_
          refine XS.iloadN X448.here hx rfl (hb hby d9_11) rfl ?_
          show Steps p.tables e below (T448.setTop (mkF m 12 #[.val (.ref t1), .val (.int (3 : Int32)), .val (.ref t3), .val (.int (3 : Int32)), .val (.int (5 : Int32)), .val (.int (3 : Int32)), .val (.int c2)] [(.int (3 : Int32)), (.ref t1)])) _
          refine X448.caload hx (j := (3 : Int32)) (v := (.int c3)) (by rw [e448]; exact Ar450.1) (State.isArrayOf_alike hZ.alike Ar450.2.1) Ar450.2.2 hin450 hat450 (g := (mkF m 12 #[.val (.ref t1), .val (.int (3 : Int32)), .val (.ref t3), .val (.int (3 : Int32)), .val (.int (5 : Int32)), .val (.int (3 : Int32)), .val (.int c2)] [(.int (3 : Int32)), (.ref t1)])) rfl rfl (hb hby d9_12) _ ?_
          show Steps p.tables e below (T448.setTop (mkF m 13 #[.val (.ref t1), .val (.int (3 : Int32)), .val (.ref t3), .val (.int (3 : Int32)), .val (.int (5 : Int32)), .val (.int (3 : Int32)), .val (.int c2)] [(.int c3)])) _
          refine XS.istore X448.here hx rfl (hb hby d9_13) rfl (l' := #[.val (.ref t1), .val (.int (3 : Int32)), .val (.ref t3), .val (.int (3 : Int32)), .val (.int (5 : Int32)), .val (.int (3 : Int32)), .val (.int c3)]) rfl ?_
          refine XS.iload X448.here hx rfl (hb hby d9_15) rfl ?_
          refine XS.sipush X448.here hx rfl (hb hby d9_17) ?_
          exact kt
        by_cases gt3 : (255 : Int32) < c3
        · skip
          have pre452 : ∀ t, Steps p.tables e below (T448.setTop (mkF m 25 #[.val (.ref t1), .val (.int (3 : Int32)), .val (.ref t3), .val (.int (3 : Int32)), .val (.int (5 : Int32)), .val (.int (3 : Int32)), .val (.int c3)] [(.int (3 : Int32))])) t → Steps p.tables e below (T448.setTop (mkF m 20 #[.val (.ref t1), .val (.int (3 : Int32)), .val (.ref t3), .val (.int (3 : Int32)), .val (.int (5 : Int32)), .val (.int (3 : Int32)), .val (.int c3)] [(.int (255 : Int32)), (.int c3)])) t := by
            intro t kt
            refine XS.icmpNo X448.here hx rfl (hb hby d9_20) rfl (tlt (gt3 : (255 : Int32) < c3)).2.2.2 ?_
            show Steps p.tables e below (T448.setTop (mkF m 23 #[.val (.ref t1), .val (.int (3 : Int32)), .val (.ref t3), .val (.int (3 : Int32)), .val (.int (5 : Int32)), .val (.int (3 : Int32)), .val (.int c3)] [])) _
            refine XS.iload X448.here hx rfl (hb hby d9_23) rfl ?_
            exact kt
          obtain ⟨fs, hr, hrun, hended, hW, hsame⟩ := X448.leave (v := some (.int (3 : Int32))) (fun h => by rw [Bd.returns] at h; cases h)
          refine ⟨_, _, (pre0 _ (pre433 _ (pre439 _ (pre445 _ (pre451 _ (pre452 _ ?_)))))), hrun, hended, _, _, rfl, ?_, ⟨_, rfl⟩, hW, hsame.mono (by decide) (by decide)⟩
          · show Steps p.tables e below (T448.setTop (mkF m 25 #[.val (.ref t1), .val (.int (3 : Int32)), .val (.ref t3), .val (.int (3 : Int32)), .val (.int (5 : Int32)), .val (.int (3 : Int32)), .val (.int c3)] [(.int (3 : Int32))])) _
            exact retOut X448 hx (t := .int) Bd.returns rfl (Or.inl ⟨rfl, Or.inl rfl, _, rfl⟩) (hb hby d9_25) hr
          · show QCp5 Z t1 kc t3 k3 c0 c1 c2 c3 c4 h0 n0 _ T448.heap _
            rw [e448]
            exact ⟨3, rfl, N448, K448, Or.inr ⟨by decide, gt3⟩⟩
        · skip
          obtain ⟨c453, Ar453, q453, S453, M453, H453, G453⟩ := id V448
          have hin453 : ¬ ((3 : Int32) < 0 ∨ c453.slots.size ≤ ((3 : Int32)).toNatClampNeg) := inb_of S453 ⟨by decide, by decide⟩
          obtain ⟨T454, h454, X454, e454, W454, st454⟩ := stB X448 hx hZ e448 Ar453 (j := (3 : Int32)) hin453 (g := (mkF m 31 #[.val (.ref t1), .val (.int (3 : Int32)), .val (.ref t3), .val (.int (3 : Int32)), .val (.int (5 : Int32)), .val (.int (3 : Int32)), .val (.int c3)] [(.int (c3.toInt8.toInt32)), (.int (3 : Int32)), (.ref t3)])) rfl rfl (hb hby d9_31)
          have N454 := Fr.snoc X454 N448 g_t3
          have K454 := K448.wr W454 (Or.inl mem_t3)
          have V454 : Arv Z h454 t3 k3 .byte (5 : Int32) [(.int (nar .byte (c0.toInt8.toInt32))), (.int (nar .byte (c1.toInt8.toInt32))), (.int (nar .byte (c2.toInt8.toInt32))), (.int (nar .byte (c3.toInt8.toInt32))), (.int (0 : Int32))] (.int (0 : Int32)) := Arv.set Ar453 q453 S453 M453 H453 G453 (fits_nar_byte _) W454 3 rfl (Nat.le_of_ble_eq_true rfl)
          have f455 := (f449.other W454 ne_t1_t3)
          obtain ⟨c456, Ar456, q456, S456, M456, H456, G456⟩ := id f455
          have hin456 : ¬ ((4 : Int32) < 0 ∨ c456.slots.size ≤ ((4 : Int32)).toNatClampNeg) := inb_of S456 ⟨by decide, by decide⟩
          have hat456 : c456.slots[((4 : Int32)).toNatClampNeg]? = some (.int c4) := (H456 _ (Nat.lt_of_not_le fun y => hin456 (Or.inr y))).trans rfl
          have pre457 : ∀ t, Steps p.tables e below (T454.setTop (mkF m 20 #[.val (.ref t1), .val (.int (4 : Int32)), .val (.ref t3), .val (.int (4 : Int32)), .val (.int (5 : Int32)), .val (.int (4 : Int32)), .val (.int c4)] [(.int (255 : Int32)), (.int c4)])) t → Steps p.tables e below (T448.setTop (mkF m 20 #[.val (.ref t1), .val (.int (3 : Int32)), .val (.ref t3), .val (.int (3 : Int32)), .val (.int (5 : Int32)), .val (.int (3 : Int32)), .val (.int c3)] [(.int (255 : Int32)), (.int c3)])) t := by
            intro t kt
            refine XS.icmpYes X448.here hx rfl (pc0 := 20) (pc' := 26) rfl (hb hby d9_20) rfl (flt (gt3 : ¬ ((255 : Int32) < c3))).2.2.2 (by decide) (by decide) ?_
            show Steps p.tables e below (T448.setTop (mkF m 26 #[.val (.ref t1), .val (.int (3 : Int32)), .val (.ref t3), .val (.int (3 : Int32)), .val (.int (5 : Int32)), .val (.int (3 : Int32)), .val (.int c3)] [])) _
            refine XS.aloadN X448.here hx rfl (hb hby d9_26) rfl rfl ?_
            refine XS.iloadN X448.here hx rfl (hb hby d9_27) rfl ?_
            refine XS.iload X448.here hx rfl (hb hby d9_28) rfl ?_
            refine XS.i2b X448.here hx rfl (hb hby d9_30) rfl ?_
            show Steps p.tables e below (T448.setTop (mkF m 31 #[.val (.ref t1), .val (.int (3 : Int32)), .val (.ref t3), .val (.int (3 : Int32)), .val (.int (5 : Int32)), .val (.int (3 : Int32)), .val (.int c3)] [(.int (c3.toInt8.toInt32)), (.int (3 : Int32)), (.ref t3)])) _
            refine st454 _ ?_
            show Steps p.tables e below (T454.setTop (mkF m 32 #[.val (.ref t1), .val (.int (3 : Int32)), .val (.ref t3), .val (.int (3 : Int32)), .val (.int (5 : Int32)), .val (.int (3 : Int32)), .val (.int c3)] [])) _
            refine XS.iinc X454.here hx rfl (hb hby d9_32) rfl (l' := #[.val (.ref t1), .val (.int ((3 : Int32) + (1 : Int32))), .val (.ref t3), .val (.int (3 : Int32)), .val (.int (5 : Int32)), .val (.int (3 : Int32)), .val (.int c3)]) rfl ?_
            refine XS.iinc X454.here hx rfl (hb hby d9_35) rfl (l' := #[.val (.ref t1), .val (.int ((3 : Int32) + (1 : Int32))), .val (.ref t3), .val (.int ((3 : Int32) + (1 : Int32))), .val (.int (5 : Int32)), .val (.int (3 : Int32)), .val (.int c3)]) rfl ?_
            refine XS.iinc X454.here hx rfl (hb hby d9_38) rfl (l' := #[.val (.ref t1), .val (.int ((3 : Int32) + (1 : Int32))), .val (.ref t3), .val (.int ((3 : Int32) + (1 : Int32))), .val (.int (5 : Int32)), .val (.int ((3 : Int32) + (1 : Int32))), .val (.int c3)]) rfl ?_
            show Steps p.tables e below (T454.setTop (mkF m 41 #[.val (.ref t1), .val (.int ((3 : Int32) + (1 : Int32))), .val (.ref t3), .val (.int ((3 : Int32) + (1 : Int32))), .val (.int (5 : Int32)), .val (.int ((3 : Int32) + (1 : Int32))), .val (.int c3)] [])) _
            rw [show ((3 : Int32) + (1 : Int32)) = (4 : Int32) from by decide]
            show Steps p.tables e below (T454.setTop (mkF m 41 #[.val (.ref t1), .val (.int (4 : Int32)), .val (.ref t3), .val (.int (4 : Int32)), .val (.int (5 : Int32)), .val (.int (4 : Int32)), .val (.int c3)] [])) _
            refine XS.goto X454.here hx rfl (pc0 := 41) (pc' := 3) rfl (hb hby d9_41) (by decide) (by decide) ?_
            show Steps p.tables e below (T454.setTop (mkF m 3 #[.val (.ref t1), .val (.int (4 : Int32)), .val (.ref t3), .val (.int (4 : Int32)), .val (.int (5 : Int32)), .val (.int (4 : Int32)), .val (.int c3)] [])) _
            refine XS.iload X454.here hx rfl (hb hby d9_3) rfl ?_
            refine XS.iload X454.here hx rfl (hb hby d9_5) rfl ?_
            refine XS.icmpNo X454.here hx rfl (hb hby d9_7) rfl (tlt (by decide : (4 : Int32) < (5 : Int32))).2.1 ?_
            show Steps p.tables e below (T454.setTop (mkF m 10 #[.val (.ref t1), .val (.int (4 : Int32)), .val (.ref t3), .val (.int (4 : Int32)), .val (.int (5 : Int32)), .val (.int (4 : Int32)), .val (.int c3)] [])) _
            refine XS.aloadN X454.here hx rfl (hb hby d9_10) rfl rfl ?_
            refine XS.iloadN X454.here hx rfl (hb hby d9_11) rfl ?_
            show Steps p.tables e below (T454.setTop (mkF m 12 #[.val (.ref t1), .val (.int (4 : Int32)), .val (.ref t3), .val (.int (4 : Int32)), .val (.int (5 : Int32)), .val (.int (4 : Int32)), .val (.int c3)] [(.int (4 : Int32)), (.ref t1)])) _
            refine X454.caload hx (j := (4 : Int32)) (v := (.int c4)) (by rw [e454]; exact Ar456.1) (State.isArrayOf_alike hZ.alike Ar456.2.1) Ar456.2.2 hin456 hat456 (g := (mkF m 12 #[.val (.ref t1), .val (.int (4 : Int32)), .val (.ref t3), .val (.int (4 : Int32)), .val (.int (5 : Int32)), .val (.int (4 : Int32)), .val (.int c3)] [(.int (4 : Int32)), (.ref t1)])) rfl rfl (hb hby d9_12) _ ?_
            show Steps p.tables e below (T454.setTop (mkF m 13 #[.val (.ref t1), .val (.int (4 : Int32)), .val (.ref t3), .val (.int (4 : Int32)), .val (.int (5 : Int32)), .val (.int (4 : Int32)), .val (.int c3)] [(.int c4)])) _
            refine XS.istore X454.here hx rfl (hb hby d9_13) rfl (l' := #[.val (.ref t1), .val (.int (4 : Int32)), .val (.ref t3), .val (.int (4 : Int32)), .val (.int (5 : Int32)), .val (.int (4 : Int32)), .val (.int c4)]) rfl ?_
            refine XS.iload X454.here hx rfl (hb hby d9_15) rfl ?_
            refine XS.sipush X454.here hx rfl (hb hby d9_17) ?_
            exact kt
          by_cases gt4 : (255 : Int32) < c4
          · skip
            have pre458 : ∀ t, Steps p.tables e below (T454.setTop (mkF m 25 #[.val (.ref t1), .val (.int (4 : Int32)), .val (.ref t3), .val (.int (4 : Int32)), .val (.int (5 : Int32)), .val (.int (4 : Int32)), .val (.int c4)] [(.int (4 : Int32))])) t → Steps p.tables e below (T454.setTop (mkF m 20 #[.val (.ref t1), .val (.int (4 : Int32)), .val (.ref t3), .val (.int (4 : Int32)), .val (.int (5 : Int32)), .val (.int (4 : Int32)), .val (.int c4)] [(.int (255 : Int32)), (.int c4)])) t := by
              intro t kt
              refine XS.icmpNo X454.here hx rfl (hb hby d9_20) rfl (tlt (gt4 : (255 : Int32) < c4)).2.2.2 ?_
              show Steps p.tables e below (T454.setTop (mkF m 23 #[.val (.ref t1), .val (.int (4 : Int32)), .val (.ref t3), .val (.int (4 : Int32)), .val (.int (5 : Int32)), .val (.int (4 : Int32)), .val (.int c4)] [])) _
              refine XS.iload X454.here hx rfl (hb hby d9_23) rfl ?_
              exact kt
            obtain ⟨fs, hr, hrun, hended, hW, hsame⟩ := X454.leave (v := some (.int (4 : Int32))) (fun h => by rw [Bd.returns] at h; cases h)
            refine ⟨_, _, (pre0 _ (pre433 _ (pre439 _ (pre445 _ (pre451 _ (pre457 _ (pre458 _ ?_))))))), hrun, hended, _, _, rfl, ?_, ⟨_, rfl⟩, hW, hsame.mono (by decide) (by decide)⟩
            · show Steps p.tables e below (T454.setTop (mkF m 25 #[.val (.ref t1), .val (.int (4 : Int32)), .val (.ref t3), .val (.int (4 : Int32)), .val (.int (5 : Int32)), .val (.int (4 : Int32)), .val (.int c4)] [(.int (4 : Int32))])) _
              exact retOut X454 hx (t := .int) Bd.returns rfl (Or.inl ⟨rfl, Or.inl rfl, _, rfl⟩) (hb hby d9_25) hr
            · show QCp5 Z t1 kc t3 k3 c0 c1 c2 c3 c4 h0 n0 _ T454.heap _
              rw [e454]
              exact ⟨4, rfl, N454, K454, Or.inr ⟨by decide, gt4⟩⟩
          · skip
            obtain ⟨c459, Ar459, q459, S459, M459, H459, G459⟩ := id V454
            have hin459 : ¬ ((4 : Int32) < 0 ∨ c459.slots.size ≤ ((4 : Int32)).toNatClampNeg) := inb_of S459 ⟨by decide, by decide⟩
            obtain ⟨T460, h460, X460, e460, W460, st460⟩ := stB X454 hx hZ e454 Ar459 (j := (4 : Int32)) hin459 (g := (mkF m 31 #[.val (.ref t1), .val (.int (4 : Int32)), .val (.ref t3), .val (.int (4 : Int32)), .val (.int (5 : Int32)), .val (.int (4 : Int32)), .val (.int c4)] [(.int (c4.toInt8.toInt32)), (.int (4 : Int32)), (.ref t3)])) rfl rfl (hb hby d9_31)
            have N460 := Fr.snoc X460 N454 g_t3
            have K460 := K454.wr W460 (Or.inl mem_t3)
            have V460 : Arv Z h460 t3 k3 .byte (5 : Int32) [(.int (nar .byte (c0.toInt8.toInt32))), (.int (nar .byte (c1.toInt8.toInt32))), (.int (nar .byte (c2.toInt8.toInt32))), (.int (nar .byte (c3.toInt8.toInt32))), (.int (nar .byte (c4.toInt8.toInt32)))] (.int (0 : Int32)) := Arv.set Ar459 q459 S459 M459 H459 G459 (fits_nar_byte _) W460 4 rfl (Nat.le_of_ble_eq_true rfl)
            have pre461 : ∀ t, Steps p.tables e below (T460.setTop (mkF m 46 #[.val (.ref t1), .val (.int (5 : Int32)), .val (.ref t3), .val (.int (5 : Int32)), .val (.int (5 : Int32)), .val (.int (5 : Int32)), .val (.int c4)] [(.int (5 : Int32))])) t → Steps p.tables e below (T454.setTop (mkF m 20 #[.val (.ref t1), .val (.int (4 : Int32)), .val (.ref t3), .val (.int (4 : Int32)), .val (.int (5 : Int32)), .val (.int (4 : Int32)), .val (.int c4)] [(.int (255 : Int32)), (.int c4)])) t := by
              intro t kt
              refine XS.icmpYes X454.here hx rfl (pc0 := 20) (pc' := 26) rfl (hb hby d9_20) rfl (flt (gt4 : ¬ ((255 : Int32) < c4))).2.2.2 (by decide) (by decide) ?_
              show Steps p.tables e below (T454.setTop (mkF m 26 #[.val (.ref t1), .val (.int (4 : Int32)), .val (.ref t3), .val (.int (4 : Int32)), .val (.int (5 : Int32)), .val (.int (4 : Int32)), .val (.int c4)] [])) _
              refine XS.aloadN X454.here hx rfl (hb hby d9_26) rfl rfl ?_
              refine XS.iloadN X454.here hx rfl (hb hby d9_27) rfl ?_
              refine XS.iload X454.here hx rfl (hb hby d9_28) rfl ?_
              refine XS.i2b X454.here hx rfl (hb hby d9_30) rfl ?_
              show Steps p.tables e below (T454.setTop (mkF m 31 #[.val (.ref t1), .val (.int (4 : Int32)), .val (.ref t3), .val (.int (4 : Int32)), .val (.int (5 : Int32)), .val (.int (4 : Int32)), .val (.int c4)] [(.int (c4.toInt8.toInt32)), (.int (4 : Int32)), (.ref t3)])) _
              refine st460 _ ?_
              show Steps p.tables e below (T460.setTop (mkF m 32 #[.val (.ref t1), .val (.int (4 : Int32)), .val (.ref t3), .val (.int (4 : Int32)), .val (.int (5 : Int32)), .val (.int (4 : Int32)), .val (.int c4)] [])) _
              refine XS.iinc X460.here hx rfl (hb hby d9_32) rfl (l' := #[.val (.ref t1), .val (.int ((4 : Int32) + (1 : Int32))), .val (.ref t3), .val (.int (4 : Int32)), .val (.int (5 : Int32)), .val (.int (4 : Int32)), .val (.int c4)]) rfl ?_
              refine XS.iinc X460.here hx rfl (hb hby d9_35) rfl (l' := #[.val (.ref t1), .val (.int ((4 : Int32) + (1 : Int32))), .val (.ref t3), .val (.int ((4 : Int32) + (1 : Int32))), .val (.int (5 : Int32)), .val (.int (4 : Int32)), .val (.int c4)]) rfl ?_
              refine XS.iinc X460.here hx rfl (hb hby d9_38) rfl (l' := #[.val (.ref t1), .val (.int ((4 : Int32) + (1 : Int32))), .val (.ref t3), .val (.int ((4 : Int32) + (1 : Int32))), .val (.int (5 : Int32)), .val (.int ((4 : Int32) + (1 : Int32))), .val (.int c4)]) rfl ?_
              show Steps p.tables e below (T460.setTop (mkF m 41 #[.val (.ref t1), .val (.int ((4 : Int32) + (1 : Int32))), .val (.ref t3), .val (.int ((4 : Int32) + (1 : Int32))), .val (.int (5 : Int32)), .val (.int ((4 : Int32) + (1 : Int32))), .val (.int c4)] [])) _
              rw [show ((4 : Int32) + (1 : Int32)) = (5 : Int32) from by decide]
              show Steps p.tables e below (T460.setTop (mkF m 41 #[.val (.ref t1), .val (.int (5 : Int32)), .val (.ref t3), .val (.int (5 : Int32)), .val (.int (5 : Int32)), .val (.int (5 : Int32)), .val (.int c4)] [])) _
              refine XS.goto X460.here hx rfl (pc0 := 41) (pc' := 3) rfl (hb hby d9_41) (by decide) (by decide) ?_
              show Steps p.tables e below (T460.setTop (mkF m 3 #[.val (.ref t1), .val (.int (5 : Int32)), .val (.ref t3), .val (.int (5 : Int32)), .val (.int (5 : Int32)), .val (.int (5 : Int32)), .val (.int c4)] [])) _
              refine XS.iload X460.here hx rfl (hb hby d9_3) rfl ?_
              refine XS.iload X460.here hx rfl (hb hby d9_5) rfl ?_
              refine XS.icmpYes X460.here hx rfl (pc0 := 7) (pc' := 44) rfl (hb hby d9_7) rfl (flt (by decide : ¬ ((5 : Int32) < (5 : Int32)))).2.1 (by decide) (by decide) ?_
              show Steps p.tables e below (T460.setTop (mkF m 44 #[.val (.ref t1), .val (.int (5 : Int32)), .val (.ref t3), .val (.int (5 : Int32)), .val (.int (5 : Int32)), .val (.int (5 : Int32)), .val (.int c4)] [])) _
              refine XS.iload X460.here hx rfl (hb hby d9_44) rfl ?_
              exact kt
            obtain ⟨fs, hr, hrun, hended, hW, hsame⟩ := X460.leave (v := some (.int (5 : Int32))) (fun h => by rw [Bd.returns] at h; cases h)
            refine ⟨_, _, (pre0 _ (pre433 _ (pre439 _ (pre445 _ (pre451 _ (pre457 _ (pre461 _ ?_))))))), hrun, hended, _, _, rfl, ?_, ⟨_, rfl⟩, hW, hsame.mono (by decide) (by decide)⟩
            · show Steps p.tables e below (T460.setTop (mkF m 46 #[.val (.ref t1), .val (.int (5 : Int32)), .val (.ref t3), .val (.int (5 : Int32)), .val (.int (5 : Int32)), .val (.int (5 : Int32)), .val (.int c4)] [(.int (5 : Int32))])) _
              exact retOut X460 hx (t := .int) Bd.returns rfl (Or.inl ⟨rfl, Or.inl rfl, _, rfl⟩) (hb hby d9_46) hr
            · show QCp5 Z t1 kc t3 k3 c0 c1 c2 c3 c4 h0 n0 _ T460.heap _
              rw [e460]
              exact ⟨5, rfl, N460, K460, Or.inl ⟨rfl, V460, gt0, gt1, gt2, gt3, gt4⟩⟩
theorem ef_TB5 (m : MethodId) (x0 : Addr) (x1 : Int32) (x2 : Int32) : entryFrame m #[(.ref x0), (.int x1), (.int x2)] 5 = mkF m 0 #[.val (.ref x0), .val (.int x1), .val (.int x2), .unset, .unset] [] := by (first | (simp [entryFrame, mkF, argsToLocals, Value.category]; done) | rfl)
def QTB5 (Z : State) (t1 : Addr) (kc : ClassId) (c0 : Int32) (c1 : Int32) (c2 : Int32) (c3 : Int32) (c4 : Int32) (zc : Int32) (h0 : Heap) (n0 : Nat) (v : Option Value) (h : Heap) (L : List Loc) : Prop := ∃ x2, v = some (.ref x2) ∧ Fr n0 L ∧ Ext h0 h ∧ h0.size ≤ x2 ∧ ∃ (k2 : ClassId), Arv Z h x2 k2 .byte (Int32.ofNat (2 * 5)) ([c0, c1, c2, c3, c4].flatMap own_U) (.int (0 : Int32))
set_option maxRecDepth 65536 in
set_option maxHeartbeats 40000000 in
theorem rmTB5 (l : Launch) (Z : State) (a0 : Array Value) (hw : ∀ d ∈ tables_1, d.before a0 Z = true) (ws : List Jvm.Cond) (t1 : Addr) (kc : ClassId) (c0 : Int32) (c1 : Int32) (c2 : Int32) (c3 : Int32) (c4 : Int32) (zc : Int32) (h0 : Heap) (n0 : Nat) (Z0 : n0 ≤ h0.size) (KT : Arv Z h0 t1 kc .char (5 : Int32) [(.int c0), (.int c1), (.int c2), (.int c3), (.int c4)] (.int (0 : Int32))) (OZ : Old Z n0 h0) (SC : Sta Z Z.heap "java/lang/String" "COMPACT_STRINGS" "Z" (.int zc)) (hzc : ¬ zc = (0 : Int32)) (SA : Sta Z Z.heap "java/lang/StringUTF16" "$assertionsDisabled" "Z" (.int (1 : Int32))) (SH : Sta Z Z.heap "java/lang/StringUTF16" "HI_BYTE_SHIFT" "I" (.int (0 : Int32))) (SL : Sta Z Z.heap "java/lang/StringUTF16" "LO_BYTE_SHIFT" "I" (.int (8 : Int32))) :
    MetFree l (⟨"java/lang/StringUTF16", "toBytes", "([CII)[B"⟩ : MethodName) (head1 (Jvm.Cond.code (⟨"java/lang/StringUTF16", "toBytes", "([CII)[B"⟩ : MethodName) jdk_52_method_14_code 5 (some (.array .byte)) :: ws) ({ frames := 2, cells := 1, slots := 10, locals := 27 } : Room)) (fun a U => a = #[(.ref t1), (.int (0 : Int32)), (.int (5 : Int32))] ∧ Z.Warmed39 U.vm ∧ U.heap = h0) (fun _ _ _ _ _ => True) (fun _ U o U' => ∃ v L, o = .returned v ∧ QTB5 Z t1 kc c0 c1 c2 c3 c4 zc h0 n0 v U'.heap L ∧ FrameEnd U o U' L ({ frames := 2, cells := 1, slots := 10, locals := 27 } : Room).cells ({ frames := 2, cells := 1, slots := 10, locals := 27 } : Room).slots) := by
  refine MetFree.of_bodySF (plainFor_of_name pn_java_lang_StringUTF16) hisR ?_
  intro p e s m args below meth c s₁ Bd hml0 hP hK
  obtain ⟨rfl, hZ, hh⟩ := hP
  have hx := Bd.exec
  have hby := Bd.bytes
  have hml : c.maxLocals = 5 := hml0
  have hown : s.vm.findClass "java/lang/StringUTF16" = some m.cls := findClass_of_methodNamed Bd.named
  have hnm := (name_of_methodNamed Bd.named Bd.method).1
  have X0 : Stand p l e ({ frames := 2, cells := 1, slots := 10, locals := 27 } : Room) s m #[(.ref t1), (.int (0 : Int32)), (.int (5 : Int32))] below meth c s₁ [] 0 0 := Stand.of_body Bd
  have e0 : s₁.heap = h0 := by rw [← hh, Bd.state]; rfl
  have N0 := Fr.nil n0
  have pre0 : ∀ t, Steps p.tables e below (s₁.setTop (mkF m 0 #[.val (.ref t1), .val (.int (0 : Int32)), .val (.int (5 : Int32)), .unset, .unset] [])) t → Steps p.tables e below (s₁.setTop (entryFrame m #[(.ref t1), (.int (0 : Int32)), (.int (5 : Int32))] 5)) t := fun t k => castTop (ef_TB5 m t1 (0 : Int32) (5 : Int32)) k
  obtain ⟨_, _, ⟨T462, L462, k462, n462⟩, -, X462, ⟨Lc462, hQ462, l462, y462, z462⟩, st462⟩ := Jvm.LawKit.callS X0 hx (y := (⟨"java/lang/StringUTF16", "newBytesFor", "(I)[B"⟩ : MethodName)) hown (mvT hZ (tw hw 84 rfl)) (mvT hZ (tw hw 85 rfl)) (mvT hZ (tw hw 45 rfl)) (mvT hZ (tw hw 86 rfl)) (by decide) (backOf (W := 0) (rmNBF l Z a0 hw [] 5 h0 n0 Z0 (by decide)) hZ (tw hw 86 rfl) (tw hw 45 rfl) (by decide) (by decide)) (g := (mkF m 1 #[.val (.ref t1), .val (.int (0 : Int32)), .val (.int (5 : Int32)), .unset, .unset] [(.int (5 : Int32))])) rfl (by rw [hml]; rfl) (argsL := [(.int (5 : Int32))]) (rest := []) (lenOf pd__I__B rfl) rfl (by show 2 * 0 + _ ≤ _; exact Nat.le_of_eq rfl) (hb hby d18_1) (fun _ _ => ⟨rfl, e0, (by decide : 0 + 1 ≤ _), (by decide : 0 + 10 ≤ _)⟩)
  dsimp only [Pt.U, Pt.locs, Pt.cells, Pt.slots] at X462 l462 y462 z462 st462 hQ462
  subst l462 y462 z462
  obtain ⟨t3, rfl, N462q, EX462, le3, k3, V3⟩ := hQ462
  have N462 := Fr.app N0 N462q
  have g_t3 : n0 ≤ t3 := Nat.le_trans Z0 le3
  have sz_t3 : h0.size ≤ t3 := Nat.le_trans (Keep.refl h0 []).1 le3
  have ne_t1_t3 : t1 ≠ t3 := Nat.ne_of_lt (Nat.lt_of_lt_of_le KT.lt le3)
  have Z462 := Nat.le_trans Z0 EX462.1
  have K462 := (Keep.refl h0 []).ext EX462
  have VA0 : Arv Z T462.heap t3 k3 .byte (Int32.ofNat (2 * 5)) [(.int (0 : Int32)), (.int (0 : Int32)), (.int (0 : Int32)), (.int (0 : Int32)), (.int (0 : Int32)), (.int (0 : Int32)), (.int (0 : Int32)), (.int (0 : Int32)), (.int (0 : Int32)), (.int (0 : Int32))] (.int (0 : Int32)) := V3
  have f463 := (KT.ext EX462)
  obtain ⟨c464, Ar464, q464, S464, M464, H464, G464⟩ := id f463
  have hin464 : ¬ ((0 : Int32) < 0 ∨ c464.slots.size ≤ ((0 : Int32)).toNatClampNeg) := inb_of S464 ⟨by decide, by decide⟩
  have hat464 : c464.slots[((0 : Int32)).toNatClampNeg]? = some (.int c0) := (H464 _ (Nat.lt_of_not_le fun y => hin464 (Or.inr y))).trans rfl
  have f465 := (OZ.ext EX462)
  obtain ⟨_, _, ⟨T466, L466, k466, n466⟩, -, X466, ⟨Lc466, hQ466, l466, y466, z466⟩, st466⟩ := Jvm.LawKit.callS X462 hx (y := (⟨"java/lang/StringUTF16", "putChar", "([BII)V"⟩ : MethodName)) hown (mvT hZ (tw hw 91 rfl)) (mvT hZ (tw hw 92 rfl)) (mvT hZ (tw hw 45 rfl)) (mvT hZ (tw hw 93 rfl)) (by decide) (backOf (W := 0) (rmPutC l Z a0 hw [] t3 k3 5 [(.int (0 : Int32)), (.int (0 : Int32)), (.int (0 : Int32)), (.int (0 : Int32)), (.int (0 : Int32)), (.int (0 : Int32)), (.int (0 : Int32)), (.int (0 : Int32)), (.int (0 : Int32)), (.int (0 : Int32))] 0 c0 T462.heap n0 Z462 (SA.ext f465.2) (SH.ext f465.2) (SL.ext f465.2) VA0 (by decide) (by decide) rfl g_t3) hZ (tw hw 93 rfl) (tw hw 45 rfl) (by decide) (by decide)) (g := (mkF m 20 #[.val (.ref t1), .val (.int (0 : Int32)), .val (.int (5 : Int32)), .val (.ref t3), .val (.int (0 : Int32))] [(.int c0), (.int (0 : Int32)), (.ref t3)])) rfl (by rw [hml]; rfl) (argsL := [(.ref t3), (.int (0 : Int32)), (.int c0)]) (rest := []) (lenOf pd___BII_V rfl) rfl (by show 2 * 0 + _ ≤ _; exact Nat.le_of_eq rfl) (hb hby d18_20) (fun _ _ => ⟨rfl, rfl, (by decide : 1 + 0 ≤ _), (by decide : 10 + 0 ≤ _)⟩)
  dsimp only [Pt.U, Pt.locs, Pt.cells, Pt.slots] at X466 l466 y466 z466 st466 hQ466
  subst l466 y466 z466
  obtain ⟨rfl, N466q, KC466, PV0⟩ := hQ466
  have N466 := Fr.app N462 N466q
  have Z466 := Nat.le_trans Z462 KC466.1
  have K466 := K462.trans KC466 (allS (Or.inr sz_t3) all0)
  have VA1 : Arv Z T466.heap t3 k3 .byte (Int32.ofNat (2 * 5)) [(.int (nar .byte ((c0 >>> ((0 : Int32) &&& 31)).toInt8.toInt32))), (.int (nar .byte ((c0 >>> ((8 : Int32) &&& 31)).toInt8.toInt32))), (.int (0 : Int32)), (.int (0 : Int32)), (.int (0 : Int32)), (.int (0 : Int32)), (.int (0 : Int32)), (.int (0 : Int32)), (.int (0 : Int32)), (.int (0 : Int32))] (.int (0 : Int32)) := PV0
  have f467 := (f463.keep KC466 (ninS ne_t1_t3 nin0))
  obtain ⟨c468, Ar468, q468, S468, M468, H468, G468⟩ := id f467
  have hin468 : ¬ ((1 : Int32) < 0 ∨ c468.slots.size ≤ ((1 : Int32)).toNatClampNeg) := inb_of S468 ⟨by decide, by decide⟩
  have hat468 : c468.slots[((1 : Int32)).toNatClampNeg]? = some (.int c1) := (H468 _ (Nat.lt_of_not_le fun y => hin468 (Or.inr y))).trans rfl
  have f469 := (f465.keep KC466 (allS g_t3 all0))
  obtain ⟨_, _, ⟨T470, L470, k470, n470⟩, -, X470, ⟨Lc470, hQ470, l470, y470, z470⟩, st470⟩ := Jvm.LawKit.callS X466 hx (y := (⟨"java/lang/StringUTF16", "putChar", "([BII)V"⟩ : MethodName)) hown (mvT hZ (tw hw 91 rfl)) (mvT hZ (tw hw 92 rfl)) (mvT hZ (tw hw 45 rfl)) (mvT hZ (tw hw 93 rfl)) (by decide) (backOf (W := 0) (rmPutC l Z a0 hw [] t3 k3 5 [(.int (nar .byte ((c0 >>> ((0 : Int32) &&& 31)).toInt8.toInt32))), (.int (nar .byte ((c0 >>> ((8 : Int32) &&& 31)).toInt8.toInt32))), (.int (0 : Int32)), (.int (0 : Int32)), (.int (0 : Int32)), (.int (0 : Int32)), (.int (0 : Int32)), (.int (0 : Int32)), (.int (0 : Int32)), (.int (0 : Int32))] 1 c1 T466.heap n0 Z466 (SA.ext f469.2) (SH.ext f469.2) (SL.ext f469.2) VA1 (by decide) (by decide) rfl g_t3) hZ (tw hw 93 rfl) (tw hw 45 rfl) (by decide) (by decide)) (g := (mkF m 20 #[.val (.ref t1), .val (.int (1 : Int32)), .val (.int (5 : Int32)), .val (.ref t3), .val (.int (1 : Int32))] [(.int c1), (.int (1 : Int32)), (.ref t3)])) rfl (by rw [hml]; rfl) (argsL := [(.ref t3), (.int (1 : Int32)), (.int c1)]) (rest := []) (lenOf pd___BII_V rfl) rfl (by show 2 * 0 + _ ≤ _; exact Nat.le_of_eq rfl) (hb hby d18_20) (fun _ _ => ⟨rfl, rfl, (by decide : 1 + 0 ≤ _), (by decide : 10 + 0 ≤ _)⟩)
  dsimp only [Pt.U, Pt.locs, Pt.cells, Pt.slots] at X470 l470 y470 z470 st470 hQ470
  subst l470 y470 z470
  obtain ⟨rfl, N470q, KC470, PV1⟩ := hQ470
  have N470 := Fr.app N466 N470q
  have Z470 := Nat.le_trans Z466 KC470.1
  have K470 := K466.trans KC470 (allS (Or.inr sz_t3) all0)
  have VA2 : Arv Z T470.heap t3 k3 .byte (Int32.ofNat (2 * 5)) [(.int (nar .byte ((c0 >>> ((0 : Int32) &&& 31)).toInt8.toInt32))), (.int (nar .byte ((c0 >>> ((8 : Int32) &&& 31)).toInt8.toInt32))), (.int (nar .byte ((c1 >>> ((0 : Int32) &&& 31)).toInt8.toInt32))), (.int (nar .byte ((c1 >>> ((8 : Int32) &&& 31)).toInt8.toInt32))), (.int (0 : Int32)), (.int (0 : Int32)), (.int (0 : Int32)), (.int (0 : Int32)), (.int (0 : Int32)), (.int (0 : Int32))] (.int (0 : Int32)) := PV1
  have f471 := (f467.keep KC470 (ninS ne_t1_t3 nin0))
  obtain ⟨c472, Ar472, q472, S472, M472, H472, G472⟩ := id f471
  have hin472 : ¬ ((2 : Int32) < 0 ∨ c472.slots.size ≤ ((2 : Int32)).toNatClampNeg) := inb_of S472 ⟨by decide, by decide⟩
  have hat472 : c472.slots[((2 : Int32)).toNatClampNeg]? = some (.int c2) := (H472 _ (Nat.lt_of_not_le fun y => hin472 (Or.inr y))).trans rfl
  have f473 := (f469.keep KC470 (allS g_t3 all0))
  obtain ⟨_, _, ⟨T474, L474, k474, n474⟩, -, X474, ⟨Lc474, hQ474, l474, y474, z474⟩, st474⟩ := Jvm.LawKit.callS X470 hx (y := (⟨"java/lang/StringUTF16", "putChar", "([BII)V"⟩ : MethodName)) hown (mvT hZ (tw hw 91 rfl)) (mvT hZ (tw hw 92 rfl)) (mvT hZ (tw hw 45 rfl)) (mvT hZ (tw hw 93 rfl)) (by decide) (backOf (W := 0) (rmPutC l Z a0 hw [] t3 k3 5 [(.int (nar .byte ((c0 >>> ((0 : Int32) &&& 31)).toInt8.toInt32))), (.int (nar .byte ((c0 >>> ((8 : Int32) &&& 31)).toInt8.toInt32))), (.int (nar .byte ((c1 >>> ((0 : Int32) &&& 31)).toInt8.toInt32))), (.int (nar .byte ((c1 >>> ((8 : Int32) &&& 31)).toInt8.toInt32))), (.int (0 : Int32)), (.int (0 : Int32)), (.int (0 : Int32)), (.int (0 : Int32)), (.int (0 : Int32)), (.int (0 : Int32))] 2 c2 T470.heap n0 Z470 (SA.ext f473.2) (SH.ext f473.2) (SL.ext f473.2) VA2 (by decide) (by decide) rfl g_t3) hZ (tw hw 93 rfl) (tw hw 45 rfl) (by decide) (by decide)) (g := (mkF m 20 #[.val (.ref t1), .val (.int (2 : Int32)), .val (.int (5 : Int32)), .val (.ref t3), .val (.int (2 : Int32))] [(.int c2), (.int (2 : Int32)), (.ref t3)])) rfl (by rw [hml]; rfl) (argsL := [(.ref t3), (.int (2 : Int32)), (.int c2)]) (rest := []) (lenOf pd___BII_V rfl) rfl (by show 2 * 0 + _ ≤ _; exact Nat.le_of_eq rfl) (hb hby d18_20) (fun _ _ => ⟨rfl, rfl, (by decide : 1 + 0 ≤ _), (by decide : 10 + 0 ≤ _)⟩)
  dsimp only [Pt.U, Pt.locs, Pt.cells, Pt.slots] at X474 l474 y474 z474 st474 hQ474
  subst l474 y474 z474
  obtain ⟨rfl, N474q, KC474, PV2⟩ := hQ474
  have N474 := Fr.app N470 N474q
  have Z474 := Nat.le_trans Z470 KC474.1
  have K474 := K470.trans KC474 (allS (Or.inr sz_t3) all0)
  have VA3 : Arv Z T474.heap t3 k3 .byte (Int32.ofNat (2 * 5)) [(.int (nar .byte ((c0 >>> ((0 : Int32) &&& 31)).toInt8.toInt32))), (.int (nar .byte ((c0 >>> ((8 : Int32) &&& 31)).toInt8.toInt32))), (.int (nar .byte ((c1 >>> ((0 : Int32) &&& 31)).toInt8.toInt32))), (.int (nar .byte ((c1 >>> ((8 : Int32) &&& 31)).toInt8.toInt32))), (.int (nar .byte ((c2 >>> ((0 : Int32) &&& 31)).toInt8.toInt32))), (.int (nar .byte ((c2 >>> ((8 : Int32) &&& 31)).toInt8.toInt32))), (.int (0 : Int32)), (.int (0 : Int32)), (.int (0 : Int32)), (.int (0 : Int32))] (.int (0 : Int32)) := PV2
  have f475 := (f471.keep KC474 (ninS ne_t1_t3 nin0))
  obtain ⟨c476, Ar476, q476, S476, M476, H476, G476⟩ := id f475
  have hin476 : ¬ ((3 : Int32) < 0 ∨ c476.slots.size ≤ ((3 : Int32)).toNatClampNeg) := inb_of S476 ⟨by decide, by decide⟩
  have hat476 : c476.slots[((3 : Int32)).toNatClampNeg]? = some (.int c3) := (H476 _ (Nat.lt_of_not_le fun y => hin476 (Or.inr y))).trans rfl
  have f477 := (f473.keep KC474 (allS g_t3 all0))
  obtain ⟨_, _, ⟨T478, L478, k478, n478⟩, -, X478, ⟨Lc478, hQ478, l478, y478, z478⟩, st478⟩ := Jvm.LawKit.callS X474 hx (y := (⟨"java/lang/StringUTF16", "putChar", "([BII)V"⟩ : MethodName)) hown (mvT hZ (tw hw 91 rfl)) (mvT hZ (tw hw 92 rfl)) (mvT hZ (tw hw 45 rfl)) (mvT hZ (tw hw 93 rfl)) (by decide) (backOf (W := 0) (rmPutC l Z a0 hw [] t3 k3 5 [(.int (nar .byte ((c0 >>> ((0 : Int32) &&& 31)).toInt8.toInt32))), (.int (nar .byte ((c0 >>> ((8 : Int32) &&& 31)).toInt8.toInt32))), (.int (nar .byte ((c1 >>> ((0 : Int32) &&& 31)).toInt8.toInt32))), (.int (nar .byte ((c1 >>> ((8 : Int32) &&& 31)).toInt8.toInt32))), (.int (nar .byte ((c2 >>> ((0 : Int32) &&& 31)).toInt8.toInt32))), (.int (nar .byte ((c2 >>> ((8 : Int32) &&& 31)).toInt8.toInt32))), (.int (0 : Int32)), (.int (0 : Int32)), (.int (0 : Int32)), (.int (0 : Int32))] 3 c3 T474.heap n0 Z474 (SA.ext f477.2) (SH.ext f477.2) (SL.ext f477.2) VA3 (by decide) (by decide) rfl g_t3) hZ (tw hw 93 rfl) (tw hw 45 rfl) (by decide) (by decide)) (g := (mkF m 20 #[.val (.ref t1), .val (.int (3 : Int32)), .val (.int (5 : Int32)), .val (.ref t3), .val (.int (3 : Int32))] [(.int c3), (.int (3 : Int32)), (.ref t3)])) rfl (by rw [hml]; rfl) (argsL := [(.ref t3), (.int (3 : Int32)), (.int c3)]) (rest := []) (lenOf pd___BII_V rfl) rfl (by show 2 * 0 + _ ≤ _; exact Nat.le_of_eq rfl) (hb hby d18_20) (fun _ _ => ⟨rfl, rfl, (by decide : 1 + 0 ≤ _), (by decide : 10 + 0 ≤ _)⟩)
  dsimp only [Pt.U, Pt.locs, Pt.cells, Pt.slots] at X478 l478 y478 z478 st478 hQ478
  subst l478 y478 z478
  obtain ⟨rfl, N478q, KC478, PV3⟩ := hQ478
  have N478 := Fr.app N474 N478q
  have Z478 := Nat.le_trans Z474 KC478.1
  have K478 := K474.trans KC478 (allS (Or.inr sz_t3) all0)
  have VA4 : Arv Z T478.heap t3 k3 .byte (Int32.ofNat (2 * 5)) [(.int (nar .byte ((c0 >>> ((0 : Int32) &&& 31)).toInt8.toInt32))), (.int (nar .byte ((c0 >>> ((8 : Int32) &&& 31)).toInt8.toInt32))), (.int (nar .byte ((c1 >>> ((0 : Int32) &&& 31)).toInt8.toInt32))), (.int (nar .byte ((c1 >>> ((8 : Int32) &&& 31)).toInt8.toInt32))), (.int (nar .byte ((c2 >>> ((0 : Int32) &&& 31)).toInt8.toInt32))), (.int (nar .byte ((c2 >>> ((8 : Int32) &&& 31)).toInt8.toInt32))), (.int (nar .byte ((c3 >>> ((0 : Int32) &&& 31)).toInt8.toInt32))), (.int (nar .byte ((c3 >>> ((8 : Int32) &&& 31)).toInt8.toInt32))), (.int (0 : Int32)), (.int (0 : Int32))] (.int (0 : Int32)) := PV3
  have f479 := (f475.keep KC478 (ninS ne_t1_t3 nin0))
  obtain ⟨c480, Ar480, q480, S480, M480, H480, G480⟩ := id f479
  have hin480 : ¬ ((4 : Int32) < 0 ∨ c480.slots.size ≤ ((4 : Int32)).toNatClampNeg) := inb_of S480 ⟨by decide, by decide⟩
  have hat480 : c480.slots[((4 : Int32)).toNatClampNeg]? = some (.int c4) := (H480 _ (Nat.lt_of_not_le fun y => hin480 (Or.inr y))).trans rfl
  have f481 := (f477.keep KC478 (allS g_t3 all0))
  obtain ⟨_, _, ⟨T482, L482, k482, n482⟩, -, X482, ⟨Lc482, hQ482, l482, y482, z482⟩, st482⟩ := Jvm.LawKit.callS X478 hx (y := (⟨"java/lang/StringUTF16", "putChar", "([BII)V"⟩ : MethodName)) hown (mvT hZ (tw hw 91 rfl)) (mvT hZ (tw hw 92 rfl)) (mvT hZ (tw hw 45 rfl)) (mvT hZ (tw hw 93 rfl)) (by decide) (backOf (W := 0) (rmPutC l Z a0 hw [] t3 k3 5 [(.int (nar .byte ((c0 >>> ((0 : Int32) &&& 31)).toInt8.toInt32))), (.int (nar .byte ((c0 >>> ((8 : Int32) &&& 31)).toInt8.toInt32))), (.int (nar .byte ((c1 >>> ((0 : Int32) &&& 31)).toInt8.toInt32))), (.int (nar .byte ((c1 >>> ((8 : Int32) &&& 31)).toInt8.toInt32))), (.int (nar .byte ((c2 >>> ((0 : Int32) &&& 31)).toInt8.toInt32))), (.int (nar .byte ((c2 >>> ((8 : Int32) &&& 31)).toInt8.toInt32))), (.int (nar .byte ((c3 >>> ((0 : Int32) &&& 31)).toInt8.toInt32))), (.int (nar .byte ((c3 >>> ((8 : Int32) &&& 31)).toInt8.toInt32))), (.int (0 : Int32)), (.int (0 : Int32))] 4 c4 T478.heap n0 Z478 (SA.ext f481.2) (SH.ext f481.2) (SL.ext f481.2) VA4 (by decide) (by decide) rfl g_t3) hZ (tw hw 93 rfl) (tw hw 45 rfl) (by decide) (by decide)) (g := (mkF m 20 #[.val (.ref t1), .val (.int (4 : Int32)), .val (.int (5 : Int32)), .val (.ref t3), .val (.int (4 : Int32))] [(.int c4), (.int (4 : Int32)), (.ref t3)])) rfl (by rw [hml]; rfl) (argsL := [(.ref t3), (.int (4 : Int32)), (.int c4)]) (rest := []) (lenOf pd___BII_V rfl) rfl (by show 2 * 0 + _ ≤ _; exact Nat.le_of_eq rfl) (hb hby d18_20) (fun _ _ => ⟨rfl, rfl, (by decide : 1 + 0 ≤ _), (by decide : 10 + 0 ≤ _)⟩)
  dsimp only [Pt.U, Pt.locs, Pt.cells, Pt.slots] at X482 l482 y482 z482 st482 hQ482
  subst l482 y482 z482
  obtain ⟨rfl, N482q, KC482, PV4⟩ := hQ482
  have N482 := Fr.app N478 N482q
  have K482 := K478.trans KC482 (allS (Or.inr sz_t3) all0)
  have VA5 : Arv Z T482.heap t3 k3 .byte (Int32.ofNat (2 * 5)) [(.int (nar .byte ((c0 >>> ((0 : Int32) &&& 31)).toInt8.toInt32))), (.int (nar .byte ((c0 >>> ((8 : Int32) &&& 31)).toInt8.toInt32))), (.int (nar .byte ((c1 >>> ((0 : Int32) &&& 31)).toInt8.toInt32))), (.int (nar .byte ((c1 >>> ((8 : Int32) &&& 31)).toInt8.toInt32))), (.int (nar .byte ((c2 >>> ((0 : Int32) &&& 31)).toInt8.toInt32))), (.int (nar .byte ((c2 >>> ((8 : Int32) &&& 31)).toInt8.toInt32))), (.int (nar .byte ((c3 >>> ((0 : Int32) &&& 31)).toInt8.toInt32))), (.int (nar .byte ((c3 >>> ((8 : Int32) &&& 31)).toInt8.toInt32))), (.int (nar .byte ((c4 >>> ((0 : Int32) &&& 31)).toInt8.toInt32))), (.int (nar .byte ((c4 >>> ((8 : Int32) &&& 31)).toInt8.toInt32)))] (.int (0 : Int32)) := PV4
  have pre483 : ∀ t, Steps p.tables e below (T482.setTop (mkF m 33 #[.val (.ref t1), .val (.int (5 : Int32)), .val (.int (5 : Int32)), .val (.ref t3), .val (.int (5 : Int32))] [(.ref t3)])) t → Steps p.tables e below (s₁.setTop (mkF m 0 #[.val (.ref t1), .val (.int (0 : Int32)), .val (.int (5 : Int32)), .unset, .unset] [])) t := by
    intro t kt
    show Steps p.tables e below (s₁.setTop (mkF m 0 #[.val (.ref t1), .val (.int (0 : Int32)), .val (.int (5 : Int32)), .unset, .unset] [])) _
    refine XS.iloadN X0.here hx rfl (hb hby d18_0) rfl ?_
    refine st462 _ ?_
    show Steps p.tables e below (T462.setTop (mkF m 4 #[.val (.ref t1), .val (.int (0 : Int32)), .val (.int (5 : Int32)), .unset, .unset] [(.ref t3)])) _
    refine XS.astoreN X462.here hx rfl (hb hby d18_4) rfl rfl (l' := #[.val (.ref t1), .val (.int (0 : Int32)), .val (.int (5 : Int32)), .val (.ref t3), .unset]) rfl ?_
    refine XS.iconst X462.here hx rfl (hb hby d18_5) ?_
    refine XS.istore X462.here hx rfl (hb hby d18_6) rfl (l' := #[.val (.ref t1), .val (.int (0 : Int32)), .val (.int (5 : Int32)), .val (.ref t3), .val (.int (0 : Int32))]) rfl ?_
    show Steps p.tables e below (T462.setTop (mkF m 8 #[.val (.ref t1), .val (.int (0 : Int32)), .val (.int (5 : Int32)), .val (.ref t3), .val (.int (0 : Int32))] [])) _
    refine XS.iload X462.here hx rfl (hb hby d18_8) rfl ?_
    refine XS.iloadN X462.here hx rfl (hb hby d18_10) rfl ?_
    refine XS.icmpNo X462.here hx rfl (hb hby d18_11) rfl (tlt (by decide : (0 : Int32) < (5 : Int32))).2.1 ?_
    show Steps p.tables e below (T462.setTop (mkF m 14 #[.val (.ref t1), .val (.int (0 : Int32)), .val (.int (5 : Int32)), .val (.ref t3), .val (.int (0 : Int32))] [])) _
    refine XS.aloadN X462.here hx rfl (hb hby d18_14) rfl rfl ?_
    refine XS.iload X462.here hx rfl (hb hby d18_15) rfl ?_
    refine XS.aloadN X462.here hx rfl (hb hby d18_17) rfl rfl ?_
    refine XS.iloadN X462.here hx rfl (hb hby d18_18) rfl ?_
    show Steps p.tables e below (T462.setTop (mkF m 19 #[.val (.ref t1), .val (.int (0 : Int32)), .val (.int (5 : Int32)), .val (.ref t3), .val (.int (0 : Int32))] [(.int (0 : Int32)), (.ref t1), (.int (0 : Int32)), (.ref t3)])) _
    refine X462.caload hx (j := (0 : Int32)) (v := (.int c0)) Ar464.1 (State.isArrayOf_alike hZ.alike Ar464.2.1) Ar464.2.2 hin464 hat464 (g := (mkF m 19 #[.val (.ref t1), .val (.int (0 : Int32)), .val (.int (5 : Int32)), .val (.ref t3), .val (.int (0 : Int32))] [(.int (0 : Int32)), (.ref t1), (.int (0 : Int32)), (.ref t3)])) rfl rfl (hb hby d18_19) _ ?_
    refine st466 _ ?_
    show Steps p.tables e below (T466.setTop (mkF m 23 #[.val (.ref t1), .val (.int (0 : Int32)), .val (.int (5 : Int32)), .val (.ref t3), .val (.int (0 : Int32))] [])) _
    refine XS.iinc X466.here hx rfl (hb hby d18_23) rfl (l' := #[.val (.ref t1), .val (.int ((0 : Int32) + (1 : Int32))), .val (.int (5 : Int32)), .val (.ref t3), .val (.int (0 : Int32))]) rfl ?_
    refine XS.iinc X466.here hx rfl (hb hby d18_26) rfl (l' := #[.val (.ref t1), .val (.int ((0 : Int32) + (1 : Int32))), .val (.int (5 : Int32)), .val (.ref t3), .val (.int ((0 : Int32) + (1 : Int32)))]) rfl ?_
    show Steps p.tables e below (T466.setTop (mkF m 29 #[.val (.ref t1), .val (.int ((0 : Int32) + (1 : Int32))), .val (.int (5 : Int32)), .val (.ref t3), .val (.int ((0 : Int32) + (1 : Int32)))] [])) _
    rw [show ((0 : Int32) + (1 : Int32)) = (1 : Int32) from by decide]
    show Steps p.tables e below (T466.setTop (mkF m 29 #[.val (.ref t1), .val (.int (1 : Int32)), .val (.int (5 : Int32)), .val (.ref t3), .val (.int (1 : Int32))] [])) _
    refine XS.goto X466.here hx rfl (pc0 := 29) (pc' := 8) rfl (hb hby d18_29) (by decide) (by decide) ?_
    show Steps p.tables e below (T466.setTop (mkF m 8 #[.val (.ref t1), .val (.int (1 : Int32)), .val (.int (5 : Int32)), .val (.ref t3), .val (.int (1 : Int32))] [])) _
    refine XS.iload X466.here hx rfl (hb hby d18_8) rfl ?_
    refine XS.iloadN X466.here hx rfl (hb hby d18_10) rfl ?_
    refine XS.icmpNo X466.here hx rfl (hb hby d18_11) rfl (tlt (by decide : (1 : Int32) < (5 : Int32))).2.1 ?_
    show Steps p.tables e below (T466.setTop (mkF m 14 #[.val (.ref t1), .val (.int (1 : Int32)), .val (.int (5 : Int32)), .val (.ref t3), .val (.int (1 : Int32))] [])) _
    refine XS.aloadN X466.here hx rfl (hb hby d18_14) rfl rfl ?_
    refine XS.iload X466.here hx rfl (hb hby d18_15) rfl ?_
    refine XS.aloadN X466.here hx rfl (hb hby d18_17) rfl rfl ?_
    refine XS.iloadN X466.here hx rfl (hb hby d18_18) rfl ?_
    show Steps p.tables e below (T466.setTop (mkF m 19 #[.val (.ref t1), .val (.int (1 : Int32)), .val (.int (5 : Int32)), .val (.ref t3), .val (.int (1 : Int32))] [(.int (1 : Int32)), (.ref t1), (.int (1 : Int32)), (.ref t3)])) _
    refine X466.caload hx (j := (1 : Int32)) (v := (.int c1)) Ar468.1 (State.isArrayOf_alike hZ.alike Ar468.2.1) Ar468.2.2 hin468 hat468 (g := (mkF m 19 #[.val (.ref t1), .val (.int (1 : Int32)), .val (.int (5 : Int32)), .val (.ref t3), .val (.int (1 : Int32))] [(.int (1 : Int32)), (.ref t1), (.int (1 : Int32)), (.ref t3)])) rfl rfl (hb hby d18_19) _ ?_
    refine st470 _ ?_
    show Steps p.tables e below (T470.setTop (mkF m 23 #[.val (.ref t1), .val (.int (1 : Int32)), .val (.int (5 : Int32)), .val (.ref t3), .val (.int (1 : Int32))] [])) _
    refine XS.iinc X470.here hx rfl (hb hby d18_23) rfl (l' := #[.val (.ref t1), .val (.int ((1 : Int32) + (1 : Int32))), .val (.int (5 : Int32)), .val (.ref t3), .val (.int (1 : Int32))]) rfl ?_
    refine XS.iinc X470.here hx rfl (hb hby d18_26) rfl (l' := #[.val (.ref t1), .val (.int ((1 : Int32) + (1 : Int32))), .val (.int (5 : Int32)), .val (.ref t3), .val (.int ((1 : Int32) + (1 : Int32)))]) rfl ?_
    show Steps p.tables e below (T470.setTop (mkF m 29 #[.val (.ref t1), .val (.int ((1 : Int32) + (1 : Int32))), .val (.int (5 : Int32)), .val (.ref t3), .val (.int ((1 : Int32) + (1 : Int32)))] [])) _
    rw [show ((1 : Int32) + (1 : Int32)) = (2 : Int32) from by decide]
    show Steps p.tables e below (T470.setTop (mkF m 29 #[.val (.ref t1), .val (.int (2 : Int32)), .val (.int (5 : Int32)), .val (.ref t3), .val (.int (2 : Int32))] [])) _
    refine XS.goto X470.here hx rfl (pc0 := 29) (pc' := 8) rfl (hb hby d18_29) (by decide) (by decide) ?_
    show Steps p.tables e below (T470.setTop (mkF m 8 #[.val (.ref t1), .val (.int (2 : Int32)), .val (.int (5 : Int32)), .val (.ref t3), .val (.int (2 : Int32))] [])) _
    refine XS.iload X470.here hx rfl (hb hby d18_8) rfl ?_
    refine XS.iloadN X470.here hx rfl (hb hby d18_10) rfl ?_
    refine XS.icmpNo X470.here hx rfl (hb hby d18_11) rfl (tlt (by decide : (2 : Int32) < (5 : Int32))).2.1 ?_
    show Steps p.tables e below (T470.setTop (mkF m 14 #[.val (.ref t1), .val (.int (2 : Int32)), .val (.int (5 : Int32)), .val (.ref t3), .val (.int (2 : Int32))] [])) _
    refine XS.aloadN X470.here hx rfl (hb hby d18_14) rfl rfl ?_
    refine XS.iload X470.here hx rfl (hb hby d18_15) rfl ?_
    refine XS.aloadN X470.here hx rfl (hb hby d18_17) rfl rfl ?_
    refine XS.iloadN X470.here hx rfl (hb hby d18_18) rfl ?_
    show Steps p.tables e below (T470.setTop (mkF m 19 #[.val (.ref t1), .val (.int (2 : Int32)), .val (.int (5 : Int32)), .val (.ref t3), .val (.int (2 : Int32))] [(.int (2 : Int32)), (.ref t1), (.int (2 : Int32)), (.ref t3)])) _
    refine X470.caload hx (j := (2 : Int32)) (v := (.int c2)) Ar472.1 (State.isArrayOf_alike hZ.alike Ar472.2.1) Ar472.2.2 hin472 hat472 (g := (mkF m 19 #[.val (.ref t1), .val (.int (2 : Int32)), .val (.int (5 : Int32)), .val (.ref t3), .val (.int (2 : Int32))] [(.int (2 : Int32)), (.ref t1), (.int (2 : Int32)), (.ref t3)])) rfl rfl (hb hby d18_19) _ ?_
    refine st474 _ ?_
    show Steps p.tables e below (T474.setTop (mkF m 23 #[.val (.ref t1), .val (.int (2 : Int32)), .val (.int (5 : Int32)), .val (.ref t3), .val (.int (2 : Int32))] [])) _
    refine XS.iinc X474.here hx rfl (hb hby d18_23) rfl (l' := #[.val (.ref t1), .val (.int ((2 : Int32) + (1 : Int32))), .val (.int (5 : Int32)), .val (.ref t3), .val (.int (2 : Int32))]) rfl ?_
    refine XS.iinc X474.here hx rfl (hb hby d18_26) rfl (l' := #[.val (.ref t1), .val (.int ((2 : Int32) + (1 : Int32))), .val (.int (5 : Int32)), .val (.ref t3), .val (.int ((2 : Int32) + (1 : Int32)))]) rfl ?_
    show Steps p.tables e below (T474.setTop (mkF m 29 #[.val (.ref t1), .val (.int ((2 : Int32) + (1 : Int32))), .val (.int (5 : Int32)), .val (.ref t3), .val (.int ((2 : Int32) + (1 : Int32)))] [])) _
    rw [show ((2 : Int32) + (1 : Int32)) = (3 : Int32) from by decide]
    show Steps p.tables e below (T474.setTop (mkF m 29 #[.val (.ref t1), .val (.int (3 : Int32)), .val (.int (5 : Int32)), .val (.ref t3), .val (.int (3 : Int32))] [])) _
    refine XS.goto X474.here hx rfl (pc0 := 29) (pc' := 8) rfl (hb hby d18_29) (by decide) (by decide) ?_
    show Steps p.tables e below (T474.setTop (mkF m 8 #[.val (.ref t1), .val (.int (3 : Int32)), .val (.int (5 : Int32)), .val (.ref t3), .val (.int (3 : Int32))] [])) _
    refine XS.iload X474.here hx rfl (hb hby d18_8) rfl ?_
    refine XS.iloadN X474.here hx rfl (hb hby d18_10) rfl ?_
    refine XS.icmpNo X474.here hx rfl (hb hby d18_11) rfl (tlt (by decide : (3 : Int32) < (5 : Int32))).2.1 ?_
    show Steps p.tables e below (T474.setTop (mkF m 14 #[.val (.ref t1), .val (.int (3 : Int32)), .val (.int (5 : Int32)), .val (.ref t3), .val (.int (3 : Int32))] [])) _
    refine XS.aloadN X474.here hx rfl (hb hby d18_14) rfl rfl ?_
    refine XS.iload X474.here hx rfl (hb hby d18_15) rfl ?_
    refine XS.aloadN X474.here hx rfl (hb hby d18_17) rfl rfl ?_
    refine XS.iloadN X474.here hx rfl (hb hby d18_18) rfl ?_
    show Steps p.tables e below (T474.setTop (mkF m 19 #[.val (.ref t1), .val (.int (3 : Int32)), .val (.int (5 : Int32)), .val (.ref t3), .val (.int (3 : Int32))] [(.int (3 : Int32)), (.ref t1), (.int (3 : Int32)), (.ref t3)])) _
    refine X474.caload hx (j := (3 : Int32)) (v := (.int c3)) Ar476.1 (State.isArrayOf_alike hZ.alike Ar476.2.1) Ar476.2.2 hin476 hat476 (g := (mkF m 19 #[.val (.ref t1), .val (.int (3 : Int32)), .val (.int (5 : Int32)), .val (.ref t3), .val (.int (3 : Int32))] [(.int (3 : Int32)), (.ref t1), (.int (3 : Int32)), (.ref t3)])) rfl rfl (hb hby d18_19) _ ?_
    refine st478 _ ?_
    show Steps p.tables e below (T478.setTop (mkF m 23 #[.val (.ref t1), .val (.int (3 : Int32)), .val (.int (5 : Int32)), .val (.ref t3), .val (.int (3 : Int32))] [])) _
    refine XS.iinc X478.here hx rfl (hb hby d18_23) rfl (l' := #[.val (.ref t1), .val (.int ((3 : Int32) + (1 : Int32))), .val (.int (5 : Int32)), .val (.ref t3), .val (.int (3 : Int32))]) rfl ?_
    refine XS.iinc X478.here hx rfl (hb hby d18_26) rfl (l' := #[.val (.ref t1), .val (.int ((3 : Int32) + (1 : Int32))), .val (.int (5 : Int32)), .val (.ref t3), .val (.int ((3 : Int32) + (1 : Int32)))]) rfl ?_
    show Steps p.tables e below (T478.setTop (mkF m 29 #[.val (.ref t1), .val (.int ((3 : Int32) + (1 : Int32))), .val (.int (5 : Int32)), .val (.ref t3), .val (.int ((3 : Int32) + (1 : Int32)))] [])) _
    rw [show ((3 : Int32) + (1 : Int32)) = (4 : Int32) from by decide]
    show Steps p.tables e below (T478.setTop (mkF m 29 #[.val (.ref t1), .val (.int (4 : Int32)), .val (.int (5 : Int32)), .val (.ref t3), .val (.int (4 : Int32))] [])) _
    refine XS.goto X478.here hx rfl (pc0 := 29) (pc' := 8) rfl (hb hby d18_29) (by decide) (by decide) ?_
    show Steps p.tables e below (T478.setTop (mkF m 8 #[.val (.ref t1), .val (.int (4 : Int32)), .val (.int (5 : Int32)), .val (.ref t3), .val (.int (4 : Int32))] [])) _
    refine XS.iload X478.here hx rfl (hb hby d18_8) rfl ?_
    refine XS.iloadN X478.here hx rfl (hb hby d18_10) rfl ?_
    refine XS.icmpNo X478.here hx rfl (hb hby d18_11) rfl (tlt (by decide : (4 : Int32) < (5 : Int32))).2.1 ?_
    show Steps p.tables e below (T478.setTop (mkF m 14 #[.val (.ref t1), .val (.int (4 : Int32)), .val (.int (5 : Int32)), .val (.ref t3), .val (.int (4 : Int32))] [])) _
    refine XS.aloadN X478.here hx rfl (hb hby d18_14) rfl rfl ?_
    refine XS.iload X478.here hx rfl (hb hby d18_15) rfl ?_
    refine XS.aloadN X478.here hx rfl (hb hby d18_17) rfl rfl ?_
    refine XS.iloadN X478.here hx rfl (hb hby d18_18) rfl ?_
    show Steps p.tables e below (T478.setTop (mkF m 19 #[.val (.ref t1), .val (.int (4 : Int32)), .val (.int (5 : Int32)), .val (.ref t3), .val (.int (4 : Int32))] [(.int (4 : Int32)), (.ref t1), (.int (4 : Int32)), (.ref t3)])) _
    refine X478.caload hx (j := (4 : Int32)) (v := (.int c4)) Ar480.1 (State.isArrayOf_alike hZ.alike Ar480.2.1) Ar480.2.2 hin480 hat480 (g := (mkF m 19 #[.val (.ref t1), .val (.int (4 : Int32)), .val (.int (5 : Int32)), .val (.ref t3), .val (.int (4 : Int32))] [(.int (4 : Int32)), (.ref t1), (.int (4 : Int32)), (.ref t3)])) rfl rfl (hb hby d18_19) _ ?_
    refine st482 _ ?_
    show Steps p.tables e below (T482.setTop (mkF m 23 #[.val (.ref t1), .val (.int (4 : Int32)), .val (.int (5 : Int32)), .val (.ref t3), .val (.int (4 : Int32))] [])) _
    refine XS.iinc X482.here hx rfl (hb hby d18_23) rfl (l' := #[.val (.ref t1), .val (.int ((4 : Int32) + (1 : Int32))), .val (.int (5 : Int32)), .val (.ref t3), .val (.int (4 : Int32))]) rfl ?_
    refine XS.iinc X482.here hx rfl (hb hby d18_26) rfl (l' := #[.val (.ref t1), .val (.int ((4 : Int32) + (1 : Int32))), .val (.int (5 : Int32)), .val (.ref t3), .val (.int ((4 : Int32) + (1 : Int32)))]) rfl ?_
    show Steps p.tables e below (T482.setTop (mkF m 29 #[.val (.ref t1), .val (.int ((4 : Int32) + (1 : Int32))), .val (.int (5 : Int32)), .val (.ref t3), .val (.int ((4 : Int32) + (1 : Int32)))] [])) _
    rw [show ((4 : Int32) + (1 : Int32)) = (5 : Int32) from by decide]
    show Steps p.tables e below (T482.setTop (mkF m 29 #[.val (.ref t1), .val (.int (5 : Int32)), .val (.int (5 : Int32)), .val (.ref t3), .val (.int (5 : Int32))] [])) _
    refine XS.goto X482.here hx rfl (pc0 := 29) (pc' := 8) rfl (hb hby d18_29) (by decide) (by decide) ?_
    show Steps p.tables e below (T482.setTop (mkF m 8 #[.val (.ref t1), .val (.int (5 : Int32)), .val (.int (5 : Int32)), .val (.ref t3), .val (.int (5 : Int32))] [])) _
    refine XS.iload X482.here hx rfl (hb hby d18_8) rfl ?_
    refine XS.iloadN X482.here hx rfl (hb hby d18_10) rfl ?_
    refine XS.icmpYes X482.here hx rfl (pc0 := 11) (pc' := 32) rfl (hb hby d18_11) rfl (flt (by decide : ¬ ((5 : Int32) < (5 : Int32)))).2.1 (by decide) (by decide) ?_
    show Steps p.tables e below (T482.setTop (mkF m 32 #[.val (.ref t1), .val (.int (5 : Int32)), .val (.int (5 : Int32)), .val (.ref t3), .val (.int (5 : Int32))] [])) _
    refine XS.aloadN X482.here hx rfl (hb hby d18_32) rfl rfl ?_
    exact kt
  obtain ⟨fs, hr, hrun, hended, hW, hsame⟩ := X482.leave (v := some (.ref t3)) (fun h => by rw [Bd.returns] at h; cases h)
  refine ⟨_, _, (pre0 _ (pre483 _ ?_)), hrun, hended, _, _, rfl, ?_, ⟨_, rfl⟩, hW, hsame.mono (by decide) (by decide)⟩
  · show Steps p.tables e below (T482.setTop (mkF m 33 #[.val (.ref t1), .val (.int (5 : Int32)), .val (.int (5 : Int32)), .val (.ref t3), .val (.int (5 : Int32))] [(.ref t3)])) _
    exact retOut X482 hx (t := (.array .byte)) Bd.returns rfl (Or.inr (Or.inr (Or.inr (Or.inr ⟨rfl, rfl, rfl⟩)))) (hb hby d18_33) hr
  · show QTB5 Z t1 kc c0 c1 c2 c3 c4 zc h0 n0 _ T482.heap _
    exact ⟨t3, rfl, N482, own_ext K482, sz_t3, k3, VA5⟩
theorem ef_CB5 (m : MethodId) (x0 : Addr) (x1 : Int32) (x2 : Int32) : entryFrame m #[(.ref x0), (.int x1), (.int x2)] 6 = mkF m 0 #[.val (.ref x0), .val (.int x1), .val (.int x2), .unset, .unset, .unset] [] := by (first | (simp [entryFrame, mkF, argsToLocals, Value.category]; done) | rfl)
def QCB5 (Z : State) (t1 : Addr) (kc : ClassId) (c0 : Int32) (c1 : Int32) (c2 : Int32) (c3 : Int32) (c4 : Int32) (zc : Int32) (h0 : Heap) (n0 : Nat) (v : Option Value) (h : Heap) (L : List Loc) : Prop := ∃ x2, v = some (.ref x2) ∧ Fr n0 L ∧ Ext h0 h ∧ h0.size ≤ x2 ∧ ∃ (k2 : ClassId), ((Arv Z h x2 k2 .byte (Int32.ofNat (5)) ([c0, c1, c2, c3, c4].map own_B) (.int (0 : Int32)) ∧ ¬ ((255 : Int32) < c0) ∧ ¬ ((255 : Int32) < c1) ∧ ¬ ((255 : Int32) < c2) ∧ ¬ ((255 : Int32) < c3) ∧ ¬ ((255 : Int32) < c4)) ∨ Arv Z h x2 k2 .byte (Int32.ofNat (2 * 5)) ([c0, c1, c2, c3, c4].flatMap own_U) (.int (0 : Int32)))
set_option maxRecDepth 65536 in
set_option maxHeartbeats 40000000 in
theorem rmCB5 (l : Launch) (Z : State) (a0 : Array Value) (hw : ∀ d ∈ tables_1, d.before a0 Z = true) (ws : List Jvm.Cond) (t1 : Addr) (kc : ClassId) (c0 : Int32) (c1 : Int32) (c2 : Int32) (c3 : Int32) (c4 : Int32) (zc : Int32) (h0 : Heap) (n0 : Nat) (Z0 : n0 ≤ h0.size) (KT : Arv Z h0 t1 kc .char (5 : Int32) [(.int c0), (.int c1), (.int c2), (.int c3), (.int c4)] (.int (0 : Int32))) (hc0 : nar .char c0 = c0) (hc1 : nar .char c1 = c1) (hc2 : nar .char c2 = c2) (hc3 : nar .char c3 = c3) (hc4 : nar .char c4 = c4) (OZ : Old Z n0 h0) (SC : Sta Z Z.heap "java/lang/String" "COMPACT_STRINGS" "Z" (.int zc)) (hzc : ¬ zc = (0 : Int32)) (SA : Sta Z Z.heap "java/lang/StringUTF16" "$assertionsDisabled" "Z" (.int (1 : Int32))) (SH : Sta Z Z.heap "java/lang/StringUTF16" "HI_BYTE_SHIFT" "I" (.int (0 : Int32))) (SL : Sta Z Z.heap "java/lang/StringUTF16" "LO_BYTE_SHIFT" "I" (.int (8 : Int32))) :
    MetFree l (⟨"java/lang/StringUTF16", "compress", "([CII)[B"⟩ : MethodName) (head1 (Jvm.Cond.code (⟨"java/lang/StringUTF16", "compress", "([CII)[B"⟩ : MethodName) jdk_52_method_16_code 6 (some (.array .byte)) :: ws) ({ frames := 3, cells := 2, slots := 15, locals := 45 } : Room)) (fun a U => a = #[(.ref t1), (.int (0 : Int32)), (.int (5 : Int32))] ∧ Z.Warmed39 U.vm ∧ U.heap = h0) (fun _ _ _ _ _ => True) (fun _ U o U' => ∃ v L, o = .returned v ∧ QCB5 Z t1 kc c0 c1 c2 c3 c4 zc h0 n0 v U'.heap L ∧ FrameEnd U o U' L ({ frames := 3, cells := 2, slots := 15, locals := 45 } : Room).cells ({ frames := 3, cells := 2, slots := 15, locals := 45 } : Room).slots) := by
  refine MetFree.of_bodySF (plainFor_of_name pn_java_lang_StringUTF16) hisR ?_
  intro p e s m args below meth c s₁ Bd hml0 hP hK
  obtain ⟨rfl, hZ, hh⟩ := hP
  have hx := Bd.exec
  have hby := Bd.bytes
  have hml : c.maxLocals = 6 := hml0
  have hown : s.vm.findClass "java/lang/StringUTF16" = some m.cls := findClass_of_methodNamed Bd.named
  have hnm := (name_of_methodNamed Bd.named Bd.method).1
  have X0 : Stand p l e ({ frames := 3, cells := 2, slots := 15, locals := 45 } : Room) s m #[(.ref t1), (.int (0 : Int32)), (.int (5 : Int32))] below meth c s₁ [] 0 0 := Stand.of_body Bd
  have e0 : s₁.heap = h0 := by rw [← hh, Bd.state]; rfl
  have N0 := Fr.nil n0
  have pre0 : ∀ t, Steps p.tables e below (s₁.setTop (mkF m 0 #[.val (.ref t1), .val (.int (0 : Int32)), .val (.int (5 : Int32)), .unset, .unset, .unset] [])) t → Steps p.tables e below (s₁.setTop (entryFrame m #[(.ref t1), (.int (0 : Int32)), (.int (5 : Int32))] 6)) t := fun t k => castTop (ef_CB5 m t1 (0 : Int32) (5 : Int32)) k
  have hcs : ∀ i, i < 5 → nar .char ([c0, c1, c2, c3, c4].getD i 0) = [c0, c1, c2, c3, c4].getD i 0 := fun i hi => by
    match i, hi with
    | 0, _ => exact hc0
    | 1, _ => exact hc1
    | 2, _ => exact hc2
    | 3, _ => exact hc3
    | 4, _ => exact hc4
  obtain ⟨T484, h484, k484, X484, e484, E484, A484, st484⟩ := newP X0 hx hZ (tw hw 21 rfl) e0 (g := (mkF m 1 #[.val (.ref t1), .val (.int (0 : Int32)), .val (.int (5 : Int32)), .unset, .unset, .unset] [(.int (5 : Int32))])) rfl (hb hby d8_1) rfl (by decide) (cap := 5) (by decide) (by decide) (by decide) (by decide)
  obtain ⟨b484, g484⟩ : ∃ z, z = h0.size := ⟨_, rfl⟩
  rw [← g484] at A484 st484
  have g_b484 : n0 ≤ b484 := Nat.le_trans Z0 (Nat.le_of_eq g484.symm)
  have sz_b484 : h0.size ≤ b484 := Nat.le_trans (Keep.refl h0 []).1 (Nat.le_of_eq g484.symm)
  have ne_t1_b484 : t1 ≠ b484 := Nat.ne_of_lt (Nat.lt_of_lt_of_le KT.lt (Nat.le_of_eq g484.symm))
  have Z484 := Nat.le_trans Z0 E484.1
  have K484 := (Keep.refl h0 []).ext E484
  have V484 : Arv Z h484 b484 k484 .byte (5 : Int32) [(.int (0 : Int32)), (.int (0 : Int32)), (.int (0 : Int32)), (.int (0 : Int32)), (.int (0 : Int32))] (.int (0 : Int32)) := (Arv.new A484 (by decide)).pad (pad_rep [] (.int (0 : Int32)) 5)
  have f485 := (KT.ext E484)
  obtain ⟨_, _, ⟨T486, L486, k486, n486⟩, -, X486, ⟨Lc486, hQ486, l486, y486, z486⟩, st486⟩ := Jvm.LawKit.callS X484 hx (y := (⟨"java/lang/StringUTF16", "compress", "([CI[BII)I"⟩ : MethodName)) hown (mvT hZ (tw hw 47 rfl)) (mvT hZ (tw hw 48 rfl)) (mvT hZ (tw hw 45 rfl)) (mvT hZ (tw hw 49 rfl)) (by decide) (backOf (W := 0) (rmCp5 l Z a0 hw [] t1 kc b484 k484 c0 c1 c2 c3 c4 h484 n0 Z484 f485 V484 g_b484 ne_t1_b484) hZ (tw hw 49 rfl) (tw hw 45 rfl) (by decide) (by decide)) (g := (mkF m 9 #[.val (.ref t1), .val (.int (0 : Int32)), .val (.int (5 : Int32)), .val (.ref b484), .unset, .unset] [(.int (5 : Int32)), (.int (0 : Int32)), (.ref b484), (.int (0 : Int32)), (.ref t1)])) rfl (by rw [hml]; rfl) (argsL := [(.ref t1), (.int (0 : Int32)), (.ref b484), (.int (0 : Int32)), (.int (5 : Int32))]) (rest := []) (lenOf pd___CI_BII_I rfl) rfl (by show 2 * 0 + _ ≤ _; exact Nat.le_of_eq rfl) (hb hby d8_9) (fun _ _ => ⟨rfl, e484, (by decide : 1 + 0 ≤ _), (by decide : 5 + 0 ≤ _)⟩)
  dsimp only [Pt.U, Pt.locs, Pt.cells, Pt.slots] at X486 l486 y486 z486 st486 hQ486
  subst l486 y486 z486
  obtain ⟨k, rfl, N486q, KC486, hk⟩ := hQ486
  have N486 := Fr.app N0 N486q
  have Z486 := Nat.le_trans Z484 KC486.1
  have K486 := K484.trans KC486 (allS (Or.inr sz_b484) all0)
  have pre487 : ∀ t, Steps p.tables e below (T486.setTop (mkF m 12 #[.val (.ref t1), .val (.int (0 : Int32)), .val (.int (5 : Int32)), .val (.ref b484), .unset, .unset] [(.int (Int32.ofNat k))])) t → Steps p.tables e below (s₁.setTop (mkF m 0 #[.val (.ref t1), .val (.int (0 : Int32)), .val (.int (5 : Int32)), .unset, .unset, .unset] [])) t := by
    intro t kt
    show Steps p.tables e below (s₁.setTop (mkF m 0 #[.val (.ref t1), .val (.int (0 : Int32)), .val (.int (5 : Int32)), .unset, .unset, .unset] [])) _
    refine XS.iloadN X0.here hx rfl (hb hby d8_0) rfl ?_
    show Steps p.tables e below (s₁.setTop (mkF m 1 #[.val (.ref t1), .val (.int (0 : Int32)), .val (.int (5 : Int32)), .unset, .unset, .unset] [(.int (5 : Int32))])) _
    refine st484 _ ?_
    show Steps p.tables e below (T484.setTop (mkF m 3 #[.val (.ref t1), .val (.int (0 : Int32)), .val (.int (5 : Int32)), .unset, .unset, .unset] [(.ref b484)])) _
    refine XS.astoreN X484.here hx rfl (hb hby d8_3) rfl rfl (l' := #[.val (.ref t1), .val (.int (0 : Int32)), .val (.int (5 : Int32)), .val (.ref b484), .unset, .unset]) rfl ?_
    refine XS.aloadN X484.here hx rfl (hb hby d8_4) rfl rfl ?_
    refine XS.iloadN X484.here hx rfl (hb hby d8_5) rfl ?_
    refine XS.aloadN X484.here hx rfl (hb hby d8_6) rfl rfl ?_
    refine XS.iconst X484.here hx rfl (hb hby d8_7) ?_
    refine XS.iloadN X484.here hx rfl (hb hby d8_8) rfl ?_
    refine st486 _ ?_
    exact kt
  rcases hk with ⟨ek, V5, l0, l1, l2, l3, l4⟩ | ⟨lk, gk⟩
  · skip
    have pre488 : ∀ t, Steps p.tables e below (T486.setTop (mkF m 58 #[.val (.ref t1), .val (.int (0 : Int32)), .val (.int (5 : Int32)), .val (.ref b484), .val (.int (Int32.ofNat k)), .unset] [(.ref b484)])) t → Steps p.tables e below (T486.setTop (mkF m 12 #[.val (.ref t1), .val (.int (0 : Int32)), .val (.int (5 : Int32)), .val (.ref b484), .unset, .unset] [(.int (Int32.ofNat k))])) t := by
      intro t kt
      show Steps p.tables e below (T486.setTop (mkF m 12 #[.val (.ref t1), .val (.int (0 : Int32)), .val (.int (5 : Int32)), .val (.ref b484), .unset, .unset] [(.int (Int32.ofNat k))])) _
      refine XS.istore X486.here hx rfl (hb hby d8_12) rfl (l' := #[.val (.ref t1), .val (.int (0 : Int32)), .val (.int (5 : Int32)), .val (.ref b484), .val (.int (Int32.ofNat k)), .unset]) rfl ?_
      refine XS.iload X486.here hx rfl (hb hby d8_14) rfl ?_
      refine XS.iloadN X486.here hx rfl (hb hby d8_16) rfl ?_
      refine XS.icmpYes X486.here hx rfl (pc0 := 17) (pc' := 57) rfl (hb hby d8_17) rfl (teq (by rw [ek]; rfl : (Int32.ofNat k) = (5 : Int32))).1 (by decide) (by decide) ?_
      show Steps p.tables e below (T486.setTop (mkF m 57 #[.val (.ref t1), .val (.int (0 : Int32)), .val (.int (5 : Int32)), .val (.ref b484), .val (.int (Int32.ofNat k)), .unset] [])) _
      refine XS.aloadN X486.here hx rfl (hb hby d8_57) rfl rfl ?_
      exact kt
    obtain ⟨fs, hr, hrun, hended, hW, hsame⟩ := X486.leave (v := some (.ref b484)) (fun h => by rw [Bd.returns] at h; cases h)
    refine ⟨_, _, (pre0 _ (pre487 _ (pre488 _ ?_))), hrun, hended, _, _, rfl, ?_, ⟨_, rfl⟩, hW, hsame.mono (by decide) (by decide)⟩
    · show Steps p.tables e below (T486.setTop (mkF m 58 #[.val (.ref t1), .val (.int (0 : Int32)), .val (.int (5 : Int32)), .val (.ref b484), .val (.int (Int32.ofNat k)), .unset] [(.ref b484)])) _
      exact retOut X486 hx (t := (.array .byte)) Bd.returns rfl (Or.inr (Or.inr (Or.inr (Or.inr ⟨rfl, rfl, rfl⟩)))) (hb hby d8_58) hr
    · show QCB5 Z t1 kc c0 c1 c2 c3 c4 zc h0 n0 _ T486.heap _
      exact ⟨b484, rfl, N486, own_ext K486, sz_b484, k484, Or.inl ⟨V5, l0, l1, l2, l3, l4⟩⟩
  · skip
    have f489 := (f485.keep KC486 (ninS ne_t1_b484 nin0))
    have f490 := ((OZ.ext E484).keep KC486 (allS g_b484 all0))
    obtain ⟨_, _, ⟨T491, L491, k491, n491⟩, -, X491, ⟨Lc491, hQ491, l491, y491, z491⟩, st491⟩ := Jvm.LawKit.callS X486 hx (y := (⟨"java/lang/StringUTF16", "toBytes", "([CII)[B"⟩ : MethodName)) hown (mvT hZ (tw hw 81 rfl)) (mvT hZ (tw hw 82 rfl)) (mvT hZ (tw hw 45 rfl)) (mvT hZ (tw hw 83 rfl)) (by decide) (backOf (W := 0) (rmTB5 l Z a0 hw [] t1 kc c0 c1 c2 c3 c4 zc T486.heap n0 Z486 f489 f490 SC hzc SA SH SL) hZ (tw hw 83 rfl) (tw hw 45 rfl) (by decide) (by decide)) (g := (mkF m 23 #[.val (.ref t1), .val (.int (0 : Int32)), .val (.int (5 : Int32)), .val (.ref b484), .val (.int (Int32.ofNat k)), .unset] [(.int (5 : Int32)), (.int (0 : Int32)), (.ref t1)])) rfl (by rw [hml]; rfl) (argsL := [(.ref t1), (.int (0 : Int32)), (.int (5 : Int32))]) (rest := []) (lenOf pd___CII__B rfl) rfl (by show 2 * 0 + _ ≤ _; exact Nat.le_of_eq rfl) (hb hby d8_23) (fun _ _ => ⟨rfl, rfl, (by decide : 1 + 1 ≤ _), (by decide : 5 + 10 ≤ _)⟩)
    dsimp only [Pt.U, Pt.locs, Pt.cells, Pt.slots] at X491 l491 y491 z491 st491 hQ491
    subst l491 y491 z491
    obtain ⟨t5, rfl, N491q, EX491, le5, k5, V5⟩ := hQ491
    have N491 := Fr.app N486 N491q
    have sz_t5 : h0.size ≤ t5 := Nat.le_trans K486.1 le5
    have Z491 := Nat.le_trans Z486 EX491.1
    have K491 := K486.ext EX491
    have f492 := (f490.ext EX491)
    obtain ⟨_, _, ⟨T493, L493, k493, n493⟩, -, X493, ⟨Lc493, hQ493, l493, y493, z493⟩, st493⟩ := Jvm.LawKit.callS X491 hx (y := (⟨"java/lang/StringUTF16", "getChar", "([BI)C"⟩ : MethodName)) hown (mvT hZ (tw hw 97 rfl)) (mvT hZ (tw hw 98 rfl)) (mvT hZ (tw hw 45 rfl)) (mvT hZ (tw hw 99 rfl)) (by decide) (backOf (W := 0) (rmGetC l Z a0 hw [] t5 k5 5 ([c0, c1, c2, c3, c4].flatMap own_U) k (nar .byte ((([c0, c1, c2, c3, c4].getD k 0) >>> ((0 : Int32) &&& 31)).toInt8.toInt32)) (nar .byte ((([c0, c1, c2, c3, c4].getD k 0) >>> ((8 : Int32) &&& 31)).toInt8.toInt32)) T491.heap n0 Z491 (SA.ext f492.2) (SH.ext f492.2) (SL.ext f492.2) V5 (by decide) lk (own_getU [c0, c1, c2, c3, c4] _ k lk).1 (own_getU [c0, c1, c2, c3, c4] _ k lk).2) hZ (tw hw 99 rfl) (tw hw 45 rfl) (by decide) (by decide)) (g := (mkF m 32 #[.val (.ref t1), .val (.int (0 : Int32)), .val (.int (5 : Int32)), .val (.ref b484), .val (.int (Int32.ofNat k)), .val (.ref t5)] [(.int (Int32.ofNat k)), (.ref t5)])) rfl (by rw [hml]; rfl) (argsL := [(.ref t5), (.int (Int32.ofNat k))]) (rest := []) (lenOf pd___BI_C rfl) rfl (by show 2 * 0 + _ ≤ _; exact Nat.le_of_eq rfl) (hb hby d8_32) (fun _ _ => ⟨rfl, rfl, (by decide : 2 + 0 ≤ _), (by decide : 15 + 0 ≤ _)⟩)
    dsimp only [Pt.U, Pt.locs, Pt.cells, Pt.slots] at X493 l493 y493 z493 st493 hQ493
    subst l493 y493 z493
    obtain ⟨rfl, N493q, EQ493⟩ := hQ493
    have N493 := Fr.app N491 N493q
    have K493 := own_keq EQ493 K491
    have f494 := (EQ493 ▸ V5)
    have pre495 : ∀ t, Steps p.tables e below (T493.setTop (mkF m 56 #[.val (.ref t1), .val (.int (0 : Int32)), .val (.int (5 : Int32)), .val (.ref b484), .val (.int (Int32.ofNat k)), .val (.ref t5)] [(.ref t5)])) t → Steps p.tables e below (T486.setTop (mkF m 12 #[.val (.ref t1), .val (.int (0 : Int32)), .val (.int (5 : Int32)), .val (.ref b484), .unset, .unset] [(.int (Int32.ofNat k))])) t := by
      intro t kt
      show Steps p.tables e below (T486.setTop (mkF m 12 #[.val (.ref t1), .val (.int (0 : Int32)), .val (.int (5 : Int32)), .val (.ref b484), .unset, .unset] [(.int (Int32.ofNat k))])) _
      refine XS.istore X486.here hx rfl (hb hby d8_12) rfl (l' := #[.val (.ref t1), .val (.int (0 : Int32)), .val (.int (5 : Int32)), .val (.ref b484), .val (.int (Int32.ofNat k)), .unset]) rfl ?_
      refine XS.iload X486.here hx rfl (hb hby d8_14) rfl ?_
      refine XS.iloadN X486.here hx rfl (hb hby d8_16) rfl ?_
      refine XS.icmpNo X486.here hx rfl (hb hby d8_17) rfl (feq (fun q => absurd (congrArg Int32.toInt q) (by rw [own_n (by omega), show ((5 : Int32)).toInt = 5 from by decide]; omega) : ¬ ((Int32.ofNat k) = (5 : Int32)))).1 ?_
      show Steps p.tables e below (T486.setTop (mkF m 20 #[.val (.ref t1), .val (.int (0 : Int32)), .val (.int (5 : Int32)), .val (.ref b484), .val (.int (Int32.ofNat k)), .unset] [])) _
      refine XS.aloadN X486.here hx rfl (hb hby d8_20) rfl rfl ?_
      refine XS.iloadN X486.here hx rfl (hb hby d8_21) rfl ?_
      refine XS.iloadN X486.here hx rfl (hb hby d8_22) rfl ?_
      refine st491 _ ?_
      show Steps p.tables e below (T491.setTop (mkF m 26 #[.val (.ref t1), .val (.int (0 : Int32)), .val (.int (5 : Int32)), .val (.ref b484), .val (.int (Int32.ofNat k)), .unset] [(.ref t5)])) _
      refine XS.astore X491.here hx rfl (hb hby d8_26) rfl rfl (l' := #[.val (.ref t1), .val (.int (0 : Int32)), .val (.int (5 : Int32)), .val (.ref b484), .val (.int (Int32.ofNat k)), .val (.ref t5)]) rfl ?_
      refine XS.aload X491.here hx rfl (hb hby d8_28) rfl rfl ?_
      refine XS.iload X491.here hx rfl (hb hby d8_30) rfl ?_
      refine st493 _ ?_
      show Steps p.tables e below (T493.setTop (mkF m 35 #[.val (.ref t1), .val (.int (0 : Int32)), .val (.int (5 : Int32)), .val (.ref b484), .val (.int (Int32.ofNat k)), .val (.ref t5)] [(.int (nar .char (((((nar .byte ((([c0, c1, c2, c3, c4].getD k 0) >>> ((0 : Int32) &&& 31)).toInt8.toInt32)) &&& (255 : Int32)) <<< ((0 : Int32) &&& 31)) ||| (((nar .byte ((([c0, c1, c2, c3, c4].getD k 0) >>> ((8 : Int32) &&& 31)).toInt8.toInt32)) &&& (255 : Int32)) <<< ((8 : Int32) &&& 31))).toUInt32.toUInt16.toUInt32.toInt32)))])) _
      rw [own_chU1 (hcs k lk)]
      show Steps p.tables e below (T493.setTop (mkF m 35 #[.val (.ref t1), .val (.int (0 : Int32)), .val (.int (5 : Int32)), .val (.ref b484), .val (.int (Int32.ofNat k)), .val (.ref t5)] [(.int ([c0, c1, c2, c3, c4].getD k 0))])) _
      refine XS.sipush X493.here hx rfl (hb hby d8_35) ?_
      refine XS.icmpYes X493.here hx rfl (pc0 := 38) (pc' := 54) rfl (hb hby d8_38) rfl (tlt (gk : (255 : Int32) < ([c0, c1, c2, c3, c4].getD k 0))).2.2.1 (by decide) (by decide) ?_
      show Steps p.tables e below (T493.setTop (mkF m 54 #[.val (.ref t1), .val (.int (0 : Int32)), .val (.int (5 : Int32)), .val (.ref b484), .val (.int (Int32.ofNat k)), .val (.ref t5)] [])) _
      refine XS.aload X493.here hx rfl (hb hby d8_54) rfl rfl ?_
      exact kt
    obtain ⟨fs, hr, hrun, hended, hW, hsame⟩ := X493.leave (v := some (.ref t5)) (fun h => by rw [Bd.returns] at h; cases h)
    refine ⟨_, _, (pre0 _ (pre487 _ (pre495 _ ?_))), hrun, hended, _, _, rfl, ?_, ⟨_, rfl⟩, hW, hsame.mono (by decide) (by decide)⟩
    · show Steps p.tables e below (T493.setTop (mkF m 56 #[.val (.ref t1), .val (.int (0 : Int32)), .val (.int (5 : Int32)), .val (.ref b484), .val (.int (Int32.ofNat k)), .val (.ref t5)] [(.ref t5)])) _
      exact retOut X493 hx (t := (.array .byte)) Bd.returns rfl (Or.inr (Or.inr (Or.inr (Or.inr ⟨rfl, rfl, rfl⟩)))) (hb hby d8_56) hr
    · show QCB5 Z t1 kc c0 c1 c2 c3 c4 zc h0 n0 _ T493.heap _
      exact ⟨t5, rfl, N493, own_ext K493, sz_t5, k5, Or.inr f494⟩
theorem ef_I4_5 (m : MethodId) (x0 : Addr) (x1 : Addr) (x2 : Int32) (x3 : Int32) : entryFrame m #[(.ref x0), (.ref x1), (.int x2), (.int x3), .null] 6 = mkF m 0 #[.val (.ref x0), .val (.ref x1), .val (.int x2), .val (.int x3), .val .null, .unset] [] := by (first | (simp [entryFrame, mkF, argsToLocals, Value.category]; done) | rfl)
def QI4_5 (Z : State) (x1 : Addr) (t1 : Addr) (kc : ClassId) (c0 : Int32) (c1 : Int32) (c2 : Int32) (c3 : Int32) (c4 : Int32) (zc : Int32) (h0 : Heap) (n0 : Nat) (v : Option Value) (h : Heap) (L : List Loc) : Prop := v = none ∧ Fr n0 L ∧ Keep h0 h [x1] ∧ own_str Z h x1 [c0, c1, c2, c3, c4]
set_option maxRecDepth 65536 in
set_option maxHeartbeats 40000000 in
theorem rmI4_5 (l : Launch) (Z : State) (a0 : Array Value) (hw : ∀ d ∈ tables_1, d.before a0 Z = true) (ws : List Jvm.Cond) (x1 : Addr) (t1 : Addr) (kc : ClassId) (c0 : Int32) (c1 : Int32) (c2 : Int32) (c3 : Int32) (c4 : Int32) (zc : Int32) (h0 : Heap) (n0 : Nat) (Z0 : n0 ≤ h0.size) (XE : Exa Z h0 x1 "java/lang/String") (XV0 : Fld Z h0 x1 "java/lang/String" "value" "[B" .null) (XC0 : Fld Z h0 x1 "java/lang/String" "coder" "B" (.int (0 : Int32))) (g_x1 : n0 ≤ x1) (KT : Arv Z h0 t1 kc .char (5 : Int32) [(.int c0), (.int c1), (.int c2), (.int c3), (.int c4)] (.int (0 : Int32))) (hc0 : nar .char c0 = c0) (hc1 : nar .char c1 = c1) (hc2 : nar .char c2 = c2) (hc3 : nar .char c3 = c3) (hc4 : nar .char c4 = c4) (OZ : Old Z n0 h0) (SC : Sta Z Z.heap "java/lang/String" "COMPACT_STRINGS" "Z" (.int zc)) (hzc : ¬ zc = (0 : Int32)) (SA : Sta Z Z.heap "java/lang/StringUTF16" "$assertionsDisabled" "Z" (.int (1 : Int32))) (SH : Sta Z Z.heap "java/lang/StringUTF16" "HI_BYTE_SHIFT" "I" (.int (0 : Int32))) (SL : Sta Z Z.heap "java/lang/StringUTF16" "LO_BYTE_SHIFT" "I" (.int (8 : Int32))) :
    MetFree l (⟨"java/lang/String", "<init>", "([CIILjava/lang/Void;)V"⟩ : MethodName) (head1 (Jvm.Cond.code (⟨"java/lang/String", "<init>", "([CIILjava/lang/Void;)V"⟩ : MethodName) jdk_42_method_149_code 6 none :: ws) ({ frames := 4, cells := 2, slots := 15, locals := 64 } : Room)) (fun a U => a = #[(.ref x1), (.ref t1), (.int (0 : Int32)), (.int (5 : Int32)), .null] ∧ Z.Warmed39 U.vm ∧ U.heap = h0) (fun _ _ _ _ _ => True) (fun _ U o U' => ∃ v L, o = .returned v ∧ QI4_5 Z x1 t1 kc c0 c1 c2 c3 c4 zc h0 n0 v U'.heap L ∧ FrameEnd U o U' L ({ frames := 4, cells := 2, slots := 15, locals := 64 } : Room).cells ({ frames := 4, cells := 2, slots := 15, locals := 64 } : Room).slots) := by
  refine MetFree.of_bodySF (plainFor_of_name pn_java_lang_String) hisR ?_
  intro p e s m args below meth c s₁ Bd hml0 hP hK
  obtain ⟨rfl, hZ, hh⟩ := hP
  have hx := Bd.exec
  have hby := Bd.bytes
  have hml : c.maxLocals = 6 := hml0
  have hown : s.vm.findClass "java/lang/String" = some m.cls := findClass_of_methodNamed Bd.named
  have hnm := (name_of_methodNamed Bd.named Bd.method).1
  have X0 : Stand p l e ({ frames := 4, cells := 2, slots := 15, locals := 64 } : Room) s m #[(.ref x1), (.ref t1), (.int (0 : Int32)), (.int (5 : Int32)), .null] below meth c s₁ [] 0 0 := Stand.of_body Bd
  have e0 : s₁.heap = h0 := by rw [← hh, Bd.state]; rfl
  have N0 := Fr.nil n0
  have pre0 : ∀ t, Steps p.tables e below (s₁.setTop (mkF m 0 #[.val (.ref x1), .val (.ref t1), .val (.int (0 : Int32)), .val (.int (5 : Int32)), .val .null, .unset] [])) t → Steps p.tables e below (s₁.setTop (entryFrame m #[(.ref x1), (.ref t1), (.int (0 : Int32)), (.int (5 : Int32)), .null] 6)) t := fun t k => castTop (ef_I4_5 m x1 t1 (0 : Int32) (5 : Int32)) k
  have mem_x1 : x1 ∈ [x1] := List.mem_of_getElem? (i := 0) rfl
  obtain ⟨T496, X496, e496, st496⟩ := initO X0 hx hZ hown (tw hw 17 rfl) (tw hw 18 rfl) (tw hw 19 rfl) e0 (g := (mkF m 1 #[.val (.ref x1), .val (.ref t1), .val (.int (0 : Int32)), .val (.int (5 : Int32)), .val .null, .unset] [(.ref x1)])) rfl (by rw [hml]; rfl) rfl (hb hby d3_1) (by decide) (W := 0) (by show 2 * 0 + _ ≤ _; exact Nat.le_of_eq rfl) (by decide)
  obtain ⟨T497, X497, e497, st497⟩ := getS2 X496 hx hZ hown (host := "") (Or.inl (tw hw 42 rfl)) Via.refl e496 (SC.ext OZ.2) (g := (mkF m 27 #[.val (.ref x1), .val (.ref t1), .val (.int (0 : Int32)), .val (.int (5 : Int32)), .val .null, .unset] [])) rfl (hb hby d3_27)
  obtain ⟨_, _, ⟨T498, L498, k498, n498⟩, -, X498, ⟨Lc498, hQ498, l498, y498, z498⟩, st498⟩ := Jvm.LawKit.callS X497 hx (y := (⟨"java/lang/StringUTF16", "compress", "([CII)[B"⟩ : MethodName)) hown (mvT hZ (tw hw 43 rfl)) (mvT hZ (tw hw 44 rfl)) (mvT hZ (tw hw 45 rfl)) (mvT hZ (tw hw 46 rfl)) (by decide) (backOf (W := 0) (rmCB5 l Z a0 hw [] t1 kc c0 c1 c2 c3 c4 zc h0 n0 Z0 KT hc0 hc1 hc2 hc3 hc4 OZ SC hzc SA SH SL) hZ (tw hw 46 rfl) (tw hw 45 rfl) (by decide) (by decide)) (g := (mkF m 36 #[.val (.ref x1), .val (.ref t1), .val (.int (0 : Int32)), .val (.int (5 : Int32)), .val .null, .unset] [(.int (5 : Int32)), (.int (0 : Int32)), (.ref t1)])) rfl (by rw [hml]; rfl) (argsL := [(.ref t1), (.int (0 : Int32)), (.int (5 : Int32))]) (rest := []) (lenOf pd___CII__B rfl) rfl (by show 2 * 0 + _ ≤ _; exact Nat.le_of_eq rfl) (hb hby d3_36) (fun _ _ => ⟨rfl, e497, (by decide : 0 + 2 ≤ _), (by decide : 0 + 15 ≤ _)⟩)
  dsimp only [Pt.U, Pt.locs, Pt.cells, Pt.slots] at X498 l498 y498 z498 st498 hQ498
  subst l498 y498 z498
  obtain ⟨t5, rfl, N498q, EX498, le5, k5, hor⟩ := hQ498
  have N498 := Fr.app N0 N498q
  have ne_x1_t5 : x1 ≠ t5 := Nat.ne_of_lt (Nat.lt_of_lt_of_le XE.lt le5)
  have Z498 := Nat.le_trans Z0 EX498.1
  have K498 := (Keep.refl h0 [x1]).ext EX498
  have pre499 : ∀ t, Steps p.tables e below (T498.setTop (mkF m 45 #[.val (.ref x1), .val (.ref t1), .val (.int (0 : Int32)), .val (.int (5 : Int32)), .val .null, .val (.ref t5)] [(.int (5 : Int32)), (.ref t5), (.ref x1)])) t → Steps p.tables e below (s₁.setTop (mkF m 0 #[.val (.ref x1), .val (.ref t1), .val (.int (0 : Int32)), .val (.int (5 : Int32)), .val .null, .unset] [])) t := by
    intro t kt
    show Steps p.tables e below (s₁.setTop (mkF m 0 #[.val (.ref x1), .val (.ref t1), .val (.int (0 : Int32)), .val (.int (5 : Int32)), .val .null, .unset] [])) _
    refine XS.aloadN X0.here hx rfl (hb hby d3_0) rfl rfl ?_
    show Steps p.tables e below (s₁.setTop (mkF m 1 #[.val (.ref x1), .val (.ref t1), .val (.int (0 : Int32)), .val (.int (5 : Int32)), .val .null, .unset] [(.ref x1)])) _
    refine st496 _ ?_
    show Steps p.tables e below (T496.setTop (mkF m 4 #[.val (.ref x1), .val (.ref t1), .val (.int (0 : Int32)), .val (.int (5 : Int32)), .val .null, .unset] [])) _
    refine XS.iloadN X496.here hx rfl (hb hby d3_4) rfl ?_
    refine XS.ifYes X496.here hx rfl (pc0 := 5) (pc' := 27) rfl (hb hby d3_5) rfl ((if0 _ _).trans (feq (by decide : ¬ ((5 : Int32) = (0 : Int32)))).2) (by decide) (by decide) ?_
    refine st497 _ ?_
    refine XS.ifNo X497.here hx rfl (hb hby d3_30) rfl ((if0 _ _).trans (feq (hzc : ¬ (zc = (0 : Int32)))).1) ?_
    show Steps p.tables e below (T497.setTop (mkF m 33 #[.val (.ref x1), .val (.ref t1), .val (.int (0 : Int32)), .val (.int (5 : Int32)), .val .null, .unset] [])) _
    refine XS.aloadN X497.here hx rfl (hb hby d3_33) rfl rfl ?_
    refine XS.iloadN X497.here hx rfl (hb hby d3_34) rfl ?_
    refine XS.iloadN X497.here hx rfl (hb hby d3_35) rfl ?_
    refine st498 _ ?_
    show Steps p.tables e below (T498.setTop (mkF m 39 #[.val (.ref x1), .val (.ref t1), .val (.int (0 : Int32)), .val (.int (5 : Int32)), .val .null, .unset] [(.ref t5)])) _
    refine XS.astore X498.here hx rfl (hb hby d3_39) rfl rfl (l' := #[.val (.ref x1), .val (.ref t1), .val (.int (0 : Int32)), .val (.int (5 : Int32)), .val .null, .val (.ref t5)]) rfl ?_
    refine XS.aloadN X498.here hx rfl (hb hby d3_41) rfl rfl ?_
    refine XS.aload X498.here hx rfl (hb hby d3_42) rfl rfl ?_
    refine XS.iloadN X498.here hx rfl (hb hby d3_44) rfl ?_
    exact kt
  rcases hor with ⟨V5, l0, l1, l2, l3, l4⟩ | V5
  · skip
    obtain ⟨_, _, ⟨T500, L500, k500, n500⟩, -, X500, ⟨Lc500, hQ500, l500, y500, z500⟩, st500⟩ := Jvm.LawKit.callS X498 hx (y := (⟨"java/lang/StringUTF16", "coderFromArrayLen", "([BI)B"⟩ : MethodName)) hown (mvT hZ (tw hw 50 rfl)) (mvT hZ (tw hw 51 rfl)) (mvT hZ (tw hw 45 rfl)) (mvT hZ (tw hw 52 rfl)) (by decide) (backOf (W := 1) (rmCFL l Z a0 hw [] t5 k5 5 ([c0, c1, c2, c3, c4].map own_B) T498.heap n0 Z498 V5 (by decide) (by decide)) hZ (tw hw 52 rfl) (tw hw 45 rfl) (by decide) (by decide)) (g := (mkF m 45 #[.val (.ref x1), .val (.ref t1), .val (.int (0 : Int32)), .val (.int (5 : Int32)), .val .null, .val (.ref t5)] [(.int (5 : Int32)), (.ref t5), (.ref x1)])) rfl (by rw [hml]; rfl) (argsL := [(.ref t5), (.int (5 : Int32))]) (rest := [(.ref x1)]) (lenOf pd___BI_B rfl) rfl (by show 2 * 0 + _ ≤ _; exact Nat.le_of_eq rfl) (hb hby d3_45) (fun _ _ => ⟨rfl, rfl, (by decide : 2 + 0 ≤ _), (by decide : 15 + 0 ≤ _)⟩)
    dsimp only [Pt.U, Pt.locs, Pt.cells, Pt.slots] at X500 l500 y500 z500 st500 hQ500
    subst l500 y500 z500
    obtain ⟨rfl, N500q, EQ500⟩ := hQ500
    have N500 := Fr.app N498 N500q
    have K500 := own_keq EQ500 K498
    have f501 := (EQ500 ▸ (XC0.ext EX498))
    have f502 := (EQ500 ▸ (XE.ext EX498))
    obtain ⟨T503, h503, X503, e503, W503, st503⟩ := putFN X500 hx hZ hown (tw hw 27 rfl) Via.refl rfl f501 f502 (Or.inr ⟨(tw hw 23 rfl), rfl, hnm⟩) (tw hw 7 rfl) (ty := .byte) (v' := (.int (0 : Int32))) (by decide) rfl rfl (g := (mkF m 48 #[.val (.ref x1), .val (.ref t1), .val (.int (0 : Int32)), .val (.int (5 : Int32)), .val .null, .val (.ref t5)] [(.int (0 : Int32)), (.ref x1)])) rfl rfl (hb hby d3_48)
    have N503 := Fr.snoc X503 N500 g_x1
    have K503 := K500.wr W503 (Or.inl mem_x1)
    have Fw503 := f501.same W503
    have f504 := ((EQ500 ▸ (XV0.ext EX498)).other W503 (Or.inr (slot_ne (Or.inr (tw hw 22 rfl)) (Or.inr (tw hw 23 rfl)) (by decide) (t := (.array .byte)) (t' := .byte) (by decide) (by decide))))
    have f505 := (f502.wr W503)
    obtain ⟨T506, h506, X506, e506, W506, st506⟩ := putF X503 hx hZ hown (host := "") (Or.inl (tw hw 26 rfl)) Via.refl e503 f504 f505 (Or.inr ⟨(tw hw 22 rfl), rfl, hnm⟩) (tw hw 7 rfl) (ty := (.array .byte)) (by decide) rfl rfl (g := (mkF m 54 #[.val (.ref x1), .val (.ref t1), .val (.int (0 : Int32)), .val (.int (5 : Int32)), .val .null, .val (.ref t5)] [(.ref t5), (.ref x1)])) rfl rfl (hb hby d3_54)
    have N506 := Fr.snoc X506 N503 g_x1
    have K506 := K503.wr W506 (Or.inl mem_x1)
    have Fw506 := f504.same W506
    have hl : ∀ i, i < [c0, c1, c2, c3, c4].length → ¬ ((255 : Int32) < [c0, c1, c2, c3, c4].getD i 0) := fun i hi => by
      match i, hi with
      | 0, _ => exact l0
      | 1, _ => exact l1
      | 2, _ => exact l2
      | 3, _ => exact l3
      | 4, _ => exact l4
    have f507 := (f505.wr W506)
    have f508 := (Fw503.other W506 (Or.inr (slot_ne (Or.inr (tw hw 23 rfl)) (Or.inr (tw hw 22 rfl)) (by decide) (t := .byte) (t' := (.array .byte)) (by decide) (by decide))))
    have f509 := (((EQ500 ▸ V5).other W503 (Ne.symm ne_x1_t5)).other W506 (Ne.symm ne_x1_t5))
    have pre510 : ∀ t, Steps p.tables e below (T506.setTop (mkF m 57 #[.val (.ref x1), .val (.ref t1), .val (.int (0 : Int32)), .val (.int (5 : Int32)), .val .null, .val (.ref t5)] [])) t → Steps p.tables e below (T498.setTop (mkF m 45 #[.val (.ref x1), .val (.ref t1), .val (.int (0 : Int32)), .val (.int (5 : Int32)), .val .null, .val (.ref t5)] [(.int (5 : Int32)), (.ref t5), (.ref x1)])) t := by
      intro t kt
      refine st500 _ ?_
      refine st503 _ ?_
      show Steps p.tables e below (T503.setTop (mkF m 51 #[.val (.ref x1), .val (.ref t1), .val (.int (0 : Int32)), .val (.int (5 : Int32)), .val .null, .val (.ref t5)] [])) _
      refine XS.aloadN X503.here hx rfl (hb hby d3_51) rfl rfl ?_
      refine XS.aload X503.here hx rfl (hb hby d3_52) rfl rfl ?_
      refine st506 _ ?_
      exact kt
    obtain ⟨fs, hr, hrun, hended, hW, hsame⟩ := X506.leave (v := none) (fun _ => rfl)
    refine ⟨_, _, (pre0 _ (pre499 _ (pre510 _ ?_))), hrun, hended, _, _, rfl, ?_, ⟨_, rfl⟩, hW, hsame.mono (by decide) (by decide)⟩
    · show Steps p.tables e below (T506.setTop (mkF m 57 #[.val (.ref x1), .val (.ref t1), .val (.int (0 : Int32)), .val (.int (5 : Int32)), .val .null, .val (.ref t5)] [])) _
      exact X506.returnOut hx Bd.returns (hb hby d3_57) hr
    · show QI4_5 Z x1 t1 kc c0 c1 c2 c3 c4 zc h0 n0 _ T506.heap _
      rw [e506]
      exact ⟨rfl, N506, K506, t5, k5, f507, Fw506, Or.inl ⟨f508, f509, hl⟩⟩
  · skip
    obtain ⟨_, _, ⟨T511, L511, k511, n511⟩, -, X511, ⟨Lc511, hQ511, l511, y511, z511⟩, st511⟩ := Jvm.LawKit.callS X498 hx (y := (⟨"java/lang/StringUTF16", "coderFromArrayLen", "([BI)B"⟩ : MethodName)) hown (mvT hZ (tw hw 50 rfl)) (mvT hZ (tw hw 51 rfl)) (mvT hZ (tw hw 45 rfl)) (mvT hZ (tw hw 52 rfl)) (by decide) (backOf (W := 1) (rmCFU l Z a0 hw [] t5 k5 5 ([c0, c1, c2, c3, c4].flatMap own_U) T498.heap n0 Z498 V5 (by decide) (by decide)) hZ (tw hw 52 rfl) (tw hw 45 rfl) (by decide) (by decide)) (g := (mkF m 45 #[.val (.ref x1), .val (.ref t1), .val (.int (0 : Int32)), .val (.int (5 : Int32)), .val .null, .val (.ref t5)] [(.int (5 : Int32)), (.ref t5), (.ref x1)])) rfl (by rw [hml]; rfl) (argsL := [(.ref t5), (.int (5 : Int32))]) (rest := [(.ref x1)]) (lenOf pd___BI_B rfl) rfl (by show 2 * 0 + _ ≤ _; exact Nat.le_of_eq rfl) (hb hby d3_45) (fun _ _ => ⟨rfl, rfl, (by decide : 2 + 0 ≤ _), (by decide : 15 + 0 ≤ _)⟩)
    dsimp only [Pt.U, Pt.locs, Pt.cells, Pt.slots] at X511 l511 y511 z511 st511 hQ511
    subst l511 y511 z511
    obtain ⟨rfl, N511q, EQ511⟩ := hQ511
    have N511 := Fr.app N498 N511q
    have K511 := own_keq EQ511 K498
    have f512 := (EQ511 ▸ (XC0.ext EX498))
    have f513 := (EQ511 ▸ (XE.ext EX498))
    obtain ⟨T514, h514, X514, e514, W514, st514⟩ := putFN X511 hx hZ hown (tw hw 27 rfl) Via.refl rfl f512 f513 (Or.inr ⟨(tw hw 23 rfl), rfl, hnm⟩) (tw hw 7 rfl) (ty := .byte) (v' := (.int (1 : Int32))) (by decide) rfl rfl (g := (mkF m 48 #[.val (.ref x1), .val (.ref t1), .val (.int (0 : Int32)), .val (.int (5 : Int32)), .val .null, .val (.ref t5)] [(.int (1 : Int32)), (.ref x1)])) rfl rfl (hb hby d3_48)
    have N514 := Fr.snoc X514 N511 g_x1
    have K514 := K511.wr W514 (Or.inl mem_x1)
    have Fw514 := f512.same W514
    have f515 := ((EQ511 ▸ (XV0.ext EX498)).other W514 (Or.inr (slot_ne (Or.inr (tw hw 22 rfl)) (Or.inr (tw hw 23 rfl)) (by decide) (t := (.array .byte)) (t' := .byte) (by decide) (by decide))))
    have f516 := (f513.wr W514)
    obtain ⟨T517, h517, X517, e517, W517, st517⟩ := putF X514 hx hZ hown (host := "") (Or.inl (tw hw 26 rfl)) Via.refl e514 f515 f516 (Or.inr ⟨(tw hw 22 rfl), rfl, hnm⟩) (tw hw 7 rfl) (ty := (.array .byte)) (by decide) rfl rfl (g := (mkF m 54 #[.val (.ref x1), .val (.ref t1), .val (.int (0 : Int32)), .val (.int (5 : Int32)), .val .null, .val (.ref t5)] [(.ref t5), (.ref x1)])) rfl rfl (hb hby d3_54)
    have N517 := Fr.snoc X517 N514 g_x1
    have K517 := K514.wr W517 (Or.inl mem_x1)
    have Fw517 := f515.same W517
    have f518 := (f516.wr W517)
    have f519 := (Fw514.other W517 (Or.inr (slot_ne (Or.inr (tw hw 23 rfl)) (Or.inr (tw hw 22 rfl)) (by decide) (t := .byte) (t' := (.array .byte)) (by decide) (by decide))))
    have f520 := (((EQ511 ▸ V5).other W514 (Ne.symm ne_x1_t5)).other W517 (Ne.symm ne_x1_t5))
    have pre521 : ∀ t, Steps p.tables e below (T517.setTop (mkF m 57 #[.val (.ref x1), .val (.ref t1), .val (.int (0 : Int32)), .val (.int (5 : Int32)), .val .null, .val (.ref t5)] [])) t → Steps p.tables e below (T498.setTop (mkF m 45 #[.val (.ref x1), .val (.ref t1), .val (.int (0 : Int32)), .val (.int (5 : Int32)), .val .null, .val (.ref t5)] [(.int (5 : Int32)), (.ref t5), (.ref x1)])) t := by
      intro t kt
      refine st511 _ ?_
      refine st514 _ ?_
      show Steps p.tables e below (T514.setTop (mkF m 51 #[.val (.ref x1), .val (.ref t1), .val (.int (0 : Int32)), .val (.int (5 : Int32)), .val .null, .val (.ref t5)] [])) _
      refine XS.aloadN X514.here hx rfl (hb hby d3_51) rfl rfl ?_
      refine XS.aload X514.here hx rfl (hb hby d3_52) rfl rfl ?_
      refine st517 _ ?_
      exact kt
    obtain ⟨fs, hr, hrun, hended, hW, hsame⟩ := X517.leave (v := none) (fun _ => rfl)
    refine ⟨_, _, (pre0 _ (pre499 _ (pre521 _ ?_))), hrun, hended, _, _, rfl, ?_, ⟨_, rfl⟩, hW, hsame.mono (by decide) (by decide)⟩
    · show Steps p.tables e below (T517.setTop (mkF m 57 #[.val (.ref x1), .val (.ref t1), .val (.int (0 : Int32)), .val (.int (5 : Int32)), .val .null, .val (.ref t5)] [])) _
      exact X517.returnOut hx Bd.returns (hb hby d3_57) hr
    · show QI4_5 Z x1 t1 kc c0 c1 c2 c3 c4 zc h0 n0 _ T517.heap _
      rw [e517]
      exact ⟨rfl, N517, K517, t5, k5, f518, Fw517, Or.inr ⟨f519, f520⟩⟩
theorem ef_I1_5 (m : MethodId) (x0 : Addr) (x1 : Addr) : entryFrame m #[(.ref x0), (.ref x1)] 2 = mkF m 0 #[.val (.ref x0), .val (.ref x1)] [] := by (first | (simp [entryFrame, mkF, argsToLocals, Value.category]; done) | rfl)
def QI1_5 (Z : State) (x1 : Addr) (t1 : Addr) (kc : ClassId) (c0 : Int32) (c1 : Int32) (c2 : Int32) (c3 : Int32) (c4 : Int32) (zc : Int32) (h0 : Heap) (n0 : Nat) (v : Option Value) (h : Heap) (L : List Loc) : Prop := v = none ∧ Fr n0 L ∧ Keep h0 h [x1] ∧ own_str Z h x1 [c0, c1, c2, c3, c4]
set_option maxRecDepth 65536 in
set_option maxHeartbeats 40000000 in
theorem rmI1_5 (l : Launch) (Z : State) (a0 : Array Value) (hw : ∀ d ∈ tables_1, d.before a0 Z = true) (ws : List Jvm.Cond) (x1 : Addr) (t1 : Addr) (kc : ClassId) (c0 : Int32) (c1 : Int32) (c2 : Int32) (c3 : Int32) (c4 : Int32) (zc : Int32) (h0 : Heap) (n0 : Nat) (Z0 : n0 ≤ h0.size) (XE : Exa Z h0 x1 "java/lang/String") (XV0 : Fld Z h0 x1 "java/lang/String" "value" "[B" .null) (XC0 : Fld Z h0 x1 "java/lang/String" "coder" "B" (.int (0 : Int32))) (g_x1 : n0 ≤ x1) (KT : Arv Z h0 t1 kc .char (5 : Int32) [(.int c0), (.int c1), (.int c2), (.int c3), (.int c4)] (.int (0 : Int32))) (hc0 : nar .char c0 = c0) (hc1 : nar .char c1 = c1) (hc2 : nar .char c2 = c2) (hc3 : nar .char c3 = c3) (hc4 : nar .char c4 = c4) (OZ : Old Z n0 h0) (SC : Sta Z Z.heap "java/lang/String" "COMPACT_STRINGS" "Z" (.int zc)) (hzc : ¬ zc = (0 : Int32)) (SA : Sta Z Z.heap "java/lang/StringUTF16" "$assertionsDisabled" "Z" (.int (1 : Int32))) (SH : Sta Z Z.heap "java/lang/StringUTF16" "HI_BYTE_SHIFT" "I" (.int (0 : Int32))) (SL : Sta Z Z.heap "java/lang/StringUTF16" "LO_BYTE_SHIFT" "I" (.int (8 : Int32))) :
    MetFree l (⟨"java/lang/String", "<init>", "([C)V"⟩ : MethodName) (head1 (Jvm.Cond.code (⟨"java/lang/String", "<init>", "([C)V"⟩ : MethodName) jdk_42_method_3_code 2 none :: ws) ({ frames := 5, cells := 2, slots := 15, locals := 82 } : Room)) (fun a U => a = #[(.ref x1), (.ref t1)] ∧ Z.Warmed39 U.vm ∧ U.heap = h0) (fun _ _ _ _ _ => True) (fun _ U o U' => ∃ v L, o = .returned v ∧ QI1_5 Z x1 t1 kc c0 c1 c2 c3 c4 zc h0 n0 v U'.heap L ∧ FrameEnd U o U' L ({ frames := 5, cells := 2, slots := 15, locals := 82 } : Room).cells ({ frames := 5, cells := 2, slots := 15, locals := 82 } : Room).slots) := by
  refine MetFree.of_bodySF (plainFor_of_name pn_java_lang_String) hisR ?_
  intro p e s m args below meth c s₁ Bd hml0 hP hK
  obtain ⟨rfl, hZ, hh⟩ := hP
  have hx := Bd.exec
  have hby := Bd.bytes
  have hml : c.maxLocals = 2 := hml0
  have hown : s.vm.findClass "java/lang/String" = some m.cls := findClass_of_methodNamed Bd.named
  have hnm := (name_of_methodNamed Bd.named Bd.method).1
  have X0 : Stand p l e ({ frames := 5, cells := 2, slots := 15, locals := 82 } : Room) s m #[(.ref x1), (.ref t1)] below meth c s₁ [] 0 0 := Stand.of_body Bd
  have e0 : s₁.heap = h0 := by rw [← hh, Bd.state]; rfl
  have N0 := Fr.nil n0
  have pre0 : ∀ t, Steps p.tables e below (s₁.setTop (mkF m 0 #[.val (.ref x1), .val (.ref t1)] [])) t → Steps p.tables e below (s₁.setTop (entryFrame m #[(.ref x1), (.ref t1)] 2)) t := fun t k => castTop (ef_I1_5 m x1 t1) k
  have mem_x1 : x1 ∈ [x1] := List.mem_of_getElem? (i := 0) rfl
  obtain ⟨c522, Ar522, -, S522, M522, -, -⟩ := id KT
  obtain ⟨_, _, ⟨T523, L523, k523, n523⟩, -, X523, ⟨Lc523, hQ523, l523, y523, z523⟩, st523⟩ := X0.specialBack hx (y := (⟨"java/lang/String", "<init>", "([CIILjava/lang/Void;)V"⟩ : MethodName)) rfl hown (mvT hZ (tw hw 13 rfl)) (mvT hZ (tw hw 14 rfl)) (mvT hZ (tw hw 16 rfl)) (by decide) (backOf (W := 0) (rmI4_5 l Z a0 hw [] x1 t1 kc c0 c1 c2 c3 c4 zc h0 n0 Z0 XE XV0 XC0 g_x1 KT hc0 hc1 hc2 hc3 hc4 OZ SC hzc SA SH SL) hZ (tw hw 16 rfl) (tw hw 8 rfl) (by decide) (by decide)) (g := (mkF m 6 #[.val (.ref x1), .val (.ref t1)] [.null, (.int (5 : Int32)), (.int (0 : Int32)), (.ref t1), (.ref x1)])) rfl (by rw [hml]; rfl) (Steps.refl _) (a := x1) (argsL := [(.ref t1), (.int (0 : Int32)), (.int (5 : Int32)), .null]) (rest := []) (lenOf pd___CIILjava_lang_Void__V rfl) rfl (by show 2 * 0 + _ ≤ _; exact Nat.le_of_eq rfl) (hb hby d2_6) (fun _ _ => ⟨rfl, e0, (by decide : 0 + 2 ≤ _), (by decide : 0 + 15 ≤ _)⟩)
  dsimp only [Pt.U, Pt.locs, Pt.cells, Pt.slots] at X523 l523 y523 z523 st523 hQ523
  subst l523 y523 z523
  obtain ⟨rfl, N523q, KC523, SP⟩ := hQ523
  have N523 := Fr.app N0 N523q
  have K523 := (Keep.refl h0 [x1]).trans KC523 (allS (Or.inl mem_x1) all0)
  have pre524 : ∀ t, Steps p.tables e below (T523.setTop (mkF m 9 #[.val (.ref x1), .val (.ref t1)] [])) t → Steps p.tables e below (s₁.setTop (mkF m 0 #[.val (.ref x1), .val (.ref t1)] [])) t := by
    intro t kt
    show Steps p.tables e below (s₁.setTop (mkF m 0 #[.val (.ref x1), .val (.ref t1)] [])) _
    refine XS.aloadN X0.here hx rfl (hb hby d2_0) rfl rfl ?_
    refine XS.aloadN X0.here hx rfl (hb hby d2_1) rfl rfl ?_
    refine XS.iconst X0.here hx rfl (hb hby d2_2) ?_
    refine XS.aloadN X0.here hx rfl (hb hby d2_3) rfl rfl ?_
    refine X0.arraylength hx (by rw [e0]; exact Ar522.1) (State.isArrayOf_alike hZ.alike Ar522.2.1) (g := (mkF m 4 #[.val (.ref x1), .val (.ref t1)] [(.ref t1), (.int (0 : Int32)), (.ref t1), (.ref x1)])) rfl rfl (hb hby d2_4) _ ?_
    rw [len_of S522 M522]
    show Steps p.tables e below (s₁.setTop (mkF m 5 #[.val (.ref x1), .val (.ref t1)] [(.int (5 : Int32)), (.int (0 : Int32)), (.ref t1), (.ref x1)])) _
    refine XS.aconstNull X0.here hx rfl (hb hby d2_5) ?_
    refine st523.trans ?_
    exact kt
  obtain ⟨fs, hr, hrun, hended, hW, hsame⟩ := X523.leave (v := none) (fun _ => rfl)
  refine ⟨_, _, (pre0 _ (pre524 _ ?_)), hrun, hended, _, _, rfl, ?_, ⟨_, rfl⟩, hW, hsame.mono (by decide) (by decide)⟩
  · show Steps p.tables e below (T523.setTop (mkF m 9 #[.val (.ref x1), .val (.ref t1)] [])) _
    exact X523.returnOut hx Bd.returns (hb hby d2_9) hr
  · show QI1_5 Z x1 t1 kc c0 c1 c2 c3 c4 zc h0 n0 _ T523.heap _
    exact ⟨rfl, N523, K523, SP⟩
theorem ef_Mk5 (m : MethodId) (x0 : Int32) (x1 : Int32) (x2 : Int32) (x3 : Int32) (x4 : Int32) (x5 : Int32) : entryFrame m #[(.int x0), (.int x1), (.int x2), (.int x3), (.int x4), (.int x5)] 6 = mkF m 0 #[.val (.int x0), .val (.int x1), .val (.int x2), .val (.int x3), .val (.int x4), .val (.int x5)] [] := by (first | (simp [entryFrame, mkF, argsToLocals, Value.category]; done) | rfl)
def QMk5 (Z : State) (c0 : Int32) (c1 : Int32) (c2 : Int32) (c3 : Int32) (c4 : Int32) (zc : Int32) (h0 : Heap) (n0 : Nat) (v : Option Value) (h : Heap) (L : List Loc) : Prop := ∃ x2, v = some (.ref x2) ∧ Fr n0 L ∧ Ext h0 h ∧ Exa Z h x2 "java/lang/String" ∧ own_str Z h x2 [c0, c1, c2, c3, c4]
theorem d1_110 : decode method_4_code 110 = .ok (.new 25, 3) := by decide +kernel
theorem d1_113 : decode method_4_code 113 = .ok (.dup, 1) := by decide +kernel
theorem d1_114 : decode method_4_code 114 = .ok (.iconst 5, 1) := by decide +kernel
theorem d1_115 : decode method_4_code 115 = .ok (.newarray .char, 2) := by decide +kernel
theorem d1_117 : decode method_4_code 117 = .ok (.dup, 1) := by decide +kernel
theorem d1_118 : decode method_4_code 118 = .ok (.iconst 0, 1) := by decide +kernel
theorem d1_119 : decode method_4_code 119 = .ok (.iload_n 1, 1) := by decide +kernel
theorem d1_120 : decode method_4_code 120 = .ok (.castore, 1) := by decide +kernel
theorem d1_121 : decode method_4_code 121 = .ok (.dup, 1) := by decide +kernel
theorem d1_122 : decode method_4_code 122 = .ok (.iconst 1, 1) := by decide +kernel
theorem d1_123 : decode method_4_code 123 = .ok (.iload_n 2, 1) := by decide +kernel
theorem d1_124 : decode method_4_code 124 = .ok (.castore, 1) := by decide +kernel
theorem d1_125 : decode method_4_code 125 = .ok (.dup, 1) := by decide +kernel
theorem d1_126 : decode method_4_code 126 = .ok (.iconst 2, 1) := by decide +kernel
theorem d1_127 : decode method_4_code 127 = .ok (.iload_n 3, 1) := by decide +kernel
theorem d1_128 : decode method_4_code 128 = .ok (.castore, 1) := by decide +kernel
theorem d1_129 : decode method_4_code 129 = .ok (.dup, 1) := by decide +kernel
theorem d1_130 : decode method_4_code 130 = .ok (.iconst 3, 1) := by decide +kernel
theorem d1_131 : decode method_4_code 131 = .ok (.iload 4, 2) := by decide +kernel
theorem d1_133 : decode method_4_code 133 = .ok (.castore, 1) := by decide +kernel
theorem d1_134 : decode method_4_code 134 = .ok (.dup, 1) := by decide +kernel
theorem d1_135 : decode method_4_code 135 = .ok (.iconst 4, 1) := by decide +kernel
theorem d1_136 : decode method_4_code 136 = .ok (.iload 5, 2) := by decide +kernel
theorem d1_138 : decode method_4_code 138 = .ok (.castore, 1) := by decide +kernel
theorem d1_139 : decode method_4_code 139 = .ok (.invokespecial 27, 3) := by decide +kernel
theorem d1_142 : decode method_4_code 142 = .ok (.areturn, 1) := by decide +kernel
set_option maxRecDepth 65536 in
set_option maxHeartbeats 40000000 in
theorem rmMk5 (l : Launch) (Z : State) (a0 : Array Value) (hw : ∀ d ∈ tables_1, d.before a0 Z = true) (ws : List Jvm.Cond) (c0 : Int32) (c1 : Int32) (c2 : Int32) (c3 : Int32) (c4 : Int32) (zc : Int32) (h0 : Heap) (n0 : Nat) (Z0 : n0 ≤ h0.size) (hc0 : nar .char c0 = c0) (hc1 : nar .char c1 = c1) (hc2 : nar .char c2 = c2) (hc3 : nar .char c3 = c3) (hc4 : nar .char c4 = c4) (OZ : Old Z n0 h0) (SC : Sta Z Z.heap "java/lang/String" "COMPACT_STRINGS" "Z" (.int zc)) (hzc : ¬ zc = (0 : Int32)) (SA : Sta Z Z.heap "java/lang/StringUTF16" "$assertionsDisabled" "Z" (.int (1 : Int32))) (SH : Sta Z Z.heap "java/lang/StringUTF16" "HI_BYTE_SHIFT" "I" (.int (0 : Int32))) (SL : Sta Z Z.heap "java/lang/StringUTF16" "LO_BYTE_SHIFT" "I" (.int (8 : Int32))) :
    MetFree l (⟨"com/example/corvid/corvid/classfile/ConstantPoolModifiedUtf8LengthPinLaw", "make", "(ICCCCC)Ljava/lang/String;"⟩ : MethodName) (head1 (Jvm.Cond.code (⟨"com/example/corvid/corvid/classfile/ConstantPoolModifiedUtf8LengthPinLaw", "make", "(ICCCCC)Ljava/lang/String;"⟩ : MethodName) method_4_code 6 (some (.object "java/lang/String")) :: ws) ({ frames := 6, cells := 4, slots := 30, locals := 97 } : Room)) (fun a U => a = #[(.int (5 : Int32)), (.int c0), (.int c1), (.int c2), (.int c3), (.int c4)] ∧ Z.Warmed39 U.vm ∧ U.heap = h0) (fun _ _ _ _ _ => True) (fun _ U o U' => ∃ v L, o = .returned v ∧ QMk5 Z c0 c1 c2 c3 c4 zc h0 n0 v U'.heap L ∧ FrameEnd U o U' L ({ frames := 6, cells := 4, slots := 30, locals := 97 } : Room).cells ({ frames := 6, cells := 4, slots := 30, locals := 97 } : Room).slots) := by
  refine MetFree.of_bodySF (plainFor_of_name pn_com_example_corvid_corvid_classfile_ConstantPoolModifiedUtf8LengthPinLaw) hisR ?_
  intro p e s m args below meth c s₁ Bd hml0 hP hK
  obtain ⟨rfl, hZ, hh⟩ := hP
  have hx := Bd.exec
  have hby := Bd.bytes
  have hml : c.maxLocals = 6 := hml0
  have hown : s.vm.findClass "com/example/corvid/corvid/classfile/ConstantPoolModifiedUtf8LengthPinLaw" = some m.cls := findClass_of_methodNamed Bd.named
  have hnm := (name_of_methodNamed Bd.named Bd.method).1
  have X0 : Stand p l e ({ frames := 6, cells := 4, slots := 30, locals := 97 } : Room) s m #[(.int (5 : Int32)), (.int c0), (.int c1), (.int c2), (.int c3), (.int c4)] below meth c s₁ [] 0 0 := Stand.of_body Bd
  have e0 : s₁.heap = h0 := by rw [← hh, Bd.state]; rfl
  have N0 := Fr.nil n0
  have pre0 : ∀ t, Steps p.tables e below (s₁.setTop (mkF m 0 #[.val (.int (5 : Int32)), .val (.int c0), .val (.int c1), .val (.int c2), .val (.int c3), .val (.int c4)] [])) t → Steps p.tables e below (s₁.setTop (entryFrame m #[(.int (5 : Int32)), (.int c0), (.int c1), (.int c2), (.int c3), (.int c4)] 6)) t := fun t k => castTop (ef_Mk5 m (5 : Int32) c0 c1 c2 c3 c4) k
  obtain ⟨T525, h525, X525, e525, E525, A525, D525, -, st525⟩ := newO X0 hx hZ hown (tw hw 6 rfl) (tw hw 7 rfl) (tw hw 8 rfl) e0 (g := (mkF m 110 #[.val (.int (5 : Int32)), .val (.int c0), .val (.int c1), .val (.int c2), .val (.int c3), .val (.int c4)] [])) rfl (hb hby d1_110) (by decide) (by decide)
  obtain ⟨b525, g525⟩ : ∃ z, z = h0.size := ⟨_, rfl⟩
  rw [← g525] at A525 D525 st525
  have g_b525 : n0 ≤ b525 := Nat.le_trans Z0 (Nat.le_of_eq g525.symm)
  have sz_b525 : h0.size ≤ b525 := Nat.le_trans (Keep.refl h0 []).1 (Nat.le_of_eq g525.symm)
  have Z525 := Nat.le_trans Z0 E525.1
  have K525 := (Keep.refl h0 []).ext E525
  have F525_value : Fld Z h525 b525 "java/lang/String" "value" "[B" .null := D525 (Or.inr (tw hw 22 rfl)) (ty := (.array .byte)) (by decide)
  have F525_coder : Fld Z h525 b525 "java/lang/String" "coder" "B" (.int (0 : Int32)) := D525 (Or.inr (tw hw 23 rfl)) (ty := .byte) (by decide)
  obtain ⟨T526, h526, k526, X526, e526, E526, A526, st526⟩ := newP X525 hx hZ (tw hw 9 rfl) e525 (g := (mkF m 115 #[.val (.int (5 : Int32)), .val (.int c0), .val (.int c1), .val (.int c2), .val (.int c3), .val (.int c4)] [(.int (5 : Int32)), (.ref b525), (.ref b525)])) rfl (hb hby d1_115) rfl (by decide) (cap := 5) (by decide) (by decide) (by decide) (by decide)
  obtain ⟨b526, g526⟩ : ∃ z, z = h525.size := ⟨_, rfl⟩
  rw [← g526] at A526 st526
  have g_b526 : n0 ≤ b526 := Nat.le_trans Z525 (Nat.le_of_eq g526.symm)
  have sz_b526 : h0.size ≤ b526 := Nat.le_trans K525.1 (Nat.le_of_eq g526.symm)
  have ne_b525_b526 : b525 ≠ b526 := Nat.ne_of_lt (Nat.lt_of_lt_of_le A525.lt (Nat.le_of_eq g526.symm))
  have Z526 := Nat.le_trans Z525 E526.1
  have K526 := K525.ext E526
  have V526 : Arv Z h526 b526 k526 .char (5 : Int32) [(.int (0 : Int32)), (.int (0 : Int32)), (.int (0 : Int32)), (.int (0 : Int32)), (.int (0 : Int32))] (.int (0 : Int32)) := (Arv.new A526 (by decide)).pad (pad_rep [] (.int (0 : Int32)) 5)
  obtain ⟨c527, Ar527, q527, S527, M527, H527, G527⟩ := id V526
  have hin527 : ¬ ((0 : Int32) < 0 ∨ c527.slots.size ≤ ((0 : Int32)).toNatClampNeg) := inb_of S527 ⟨by decide, by decide⟩
  obtain ⟨T528, h528, X528, e528, W528, st528⟩ := stC X526 hx hZ e526 Ar527 (j := (0 : Int32)) hin527 (g := (mkF m 120 #[.val (.int (5 : Int32)), .val (.int c0), .val (.int c1), .val (.int c2), .val (.int c3), .val (.int c4)] [(.int c0), (.int (0 : Int32)), (.ref b526), (.ref b526), (.ref b525), (.ref b525)])) rfl rfl (hb hby d1_120)
  have N528 := Fr.snoc X528 N0 g_b526
  have Z528 := Nat.le_trans Z526 (Keep.of_wr W528).1
  have K528 := K526.wr W528 (Or.inr sz_b526)
  have V528 : Arv Z h528 b526 k526 .char (5 : Int32) [(.int (nar .char c0)), (.int (0 : Int32)), (.int (0 : Int32)), (.int (0 : Int32)), (.int (0 : Int32))] (.int (0 : Int32)) := Arv.set Ar527 q527 S527 M527 H527 G527 (fits_nar_char _) W528 0 rfl (Nat.le_of_ble_eq_true rfl)
  obtain ⟨c529, Ar529, q529, S529, M529, H529, G529⟩ := id V528
  have hin529 : ¬ ((1 : Int32) < 0 ∨ c529.slots.size ≤ ((1 : Int32)).toNatClampNeg) := inb_of S529 ⟨by decide, by decide⟩
  obtain ⟨T530, h530, X530, e530, W530, st530⟩ := stC X528 hx hZ e528 Ar529 (j := (1 : Int32)) hin529 (g := (mkF m 124 #[.val (.int (5 : Int32)), .val (.int c0), .val (.int c1), .val (.int c2), .val (.int c3), .val (.int c4)] [(.int c1), (.int (1 : Int32)), (.ref b526), (.ref b526), (.ref b525), (.ref b525)])) rfl rfl (hb hby d1_124)
  have N530 := Fr.snoc X530 N528 g_b526
  have Z530 := Nat.le_trans Z528 (Keep.of_wr W530).1
  have K530 := K528.wr W530 (Or.inr sz_b526)
  have V530 : Arv Z h530 b526 k526 .char (5 : Int32) [(.int (nar .char c0)), (.int (nar .char c1)), (.int (0 : Int32)), (.int (0 : Int32)), (.int (0 : Int32))] (.int (0 : Int32)) := Arv.set Ar529 q529 S529 M529 H529 G529 (fits_nar_char _) W530 1 rfl (Nat.le_of_ble_eq_true rfl)
  obtain ⟨c531, Ar531, q531, S531, M531, H531, G531⟩ := id V530
  have hin531 : ¬ ((2 : Int32) < 0 ∨ c531.slots.size ≤ ((2 : Int32)).toNatClampNeg) := inb_of S531 ⟨by decide, by decide⟩
  obtain ⟨T532, h532, X532, e532, W532, st532⟩ := stC X530 hx hZ e530 Ar531 (j := (2 : Int32)) hin531 (g := (mkF m 128 #[.val (.int (5 : Int32)), .val (.int c0), .val (.int c1), .val (.int c2), .val (.int c3), .val (.int c4)] [(.int c2), (.int (2 : Int32)), (.ref b526), (.ref b526), (.ref b525), (.ref b525)])) rfl rfl (hb hby d1_128)
  have N532 := Fr.snoc X532 N530 g_b526
  have Z532 := Nat.le_trans Z530 (Keep.of_wr W532).1
  have K532 := K530.wr W532 (Or.inr sz_b526)
  have V532 : Arv Z h532 b526 k526 .char (5 : Int32) [(.int (nar .char c0)), (.int (nar .char c1)), (.int (nar .char c2)), (.int (0 : Int32)), (.int (0 : Int32))] (.int (0 : Int32)) := Arv.set Ar531 q531 S531 M531 H531 G531 (fits_nar_char _) W532 2 rfl (Nat.le_of_ble_eq_true rfl)
  obtain ⟨c533, Ar533, q533, S533, M533, H533, G533⟩ := id V532
  have hin533 : ¬ ((3 : Int32) < 0 ∨ c533.slots.size ≤ ((3 : Int32)).toNatClampNeg) := inb_of S533 ⟨by decide, by decide⟩
  obtain ⟨T534, h534, X534, e534, W534, st534⟩ := stC X532 hx hZ e532 Ar533 (j := (3 : Int32)) hin533 (g := (mkF m 133 #[.val (.int (5 : Int32)), .val (.int c0), .val (.int c1), .val (.int c2), .val (.int c3), .val (.int c4)] [(.int c3), (.int (3 : Int32)), (.ref b526), (.ref b526), (.ref b525), (.ref b525)])) rfl rfl (hb hby d1_133)
  have N534 := Fr.snoc X534 N532 g_b526
  have Z534 := Nat.le_trans Z532 (Keep.of_wr W534).1
  have K534 := K532.wr W534 (Or.inr sz_b526)
  have V534 : Arv Z h534 b526 k526 .char (5 : Int32) [(.int (nar .char c0)), (.int (nar .char c1)), (.int (nar .char c2)), (.int (nar .char c3)), (.int (0 : Int32))] (.int (0 : Int32)) := Arv.set Ar533 q533 S533 M533 H533 G533 (fits_nar_char _) W534 3 rfl (Nat.le_of_ble_eq_true rfl)
  obtain ⟨c535, Ar535, q535, S535, M535, H535, G535⟩ := id V534
  have hin535 : ¬ ((4 : Int32) < 0 ∨ c535.slots.size ≤ ((4 : Int32)).toNatClampNeg) := inb_of S535 ⟨by decide, by decide⟩
  obtain ⟨T536, h536, X536, e536, W536, st536⟩ := stC X534 hx hZ e534 Ar535 (j := (4 : Int32)) hin535 (g := (mkF m 138 #[.val (.int (5 : Int32)), .val (.int c0), .val (.int c1), .val (.int c2), .val (.int c3), .val (.int c4)] [(.int c4), (.int (4 : Int32)), (.ref b526), (.ref b526), (.ref b525), (.ref b525)])) rfl rfl (hb hby d1_138)
  have N536 := Fr.snoc X536 N534 g_b526
  have Z536 := Nat.le_trans Z534 (Keep.of_wr W536).1
  have K536 := K534.wr W536 (Or.inr sz_b526)
  have V536 : Arv Z h536 b526 k526 .char (5 : Int32) [(.int (nar .char c0)), (.int (nar .char c1)), (.int (nar .char c2)), (.int (nar .char c3)), (.int (nar .char c4))] (.int (0 : Int32)) := Arv.set Ar535 q535 S535 M535 H535 G535 (fits_nar_char _) W536 4 rfl (Nat.le_of_ble_eq_true rfl)
  have VT : Arv Z h536 b526 k526 .char (5 : Int32) [(.int c0), (.int c1), (.int c2), (.int c3), (.int c4)] (.int (0 : Int32)) := by have q := V536; rw [hc0, hc1, hc2, hc3, hc4] at q; exact q
  have f537 := ((((((A525.ext E526).wr W528).wr W530).wr W532).wr W534).wr W536)
  have f538 := ((((((F525_value.ext E526).other W528 (Or.inl ne_b525_b526)).other W530 (Or.inl ne_b525_b526)).other W532 (Or.inl ne_b525_b526)).other W534 (Or.inl ne_b525_b526)).other W536 (Or.inl ne_b525_b526))
  have f539 := ((((((F525_coder.ext E526).other W528 (Or.inl ne_b525_b526)).other W530 (Or.inl ne_b525_b526)).other W532 (Or.inl ne_b525_b526)).other W534 (Or.inl ne_b525_b526)).other W536 (Or.inl ne_b525_b526))
  have f540 := (((((((OZ.ext E525).ext E526).wr W528 g_b526).wr W530 g_b526).wr W532 g_b526).wr W534 g_b526).wr W536 g_b526)
  obtain ⟨_, _, ⟨T541, L541, k541, n541⟩, -, X541, ⟨Lc541, hQ541, l541, y541, z541⟩, st541⟩ := X536.specialBack hx (y := (⟨"java/lang/String", "<init>", "([C)V"⟩ : MethodName)) rfl hown (mvT hZ (tw hw 10 rfl)) (mvT hZ (tw hw 11 rfl)) (mvT hZ (tw hw 12 rfl)) (by decide) (backOf (W := 1) (rmI1_5 l Z a0 hw [] b525 b526 k526 c0 c1 c2 c3 c4 zc h536 n0 Z536 f537 f538 f539 g_b525 VT hc0 hc1 hc2 hc3 hc4 f540 SC hzc SA SH SL) hZ (tw hw 12 rfl) (tw hw 8 rfl) (by decide) (by decide)) (g := (mkF m 139 #[.val (.int (5 : Int32)), .val (.int c0), .val (.int c1), .val (.int c2), .val (.int c3), .val (.int c4)] [(.ref b526), (.ref b525), (.ref b525)])) rfl (by rw [hml]; rfl) (Steps.refl _) (a := b525) (argsL := [(.ref b526)]) (rest := [(.ref b525)]) (lenOf pd___C_V rfl) rfl (by show 2 * 0 + _ ≤ _; exact Nat.le_of_eq rfl) (hb hby d1_139) (fun _ _ => ⟨rfl, e536, (by decide : 2 + 2 ≤ _), (by decide : 9 + 15 ≤ _)⟩)
  dsimp only [Pt.U, Pt.locs, Pt.cells, Pt.slots] at X541 l541 y541 z541 st541 hQ541
  subst l541 y541 z541
  obtain ⟨rfl, N541q, KC541, SP⟩ := hQ541
  have N541 := Fr.app N536 N541q
  have K541 := K536.trans KC541 (allS (Or.inr sz_b525) all0)
  have f542 := (f537.keep KC541)
  have pre543 : ∀ t, Steps p.tables e below (T541.setTop (mkF m 142 #[.val (.int (5 : Int32)), .val (.int c0), .val (.int c1), .val (.int c2), .val (.int c3), .val (.int c4)] [(.ref b525)])) t → Steps p.tables e below (s₁.setTop (mkF m 0 #[.val (.int (5 : Int32)), .val (.int c0), .val (.int c1), .val (.int c2), .val (.int c3), .val (.int c4)] [])) t := by
    intro t kt
    show Steps p.tables e below (s₁.setTop (mkF m 0 #[.val (.int (5 : Int32)), .val (.int c0), .val (.int c1), .val (.int c2), .val (.int c3), .val (.int c4)] [])) _
    refine XS.iloadN X0.here hx rfl (hb hby d1_0) rfl ?_
    refine XS.ifYes X0.here hx rfl (pc0 := 1) (pc' := 15) rfl (hb hby d1_1) rfl ((if0 _ _).trans (feq (by decide : ¬ ((5 : Int32) = (0 : Int32)))).2) (by decide) (by decide) ?_
    show Steps p.tables e below (s₁.setTop (mkF m 15 #[.val (.int (5 : Int32)), .val (.int c0), .val (.int c1), .val (.int c2), .val (.int c3), .val (.int c4)] [])) _
    refine XS.iloadN X0.here hx rfl (hb hby d1_15) rfl ?_
    refine XS.iconst X0.here hx rfl (hb hby d1_16) ?_
    refine XS.icmpYes X0.here hx rfl (pc0 := 17) (pc' := 25) rfl (hb hby d1_17) rfl (feq (by decide : ¬ ((5 : Int32) = (1 : Int32)))).2 (by decide) (by decide) ?_
    show Steps p.tables e below (s₁.setTop (mkF m 25 #[.val (.int (5 : Int32)), .val (.int c0), .val (.int c1), .val (.int c2), .val (.int c3), .val (.int c4)] [])) _
    refine XS.iloadN X0.here hx rfl (hb hby d1_25) rfl ?_
    refine XS.iconst X0.here hx rfl (hb hby d1_26) ?_
    refine XS.icmpYes X0.here hx rfl (pc0 := 27) (pc' := 49) rfl (hb hby d1_27) rfl (feq (by decide : ¬ ((5 : Int32) = (2 : Int32)))).2 (by decide) (by decide) ?_
    show Steps p.tables e below (s₁.setTop (mkF m 49 #[.val (.int (5 : Int32)), .val (.int c0), .val (.int c1), .val (.int c2), .val (.int c3), .val (.int c4)] [])) _
    refine XS.iloadN X0.here hx rfl (hb hby d1_49) rfl ?_
    refine XS.iconst X0.here hx rfl (hb hby d1_50) ?_
    refine XS.icmpYes X0.here hx rfl (pc0 := 51) (pc' := 77) rfl (hb hby d1_51) rfl (feq (by decide : ¬ ((5 : Int32) = (3 : Int32)))).2 (by decide) (by decide) ?_
    show Steps p.tables e below (s₁.setTop (mkF m 77 #[.val (.int (5 : Int32)), .val (.int c0), .val (.int c1), .val (.int c2), .val (.int c3), .val (.int c4)] [])) _
    refine XS.iloadN X0.here hx rfl (hb hby d1_77) rfl ?_
    refine XS.iconst X0.here hx rfl (hb hby d1_78) ?_
    refine XS.icmpYes X0.here hx rfl (pc0 := 79) (pc' := 110) rfl (hb hby d1_79) rfl (feq (by decide : ¬ ((5 : Int32) = (4 : Int32)))).2 (by decide) (by decide) ?_
    show Steps p.tables e below (s₁.setTop (mkF m 110 #[.val (.int (5 : Int32)), .val (.int c0), .val (.int c1), .val (.int c2), .val (.int c3), .val (.int c4)] [])) _
    refine st525 _ ?_
    show Steps p.tables e below (T525.setTop (mkF m 113 #[.val (.int (5 : Int32)), .val (.int c0), .val (.int c1), .val (.int c2), .val (.int c3), .val (.int c4)] [(.ref b525)])) _
    refine XS.dup X525.here hx rfl (hb hby d1_113) rfl rfl ?_
    refine XS.iconst X525.here hx rfl (hb hby d1_114) ?_
    show Steps p.tables e below (T525.setTop (mkF m 115 #[.val (.int (5 : Int32)), .val (.int c0), .val (.int c1), .val (.int c2), .val (.int c3), .val (.int c4)] [(.int (5 : Int32)), (.ref b525), (.ref b525)])) _
    refine st526 _ ?_
    show Steps p.tables e below (T526.setTop (mkF m 117 #[.val (.int (5 : Int32)), .val (.int c0), .val (.int c1), .val (.int c2), .val (.int c3), .val (.int c4)] [(.ref b526), (.ref b525), (.ref b525)])) _
    refine XS.dup X526.here hx rfl (hb hby d1_117) rfl rfl ?_
    refine XS.iconst X526.here hx rfl (hb hby d1_118) ?_
    refine XS.iloadN X526.here hx rfl (hb hby d1_119) rfl ?_
    show Steps p.tables e below (T526.setTop (mkF m 120 #[.val (.int (5 : Int32)), .val (.int c0), .val (.int c1), .val (.int c2), .val (.int c3), .val (.int c4)] [(.int c0), (.int (0 : Int32)), (.ref b526), (.ref b526), (.ref b525), (.ref b525)])) _
    refine st528 _ ?_
    show Steps p.tables e below (T528.setTop (mkF m 121 #[.val (.int (5 : Int32)), .val (.int c0), .val (.int c1), .val (.int c2), .val (.int c3), .val (.int c4)] [(.ref b526), (.ref b525), (.ref b525)])) _
    refine XS.dup X528.here hx rfl (hb hby d1_121) rfl rfl ?_
    refine XS.iconst X528.here hx rfl (hb hby d1_122) ?_
    refine XS.iloadN X528.here hx rfl (hb hby d1_123) rfl ?_
    show Steps p.tables e below (T528.setTop (mkF m 124 #[.val (.int (5 : Int32)), .val (.int c0), .val (.int c1), .val (.int c2), .val (.int c3), .val (.int c4)] [(.int c1), (.int (1 : Int32)), (.ref b526), (.ref b526), (.ref b525), (.ref b525)])) _
    refine st530 _ ?_
    show Steps p.tables e below (T530.setTop (mkF m 125 #[.val (.int (5 : Int32)), .val (.int c0), .val (.int c1), .val (.int c2), .val (.int c3), .val (.int c4)] [(.ref b526), (.ref b525), (.ref b525)])) _
    refine XS.dup X530.here hx rfl (hb hby d1_125) rfl rfl ?_
    refine XS.iconst X530.here hx rfl (hb hby d1_126) ?_
    refine XS.iloadN X530.here hx rfl (hb hby d1_127) rfl ?_
    show Steps p.tables e below (T530.setTop (mkF m 128 #[.val (.int (5 : Int32)), .val (.int c0), .val (.int c1), .val (.int c2), .val (.int c3), .val (.int c4)] [(.int c2), (.int (2 : Int32)), (.ref b526), (.ref b526), (.ref b525), (.ref b525)])) _
    refine st532 _ ?_
    show Steps p.tables e below (T532.setTop (mkF m 129 #[.val (.int (5 : Int32)), .val (.int c0), .val (.int c1), .val (.int c2), .val (.int c3), .val (.int c4)] [(.ref b526), (.ref b525), (.ref b525)])) _
    refine XS.dup X532.here hx rfl (hb hby d1_129) rfl rfl ?_
    refine XS.iconst X532.here hx rfl (hb hby d1_130) ?_
    refine XS.iload X532.here hx rfl (hb hby d1_131) rfl ?_
    show Steps p.tables e below (T532.setTop (mkF m 133 #[.val (.int (5 : Int32)), .val (.int c0), .val (.int c1), .val (.int c2), .val (.int c3), .val (.int c4)] [(.int c3), (.int (3 : Int32)), (.ref b526), (.ref b526), (.ref b525), (.ref b525)])) _
    refine st534 _ ?_
    show Steps p.tables e below (T534.setTop (mkF m 134 #[.val (.int (5 : Int32)), .val (.int c0), .val (.int c1), .val (.int c2), .val (.int c3), .val (.int c4)] [(.ref b526), (.ref b525), (.ref b525)])) _
    refine XS.dup X534.here hx rfl (hb hby d1_134) rfl rfl ?_
    refine XS.iconst X534.here hx rfl (hb hby d1_135) ?_
    refine XS.iload X534.here hx rfl (hb hby d1_136) rfl ?_
    show Steps p.tables e below (T534.setTop (mkF m 138 #[.val (.int (5 : Int32)), .val (.int c0), .val (.int c1), .val (.int c2), .val (.int c3), .val (.int c4)] [(.int c4), (.int (4 : Int32)), (.ref b526), (.ref b526), (.ref b525), (.ref b525)])) _
    refine st536 _ ?_
    refine st541.trans ?_
    exact kt
  obtain ⟨fs, hr, hrun, hended, hW, hsame⟩ := X541.leave (v := some (.ref b525)) (fun h => by rw [Bd.returns] at h; cases h)
  refine ⟨_, _, (pre0 _ (pre543 _ ?_)), hrun, hended, _, _, rfl, ?_, ⟨_, rfl⟩, hW, hsame.mono (by decide) (by decide)⟩
  · show Steps p.tables e below (T541.setTop (mkF m 142 #[.val (.int (5 : Int32)), .val (.int c0), .val (.int c1), .val (.int c2), .val (.int c3), .val (.int c4)] [(.ref b525)])) _
    exact retOut X541 hx (t := (.object "java/lang/String")) Bd.returns rfl (Or.inr (Or.inr (Or.inr (Or.inr ⟨rfl, rfl, rfl⟩)))) (hb hby d1_142) hr
  · show QMk5 Z c0 c1 c2 c3 c4 zc h0 n0 _ T541.heap _
    exact ⟨b525, rfl, N541, own_ext K541, f542, SP⟩
theorem ef_CanE (m : MethodId) (x0 : Int32) : entryFrame m #[(.int x0)] 1 = mkF m 0 #[.val (.int x0)] [] := by (first | (simp [entryFrame, mkF, argsToLocals, Value.category]; done) | rfl)
def QCanE (Z : State) (p1 : Int32) (h0 : Heap) (n0 : Nat) (v : Option Value) (h : Heap) (L : List Loc) : Prop := v = some (.int (1 : Int32)) ∧ Fr n0 L ∧ h = h0
theorem d27_0 : decode jdk_43_method_3_code 0 = .ok (.iload_n 0, 1) := by decide +kernel
theorem d27_1 : decode jdk_43_method_3_code 1 = .ok (.sipush 255, 3) := by decide +kernel
theorem d27_4 : decode jdk_43_method_3_code 4 = .ok (.if_icmp .gt 7, 3) := by decide +kernel
theorem d27_7 : decode jdk_43_method_3_code 7 = .ok (.iconst 1, 1) := by decide +kernel
theorem d27_8 : decode jdk_43_method_3_code 8 = .ok (.goto 4, 3) := by decide +kernel
theorem d27_12 : decode jdk_43_method_3_code 12 = .ok (.ireturn, 1) := by decide +kernel
set_option maxRecDepth 65536 in
set_option maxHeartbeats 40000000 in
theorem rmCanE (l : Launch) (Z : State) (a0 : Array Value) (hw : ∀ d ∈ tables_1, d.before a0 Z = true) (ws : List Jvm.Cond) (p1 : Int32) (h0 : Heap) (n0 : Nat) (Z0 : n0 ≤ h0.size) (hp : ¬ ((255 : Int32) < p1)) :
    MetFree l (⟨"java/lang/StringLatin1", "canEncode", "(C)Z"⟩ : MethodName) (head1 (Jvm.Cond.code (⟨"java/lang/StringLatin1", "canEncode", "(C)Z"⟩ : MethodName) jdk_43_method_3_code 1 (some .boolean) :: ws) ({ frames := 0, cells := 0, slots := 0, locals := 0 } : Room)) (fun a U => a = #[(.int p1)] ∧ Z.Warmed39 U.vm ∧ U.heap = h0) (fun _ _ _ _ _ => True) (fun _ U o U' => ∃ v L, o = .returned v ∧ QCanE Z p1 h0 n0 v U'.heap L ∧ FrameEnd U o U' L ({ frames := 0, cells := 0, slots := 0, locals := 0 } : Room).cells ({ frames := 0, cells := 0, slots := 0, locals := 0 } : Room).slots) := by
  refine MetFree.of_bodySF (plainFor_of_name pn_java_lang_StringLatin1) hisR ?_
  intro p e s m args below meth c s₁ Bd hml0 hP hK
  obtain ⟨rfl, hZ, hh⟩ := hP
  have hx := Bd.exec
  have hby := Bd.bytes
  have hml : c.maxLocals = 1 := hml0
  have hown : s.vm.findClass "java/lang/StringLatin1" = some m.cls := findClass_of_methodNamed Bd.named
  have hnm := (name_of_methodNamed Bd.named Bd.method).1
  have X0 : Stand p l e ({ frames := 0, cells := 0, slots := 0, locals := 0 } : Room) s m #[(.int p1)] below meth c s₁ [] 0 0 := Stand.of_body Bd
  have e0 : s₁.heap = h0 := by rw [← hh, Bd.state]; rfl
  have N0 := Fr.nil n0
  have pre0 : ∀ t, Steps p.tables e below (s₁.setTop (mkF m 0 #[.val (.int p1)] [])) t → Steps p.tables e below (s₁.setTop (entryFrame m #[(.int p1)] 1)) t := fun t k => castTop (ef_CanE m p1) k
  have pre544 : ∀ t, Steps p.tables e below (s₁.setTop (mkF m 12 #[.val (.int p1)] [(.int (1 : Int32))])) t → Steps p.tables e below (s₁.setTop (mkF m 0 #[.val (.int p1)] [])) t := by
    intro t kt
    show Steps p.tables e below (s₁.setTop (mkF m 0 #[.val (.int p1)] [])) _
    refine XS.iloadN X0.here hx rfl (hb hby d27_0) rfl ?_
    refine XS.sipush X0.here hx rfl (hb hby d27_1) ?_
    refine XS.icmpNo X0.here hx rfl (hb hby d27_4) rfl (flt (hp : ¬ ((255 : Int32) < p1))).2.2.1 ?_
    show Steps p.tables e below (s₁.setTop (mkF m 7 #[.val (.int p1)] [])) _
    refine XS.iconst X0.here hx rfl (hb hby d27_7) ?_
    refine XS.goto X0.here hx rfl (pc0 := 8) (pc' := 12) rfl (hb hby d27_8) (by decide) (by decide) ?_
    exact kt
  obtain ⟨fs, hr, hrun, hended, hW, hsame⟩ := X0.leave (v := some (.int (1 : Int32))) (fun h => by rw [Bd.returns] at h; cases h)
  refine ⟨_, _, (pre0 _ (pre544 _ ?_)), hrun, hended, _, _, rfl, ?_, ⟨_, rfl⟩, hW, hsame.mono (by decide) (by decide)⟩
  · show Steps p.tables e below (s₁.setTop (mkF m 12 #[.val (.int p1)] [(.int (1 : Int32))])) _
    exact retN X0 hx (t := .boolean) Bd.returns (by simp) (hb hby d27_12) hr
  · show QCanE Z p1 h0 n0 _ s₁.heap _
    rw [e0]
    exact ⟨rfl, N0, rfl⟩
theorem ef_SBB (m : MethodId) (x0 : Addr) (x1 : Addr) (x2 : Int32) : entryFrame m #[(.ref x0), (.ref x1), (.int x2)] 3 = mkF m 0 #[.val (.ref x0), .val (.ref x1), .val (.int x2)] [] := by (first | (simp [entryFrame, mkF, argsToLocals, Value.category]; done) | rfl)
def QSBB (Z : State) (x1 : Addr) (t1 : Addr) (h0 : Heap) (n0 : Nat) (v : Option Value) (h : Heap) (L : List Loc) : Prop := v = none ∧ Fr n0 L ∧ Keep h0 h [x1] ∧ Exa Z h x1 "java/lang/String" ∧ Fld Z h x1 "java/lang/String" "value" "[B" (.ref t1) ∧ Fld Z h x1 "java/lang/String" "coder" "B" (.int (0 : Int32))
theorem d29_0 : decode jdk_42_method_151_code 0 = .ok (.aload_n 0, 1) := by decide +kernel
theorem d29_1 : decode jdk_42_method_151_code 1 = .ok (.invokespecial 1, 3) := by decide +kernel
theorem d29_4 : decode jdk_42_method_151_code 4 = .ok (.aload_n 0, 1) := by decide +kernel
theorem d29_5 : decode jdk_42_method_151_code 5 = .ok (.aload_n 1, 1) := by decide +kernel
theorem d29_6 : decode jdk_42_method_151_code 6 = .ok (.putfield 9, 3) := by decide +kernel
theorem d29_9 : decode jdk_42_method_151_code 9 = .ok (.aload_n 0, 1) := by decide +kernel
theorem d29_10 : decode jdk_42_method_151_code 10 = .ok (.iload_n 2, 1) := by decide +kernel
theorem d29_11 : decode jdk_42_method_151_code 11 = .ok (.putfield 15, 3) := by decide +kernel
theorem d29_14 : decode jdk_42_method_151_code 14 = .ok (.return_, 1) := by decide +kernel
set_option maxRecDepth 65536 in
set_option maxHeartbeats 40000000 in
theorem rmSBB (l : Launch) (Z : State) (a0 : Array Value) (hw : ∀ d ∈ tables_1, d.before a0 Z = true) (ws : List Jvm.Cond) (x1 : Addr) (t1 : Addr) (h0 : Heap) (n0 : Nat) (Z0 : n0 ≤ h0.size) (XE : Exa Z h0 x1 "java/lang/String") (XV0 : Fld Z h0 x1 "java/lang/String" "value" "[B" .null) (XC0 : Fld Z h0 x1 "java/lang/String" "coder" "B" (.int (0 : Int32))) (g_x1 : n0 ≤ x1) :
    MetFree l (⟨"java/lang/String", "<init>", "([BB)V"⟩ : MethodName) (head1 (Jvm.Cond.code (⟨"java/lang/String", "<init>", "([BB)V"⟩ : MethodName) jdk_42_method_151_code 3 none :: ws) ({ frames := 1, cells := 0, slots := 0, locals := 12 } : Room)) (fun a U => a = #[(.ref x1), (.ref t1), (.int (0 : Int32))] ∧ Z.Warmed39 U.vm ∧ U.heap = h0) (fun _ _ _ _ _ => True) (fun _ U o U' => ∃ v L, o = .returned v ∧ QSBB Z x1 t1 h0 n0 v U'.heap L ∧ FrameEnd U o U' L ({ frames := 1, cells := 0, slots := 0, locals := 12 } : Room).cells ({ frames := 1, cells := 0, slots := 0, locals := 12 } : Room).slots) := by
  refine MetFree.of_bodySF (plainFor_of_name pn_java_lang_String) hisR ?_
  intro p e s m args below meth c s₁ Bd hml0 hP hK
  obtain ⟨rfl, hZ, hh⟩ := hP
  have hx := Bd.exec
  have hby := Bd.bytes
  have hml : c.maxLocals = 3 := hml0
  have hown : s.vm.findClass "java/lang/String" = some m.cls := findClass_of_methodNamed Bd.named
  have hnm := (name_of_methodNamed Bd.named Bd.method).1
  have X0 : Stand p l e ({ frames := 1, cells := 0, slots := 0, locals := 12 } : Room) s m #[(.ref x1), (.ref t1), (.int (0 : Int32))] below meth c s₁ [] 0 0 := Stand.of_body Bd
  have e0 : s₁.heap = h0 := by rw [← hh, Bd.state]; rfl
  have N0 := Fr.nil n0
  have pre0 : ∀ t, Steps p.tables e below (s₁.setTop (mkF m 0 #[.val (.ref x1), .val (.ref t1), .val (.int (0 : Int32))] [])) t → Steps p.tables e below (s₁.setTop (entryFrame m #[(.ref x1), (.ref t1), (.int (0 : Int32))] 3)) t := fun t k => castTop (ef_SBB m x1 t1 (0 : Int32)) k
  have mem_x1 : x1 ∈ [x1] := List.mem_of_getElem? (i := 0) rfl
  obtain ⟨T545, X545, e545, st545⟩ := initO X0 hx hZ hown (tw hw 17 rfl) (tw hw 18 rfl) (tw hw 19 rfl) e0 (g := (mkF m 1 #[.val (.ref x1), .val (.ref t1), .val (.int (0 : Int32))] [(.ref x1)])) rfl (by rw [hml]; rfl) rfl (hb hby d29_1) (by decide) (W := 0) (by show 2 * 0 + _ ≤ _; exact Nat.le_of_eq rfl) (by decide)
  obtain ⟨T546, h546, X546, e546, W546, st546⟩ := putF X545 hx hZ hown (host := "") (Or.inl (tw hw 26 rfl)) Via.refl e545 XV0 XE (Or.inr ⟨(tw hw 22 rfl), rfl, hnm⟩) (tw hw 7 rfl) (ty := (.array .byte)) (by decide) rfl rfl (g := (mkF m 6 #[.val (.ref x1), .val (.ref t1), .val (.int (0 : Int32))] [(.ref t1), (.ref x1)])) rfl rfl (hb hby d29_6)
  have N546 := Fr.snoc X546 N0 g_x1
  have K546 := (Keep.refl h0 [x1]).wr W546 (Or.inl mem_x1)
  have Fw546 := XV0.same W546
  have f547 := (XC0.other W546 (Or.inr (slot_ne (Or.inr (tw hw 23 rfl)) (Or.inr (tw hw 22 rfl)) (by decide) (t := .byte) (t' := (.array .byte)) (by decide) (by decide))))
  have f548 := (XE.wr W546)
  obtain ⟨T549, h549, X549, e549, W549, st549⟩ := putFN X546 hx hZ hown (tw hw 27 rfl) Via.refl e546 f547 f548 (Or.inr ⟨(tw hw 23 rfl), rfl, hnm⟩) (tw hw 7 rfl) (ty := .byte) (v' := (.int (0 : Int32))) (by decide) rfl rfl (g := (mkF m 11 #[.val (.ref x1), .val (.ref t1), .val (.int (0 : Int32))] [(.int (0 : Int32)), (.ref x1)])) rfl rfl (hb hby d29_11)
  have N549 := Fr.snoc X549 N546 g_x1
  have K549 := K546.wr W549 (Or.inl mem_x1)
  have Fw549 := f547.same W549
  have f550 := (f548.wr W549)
  have f551 := (Fw546.other W549 (Or.inr (slot_ne (Or.inr (tw hw 22 rfl)) (Or.inr (tw hw 23 rfl)) (by decide) (t := (.array .byte)) (t' := .byte) (by decide) (by decide))))
  have pre552 : ∀ t, Steps p.tables e below (T549.setTop (mkF m 14 #[.val (.ref x1), .val (.ref t1), .val (.int (0 : Int32))] [])) t → Steps p.tables e below (s₁.setTop (mkF m 0 #[.val (.ref x1), .val (.ref t1), .val (.int (0 : Int32))] [])) t := by
    intro t kt
    show Steps p.tables e below (s₁.setTop (mkF m 0 #[.val (.ref x1), .val (.ref t1), .val (.int (0 : Int32))] [])) _
    refine XS.aloadN X0.here hx rfl (hb hby d29_0) rfl rfl ?_
    show Steps p.tables e below (s₁.setTop (mkF m 1 #[.val (.ref x1), .val (.ref t1), .val (.int (0 : Int32))] [(.ref x1)])) _
    refine st545 _ ?_
    show Steps p.tables e below (T545.setTop (mkF m 4 #[.val (.ref x1), .val (.ref t1), .val (.int (0 : Int32))] [])) _
    refine XS.aloadN X545.here hx rfl (hb hby d29_4) rfl rfl ?_
    refine XS.aloadN X545.here hx rfl (hb hby d29_5) rfl rfl ?_
    refine st546 _ ?_
    show Steps p.tables e below (T546.setTop (mkF m 9 #[.val (.ref x1), .val (.ref t1), .val (.int (0 : Int32))] [])) _
    refine XS.aloadN X546.here hx rfl (hb hby d29_9) rfl rfl ?_
    refine XS.iloadN X546.here hx rfl (hb hby d29_10) rfl ?_
    refine st549 _ ?_
    exact kt
  obtain ⟨fs, hr, hrun, hended, hW, hsame⟩ := X549.leave (v := none) (fun _ => rfl)
  refine ⟨_, _, (pre0 _ (pre552 _ ?_)), hrun, hended, _, _, rfl, ?_, ⟨_, rfl⟩, hW, hsame.mono (by decide) (by decide)⟩
  · show Steps p.tables e below (T549.setTop (mkF m 14 #[.val (.ref x1), .val (.ref t1), .val (.int (0 : Int32))] [])) _
    exact X549.returnOut hx Bd.returns (hb hby d29_14) hr
  · show QSBB Z x1 t1 h0 n0 _ T549.heap _
    rw [e549]
    exact ⟨rfl, N549, K549, f550, f551, Fw549⟩
theorem ef_ToB (m : MethodId) (x0 : Int32) : entryFrame m #[(.int x0)] 1 = mkF m 0 #[.val (.int x0)] [] := by (first | (simp [entryFrame, mkF, argsToLocals, Value.category]; done) | rfl)
def QToB (Z : State) (p1 : Int32) (h0 : Heap) (n0 : Nat) (v : Option Value) (h : Heap) (L : List Loc) : Prop := ∃ t2, v = some (.ref t2) ∧ Fr n0 L ∧ Ext h0 h ∧ h0.size ≤ t2 ∧ ∃ (k2 : ClassId), Arv Z h t2 k2 .byte (Int32.ofNat 1) [(.int (nar .byte (p1.toInt8.toInt32)))] (.int (0 : Int32))
theorem d30_0 : decode jdk_43_method_46_code 0 = .ok (.iconst 1, 1) := by decide +kernel
theorem d30_1 : decode jdk_43_method_46_code 1 = .ok (.newarray .byte, 2) := by decide +kernel
theorem d30_3 : decode jdk_43_method_46_code 3 = .ok (.dup, 1) := by decide +kernel
theorem d30_4 : decode jdk_43_method_46_code 4 = .ok (.iconst 0, 1) := by decide +kernel
theorem d30_5 : decode jdk_43_method_46_code 5 = .ok (.iload_n 0, 1) := by decide +kernel
theorem d30_6 : decode jdk_43_method_46_code 6 = .ok (.i2b, 1) := by decide +kernel
theorem d30_7 : decode jdk_43_method_46_code 7 = .ok (.bastore, 1) := by decide +kernel
theorem d30_8 : decode jdk_43_method_46_code 8 = .ok (.areturn, 1) := by decide +kernel
set_option maxRecDepth 65536 in
set_option maxHeartbeats 40000000 in
theorem rmToB (l : Launch) (Z : State) (a0 : Array Value) (hw : ∀ d ∈ tables_1, d.before a0 Z = true) (ws : List Jvm.Cond) (p1 : Int32) (h0 : Heap) (n0 : Nat) (Z0 : n0 ≤ h0.size)  :
    MetFree l (⟨"java/lang/StringLatin1", "toBytes", "(C)[B"⟩ : MethodName) (head1 (Jvm.Cond.code (⟨"java/lang/StringLatin1", "toBytes", "(C)[B"⟩ : MethodName) jdk_43_method_46_code 1 (some (.array .byte)) :: ws) ({ frames := 0, cells := 1, slots := 1, locals := 0 } : Room)) (fun a U => a = #[(.int p1)] ∧ Z.Warmed39 U.vm ∧ U.heap = h0) (fun _ _ _ _ _ => True) (fun _ U o U' => ∃ v L, o = .returned v ∧ QToB Z p1 h0 n0 v U'.heap L ∧ FrameEnd U o U' L ({ frames := 0, cells := 1, slots := 1, locals := 0 } : Room).cells ({ frames := 0, cells := 1, slots := 1, locals := 0 } : Room).slots) := by
  refine MetFree.of_bodySF (plainFor_of_name pn_java_lang_StringLatin1) hisR ?_
  intro p e s m args below meth c s₁ Bd hml0 hP hK
  obtain ⟨rfl, hZ, hh⟩ := hP
  have hx := Bd.exec
  have hby := Bd.bytes
  have hml : c.maxLocals = 1 := hml0
  have hown : s.vm.findClass "java/lang/StringLatin1" = some m.cls := findClass_of_methodNamed Bd.named
  have hnm := (name_of_methodNamed Bd.named Bd.method).1
  have X0 : Stand p l e ({ frames := 0, cells := 1, slots := 1, locals := 0 } : Room) s m #[(.int p1)] below meth c s₁ [] 0 0 := Stand.of_body Bd
  have e0 : s₁.heap = h0 := by rw [← hh, Bd.state]; rfl
  have N0 := Fr.nil n0
  have pre0 : ∀ t, Steps p.tables e below (s₁.setTop (mkF m 0 #[.val (.int p1)] [])) t → Steps p.tables e below (s₁.setTop (entryFrame m #[(.int p1)] 1)) t := fun t k => castTop (ef_ToB m p1) k
  obtain ⟨T553, h553, k553, X553, e553, E553, A553, st553⟩ := newP X0 hx hZ (tw hw 21 rfl) e0 (g := (mkF m 1 #[.val (.int p1)] [(.int (1 : Int32))])) rfl (hb hby d30_1) rfl (by decide) (cap := 1) (by decide) (by decide) (by decide) (by decide)
  obtain ⟨b553, g553⟩ : ∃ z, z = h0.size := ⟨_, rfl⟩
  rw [← g553] at A553 st553
  have g_b553 : n0 ≤ b553 := Nat.le_trans Z0 (Nat.le_of_eq g553.symm)
  have sz_b553 : h0.size ≤ b553 := Nat.le_trans (Keep.refl h0 []).1 (Nat.le_of_eq g553.symm)
  have K553 := (Keep.refl h0 []).ext E553
  have V553 : Arv Z h553 b553 k553 .byte (1 : Int32) [(.int (0 : Int32))] (.int (0 : Int32)) := (Arv.new A553 (by decide)).pad (pad_rep [] (.int (0 : Int32)) 1)
  obtain ⟨c554, Ar554, q554, S554, M554, H554, G554⟩ := id V553
  have hin554 : ¬ ((0 : Int32) < 0 ∨ c554.slots.size ≤ ((0 : Int32)).toNatClampNeg) := inb_of S554 ⟨by decide, by decide⟩
  obtain ⟨T555, h555, X555, e555, W555, st555⟩ := stB X553 hx hZ e553 Ar554 (j := (0 : Int32)) hin554 (g := (mkF m 7 #[.val (.int p1)] [(.int (p1.toInt8.toInt32)), (.int (0 : Int32)), (.ref b553), (.ref b553)])) rfl rfl (hb hby d30_7)
  have N555 := Fr.snoc X555 N0 g_b553
  have K555 := K553.wr W555 (Or.inr sz_b553)
  have V555 := Arv.set Ar554 q554 S554 M554 H554 G554 (fits_nar_byte _) W555 0 rfl (Nat.le_of_ble_eq_true rfl)
  have V2 : Arv Z h555 b553 k553 .byte (Int32.ofNat 1) [(.int (nar .byte (p1.toInt8.toInt32)))] (.int (0 : Int32)) := V555
  have pre556 : ∀ t, Steps p.tables e below (T555.setTop (mkF m 8 #[.val (.int p1)] [(.ref b553)])) t → Steps p.tables e below (s₁.setTop (mkF m 0 #[.val (.int p1)] [])) t := by
    intro t kt
    show Steps p.tables e below (s₁.setTop (mkF m 0 #[.val (.int p1)] [])) _
    refine XS.iconst X0.here hx rfl (hb hby d30_0) ?_
    show Steps p.tables e below (s₁.setTop (mkF m 1 #[.val (.int p1)] [(.int (1 : Int32))])) _
    refine st553 _ ?_
    show Steps p.tables e below (T553.setTop (mkF m 3 #[.val (.int p1)] [(.ref b553)])) _
    refine XS.dup X553.here hx rfl (hb hby d30_3) rfl rfl ?_
    refine XS.iconst X553.here hx rfl (hb hby d30_4) ?_
    refine XS.iloadN X553.here hx rfl (hb hby d30_5) rfl ?_
    refine XS.i2b X553.here hx rfl (hb hby d30_6) rfl ?_
    show Steps p.tables e below (T553.setTop (mkF m 7 #[.val (.int p1)] [(.int (p1.toInt8.toInt32)), (.int (0 : Int32)), (.ref b553), (.ref b553)])) _
    refine st555 _ ?_
    exact kt
  obtain ⟨fs, hr, hrun, hended, hW, hsame⟩ := X555.leave (v := some (.ref b553)) (fun h => by rw [Bd.returns] at h; cases h)
  refine ⟨_, _, (pre0 _ (pre556 _ ?_)), hrun, hended, _, _, rfl, ?_, ⟨_, rfl⟩, hW, hsame.mono (by decide) (by decide)⟩
  · show Steps p.tables e below (T555.setTop (mkF m 8 #[.val (.int p1)] [(.ref b553)])) _
    exact retOut X555 hx (t := (.array .byte)) Bd.returns rfl (Or.inr (Or.inr (Or.inr (Or.inr ⟨rfl, rfl, rfl⟩)))) (hb hby d30_8) hr
  · show QToB Z p1 h0 n0 _ T555.heap _
    rw [e555]
    exact ⟨b553, rfl, N555, own_ext K555, sz_b553, k553, V2⟩
theorem ef_VoC (m : MethodId) (x0 : Int32) : entryFrame m #[(.int x0)] 1 = mkF m 0 #[.val (.int x0)] [] := by (first | (simp [entryFrame, mkF, argsToLocals, Value.category]; done) | rfl)
def QVoC (Z : State) (p1 : Int32) (zc : Int32) (h0 : Heap) (n0 : Nat) (v : Option Value) (h : Heap) (L : List Loc) : Prop := ∃ x2, v = some (.ref x2) ∧ Fr n0 L ∧ Ext h0 h ∧ h0.size ≤ x2 ∧ ∃ (t2 : Addr) (k2 : ClassId), (Exa Z h x2 "java/lang/String" ∧ Fld Z h x2 "java/lang/String" "value" "[B" (.ref t2) ∧ Fld Z h x2 "java/lang/String" "coder" "B" (.int (0 : Int32)) ∧ Arv Z h t2 k2 .byte (Int32.ofNat 1) [(.int (nar .byte (p1.toInt8.toInt32)))] (.int (0 : Int32))) ∧ h0.size ≤ t2
theorem d26_0 : decode jdk_42_method_139_code 0 = .ok (.getstatic 38, 3) := by decide +kernel
theorem d26_3 : decode jdk_42_method_139_code 3 = .ok (.ifCond .eq 23, 3) := by decide +kernel
theorem d26_6 : decode jdk_42_method_139_code 6 = .ok (.iload_n 0, 1) := by decide +kernel
theorem d26_7 : decode jdk_42_method_139_code 7 = .ok (.invokestatic 1015, 3) := by decide +kernel
theorem pd__C_Z : parseMethodDescriptor "(C)Z" = some ⟨[.char], some .boolean⟩ := by decide +kernel
theorem d26_10 : decode jdk_42_method_139_code 10 = .ok (.ifCond .eq 16, 3) := by decide +kernel
theorem d26_13 : decode jdk_42_method_139_code 13 = .ok (.new 10, 3) := by decide +kernel
theorem d26_16 : decode jdk_42_method_139_code 16 = .ok (.dup, 1) := by decide +kernel
theorem d26_17 : decode jdk_42_method_139_code 17 = .ok (.iload_n 0, 1) := by decide +kernel
theorem d26_18 : decode jdk_42_method_139_code 18 = .ok (.invokestatic 1018, 3) := by decide +kernel
theorem pd__C__B : parseMethodDescriptor "(C)[B" = some ⟨[.char], some (.array .byte)⟩ := by decide +kernel
theorem d26_21 : decode jdk_42_method_139_code 21 = .ok (.iconst 0, 1) := by decide +kernel
theorem d26_22 : decode jdk_42_method_139_code 22 = .ok (.invokespecial 209, 3) := by decide +kernel
theorem pd___BB_V : parseMethodDescriptor "([BB)V" = some ⟨[(.array .byte), .byte], none⟩ := by decide +kernel
theorem d26_25 : decode jdk_42_method_139_code 25 = .ok (.areturn, 1) := by decide +kernel
set_option maxRecDepth 65536 in
set_option maxHeartbeats 40000000 in
theorem rmVoC (l : Launch) (Z : State) (a0 : Array Value) (hw : ∀ d ∈ tables_1, d.before a0 Z = true) (ws : List Jvm.Cond) (p1 : Int32) (zc : Int32) (h0 : Heap) (n0 : Nat) (Z0 : n0 ≤ h0.size) (hp : ¬ ((255 : Int32) < p1)) (SC : Sta Z h0 "java/lang/String" "COMPACT_STRINGS" "Z" (.int zc)) (hzc : ¬ zc = (0 : Int32)) :
    MetFree l (⟨"java/lang/String", "valueOf", "(C)Ljava/lang/String;"⟩ : MethodName) (head1 (Jvm.Cond.code (⟨"java/lang/String", "valueOf", "(C)Ljava/lang/String;"⟩ : MethodName) jdk_42_method_139_code 1 (some (.object "java/lang/String")) :: ws) ({ frames := 2, cells := 2, slots := 5, locals := 27 } : Room)) (fun a U => a = #[(.int p1)] ∧ Z.Warmed39 U.vm ∧ U.heap = h0) (fun _ _ _ _ _ => True) (fun _ U o U' => ∃ v L, o = .returned v ∧ QVoC Z p1 zc h0 n0 v U'.heap L ∧ FrameEnd U o U' L ({ frames := 2, cells := 2, slots := 5, locals := 27 } : Room).cells ({ frames := 2, cells := 2, slots := 5, locals := 27 } : Room).slots) := by
  refine MetFree.of_bodySF (plainFor_of_name pn_java_lang_String) hisR ?_
  intro p e s m args below meth c s₁ Bd hml0 hP hK
  obtain ⟨rfl, hZ, hh⟩ := hP
  have hx := Bd.exec
  have hby := Bd.bytes
  have hml : c.maxLocals = 1 := hml0
  have hown : s.vm.findClass "java/lang/String" = some m.cls := findClass_of_methodNamed Bd.named
  have hnm := (name_of_methodNamed Bd.named Bd.method).1
  have X0 : Stand p l e ({ frames := 2, cells := 2, slots := 5, locals := 27 } : Room) s m #[(.int p1)] below meth c s₁ [] 0 0 := Stand.of_body Bd
  have e0 : s₁.heap = h0 := by rw [← hh, Bd.state]; rfl
  have N0 := Fr.nil n0
  have pre0 : ∀ t, Steps p.tables e below (s₁.setTop (mkF m 0 #[.val (.int p1)] [])) t → Steps p.tables e below (s₁.setTop (entryFrame m #[(.int p1)] 1)) t := fun t k => castTop (ef_VoC m p1) k
  obtain ⟨T557, X557, e557, st557⟩ := getS2 X0 hx hZ hown (host := "") (Or.inl (tw hw 42 rfl)) Via.refl e0 SC (g := (mkF m 0 #[.val (.int p1)] [])) rfl (hb hby d26_0)
  obtain ⟨_, _, ⟨T558, L558, k558, n558⟩, -, X558, ⟨Lc558, hQ558, l558, y558, z558⟩, st558⟩ := Jvm.LawKit.callS X557 hx (y := (⟨"java/lang/StringLatin1", "canEncode", "(C)Z"⟩ : MethodName)) hown (mvT hZ (tw hw 113 rfl)) (mvT hZ (tw hw 114 rfl)) (mvT hZ (tw hw 68 rfl)) (mvT hZ (tw hw 115 rfl)) (by decide) (backOf (W := 0) (rmCanE l Z a0 hw [] p1 h0 n0 Z0 hp) hZ (tw hw 115 rfl) (tw hw 68 rfl) (by decide) (by decide)) (g := (mkF m 7 #[.val (.int p1)] [(.int p1)])) rfl (by rw [hml]; rfl) (argsL := [(.int p1)]) (rest := []) (lenOf pd__C_Z rfl) rfl (by show 2 * 0 + _ ≤ _; exact Nat.le_of_eq rfl) (hb hby d26_7) (fun _ _ => ⟨rfl, e557, (by decide : 0 + 0 ≤ _), (by decide : 0 + 0 ≤ _)⟩)
  dsimp only [Pt.U, Pt.locs, Pt.cells, Pt.slots] at X558 l558 y558 z558 st558 hQ558
  subst l558 y558 z558
  obtain ⟨rfl, N558q, EQ558⟩ := hQ558
  have N558 := Fr.app N0 N558q
  have Z558 : n0 ≤ T558.heap.size := by rw [EQ558]; exact Z0
  have K558 := own_keq EQ558 (Keep.refl h0 [])
  obtain ⟨T559, h559, X559, e559, E559, A559, D559, -, st559⟩ := newO X558 hx hZ hown (tw hw 116 rfl) (tw hw 7 rfl) (tw hw 8 rfl) rfl (g := (mkF m 13 #[.val (.int p1)] [])) rfl (hb hby d26_13) (by decide) (by decide)
  obtain ⟨b559, g559⟩ : ∃ z, z = T558.heap.size := ⟨_, rfl⟩
  rw [← g559] at A559 D559 st559
  have g_b559 : n0 ≤ b559 := Nat.le_trans Z558 (Nat.le_of_eq g559.symm)
  have sz_b559 : h0.size ≤ b559 := Nat.le_trans K558.1 (Nat.le_of_eq g559.symm)
  have Z559 := Nat.le_trans Z558 E559.1
  have K559 := K558.ext E559
  have F559_value : Fld Z h559 b559 "java/lang/String" "value" "[B" .null := D559 (Or.inr (tw hw 22 rfl)) (ty := (.array .byte)) (by decide)
  have F559_coder : Fld Z h559 b559 "java/lang/String" "coder" "B" (.int (0 : Int32)) := D559 (Or.inr (tw hw 23 rfl)) (ty := .byte) (by decide)
  obtain ⟨_, _, ⟨T560, L560, k560, n560⟩, -, X560, ⟨Lc560, hQ560, l560, y560, z560⟩, st560⟩ := Jvm.LawKit.callS X559 hx (y := (⟨"java/lang/StringLatin1", "toBytes", "(C)[B"⟩ : MethodName)) hown (mvT hZ (tw hw 123 rfl)) (mvT hZ (tw hw 124 rfl)) (mvT hZ (tw hw 68 rfl)) (mvT hZ (tw hw 125 rfl)) (by decide) (backOf (W := 2) (rmToB l Z a0 hw [] p1 h559 n0 Z559) hZ (tw hw 125 rfl) (tw hw 68 rfl) (by decide) (by decide)) (g := (mkF m 18 #[.val (.int p1)] [(.int p1), (.ref b559), (.ref b559)])) rfl (by rw [hml]; rfl) (argsL := [(.int p1)]) (rest := [(.ref b559), (.ref b559)]) (lenOf pd__C__B rfl) rfl (by show 2 * 0 + _ ≤ _; exact Nat.le_of_eq rfl) (hb hby d26_18) (fun _ _ => ⟨rfl, e559, (by decide : 1 + 1 ≤ _), (by decide : 4 + 1 ≤ _)⟩)
  dsimp only [Pt.U, Pt.locs, Pt.cells, Pt.slots] at X560 l560 y560 z560 st560 hQ560
  subst l560 y560 z560
  obtain ⟨t2, rfl, N560q, EX560, le2, k2, V2⟩ := hQ560
  have N560 := Fr.app N558 N560q
  have sz_t2 : h0.size ≤ t2 := Nat.le_trans K559.1 le2
  have ne_b559_t2 : b559 ≠ t2 := Nat.ne_of_lt (Nat.lt_of_lt_of_le A559.lt le2)
  have Z560 := Nat.le_trans Z559 EX560.1
  have K560 := K559.ext EX560
  have f561 := (A559.ext EX560)
  have f562 := (F559_value.ext EX560)
  have f563 := (F559_coder.ext EX560)
  obtain ⟨_, _, ⟨T564, L564, k564, n564⟩, -, X564, ⟨Lc564, hQ564, l564, y564, z564⟩, st564⟩ := X560.specialBack hx (y := (⟨"java/lang/String", "<init>", "([BB)V"⟩ : MethodName)) rfl hown (mvT hZ (tw hw 120 rfl)) (mvT hZ (tw hw 121 rfl)) (mvT hZ (tw hw 122 rfl)) (by decide) (backOf (W := 1) (rmSBB l Z a0 hw [] b559 t2 T560.heap n0 Z560 f561 f562 f563 g_b559) hZ (tw hw 122 rfl) (tw hw 8 rfl) (by decide) (by decide)) (g := (mkF m 22 #[.val (.int p1)] [(.int (0 : Int32)), (.ref t2), (.ref b559), (.ref b559)])) rfl (by rw [hml]; rfl) (Steps.refl _) (a := b559) (argsL := [(.ref t2), (.int (0 : Int32))]) (rest := [(.ref b559)]) (lenOf pd___BB_V rfl) rfl (by show 2 * 0 + _ ≤ _; exact Nat.le_of_eq rfl) (hb hby d26_22) (fun _ _ => ⟨rfl, rfl, (by decide : 2 + 0 ≤ _), (by decide : 5 + 0 ≤ _)⟩)
  dsimp only [Pt.U, Pt.locs, Pt.cells, Pt.slots] at X564 l564 y564 z564 st564 hQ564
  subst l564 y564 z564
  obtain ⟨rfl, N564q, KC564, E6, F6, G6⟩ := hQ564
  have N564 := Fr.app N560 N564q
  have K564 := K560.trans KC564 (allS (Or.inr sz_b559) all0)
  have f565 := (V2.keep KC564 (ninS (Ne.symm ne_b559_t2) nin0))
  have pre566 : ∀ t, Steps p.tables e below (T564.setTop (mkF m 25 #[.val (.int p1)] [(.ref b559)])) t → Steps p.tables e below (s₁.setTop (mkF m 0 #[.val (.int p1)] [])) t := by
    intro t kt
    refine st557 _ ?_
    refine XS.ifNo X557.here hx rfl (hb hby d26_3) rfl ((if0 _ _).trans (feq (hzc : ¬ (zc = (0 : Int32)))).1) ?_
    show Steps p.tables e below (T557.setTop (mkF m 6 #[.val (.int p1)] [])) _
    refine XS.iloadN X557.here hx rfl (hb hby d26_6) rfl ?_
    refine st558 _ ?_
    refine XS.ifNo X558.here hx rfl (hb hby d26_10) rfl ((if0 _ _).trans (feq (by decide : ¬ ((1 : Int32) = (0 : Int32)))).1) ?_
    show Steps p.tables e below (T558.setTop (mkF m 13 #[.val (.int p1)] [])) _
    refine st559 _ ?_
    show Steps p.tables e below (T559.setTop (mkF m 16 #[.val (.int p1)] [(.ref b559)])) _
    refine XS.dup X559.here hx rfl (hb hby d26_16) rfl rfl ?_
    refine XS.iloadN X559.here hx rfl (hb hby d26_17) rfl ?_
    refine st560 _ ?_
    show Steps p.tables e below (T560.setTop (mkF m 21 #[.val (.int p1)] [(.ref t2), (.ref b559), (.ref b559)])) _
    refine XS.iconst X560.here hx rfl (hb hby d26_21) ?_
    refine st564.trans ?_
    exact kt
  obtain ⟨fs, hr, hrun, hended, hW, hsame⟩ := X564.leave (v := some (.ref b559)) (fun h => by rw [Bd.returns] at h; cases h)
  refine ⟨_, _, (pre0 _ (pre566 _ ?_)), hrun, hended, _, _, rfl, ?_, ⟨_, rfl⟩, hW, hsame.mono (by decide) (by decide)⟩
  · show Steps p.tables e below (T564.setTop (mkF m 25 #[.val (.int p1)] [(.ref b559)])) _
    exact retOut X564 hx (t := (.object "java/lang/String")) Bd.returns rfl (Or.inr (Or.inr (Or.inr (Or.inr ⟨rfl, rfl, rfl⟩)))) (hb hby d26_25) hr
  · show QVoC Z p1 zc h0 n0 _ T564.heap _
    exact ⟨b559, rfl, N564, own_ext K564, sz_b559, t2, k2, ⟨E6, F6, G6, f565⟩, sz_t2⟩
theorem ef_CanN (m : MethodId) (x0 : Int32) : entryFrame m #[(.int x0)] 1 = mkF m 0 #[.val (.int x0)] [] := by (first | (simp [entryFrame, mkF, argsToLocals, Value.category]; done) | rfl)
def QCanN (Z : State) (p1 : Int32) (h0 : Heap) (n0 : Nat) (v : Option Value) (h : Heap) (L : List Loc) : Prop := v = some (.int (0 : Int32)) ∧ Fr n0 L ∧ h = h0
theorem d27_11 : decode jdk_43_method_3_code 11 = .ok (.iconst 0, 1) := by decide +kernel
set_option maxRecDepth 65536 in
set_option maxHeartbeats 40000000 in
theorem rmCanN (l : Launch) (Z : State) (a0 : Array Value) (hw : ∀ d ∈ tables_1, d.before a0 Z = true) (ws : List Jvm.Cond) (p1 : Int32) (h0 : Heap) (n0 : Nat) (Z0 : n0 ≤ h0.size) (hp : (255 : Int32) < p1) :
    MetFree l (⟨"java/lang/StringLatin1", "canEncode", "(C)Z"⟩ : MethodName) (head1 (Jvm.Cond.code (⟨"java/lang/StringLatin1", "canEncode", "(C)Z"⟩ : MethodName) jdk_43_method_3_code 1 (some .boolean) :: ws) ({ frames := 0, cells := 0, slots := 0, locals := 0 } : Room)) (fun a U => a = #[(.int p1)] ∧ Z.Warmed39 U.vm ∧ U.heap = h0) (fun _ _ _ _ _ => True) (fun _ U o U' => ∃ v L, o = .returned v ∧ QCanN Z p1 h0 n0 v U'.heap L ∧ FrameEnd U o U' L ({ frames := 0, cells := 0, slots := 0, locals := 0 } : Room).cells ({ frames := 0, cells := 0, slots := 0, locals := 0 } : Room).slots) := by
  refine MetFree.of_bodySF (plainFor_of_name pn_java_lang_StringLatin1) hisR ?_
  intro p e s m args below meth c s₁ Bd hml0 hP hK
  obtain ⟨rfl, hZ, hh⟩ := hP
  have hx := Bd.exec
  have hby := Bd.bytes
  have hml : c.maxLocals = 1 := hml0
  have hown : s.vm.findClass "java/lang/StringLatin1" = some m.cls := findClass_of_methodNamed Bd.named
  have hnm := (name_of_methodNamed Bd.named Bd.method).1
  have X0 : Stand p l e ({ frames := 0, cells := 0, slots := 0, locals := 0 } : Room) s m #[(.int p1)] below meth c s₁ [] 0 0 := Stand.of_body Bd
  have e0 : s₁.heap = h0 := by rw [← hh, Bd.state]; rfl
  have N0 := Fr.nil n0
  have pre0 : ∀ t, Steps p.tables e below (s₁.setTop (mkF m 0 #[.val (.int p1)] [])) t → Steps p.tables e below (s₁.setTop (entryFrame m #[(.int p1)] 1)) t := fun t k => castTop (ef_CanN m p1) k
  have pre567 : ∀ t, Steps p.tables e below (s₁.setTop (mkF m 12 #[.val (.int p1)] [(.int (0 : Int32))])) t → Steps p.tables e below (s₁.setTop (mkF m 0 #[.val (.int p1)] [])) t := by
    intro t kt
    show Steps p.tables e below (s₁.setTop (mkF m 0 #[.val (.int p1)] [])) _
    refine XS.iloadN X0.here hx rfl (hb hby d27_0) rfl ?_
    refine XS.sipush X0.here hx rfl (hb hby d27_1) ?_
    refine XS.icmpYes X0.here hx rfl (pc0 := 4) (pc' := 11) rfl (hb hby d27_4) rfl (tlt (hp : (255 : Int32) < p1)).2.2.1 (by decide) (by decide) ?_
    show Steps p.tables e below (s₁.setTop (mkF m 11 #[.val (.int p1)] [])) _
    refine XS.iconst X0.here hx rfl (hb hby d27_11) ?_
    exact kt
  obtain ⟨fs, hr, hrun, hended, hW, hsame⟩ := X0.leave (v := some (.int (0 : Int32))) (fun h => by rw [Bd.returns] at h; cases h)
  refine ⟨_, _, (pre0 _ (pre567 _ ?_)), hrun, hended, _, _, rfl, ?_, ⟨_, rfl⟩, hW, hsame.mono (by decide) (by decide)⟩
  · show Steps p.tables e below (s₁.setTop (mkF m 12 #[.val (.int p1)] [(.int (0 : Int32))])) _
    exact retN X0 hx (t := .boolean) Bd.returns (by simp) (hb hby d27_12) hr
  · show QCanN Z p1 h0 n0 _ s₁.heap _
    rw [e0]
    exact ⟨rfl, N0, rfl⟩
theorem ef_SBU (m : MethodId) (x0 : Addr) (x1 : Addr) (x2 : Int32) : entryFrame m #[(.ref x0), (.ref x1), (.int x2)] 3 = mkF m 0 #[.val (.ref x0), .val (.ref x1), .val (.int x2)] [] := by (first | (simp [entryFrame, mkF, argsToLocals, Value.category]; done) | rfl)
def QSBU (Z : State) (x1 : Addr) (t1 : Addr) (h0 : Heap) (n0 : Nat) (v : Option Value) (h : Heap) (L : List Loc) : Prop := v = none ∧ Fr n0 L ∧ Keep h0 h [x1] ∧ Exa Z h x1 "java/lang/String" ∧ Fld Z h x1 "java/lang/String" "value" "[B" (.ref t1) ∧ Fld Z h x1 "java/lang/String" "coder" "B" (.int (1 : Int32))
set_option maxRecDepth 65536 in
set_option maxHeartbeats 40000000 in
theorem rmSBU (l : Launch) (Z : State) (a0 : Array Value) (hw : ∀ d ∈ tables_1, d.before a0 Z = true) (ws : List Jvm.Cond) (x1 : Addr) (t1 : Addr) (h0 : Heap) (n0 : Nat) (Z0 : n0 ≤ h0.size) (XE : Exa Z h0 x1 "java/lang/String") (XV0 : Fld Z h0 x1 "java/lang/String" "value" "[B" .null) (XC0 : Fld Z h0 x1 "java/lang/String" "coder" "B" (.int (0 : Int32))) (g_x1 : n0 ≤ x1) :
    MetFree l (⟨"java/lang/String", "<init>", "([BB)V"⟩ : MethodName) (head1 (Jvm.Cond.code (⟨"java/lang/String", "<init>", "([BB)V"⟩ : MethodName) jdk_42_method_151_code 3 none :: ws) ({ frames := 1, cells := 0, slots := 0, locals := 12 } : Room)) (fun a U => a = #[(.ref x1), (.ref t1), (.int (1 : Int32))] ∧ Z.Warmed39 U.vm ∧ U.heap = h0) (fun _ _ _ _ _ => True) (fun _ U o U' => ∃ v L, o = .returned v ∧ QSBU Z x1 t1 h0 n0 v U'.heap L ∧ FrameEnd U o U' L ({ frames := 1, cells := 0, slots := 0, locals := 12 } : Room).cells ({ frames := 1, cells := 0, slots := 0, locals := 12 } : Room).slots) := by
  refine MetFree.of_bodySF (plainFor_of_name pn_java_lang_String) hisR ?_
  intro p e s m args below meth c s₁ Bd hml0 hP hK
  obtain ⟨rfl, hZ, hh⟩ := hP
  have hx := Bd.exec
  have hby := Bd.bytes
  have hml : c.maxLocals = 3 := hml0
  have hown : s.vm.findClass "java/lang/String" = some m.cls := findClass_of_methodNamed Bd.named
  have hnm := (name_of_methodNamed Bd.named Bd.method).1
  have X0 : Stand p l e ({ frames := 1, cells := 0, slots := 0, locals := 12 } : Room) s m #[(.ref x1), (.ref t1), (.int (1 : Int32))] below meth c s₁ [] 0 0 := Stand.of_body Bd
  have e0 : s₁.heap = h0 := by rw [← hh, Bd.state]; rfl
  have N0 := Fr.nil n0
  have pre0 : ∀ t, Steps p.tables e below (s₁.setTop (mkF m 0 #[.val (.ref x1), .val (.ref t1), .val (.int (1 : Int32))] [])) t → Steps p.tables e below (s₁.setTop (entryFrame m #[(.ref x1), (.ref t1), (.int (1 : Int32))] 3)) t := fun t k => castTop (ef_SBU m x1 t1 (1 : Int32)) k
  have mem_x1 : x1 ∈ [x1] := List.mem_of_getElem? (i := 0) rfl
  obtain ⟨T568, X568, e568, st568⟩ := initO X0 hx hZ hown (tw hw 17 rfl) (tw hw 18 rfl) (tw hw 19 rfl) e0 (g := (mkF m 1 #[.val (.ref x1), .val (.ref t1), .val (.int (1 : Int32))] [(.ref x1)])) rfl (by rw [hml]; rfl) rfl (hb hby d29_1) (by decide) (W := 0) (by show 2 * 0 + _ ≤ _; exact Nat.le_of_eq rfl) (by decide)
  obtain ⟨T569, h569, X569, e569, W569, st569⟩ := putF X568 hx hZ hown (host := "") (Or.inl (tw hw 26 rfl)) Via.refl e568 XV0 XE (Or.inr ⟨(tw hw 22 rfl), rfl, hnm⟩) (tw hw 7 rfl) (ty := (.array .byte)) (by decide) rfl rfl (g := (mkF m 6 #[.val (.ref x1), .val (.ref t1), .val (.int (1 : Int32))] [(.ref t1), (.ref x1)])) rfl rfl (hb hby d29_6)
  have N569 := Fr.snoc X569 N0 g_x1
  have K569 := (Keep.refl h0 [x1]).wr W569 (Or.inl mem_x1)
  have Fw569 := XV0.same W569
  have f570 := (XC0.other W569 (Or.inr (slot_ne (Or.inr (tw hw 23 rfl)) (Or.inr (tw hw 22 rfl)) (by decide) (t := .byte) (t' := (.array .byte)) (by decide) (by decide))))
  have f571 := (XE.wr W569)
  obtain ⟨T572, h572, X572, e572, W572, st572⟩ := putFN X569 hx hZ hown (tw hw 27 rfl) Via.refl e569 f570 f571 (Or.inr ⟨(tw hw 23 rfl), rfl, hnm⟩) (tw hw 7 rfl) (ty := .byte) (v' := (.int (1 : Int32))) (by decide) rfl rfl (g := (mkF m 11 #[.val (.ref x1), .val (.ref t1), .val (.int (1 : Int32))] [(.int (1 : Int32)), (.ref x1)])) rfl rfl (hb hby d29_11)
  have N572 := Fr.snoc X572 N569 g_x1
  have K572 := K569.wr W572 (Or.inl mem_x1)
  have Fw572 := f570.same W572
  have f573 := (f571.wr W572)
  have f574 := (Fw569.other W572 (Or.inr (slot_ne (Or.inr (tw hw 22 rfl)) (Or.inr (tw hw 23 rfl)) (by decide) (t := (.array .byte)) (t' := .byte) (by decide) (by decide))))
  have pre575 : ∀ t, Steps p.tables e below (T572.setTop (mkF m 14 #[.val (.ref x1), .val (.ref t1), .val (.int (1 : Int32))] [])) t → Steps p.tables e below (s₁.setTop (mkF m 0 #[.val (.ref x1), .val (.ref t1), .val (.int (1 : Int32))] [])) t := by
    intro t kt
    show Steps p.tables e below (s₁.setTop (mkF m 0 #[.val (.ref x1), .val (.ref t1), .val (.int (1 : Int32))] [])) _
    refine XS.aloadN X0.here hx rfl (hb hby d29_0) rfl rfl ?_
    show Steps p.tables e below (s₁.setTop (mkF m 1 #[.val (.ref x1), .val (.ref t1), .val (.int (1 : Int32))] [(.ref x1)])) _
    refine st568 _ ?_
    show Steps p.tables e below (T568.setTop (mkF m 4 #[.val (.ref x1), .val (.ref t1), .val (.int (1 : Int32))] [])) _
    refine XS.aloadN X568.here hx rfl (hb hby d29_4) rfl rfl ?_
    refine XS.aloadN X568.here hx rfl (hb hby d29_5) rfl rfl ?_
    refine st569 _ ?_
    show Steps p.tables e below (T569.setTop (mkF m 9 #[.val (.ref x1), .val (.ref t1), .val (.int (1 : Int32))] [])) _
    refine XS.aloadN X569.here hx rfl (hb hby d29_9) rfl rfl ?_
    refine XS.iloadN X569.here hx rfl (hb hby d29_10) rfl ?_
    refine st572 _ ?_
    exact kt
  obtain ⟨fs, hr, hrun, hended, hW, hsame⟩ := X572.leave (v := none) (fun _ => rfl)
  refine ⟨_, _, (pre0 _ (pre575 _ ?_)), hrun, hended, _, _, rfl, ?_, ⟨_, rfl⟩, hW, hsame.mono (by decide) (by decide)⟩
  · show Steps p.tables e below (T572.setTop (mkF m 14 #[.val (.ref x1), .val (.ref t1), .val (.int (1 : Int32))] [])) _
    exact X572.returnOut hx Bd.returns (hb hby d29_14) hr
  · show QSBU Z x1 t1 h0 n0 _ T572.heap _
    rw [e572]
    exact ⟨rfl, N572, K572, f573, f574, Fw572⟩
theorem ef_TBC (m : MethodId) (x0 : Int32) : entryFrame m #[(.int x0)] 2 = mkF m 0 #[.val (.int x0), .unset] [] := by (first | (simp [entryFrame, mkF, argsToLocals, Value.category]; done) | rfl)
def QTBC (Z : State) (c0 : Int32) (zc : Int32) (h0 : Heap) (n0 : Nat) (v : Option Value) (h : Heap) (L : List Loc) : Prop := ∃ x2, v = some (.ref x2) ∧ Fr n0 L ∧ Ext h0 h ∧ h0.size ≤ x2 ∧ ∃ (k2 : ClassId), Arv Z h x2 k2 .byte (Int32.ofNat (2 * 1)) ([c0].flatMap own_U) (.int (0 : Int32))
theorem d28_0 : decode jdk_52_method_24_code 0 = .ok (.iconst 2, 1) := by decide +kernel
theorem d28_1 : decode jdk_52_method_24_code 1 = .ok (.newarray .byte, 2) := by decide +kernel
theorem d28_3 : decode jdk_52_method_24_code 3 = .ok (.astore_n 1, 1) := by decide +kernel
theorem d28_4 : decode jdk_52_method_24_code 4 = .ok (.aload_n 1, 1) := by decide +kernel
theorem d28_5 : decode jdk_52_method_24_code 5 = .ok (.iconst 0, 1) := by decide +kernel
theorem d28_6 : decode jdk_52_method_24_code 6 = .ok (.iload_n 0, 1) := by decide +kernel
theorem d28_7 : decode jdk_52_method_24_code 7 = .ok (.invokestatic 111, 3) := by decide +kernel
theorem d28_10 : decode jdk_52_method_24_code 10 = .ok (.aload_n 1, 1) := by decide +kernel
theorem d28_11 : decode jdk_52_method_24_code 11 = .ok (.areturn, 1) := by decide +kernel
set_option maxRecDepth 65536 in
set_option maxHeartbeats 40000000 in
theorem rmTBC (l : Launch) (Z : State) (a0 : Array Value) (hw : ∀ d ∈ tables_1, d.before a0 Z = true) (ws : List Jvm.Cond) (c0 : Int32) (zc : Int32) (h0 : Heap) (n0 : Nat) (Z0 : n0 ≤ h0.size) (OZ : Old Z n0 h0) (SC : Sta Z Z.heap "java/lang/String" "COMPACT_STRINGS" "Z" (.int zc)) (hzc : ¬ zc = (0 : Int32)) (SA : Sta Z Z.heap "java/lang/StringUTF16" "$assertionsDisabled" "Z" (.int (1 : Int32))) (SH : Sta Z Z.heap "java/lang/StringUTF16" "HI_BYTE_SHIFT" "I" (.int (0 : Int32))) (SL : Sta Z Z.heap "java/lang/StringUTF16" "LO_BYTE_SHIFT" "I" (.int (8 : Int32))) :
    MetFree l (⟨"java/lang/StringUTF16", "toBytes", "(C)[B"⟩ : MethodName) (head1 (Jvm.Cond.code (⟨"java/lang/StringUTF16", "toBytes", "(C)[B"⟩ : MethodName) jdk_52_method_24_code 2 (some (.array .byte)) :: ws) ({ frames := 1, cells := 1, slots := 2, locals := 14 } : Room)) (fun a U => a = #[(.int c0)] ∧ Z.Warmed39 U.vm ∧ U.heap = h0) (fun _ _ _ _ _ => True) (fun _ U o U' => ∃ v L, o = .returned v ∧ QTBC Z c0 zc h0 n0 v U'.heap L ∧ FrameEnd U o U' L ({ frames := 1, cells := 1, slots := 2, locals := 14 } : Room).cells ({ frames := 1, cells := 1, slots := 2, locals := 14 } : Room).slots) := by
  refine MetFree.of_bodySF (plainFor_of_name pn_java_lang_StringUTF16) hisR ?_
  intro p e s m args below meth c s₁ Bd hml0 hP hK
  obtain ⟨rfl, hZ, hh⟩ := hP
  have hx := Bd.exec
  have hby := Bd.bytes
  have hml : c.maxLocals = 2 := hml0
  have hown : s.vm.findClass "java/lang/StringUTF16" = some m.cls := findClass_of_methodNamed Bd.named
  have hnm := (name_of_methodNamed Bd.named Bd.method).1
  have X0 : Stand p l e ({ frames := 1, cells := 1, slots := 2, locals := 14 } : Room) s m #[(.int c0)] below meth c s₁ [] 0 0 := Stand.of_body Bd
  have e0 : s₁.heap = h0 := by rw [← hh, Bd.state]; rfl
  have N0 := Fr.nil n0
  have pre0 : ∀ t, Steps p.tables e below (s₁.setTop (mkF m 0 #[.val (.int c0), .unset] [])) t → Steps p.tables e below (s₁.setTop (entryFrame m #[(.int c0)] 2)) t := fun t k => castTop (ef_TBC m c0) k
  obtain ⟨T576, h576, k576, X576, e576, E576, A576, st576⟩ := newP X0 hx hZ (tw hw 21 rfl) e0 (g := (mkF m 1 #[.val (.int c0), .unset] [(.int (2 : Int32))])) rfl (hb hby d28_1) rfl (by decide) (cap := 2) (by decide) (by decide) (by decide) (by decide)
  obtain ⟨b576, g576⟩ : ∃ z, z = h0.size := ⟨_, rfl⟩
  rw [← g576] at A576 st576
  have g_b576 : n0 ≤ b576 := Nat.le_trans Z0 (Nat.le_of_eq g576.symm)
  have sz_b576 : h0.size ≤ b576 := Nat.le_trans (Keep.refl h0 []).1 (Nat.le_of_eq g576.symm)
  have Z576 := Nat.le_trans Z0 E576.1
  have K576 := (Keep.refl h0 []).ext E576
  have V576 : Arv Z h576 b576 k576 .byte (2 : Int32) [(.int (0 : Int32)), (.int (0 : Int32))] (.int (0 : Int32)) := (Arv.new A576 (by decide)).pad (pad_rep [] (.int (0 : Int32)) 2)
  have f577 := (OZ.ext E576)
  obtain ⟨_, _, ⟨T578, L578, k578, n578⟩, -, X578, ⟨Lc578, hQ578, l578, y578, z578⟩, st578⟩ := Jvm.LawKit.callS X576 hx (y := (⟨"java/lang/StringUTF16", "putChar", "([BII)V"⟩ : MethodName)) hown (mvT hZ (tw hw 91 rfl)) (mvT hZ (tw hw 92 rfl)) (mvT hZ (tw hw 45 rfl)) (mvT hZ (tw hw 93 rfl)) (by decide) (backOf (W := 0) (rmPutC l Z a0 hw [] b576 k576 1 [(.int (0 : Int32)), (.int (0 : Int32))] 0 c0 h576 n0 Z576 (SA.ext f577.2) (SH.ext f577.2) (SL.ext f577.2) V576 (by decide) (by decide) rfl g_b576) hZ (tw hw 93 rfl) (tw hw 45 rfl) (by decide) (by decide)) (g := (mkF m 7 #[.val (.int c0), .val (.ref b576)] [(.int c0), (.int (0 : Int32)), (.ref b576)])) rfl (by rw [hml]; rfl) (argsL := [(.ref b576), (.int (0 : Int32)), (.int c0)]) (rest := []) (lenOf pd___BII_V rfl) rfl (by show 2 * 0 + _ ≤ _; exact Nat.le_of_eq rfl) (hb hby d28_7) (fun _ _ => ⟨rfl, e576, (by decide : 1 + 0 ≤ _), (by decide : 2 + 0 ≤ _)⟩)
  dsimp only [Pt.U, Pt.locs, Pt.cells, Pt.slots] at X578 l578 y578 z578 st578 hQ578
  subst l578 y578 z578
  obtain ⟨rfl, N578q, KC578, PV⟩ := hQ578
  have N578 := Fr.app N0 N578q
  have K578 := K576.trans KC578 (allS (Or.inr sz_b576) all0)
  have VU : Arv Z T578.heap b576 k576 .byte (Int32.ofNat (2 * 1)) ([c0].flatMap own_U) (.int (0 : Int32)) := PV
  have pre579 : ∀ t, Steps p.tables e below (T578.setTop (mkF m 11 #[.val (.int c0), .val (.ref b576)] [(.ref b576)])) t → Steps p.tables e below (s₁.setTop (mkF m 0 #[.val (.int c0), .unset] [])) t := by
    intro t kt
    show Steps p.tables e below (s₁.setTop (mkF m 0 #[.val (.int c0), .unset] [])) _
    refine XS.iconst X0.here hx rfl (hb hby d28_0) ?_
    show Steps p.tables e below (s₁.setTop (mkF m 1 #[.val (.int c0), .unset] [(.int (2 : Int32))])) _
    refine st576 _ ?_
    show Steps p.tables e below (T576.setTop (mkF m 3 #[.val (.int c0), .unset] [(.ref b576)])) _
    refine XS.astoreN X576.here hx rfl (hb hby d28_3) rfl rfl (l' := #[.val (.int c0), .val (.ref b576)]) rfl ?_
    refine XS.aloadN X576.here hx rfl (hb hby d28_4) rfl rfl ?_
    refine XS.iconst X576.here hx rfl (hb hby d28_5) ?_
    refine XS.iloadN X576.here hx rfl (hb hby d28_6) rfl ?_
    refine st578 _ ?_
    show Steps p.tables e below (T578.setTop (mkF m 10 #[.val (.int c0), .val (.ref b576)] [])) _
    refine XS.aloadN X578.here hx rfl (hb hby d28_10) rfl rfl ?_
    exact kt
  obtain ⟨fs, hr, hrun, hended, hW, hsame⟩ := X578.leave (v := some (.ref b576)) (fun h => by rw [Bd.returns] at h; cases h)
  refine ⟨_, _, (pre0 _ (pre579 _ ?_)), hrun, hended, _, _, rfl, ?_, ⟨_, rfl⟩, hW, hsame.mono (by decide) (by decide)⟩
  · show Steps p.tables e below (T578.setTop (mkF m 11 #[.val (.int c0), .val (.ref b576)] [(.ref b576)])) _
    exact retOut X578 hx (t := (.array .byte)) Bd.returns rfl (Or.inr (Or.inr (Or.inr (Or.inr ⟨rfl, rfl, rfl⟩)))) (hb hby d28_11) hr
  · show QTBC Z c0 zc h0 n0 _ T578.heap _
    exact ⟨b576, rfl, N578, own_ext K578, sz_b576, k576, VU⟩
theorem ef_VoU (m : MethodId) (x0 : Int32) : entryFrame m #[(.int x0)] 1 = mkF m 0 #[.val (.int x0)] [] := by (first | (simp [entryFrame, mkF, argsToLocals, Value.category]; done) | rfl)
def QVoU (Z : State) (c0 : Int32) (zc : Int32) (h0 : Heap) (n0 : Nat) (v : Option Value) (h : Heap) (L : List Loc) : Prop := ∃ x2, v = some (.ref x2) ∧ Fr n0 L ∧ Ext h0 h ∧ Exa Z h x2 "java/lang/String" ∧ own_str Z h x2 [c0]
theorem d26_26 : decode jdk_42_method_139_code 26 = .ok (.new 10, 3) := by decide +kernel
theorem d26_29 : decode jdk_42_method_139_code 29 = .ok (.dup, 1) := by decide +kernel
theorem d26_30 : decode jdk_42_method_139_code 30 = .ok (.iload_n 0, 1) := by decide +kernel
theorem d26_31 : decode jdk_42_method_139_code 31 = .ok (.invokestatic 1021, 3) := by decide +kernel
theorem d26_34 : decode jdk_42_method_139_code 34 = .ok (.iconst 1, 1) := by decide +kernel
theorem d26_35 : decode jdk_42_method_139_code 35 = .ok (.invokespecial 209, 3) := by decide +kernel
theorem d26_38 : decode jdk_42_method_139_code 38 = .ok (.areturn, 1) := by decide +kernel
set_option maxRecDepth 65536 in
set_option maxHeartbeats 40000000 in
theorem rmVoU (l : Launch) (Z : State) (a0 : Array Value) (hw : ∀ d ∈ tables_1, d.before a0 Z = true) (ws : List Jvm.Cond) (c0 : Int32) (zc : Int32) (h0 : Heap) (n0 : Nat) (Z0 : n0 ≤ h0.size) (hp : (255 : Int32) < c0) (OZ : Old Z n0 h0) (SC : Sta Z Z.heap "java/lang/String" "COMPACT_STRINGS" "Z" (.int zc)) (hzc : ¬ zc = (0 : Int32)) (SA : Sta Z Z.heap "java/lang/StringUTF16" "$assertionsDisabled" "Z" (.int (1 : Int32))) (SH : Sta Z Z.heap "java/lang/StringUTF16" "HI_BYTE_SHIFT" "I" (.int (0 : Int32))) (SL : Sta Z Z.heap "java/lang/StringUTF16" "LO_BYTE_SHIFT" "I" (.int (8 : Int32))) :
    MetFree l (⟨"java/lang/String", "valueOf", "(C)Ljava/lang/String;"⟩ : MethodName) (head1 (Jvm.Cond.code (⟨"java/lang/String", "valueOf", "(C)Ljava/lang/String;"⟩ : MethodName) jdk_42_method_139_code 1 (some (.object "java/lang/String")) :: ws) ({ frames := 2, cells := 2, slots := 6, locals := 30 } : Room)) (fun a U => a = #[(.int c0)] ∧ Z.Warmed39 U.vm ∧ U.heap = h0) (fun _ _ _ _ _ => True) (fun _ U o U' => ∃ v L, o = .returned v ∧ QVoU Z c0 zc h0 n0 v U'.heap L ∧ FrameEnd U o U' L ({ frames := 2, cells := 2, slots := 6, locals := 30 } : Room).cells ({ frames := 2, cells := 2, slots := 6, locals := 30 } : Room).slots) := by
  refine MetFree.of_bodySF (plainFor_of_name pn_java_lang_String) hisR ?_
  intro p e s m args below meth c s₁ Bd hml0 hP hK
  obtain ⟨rfl, hZ, hh⟩ := hP
  have hx := Bd.exec
  have hby := Bd.bytes
  have hml : c.maxLocals = 1 := hml0
  have hown : s.vm.findClass "java/lang/String" = some m.cls := findClass_of_methodNamed Bd.named
  have hnm := (name_of_methodNamed Bd.named Bd.method).1
  have X0 : Stand p l e ({ frames := 2, cells := 2, slots := 6, locals := 30 } : Room) s m #[(.int c0)] below meth c s₁ [] 0 0 := Stand.of_body Bd
  have e0 : s₁.heap = h0 := by rw [← hh, Bd.state]; rfl
  have N0 := Fr.nil n0
  have pre0 : ∀ t, Steps p.tables e below (s₁.setTop (mkF m 0 #[.val (.int c0)] [])) t → Steps p.tables e below (s₁.setTop (entryFrame m #[(.int c0)] 1)) t := fun t k => castTop (ef_VoU m c0) k
  obtain ⟨T580, X580, e580, st580⟩ := getS2 X0 hx hZ hown (host := "") (Or.inl (tw hw 42 rfl)) Via.refl e0 (SC.ext OZ.2) (g := (mkF m 0 #[.val (.int c0)] [])) rfl (hb hby d26_0)
  obtain ⟨_, _, ⟨T581, L581, k581, n581⟩, -, X581, ⟨Lc581, hQ581, l581, y581, z581⟩, st581⟩ := Jvm.LawKit.callS X580 hx (y := (⟨"java/lang/StringLatin1", "canEncode", "(C)Z"⟩ : MethodName)) hown (mvT hZ (tw hw 113 rfl)) (mvT hZ (tw hw 114 rfl)) (mvT hZ (tw hw 68 rfl)) (mvT hZ (tw hw 115 rfl)) (by decide) (backOf (W := 0) (rmCanN l Z a0 hw [] c0 h0 n0 Z0 hp) hZ (tw hw 115 rfl) (tw hw 68 rfl) (by decide) (by decide)) (g := (mkF m 7 #[.val (.int c0)] [(.int c0)])) rfl (by rw [hml]; rfl) (argsL := [(.int c0)]) (rest := []) (lenOf pd__C_Z rfl) rfl (by show 2 * 0 + _ ≤ _; exact Nat.le_of_eq rfl) (hb hby d26_7) (fun _ _ => ⟨rfl, e580, (by decide : 0 + 0 ≤ _), (by decide : 0 + 0 ≤ _)⟩)
  dsimp only [Pt.U, Pt.locs, Pt.cells, Pt.slots] at X581 l581 y581 z581 st581 hQ581
  subst l581 y581 z581
  obtain ⟨rfl, N581q, EQ581⟩ := hQ581
  have N581 := Fr.app N0 N581q
  have Z581 : n0 ≤ T581.heap.size := by rw [EQ581]; exact Z0
  have K581 := own_keq EQ581 (Keep.refl h0 [])
  obtain ⟨T582, h582, X582, e582, E582, A582, D582, -, st582⟩ := newO X581 hx hZ hown (tw hw 116 rfl) (tw hw 7 rfl) (tw hw 8 rfl) rfl (g := (mkF m 26 #[.val (.int c0)] [])) rfl (hb hby d26_26) (by decide) (by decide)
  obtain ⟨b582, g582⟩ : ∃ z, z = T581.heap.size := ⟨_, rfl⟩
  rw [← g582] at A582 D582 st582
  have g_b582 : n0 ≤ b582 := Nat.le_trans Z581 (Nat.le_of_eq g582.symm)
  have sz_b582 : h0.size ≤ b582 := Nat.le_trans K581.1 (Nat.le_of_eq g582.symm)
  have Z582 := Nat.le_trans Z581 E582.1
  have K582 := K581.ext E582
  have F582_value : Fld Z h582 b582 "java/lang/String" "value" "[B" .null := D582 (Or.inr (tw hw 22 rfl)) (ty := (.array .byte)) (by decide)
  have F582_coder : Fld Z h582 b582 "java/lang/String" "coder" "B" (.int (0 : Int32)) := D582 (Or.inr (tw hw 23 rfl)) (ty := .byte) (by decide)
  have f583 := ((EQ581 ▸ OZ).ext E582)
  obtain ⟨_, _, ⟨T584, L584, k584, n584⟩, -, X584, ⟨Lc584, hQ584, l584, y584, z584⟩, st584⟩ := Jvm.LawKit.callS X582 hx (y := (⟨"java/lang/StringUTF16", "toBytes", "(C)[B"⟩ : MethodName)) hown (mvT hZ (tw hw 117 rfl)) (mvT hZ (tw hw 118 rfl)) (mvT hZ (tw hw 45 rfl)) (mvT hZ (tw hw 119 rfl)) (by decide) (backOf (W := 2) (rmTBC l Z a0 hw [] c0 zc h582 n0 Z582 f583 SC hzc SA SH SL) hZ (tw hw 119 rfl) (tw hw 45 rfl) (by decide) (by decide)) (g := (mkF m 31 #[.val (.int c0)] [(.int c0), (.ref b582), (.ref b582)])) rfl (by rw [hml]; rfl) (argsL := [(.int c0)]) (rest := [(.ref b582), (.ref b582)]) (lenOf pd__C__B rfl) rfl (by show 2 * 0 + _ ≤ _; exact Nat.le_of_eq rfl) (hb hby d26_31) (fun _ _ => ⟨rfl, e582, (by decide : 1 + 1 ≤ _), (by decide : 4 + 2 ≤ _)⟩)
  dsimp only [Pt.U, Pt.locs, Pt.cells, Pt.slots] at X584 l584 y584 z584 st584 hQ584
  subst l584 y584 z584
  obtain ⟨t2, rfl, N584q, EX584, le2, k2, V2⟩ := hQ584
  have N584 := Fr.app N581 N584q
  have ne_b582_t2 : b582 ≠ t2 := Nat.ne_of_lt (Nat.lt_of_lt_of_le A582.lt le2)
  have Z584 := Nat.le_trans Z582 EX584.1
  have K584 := K582.ext EX584
  have f585 := (A582.ext EX584)
  have f586 := (F582_value.ext EX584)
  have f587 := (F582_coder.ext EX584)
  obtain ⟨_, _, ⟨T588, L588, k588, n588⟩, -, X588, ⟨Lc588, hQ588, l588, y588, z588⟩, st588⟩ := X584.specialBack hx (y := (⟨"java/lang/String", "<init>", "([BB)V"⟩ : MethodName)) rfl hown (mvT hZ (tw hw 120 rfl)) (mvT hZ (tw hw 121 rfl)) (mvT hZ (tw hw 122 rfl)) (by decide) (backOf (W := 1) (rmSBU l Z a0 hw [] b582 t2 T584.heap n0 Z584 f585 f586 f587 g_b582) hZ (tw hw 122 rfl) (tw hw 8 rfl) (by decide) (by decide)) (g := (mkF m 35 #[.val (.int c0)] [(.int (1 : Int32)), (.ref t2), (.ref b582), (.ref b582)])) rfl (by rw [hml]; rfl) (Steps.refl _) (a := b582) (argsL := [(.ref t2), (.int (1 : Int32))]) (rest := [(.ref b582)]) (lenOf pd___BB_V rfl) rfl (by show 2 * 0 + _ ≤ _; exact Nat.le_of_eq rfl) (hb hby d26_35) (fun _ _ => ⟨rfl, rfl, (by decide : 2 + 0 ≤ _), (by decide : 6 + 0 ≤ _)⟩)
  dsimp only [Pt.U, Pt.locs, Pt.cells, Pt.slots] at X588 l588 y588 z588 st588 hQ588
  subst l588 y588 z588
  obtain ⟨rfl, N588q, KC588, E6, F6, G6⟩ := hQ588
  have N588 := Fr.app N584 N588q
  have K588 := K584.trans KC588 (allS (Or.inr sz_b582) all0)
  have f589 := (V2.keep KC588 (ninS (Ne.symm ne_b582_t2) nin0))
  have pre590 : ∀ t, Steps p.tables e below (T588.setTop (mkF m 38 #[.val (.int c0)] [(.ref b582)])) t → Steps p.tables e below (s₁.setTop (mkF m 0 #[.val (.int c0)] [])) t := by
    intro t kt
    refine st580 _ ?_
    refine XS.ifNo X580.here hx rfl (hb hby d26_3) rfl ((if0 _ _).trans (feq (hzc : ¬ (zc = (0 : Int32)))).1) ?_
    show Steps p.tables e below (T580.setTop (mkF m 6 #[.val (.int c0)] [])) _
    refine XS.iloadN X580.here hx rfl (hb hby d26_6) rfl ?_
    refine st581 _ ?_
    refine XS.ifYes X581.here hx rfl (pc0 := 10) (pc' := 26) rfl (hb hby d26_10) rfl ((if0 _ _).trans (teq (rfl : (0 : Int32) = (0 : Int32))).1) (by decide) (by decide) ?_
    show Steps p.tables e below (T581.setTop (mkF m 26 #[.val (.int c0)] [])) _
    refine st582 _ ?_
    show Steps p.tables e below (T582.setTop (mkF m 29 #[.val (.int c0)] [(.ref b582)])) _
    refine XS.dup X582.here hx rfl (hb hby d26_29) rfl rfl ?_
    refine XS.iloadN X582.here hx rfl (hb hby d26_30) rfl ?_
    refine st584 _ ?_
    show Steps p.tables e below (T584.setTop (mkF m 34 #[.val (.int c0)] [(.ref t2), (.ref b582), (.ref b582)])) _
    refine XS.iconst X584.here hx rfl (hb hby d26_34) ?_
    refine st588.trans ?_
    exact kt
  obtain ⟨fs, hr, hrun, hended, hW, hsame⟩ := X588.leave (v := some (.ref b582)) (fun h => by rw [Bd.returns] at h; cases h)
  refine ⟨_, _, (pre0 _ (pre590 _ ?_)), hrun, hended, _, _, rfl, ?_, ⟨_, rfl⟩, hW, hsame.mono (by decide) (by decide)⟩
  · show Steps p.tables e below (T588.setTop (mkF m 38 #[.val (.int c0)] [(.ref b582)])) _
    exact retOut X588 hx (t := (.object "java/lang/String")) Bd.returns rfl (Or.inr (Or.inr (Or.inr (Or.inr ⟨rfl, rfl, rfl⟩)))) (hb hby d26_38) hr
  · show QVoU Z c0 zc h0 n0 _ T588.heap _
    exact ⟨b582, rfl, N588, own_ext K588, E6, t2, k2, E6, F6, Or.inr ⟨G6, f589⟩⟩
theorem ef_Mk1 (m : MethodId) (x0 : Int32) (x1 : Int32) (x2 : Int32) (x3 : Int32) (x4 : Int32) (x5 : Int32) : entryFrame m #[(.int x0), (.int x1), (.int x2), (.int x3), (.int x4), (.int x5)] 6 = mkF m 0 #[.val (.int x0), .val (.int x1), .val (.int x2), .val (.int x3), .val (.int x4), .val (.int x5)] [] := by (first | (simp [entryFrame, mkF, argsToLocals, Value.category]; done) | rfl)
def QMk1 (Z : State) (c0 : Int32) (c1 : Int32) (c2 : Int32) (c3 : Int32) (c4 : Int32) (zc : Int32) (h0 : Heap) (n0 : Nat) (v : Option Value) (h : Heap) (L : List Loc) : Prop := ∃ x2, v = some (.ref x2) ∧ Fr n0 L ∧ Ext h0 h ∧ Exa Z h x2 "java/lang/String" ∧ own_str Z h x2 [c0]
theorem d1_20 : decode method_4_code 20 = .ok (.iload_n 1, 1) := by decide +kernel
theorem d1_21 : decode method_4_code 21 = .ok (.invokestatic 30, 3) := by decide +kernel
theorem pd__C_Ljava_lang_String_ : parseMethodDescriptor "(C)Ljava/lang/String;" = some ⟨[.char], some (.object "java/lang/String")⟩ := by decide +kernel
theorem d1_24 : decode method_4_code 24 = .ok (.areturn, 1) := by decide +kernel
set_option maxRecDepth 65536 in
set_option maxHeartbeats 40000000 in
theorem rmMk1 (l : Launch) (Z : State) (a0 : Array Value) (hw : ∀ d ∈ tables_1, d.before a0 Z = true) (ws : List Jvm.Cond) (c0 : Int32) (c1 : Int32) (c2 : Int32) (c3 : Int32) (c4 : Int32) (zc : Int32) (h0 : Heap) (n0 : Nat) (Z0 : n0 ≤ h0.size) (OZ : Old Z n0 h0) (SC : Sta Z Z.heap "java/lang/String" "COMPACT_STRINGS" "Z" (.int zc)) (hzc : ¬ zc = (0 : Int32)) (SA : Sta Z Z.heap "java/lang/StringUTF16" "$assertionsDisabled" "Z" (.int (1 : Int32))) (SH : Sta Z Z.heap "java/lang/StringUTF16" "HI_BYTE_SHIFT" "I" (.int (0 : Int32))) (SL : Sta Z Z.heap "java/lang/StringUTF16" "LO_BYTE_SHIFT" "I" (.int (8 : Int32))) :
    MetFree l (⟨"com/example/corvid/corvid/classfile/ConstantPoolModifiedUtf8LengthPinLaw", "make", "(ICCCCC)Ljava/lang/String;"⟩ : MethodName) (head1 (Jvm.Cond.code (⟨"com/example/corvid/corvid/classfile/ConstantPoolModifiedUtf8LengthPinLaw", "make", "(ICCCCC)Ljava/lang/String;"⟩ : MethodName) method_4_code 6 (some (.object "java/lang/String")) :: ws) ({ frames := 3, cells := 2, slots := 6, locals := 45 } : Room)) (fun a U => a = #[(.int (1 : Int32)), (.int c0), (.int c1), (.int c2), (.int c3), (.int c4)] ∧ Z.Warmed39 U.vm ∧ U.heap = h0) (fun _ _ _ _ _ => True) (fun _ U o U' => ∃ v L, o = .returned v ∧ QMk1 Z c0 c1 c2 c3 c4 zc h0 n0 v U'.heap L ∧ FrameEnd U o U' L ({ frames := 3, cells := 2, slots := 6, locals := 45 } : Room).cells ({ frames := 3, cells := 2, slots := 6, locals := 45 } : Room).slots) := by
  refine MetFree.of_bodySF (plainFor_of_name pn_com_example_corvid_corvid_classfile_ConstantPoolModifiedUtf8LengthPinLaw) hisR ?_
  intro p e s m args below meth c s₁ Bd hml0 hP hK
  obtain ⟨rfl, hZ, hh⟩ := hP
  have hx := Bd.exec
  have hby := Bd.bytes
  have hml : c.maxLocals = 6 := hml0
  have hown : s.vm.findClass "com/example/corvid/corvid/classfile/ConstantPoolModifiedUtf8LengthPinLaw" = some m.cls := findClass_of_methodNamed Bd.named
  have hnm := (name_of_methodNamed Bd.named Bd.method).1
  have X0 : Stand p l e ({ frames := 3, cells := 2, slots := 6, locals := 45 } : Room) s m #[(.int (1 : Int32)), (.int c0), (.int c1), (.int c2), (.int c3), (.int c4)] below meth c s₁ [] 0 0 := Stand.of_body Bd
  have e0 : s₁.heap = h0 := by rw [← hh, Bd.state]; rfl
  have N0 := Fr.nil n0
  have pre0 : ∀ t, Steps p.tables e below (s₁.setTop (mkF m 0 #[.val (.int (1 : Int32)), .val (.int c0), .val (.int c1), .val (.int c2), .val (.int c3), .val (.int c4)] [])) t → Steps p.tables e below (s₁.setTop (entryFrame m #[(.int (1 : Int32)), (.int c0), (.int c1), (.int c2), (.int c3), (.int c4)] 6)) t := fun t k => castTop (ef_Mk1 m (1 : Int32) c0 c1 c2 c3 c4) k
  have pre591 : ∀ t, Steps p.tables e below (s₁.setTop (mkF m 21 #[.val (.int (1 : Int32)), .val (.int c0), .val (.int c1), .val (.int c2), .val (.int c3), .val (.int c4)] [(.int c0)])) t → Steps p.tables e below (s₁.setTop (mkF m 0 #[.val (.int (1 : Int32)), .val (.int c0), .val (.int c1), .val (.int c2), .val (.int c3), .val (.int c4)] [])) t := by
    intro t kt
    show Steps p.tables e below (s₁.setTop (mkF m 0 #[.val (.int (1 : Int32)), .val (.int c0), .val (.int c1), .val (.int c2), .val (.int c3), .val (.int c4)] [])) _
    refine XS.iloadN X0.here hx rfl (hb hby d1_0) rfl ?_
    refine XS.ifYes X0.here hx rfl (pc0 := 1) (pc' := 15) rfl (hb hby d1_1) rfl ((if0 _ _).trans (feq (by decide : ¬ ((1 : Int32) = (0 : Int32)))).2) (by decide) (by decide) ?_
    show Steps p.tables e below (s₁.setTop (mkF m 15 #[.val (.int (1 : Int32)), .val (.int c0), .val (.int c1), .val (.int c2), .val (.int c3), .val (.int c4)] [])) _
    refine XS.iloadN X0.here hx rfl (hb hby d1_15) rfl ?_
    refine XS.iconst X0.here hx rfl (hb hby d1_16) ?_
    refine XS.icmpNo X0.here hx rfl (hb hby d1_17) rfl (teq (by decide : (1 : Int32) = (1 : Int32))).2 ?_
    show Steps p.tables e below (s₁.setTop (mkF m 20 #[.val (.int (1 : Int32)), .val (.int c0), .val (.int c1), .val (.int c2), .val (.int c3), .val (.int c4)] [])) _
    refine XS.iloadN X0.here hx rfl (hb hby d1_20) rfl ?_
    exact kt
  by_cases gp : (255 : Int32) < c0
  · skip
    obtain ⟨_, _, ⟨T592, L592, k592, n592⟩, -, X592, ⟨Lc592, hQ592, l592, y592, z592⟩, st592⟩ := Jvm.LawKit.callS X0 hx (y := (⟨"java/lang/String", "valueOf", "(C)Ljava/lang/String;"⟩ : MethodName)) hown (mvT hZ (tw hw 110 rfl)) (mvT hZ (tw hw 111 rfl)) (mvT hZ (tw hw 8 rfl)) (mvT hZ (tw hw 112 rfl)) (by decide) (backOf (W := 0) (rmVoU l Z a0 hw [] c0 zc h0 n0 Z0 gp OZ SC hzc SA SH SL) hZ (tw hw 112 rfl) (tw hw 8 rfl) (by decide) (by decide)) (g := (mkF m 21 #[.val (.int (1 : Int32)), .val (.int c0), .val (.int c1), .val (.int c2), .val (.int c3), .val (.int c4)] [(.int c0)])) rfl (by rw [hml]; rfl) (argsL := [(.int c0)]) (rest := []) (lenOf pd__C_Ljava_lang_String_ rfl) rfl (by show 2 * 0 + _ ≤ _; exact Nat.le_of_eq rfl) (hb hby d1_21) (fun _ _ => ⟨rfl, e0, (by decide : 0 + 2 ≤ _), (by decide : 0 + 6 ≤ _)⟩)
    dsimp only [Pt.U, Pt.locs, Pt.cells, Pt.slots] at X592 l592 y592 z592 st592 hQ592
    subst l592 y592 z592
    obtain ⟨x8, rfl, N592q, EX592, E8, SP⟩ := hQ592
    have N592 := Fr.app N0 N592q
    have K592 := (Keep.refl h0 []).ext EX592
    have pre593 : ∀ t, Steps p.tables e below (T592.setTop (mkF m 24 #[.val (.int (1 : Int32)), .val (.int c0), .val (.int c1), .val (.int c2), .val (.int c3), .val (.int c4)] [(.ref x8)])) t → Steps p.tables e below (s₁.setTop (mkF m 21 #[.val (.int (1 : Int32)), .val (.int c0), .val (.int c1), .val (.int c2), .val (.int c3), .val (.int c4)] [(.int c0)])) t := by
      intro t kt
      refine st592 _ ?_
      exact kt
    obtain ⟨fs, hr, hrun, hended, hW, hsame⟩ := X592.leave (v := some (.ref x8)) (fun h => by rw [Bd.returns] at h; cases h)
    refine ⟨_, _, (pre0 _ (pre591 _ (pre593 _ ?_))), hrun, hended, _, _, rfl, ?_, ⟨_, rfl⟩, hW, hsame.mono (by decide) (by decide)⟩
    · show Steps p.tables e below (T592.setTop (mkF m 24 #[.val (.int (1 : Int32)), .val (.int c0), .val (.int c1), .val (.int c2), .val (.int c3), .val (.int c4)] [(.ref x8)])) _
      exact retOut X592 hx (t := (.object "java/lang/String")) Bd.returns rfl (Or.inr (Or.inr (Or.inr (Or.inr ⟨rfl, rfl, rfl⟩)))) (hb hby d1_24) hr
    · show QMk1 Z c0 c1 c2 c3 c4 zc h0 n0 _ T592.heap _
      exact ⟨x8, rfl, N592, own_ext K592, E8, SP⟩
  · skip
    obtain ⟨_, _, ⟨T594, L594, k594, n594⟩, -, X594, ⟨Lc594, hQ594, l594, y594, z594⟩, st594⟩ := Jvm.LawKit.callS X0 hx (y := (⟨"java/lang/String", "valueOf", "(C)Ljava/lang/String;"⟩ : MethodName)) hown (mvT hZ (tw hw 110 rfl)) (mvT hZ (tw hw 111 rfl)) (mvT hZ (tw hw 8 rfl)) (mvT hZ (tw hw 112 rfl)) (by decide) (backOf (W := 0) (rmVoC l Z a0 hw [] c0 zc h0 n0 Z0 gp (SC.ext OZ.2) hzc) hZ (tw hw 112 rfl) (tw hw 8 rfl) (by decide) (by decide)) (g := (mkF m 21 #[.val (.int (1 : Int32)), .val (.int c0), .val (.int c1), .val (.int c2), .val (.int c3), .val (.int c4)] [(.int c0)])) rfl (by rw [hml]; rfl) (argsL := [(.int c0)]) (rest := []) (lenOf pd__C_Ljava_lang_String_ rfl) rfl (by show 2 * 0 + _ ≤ _; exact Nat.le_of_eq rfl) (hb hby d1_21) (fun _ _ => ⟨rfl, e0, (by decide : 0 + 2 ≤ _), (by decide : 0 + 5 ≤ _)⟩)
    dsimp only [Pt.U, Pt.locs, Pt.cells, Pt.slots] at X594 l594 y594 z594 st594 hQ594
    subst l594 y594 z594
    obtain ⟨x8, rfl, N594q, EX594, le8, t8, k8, ⟨E8, F8, G8, A8⟩, lt8⟩ := hQ594
    have N594 := Fr.app N0 N594q
    have K594 := (Keep.refl h0 []).ext EX594
    have hl : ∀ i, i < [c0].length → ¬ ((255 : Int32) < [c0].getD i 0) := fun i hi => by
      match i, hi with
      | 0, _ => exact gp
    have pre595 : ∀ t, Steps p.tables e below (T594.setTop (mkF m 24 #[.val (.int (1 : Int32)), .val (.int c0), .val (.int c1), .val (.int c2), .val (.int c3), .val (.int c4)] [(.ref x8)])) t → Steps p.tables e below (s₁.setTop (mkF m 21 #[.val (.int (1 : Int32)), .val (.int c0), .val (.int c1), .val (.int c2), .val (.int c3), .val (.int c4)] [(.int c0)])) t := by
      intro t kt
      refine st594 _ ?_
      exact kt
    obtain ⟨fs, hr, hrun, hended, hW, hsame⟩ := X594.leave (v := some (.ref x8)) (fun h => by rw [Bd.returns] at h; cases h)
    refine ⟨_, _, (pre0 _ (pre591 _ (pre595 _ ?_))), hrun, hended, _, _, rfl, ?_, ⟨_, rfl⟩, hW, hsame.mono (by decide) (by decide)⟩
    · show Steps p.tables e below (T594.setTop (mkF m 24 #[.val (.int (1 : Int32)), .val (.int c0), .val (.int c1), .val (.int c2), .val (.int c3), .val (.int c4)] [(.ref x8)])) _
      exact retOut X594 hx (t := (.object "java/lang/String")) Bd.returns rfl (Or.inr (Or.inr (Or.inr (Or.inr ⟨rfl, rfl, rfl⟩)))) (hb hby d1_24) hr
    · show QMk1 Z c0 c1 c2 c3 c4 zc h0 n0 _ T594.heap _
      exact ⟨x8, rfl, N594, own_ext K594, E8, t8, k8, E8, F8, Or.inl ⟨G8, A8, hl⟩⟩
theorem ef_I4_0 (m : MethodId) (x0 : Addr) (x1 : Addr) (x2 : Int32) (x3 : Int32) : entryFrame m #[(.ref x0), (.ref x1), (.int x2), (.int x3), .null] 6 = mkF m 0 #[.val (.ref x0), .val (.ref x1), .val (.int x2), .val (.int x3), .val .null, .unset] [] := by (first | (simp [entryFrame, mkF, argsToLocals, Value.category]; done) | rfl)
def QI4_0 (Z : State) (x1 : Addr) (t1 : Addr) (kc : ClassId) (h0 : Heap) (n0 : Nat) (v : Option Value) (h : Heap) (L : List Loc) (vm : Vm) : Prop := v = none ∧ Fr n0 L ∧ Keep h0 h [x1] ∧ own_str Z h x1 []
theorem d3_8 : decode jdk_42_method_149_code 8 = .ok (.aload_n 0, 1) := by decide +kernel
theorem d3_9 : decode jdk_42_method_149_code 9 = .ok (.ldc 7, 2) := by decide +kernel
theorem d3_11 : decode jdk_42_method_149_code 11 = .ok (.getfield 9, 3) := by decide +kernel
theorem d3_14 : decode jdk_42_method_149_code 14 = .ok (.putfield 9, 3) := by decide +kernel
theorem d3_17 : decode jdk_42_method_149_code 17 = .ok (.aload_n 0, 1) := by decide +kernel
theorem d3_18 : decode jdk_42_method_149_code 18 = .ok (.ldc 7, 2) := by decide +kernel
theorem d3_20 : decode jdk_42_method_149_code 20 = .ok (.getfield 15, 3) := by decide +kernel
theorem d3_23 : decode jdk_42_method_149_code 23 = .ok (.putfield 15, 3) := by decide +kernel
theorem d3_26 : decode jdk_42_method_149_code 26 = .ok (.return_, 1) := by decide +kernel
set_option maxRecDepth 65536 in
set_option maxHeartbeats 40000000 in
theorem rmI4_0 (l : Launch) (Z : State) (a0 : Array Value) (hw : ∀ d ∈ tables_1, d.before a0 Z = true) (ws : List Jvm.Cond) (x1 : Addr) (t1 : Addr) (kc : ClassId) (h0 : Heap) (n0 : Nat) (Z0 : n0 ≤ h0.size) (hEL : EW Z a0 EL) (XE : Exa Z h0 x1 "java/lang/String") (XV0 : Fld Z h0 x1 "java/lang/String" "value" "[B" .null) (XC0 : Fld Z h0 x1 "java/lang/String" "coder" "B" (.int (0 : Int32))) (g_x1 : n0 ≤ x1) (KT : Arv Z h0 t1 kc .char (0 : Int32) [] (.int (0 : Int32))) :
    MetFree l (⟨"java/lang/String", "<init>", "([CIILjava/lang/Void;)V"⟩ : MethodName) (head1 (Jvm.Cond.code (⟨"java/lang/String", "<init>", "([CIILjava/lang/Void;)V"⟩ : MethodName) jdk_42_method_149_code 6 none :: ws) ({ frames := 1, cells := 4, slots := 8, locals := 14 } : Room)) (fun a U => a = #[(.ref x1), (.ref t1), (.int (0 : Int32)), (.int (0 : Int32)), .null] ∧ Z.Warmed39 U.vm ∧ U.heap = h0 ∧ CHv Z EL U.vm h0 ∧ Safe Z EL U.vm h0 x1) (fun _ _ _ _ _ => True) (fun _ U o U' => ∃ v L, o = .returned v ∧ QI4_0 Z x1 t1 kc h0 n0 v U'.heap L U'.vm ∧ CHr Z EL U.vm U.heap U'.vm U'.heap ∧ ReturnedEndW U o U' L ({ frames := 1, cells := 4, slots := 8, locals := 14 } : Room).cells ({ frames := 1, cells := 4, slots := 8, locals := 14 } : Room).slots) := by
  refine MetFree.of_bodySF (plainFor_of_name pn_java_lang_String) hisR ?_
  intro p e s m args below meth c s₁ Bd hml0 hP hK
  obtain ⟨rfl, hZ, hh, hCH, hY⟩ := hP
  have hx := Bd.exec
  have hby := Bd.bytes
  have hml : c.maxLocals = 6 := hml0
  have hown : s.vm.findClass "java/lang/String" = some m.cls := findClass_of_methodNamed Bd.named
  have hnm := (name_of_methodNamed Bd.named Bd.method).1
  have X0 : Stand p l e ({ frames := 1, cells := 4, slots := 8, locals := 14 } : Room) s m #[(.ref x1), (.ref t1), (.int (0 : Int32)), (.int (0 : Int32)), .null] below meth c s₁ [] 0 0 := Stand.of_body Bd
  have e0 : s₁.heap = h0 := by rw [← hh, Bd.state]; rfl
  have N0 := Fr.nil n0
  have pre0 : ∀ t, Steps p.tables e below (s₁.setTop (mkF m 0 #[.val (.ref x1), .val (.ref t1), .val (.int (0 : Int32)), .val (.int (0 : Int32)), .val .null, .unset] [])) t → Steps p.tables e below (s₁.setTop (entryFrame m #[(.ref x1), (.ref t1), (.int (0 : Int32)), (.int (0 : Int32)), .null] 6)) t := fun t k => castTop (ef_I4_0 m x1 t1 (0 : Int32) (0 : Int32)) k
  have X0 : Stand p l e ({ frames := 1, cells := 4, slots := 8, locals := 14 } : Room) (s.setVm s.vm) m #[(.ref x1), (.ref t1), (.int (0 : Int32)), (.int (0 : Int32)), .null] below meth c s₁ [] 0 0 := by rw [State.setVm_self]; exact X0
  have hZ : Z.Warmed39 (s.setVm s.vm).vm := hZ
  have hown : (s.setVm s.vm).vm.findClass "java/lang/String" = some m.cls := hown
  have hSi0 : s.Since s.vm 0 := (State.WarmedH.refl s).since 0
  have mem_x1 : x1 ∈ [x1] := List.mem_of_getElem? (i := 0) rfl
  obtain ⟨T596, X596, e596, st596⟩ := initO X0 hx hZ hown (tw hw 17 rfl) (tw hw 18 rfl) (tw hw 19 rfl) e0 (g := (mkF m 1 #[.val (.ref x1), .val (.ref t1), .val (.int (0 : Int32)), .val (.int (0 : Int32)), .val .null, .unset] [(.ref x1)])) rfl (by rw [hml]; rfl) rfl (hb hby d3_1) (by decide) (W := 0) (by show 2 * 0 + _ ≤ _; exact Nat.le_of_eq rfl) (by decide)
  have pre597 : ∀ t, Steps p.tables e below (T596.setTop (mkF m 9 #[.val (.ref x1), .val (.ref t1), .val (.int (0 : Int32)), .val (.int (0 : Int32)), .val .null, .unset] [(.ref x1)])) t → Steps p.tables e below (s₁.setTop (mkF m 0 #[.val (.ref x1), .val (.ref t1), .val (.int (0 : Int32)), .val (.int (0 : Int32)), .val .null, .unset] [])) t := by
    intro t kt
    show Steps p.tables e below (s₁.setTop (mkF m 0 #[.val (.ref x1), .val (.ref t1), .val (.int (0 : Int32)), .val (.int (0 : Int32)), .val .null, .unset] [])) _
    refine XS.aloadN X0.here hx rfl (hb hby d3_0) rfl rfl ?_
    show Steps p.tables e below (s₁.setTop (mkF m 1 #[.val (.ref x1), .val (.ref t1), .val (.int (0 : Int32)), .val (.int (0 : Int32)), .val .null, .unset] [(.ref x1)])) _
    refine st596 _ ?_
    show Steps p.tables e below (T596.setTop (mkF m 4 #[.val (.ref x1), .val (.ref t1), .val (.int (0 : Int32)), .val (.int (0 : Int32)), .val .null, .unset] [])) _
    refine XS.iloadN X596.here hx rfl (hb hby d3_4) rfl ?_
    refine XS.ifNo X596.here hx rfl (hb hby d3_5) rfl ((if0 _ _).trans (teq (rfl : (0 : Int32) = (0 : Int32))).2) ?_
    show Steps p.tables e below (T596.setTop (mkF m 8 #[.val (.ref x1), .val (.ref t1), .val (.int (0 : Int32)), .val (.int (0 : Int32)), .val .null, .unset] [])) _
    refine XS.aloadN X596.here hx rfl (hb hby d3_8) rfl rfl ?_
    exact kt
  have wS598 : ∀ a ∈ Bundle.stringAtoms, a.before a0 Z = true := fun d hd => hw d ((by decide +kernel : ∀ d ∈ Bundle.stringAtoms, d ∈ tables_1) d hd)
  obtain ⟨b598, T598, h598, k598, d598, kb598, X598, e598, E598, hSi598, hk598, hZ, hown, A598, FC598, FV598, V598, -, -, crs598, Lt598, nn598, st598⟩ := ldcCH (s := s) (vm0 := s.vm) X596 hx hZ hown (tw hw 20 rfl) wS598 e596 hSi0 (Nat.zero_le _) hEL (by decide : ("java/lang/String", 7) ∈ EL) hCH (vs := []) (z := (0 : Int32)) ⟨by decide, rfl⟩ (by decide) (by decide) (g := (mkF m 9 #[.val (.ref x1), .val (.ref t1), .val (.int (0 : Int32)), .val (.int (0 : Int32)), .val .null, .unset] [(.ref x1)])) rfl (hb hby d3_9) (n := 0) (by decide) (by decide) (by decide) (by decide)
  have cs599 := crs598
  have cr599 := (CHr.refl hCH).trans cs599
  have y599_x1 := cs599.safe XE.lt hY
  have K598 := (Keep.refl h0 [x1]).ext E598
  obtain ⟨ne_x1_b598, ne_x1_d598⟩ := nn598 _ y599_x1
  obtain ⟨T600, X600, e600, st600⟩ := getF X598 hx hZ hown (host := "") (Or.inl (tw hw 26 rfl)) Via.refl e598 FV598 (g := (mkF m 11 #[.val (.ref x1), .val (.ref t1), .val (.int (0 : Int32)), .val (.int (0 : Int32)), .val .null, .unset] [(.ref b598), (.ref x1)])) rfl rfl (hb hby d3_11)
  have f601 := (XV0.ext E598)
  have f602 := (XE.ext E598)
  obtain ⟨T603, h603, X603, e603, W603, st603⟩ := putF X600 hx hZ hown (host := "") (Or.inl (tw hw 26 rfl)) Via.refl e600 f601 f602 (Or.inr ⟨(tw hw 22 rfl), rfl, hnm⟩) (tw hw 7 rfl) (ty := (.array .byte)) (by decide) rfl rfl (g := (mkF m 14 #[.val (.ref x1), .val (.ref t1), .val (.int (0 : Int32)), .val (.int (0 : Int32)), .val .null, .unset] [(.ref d598), (.ref x1)])) rfl rfl (hb hby d3_14)
  have cs604 := CHr.wr W603 y599_x1 cs599.1
  have cr604 := cr599.trans cs604
  have y604_x1 := cs604.safe f602.lt y599_x1
  have hk604 := Nat.le_trans hk598 cs604.2.1
  have N603 := Fr.snoc X603 N0 g_x1
  have K603 := K598.wr W603 (Or.inl mem_x1)
  have Fw603 := f601.same W603
  have pre605 : ∀ t, Steps p.tables e below (T603.setTop (mkF m 18 #[.val (.ref x1), .val (.ref t1), .val (.int (0 : Int32)), .val (.int (0 : Int32)), .val .null, .unset] [(.ref x1)])) t → Steps p.tables e below (T596.setTop (mkF m 9 #[.val (.ref x1), .val (.ref t1), .val (.int (0 : Int32)), .val (.int (0 : Int32)), .val .null, .unset] [(.ref x1)])) t := by
    intro t kt
    show Steps p.tables e below (T596.setTop (mkF m 9 #[.val (.ref x1), .val (.ref t1), .val (.int (0 : Int32)), .val (.int (0 : Int32)), .val .null, .unset] [(.ref x1)])) _
    refine st598 _ ?_
    refine st600 _ ?_
    refine st603 _ ?_
    show Steps p.tables e below (T603.setTop (mkF m 17 #[.val (.ref x1), .val (.ref t1), .val (.int (0 : Int32)), .val (.int (0 : Int32)), .val .null, .unset] [])) _
    refine XS.aloadN X603.here hx rfl (hb hby d3_17) rfl rfl ?_
    exact kt
  have wS606 : ∀ a ∈ Bundle.stringAtoms, a.before a0 Z = true := fun d hd => hw d ((by decide +kernel : ∀ d ∈ Bundle.stringAtoms, d ∈ tables_1) d hd)
  obtain ⟨b606, T606, h606, k606, d606, kb606, X606, e606, E606, hSi606, hk606, hZ, hown, A606, FC606, FV606, V606, -, -, crs606, Lt606, nn606, st606⟩ := ldcCH (s := s) (vm0 := T598.vm) X603 hx hZ hown (tw hw 20 rfl) wS606 e603 hSi598 hk604 hEL (by decide : ("java/lang/String", 7) ∈ EL) cs604.1 (vs := []) (z := (0 : Int32)) ⟨by decide, rfl⟩ (by decide) (by decide) (g := (mkF m 18 #[.val (.ref x1), .val (.ref t1), .val (.int (0 : Int32)), .val (.int (0 : Int32)), .val .null, .unset] [(.ref x1)])) rfl (hb hby d3_18) (n := 0) (by decide) (by decide) (by decide) (by decide)
  have f608 := (f602.wr W603)
  have cs607 := crs606
  have cr607 := cr604.trans cs607
  have y607_x1 := cs607.safe f608.lt y604_x1
  have K606 := K603.ext E606
  obtain ⟨ne_x1_b606, ne_x1_d606⟩ := nn606 _ y607_x1
  obtain ⟨T609, X609, e609, st609⟩ := getF X606 hx hZ hown (host := "") (Or.inl (tw hw 27 rfl)) Via.refl e606 FC606 (g := (mkF m 20 #[.val (.ref x1), .val (.ref t1), .val (.int (0 : Int32)), .val (.int (0 : Int32)), .val .null, .unset] [(.ref b606), (.ref x1)])) rfl rfl (hb hby d3_20)
  have f610 := (((XC0.ext E598).other W603 (Or.inr (slot_ne (Or.inr (tw hw 23 rfl)) (Or.inr (tw hw 22 rfl)) (by decide) (t := .byte) (t' := (.array .byte)) (by decide) (by decide)))).ext E606)
  have f611 := (f608.ext E606)
  obtain ⟨T612, h612, X612, e612, W612, st612⟩ := putFN X609 hx hZ hown (tw hw 27 rfl) Via.refl e609 f610 f611 (Or.inr ⟨(tw hw 23 rfl), rfl, hnm⟩) (tw hw 7 rfl) (ty := .byte) (v' := (.int (0 : Int32))) (by decide) rfl rfl (g := (mkF m 23 #[.val (.ref x1), .val (.ref t1), .val (.int (0 : Int32)), .val (.int (0 : Int32)), .val .null, .unset] [(.int (0 : Int32)), (.ref x1)])) rfl rfl (hb hby d3_23)
  have cs613 := CHr.wr W612 y607_x1 cs607.1
  have cr613 := cr607.trans cs613
  have y613_x1 := cs613.safe f611.lt y607_x1
  have hk613 := Nat.le_trans hk606 cs613.2.1
  have N612 := Fr.snoc X612 N603 g_x1
  have K612 := K606.wr W612 (Or.inl mem_x1)
  have Fw612 := f610.same W612
  have f614 := (f611.wr W612)
  have f615 := ((Fw603.ext E606).other W612 (Or.inr (slot_ne (Or.inr (tw hw 22 rfl)) (Or.inr (tw hw 23 rfl)) (by decide) (t := (.array .byte)) (t' := .byte) (by decide) (by decide))))
  have f616 := (((V598.other W603 (Ne.symm ne_x1_d598)).ext E606).other W612 (Ne.symm ne_x1_d598))
  have pre617 : ∀ t, Steps p.tables e below (T612.setTop (mkF m 26 #[.val (.ref x1), .val (.ref t1), .val (.int (0 : Int32)), .val (.int (0 : Int32)), .val .null, .unset] [])) t → Steps p.tables e below (T603.setTop (mkF m 18 #[.val (.ref x1), .val (.ref t1), .val (.int (0 : Int32)), .val (.int (0 : Int32)), .val .null, .unset] [(.ref x1)])) t := by
    intro t kt
    show Steps p.tables e below (T603.setTop (mkF m 18 #[.val (.ref x1), .val (.ref t1), .val (.int (0 : Int32)), .val (.int (0 : Int32)), .val .null, .unset] [(.ref x1)])) _
    refine st606 _ ?_
    refine st609 _ ?_
    refine st612 _ ?_
    exact kt
  have yf_x1 := (CHv.at X612 hZ hEL cs613.1).safe f614.lt y613_x1
  obtain ⟨fs, hr, hrun, hended, e1, e2, e3, e4⟩ := X612.leaveW hSi606 (by rw [e612]; exact hk613) (v := none) (fun _ => rfl)
  refine ⟨_, _, (pre0 _ (pre597 _ (pre605 _ (pre617 _ ?_)))), hrun, hended, _, _, rfl, ?_, ?_, ⟨e1, e2, e3, e4.mono (by decide) (by decide)⟩⟩
  · show Steps p.tables e below (T612.setTop (mkF m 26 #[.val (.ref x1), .val (.ref t1), .val (.int (0 : Int32)), .val (.int (0 : Int32)), .val .null, .unset] [])) _
    exact X612.returnOut hx Bd.returns (hb hby d3_26) hr
  · show QI4_0 Z x1 t1 kc h0 n0 _ T612.heap _ T612.vm
    rw [e612]
    exact ⟨rfl, N612, K612, d598, kb598, f614, f615, Or.inl ⟨Fw612, f616, fun i hi => absurd hi (by simp)⟩⟩
  · have q := cr613.trans (CHv.at X612 hZ hEL cs613.1)
    show CHr Z EL s.vm s.heap T612.vm T612.heap
    rw [hh, e612]
    exact q
theorem ef_I1_0 (m : MethodId) (x0 : Addr) (x1 : Addr) : entryFrame m #[(.ref x0), (.ref x1)] 2 = mkF m 0 #[.val (.ref x0), .val (.ref x1)] [] := by (first | (simp [entryFrame, mkF, argsToLocals, Value.category]; done) | rfl)
def QI1_0 (Z : State) (x1 : Addr) (t1 : Addr) (kc : ClassId) (h0 : Heap) (n0 : Nat) (v : Option Value) (h : Heap) (L : List Loc) (vm : Vm) : Prop := v = none ∧ Fr n0 L ∧ Keep h0 h [x1] ∧ own_str Z h x1 []
set_option maxRecDepth 65536 in
set_option maxHeartbeats 40000000 in
theorem rmI1_0 (l : Launch) (Z : State) (a0 : Array Value) (hw : ∀ d ∈ tables_1, d.before a0 Z = true) (ws : List Jvm.Cond) (x1 : Addr) (t1 : Addr) (kc : ClassId) (h0 : Heap) (n0 : Nat) (Z0 : n0 ≤ h0.size) (hEL : EW Z a0 EL) (XE : Exa Z h0 x1 "java/lang/String") (XV0 : Fld Z h0 x1 "java/lang/String" "value" "[B" .null) (XC0 : Fld Z h0 x1 "java/lang/String" "coder" "B" (.int (0 : Int32))) (g_x1 : n0 ≤ x1) (KT : Arv Z h0 t1 kc .char (0 : Int32) [] (.int (0 : Int32))) :
    MetFree l (⟨"java/lang/String", "<init>", "([C)V"⟩ : MethodName) (head1 (Jvm.Cond.code (⟨"java/lang/String", "<init>", "([C)V"⟩ : MethodName) jdk_42_method_3_code 2 none :: ws) ({ frames := 2, cells := 4, slots := 8, locals := 34 } : Room)) (fun a U => a = #[(.ref x1), (.ref t1)] ∧ Z.Warmed39 U.vm ∧ U.heap = h0 ∧ CHv Z EL U.vm h0 ∧ Safe Z EL U.vm h0 x1) (fun _ _ _ _ _ => True) (fun _ U o U' => ∃ v L, o = .returned v ∧ QI1_0 Z x1 t1 kc h0 n0 v U'.heap L U'.vm ∧ CHr Z EL U.vm U.heap U'.vm U'.heap ∧ ReturnedEndW U o U' L ({ frames := 2, cells := 4, slots := 8, locals := 34 } : Room).cells ({ frames := 2, cells := 4, slots := 8, locals := 34 } : Room).slots) := by
  refine MetFree.of_bodySF (plainFor_of_name pn_java_lang_String) hisR ?_
  intro p e s m args below meth c s₁ Bd hml0 hP hK
  obtain ⟨rfl, hZ, hh, hCH, hY⟩ := hP
  have hx := Bd.exec
  have hby := Bd.bytes
  have hml : c.maxLocals = 2 := hml0
  have hown : s.vm.findClass "java/lang/String" = some m.cls := findClass_of_methodNamed Bd.named
  have hnm := (name_of_methodNamed Bd.named Bd.method).1
  have X0 : Stand p l e ({ frames := 2, cells := 4, slots := 8, locals := 34 } : Room) s m #[(.ref x1), (.ref t1)] below meth c s₁ [] 0 0 := Stand.of_body Bd
  have e0 : s₁.heap = h0 := by rw [← hh, Bd.state]; rfl
  have N0 := Fr.nil n0
  have pre0 : ∀ t, Steps p.tables e below (s₁.setTop (mkF m 0 #[.val (.ref x1), .val (.ref t1)] [])) t → Steps p.tables e below (s₁.setTop (entryFrame m #[(.ref x1), (.ref t1)] 2)) t := fun t k => castTop (ef_I1_0 m x1 t1) k
  have X0 : Stand p l e ({ frames := 2, cells := 4, slots := 8, locals := 34 } : Room) (s.setVm s.vm) m #[(.ref x1), (.ref t1)] below meth c s₁ [] 0 0 := by rw [State.setVm_self]; exact X0
  have hZ : Z.Warmed39 (s.setVm s.vm).vm := hZ
  have hown : (s.setVm s.vm).vm.findClass "java/lang/String" = some m.cls := hown
  have hSi0 : s.Since s.vm 0 := (State.WarmedH.refl s).since 0
  have mem_x1 : x1 ∈ [x1] := List.mem_of_getElem? (i := 0) rfl
  obtain ⟨c618, Ar618, -, S618, M618, -, -⟩ := id KT
  have pre619 : ∀ t, Steps p.tables e below (s₁.setTop (mkF m 6 #[.val (.ref x1), .val (.ref t1)] [.null, (.int (0 : Int32)), (.int (0 : Int32)), (.ref t1), (.ref x1)])) t → Steps p.tables e below (s₁.setTop (mkF m 0 #[.val (.ref x1), .val (.ref t1)] [])) t := by
    intro t kt
    show Steps p.tables e below (s₁.setTop (mkF m 0 #[.val (.ref x1), .val (.ref t1)] [])) _
    refine XS.aloadN X0.here hx rfl (hb hby d2_0) rfl rfl ?_
    refine XS.aloadN X0.here hx rfl (hb hby d2_1) rfl rfl ?_
    refine XS.iconst X0.here hx rfl (hb hby d2_2) ?_
    refine XS.aloadN X0.here hx rfl (hb hby d2_3) rfl rfl ?_
    refine X0.arraylength hx (by rw [e0]; exact Ar618.1) (State.isArrayOf_alike hZ.alike Ar618.2.1) (g := (mkF m 4 #[.val (.ref x1), .val (.ref t1)] [(.ref t1), (.int (0 : Int32)), (.ref t1), (.ref x1)])) rfl rfl (hb hby d2_4) _ ?_
    rw [len_of S618 M618]
    show Steps p.tables e below (s₁.setTop (mkF m 5 #[.val (.ref x1), .val (.ref t1)] [(.int (0 : Int32)), (.int (0 : Int32)), (.ref t1), (.ref x1)])) _
    refine XS.aconstNull X0.here hx rfl (hb hby d2_5) ?_
    exact kt
  obtain ⟨_, _, ⟨T620, L620, k620, n620⟩, -, X620, hs620, hg620, ⟨Lc620, hQ620, l620, y620, z620, crs620⟩, st620⟩ := X0.specialBackS hx (y := (⟨"java/lang/String", "<init>", "([CIILjava/lang/Void;)V"⟩ : MethodName)) rfl hown (mvT hZ (tw hw 13 rfl)) (mvT hZ (tw hw 14 rfl)) (mvT hZ (tw hw 16 rfl)) (by decide) (own_backS1 (s := s) (W := 0) (rmI4_0 l Z a0 hw [] x1 t1 kc h0 n0 Z0 hEL XE XV0 XC0 g_x1 KT) hZ (tw hw 16 rfl) (tw hw 8 rfl) (by decide) (by decide) hEL hCH XE.lt hY) (g := (mkF m 6 #[.val (.ref x1), .val (.ref t1)] [.null, (.int (0 : Int32)), (.int (0 : Int32)), (.ref t1), (.ref x1)])) rfl (by rw [hml]; rfl) (Steps.refl _) (a := x1) (argsL := [(.ref t1), (.int (0 : Int32)), (.int (0 : Int32)), .null]) (rest := []) (lenOf pd___CIILjava_lang_Void__V rfl) rfl (by show 2 * 0 + _ ≤ _; exact Nat.le_of_eq rfl) (hb hby d2_6) (fun _ _ => ⟨rfl, e0, (by decide : 0 + 4 ≤ _), (by decide : 0 + 8 ≤ _)⟩)
  dsimp only [Pt.U, Pt.locs, Pt.cells, Pt.slots] at X620 l620 y620 z620 st620 hQ620 hs620 hg620 crs620
  subst l620 y620 z620
  obtain ⟨X620, hSi620, hZ, hown⟩ := rebS hSi0 (by rw [e0]; exact (Nat.zero_le _)) X620 hs620 hg620 hZ hown
  obtain ⟨rfl, N620q, KC620, SP⟩ := hQ620
  have N620 := Fr.app N0 N620q
  have cs621 := crs620
  have cr621 := (CHr.refl hCH).trans cs621
  have y621_x1 := cs621.safe XE.lt hY
  have K620 := (Keep.refl h0 [x1]).trans KC620 (allS (Or.inl mem_x1) all0)
  have pre622 : ∀ t, Steps p.tables e below (T620.setTop (mkF m 9 #[.val (.ref x1), .val (.ref t1)] [])) t → Steps p.tables e below (s₁.setTop (mkF m 6 #[.val (.ref x1), .val (.ref t1)] [.null, (.int (0 : Int32)), (.int (0 : Int32)), (.ref t1), (.ref x1)])) t := by
    intro t kt
    refine st620.trans ?_
    exact kt
  have f623 := (XE.keep KC620)
  have yf_x1 := (CHv.at X620 hZ hEL cs621.1).safe f623.lt y621_x1
  obtain ⟨fs, hr, hrun, hended, e1, e2, e3, e4⟩ := X620.leaveW hSi620 (Nat.le_refl _) (v := none) (fun _ => rfl)
  refine ⟨_, _, (pre0 _ (pre619 _ (pre622 _ ?_))), hrun, hended, _, _, rfl, ?_, ?_, ⟨e1, e2, e3, e4.mono (by decide) (by decide)⟩⟩
  · show Steps p.tables e below (T620.setTop (mkF m 9 #[.val (.ref x1), .val (.ref t1)] [])) _
    exact X620.returnOut hx Bd.returns (hb hby d2_9) hr
  · show QI1_0 Z x1 t1 kc h0 n0 _ T620.heap _ T620.vm
    exact ⟨rfl, N620, K620, SP⟩
  · have q := cr621.trans (CHv.at X620 hZ hEL cs621.1)
    show CHr Z EL s.vm s.heap T620.vm T620.heap
    rw [hh]
    exact q
theorem ef_Mk0 (m : MethodId) (x0 : Int32) (x1 : Int32) (x2 : Int32) (x3 : Int32) (x4 : Int32) (x5 : Int32) : entryFrame m #[(.int x0), (.int x1), (.int x2), (.int x3), (.int x4), (.int x5)] 6 = mkF m 0 #[.val (.int x0), .val (.int x1), .val (.int x2), .val (.int x3), .val (.int x4), .val (.int x5)] [] := by (first | (simp [entryFrame, mkF, argsToLocals, Value.category]; done) | rfl)
def QMk0 (Z : State) (c0 : Int32) (c1 : Int32) (c2 : Int32) (c3 : Int32) (c4 : Int32) (h0 : Heap) (n0 : Nat) (v : Option Value) (h : Heap) (L : List Loc) (vm : Vm) : Prop := ∃ x2, v = some (.ref x2) ∧ Fr n0 L ∧ Ext h0 h ∧ Exa Z h x2 "java/lang/String" ∧ own_str Z h x2 []
theorem d1_4 : decode method_4_code 4 = .ok (.new 25, 3) := by decide +kernel
theorem d1_7 : decode method_4_code 7 = .ok (.dup, 1) := by decide +kernel
theorem d1_8 : decode method_4_code 8 = .ok (.iconst 0, 1) := by decide +kernel
theorem d1_9 : decode method_4_code 9 = .ok (.newarray .char, 2) := by decide +kernel
theorem d1_11 : decode method_4_code 11 = .ok (.invokespecial 27, 3) := by decide +kernel
theorem d1_14 : decode method_4_code 14 = .ok (.areturn, 1) := by decide +kernel
set_option maxRecDepth 65536 in
set_option maxHeartbeats 40000000 in
theorem rmMk0 (l : Launch) (Z : State) (a0 : Array Value) (hw : ∀ d ∈ tables_1, d.before a0 Z = true) (ws : List Jvm.Cond) (c0 : Int32) (c1 : Int32) (c2 : Int32) (c3 : Int32) (c4 : Int32) (h0 : Heap) (n0 : Nat) (Z0 : n0 ≤ h0.size) (hEL : EW Z a0 EL)  :
    MetFree l (⟨"com/example/corvid/corvid/classfile/ConstantPoolModifiedUtf8LengthPinLaw", "make", "(ICCCCC)Ljava/lang/String;"⟩ : MethodName) (head1 (Jvm.Cond.code (⟨"com/example/corvid/corvid/classfile/ConstantPoolModifiedUtf8LengthPinLaw", "make", "(ICCCCC)Ljava/lang/String;"⟩ : MethodName) method_4_code 6 (some (.object "java/lang/String")) :: ws) ({ frames := 3, cells := 6, slots := 20, locals := 50 } : Room)) (fun a U => a = #[(.int (0 : Int32)), (.int c0), (.int c1), (.int c2), (.int c3), (.int c4)] ∧ Z.Warmed39 U.vm ∧ U.heap = h0 ∧ CHv Z EL U.vm h0) (fun _ _ _ _ _ => True) (fun _ U o U' => ∃ v L, o = .returned v ∧ QMk0 Z c0 c1 c2 c3 c4 h0 n0 v U'.heap L U'.vm ∧ CHr Z EL U.vm U.heap U'.vm U'.heap ∧ ReturnedEndW U o U' L ({ frames := 3, cells := 6, slots := 20, locals := 50 } : Room).cells ({ frames := 3, cells := 6, slots := 20, locals := 50 } : Room).slots) := by
  refine MetFree.of_bodySF (plainFor_of_name pn_com_example_corvid_corvid_classfile_ConstantPoolModifiedUtf8LengthPinLaw) hisR ?_
  intro p e s m args below meth c s₁ Bd hml0 hP hK
  obtain ⟨rfl, hZ, hh, hCH⟩ := hP
  have hx := Bd.exec
  have hby := Bd.bytes
  have hml : c.maxLocals = 6 := hml0
  have hown : s.vm.findClass "com/example/corvid/corvid/classfile/ConstantPoolModifiedUtf8LengthPinLaw" = some m.cls := findClass_of_methodNamed Bd.named
  have hnm := (name_of_methodNamed Bd.named Bd.method).1
  have X0 : Stand p l e ({ frames := 3, cells := 6, slots := 20, locals := 50 } : Room) s m #[(.int (0 : Int32)), (.int c0), (.int c1), (.int c2), (.int c3), (.int c4)] below meth c s₁ [] 0 0 := Stand.of_body Bd
  have e0 : s₁.heap = h0 := by rw [← hh, Bd.state]; rfl
  have N0 := Fr.nil n0
  have pre0 : ∀ t, Steps p.tables e below (s₁.setTop (mkF m 0 #[.val (.int (0 : Int32)), .val (.int c0), .val (.int c1), .val (.int c2), .val (.int c3), .val (.int c4)] [])) t → Steps p.tables e below (s₁.setTop (entryFrame m #[(.int (0 : Int32)), (.int c0), (.int c1), (.int c2), (.int c3), (.int c4)] 6)) t := fun t k => castTop (ef_Mk0 m (0 : Int32) c0 c1 c2 c3 c4) k
  have X0 : Stand p l e ({ frames := 3, cells := 6, slots := 20, locals := 50 } : Room) (s.setVm s.vm) m #[(.int (0 : Int32)), (.int c0), (.int c1), (.int c2), (.int c3), (.int c4)] below meth c s₁ [] 0 0 := by rw [State.setVm_self]; exact X0
  have hZ : Z.Warmed39 (s.setVm s.vm).vm := hZ
  have hown : (s.setVm s.vm).vm.findClass "com/example/corvid/corvid/classfile/ConstantPoolModifiedUtf8LengthPinLaw" = some m.cls := hown
  have hSi0 : s.Since s.vm 0 := (State.WarmedH.refl s).since 0
  obtain ⟨T624, h624, X624, e624, E624, A624, D624, -, st624⟩ := newO X0 hx hZ hown (tw hw 6 rfl) (tw hw 7 rfl) (tw hw 8 rfl) e0 (g := (mkF m 4 #[.val (.int (0 : Int32)), .val (.int c0), .val (.int c1), .val (.int c2), .val (.int c3), .val (.int c4)] [])) rfl (hb hby d1_4) (by decide) (by decide)
  obtain ⟨b624, g624⟩ : ∃ z, z = h0.size := ⟨_, rfl⟩
  rw [← g624] at A624 D624 st624
  have g_b624 : n0 ≤ b624 := Nat.le_trans Z0 (Nat.le_of_eq g624.symm)
  have sz_b624 : h0.size ≤ b624 := Nat.le_trans (Keep.refl h0 []).1 (Nat.le_of_eq g624.symm)
  have cs625 := CHr.ext E624 hCH
  have cr625 := (CHr.refl hCH).trans cs625
  have hk625 := Nat.le_trans (Nat.zero_le _) cs625.2.1
  have Z624 := Nat.le_trans Z0 E624.1
  have K624 := (Keep.refl h0 []).ext E624
  have F624_value : Fld Z h624 b624 "java/lang/String" "value" "[B" .null := D624 (Or.inr (tw hw 22 rfl)) (ty := (.array .byte)) (by decide)
  have F624_coder : Fld Z h624 b624 "java/lang/String" "coder" "B" (.int (0 : Int32)) := D624 (Or.inr (tw hw 23 rfl)) (ty := .byte) (by decide)
  have yb624 := own_safeE E624 hCH (Nat.le_of_eq g624.symm)
  obtain ⟨T626, h626, k626, X626, e626, E626, A626, st626⟩ := newP X624 hx hZ (tw hw 9 rfl) e624 (g := (mkF m 9 #[.val (.int (0 : Int32)), .val (.int c0), .val (.int c1), .val (.int c2), .val (.int c3), .val (.int c4)] [(.int (0 : Int32)), (.ref b624), (.ref b624)])) rfl (hb hby d1_9) rfl (by decide) (cap := 0) (by decide) (by decide) (by decide) (by decide)
  obtain ⟨b626, g626⟩ : ∃ z, z = h624.size := ⟨_, rfl⟩
  rw [← g626] at A626 st626
  have cs627 := CHr.ext E626 cs625.1
  have cr627 := cr625.trans cs627
  have y627_b624 := cs627.safe A624.lt yb624
  have hk627 := Nat.le_trans hk625 cs627.2.1
  have Z626 := Nat.le_trans Z624 E626.1
  have K626 := K624.ext E626
  have V626 := Arv.new A626 (by decide)
  have f628 := (A624.ext E626)
  have f629 := (F624_value.ext E626)
  have f630 := (F624_coder.ext E626)
  have pre631 : ∀ t, Steps p.tables e below (T626.setTop (mkF m 11 #[.val (.int (0 : Int32)), .val (.int c0), .val (.int c1), .val (.int c2), .val (.int c3), .val (.int c4)] [(.ref b626), (.ref b624), (.ref b624)])) t → Steps p.tables e below (s₁.setTop (mkF m 0 #[.val (.int (0 : Int32)), .val (.int c0), .val (.int c1), .val (.int c2), .val (.int c3), .val (.int c4)] [])) t := by
    intro t kt
    show Steps p.tables e below (s₁.setTop (mkF m 0 #[.val (.int (0 : Int32)), .val (.int c0), .val (.int c1), .val (.int c2), .val (.int c3), .val (.int c4)] [])) _
    refine XS.iloadN X0.here hx rfl (hb hby d1_0) rfl ?_
    refine XS.ifNo X0.here hx rfl (hb hby d1_1) rfl ((if0 _ _).trans (teq (rfl : (0 : Int32) = (0 : Int32))).2) ?_
    show Steps p.tables e below (s₁.setTop (mkF m 4 #[.val (.int (0 : Int32)), .val (.int c0), .val (.int c1), .val (.int c2), .val (.int c3), .val (.int c4)] [])) _
    refine st624 _ ?_
    show Steps p.tables e below (T624.setTop (mkF m 7 #[.val (.int (0 : Int32)), .val (.int c0), .val (.int c1), .val (.int c2), .val (.int c3), .val (.int c4)] [(.ref b624)])) _
    refine XS.dup X624.here hx rfl (hb hby d1_7) rfl rfl ?_
    refine XS.iconst X624.here hx rfl (hb hby d1_8) ?_
    show Steps p.tables e below (T624.setTop (mkF m 9 #[.val (.int (0 : Int32)), .val (.int c0), .val (.int c1), .val (.int c2), .val (.int c3), .val (.int c4)] [(.int (0 : Int32)), (.ref b624), (.ref b624)])) _
    refine st626 _ ?_
    exact kt
  obtain ⟨_, _, ⟨T632, L632, k632, n632⟩, -, X632, hs632, hg632, ⟨Lc632, hQ632, l632, y632, z632, crs632⟩, st632⟩ := X626.specialBackS hx (y := (⟨"java/lang/String", "<init>", "([C)V"⟩ : MethodName)) rfl hown (mvT hZ (tw hw 10 rfl)) (mvT hZ (tw hw 11 rfl)) (mvT hZ (tw hw 12 rfl)) (by decide) (own_backS1 (s := s) (W := 1) (rmI1_0 l Z a0 hw [] b624 b626 k626 h626 n0 Z626 hEL f628 f629 f630 g_b624 V626) hZ (tw hw 12 rfl) (tw hw 8 rfl) (by decide) (by decide) hEL cs627.1 f628.lt y627_b624) (g := (mkF m 11 #[.val (.int (0 : Int32)), .val (.int c0), .val (.int c1), .val (.int c2), .val (.int c3), .val (.int c4)] [(.ref b626), (.ref b624), (.ref b624)])) rfl (by rw [hml]; rfl) (Steps.refl _) (a := b624) (argsL := [(.ref b626)]) (rest := [(.ref b624)]) (lenOf pd___C_V rfl) rfl (by show 2 * 0 + _ ≤ _; exact Nat.le_of_eq rfl) (hb hby d1_11) (fun _ _ => ⟨rfl, e626, (by decide : 2 + 4 ≤ _), (by decide : 4 + 8 ≤ _)⟩)
  dsimp only [Pt.U, Pt.locs, Pt.cells, Pt.slots] at X632 l632 y632 z632 st632 hQ632 hs632 hg632 crs632
  subst l632 y632 z632
  obtain ⟨X632, hSi632, hZ, hown⟩ := rebS hSi0 (by rw [e626]; exact hk627) X632 hs632 hg632 hZ hown
  obtain ⟨rfl, N632q, KC632, SP⟩ := hQ632
  have N632 := Fr.app N0 N632q
  have cs633 := crs632
  have cr633 := cr627.trans cs633
  have y633_b624 := cs633.safe f628.lt y627_b624
  have K632 := K626.trans KC632 (allS (Or.inr sz_b624) all0)
  have f634 := (f628.keep KC632)
  have pre635 : ∀ t, Steps p.tables e below (T632.setTop (mkF m 14 #[.val (.int (0 : Int32)), .val (.int c0), .val (.int c1), .val (.int c2), .val (.int c3), .val (.int c4)] [(.ref b624)])) t → Steps p.tables e below (T626.setTop (mkF m 11 #[.val (.int (0 : Int32)), .val (.int c0), .val (.int c1), .val (.int c2), .val (.int c3), .val (.int c4)] [(.ref b626), (.ref b624), (.ref b624)])) t := by
    intro t kt
    refine st632.trans ?_
    exact kt
  have yf_b624 := (CHv.at X632 hZ hEL cs633.1).safe f634.lt y633_b624
  obtain ⟨fs, hr, hrun, hended, e1, e2, e3, e4⟩ := X632.leaveW hSi632 (Nat.le_refl _) (v := some (.ref b624)) (fun h => by rw [Bd.returns] at h; cases h)
  refine ⟨_, _, (pre0 _ (pre631 _ (pre635 _ ?_))), hrun, hended, _, _, rfl, ?_, ?_, ⟨e1, e2, e3, e4.mono (by decide) (by decide)⟩⟩
  · show Steps p.tables e below (T632.setTop (mkF m 14 #[.val (.int (0 : Int32)), .val (.int c0), .val (.int c1), .val (.int c2), .val (.int c3), .val (.int c4)] [(.ref b624)])) _
    exact retOut X632 hx (t := (.object "java/lang/String")) Bd.returns rfl (Or.inr (Or.inr (Or.inr (Or.inr ⟨rfl, rfl, rfl⟩)))) (hb hby d1_14) hr
  · show QMk0 Z c0 c1 c2 c3 c4 h0 n0 _ T632.heap _ T632.vm
    exact ⟨b624, rfl, N632, own_ext K632, f634, SP⟩
  · have q := cr633.trans (CHv.at X632 hZ hEL cs633.1)
    show CHr Z EL s.vm s.heap T632.vm T632.heap
    rw [hh]
    exact q
theorem ef_0 (m : MethodId) (x0 : Int32) (x1 : Int32) (x2 : Int32) (x3 : Int32) (x4 : Int32) (x5 : Int32) : entryFrame m #[(.int x0), (.int x1), (.int x2), (.int x3), (.int x4), (.int x5)] maxLocals = mkF m 0 #[.val (.int x0), .val (.int x1), .val (.int x2), .val (.int x3), .val (.int x4), .val (.int x5), .unset, .unset, .unset, .unset, .unset, .unset, .unset, .unset] [] := by (first | (simp [entryFrame, mkF, argsToLocals, Value.category, maxLocals]; done) | rfl)
def Q0 (Z : State) (p0 : Int32) (p1 : Int32) (p2 : Int32) (p3 : Int32) (p4 : Int32) (p5 : Int32) (zc : Int32) (fm : Value) (h0 : Heap) (n0 : Nat) (v : Option Value) (h : Heap) (L : List Loc) (vm : Vm) : Prop := v = some (.int (1 : Int32)) ∧ Fr n0 L
theorem pd__ICCCCC_Ljava_lang_String_ : parseMethodDescriptor "(ICCCCC)Ljava/lang/String;" = some ⟨[.int, .char, .char, .char, .char, .char], some (.object "java/lang/String")⟩ := by decide +kernel
theorem pd__Ljava_lang_String__I : parseMethodDescriptor "(Ljava/lang/String;)I" = some ⟨[(.object "java/lang/String")], some .int⟩ := by decide +kernel
set_option maxRecDepth 65536 in
set_option maxHeartbeats 40000000 in
theorem rm0 (l : Launch) (Z : State) (a0 : Array Value) (hw : ∀ d ∈ tables_1, d.before a0 Z = true) (ws : List Jvm.Cond) (p0 : Int32) (p1 : Int32) (p2 : Int32) (p3 : Int32) (p4 : Int32) (p5 : Int32) (zc : Int32) (fm : Value) (h0 : Heap) (n0 : Nat) (Z0 : n0 ≤ h0.size) (hEL : EW Z a0 EL) (OZ : Old Z n0 h0) (SC : Sta Z Z.heap "java/lang/String" "COMPACT_STRINGS" "Z" (.int zc)) (hzc : ¬ zc = (0 : Int32)) (SA : Sta Z Z.heap "java/lang/StringUTF16" "$assertionsDisabled" "Z" (.int (1 : Int32))) (SH : Sta Z Z.heap "java/lang/StringUTF16" "HI_BYTE_SHIFT" "I" (.int (0 : Int32))) (SL : Sta Z Z.heap "java/lang/StringUTF16" "LO_BYTE_SHIFT" "I" (.int (8 : Int32))) (SFm : Sta Z Z.heap "jdk/internal/util/Preconditions" "SIOOBE_FORMATTER" "Ljava/util/function/BiFunction;" fm) (rf : fm.isRef = true) :
    MetFree l x (head1 (Jvm.Cond.code x code maxLocals ret :: ws) room_1) (fun a U => a = #[(.int p0), (.int p1), (.int p2), (.int p3), (.int p4), (.int p5)] ∧ Z.Warmed39 U.vm ∧ U.heap = h0 ∧ CHv Z EL U.vm h0) (fun _ _ _ _ _ => True) (fun _ U o U' => ∃ v L, o = .returned v ∧ Q0 Z p0 p1 p2 p3 p4 p5 zc fm h0 n0 v U'.heap L U'.vm ∧ CHr Z EL U.vm U.heap U'.vm U'.heap ∧ ReturnedEndW U o U' L room_1.cells room_1.slots) := by
  refine MetFree.of_bodySF (plainFor_of_name pn_com_example_corvid_corvid_classfile_ConstantPoolModifiedUtf8LengthPinLaw) hisR ?_
  intro p e s m args below meth c s₁ Bd hml0 hP hK
  obtain ⟨rfl, hZ, hh, hCH⟩ := hP
  have hx := Bd.exec
  have hby := Bd.bytes
  have hml : c.maxLocals = 14 := hml0
  have hown : s.vm.findClass "com/example/corvid/corvid/classfile/ConstantPoolModifiedUtf8LengthPinLaw" = some m.cls := findClass_of_methodNamed Bd.named
  have hnm := (name_of_methodNamed Bd.named Bd.method).1
  have X0 : Stand p l e room_1 s m #[(.int p0), (.int p1), (.int p2), (.int p3), (.int p4), (.int p5)] below meth c s₁ [] 0 0 := Stand.of_body Bd
  have e0 : s₁.heap = h0 := by rw [← hh, Bd.state]; rfl
  have N0 := Fr.nil n0
  have pre0 : ∀ t, Steps p.tables e below (s₁.setTop (mkF m 0 #[.val (.int p0), .val (.int p1), .val (.int p2), .val (.int p3), .val (.int p4), .val (.int p5), .unset, .unset, .unset, .unset, .unset, .unset, .unset, .unset] [])) t → Steps p.tables e below (s₁.setTop (entryFrame m #[(.int p0), (.int p1), (.int p2), (.int p3), (.int p4), (.int p5)] maxLocals)) t := fun t k => castTop (ef_0 m p0 p1 p2 p3 p4 p5) k
  have X0 : Stand p l e room_1 (s.setVm s.vm) m #[(.int p0), (.int p1), (.int p2), (.int p3), (.int p4), (.int p5)] below meth c s₁ [] 0 0 := by rw [State.setVm_self]; exact X0
  have hZ : Z.Warmed39 (s.setVm s.vm).vm := hZ
  have hown : (s.setVm s.vm).vm.findClass "com/example/corvid/corvid/classfile/ConstantPoolModifiedUtf8LengthPinLaw" = some m.cls := hown
  have hSi0 : s.Since s.vm 0 := (State.WarmedH.refl s).since 0
  obtain ⟨n, en, hn5⟩ := own_dep p0
  obtain ⟨c0, ec0, hc0⟩ := own_c16 (p1 &&& (65535 : Int32))
  obtain ⟨c1, ec1, hc1⟩ := own_c16 (p2 &&& (65535 : Int32))
  obtain ⟨c2, ec2, hc2⟩ := own_c16 (p3 &&& (65535 : Int32))
  obtain ⟨c3, ec3, hc3⟩ := own_c16 (p4 &&& (65535 : Int32))
  obtain ⟨c4, ec4, hc4⟩ := own_c16 (p5 &&& (65535 : Int32))
  have pre636 : ∀ t, Steps p.tables e below (s₁.setTop (mkF m 46 #[.val (.int p0), .val (.int p1), .val (.int p2), .val (.int p3), .val (.int p4), .val (.int p5), .val (.int (Int32.ofNat n)), .val (.int c0), .val (.int c1), .val (.int c2), .val (.int c3), .val (.int c4), .unset, .unset] [])) t → Steps p.tables e below (s₁.setTop (mkF m 0 #[.val (.int p0), .val (.int p1), .val (.int p2), .val (.int p3), .val (.int p4), .val (.int p5), .unset, .unset, .unset, .unset, .unset, .unset, .unset, .unset] [])) t := by
    intro t kt
    show Steps p.tables e below (s₁.setTop (mkF m 0 #[.val (.int p0), .val (.int p1), .val (.int p2), .val (.int p3), .val (.int p4), .val (.int p5), .unset, .unset, .unset, .unset, .unset, .unset, .unset, .unset] [])) _
    refine XS.iloadN X0.here hx rfl (hb hby at_0) rfl ?_
    refine X0.ldcInt hx hown (mvT hZ (tw hw 0 rfl)) (g := (mkF m 1 #[.val (.int p0), .val (.int p1), .val (.int p2), .val (.int p3), .val (.int p4), .val (.int p5), .unset, .unset, .unset, .unset, .unset, .unset, .unset, .unset] [(.int p0)])) rfl (hb hby at_1) _ ?_
    refine XS.iand X0.here hx rfl (hb hby at_3) rfl ?_
    refine XS.bipush X0.here hx rfl (hb hby at_4) ?_
    show Steps p.tables e below (s₁.setTop (mkF m 6 #[.val (.int p0), .val (.int p1), .val (.int p2), .val (.int p3), .val (.int p4), .val (.int p5), .unset, .unset, .unset, .unset, .unset, .unset, .unset, .unset] [(.int (6 : Int32)), (.int (p0 &&& (2147483647 : Int32)))])) _
    refine iremM X0 hx rfl (hb hby at_6) rfl (by decide) ?_
    show Steps p.tables e below (s₁.setTop (mkF m 7 #[.val (.int p0), .val (.int p1), .val (.int p2), .val (.int p3), .val (.int p4), .val (.int p5), .unset, .unset, .unset, .unset, .unset, .unset, .unset, .unset] [(.int ((p0 &&& (2147483647 : Int32)) % (6 : Int32)))])) _
    rw [en]
    show Steps p.tables e below (s₁.setTop (mkF m 7 #[.val (.int p0), .val (.int p1), .val (.int p2), .val (.int p3), .val (.int p4), .val (.int p5), .unset, .unset, .unset, .unset, .unset, .unset, .unset, .unset] [(.int (Int32.ofNat n))])) _
    refine XS.istore X0.here hx rfl (hb hby at_7) rfl (l' := #[.val (.int p0), .val (.int p1), .val (.int p2), .val (.int p3), .val (.int p4), .val (.int p5), .val (.int (Int32.ofNat n)), .unset, .unset, .unset, .unset, .unset, .unset, .unset]) rfl ?_
    refine XS.iloadN X0.here hx rfl (hb hby at_9) rfl ?_
    refine X0.ldcInt hx hown (mvT hZ (tw hw 1 rfl)) (g := (mkF m 10 #[.val (.int p0), .val (.int p1), .val (.int p2), .val (.int p3), .val (.int p4), .val (.int p5), .val (.int (Int32.ofNat n)), .unset, .unset, .unset, .unset, .unset, .unset, .unset] [(.int p1)])) rfl (hb hby at_10) _ ?_
    refine XS.iand X0.here hx rfl (hb hby at_12) rfl ?_
    refine XS.i2c X0.here hx rfl (hb hby at_13) rfl ?_
    show Steps p.tables e below (s₁.setTop (mkF m 14 #[.val (.int p0), .val (.int p1), .val (.int p2), .val (.int p3), .val (.int p4), .val (.int p5), .val (.int (Int32.ofNat n)), .unset, .unset, .unset, .unset, .unset, .unset, .unset] [(.int ((p1 &&& (65535 : Int32)).toUInt32.toUInt16.toUInt32.toInt32))])) _
    rw [ec0]
    show Steps p.tables e below (s₁.setTop (mkF m 14 #[.val (.int p0), .val (.int p1), .val (.int p2), .val (.int p3), .val (.int p4), .val (.int p5), .val (.int (Int32.ofNat n)), .unset, .unset, .unset, .unset, .unset, .unset, .unset] [(.int c0)])) _
    refine XS.istore X0.here hx rfl (hb hby at_14) rfl (l' := #[.val (.int p0), .val (.int p1), .val (.int p2), .val (.int p3), .val (.int p4), .val (.int p5), .val (.int (Int32.ofNat n)), .val (.int c0), .unset, .unset, .unset, .unset, .unset, .unset]) rfl ?_
    refine XS.iloadN X0.here hx rfl (hb hby at_16) rfl ?_
    refine X0.ldcInt hx hown (mvT hZ (tw hw 1 rfl)) (g := (mkF m 17 #[.val (.int p0), .val (.int p1), .val (.int p2), .val (.int p3), .val (.int p4), .val (.int p5), .val (.int (Int32.ofNat n)), .val (.int c0), .unset, .unset, .unset, .unset, .unset, .unset] [(.int p2)])) rfl (hb hby at_17) _ ?_
    refine XS.iand X0.here hx rfl (hb hby at_19) rfl ?_
    refine XS.i2c X0.here hx rfl (hb hby at_20) rfl ?_
    show Steps p.tables e below (s₁.setTop (mkF m 21 #[.val (.int p0), .val (.int p1), .val (.int p2), .val (.int p3), .val (.int p4), .val (.int p5), .val (.int (Int32.ofNat n)), .val (.int c0), .unset, .unset, .unset, .unset, .unset, .unset] [(.int ((p2 &&& (65535 : Int32)).toUInt32.toUInt16.toUInt32.toInt32))])) _
    rw [ec1]
    show Steps p.tables e below (s₁.setTop (mkF m 21 #[.val (.int p0), .val (.int p1), .val (.int p2), .val (.int p3), .val (.int p4), .val (.int p5), .val (.int (Int32.ofNat n)), .val (.int c0), .unset, .unset, .unset, .unset, .unset, .unset] [(.int c1)])) _
    refine XS.istore X0.here hx rfl (hb hby at_21) rfl (l' := #[.val (.int p0), .val (.int p1), .val (.int p2), .val (.int p3), .val (.int p4), .val (.int p5), .val (.int (Int32.ofNat n)), .val (.int c0), .val (.int c1), .unset, .unset, .unset, .unset, .unset]) rfl ?_
    refine XS.iloadN X0.here hx rfl (hb hby at_23) rfl ?_
    refine X0.ldcInt hx hown (mvT hZ (tw hw 1 rfl)) (g := (mkF m 24 #[.val (.int p0), .val (.int p1), .val (.int p2), .val (.int p3), .val (.int p4), .val (.int p5), .val (.int (Int32.ofNat n)), .val (.int c0), .val (.int c1), .unset, .unset, .unset, .unset, .unset] [(.int p3)])) rfl (hb hby at_24) _ ?_
    refine XS.iand X0.here hx rfl (hb hby at_26) rfl ?_
    refine XS.i2c X0.here hx rfl (hb hby at_27) rfl ?_
    show Steps p.tables e below (s₁.setTop (mkF m 28 #[.val (.int p0), .val (.int p1), .val (.int p2), .val (.int p3), .val (.int p4), .val (.int p5), .val (.int (Int32.ofNat n)), .val (.int c0), .val (.int c1), .unset, .unset, .unset, .unset, .unset] [(.int ((p3 &&& (65535 : Int32)).toUInt32.toUInt16.toUInt32.toInt32))])) _
    rw [ec2]
    show Steps p.tables e below (s₁.setTop (mkF m 28 #[.val (.int p0), .val (.int p1), .val (.int p2), .val (.int p3), .val (.int p4), .val (.int p5), .val (.int (Int32.ofNat n)), .val (.int c0), .val (.int c1), .unset, .unset, .unset, .unset, .unset] [(.int c2)])) _
    refine XS.istore X0.here hx rfl (hb hby at_28) rfl (l' := #[.val (.int p0), .val (.int p1), .val (.int p2), .val (.int p3), .val (.int p4), .val (.int p5), .val (.int (Int32.ofNat n)), .val (.int c0), .val (.int c1), .val (.int c2), .unset, .unset, .unset, .unset]) rfl ?_
    refine XS.iload X0.here hx rfl (hb hby at_30) rfl ?_
    refine X0.ldcInt hx hown (mvT hZ (tw hw 1 rfl)) (g := (mkF m 32 #[.val (.int p0), .val (.int p1), .val (.int p2), .val (.int p3), .val (.int p4), .val (.int p5), .val (.int (Int32.ofNat n)), .val (.int c0), .val (.int c1), .val (.int c2), .unset, .unset, .unset, .unset] [(.int p4)])) rfl (hb hby at_32) _ ?_
    refine XS.iand X0.here hx rfl (hb hby at_34) rfl ?_
    refine XS.i2c X0.here hx rfl (hb hby at_35) rfl ?_
    show Steps p.tables e below (s₁.setTop (mkF m 36 #[.val (.int p0), .val (.int p1), .val (.int p2), .val (.int p3), .val (.int p4), .val (.int p5), .val (.int (Int32.ofNat n)), .val (.int c0), .val (.int c1), .val (.int c2), .unset, .unset, .unset, .unset] [(.int ((p4 &&& (65535 : Int32)).toUInt32.toUInt16.toUInt32.toInt32))])) _
    rw [ec3]
    show Steps p.tables e below (s₁.setTop (mkF m 36 #[.val (.int p0), .val (.int p1), .val (.int p2), .val (.int p3), .val (.int p4), .val (.int p5), .val (.int (Int32.ofNat n)), .val (.int c0), .val (.int c1), .val (.int c2), .unset, .unset, .unset, .unset] [(.int c3)])) _
    refine XS.istore X0.here hx rfl (hb hby at_36) rfl (l' := #[.val (.int p0), .val (.int p1), .val (.int p2), .val (.int p3), .val (.int p4), .val (.int p5), .val (.int (Int32.ofNat n)), .val (.int c0), .val (.int c1), .val (.int c2), .val (.int c3), .unset, .unset, .unset]) rfl ?_
    refine XS.iload X0.here hx rfl (hb hby at_38) rfl ?_
    refine X0.ldcInt hx hown (mvT hZ (tw hw 1 rfl)) (g := (mkF m 40 #[.val (.int p0), .val (.int p1), .val (.int p2), .val (.int p3), .val (.int p4), .val (.int p5), .val (.int (Int32.ofNat n)), .val (.int c0), .val (.int c1), .val (.int c2), .val (.int c3), .unset, .unset, .unset] [(.int p5)])) rfl (hb hby at_40) _ ?_
    refine XS.iand X0.here hx rfl (hb hby at_42) rfl ?_
    refine XS.i2c X0.here hx rfl (hb hby at_43) rfl ?_
    show Steps p.tables e below (s₁.setTop (mkF m 44 #[.val (.int p0), .val (.int p1), .val (.int p2), .val (.int p3), .val (.int p4), .val (.int p5), .val (.int (Int32.ofNat n)), .val (.int c0), .val (.int c1), .val (.int c2), .val (.int c3), .unset, .unset, .unset] [(.int ((p5 &&& (65535 : Int32)).toUInt32.toUInt16.toUInt32.toInt32))])) _
    rw [ec4]
    show Steps p.tables e below (s₁.setTop (mkF m 44 #[.val (.int p0), .val (.int p1), .val (.int p2), .val (.int p3), .val (.int p4), .val (.int p5), .val (.int (Int32.ofNat n)), .val (.int c0), .val (.int c1), .val (.int c2), .val (.int c3), .unset, .unset, .unset] [(.int c4)])) _
    refine XS.istore X0.here hx rfl (hb hby at_44) rfl (l' := #[.val (.int p0), .val (.int p1), .val (.int p2), .val (.int p3), .val (.int p4), .val (.int p5), .val (.int (Int32.ofNat n)), .val (.int c0), .val (.int c1), .val (.int c2), .val (.int c3), .val (.int c4), .unset, .unset]) rfl ?_
    exact kt
  rcases own_six hn5 with rfl | rfl | rfl | rfl | rfl | rfl
  · skip
    have pre637 : ∀ t, Steps p.tables e below (s₁.setTop (mkF m 58 #[.val (.int p0), .val (.int p1), .val (.int p2), .val (.int p3), .val (.int p4), .val (.int p5), .val (.int (0 : Int32)), .val (.int c0), .val (.int c1), .val (.int c2), .val (.int c3), .val (.int c4), .unset, .unset] [(.int c4), (.int c3), (.int c2), (.int c1), (.int c0), (.int (0 : Int32))])) t → Steps p.tables e below (s₁.setTop (mkF m 46 #[.val (.int p0), .val (.int p1), .val (.int p2), .val (.int p3), .val (.int p4), .val (.int p5), .val (.int (0 : Int32)), .val (.int c0), .val (.int c1), .val (.int c2), .val (.int c3), .val (.int c4), .unset, .unset] [])) t := by
      intro t kt
      show Steps p.tables e below (s₁.setTop (mkF m 46 #[.val (.int p0), .val (.int p1), .val (.int p2), .val (.int p3), .val (.int p4), .val (.int p5), .val (.int (0 : Int32)), .val (.int c0), .val (.int c1), .val (.int c2), .val (.int c3), .val (.int c4), .unset, .unset] [])) _
      refine XS.iload X0.here hx rfl (hb hby at_46) rfl ?_
      refine XS.iload X0.here hx rfl (hb hby at_48) rfl ?_
      refine XS.iload X0.here hx rfl (hb hby at_50) rfl ?_
      refine XS.iload X0.here hx rfl (hb hby at_52) rfl ?_
      refine XS.iload X0.here hx rfl (hb hby at_54) rfl ?_
      refine XS.iload X0.here hx rfl (hb hby at_56) rfl ?_
      exact kt
    obtain ⟨_, _, ⟨T638, L638, k638, n638⟩, -, X638, hs638, hg638, ⟨Lc638, hQ638, l638, y638, z638, crs638⟩, st638⟩ := callSS X0 hx (y := (⟨"com/example/corvid/corvid/classfile/ConstantPoolModifiedUtf8LengthPinLaw", "make", "(ICCCCC)Ljava/lang/String;"⟩ : MethodName)) hown (mvT hZ (tw hw 2 rfl)) (mvT hZ (tw hw 3 rfl)) (mvT hZ (tw hw 4 rfl)) (mvT hZ (tw hw 5 rfl)) (by decide) (own_backS0 (s := s) (W := 0) (rmMk0 l Z a0 hw [] c0 c1 c2 c3 c4 h0 n0 Z0 hEL) hZ (tw hw 5 rfl) (tw hw 4 rfl) (by decide) (by decide) hEL hCH) (g := (mkF m 58 #[.val (.int p0), .val (.int p1), .val (.int p2), .val (.int p3), .val (.int p4), .val (.int p5), .val (.int (0 : Int32)), .val (.int c0), .val (.int c1), .val (.int c2), .val (.int c3), .val (.int c4), .unset, .unset] [(.int c4), (.int c3), (.int c2), (.int c1), (.int c0), (.int (0 : Int32))])) rfl (by rw [hml]; rfl) (argsL := [(.int (0 : Int32)), (.int c0), (.int c1), (.int c2), (.int c3), (.int c4)]) (rest := []) (lenOf pd__ICCCCC_Ljava_lang_String_ rfl) rfl (by show 2 * 0 + _ ≤ _; exact Nat.le_of_eq rfl) (hb hby at_58) (fun _ _ => ⟨rfl, e0, (by decide : 0 + 6 ≤ _), (by decide : 0 + 20 ≤ _)⟩)
    dsimp only [Pt.U, Pt.locs, Pt.cells, Pt.slots] at X638 l638 y638 z638 st638 hQ638 hs638 hg638 crs638
    subst l638 y638 z638
    obtain ⟨X638, hSi638, hZ, hown⟩ := rebS hSi0 (by rw [e0]; exact (Nat.zero_le _)) X638 hs638 hg638 hZ hown
    obtain ⟨x8, rfl, N638q, EX638, E8, SP⟩ := hQ638
    have N638 := Fr.app N0 N638q
    have cs639 := crs638
    have cr639 := (CHr.refl hCH).trans cs639
    have Z638 := Nat.le_trans Z0 EX638.1
    have hcs : ∀ i, i < 0 → nar .char (([] : List Int32).getD i 0) = ([] : List Int32).getD i 0 := fun i hi => absurd hi (by omega)
    have f640 := (OZ.ext EX638)
    obtain ⟨_, _, ⟨T641, L641, k641, n641⟩, -, X641, ⟨Lc641, hQ641, l641, y641, z641⟩, st641⟩ := Jvm.LawKit.callS X638 hx (y := (⟨"com/example/corvid/corvid/classfile/ConstantPool", "modifiedUtf8Length", "(Ljava/lang/String;)I"⟩ : MethodName)) hown (mvT hZ (tw hw 28 rfl)) (mvT hZ (tw hw 29 rfl)) (mvT hZ (tw hw 30 rfl)) (mvT hZ (tw hw 31 rfl)) (by decide) (backOf (W := 0) (rmMuS l Z a0 hw [] x8 [] zc fm T638.heap n0 Z638 (SC.ext f640.2) hzc (SFm.ext f640.2) rf (SA.ext f640.2) (SH.ext f640.2) (SL.ext f640.2) E8 SP (by decide : 0 ≤ 5) hcs) hZ (tw hw 31 rfl) (tw hw 30 rfl) (by decide) (by decide)) (g := (mkF m 147 #[.val (.int p0), .val (.int p1), .val (.int p2), .val (.int p3), .val (.int p4), .val (.int p5), .val (.int (0 : Int32)), .val (.int c0), .val (.int c1), .val (.int c2), .val (.int c3), .val (.int c4), .val (.ref x8), .val (.int (0 : Int32))] [(.ref x8)])) rfl (by rw [hml]; rfl) (argsL := [(.ref x8)]) (rest := []) (lenOf pd__Ljava_lang_String__I rfl) rfl (by show 2 * 0 + _ ≤ _; exact Nat.le_of_eq rfl) (hb hby at_147) (fun _ _ => ⟨rfl, rfl, (by decide : 6 + 0 ≤ _), (by decide : 20 + 0 ≤ _)⟩)
    dsimp only [Pt.U, Pt.locs, Pt.cells, Pt.slots] at X641 l641 y641 z641 st641 hQ641
    subst l641 y641 z641
    obtain ⟨rfl, N641q, EQ641⟩ := hQ641
    have N641 := Fr.app N638 N641q
    have ch642 : CHv Z EL T638.vm T641.heap := by rw [EQ641]; exact cs639.1
    have cr642 : CHr Z EL s.vm h0 T638.vm T641.heap := by rw [EQ641]; exact cr639
    have hk642 : T638.heap.size ≤ T641.heap.size := by rw [EQ641]; exact (Nat.le_refl _)
    have pre643 : ∀ t, Steps p.tables e below (T641.setTop (mkF m 160 #[.val (.int p0), .val (.int p1), .val (.int p2), .val (.int p3), .val (.int p4), .val (.int p5), .val (.int (0 : Int32)), .val (.int c0), .val (.int c1), .val (.int c2), .val (.int c3), .val (.int c4), .val (.ref x8), .val (.int (0 : Int32))] [(.int (1 : Int32))])) t → Steps p.tables e below (s₁.setTop (mkF m 58 #[.val (.int p0), .val (.int p1), .val (.int p2), .val (.int p3), .val (.int p4), .val (.int p5), .val (.int (0 : Int32)), .val (.int c0), .val (.int c1), .val (.int c2), .val (.int c3), .val (.int c4), .unset, .unset] [(.int c4), (.int c3), (.int c2), (.int c1), (.int c0), (.int (0 : Int32))])) t := by
      intro t kt
      refine st638.trans ?_
      show Steps p.tables e below (T638.setTop (mkF m 61 #[.val (.int p0), .val (.int p1), .val (.int p2), .val (.int p3), .val (.int p4), .val (.int p5), .val (.int (0 : Int32)), .val (.int c0), .val (.int c1), .val (.int c2), .val (.int c3), .val (.int c4), .unset, .unset] [(.ref x8)])) _
      refine XS.astore X638.here hx rfl (hb hby at_61) rfl rfl (l' := #[.val (.int p0), .val (.int p1), .val (.int p2), .val (.int p3), .val (.int p4), .val (.int p5), .val (.int (0 : Int32)), .val (.int c0), .val (.int c1), .val (.int c2), .val (.int c3), .val (.int c4), .val (.ref x8), .unset]) rfl ?_
      refine XS.iconst X638.here hx rfl (hb hby at_63) ?_
      refine XS.istore X638.here hx rfl (hb hby at_64) rfl (l' := #[.val (.int p0), .val (.int p1), .val (.int p2), .val (.int p3), .val (.int p4), .val (.int p5), .val (.int (0 : Int32)), .val (.int c0), .val (.int c1), .val (.int c2), .val (.int c3), .val (.int c4), .val (.ref x8), .val (.int (0 : Int32))]) rfl ?_
      refine XS.iload X638.here hx rfl (hb hby at_66) rfl ?_
      refine XS.ifYes X638.here hx rfl (pc0 := 68) (pc' := 81) rfl (hb hby at_68) rfl ((if0 _ _).trans (flt (by decide : ¬ ((0 : Int32) < (0 : Int32)))).2.2.2) (by decide) (by decide) ?_
      show Steps p.tables e below (T638.setTop (mkF m 81 #[.val (.int p0), .val (.int p1), .val (.int p2), .val (.int p3), .val (.int p4), .val (.int p5), .val (.int (0 : Int32)), .val (.int c0), .val (.int c1), .val (.int c2), .val (.int c3), .val (.int c4), .val (.ref x8), .val (.int (0 : Int32))] [])) _
      refine XS.iload X638.here hx rfl (hb hby at_81) rfl ?_
      refine XS.iconst X638.here hx rfl (hb hby at_83) ?_
      refine XS.icmpYes X638.here hx rfl (pc0 := 84) (pc' := 97) rfl (hb hby at_84) rfl (flt (by decide : ¬ ((1 : Int32) < (0 : Int32)))).2.2.2 (by decide) (by decide) ?_
      show Steps p.tables e below (T638.setTop (mkF m 97 #[.val (.int p0), .val (.int p1), .val (.int p2), .val (.int p3), .val (.int p4), .val (.int p5), .val (.int (0 : Int32)), .val (.int c0), .val (.int c1), .val (.int c2), .val (.int c3), .val (.int c4), .val (.ref x8), .val (.int (0 : Int32))] [])) _
      refine XS.iload X638.here hx rfl (hb hby at_97) rfl ?_
      refine XS.iconst X638.here hx rfl (hb hby at_99) ?_
      refine XS.icmpYes X638.here hx rfl (pc0 := 100) (pc' := 113) rfl (hb hby at_100) rfl (flt (by decide : ¬ ((2 : Int32) < (0 : Int32)))).2.2.2 (by decide) (by decide) ?_
      show Steps p.tables e below (T638.setTop (mkF m 113 #[.val (.int p0), .val (.int p1), .val (.int p2), .val (.int p3), .val (.int p4), .val (.int p5), .val (.int (0 : Int32)), .val (.int c0), .val (.int c1), .val (.int c2), .val (.int c3), .val (.int c4), .val (.ref x8), .val (.int (0 : Int32))] [])) _
      refine XS.iload X638.here hx rfl (hb hby at_113) rfl ?_
      refine XS.iconst X638.here hx rfl (hb hby at_115) ?_
      refine XS.icmpYes X638.here hx rfl (pc0 := 116) (pc' := 129) rfl (hb hby at_116) rfl (flt (by decide : ¬ ((3 : Int32) < (0 : Int32)))).2.2.2 (by decide) (by decide) ?_
      show Steps p.tables e below (T638.setTop (mkF m 129 #[.val (.int p0), .val (.int p1), .val (.int p2), .val (.int p3), .val (.int p4), .val (.int p5), .val (.int (0 : Int32)), .val (.int c0), .val (.int c1), .val (.int c2), .val (.int c3), .val (.int c4), .val (.ref x8), .val (.int (0 : Int32))] [])) _
      refine XS.iload X638.here hx rfl (hb hby at_129) rfl ?_
      refine XS.iconst X638.here hx rfl (hb hby at_131) ?_
      refine XS.icmpYes X638.here hx rfl (pc0 := 132) (pc' := 145) rfl (hb hby at_132) rfl (flt (by decide : ¬ ((4 : Int32) < (0 : Int32)))).2.2.2 (by decide) (by decide) ?_
      show Steps p.tables e below (T638.setTop (mkF m 145 #[.val (.int p0), .val (.int p1), .val (.int p2), .val (.int p3), .val (.int p4), .val (.int p5), .val (.int (0 : Int32)), .val (.int c0), .val (.int c1), .val (.int c2), .val (.int c3), .val (.int c4), .val (.ref x8), .val (.int (0 : Int32))] [])) _
      refine XS.aload X638.here hx rfl (hb hby at_145) rfl rfl ?_
      refine st641 _ ?_
      show Steps p.tables e below (T641.setTop (mkF m 150 #[.val (.int p0), .val (.int p1), .val (.int p2), .val (.int p3), .val (.int p4), .val (.int p5), .val (.int (0 : Int32)), .val (.int c0), .val (.int c1), .val (.int c2), .val (.int c3), .val (.int c4), .val (.ref x8), .val (.int (0 : Int32))] [(.int (own_acc [] 0))])) _
      refine XS.iload X641.here hx rfl (hb hby at_150) rfl ?_
      refine XS.icmpNo X641.here hx rfl (hb hby at_152) rfl (teq (rfl : (own_acc [] 0) = (0 : Int32))).2 ?_
      show Steps p.tables e below (T641.setTop (mkF m 155 #[.val (.int p0), .val (.int p1), .val (.int p2), .val (.int p3), .val (.int p4), .val (.int p5), .val (.int (0 : Int32)), .val (.int c0), .val (.int c1), .val (.int c2), .val (.int c3), .val (.int c4), .val (.ref x8), .val (.int (0 : Int32))] [])) _
      refine XS.iconst X641.here hx rfl (hb hby at_155) ?_
      refine XS.goto X641.here hx rfl (pc0 := 156) (pc' := 160) rfl (hb hby at_156) (by decide) (by decide) ?_
      exact kt
    obtain ⟨fs, hr, hrun, hended, e1, e2, e3, e4⟩ := X641.leaveW hSi638 hk642 (v := some (.int (1 : Int32))) (fun h => by rw [Bd.returns] at h; cases h)
    refine ⟨_, _, (pre0 _ (pre636 _ (pre637 _ (pre643 _ ?_)))), hrun, hended, _, _, rfl, ?_, ?_, ⟨e1, e2, e3, e4.mono (by decide) (by decide)⟩⟩
    · show Steps p.tables e below (T641.setTop (mkF m 160 #[.val (.int p0), .val (.int p1), .val (.int p2), .val (.int p3), .val (.int p4), .val (.int p5), .val (.int (0 : Int32)), .val (.int c0), .val (.int c1), .val (.int c2), .val (.int c3), .val (.int c4), .val (.ref x8), .val (.int (0 : Int32))] [(.int (1 : Int32))])) _
      exact retN X641 hx (t := .boolean) Bd.returns (by simp) (hb hby at_160) hr
    · show Q0 Z p0 p1 p2 p3 p4 p5 zc fm h0 n0 _ T641.heap _ T641.vm
      exact ⟨rfl, N641⟩
    · have q := cr642.trans (CHv.at X641 hZ hEL ch642)
      show CHr Z EL s.vm s.heap T641.vm T641.heap
      rw [hh]
      exact q
  · skip
    obtain ⟨_, _, ⟨T644, L644, k644, n644⟩, -, X644, ⟨Lc644, hQ644, l644, y644, z644⟩, st644⟩ := Jvm.LawKit.callS X0 hx (y := (⟨"com/example/corvid/corvid/classfile/ConstantPoolModifiedUtf8LengthPinLaw", "make", "(ICCCCC)Ljava/lang/String;"⟩ : MethodName)) hown (mvT hZ (tw hw 2 rfl)) (mvT hZ (tw hw 3 rfl)) (mvT hZ (tw hw 4 rfl)) (mvT hZ (tw hw 5 rfl)) (by decide) (backOf (W := 0) (rmMk1 l Z a0 hw [] c0 c1 c2 c3 c4 zc h0 n0 Z0 OZ SC hzc SA SH SL) hZ (tw hw 5 rfl) (tw hw 4 rfl) (by decide) (by decide)) (g := (mkF m 58 #[.val (.int p0), .val (.int p1), .val (.int p2), .val (.int p3), .val (.int p4), .val (.int p5), .val (.int (1 : Int32)), .val (.int c0), .val (.int c1), .val (.int c2), .val (.int c3), .val (.int c4), .unset, .unset] [(.int c4), (.int c3), (.int c2), (.int c1), (.int c0), (.int (1 : Int32))])) rfl (by rw [hml]; rfl) (argsL := [(.int (1 : Int32)), (.int c0), (.int c1), (.int c2), (.int c3), (.int c4)]) (rest := []) (lenOf pd__ICCCCC_Ljava_lang_String_ rfl) rfl (by show 2 * 0 + _ ≤ _; exact Nat.le_of_eq rfl) (hb hby at_58) (fun _ _ => ⟨rfl, e0, (by decide : 0 + 2 ≤ _), (by decide : 0 + 6 ≤ _)⟩)
    dsimp only [Pt.U, Pt.locs, Pt.cells, Pt.slots] at X644 l644 y644 z644 st644 hQ644
    subst l644 y644 z644
    obtain ⟨x8, rfl, N644q, EX644, E8, SP⟩ := hQ644
    have N644 := Fr.app N0 N644q
    have cs645 := CHr.ext EX644 hCH
    have cr645 := (CHr.refl hCH).trans cs645
    have hk645 := Nat.le_trans (Nat.zero_le _) cs645.2.1
    have Z644 := Nat.le_trans Z0 EX644.1
    obtain ⟨_, _, ⟨T646, L646, k646, n646⟩, -, X646, ⟨Lc646, hQ646, l646, y646, z646⟩, st646⟩ := Jvm.LawKit.callS X644 hx (y := (⟨"com/example/corvid/corvid/classfile/ConstantPoolModifiedUtf8LengthPinLaw", "bytes", "(C)I"⟩ : MethodName)) hown (mvT hZ (tw hw 53 rfl)) (mvT hZ (tw hw 54 rfl)) (mvT hZ (tw hw 4 rfl)) (mvT hZ (tw hw 55 rfl)) (by decide) (backOf (W := 1) (rmByt l Z a0 hw [] c0 T644.heap n0 Z644) hZ (tw hw 55 rfl) (tw hw 4 rfl) (by decide) (by decide)) (g := (mkF m 75 #[.val (.int p0), .val (.int p1), .val (.int p2), .val (.int p3), .val (.int p4), .val (.int p5), .val (.int (1 : Int32)), .val (.int c0), .val (.int c1), .val (.int c2), .val (.int c3), .val (.int c4), .val (.ref x8), .val (.int (0 : Int32))] [(.int c0), (.int (0 : Int32))])) rfl (by rw [hml]; rfl) (argsL := [(.int c0)]) (rest := [(.int (0 : Int32))]) (lenOf pd__C_I rfl) rfl (by show 2 * 0 + _ ≤ _; exact Nat.le_of_eq rfl) (hb hby at_75) (fun _ _ => ⟨rfl, rfl, (by decide : 2 + 0 ≤ _), (by decide : 6 + 0 ≤ _)⟩)
    dsimp only [Pt.U, Pt.locs, Pt.cells, Pt.slots] at X646 l646 y646 z646 st646 hQ646
    subst l646 y646 z646
    obtain ⟨rfl, N646q, EQ646⟩ := hQ646
    have N646 := Fr.app N644 N646q
    have ch647 : CHv Z EL s.vm T646.heap := by rw [EQ646]; exact cs645.1
    have cr647 : CHr Z EL s.vm h0 s.vm T646.heap := by rw [EQ646]; exact cr645
    have hk647 : 0 ≤ T646.heap.size := by rw [EQ646]; exact hk645
    have Z646 : n0 ≤ T646.heap.size := by rw [EQ646]; exact Z644
    have hcs : ∀ i, i < 1 → nar .char ([c0].getD i 0) = [c0].getD i 0 := fun i hi => by
      match i, hi with
      | 0, _ => exact hc0
    have f648 := (EQ646 ▸ (OZ.ext EX644))
    have f649 := (EQ646 ▸ E8)
    have f650 := (EQ646 ▸ SP)
    obtain ⟨_, _, ⟨T651, L651, k651, n651⟩, -, X651, ⟨Lc651, hQ651, l651, y651, z651⟩, st651⟩ := Jvm.LawKit.callS X646 hx (y := (⟨"com/example/corvid/corvid/classfile/ConstantPool", "modifiedUtf8Length", "(Ljava/lang/String;)I"⟩ : MethodName)) hown (mvT hZ (tw hw 28 rfl)) (mvT hZ (tw hw 29 rfl)) (mvT hZ (tw hw 30 rfl)) (mvT hZ (tw hw 31 rfl)) (by decide) (backOf (W := 0) (rmMuS l Z a0 hw [] x8 [c0] zc fm T646.heap n0 Z646 (SC.ext f648.2) hzc (SFm.ext f648.2) rf (SA.ext f648.2) (SH.ext f648.2) (SL.ext f648.2) f649 f650 (by decide : 1 ≤ 5) hcs) hZ (tw hw 31 rfl) (tw hw 30 rfl) (by decide) (by decide)) (g := (mkF m 147 #[.val (.int p0), .val (.int p1), .val (.int p2), .val (.int p3), .val (.int p4), .val (.int p5), .val (.int (1 : Int32)), .val (.int c0), .val (.int c1), .val (.int c2), .val (.int c3), .val (.int c4), .val (.ref x8), .val (.int ((0 : Int32) + (own_mu c0)))] [(.ref x8)])) rfl (by rw [hml]; rfl) (argsL := [(.ref x8)]) (rest := []) (lenOf pd__Ljava_lang_String__I rfl) rfl (by show 2 * 0 + _ ≤ _; exact Nat.le_of_eq rfl) (hb hby at_147) (fun _ _ => ⟨rfl, rfl, (by decide : 2 + 0 ≤ _), (by decide : 6 + 0 ≤ _)⟩)
    dsimp only [Pt.U, Pt.locs, Pt.cells, Pt.slots] at X651 l651 y651 z651 st651 hQ651
    subst l651 y651 z651
    obtain ⟨rfl, N651q, EQ651⟩ := hQ651
    have N651 := Fr.app N646 N651q
    have ch652 : CHv Z EL s.vm T651.heap := by rw [EQ651]; exact ch647
    have cr652 : CHr Z EL s.vm h0 s.vm T651.heap := by rw [EQ651]; exact cr647
    have hk652 : 0 ≤ T651.heap.size := by rw [EQ651]; exact hk647
    have pre653 : ∀ t, Steps p.tables e below (T651.setTop (mkF m 160 #[.val (.int p0), .val (.int p1), .val (.int p2), .val (.int p3), .val (.int p4), .val (.int p5), .val (.int (1 : Int32)), .val (.int c0), .val (.int c1), .val (.int c2), .val (.int c3), .val (.int c4), .val (.ref x8), .val (.int ((0 : Int32) + (own_mu c0)))] [(.int (1 : Int32))])) t → Steps p.tables e below (s₁.setTop (mkF m 46 #[.val (.int p0), .val (.int p1), .val (.int p2), .val (.int p3), .val (.int p4), .val (.int p5), .val (.int (1 : Int32)), .val (.int c0), .val (.int c1), .val (.int c2), .val (.int c3), .val (.int c4), .unset, .unset] [])) t := by
      intro t kt
      show Steps p.tables e below (s₁.setTop (mkF m 46 #[.val (.int p0), .val (.int p1), .val (.int p2), .val (.int p3), .val (.int p4), .val (.int p5), .val (.int (1 : Int32)), .val (.int c0), .val (.int c1), .val (.int c2), .val (.int c3), .val (.int c4), .unset, .unset] [])) _
      refine XS.iload X0.here hx rfl (hb hby at_46) rfl ?_
      refine XS.iload X0.here hx rfl (hb hby at_48) rfl ?_
      refine XS.iload X0.here hx rfl (hb hby at_50) rfl ?_
      refine XS.iload X0.here hx rfl (hb hby at_52) rfl ?_
      refine XS.iload X0.here hx rfl (hb hby at_54) rfl ?_
      refine XS.iload X0.here hx rfl (hb hby at_56) rfl ?_
      refine st644 _ ?_
      show Steps p.tables e below (T644.setTop (mkF m 61 #[.val (.int p0), .val (.int p1), .val (.int p2), .val (.int p3), .val (.int p4), .val (.int p5), .val (.int (1 : Int32)), .val (.int c0), .val (.int c1), .val (.int c2), .val (.int c3), .val (.int c4), .unset, .unset] [(.ref x8)])) _
      refine XS.astore X644.here hx rfl (hb hby at_61) rfl rfl (l' := #[.val (.int p0), .val (.int p1), .val (.int p2), .val (.int p3), .val (.int p4), .val (.int p5), .val (.int (1 : Int32)), .val (.int c0), .val (.int c1), .val (.int c2), .val (.int c3), .val (.int c4), .val (.ref x8), .unset]) rfl ?_
      refine XS.iconst X644.here hx rfl (hb hby at_63) ?_
      refine XS.istore X644.here hx rfl (hb hby at_64) rfl (l' := #[.val (.int p0), .val (.int p1), .val (.int p2), .val (.int p3), .val (.int p4), .val (.int p5), .val (.int (1 : Int32)), .val (.int c0), .val (.int c1), .val (.int c2), .val (.int c3), .val (.int c4), .val (.ref x8), .val (.int (0 : Int32))]) rfl ?_
      refine XS.iload X644.here hx rfl (hb hby at_66) rfl ?_
      refine XS.ifNo X644.here hx rfl (hb hby at_68) rfl ((if0 _ _).trans (tlt (by decide : (0 : Int32) < (1 : Int32))).2.2.2) ?_
      show Steps p.tables e below (T644.setTop (mkF m 71 #[.val (.int p0), .val (.int p1), .val (.int p2), .val (.int p3), .val (.int p4), .val (.int p5), .val (.int (1 : Int32)), .val (.int c0), .val (.int c1), .val (.int c2), .val (.int c3), .val (.int c4), .val (.ref x8), .val (.int (0 : Int32))] [])) _
      refine XS.iload X644.here hx rfl (hb hby at_71) rfl ?_
      refine XS.iload X644.here hx rfl (hb hby at_73) rfl ?_
      refine st646 _ ?_
      show Steps p.tables e below (T646.setTop (mkF m 78 #[.val (.int p0), .val (.int p1), .val (.int p2), .val (.int p3), .val (.int p4), .val (.int p5), .val (.int (1 : Int32)), .val (.int c0), .val (.int c1), .val (.int c2), .val (.int c3), .val (.int c4), .val (.ref x8), .val (.int (0 : Int32))] [(.int (own_mu c0)), (.int (0 : Int32))])) _
      refine XS.iadd X646.here hx rfl (hb hby at_78) rfl ?_
      refine XS.istore X646.here hx rfl (hb hby at_79) rfl (l' := #[.val (.int p0), .val (.int p1), .val (.int p2), .val (.int p3), .val (.int p4), .val (.int p5), .val (.int (1 : Int32)), .val (.int c0), .val (.int c1), .val (.int c2), .val (.int c3), .val (.int c4), .val (.ref x8), .val (.int ((0 : Int32) + (own_mu c0)))]) rfl ?_
      refine XS.iload X646.here hx rfl (hb hby at_81) rfl ?_
      refine XS.iconst X646.here hx rfl (hb hby at_83) ?_
      refine XS.icmpYes X646.here hx rfl (pc0 := 84) (pc' := 97) rfl (hb hby at_84) rfl (flt (by decide : ¬ ((1 : Int32) < (1 : Int32)))).2.2.2 (by decide) (by decide) ?_
      show Steps p.tables e below (T646.setTop (mkF m 97 #[.val (.int p0), .val (.int p1), .val (.int p2), .val (.int p3), .val (.int p4), .val (.int p5), .val (.int (1 : Int32)), .val (.int c0), .val (.int c1), .val (.int c2), .val (.int c3), .val (.int c4), .val (.ref x8), .val (.int ((0 : Int32) + (own_mu c0)))] [])) _
      refine XS.iload X646.here hx rfl (hb hby at_97) rfl ?_
      refine XS.iconst X646.here hx rfl (hb hby at_99) ?_
      refine XS.icmpYes X646.here hx rfl (pc0 := 100) (pc' := 113) rfl (hb hby at_100) rfl (flt (by decide : ¬ ((2 : Int32) < (1 : Int32)))).2.2.2 (by decide) (by decide) ?_
      show Steps p.tables e below (T646.setTop (mkF m 113 #[.val (.int p0), .val (.int p1), .val (.int p2), .val (.int p3), .val (.int p4), .val (.int p5), .val (.int (1 : Int32)), .val (.int c0), .val (.int c1), .val (.int c2), .val (.int c3), .val (.int c4), .val (.ref x8), .val (.int ((0 : Int32) + (own_mu c0)))] [])) _
      refine XS.iload X646.here hx rfl (hb hby at_113) rfl ?_
      refine XS.iconst X646.here hx rfl (hb hby at_115) ?_
      refine XS.icmpYes X646.here hx rfl (pc0 := 116) (pc' := 129) rfl (hb hby at_116) rfl (flt (by decide : ¬ ((3 : Int32) < (1 : Int32)))).2.2.2 (by decide) (by decide) ?_
      show Steps p.tables e below (T646.setTop (mkF m 129 #[.val (.int p0), .val (.int p1), .val (.int p2), .val (.int p3), .val (.int p4), .val (.int p5), .val (.int (1 : Int32)), .val (.int c0), .val (.int c1), .val (.int c2), .val (.int c3), .val (.int c4), .val (.ref x8), .val (.int ((0 : Int32) + (own_mu c0)))] [])) _
      refine XS.iload X646.here hx rfl (hb hby at_129) rfl ?_
      refine XS.iconst X646.here hx rfl (hb hby at_131) ?_
      refine XS.icmpYes X646.here hx rfl (pc0 := 132) (pc' := 145) rfl (hb hby at_132) rfl (flt (by decide : ¬ ((4 : Int32) < (1 : Int32)))).2.2.2 (by decide) (by decide) ?_
      show Steps p.tables e below (T646.setTop (mkF m 145 #[.val (.int p0), .val (.int p1), .val (.int p2), .val (.int p3), .val (.int p4), .val (.int p5), .val (.int (1 : Int32)), .val (.int c0), .val (.int c1), .val (.int c2), .val (.int c3), .val (.int c4), .val (.ref x8), .val (.int ((0 : Int32) + (own_mu c0)))] [])) _
      refine XS.aload X646.here hx rfl (hb hby at_145) rfl rfl ?_
      refine st651 _ ?_
      show Steps p.tables e below (T651.setTop (mkF m 150 #[.val (.int p0), .val (.int p1), .val (.int p2), .val (.int p3), .val (.int p4), .val (.int p5), .val (.int (1 : Int32)), .val (.int c0), .val (.int c1), .val (.int c2), .val (.int c3), .val (.int c4), .val (.ref x8), .val (.int ((0 : Int32) + (own_mu c0)))] [(.int (own_acc [c0] 1))])) _
      refine XS.iload X651.here hx rfl (hb hby at_150) rfl ?_
      refine XS.icmpNo X651.here hx rfl (hb hby at_152) rfl (teq (rfl : (own_acc [c0] 1) = ((0 : Int32) + (own_mu c0)))).2 ?_
      show Steps p.tables e below (T651.setTop (mkF m 155 #[.val (.int p0), .val (.int p1), .val (.int p2), .val (.int p3), .val (.int p4), .val (.int p5), .val (.int (1 : Int32)), .val (.int c0), .val (.int c1), .val (.int c2), .val (.int c3), .val (.int c4), .val (.ref x8), .val (.int ((0 : Int32) + (own_mu c0)))] [])) _
      refine XS.iconst X651.here hx rfl (hb hby at_155) ?_
      refine XS.goto X651.here hx rfl (pc0 := 156) (pc' := 160) rfl (hb hby at_156) (by decide) (by decide) ?_
      exact kt
    obtain ⟨fs, hr, hrun, hended, e1, e2, e3, e4⟩ := X651.leaveW hSi0 hk652 (v := some (.int (1 : Int32))) (fun h => by rw [Bd.returns] at h; cases h)
    refine ⟨_, _, (pre0 _ (pre636 _ (pre653 _ ?_))), hrun, hended, _, _, rfl, ?_, ?_, ⟨e1, e2, e3, e4.mono (by decide) (by decide)⟩⟩
    · show Steps p.tables e below (T651.setTop (mkF m 160 #[.val (.int p0), .val (.int p1), .val (.int p2), .val (.int p3), .val (.int p4), .val (.int p5), .val (.int (1 : Int32)), .val (.int c0), .val (.int c1), .val (.int c2), .val (.int c3), .val (.int c4), .val (.ref x8), .val (.int ((0 : Int32) + (own_mu c0)))] [(.int (1 : Int32))])) _
      exact retN X651 hx (t := .boolean) Bd.returns (by simp) (hb hby at_160) hr
    · show Q0 Z p0 p1 p2 p3 p4 p5 zc fm h0 n0 _ T651.heap _ T651.vm
      exact ⟨rfl, N651⟩
    · have q := cr652.trans (CHv.at X651 hZ hEL ch652)
      show CHr Z EL s.vm s.heap T651.vm T651.heap
      rw [hh]
      exact q
  · skip
    obtain ⟨_, _, ⟨T654, L654, k654, n654⟩, -, X654, ⟨Lc654, hQ654, l654, y654, z654⟩, st654⟩ := Jvm.LawKit.callS X0 hx (y := (⟨"com/example/corvid/corvid/classfile/ConstantPoolModifiedUtf8LengthPinLaw", "make", "(ICCCCC)Ljava/lang/String;"⟩ : MethodName)) hown (mvT hZ (tw hw 2 rfl)) (mvT hZ (tw hw 3 rfl)) (mvT hZ (tw hw 4 rfl)) (mvT hZ (tw hw 5 rfl)) (by decide) (backOf (W := 0) (rmMk2 l Z a0 hw [] c0 c1 c2 c3 c4 zc h0 n0 Z0 hc0 hc1 OZ SC hzc SA SH SL) hZ (tw hw 5 rfl) (tw hw 4 rfl) (by decide) (by decide)) (g := (mkF m 58 #[.val (.int p0), .val (.int p1), .val (.int p2), .val (.int p3), .val (.int p4), .val (.int p5), .val (.int (2 : Int32)), .val (.int c0), .val (.int c1), .val (.int c2), .val (.int c3), .val (.int c4), .unset, .unset] [(.int c4), (.int c3), (.int c2), (.int c1), (.int c0), (.int (2 : Int32))])) rfl (by rw [hml]; rfl) (argsL := [(.int (2 : Int32)), (.int c0), (.int c1), (.int c2), (.int c3), (.int c4)]) (rest := []) (lenOf pd__ICCCCC_Ljava_lang_String_ rfl) rfl (by show 2 * 0 + _ ≤ _; exact Nat.le_of_eq rfl) (hb hby at_58) (fun _ _ => ⟨rfl, e0, (by decide : 0 + 4 ≤ _), (by decide : 0 + 24 ≤ _)⟩)
    dsimp only [Pt.U, Pt.locs, Pt.cells, Pt.slots] at X654 l654 y654 z654 st654 hQ654
    subst l654 y654 z654
    obtain ⟨x8, rfl, N654q, EX654, E8, SP⟩ := hQ654
    have N654 := Fr.app N0 N654q
    have cs655 := CHr.ext EX654 hCH
    have cr655 := (CHr.refl hCH).trans cs655
    have hk655 := Nat.le_trans (Nat.zero_le _) cs655.2.1
    have Z654 := Nat.le_trans Z0 EX654.1
    obtain ⟨_, _, ⟨T656, L656, k656, n656⟩, -, X656, ⟨Lc656, hQ656, l656, y656, z656⟩, st656⟩ := Jvm.LawKit.callS X654 hx (y := (⟨"com/example/corvid/corvid/classfile/ConstantPoolModifiedUtf8LengthPinLaw", "bytes", "(C)I"⟩ : MethodName)) hown (mvT hZ (tw hw 53 rfl)) (mvT hZ (tw hw 54 rfl)) (mvT hZ (tw hw 4 rfl)) (mvT hZ (tw hw 55 rfl)) (by decide) (backOf (W := 1) (rmByt l Z a0 hw [] c0 T654.heap n0 Z654) hZ (tw hw 55 rfl) (tw hw 4 rfl) (by decide) (by decide)) (g := (mkF m 75 #[.val (.int p0), .val (.int p1), .val (.int p2), .val (.int p3), .val (.int p4), .val (.int p5), .val (.int (2 : Int32)), .val (.int c0), .val (.int c1), .val (.int c2), .val (.int c3), .val (.int c4), .val (.ref x8), .val (.int (0 : Int32))] [(.int c0), (.int (0 : Int32))])) rfl (by rw [hml]; rfl) (argsL := [(.int c0)]) (rest := [(.int (0 : Int32))]) (lenOf pd__C_I rfl) rfl (by show 2 * 0 + _ ≤ _; exact Nat.le_of_eq rfl) (hb hby at_75) (fun _ _ => ⟨rfl, rfl, (by decide : 4 + 0 ≤ _), (by decide : 24 + 0 ≤ _)⟩)
    dsimp only [Pt.U, Pt.locs, Pt.cells, Pt.slots] at X656 l656 y656 z656 st656 hQ656
    subst l656 y656 z656
    obtain ⟨rfl, N656q, EQ656⟩ := hQ656
    have N656 := Fr.app N654 N656q
    have ch657 : CHv Z EL s.vm T656.heap := by rw [EQ656]; exact cs655.1
    have cr657 : CHr Z EL s.vm h0 s.vm T656.heap := by rw [EQ656]; exact cr655
    have hk657 : 0 ≤ T656.heap.size := by rw [EQ656]; exact hk655
    have Z656 : n0 ≤ T656.heap.size := by rw [EQ656]; exact Z654
    obtain ⟨_, _, ⟨T658, L658, k658, n658⟩, -, X658, ⟨Lc658, hQ658, l658, y658, z658⟩, st658⟩ := Jvm.LawKit.callS X656 hx (y := (⟨"com/example/corvid/corvid/classfile/ConstantPoolModifiedUtf8LengthPinLaw", "bytes", "(C)I"⟩ : MethodName)) hown (mvT hZ (tw hw 53 rfl)) (mvT hZ (tw hw 54 rfl)) (mvT hZ (tw hw 4 rfl)) (mvT hZ (tw hw 55 rfl)) (by decide) (backOf (W := 1) (rmByt l Z a0 hw [] c1 T656.heap n0 Z656) hZ (tw hw 55 rfl) (tw hw 4 rfl) (by decide) (by decide)) (g := (mkF m 91 #[.val (.int p0), .val (.int p1), .val (.int p2), .val (.int p3), .val (.int p4), .val (.int p5), .val (.int (2 : Int32)), .val (.int c0), .val (.int c1), .val (.int c2), .val (.int c3), .val (.int c4), .val (.ref x8), .val (.int ((0 : Int32) + (own_mu c0)))] [(.int c1), (.int ((0 : Int32) + (own_mu c0)))])) rfl (by rw [hml]; rfl) (argsL := [(.int c1)]) (rest := [(.int ((0 : Int32) + (own_mu c0)))]) (lenOf pd__C_I rfl) rfl (by show 2 * 0 + _ ≤ _; exact Nat.le_of_eq rfl) (hb hby at_91) (fun _ _ => ⟨rfl, rfl, (by decide : 4 + 0 ≤ _), (by decide : 24 + 0 ≤ _)⟩)
    dsimp only [Pt.U, Pt.locs, Pt.cells, Pt.slots] at X658 l658 y658 z658 st658 hQ658
    subst l658 y658 z658
    obtain ⟨rfl, N658q, EQ658⟩ := hQ658
    have N658 := Fr.app N656 N658q
    have ch659 : CHv Z EL s.vm T658.heap := by rw [EQ658]; exact ch657
    have cr659 : CHr Z EL s.vm h0 s.vm T658.heap := by rw [EQ658]; exact cr657
    have hk659 : 0 ≤ T658.heap.size := by rw [EQ658]; exact hk657
    have Z658 : n0 ≤ T658.heap.size := by rw [EQ658]; exact Z656
    have hcs : ∀ i, i < 2 → nar .char ([c0, c1].getD i 0) = [c0, c1].getD i 0 := fun i hi => by
      match i, hi with
      | 0, _ => exact hc0
      | 1, _ => exact hc1
    have f660 := (EQ658 ▸ (EQ656 ▸ (OZ.ext EX654)))
    have f661 := (EQ658 ▸ (EQ656 ▸ E8))
    have f662 := (EQ658 ▸ (EQ656 ▸ SP))
    obtain ⟨_, _, ⟨T663, L663, k663, n663⟩, -, X663, ⟨Lc663, hQ663, l663, y663, z663⟩, st663⟩ := Jvm.LawKit.callS X658 hx (y := (⟨"com/example/corvid/corvid/classfile/ConstantPool", "modifiedUtf8Length", "(Ljava/lang/String;)I"⟩ : MethodName)) hown (mvT hZ (tw hw 28 rfl)) (mvT hZ (tw hw 29 rfl)) (mvT hZ (tw hw 30 rfl)) (mvT hZ (tw hw 31 rfl)) (by decide) (backOf (W := 0) (rmMuS l Z a0 hw [] x8 [c0, c1] zc fm T658.heap n0 Z658 (SC.ext f660.2) hzc (SFm.ext f660.2) rf (SA.ext f660.2) (SH.ext f660.2) (SL.ext f660.2) f661 f662 (by decide : 2 ≤ 5) hcs) hZ (tw hw 31 rfl) (tw hw 30 rfl) (by decide) (by decide)) (g := (mkF m 147 #[.val (.int p0), .val (.int p1), .val (.int p2), .val (.int p3), .val (.int p4), .val (.int p5), .val (.int (2 : Int32)), .val (.int c0), .val (.int c1), .val (.int c2), .val (.int c3), .val (.int c4), .val (.ref x8), .val (.int (((0 : Int32) + (own_mu c0)) + (own_mu c1)))] [(.ref x8)])) rfl (by rw [hml]; rfl) (argsL := [(.ref x8)]) (rest := []) (lenOf pd__Ljava_lang_String__I rfl) rfl (by show 2 * 0 + _ ≤ _; exact Nat.le_of_eq rfl) (hb hby at_147) (fun _ _ => ⟨rfl, rfl, (by decide : 4 + 0 ≤ _), (by decide : 24 + 0 ≤ _)⟩)
    dsimp only [Pt.U, Pt.locs, Pt.cells, Pt.slots] at X663 l663 y663 z663 st663 hQ663
    subst l663 y663 z663
    obtain ⟨rfl, N663q, EQ663⟩ := hQ663
    have N663 := Fr.app N658 N663q
    have ch664 : CHv Z EL s.vm T663.heap := by rw [EQ663]; exact ch659
    have cr664 : CHr Z EL s.vm h0 s.vm T663.heap := by rw [EQ663]; exact cr659
    have hk664 : 0 ≤ T663.heap.size := by rw [EQ663]; exact hk659
    have pre665 : ∀ t, Steps p.tables e below (T663.setTop (mkF m 160 #[.val (.int p0), .val (.int p1), .val (.int p2), .val (.int p3), .val (.int p4), .val (.int p5), .val (.int (2 : Int32)), .val (.int c0), .val (.int c1), .val (.int c2), .val (.int c3), .val (.int c4), .val (.ref x8), .val (.int (((0 : Int32) + (own_mu c0)) + (own_mu c1)))] [(.int (1 : Int32))])) t → Steps p.tables e below (s₁.setTop (mkF m 46 #[.val (.int p0), .val (.int p1), .val (.int p2), .val (.int p3), .val (.int p4), .val (.int p5), .val (.int (2 : Int32)), .val (.int c0), .val (.int c1), .val (.int c2), .val (.int c3), .val (.int c4), .unset, .unset] [])) t := by
      intro t kt
      show Steps p.tables e below (s₁.setTop (mkF m 46 #[.val (.int p0), .val (.int p1), .val (.int p2), .val (.int p3), .val (.int p4), .val (.int p5), .val (.int (2 : Int32)), .val (.int c0), .val (.int c1), .val (.int c2), .val (.int c3), .val (.int c4), .unset, .unset] [])) _
      refine XS.iload X0.here hx rfl (hb hby at_46) rfl ?_
      refine XS.iload X0.here hx rfl (hb hby at_48) rfl ?_
      refine XS.iload X0.here hx rfl (hb hby at_50) rfl ?_
      refine XS.iload X0.here hx rfl (hb hby at_52) rfl ?_
      refine XS.iload X0.here hx rfl (hb hby at_54) rfl ?_
      refine XS.iload X0.here hx rfl (hb hby at_56) rfl ?_
      refine st654 _ ?_
      show Steps p.tables e below (T654.setTop (mkF m 61 #[.val (.int p0), .val (.int p1), .val (.int p2), .val (.int p3), .val (.int p4), .val (.int p5), .val (.int (2 : Int32)), .val (.int c0), .val (.int c1), .val (.int c2), .val (.int c3), .val (.int c4), .unset, .unset] [(.ref x8)])) _
      refine XS.astore X654.here hx rfl (hb hby at_61) rfl rfl (l' := #[.val (.int p0), .val (.int p1), .val (.int p2), .val (.int p3), .val (.int p4), .val (.int p5), .val (.int (2 : Int32)), .val (.int c0), .val (.int c1), .val (.int c2), .val (.int c3), .val (.int c4), .val (.ref x8), .unset]) rfl ?_
      refine XS.iconst X654.here hx rfl (hb hby at_63) ?_
      refine XS.istore X654.here hx rfl (hb hby at_64) rfl (l' := #[.val (.int p0), .val (.int p1), .val (.int p2), .val (.int p3), .val (.int p4), .val (.int p5), .val (.int (2 : Int32)), .val (.int c0), .val (.int c1), .val (.int c2), .val (.int c3), .val (.int c4), .val (.ref x8), .val (.int (0 : Int32))]) rfl ?_
      refine XS.iload X654.here hx rfl (hb hby at_66) rfl ?_
      refine XS.ifNo X654.here hx rfl (hb hby at_68) rfl ((if0 _ _).trans (tlt (by decide : (0 : Int32) < (2 : Int32))).2.2.2) ?_
      show Steps p.tables e below (T654.setTop (mkF m 71 #[.val (.int p0), .val (.int p1), .val (.int p2), .val (.int p3), .val (.int p4), .val (.int p5), .val (.int (2 : Int32)), .val (.int c0), .val (.int c1), .val (.int c2), .val (.int c3), .val (.int c4), .val (.ref x8), .val (.int (0 : Int32))] [])) _
      refine XS.iload X654.here hx rfl (hb hby at_71) rfl ?_
      refine XS.iload X654.here hx rfl (hb hby at_73) rfl ?_
      refine st656 _ ?_
      show Steps p.tables e below (T656.setTop (mkF m 78 #[.val (.int p0), .val (.int p1), .val (.int p2), .val (.int p3), .val (.int p4), .val (.int p5), .val (.int (2 : Int32)), .val (.int c0), .val (.int c1), .val (.int c2), .val (.int c3), .val (.int c4), .val (.ref x8), .val (.int (0 : Int32))] [(.int (own_mu c0)), (.int (0 : Int32))])) _
      refine XS.iadd X656.here hx rfl (hb hby at_78) rfl ?_
      refine XS.istore X656.here hx rfl (hb hby at_79) rfl (l' := #[.val (.int p0), .val (.int p1), .val (.int p2), .val (.int p3), .val (.int p4), .val (.int p5), .val (.int (2 : Int32)), .val (.int c0), .val (.int c1), .val (.int c2), .val (.int c3), .val (.int c4), .val (.ref x8), .val (.int ((0 : Int32) + (own_mu c0)))]) rfl ?_
      refine XS.iload X656.here hx rfl (hb hby at_81) rfl ?_
      refine XS.iconst X656.here hx rfl (hb hby at_83) ?_
      refine XS.icmpNo X656.here hx rfl (hb hby at_84) rfl (tlt (by decide : (1 : Int32) < (2 : Int32))).2.2.2 ?_
      show Steps p.tables e below (T656.setTop (mkF m 87 #[.val (.int p0), .val (.int p1), .val (.int p2), .val (.int p3), .val (.int p4), .val (.int p5), .val (.int (2 : Int32)), .val (.int c0), .val (.int c1), .val (.int c2), .val (.int c3), .val (.int c4), .val (.ref x8), .val (.int ((0 : Int32) + (own_mu c0)))] [])) _
      refine XS.iload X656.here hx rfl (hb hby at_87) rfl ?_
      refine XS.iload X656.here hx rfl (hb hby at_89) rfl ?_
      refine st658 _ ?_
      show Steps p.tables e below (T658.setTop (mkF m 94 #[.val (.int p0), .val (.int p1), .val (.int p2), .val (.int p3), .val (.int p4), .val (.int p5), .val (.int (2 : Int32)), .val (.int c0), .val (.int c1), .val (.int c2), .val (.int c3), .val (.int c4), .val (.ref x8), .val (.int ((0 : Int32) + (own_mu c0)))] [(.int (own_mu c1)), (.int ((0 : Int32) + (own_mu c0)))])) _
      refine XS.iadd X658.here hx rfl (hb hby at_94) rfl ?_
      refine XS.istore X658.here hx rfl (hb hby at_95) rfl (l' := #[.val (.int p0), .val (.int p1), .val (.int p2), .val (.int p3), .val (.int p4), .val (.int p5), .val (.int (2 : Int32)), .val (.int c0), .val (.int c1), .val (.int c2), .val (.int c3), .val (.int c4), .val (.ref x8), .val (.int (((0 : Int32) + (own_mu c0)) + (own_mu c1)))]) rfl ?_
      refine XS.iload X658.here hx rfl (hb hby at_97) rfl ?_
      refine XS.iconst X658.here hx rfl (hb hby at_99) ?_
      refine XS.icmpYes X658.here hx rfl (pc0 := 100) (pc' := 113) rfl (hb hby at_100) rfl (flt (by decide : ¬ ((2 : Int32) < (2 : Int32)))).2.2.2 (by decide) (by decide) ?_
      show Steps p.tables e below (T658.setTop (mkF m 113 #[.val (.int p0), .val (.int p1), .val (.int p2), .val (.int p3), .val (.int p4), .val (.int p5), .val (.int (2 : Int32)), .val (.int c0), .val (.int c1), .val (.int c2), .val (.int c3), .val (.int c4), .val (.ref x8), .val (.int (((0 : Int32) + (own_mu c0)) + (own_mu c1)))] [])) _
      refine XS.iload X658.here hx rfl (hb hby at_113) rfl ?_
      refine XS.iconst X658.here hx rfl (hb hby at_115) ?_
      refine XS.icmpYes X658.here hx rfl (pc0 := 116) (pc' := 129) rfl (hb hby at_116) rfl (flt (by decide : ¬ ((3 : Int32) < (2 : Int32)))).2.2.2 (by decide) (by decide) ?_
      show Steps p.tables e below (T658.setTop (mkF m 129 #[.val (.int p0), .val (.int p1), .val (.int p2), .val (.int p3), .val (.int p4), .val (.int p5), .val (.int (2 : Int32)), .val (.int c0), .val (.int c1), .val (.int c2), .val (.int c3), .val (.int c4), .val (.ref x8), .val (.int (((0 : Int32) + (own_mu c0)) + (own_mu c1)))] [])) _
      refine XS.iload X658.here hx rfl (hb hby at_129) rfl ?_
      refine XS.iconst X658.here hx rfl (hb hby at_131) ?_
      refine XS.icmpYes X658.here hx rfl (pc0 := 132) (pc' := 145) rfl (hb hby at_132) rfl (flt (by decide : ¬ ((4 : Int32) < (2 : Int32)))).2.2.2 (by decide) (by decide) ?_
      show Steps p.tables e below (T658.setTop (mkF m 145 #[.val (.int p0), .val (.int p1), .val (.int p2), .val (.int p3), .val (.int p4), .val (.int p5), .val (.int (2 : Int32)), .val (.int c0), .val (.int c1), .val (.int c2), .val (.int c3), .val (.int c4), .val (.ref x8), .val (.int (((0 : Int32) + (own_mu c0)) + (own_mu c1)))] [])) _
      refine XS.aload X658.here hx rfl (hb hby at_145) rfl rfl ?_
      refine st663 _ ?_
      show Steps p.tables e below (T663.setTop (mkF m 150 #[.val (.int p0), .val (.int p1), .val (.int p2), .val (.int p3), .val (.int p4), .val (.int p5), .val (.int (2 : Int32)), .val (.int c0), .val (.int c1), .val (.int c2), .val (.int c3), .val (.int c4), .val (.ref x8), .val (.int (((0 : Int32) + (own_mu c0)) + (own_mu c1)))] [(.int (own_acc [c0, c1] 2))])) _
      refine XS.iload X663.here hx rfl (hb hby at_150) rfl ?_
      refine XS.icmpNo X663.here hx rfl (hb hby at_152) rfl (teq (rfl : (own_acc [c0, c1] 2) = (((0 : Int32) + (own_mu c0)) + (own_mu c1)))).2 ?_
      show Steps p.tables e below (T663.setTop (mkF m 155 #[.val (.int p0), .val (.int p1), .val (.int p2), .val (.int p3), .val (.int p4), .val (.int p5), .val (.int (2 : Int32)), .val (.int c0), .val (.int c1), .val (.int c2), .val (.int c3), .val (.int c4), .val (.ref x8), .val (.int (((0 : Int32) + (own_mu c0)) + (own_mu c1)))] [])) _
      refine XS.iconst X663.here hx rfl (hb hby at_155) ?_
      refine XS.goto X663.here hx rfl (pc0 := 156) (pc' := 160) rfl (hb hby at_156) (by decide) (by decide) ?_
      exact kt
    obtain ⟨fs, hr, hrun, hended, e1, e2, e3, e4⟩ := X663.leaveW hSi0 hk664 (v := some (.int (1 : Int32))) (fun h => by rw [Bd.returns] at h; cases h)
    refine ⟨_, _, (pre0 _ (pre636 _ (pre665 _ ?_))), hrun, hended, _, _, rfl, ?_, ?_, ⟨e1, e2, e3, e4.mono (by decide) (by decide)⟩⟩
    · show Steps p.tables e below (T663.setTop (mkF m 160 #[.val (.int p0), .val (.int p1), .val (.int p2), .val (.int p3), .val (.int p4), .val (.int p5), .val (.int (2 : Int32)), .val (.int c0), .val (.int c1), .val (.int c2), .val (.int c3), .val (.int c4), .val (.ref x8), .val (.int (((0 : Int32) + (own_mu c0)) + (own_mu c1)))] [(.int (1 : Int32))])) _
      exact retN X663 hx (t := .boolean) Bd.returns (by simp) (hb hby at_160) hr
    · show Q0 Z p0 p1 p2 p3 p4 p5 zc fm h0 n0 _ T663.heap _ T663.vm
      exact ⟨rfl, N663⟩
    · have q := cr664.trans (CHv.at X663 hZ hEL ch664)
      show CHr Z EL s.vm s.heap T663.vm T663.heap
      rw [hh]
      exact q
  · skip
    obtain ⟨_, _, ⟨T666, L666, k666, n666⟩, -, X666, ⟨Lc666, hQ666, l666, y666, z666⟩, st666⟩ := Jvm.LawKit.callS X0 hx (y := (⟨"com/example/corvid/corvid/classfile/ConstantPoolModifiedUtf8LengthPinLaw", "make", "(ICCCCC)Ljava/lang/String;"⟩ : MethodName)) hown (mvT hZ (tw hw 2 rfl)) (mvT hZ (tw hw 3 rfl)) (mvT hZ (tw hw 4 rfl)) (mvT hZ (tw hw 5 rfl)) (by decide) (backOf (W := 0) (rmMk3 l Z a0 hw [] c0 c1 c2 c3 c4 zc h0 n0 Z0 hc0 hc1 hc2 OZ SC hzc SA SH SL) hZ (tw hw 5 rfl) (tw hw 4 rfl) (by decide) (by decide)) (g := (mkF m 58 #[.val (.int p0), .val (.int p1), .val (.int p2), .val (.int p3), .val (.int p4), .val (.int p5), .val (.int (3 : Int32)), .val (.int c0), .val (.int c1), .val (.int c2), .val (.int c3), .val (.int c4), .unset, .unset] [(.int c4), (.int c3), (.int c2), (.int c1), (.int c0), (.int (3 : Int32))])) rfl (by rw [hml]; rfl) (argsL := [(.int (3 : Int32)), (.int c0), (.int c1), (.int c2), (.int c3), (.int c4)]) (rest := []) (lenOf pd__ICCCCC_Ljava_lang_String_ rfl) rfl (by show 2 * 0 + _ ≤ _; exact Nat.le_of_eq rfl) (hb hby at_58) (fun _ _ => ⟨rfl, e0, (by decide : 0 + 4 ≤ _), (by decide : 0 + 26 ≤ _)⟩)
    dsimp only [Pt.U, Pt.locs, Pt.cells, Pt.slots] at X666 l666 y666 z666 st666 hQ666
    subst l666 y666 z666
    obtain ⟨x8, rfl, N666q, EX666, E8, SP⟩ := hQ666
    have N666 := Fr.app N0 N666q
    have cs667 := CHr.ext EX666 hCH
    have cr667 := (CHr.refl hCH).trans cs667
    have hk667 := Nat.le_trans (Nat.zero_le _) cs667.2.1
    have Z666 := Nat.le_trans Z0 EX666.1
    obtain ⟨_, _, ⟨T668, L668, k668, n668⟩, -, X668, ⟨Lc668, hQ668, l668, y668, z668⟩, st668⟩ := Jvm.LawKit.callS X666 hx (y := (⟨"com/example/corvid/corvid/classfile/ConstantPoolModifiedUtf8LengthPinLaw", "bytes", "(C)I"⟩ : MethodName)) hown (mvT hZ (tw hw 53 rfl)) (mvT hZ (tw hw 54 rfl)) (mvT hZ (tw hw 4 rfl)) (mvT hZ (tw hw 55 rfl)) (by decide) (backOf (W := 1) (rmByt l Z a0 hw [] c0 T666.heap n0 Z666) hZ (tw hw 55 rfl) (tw hw 4 rfl) (by decide) (by decide)) (g := (mkF m 75 #[.val (.int p0), .val (.int p1), .val (.int p2), .val (.int p3), .val (.int p4), .val (.int p5), .val (.int (3 : Int32)), .val (.int c0), .val (.int c1), .val (.int c2), .val (.int c3), .val (.int c4), .val (.ref x8), .val (.int (0 : Int32))] [(.int c0), (.int (0 : Int32))])) rfl (by rw [hml]; rfl) (argsL := [(.int c0)]) (rest := [(.int (0 : Int32))]) (lenOf pd__C_I rfl) rfl (by show 2 * 0 + _ ≤ _; exact Nat.le_of_eq rfl) (hb hby at_75) (fun _ _ => ⟨rfl, rfl, (by decide : 4 + 0 ≤ _), (by decide : 26 + 0 ≤ _)⟩)
    dsimp only [Pt.U, Pt.locs, Pt.cells, Pt.slots] at X668 l668 y668 z668 st668 hQ668
    subst l668 y668 z668
    obtain ⟨rfl, N668q, EQ668⟩ := hQ668
    have N668 := Fr.app N666 N668q
    have ch669 : CHv Z EL s.vm T668.heap := by rw [EQ668]; exact cs667.1
    have cr669 : CHr Z EL s.vm h0 s.vm T668.heap := by rw [EQ668]; exact cr667
    have hk669 : 0 ≤ T668.heap.size := by rw [EQ668]; exact hk667
    have Z668 : n0 ≤ T668.heap.size := by rw [EQ668]; exact Z666
    obtain ⟨_, _, ⟨T670, L670, k670, n670⟩, -, X670, ⟨Lc670, hQ670, l670, y670, z670⟩, st670⟩ := Jvm.LawKit.callS X668 hx (y := (⟨"com/example/corvid/corvid/classfile/ConstantPoolModifiedUtf8LengthPinLaw", "bytes", "(C)I"⟩ : MethodName)) hown (mvT hZ (tw hw 53 rfl)) (mvT hZ (tw hw 54 rfl)) (mvT hZ (tw hw 4 rfl)) (mvT hZ (tw hw 55 rfl)) (by decide) (backOf (W := 1) (rmByt l Z a0 hw [] c1 T668.heap n0 Z668) hZ (tw hw 55 rfl) (tw hw 4 rfl) (by decide) (by decide)) (g := (mkF m 91 #[.val (.int p0), .val (.int p1), .val (.int p2), .val (.int p3), .val (.int p4), .val (.int p5), .val (.int (3 : Int32)), .val (.int c0), .val (.int c1), .val (.int c2), .val (.int c3), .val (.int c4), .val (.ref x8), .val (.int ((0 : Int32) + (own_mu c0)))] [(.int c1), (.int ((0 : Int32) + (own_mu c0)))])) rfl (by rw [hml]; rfl) (argsL := [(.int c1)]) (rest := [(.int ((0 : Int32) + (own_mu c0)))]) (lenOf pd__C_I rfl) rfl (by show 2 * 0 + _ ≤ _; exact Nat.le_of_eq rfl) (hb hby at_91) (fun _ _ => ⟨rfl, rfl, (by decide : 4 + 0 ≤ _), (by decide : 26 + 0 ≤ _)⟩)
    dsimp only [Pt.U, Pt.locs, Pt.cells, Pt.slots] at X670 l670 y670 z670 st670 hQ670
    subst l670 y670 z670
    obtain ⟨rfl, N670q, EQ670⟩ := hQ670
    have N670 := Fr.app N668 N670q
    have ch671 : CHv Z EL s.vm T670.heap := by rw [EQ670]; exact ch669
    have cr671 : CHr Z EL s.vm h0 s.vm T670.heap := by rw [EQ670]; exact cr669
    have hk671 : 0 ≤ T670.heap.size := by rw [EQ670]; exact hk669
    have Z670 : n0 ≤ T670.heap.size := by rw [EQ670]; exact Z668
    obtain ⟨_, _, ⟨T672, L672, k672, n672⟩, -, X672, ⟨Lc672, hQ672, l672, y672, z672⟩, st672⟩ := Jvm.LawKit.callS X670 hx (y := (⟨"com/example/corvid/corvid/classfile/ConstantPoolModifiedUtf8LengthPinLaw", "bytes", "(C)I"⟩ : MethodName)) hown (mvT hZ (tw hw 53 rfl)) (mvT hZ (tw hw 54 rfl)) (mvT hZ (tw hw 4 rfl)) (mvT hZ (tw hw 55 rfl)) (by decide) (backOf (W := 1) (rmByt l Z a0 hw [] c2 T670.heap n0 Z670) hZ (tw hw 55 rfl) (tw hw 4 rfl) (by decide) (by decide)) (g := (mkF m 107 #[.val (.int p0), .val (.int p1), .val (.int p2), .val (.int p3), .val (.int p4), .val (.int p5), .val (.int (3 : Int32)), .val (.int c0), .val (.int c1), .val (.int c2), .val (.int c3), .val (.int c4), .val (.ref x8), .val (.int (((0 : Int32) + (own_mu c0)) + (own_mu c1)))] [(.int c2), (.int (((0 : Int32) + (own_mu c0)) + (own_mu c1)))])) rfl (by rw [hml]; rfl) (argsL := [(.int c2)]) (rest := [(.int (((0 : Int32) + (own_mu c0)) + (own_mu c1)))]) (lenOf pd__C_I rfl) rfl (by show 2 * 0 + _ ≤ _; exact Nat.le_of_eq rfl) (hb hby at_107) (fun _ _ => ⟨rfl, rfl, (by decide : 4 + 0 ≤ _), (by decide : 26 + 0 ≤ _)⟩)
    dsimp only [Pt.U, Pt.locs, Pt.cells, Pt.slots] at X672 l672 y672 z672 st672 hQ672
    subst l672 y672 z672
    obtain ⟨rfl, N672q, EQ672⟩ := hQ672
    have N672 := Fr.app N670 N672q
    have ch673 : CHv Z EL s.vm T672.heap := by rw [EQ672]; exact ch671
    have cr673 : CHr Z EL s.vm h0 s.vm T672.heap := by rw [EQ672]; exact cr671
    have hk673 : 0 ≤ T672.heap.size := by rw [EQ672]; exact hk671
    have Z672 : n0 ≤ T672.heap.size := by rw [EQ672]; exact Z670
    have hcs : ∀ i, i < 3 → nar .char ([c0, c1, c2].getD i 0) = [c0, c1, c2].getD i 0 := fun i hi => by
      match i, hi with
      | 0, _ => exact hc0
      | 1, _ => exact hc1
      | 2, _ => exact hc2
    have f674 := (EQ672 ▸ (EQ670 ▸ (EQ668 ▸ (OZ.ext EX666))))
    have f675 := (EQ672 ▸ (EQ670 ▸ (EQ668 ▸ E8)))
    have f676 := (EQ672 ▸ (EQ670 ▸ (EQ668 ▸ SP)))
    obtain ⟨_, _, ⟨T677, L677, k677, n677⟩, -, X677, ⟨Lc677, hQ677, l677, y677, z677⟩, st677⟩ := Jvm.LawKit.callS X672 hx (y := (⟨"com/example/corvid/corvid/classfile/ConstantPool", "modifiedUtf8Length", "(Ljava/lang/String;)I"⟩ : MethodName)) hown (mvT hZ (tw hw 28 rfl)) (mvT hZ (tw hw 29 rfl)) (mvT hZ (tw hw 30 rfl)) (mvT hZ (tw hw 31 rfl)) (by decide) (backOf (W := 0) (rmMuS l Z a0 hw [] x8 [c0, c1, c2] zc fm T672.heap n0 Z672 (SC.ext f674.2) hzc (SFm.ext f674.2) rf (SA.ext f674.2) (SH.ext f674.2) (SL.ext f674.2) f675 f676 (by decide : 3 ≤ 5) hcs) hZ (tw hw 31 rfl) (tw hw 30 rfl) (by decide) (by decide)) (g := (mkF m 147 #[.val (.int p0), .val (.int p1), .val (.int p2), .val (.int p3), .val (.int p4), .val (.int p5), .val (.int (3 : Int32)), .val (.int c0), .val (.int c1), .val (.int c2), .val (.int c3), .val (.int c4), .val (.ref x8), .val (.int ((((0 : Int32) + (own_mu c0)) + (own_mu c1)) + (own_mu c2)))] [(.ref x8)])) rfl (by rw [hml]; rfl) (argsL := [(.ref x8)]) (rest := []) (lenOf pd__Ljava_lang_String__I rfl) rfl (by show 2 * 0 + _ ≤ _; exact Nat.le_of_eq rfl) (hb hby at_147) (fun _ _ => ⟨rfl, rfl, (by decide : 4 + 0 ≤ _), (by decide : 26 + 0 ≤ _)⟩)
    dsimp only [Pt.U, Pt.locs, Pt.cells, Pt.slots] at X677 l677 y677 z677 st677 hQ677
    subst l677 y677 z677
    obtain ⟨rfl, N677q, EQ677⟩ := hQ677
    have N677 := Fr.app N672 N677q
    have ch678 : CHv Z EL s.vm T677.heap := by rw [EQ677]; exact ch673
    have cr678 : CHr Z EL s.vm h0 s.vm T677.heap := by rw [EQ677]; exact cr673
    have hk678 : 0 ≤ T677.heap.size := by rw [EQ677]; exact hk673
    have pre679 : ∀ t, Steps p.tables e below (T677.setTop (mkF m 160 #[.val (.int p0), .val (.int p1), .val (.int p2), .val (.int p3), .val (.int p4), .val (.int p5), .val (.int (3 : Int32)), .val (.int c0), .val (.int c1), .val (.int c2), .val (.int c3), .val (.int c4), .val (.ref x8), .val (.int ((((0 : Int32) + (own_mu c0)) + (own_mu c1)) + (own_mu c2)))] [(.int (1 : Int32))])) t → Steps p.tables e below (s₁.setTop (mkF m 46 #[.val (.int p0), .val (.int p1), .val (.int p2), .val (.int p3), .val (.int p4), .val (.int p5), .val (.int (3 : Int32)), .val (.int c0), .val (.int c1), .val (.int c2), .val (.int c3), .val (.int c4), .unset, .unset] [])) t := by
      intro t kt
      show Steps p.tables e below (s₁.setTop (mkF m 46 #[.val (.int p0), .val (.int p1), .val (.int p2), .val (.int p3), .val (.int p4), .val (.int p5), .val (.int (3 : Int32)), .val (.int c0), .val (.int c1), .val (.int c2), .val (.int c3), .val (.int c4), .unset, .unset] [])) _
      refine XS.iload X0.here hx rfl (hb hby at_46) rfl ?_
      refine XS.iload X0.here hx rfl (hb hby at_48) rfl ?_
      refine XS.iload X0.here hx rfl (hb hby at_50) rfl ?_
      refine XS.iload X0.here hx rfl (hb hby at_52) rfl ?_
      refine XS.iload X0.here hx rfl (hb hby at_54) rfl ?_
      refine XS.iload X0.here hx rfl (hb hby at_56) rfl ?_
      refine st666 _ ?_
      show Steps p.tables e below (T666.setTop (mkF m 61 #[.val (.int p0), .val (.int p1), .val (.int p2), .val (.int p3), .val (.int p4), .val (.int p5), .val (.int (3 : Int32)), .val (.int c0), .val (.int c1), .val (.int c2), .val (.int c3), .val (.int c4), .unset, .unset] [(.ref x8)])) _
      refine XS.astore X666.here hx rfl (hb hby at_61) rfl rfl (l' := #[.val (.int p0), .val (.int p1), .val (.int p2), .val (.int p3), .val (.int p4), .val (.int p5), .val (.int (3 : Int32)), .val (.int c0), .val (.int c1), .val (.int c2), .val (.int c3), .val (.int c4), .val (.ref x8), .unset]) rfl ?_
      refine XS.iconst X666.here hx rfl (hb hby at_63) ?_
      refine XS.istore X666.here hx rfl (hb hby at_64) rfl (l' := #[.val (.int p0), .val (.int p1), .val (.int p2), .val (.int p3), .val (.int p4), .val (.int p5), .val (.int (3 : Int32)), .val (.int c0), .val (.int c1), .val (.int c2), .val (.int c3), .val (.int c4), .val (.ref x8), .val (.int (0 : Int32))]) rfl ?_
      refine XS.iload X666.here hx rfl (hb hby at_66) rfl ?_
      refine XS.ifNo X666.here hx rfl (hb hby at_68) rfl ((if0 _ _).trans (tlt (by decide : (0 : Int32) < (3 : Int32))).2.2.2) ?_
      show Steps p.tables e below (T666.setTop (mkF m 71 #[.val (.int p0), .val (.int p1), .val (.int p2), .val (.int p3), .val (.int p4), .val (.int p5), .val (.int (3 : Int32)), .val (.int c0), .val (.int c1), .val (.int c2), .val (.int c3), .val (.int c4), .val (.ref x8), .val (.int (0 : Int32))] [])) _
      refine XS.iload X666.here hx rfl (hb hby at_71) rfl ?_
      refine XS.iload X666.here hx rfl (hb hby at_73) rfl ?_
      refine st668 _ ?_
      show Steps p.tables e below (T668.setTop (mkF m 78 #[.val (.int p0), .val (.int p1), .val (.int p2), .val (.int p3), .val (.int p4), .val (.int p5), .val (.int (3 : Int32)), .val (.int c0), .val (.int c1), .val (.int c2), .val (.int c3), .val (.int c4), .val (.ref x8), .val (.int (0 : Int32))] [(.int (own_mu c0)), (.int (0 : Int32))])) _
      refine XS.iadd X668.here hx rfl (hb hby at_78) rfl ?_
      refine XS.istore X668.here hx rfl (hb hby at_79) rfl (l' := #[.val (.int p0), .val (.int p1), .val (.int p2), .val (.int p3), .val (.int p4), .val (.int p5), .val (.int (3 : Int32)), .val (.int c0), .val (.int c1), .val (.int c2), .val (.int c3), .val (.int c4), .val (.ref x8), .val (.int ((0 : Int32) + (own_mu c0)))]) rfl ?_
      refine XS.iload X668.here hx rfl (hb hby at_81) rfl ?_
      refine XS.iconst X668.here hx rfl (hb hby at_83) ?_
      refine XS.icmpNo X668.here hx rfl (hb hby at_84) rfl (tlt (by decide : (1 : Int32) < (3 : Int32))).2.2.2 ?_
      show Steps p.tables e below (T668.setTop (mkF m 87 #[.val (.int p0), .val (.int p1), .val (.int p2), .val (.int p3), .val (.int p4), .val (.int p5), .val (.int (3 : Int32)), .val (.int c0), .val (.int c1), .val (.int c2), .val (.int c3), .val (.int c4), .val (.ref x8), .val (.int ((0 : Int32) + (own_mu c0)))] [])) _
      refine XS.iload X668.here hx rfl (hb hby at_87) rfl ?_
      refine XS.iload X668.here hx rfl (hb hby at_89) rfl ?_
      refine st670 _ ?_
      show Steps p.tables e below (T670.setTop (mkF m 94 #[.val (.int p0), .val (.int p1), .val (.int p2), .val (.int p3), .val (.int p4), .val (.int p5), .val (.int (3 : Int32)), .val (.int c0), .val (.int c1), .val (.int c2), .val (.int c3), .val (.int c4), .val (.ref x8), .val (.int ((0 : Int32) + (own_mu c0)))] [(.int (own_mu c1)), (.int ((0 : Int32) + (own_mu c0)))])) _
      refine XS.iadd X670.here hx rfl (hb hby at_94) rfl ?_
      refine XS.istore X670.here hx rfl (hb hby at_95) rfl (l' := #[.val (.int p0), .val (.int p1), .val (.int p2), .val (.int p3), .val (.int p4), .val (.int p5), .val (.int (3 : Int32)), .val (.int c0), .val (.int c1), .val (.int c2), .val (.int c3), .val (.int c4), .val (.ref x8), .val (.int (((0 : Int32) + (own_mu c0)) + (own_mu c1)))]) rfl ?_
      refine XS.iload X670.here hx rfl (hb hby at_97) rfl ?_
      refine XS.iconst X670.here hx rfl (hb hby at_99) ?_
      refine XS.icmpNo X670.here hx rfl (hb hby at_100) rfl (tlt (by decide : (2 : Int32) < (3 : Int32))).2.2.2 ?_
      show Steps p.tables e below (T670.setTop (mkF m 103 #[.val (.int p0), .val (.int p1), .val (.int p2), .val (.int p3), .val (.int p4), .val (.int p5), .val (.int (3 : Int32)), .val (.int c0), .val (.int c1), .val (.int c2), .val (.int c3), .val (.int c4), .val (.ref x8), .val (.int (((0 : Int32) + (own_mu c0)) + (own_mu c1)))] [])) _
      refine XS.iload X670.here hx rfl (hb hby at_103) rfl ?_
      refine XS.iload X670.here hx rfl (hb hby at_105) rfl ?_
      refine st672 _ ?_
      show Steps p.tables e below (T672.setTop (mkF m 110 #[.val (.int p0), .val (.int p1), .val (.int p2), .val (.int p3), .val (.int p4), .val (.int p5), .val (.int (3 : Int32)), .val (.int c0), .val (.int c1), .val (.int c2), .val (.int c3), .val (.int c4), .val (.ref x8), .val (.int (((0 : Int32) + (own_mu c0)) + (own_mu c1)))] [(.int (own_mu c2)), (.int (((0 : Int32) + (own_mu c0)) + (own_mu c1)))])) _
      refine XS.iadd X672.here hx rfl (hb hby at_110) rfl ?_
      refine XS.istore X672.here hx rfl (hb hby at_111) rfl (l' := #[.val (.int p0), .val (.int p1), .val (.int p2), .val (.int p3), .val (.int p4), .val (.int p5), .val (.int (3 : Int32)), .val (.int c0), .val (.int c1), .val (.int c2), .val (.int c3), .val (.int c4), .val (.ref x8), .val (.int ((((0 : Int32) + (own_mu c0)) + (own_mu c1)) + (own_mu c2)))]) rfl ?_
      refine XS.iload X672.here hx rfl (hb hby at_113) rfl ?_
      refine XS.iconst X672.here hx rfl (hb hby at_115) ?_
      refine XS.icmpYes X672.here hx rfl (pc0 := 116) (pc' := 129) rfl (hb hby at_116) rfl (flt (by decide : ¬ ((3 : Int32) < (3 : Int32)))).2.2.2 (by decide) (by decide) ?_
      show Steps p.tables e below (T672.setTop (mkF m 129 #[.val (.int p0), .val (.int p1), .val (.int p2), .val (.int p3), .val (.int p4), .val (.int p5), .val (.int (3 : Int32)), .val (.int c0), .val (.int c1), .val (.int c2), .val (.int c3), .val (.int c4), .val (.ref x8), .val (.int ((((0 : Int32) + (own_mu c0)) + (own_mu c1)) + (own_mu c2)))] [])) _
      refine XS.iload X672.here hx rfl (hb hby at_129) rfl ?_
      refine XS.iconst X672.here hx rfl (hb hby at_131) ?_
      refine XS.icmpYes X672.here hx rfl (pc0 := 132) (pc' := 145) rfl (hb hby at_132) rfl (flt (by decide : ¬ ((4 : Int32) < (3 : Int32)))).2.2.2 (by decide) (by decide) ?_
      show Steps p.tables e below (T672.setTop (mkF m 145 #[.val (.int p0), .val (.int p1), .val (.int p2), .val (.int p3), .val (.int p4), .val (.int p5), .val (.int (3 : Int32)), .val (.int c0), .val (.int c1), .val (.int c2), .val (.int c3), .val (.int c4), .val (.ref x8), .val (.int ((((0 : Int32) + (own_mu c0)) + (own_mu c1)) + (own_mu c2)))] [])) _
      refine XS.aload X672.here hx rfl (hb hby at_145) rfl rfl ?_
      refine st677 _ ?_
      show Steps p.tables e below (T677.setTop (mkF m 150 #[.val (.int p0), .val (.int p1), .val (.int p2), .val (.int p3), .val (.int p4), .val (.int p5), .val (.int (3 : Int32)), .val (.int c0), .val (.int c1), .val (.int c2), .val (.int c3), .val (.int c4), .val (.ref x8), .val (.int ((((0 : Int32) + (own_mu c0)) + (own_mu c1)) + (own_mu c2)))] [(.int (own_acc [c0, c1, c2] 3))])) _
      refine XS.iload X677.here hx rfl (hb hby at_150) rfl ?_
      refine XS.icmpNo X677.here hx rfl (hb hby at_152) rfl (teq (rfl : (own_acc [c0, c1, c2] 3) = ((((0 : Int32) + (own_mu c0)) + (own_mu c1)) + (own_mu c2)))).2 ?_
      show Steps p.tables e below (T677.setTop (mkF m 155 #[.val (.int p0), .val (.int p1), .val (.int p2), .val (.int p3), .val (.int p4), .val (.int p5), .val (.int (3 : Int32)), .val (.int c0), .val (.int c1), .val (.int c2), .val (.int c3), .val (.int c4), .val (.ref x8), .val (.int ((((0 : Int32) + (own_mu c0)) + (own_mu c1)) + (own_mu c2)))] [])) _
      refine XS.iconst X677.here hx rfl (hb hby at_155) ?_
      refine XS.goto X677.here hx rfl (pc0 := 156) (pc' := 160) rfl (hb hby at_156) (by decide) (by decide) ?_
      exact kt
    obtain ⟨fs, hr, hrun, hended, e1, e2, e3, e4⟩ := X677.leaveW hSi0 hk678 (v := some (.int (1 : Int32))) (fun h => by rw [Bd.returns] at h; cases h)
    refine ⟨_, _, (pre0 _ (pre636 _ (pre679 _ ?_))), hrun, hended, _, _, rfl, ?_, ?_, ⟨e1, e2, e3, e4.mono (by decide) (by decide)⟩⟩
    · show Steps p.tables e below (T677.setTop (mkF m 160 #[.val (.int p0), .val (.int p1), .val (.int p2), .val (.int p3), .val (.int p4), .val (.int p5), .val (.int (3 : Int32)), .val (.int c0), .val (.int c1), .val (.int c2), .val (.int c3), .val (.int c4), .val (.ref x8), .val (.int ((((0 : Int32) + (own_mu c0)) + (own_mu c1)) + (own_mu c2)))] [(.int (1 : Int32))])) _
      exact retN X677 hx (t := .boolean) Bd.returns (by simp) (hb hby at_160) hr
    · show Q0 Z p0 p1 p2 p3 p4 p5 zc fm h0 n0 _ T677.heap _ T677.vm
      exact ⟨rfl, N677⟩
    · have q := cr678.trans (CHv.at X677 hZ hEL ch678)
      show CHr Z EL s.vm s.heap T677.vm T677.heap
      rw [hh]
      exact q
  · skip
    obtain ⟨_, _, ⟨T680, L680, k680, n680⟩, -, X680, ⟨Lc680, hQ680, l680, y680, z680⟩, st680⟩ := Jvm.LawKit.callS X0 hx (y := (⟨"com/example/corvid/corvid/classfile/ConstantPoolModifiedUtf8LengthPinLaw", "make", "(ICCCCC)Ljava/lang/String;"⟩ : MethodName)) hown (mvT hZ (tw hw 2 rfl)) (mvT hZ (tw hw 3 rfl)) (mvT hZ (tw hw 4 rfl)) (mvT hZ (tw hw 5 rfl)) (by decide) (backOf (W := 0) (rmMk4 l Z a0 hw [] c0 c1 c2 c3 c4 zc h0 n0 Z0 hc0 hc1 hc2 hc3 OZ SC hzc SA SH SL) hZ (tw hw 5 rfl) (tw hw 4 rfl) (by decide) (by decide)) (g := (mkF m 58 #[.val (.int p0), .val (.int p1), .val (.int p2), .val (.int p3), .val (.int p4), .val (.int p5), .val (.int (4 : Int32)), .val (.int c0), .val (.int c1), .val (.int c2), .val (.int c3), .val (.int c4), .unset, .unset] [(.int c4), (.int c3), (.int c2), (.int c1), (.int c0), (.int (4 : Int32))])) rfl (by rw [hml]; rfl) (argsL := [(.int (4 : Int32)), (.int c0), (.int c1), (.int c2), (.int c3), (.int c4)]) (rest := []) (lenOf pd__ICCCCC_Ljava_lang_String_ rfl) rfl (by show 2 * 0 + _ ≤ _; exact Nat.le_of_eq rfl) (hb hby at_58) (fun _ _ => ⟨rfl, e0, (by decide : 0 + 4 ≤ _), (by decide : 0 + 28 ≤ _)⟩)
    dsimp only [Pt.U, Pt.locs, Pt.cells, Pt.slots] at X680 l680 y680 z680 st680 hQ680
    subst l680 y680 z680
    obtain ⟨x8, rfl, N680q, EX680, E8, SP⟩ := hQ680
    have N680 := Fr.app N0 N680q
    have cs681 := CHr.ext EX680 hCH
    have cr681 := (CHr.refl hCH).trans cs681
    have hk681 := Nat.le_trans (Nat.zero_le _) cs681.2.1
    have Z680 := Nat.le_trans Z0 EX680.1
    obtain ⟨_, _, ⟨T682, L682, k682, n682⟩, -, X682, ⟨Lc682, hQ682, l682, y682, z682⟩, st682⟩ := Jvm.LawKit.callS X680 hx (y := (⟨"com/example/corvid/corvid/classfile/ConstantPoolModifiedUtf8LengthPinLaw", "bytes", "(C)I"⟩ : MethodName)) hown (mvT hZ (tw hw 53 rfl)) (mvT hZ (tw hw 54 rfl)) (mvT hZ (tw hw 4 rfl)) (mvT hZ (tw hw 55 rfl)) (by decide) (backOf (W := 1) (rmByt l Z a0 hw [] c0 T680.heap n0 Z680) hZ (tw hw 55 rfl) (tw hw 4 rfl) (by decide) (by decide)) (g := (mkF m 75 #[.val (.int p0), .val (.int p1), .val (.int p2), .val (.int p3), .val (.int p4), .val (.int p5), .val (.int (4 : Int32)), .val (.int c0), .val (.int c1), .val (.int c2), .val (.int c3), .val (.int c4), .val (.ref x8), .val (.int (0 : Int32))] [(.int c0), (.int (0 : Int32))])) rfl (by rw [hml]; rfl) (argsL := [(.int c0)]) (rest := [(.int (0 : Int32))]) (lenOf pd__C_I rfl) rfl (by show 2 * 0 + _ ≤ _; exact Nat.le_of_eq rfl) (hb hby at_75) (fun _ _ => ⟨rfl, rfl, (by decide : 4 + 0 ≤ _), (by decide : 28 + 0 ≤ _)⟩)
    dsimp only [Pt.U, Pt.locs, Pt.cells, Pt.slots] at X682 l682 y682 z682 st682 hQ682
    subst l682 y682 z682
    obtain ⟨rfl, N682q, EQ682⟩ := hQ682
    have N682 := Fr.app N680 N682q
    have ch683 : CHv Z EL s.vm T682.heap := by rw [EQ682]; exact cs681.1
    have cr683 : CHr Z EL s.vm h0 s.vm T682.heap := by rw [EQ682]; exact cr681
    have hk683 : 0 ≤ T682.heap.size := by rw [EQ682]; exact hk681
    have Z682 : n0 ≤ T682.heap.size := by rw [EQ682]; exact Z680
    obtain ⟨_, _, ⟨T684, L684, k684, n684⟩, -, X684, ⟨Lc684, hQ684, l684, y684, z684⟩, st684⟩ := Jvm.LawKit.callS X682 hx (y := (⟨"com/example/corvid/corvid/classfile/ConstantPoolModifiedUtf8LengthPinLaw", "bytes", "(C)I"⟩ : MethodName)) hown (mvT hZ (tw hw 53 rfl)) (mvT hZ (tw hw 54 rfl)) (mvT hZ (tw hw 4 rfl)) (mvT hZ (tw hw 55 rfl)) (by decide) (backOf (W := 1) (rmByt l Z a0 hw [] c1 T682.heap n0 Z682) hZ (tw hw 55 rfl) (tw hw 4 rfl) (by decide) (by decide)) (g := (mkF m 91 #[.val (.int p0), .val (.int p1), .val (.int p2), .val (.int p3), .val (.int p4), .val (.int p5), .val (.int (4 : Int32)), .val (.int c0), .val (.int c1), .val (.int c2), .val (.int c3), .val (.int c4), .val (.ref x8), .val (.int ((0 : Int32) + (own_mu c0)))] [(.int c1), (.int ((0 : Int32) + (own_mu c0)))])) rfl (by rw [hml]; rfl) (argsL := [(.int c1)]) (rest := [(.int ((0 : Int32) + (own_mu c0)))]) (lenOf pd__C_I rfl) rfl (by show 2 * 0 + _ ≤ _; exact Nat.le_of_eq rfl) (hb hby at_91) (fun _ _ => ⟨rfl, rfl, (by decide : 4 + 0 ≤ _), (by decide : 28 + 0 ≤ _)⟩)
    dsimp only [Pt.U, Pt.locs, Pt.cells, Pt.slots] at X684 l684 y684 z684 st684 hQ684
    subst l684 y684 z684
    obtain ⟨rfl, N684q, EQ684⟩ := hQ684
    have N684 := Fr.app N682 N684q
    have ch685 : CHv Z EL s.vm T684.heap := by rw [EQ684]; exact ch683
    have cr685 : CHr Z EL s.vm h0 s.vm T684.heap := by rw [EQ684]; exact cr683
    have hk685 : 0 ≤ T684.heap.size := by rw [EQ684]; exact hk683
    have Z684 : n0 ≤ T684.heap.size := by rw [EQ684]; exact Z682
    obtain ⟨_, _, ⟨T686, L686, k686, n686⟩, -, X686, ⟨Lc686, hQ686, l686, y686, z686⟩, st686⟩ := Jvm.LawKit.callS X684 hx (y := (⟨"com/example/corvid/corvid/classfile/ConstantPoolModifiedUtf8LengthPinLaw", "bytes", "(C)I"⟩ : MethodName)) hown (mvT hZ (tw hw 53 rfl)) (mvT hZ (tw hw 54 rfl)) (mvT hZ (tw hw 4 rfl)) (mvT hZ (tw hw 55 rfl)) (by decide) (backOf (W := 1) (rmByt l Z a0 hw [] c2 T684.heap n0 Z684) hZ (tw hw 55 rfl) (tw hw 4 rfl) (by decide) (by decide)) (g := (mkF m 107 #[.val (.int p0), .val (.int p1), .val (.int p2), .val (.int p3), .val (.int p4), .val (.int p5), .val (.int (4 : Int32)), .val (.int c0), .val (.int c1), .val (.int c2), .val (.int c3), .val (.int c4), .val (.ref x8), .val (.int (((0 : Int32) + (own_mu c0)) + (own_mu c1)))] [(.int c2), (.int (((0 : Int32) + (own_mu c0)) + (own_mu c1)))])) rfl (by rw [hml]; rfl) (argsL := [(.int c2)]) (rest := [(.int (((0 : Int32) + (own_mu c0)) + (own_mu c1)))]) (lenOf pd__C_I rfl) rfl (by show 2 * 0 + _ ≤ _; exact Nat.le_of_eq rfl) (hb hby at_107) (fun _ _ => ⟨rfl, rfl, (by decide : 4 + 0 ≤ _), (by decide : 28 + 0 ≤ _)⟩)
    dsimp only [Pt.U, Pt.locs, Pt.cells, Pt.slots] at X686 l686 y686 z686 st686 hQ686
    subst l686 y686 z686
    obtain ⟨rfl, N686q, EQ686⟩ := hQ686
    have N686 := Fr.app N684 N686q
    have ch687 : CHv Z EL s.vm T686.heap := by rw [EQ686]; exact ch685
    have cr687 : CHr Z EL s.vm h0 s.vm T686.heap := by rw [EQ686]; exact cr685
    have hk687 : 0 ≤ T686.heap.size := by rw [EQ686]; exact hk685
    have Z686 : n0 ≤ T686.heap.size := by rw [EQ686]; exact Z684
    obtain ⟨_, _, ⟨T688, L688, k688, n688⟩, -, X688, ⟨Lc688, hQ688, l688, y688, z688⟩, st688⟩ := Jvm.LawKit.callS X686 hx (y := (⟨"com/example/corvid/corvid/classfile/ConstantPoolModifiedUtf8LengthPinLaw", "bytes", "(C)I"⟩ : MethodName)) hown (mvT hZ (tw hw 53 rfl)) (mvT hZ (tw hw 54 rfl)) (mvT hZ (tw hw 4 rfl)) (mvT hZ (tw hw 55 rfl)) (by decide) (backOf (W := 1) (rmByt l Z a0 hw [] c3 T686.heap n0 Z686) hZ (tw hw 55 rfl) (tw hw 4 rfl) (by decide) (by decide)) (g := (mkF m 123 #[.val (.int p0), .val (.int p1), .val (.int p2), .val (.int p3), .val (.int p4), .val (.int p5), .val (.int (4 : Int32)), .val (.int c0), .val (.int c1), .val (.int c2), .val (.int c3), .val (.int c4), .val (.ref x8), .val (.int ((((0 : Int32) + (own_mu c0)) + (own_mu c1)) + (own_mu c2)))] [(.int c3), (.int ((((0 : Int32) + (own_mu c0)) + (own_mu c1)) + (own_mu c2)))])) rfl (by rw [hml]; rfl) (argsL := [(.int c3)]) (rest := [(.int ((((0 : Int32) + (own_mu c0)) + (own_mu c1)) + (own_mu c2)))]) (lenOf pd__C_I rfl) rfl (by show 2 * 0 + _ ≤ _; exact Nat.le_of_eq rfl) (hb hby at_123) (fun _ _ => ⟨rfl, rfl, (by decide : 4 + 0 ≤ _), (by decide : 28 + 0 ≤ _)⟩)
    dsimp only [Pt.U, Pt.locs, Pt.cells, Pt.slots] at X688 l688 y688 z688 st688 hQ688
    subst l688 y688 z688
    obtain ⟨rfl, N688q, EQ688⟩ := hQ688
    have N688 := Fr.app N686 N688q
    have ch689 : CHv Z EL s.vm T688.heap := by rw [EQ688]; exact ch687
    have cr689 : CHr Z EL s.vm h0 s.vm T688.heap := by rw [EQ688]; exact cr687
    have hk689 : 0 ≤ T688.heap.size := by rw [EQ688]; exact hk687
    have Z688 : n0 ≤ T688.heap.size := by rw [EQ688]; exact Z686
    have hcs : ∀ i, i < 4 → nar .char ([c0, c1, c2, c3].getD i 0) = [c0, c1, c2, c3].getD i 0 := fun i hi => by
      match i, hi with
      | 0, _ => exact hc0
      | 1, _ => exact hc1
      | 2, _ => exact hc2
      | 3, _ => exact hc3
    have f690 := (EQ688 ▸ (EQ686 ▸ (EQ684 ▸ (EQ682 ▸ (OZ.ext EX680)))))
    have f691 := (EQ688 ▸ (EQ686 ▸ (EQ684 ▸ (EQ682 ▸ E8))))
    have f692 := (EQ688 ▸ (EQ686 ▸ (EQ684 ▸ (EQ682 ▸ SP))))
    obtain ⟨_, _, ⟨T693, L693, k693, n693⟩, -, X693, ⟨Lc693, hQ693, l693, y693, z693⟩, st693⟩ := Jvm.LawKit.callS X688 hx (y := (⟨"com/example/corvid/corvid/classfile/ConstantPool", "modifiedUtf8Length", "(Ljava/lang/String;)I"⟩ : MethodName)) hown (mvT hZ (tw hw 28 rfl)) (mvT hZ (tw hw 29 rfl)) (mvT hZ (tw hw 30 rfl)) (mvT hZ (tw hw 31 rfl)) (by decide) (backOf (W := 0) (rmMuS l Z a0 hw [] x8 [c0, c1, c2, c3] zc fm T688.heap n0 Z688 (SC.ext f690.2) hzc (SFm.ext f690.2) rf (SA.ext f690.2) (SH.ext f690.2) (SL.ext f690.2) f691 f692 (by decide : 4 ≤ 5) hcs) hZ (tw hw 31 rfl) (tw hw 30 rfl) (by decide) (by decide)) (g := (mkF m 147 #[.val (.int p0), .val (.int p1), .val (.int p2), .val (.int p3), .val (.int p4), .val (.int p5), .val (.int (4 : Int32)), .val (.int c0), .val (.int c1), .val (.int c2), .val (.int c3), .val (.int c4), .val (.ref x8), .val (.int (((((0 : Int32) + (own_mu c0)) + (own_mu c1)) + (own_mu c2)) + (own_mu c3)))] [(.ref x8)])) rfl (by rw [hml]; rfl) (argsL := [(.ref x8)]) (rest := []) (lenOf pd__Ljava_lang_String__I rfl) rfl (by show 2 * 0 + _ ≤ _; exact Nat.le_of_eq rfl) (hb hby at_147) (fun _ _ => ⟨rfl, rfl, (by decide : 4 + 0 ≤ _), (by decide : 28 + 0 ≤ _)⟩)
    dsimp only [Pt.U, Pt.locs, Pt.cells, Pt.slots] at X693 l693 y693 z693 st693 hQ693
    subst l693 y693 z693
    obtain ⟨rfl, N693q, EQ693⟩ := hQ693
    have N693 := Fr.app N688 N693q
    have ch694 : CHv Z EL s.vm T693.heap := by rw [EQ693]; exact ch689
    have cr694 : CHr Z EL s.vm h0 s.vm T693.heap := by rw [EQ693]; exact cr689
    have hk694 : 0 ≤ T693.heap.size := by rw [EQ693]; exact hk689
    have pre695 : ∀ t, Steps p.tables e below (T693.setTop (mkF m 160 #[.val (.int p0), .val (.int p1), .val (.int p2), .val (.int p3), .val (.int p4), .val (.int p5), .val (.int (4 : Int32)), .val (.int c0), .val (.int c1), .val (.int c2), .val (.int c3), .val (.int c4), .val (.ref x8), .val (.int (((((0 : Int32) + (own_mu c0)) + (own_mu c1)) + (own_mu c2)) + (own_mu c3)))] [(.int (1 : Int32))])) t → Steps p.tables e below (s₁.setTop (mkF m 46 #[.val (.int p0), .val (.int p1), .val (.int p2), .val (.int p3), .val (.int p4), .val (.int p5), .val (.int (4 : Int32)), .val (.int c0), .val (.int c1), .val (.int c2), .val (.int c3), .val (.int c4), .unset, .unset] [])) t := by
      intro t kt
      show Steps p.tables e below (s₁.setTop (mkF m 46 #[.val (.int p0), .val (.int p1), .val (.int p2), .val (.int p3), .val (.int p4), .val (.int p5), .val (.int (4 : Int32)), .val (.int c0), .val (.int c1), .val (.int c2), .val (.int c3), .val (.int c4), .unset, .unset] [])) _
      refine XS.iload X0.here hx rfl (hb hby at_46) rfl ?_
      refine XS.iload X0.here hx rfl (hb hby at_48) rfl ?_
      refine XS.iload X0.here hx rfl (hb hby at_50) rfl ?_
      refine XS.iload X0.here hx rfl (hb hby at_52) rfl ?_
      refine XS.iload X0.here hx rfl (hb hby at_54) rfl ?_
      refine XS.iload X0.here hx rfl (hb hby at_56) rfl ?_
      refine st680 _ ?_
      show Steps p.tables e below (T680.setTop (mkF m 61 #[.val (.int p0), .val (.int p1), .val (.int p2), .val (.int p3), .val (.int p4), .val (.int p5), .val (.int (4 : Int32)), .val (.int c0), .val (.int c1), .val (.int c2), .val (.int c3), .val (.int c4), .unset, .unset] [(.ref x8)])) _
      refine XS.astore X680.here hx rfl (hb hby at_61) rfl rfl (l' := #[.val (.int p0), .val (.int p1), .val (.int p2), .val (.int p3), .val (.int p4), .val (.int p5), .val (.int (4 : Int32)), .val (.int c0), .val (.int c1), .val (.int c2), .val (.int c3), .val (.int c4), .val (.ref x8), .unset]) rfl ?_
      refine XS.iconst X680.here hx rfl (hb hby at_63) ?_
      refine XS.istore X680.here hx rfl (hb hby at_64) rfl (l' := #[.val (.int p0), .val (.int p1), .val (.int p2), .val (.int p3), .val (.int p4), .val (.int p5), .val (.int (4 : Int32)), .val (.int c0), .val (.int c1), .val (.int c2), .val (.int c3), .val (.int c4), .val (.ref x8), .val (.int (0 : Int32))]) rfl ?_
      refine XS.iload X680.here hx rfl (hb hby at_66) rfl ?_
      refine XS.ifNo X680.here hx rfl (hb hby at_68) rfl ((if0 _ _).trans (tlt (by decide : (0 : Int32) < (4 : Int32))).2.2.2) ?_
      show Steps p.tables e below (T680.setTop (mkF m 71 #[.val (.int p0), .val (.int p1), .val (.int p2), .val (.int p3), .val (.int p4), .val (.int p5), .val (.int (4 : Int32)), .val (.int c0), .val (.int c1), .val (.int c2), .val (.int c3), .val (.int c4), .val (.ref x8), .val (.int (0 : Int32))] [])) _
      refine XS.iload X680.here hx rfl (hb hby at_71) rfl ?_
      refine XS.iload X680.here hx rfl (hb hby at_73) rfl ?_
      refine st682 _ ?_
      show Steps p.tables e below (T682.setTop (mkF m 78 #[.val (.int p0), .val (.int p1), .val (.int p2), .val (.int p3), .val (.int p4), .val (.int p5), .val (.int (4 : Int32)), .val (.int c0), .val (.int c1), .val (.int c2), .val (.int c3), .val (.int c4), .val (.ref x8), .val (.int (0 : Int32))] [(.int (own_mu c0)), (.int (0 : Int32))])) _
      refine XS.iadd X682.here hx rfl (hb hby at_78) rfl ?_
      refine XS.istore X682.here hx rfl (hb hby at_79) rfl (l' := #[.val (.int p0), .val (.int p1), .val (.int p2), .val (.int p3), .val (.int p4), .val (.int p5), .val (.int (4 : Int32)), .val (.int c0), .val (.int c1), .val (.int c2), .val (.int c3), .val (.int c4), .val (.ref x8), .val (.int ((0 : Int32) + (own_mu c0)))]) rfl ?_
      refine XS.iload X682.here hx rfl (hb hby at_81) rfl ?_
      refine XS.iconst X682.here hx rfl (hb hby at_83) ?_
      refine XS.icmpNo X682.here hx rfl (hb hby at_84) rfl (tlt (by decide : (1 : Int32) < (4 : Int32))).2.2.2 ?_
      show Steps p.tables e below (T682.setTop (mkF m 87 #[.val (.int p0), .val (.int p1), .val (.int p2), .val (.int p3), .val (.int p4), .val (.int p5), .val (.int (4 : Int32)), .val (.int c0), .val (.int c1), .val (.int c2), .val (.int c3), .val (.int c4), .val (.ref x8), .val (.int ((0 : Int32) + (own_mu c0)))] [])) _
      refine XS.iload X682.here hx rfl (hb hby at_87) rfl ?_
      refine XS.iload X682.here hx rfl (hb hby at_89) rfl ?_
      refine st684 _ ?_
      show Steps p.tables e below (T684.setTop (mkF m 94 #[.val (.int p0), .val (.int p1), .val (.int p2), .val (.int p3), .val (.int p4), .val (.int p5), .val (.int (4 : Int32)), .val (.int c0), .val (.int c1), .val (.int c2), .val (.int c3), .val (.int c4), .val (.ref x8), .val (.int ((0 : Int32) + (own_mu c0)))] [(.int (own_mu c1)), (.int ((0 : Int32) + (own_mu c0)))])) _
      refine XS.iadd X684.here hx rfl (hb hby at_94) rfl ?_
      refine XS.istore X684.here hx rfl (hb hby at_95) rfl (l' := #[.val (.int p0), .val (.int p1), .val (.int p2), .val (.int p3), .val (.int p4), .val (.int p5), .val (.int (4 : Int32)), .val (.int c0), .val (.int c1), .val (.int c2), .val (.int c3), .val (.int c4), .val (.ref x8), .val (.int (((0 : Int32) + (own_mu c0)) + (own_mu c1)))]) rfl ?_
      refine XS.iload X684.here hx rfl (hb hby at_97) rfl ?_
      refine XS.iconst X684.here hx rfl (hb hby at_99) ?_
      refine XS.icmpNo X684.here hx rfl (hb hby at_100) rfl (tlt (by decide : (2 : Int32) < (4 : Int32))).2.2.2 ?_
      show Steps p.tables e below (T684.setTop (mkF m 103 #[.val (.int p0), .val (.int p1), .val (.int p2), .val (.int p3), .val (.int p4), .val (.int p5), .val (.int (4 : Int32)), .val (.int c0), .val (.int c1), .val (.int c2), .val (.int c3), .val (.int c4), .val (.ref x8), .val (.int (((0 : Int32) + (own_mu c0)) + (own_mu c1)))] [])) _
      refine XS.iload X684.here hx rfl (hb hby at_103) rfl ?_
      refine XS.iload X684.here hx rfl (hb hby at_105) rfl ?_
      refine st686 _ ?_
      show Steps p.tables e below (T686.setTop (mkF m 110 #[.val (.int p0), .val (.int p1), .val (.int p2), .val (.int p3), .val (.int p4), .val (.int p5), .val (.int (4 : Int32)), .val (.int c0), .val (.int c1), .val (.int c2), .val (.int c3), .val (.int c4), .val (.ref x8), .val (.int (((0 : Int32) + (own_mu c0)) + (own_mu c1)))] [(.int (own_mu c2)), (.int (((0 : Int32) + (own_mu c0)) + (own_mu c1)))])) _
      refine XS.iadd X686.here hx rfl (hb hby at_110) rfl ?_
      refine XS.istore X686.here hx rfl (hb hby at_111) rfl (l' := #[.val (.int p0), .val (.int p1), .val (.int p2), .val (.int p3), .val (.int p4), .val (.int p5), .val (.int (4 : Int32)), .val (.int c0), .val (.int c1), .val (.int c2), .val (.int c3), .val (.int c4), .val (.ref x8), .val (.int ((((0 : Int32) + (own_mu c0)) + (own_mu c1)) + (own_mu c2)))]) rfl ?_
      refine XS.iload X686.here hx rfl (hb hby at_113) rfl ?_
      refine XS.iconst X686.here hx rfl (hb hby at_115) ?_
      refine XS.icmpNo X686.here hx rfl (hb hby at_116) rfl (tlt (by decide : (3 : Int32) < (4 : Int32))).2.2.2 ?_
      show Steps p.tables e below (T686.setTop (mkF m 119 #[.val (.int p0), .val (.int p1), .val (.int p2), .val (.int p3), .val (.int p4), .val (.int p5), .val (.int (4 : Int32)), .val (.int c0), .val (.int c1), .val (.int c2), .val (.int c3), .val (.int c4), .val (.ref x8), .val (.int ((((0 : Int32) + (own_mu c0)) + (own_mu c1)) + (own_mu c2)))] [])) _
      refine XS.iload X686.here hx rfl (hb hby at_119) rfl ?_
      refine XS.iload X686.here hx rfl (hb hby at_121) rfl ?_
      refine st688 _ ?_
      show Steps p.tables e below (T688.setTop (mkF m 126 #[.val (.int p0), .val (.int p1), .val (.int p2), .val (.int p3), .val (.int p4), .val (.int p5), .val (.int (4 : Int32)), .val (.int c0), .val (.int c1), .val (.int c2), .val (.int c3), .val (.int c4), .val (.ref x8), .val (.int ((((0 : Int32) + (own_mu c0)) + (own_mu c1)) + (own_mu c2)))] [(.int (own_mu c3)), (.int ((((0 : Int32) + (own_mu c0)) + (own_mu c1)) + (own_mu c2)))])) _
      refine XS.iadd X688.here hx rfl (hb hby at_126) rfl ?_
      refine XS.istore X688.here hx rfl (hb hby at_127) rfl (l' := #[.val (.int p0), .val (.int p1), .val (.int p2), .val (.int p3), .val (.int p4), .val (.int p5), .val (.int (4 : Int32)), .val (.int c0), .val (.int c1), .val (.int c2), .val (.int c3), .val (.int c4), .val (.ref x8), .val (.int (((((0 : Int32) + (own_mu c0)) + (own_mu c1)) + (own_mu c2)) + (own_mu c3)))]) rfl ?_
      refine XS.iload X688.here hx rfl (hb hby at_129) rfl ?_
      refine XS.iconst X688.here hx rfl (hb hby at_131) ?_
      refine XS.icmpYes X688.here hx rfl (pc0 := 132) (pc' := 145) rfl (hb hby at_132) rfl (flt (by decide : ¬ ((4 : Int32) < (4 : Int32)))).2.2.2 (by decide) (by decide) ?_
      show Steps p.tables e below (T688.setTop (mkF m 145 #[.val (.int p0), .val (.int p1), .val (.int p2), .val (.int p3), .val (.int p4), .val (.int p5), .val (.int (4 : Int32)), .val (.int c0), .val (.int c1), .val (.int c2), .val (.int c3), .val (.int c4), .val (.ref x8), .val (.int (((((0 : Int32) + (own_mu c0)) + (own_mu c1)) + (own_mu c2)) + (own_mu c3)))] [])) _
      refine XS.aload X688.here hx rfl (hb hby at_145) rfl rfl ?_
      refine st693 _ ?_
      show Steps p.tables e below (T693.setTop (mkF m 150 #[.val (.int p0), .val (.int p1), .val (.int p2), .val (.int p3), .val (.int p4), .val (.int p5), .val (.int (4 : Int32)), .val (.int c0), .val (.int c1), .val (.int c2), .val (.int c3), .val (.int c4), .val (.ref x8), .val (.int (((((0 : Int32) + (own_mu c0)) + (own_mu c1)) + (own_mu c2)) + (own_mu c3)))] [(.int (own_acc [c0, c1, c2, c3] 4))])) _
      refine XS.iload X693.here hx rfl (hb hby at_150) rfl ?_
      refine XS.icmpNo X693.here hx rfl (hb hby at_152) rfl (teq (rfl : (own_acc [c0, c1, c2, c3] 4) = (((((0 : Int32) + (own_mu c0)) + (own_mu c1)) + (own_mu c2)) + (own_mu c3)))).2 ?_
      show Steps p.tables e below (T693.setTop (mkF m 155 #[.val (.int p0), .val (.int p1), .val (.int p2), .val (.int p3), .val (.int p4), .val (.int p5), .val (.int (4 : Int32)), .val (.int c0), .val (.int c1), .val (.int c2), .val (.int c3), .val (.int c4), .val (.ref x8), .val (.int (((((0 : Int32) + (own_mu c0)) + (own_mu c1)) + (own_mu c2)) + (own_mu c3)))] [])) _
      refine XS.iconst X693.here hx rfl (hb hby at_155) ?_
      refine XS.goto X693.here hx rfl (pc0 := 156) (pc' := 160) rfl (hb hby at_156) (by decide) (by decide) ?_
      exact kt
    obtain ⟨fs, hr, hrun, hended, e1, e2, e3, e4⟩ := X693.leaveW hSi0 hk694 (v := some (.int (1 : Int32))) (fun h => by rw [Bd.returns] at h; cases h)
    refine ⟨_, _, (pre0 _ (pre636 _ (pre695 _ ?_))), hrun, hended, _, _, rfl, ?_, ?_, ⟨e1, e2, e3, e4.mono (by decide) (by decide)⟩⟩
    · show Steps p.tables e below (T693.setTop (mkF m 160 #[.val (.int p0), .val (.int p1), .val (.int p2), .val (.int p3), .val (.int p4), .val (.int p5), .val (.int (4 : Int32)), .val (.int c0), .val (.int c1), .val (.int c2), .val (.int c3), .val (.int c4), .val (.ref x8), .val (.int (((((0 : Int32) + (own_mu c0)) + (own_mu c1)) + (own_mu c2)) + (own_mu c3)))] [(.int (1 : Int32))])) _
      exact retN X693 hx (t := .boolean) Bd.returns (by simp) (hb hby at_160) hr
    · show Q0 Z p0 p1 p2 p3 p4 p5 zc fm h0 n0 _ T693.heap _ T693.vm
      exact ⟨rfl, N693⟩
    · have q := cr694.trans (CHv.at X693 hZ hEL ch694)
      show CHr Z EL s.vm s.heap T693.vm T693.heap
      rw [hh]
      exact q
  · skip
    obtain ⟨_, _, ⟨T696, L696, k696, n696⟩, -, X696, ⟨Lc696, hQ696, l696, y696, z696⟩, st696⟩ := Jvm.LawKit.callS X0 hx (y := (⟨"com/example/corvid/corvid/classfile/ConstantPoolModifiedUtf8LengthPinLaw", "make", "(ICCCCC)Ljava/lang/String;"⟩ : MethodName)) hown (mvT hZ (tw hw 2 rfl)) (mvT hZ (tw hw 3 rfl)) (mvT hZ (tw hw 4 rfl)) (mvT hZ (tw hw 5 rfl)) (by decide) (backOf (W := 0) (rmMk5 l Z a0 hw [] c0 c1 c2 c3 c4 zc h0 n0 Z0 hc0 hc1 hc2 hc3 hc4 OZ SC hzc SA SH SL) hZ (tw hw 5 rfl) (tw hw 4 rfl) (by decide) (by decide)) (g := (mkF m 58 #[.val (.int p0), .val (.int p1), .val (.int p2), .val (.int p3), .val (.int p4), .val (.int p5), .val (.int (5 : Int32)), .val (.int c0), .val (.int c1), .val (.int c2), .val (.int c3), .val (.int c4), .unset, .unset] [(.int c4), (.int c3), (.int c2), (.int c1), (.int c0), (.int (5 : Int32))])) rfl (by rw [hml]; rfl) (argsL := [(.int (5 : Int32)), (.int c0), (.int c1), (.int c2), (.int c3), (.int c4)]) (rest := []) (lenOf pd__ICCCCC_Ljava_lang_String_ rfl) rfl (by show 2 * 0 + _ ≤ _; exact Nat.le_of_eq rfl) (hb hby at_58) (fun _ _ => ⟨rfl, e0, (by decide : 0 + 4 ≤ _), (by decide : 0 + 30 ≤ _)⟩)
    dsimp only [Pt.U, Pt.locs, Pt.cells, Pt.slots] at X696 l696 y696 z696 st696 hQ696
    subst l696 y696 z696
    obtain ⟨x8, rfl, N696q, EX696, E8, SP⟩ := hQ696
    have N696 := Fr.app N0 N696q
    have cs697 := CHr.ext EX696 hCH
    have cr697 := (CHr.refl hCH).trans cs697
    have hk697 := Nat.le_trans (Nat.zero_le _) cs697.2.1
    have Z696 := Nat.le_trans Z0 EX696.1
    obtain ⟨_, _, ⟨T698, L698, k698, n698⟩, -, X698, ⟨Lc698, hQ698, l698, y698, z698⟩, st698⟩ := Jvm.LawKit.callS X696 hx (y := (⟨"com/example/corvid/corvid/classfile/ConstantPoolModifiedUtf8LengthPinLaw", "bytes", "(C)I"⟩ : MethodName)) hown (mvT hZ (tw hw 53 rfl)) (mvT hZ (tw hw 54 rfl)) (mvT hZ (tw hw 4 rfl)) (mvT hZ (tw hw 55 rfl)) (by decide) (backOf (W := 1) (rmByt l Z a0 hw [] c0 T696.heap n0 Z696) hZ (tw hw 55 rfl) (tw hw 4 rfl) (by decide) (by decide)) (g := (mkF m 75 #[.val (.int p0), .val (.int p1), .val (.int p2), .val (.int p3), .val (.int p4), .val (.int p5), .val (.int (5 : Int32)), .val (.int c0), .val (.int c1), .val (.int c2), .val (.int c3), .val (.int c4), .val (.ref x8), .val (.int (0 : Int32))] [(.int c0), (.int (0 : Int32))])) rfl (by rw [hml]; rfl) (argsL := [(.int c0)]) (rest := [(.int (0 : Int32))]) (lenOf pd__C_I rfl) rfl (by show 2 * 0 + _ ≤ _; exact Nat.le_of_eq rfl) (hb hby at_75) (fun _ _ => ⟨rfl, rfl, (by decide : 4 + 0 ≤ _), (by decide : 30 + 0 ≤ _)⟩)
    dsimp only [Pt.U, Pt.locs, Pt.cells, Pt.slots] at X698 l698 y698 z698 st698 hQ698
    subst l698 y698 z698
    obtain ⟨rfl, N698q, EQ698⟩ := hQ698
    have N698 := Fr.app N696 N698q
    have ch699 : CHv Z EL s.vm T698.heap := by rw [EQ698]; exact cs697.1
    have cr699 : CHr Z EL s.vm h0 s.vm T698.heap := by rw [EQ698]; exact cr697
    have hk699 : 0 ≤ T698.heap.size := by rw [EQ698]; exact hk697
    have Z698 : n0 ≤ T698.heap.size := by rw [EQ698]; exact Z696
    obtain ⟨_, _, ⟨T700, L700, k700, n700⟩, -, X700, ⟨Lc700, hQ700, l700, y700, z700⟩, st700⟩ := Jvm.LawKit.callS X698 hx (y := (⟨"com/example/corvid/corvid/classfile/ConstantPoolModifiedUtf8LengthPinLaw", "bytes", "(C)I"⟩ : MethodName)) hown (mvT hZ (tw hw 53 rfl)) (mvT hZ (tw hw 54 rfl)) (mvT hZ (tw hw 4 rfl)) (mvT hZ (tw hw 55 rfl)) (by decide) (backOf (W := 1) (rmByt l Z a0 hw [] c1 T698.heap n0 Z698) hZ (tw hw 55 rfl) (tw hw 4 rfl) (by decide) (by decide)) (g := (mkF m 91 #[.val (.int p0), .val (.int p1), .val (.int p2), .val (.int p3), .val (.int p4), .val (.int p5), .val (.int (5 : Int32)), .val (.int c0), .val (.int c1), .val (.int c2), .val (.int c3), .val (.int c4), .val (.ref x8), .val (.int ((0 : Int32) + (own_mu c0)))] [(.int c1), (.int ((0 : Int32) + (own_mu c0)))])) rfl (by rw [hml]; rfl) (argsL := [(.int c1)]) (rest := [(.int ((0 : Int32) + (own_mu c0)))]) (lenOf pd__C_I rfl) rfl (by show 2 * 0 + _ ≤ _; exact Nat.le_of_eq rfl) (hb hby at_91) (fun _ _ => ⟨rfl, rfl, (by decide : 4 + 0 ≤ _), (by decide : 30 + 0 ≤ _)⟩)
    dsimp only [Pt.U, Pt.locs, Pt.cells, Pt.slots] at X700 l700 y700 z700 st700 hQ700
    subst l700 y700 z700
    obtain ⟨rfl, N700q, EQ700⟩ := hQ700
    have N700 := Fr.app N698 N700q
    have ch701 : CHv Z EL s.vm T700.heap := by rw [EQ700]; exact ch699
    have cr701 : CHr Z EL s.vm h0 s.vm T700.heap := by rw [EQ700]; exact cr699
    have hk701 : 0 ≤ T700.heap.size := by rw [EQ700]; exact hk699
    have Z700 : n0 ≤ T700.heap.size := by rw [EQ700]; exact Z698
    obtain ⟨_, _, ⟨T702, L702, k702, n702⟩, -, X702, ⟨Lc702, hQ702, l702, y702, z702⟩, st702⟩ := Jvm.LawKit.callS X700 hx (y := (⟨"com/example/corvid/corvid/classfile/ConstantPoolModifiedUtf8LengthPinLaw", "bytes", "(C)I"⟩ : MethodName)) hown (mvT hZ (tw hw 53 rfl)) (mvT hZ (tw hw 54 rfl)) (mvT hZ (tw hw 4 rfl)) (mvT hZ (tw hw 55 rfl)) (by decide) (backOf (W := 1) (rmByt l Z a0 hw [] c2 T700.heap n0 Z700) hZ (tw hw 55 rfl) (tw hw 4 rfl) (by decide) (by decide)) (g := (mkF m 107 #[.val (.int p0), .val (.int p1), .val (.int p2), .val (.int p3), .val (.int p4), .val (.int p5), .val (.int (5 : Int32)), .val (.int c0), .val (.int c1), .val (.int c2), .val (.int c3), .val (.int c4), .val (.ref x8), .val (.int (((0 : Int32) + (own_mu c0)) + (own_mu c1)))] [(.int c2), (.int (((0 : Int32) + (own_mu c0)) + (own_mu c1)))])) rfl (by rw [hml]; rfl) (argsL := [(.int c2)]) (rest := [(.int (((0 : Int32) + (own_mu c0)) + (own_mu c1)))]) (lenOf pd__C_I rfl) rfl (by show 2 * 0 + _ ≤ _; exact Nat.le_of_eq rfl) (hb hby at_107) (fun _ _ => ⟨rfl, rfl, (by decide : 4 + 0 ≤ _), (by decide : 30 + 0 ≤ _)⟩)
    dsimp only [Pt.U, Pt.locs, Pt.cells, Pt.slots] at X702 l702 y702 z702 st702 hQ702
    subst l702 y702 z702
    obtain ⟨rfl, N702q, EQ702⟩ := hQ702
    have N702 := Fr.app N700 N702q
    have ch703 : CHv Z EL s.vm T702.heap := by rw [EQ702]; exact ch701
    have cr703 : CHr Z EL s.vm h0 s.vm T702.heap := by rw [EQ702]; exact cr701
    have hk703 : 0 ≤ T702.heap.size := by rw [EQ702]; exact hk701
    have Z702 : n0 ≤ T702.heap.size := by rw [EQ702]; exact Z700
    obtain ⟨_, _, ⟨T704, L704, k704, n704⟩, -, X704, ⟨Lc704, hQ704, l704, y704, z704⟩, st704⟩ := Jvm.LawKit.callS X702 hx (y := (⟨"com/example/corvid/corvid/classfile/ConstantPoolModifiedUtf8LengthPinLaw", "bytes", "(C)I"⟩ : MethodName)) hown (mvT hZ (tw hw 53 rfl)) (mvT hZ (tw hw 54 rfl)) (mvT hZ (tw hw 4 rfl)) (mvT hZ (tw hw 55 rfl)) (by decide) (backOf (W := 1) (rmByt l Z a0 hw [] c3 T702.heap n0 Z702) hZ (tw hw 55 rfl) (tw hw 4 rfl) (by decide) (by decide)) (g := (mkF m 123 #[.val (.int p0), .val (.int p1), .val (.int p2), .val (.int p3), .val (.int p4), .val (.int p5), .val (.int (5 : Int32)), .val (.int c0), .val (.int c1), .val (.int c2), .val (.int c3), .val (.int c4), .val (.ref x8), .val (.int ((((0 : Int32) + (own_mu c0)) + (own_mu c1)) + (own_mu c2)))] [(.int c3), (.int ((((0 : Int32) + (own_mu c0)) + (own_mu c1)) + (own_mu c2)))])) rfl (by rw [hml]; rfl) (argsL := [(.int c3)]) (rest := [(.int ((((0 : Int32) + (own_mu c0)) + (own_mu c1)) + (own_mu c2)))]) (lenOf pd__C_I rfl) rfl (by show 2 * 0 + _ ≤ _; exact Nat.le_of_eq rfl) (hb hby at_123) (fun _ _ => ⟨rfl, rfl, (by decide : 4 + 0 ≤ _), (by decide : 30 + 0 ≤ _)⟩)
    dsimp only [Pt.U, Pt.locs, Pt.cells, Pt.slots] at X704 l704 y704 z704 st704 hQ704
    subst l704 y704 z704
    obtain ⟨rfl, N704q, EQ704⟩ := hQ704
    have N704 := Fr.app N702 N704q
    have ch705 : CHv Z EL s.vm T704.heap := by rw [EQ704]; exact ch703
    have cr705 : CHr Z EL s.vm h0 s.vm T704.heap := by rw [EQ704]; exact cr703
    have hk705 : 0 ≤ T704.heap.size := by rw [EQ704]; exact hk703
    have Z704 : n0 ≤ T704.heap.size := by rw [EQ704]; exact Z702
    obtain ⟨_, _, ⟨T706, L706, k706, n706⟩, -, X706, ⟨Lc706, hQ706, l706, y706, z706⟩, st706⟩ := Jvm.LawKit.callS X704 hx (y := (⟨"com/example/corvid/corvid/classfile/ConstantPoolModifiedUtf8LengthPinLaw", "bytes", "(C)I"⟩ : MethodName)) hown (mvT hZ (tw hw 53 rfl)) (mvT hZ (tw hw 54 rfl)) (mvT hZ (tw hw 4 rfl)) (mvT hZ (tw hw 55 rfl)) (by decide) (backOf (W := 1) (rmByt l Z a0 hw [] c4 T704.heap n0 Z704) hZ (tw hw 55 rfl) (tw hw 4 rfl) (by decide) (by decide)) (g := (mkF m 139 #[.val (.int p0), .val (.int p1), .val (.int p2), .val (.int p3), .val (.int p4), .val (.int p5), .val (.int (5 : Int32)), .val (.int c0), .val (.int c1), .val (.int c2), .val (.int c3), .val (.int c4), .val (.ref x8), .val (.int (((((0 : Int32) + (own_mu c0)) + (own_mu c1)) + (own_mu c2)) + (own_mu c3)))] [(.int c4), (.int (((((0 : Int32) + (own_mu c0)) + (own_mu c1)) + (own_mu c2)) + (own_mu c3)))])) rfl (by rw [hml]; rfl) (argsL := [(.int c4)]) (rest := [(.int (((((0 : Int32) + (own_mu c0)) + (own_mu c1)) + (own_mu c2)) + (own_mu c3)))]) (lenOf pd__C_I rfl) rfl (by show 2 * 0 + _ ≤ _; exact Nat.le_of_eq rfl) (hb hby at_139) (fun _ _ => ⟨rfl, rfl, (by decide : 4 + 0 ≤ _), (by decide : 30 + 0 ≤ _)⟩)
    dsimp only [Pt.U, Pt.locs, Pt.cells, Pt.slots] at X706 l706 y706 z706 st706 hQ706
    subst l706 y706 z706
    obtain ⟨rfl, N706q, EQ706⟩ := hQ706
    have N706 := Fr.app N704 N706q
    have ch707 : CHv Z EL s.vm T706.heap := by rw [EQ706]; exact ch705
    have cr707 : CHr Z EL s.vm h0 s.vm T706.heap := by rw [EQ706]; exact cr705
    have hk707 : 0 ≤ T706.heap.size := by rw [EQ706]; exact hk705
    have Z706 : n0 ≤ T706.heap.size := by rw [EQ706]; exact Z704
    have hcs : ∀ i, i < 5 → nar .char ([c0, c1, c2, c3, c4].getD i 0) = [c0, c1, c2, c3, c4].getD i 0 := fun i hi => by
      match i, hi with
      | 0, _ => exact hc0
      | 1, _ => exact hc1
      | 2, _ => exact hc2
      | 3, _ => exact hc3
      | 4, _ => exact hc4
    have f708 := (EQ706 ▸ (EQ704 ▸ (EQ702 ▸ (EQ700 ▸ (EQ698 ▸ (OZ.ext EX696))))))
    have f709 := (EQ706 ▸ (EQ704 ▸ (EQ702 ▸ (EQ700 ▸ (EQ698 ▸ E8)))))
    have f710 := (EQ706 ▸ (EQ704 ▸ (EQ702 ▸ (EQ700 ▸ (EQ698 ▸ SP)))))
    obtain ⟨_, _, ⟨T711, L711, k711, n711⟩, -, X711, ⟨Lc711, hQ711, l711, y711, z711⟩, st711⟩ := Jvm.LawKit.callS X706 hx (y := (⟨"com/example/corvid/corvid/classfile/ConstantPool", "modifiedUtf8Length", "(Ljava/lang/String;)I"⟩ : MethodName)) hown (mvT hZ (tw hw 28 rfl)) (mvT hZ (tw hw 29 rfl)) (mvT hZ (tw hw 30 rfl)) (mvT hZ (tw hw 31 rfl)) (by decide) (backOf (W := 0) (rmMuS l Z a0 hw [] x8 [c0, c1, c2, c3, c4] zc fm T706.heap n0 Z706 (SC.ext f708.2) hzc (SFm.ext f708.2) rf (SA.ext f708.2) (SH.ext f708.2) (SL.ext f708.2) f709 f710 (by decide : 5 ≤ 5) hcs) hZ (tw hw 31 rfl) (tw hw 30 rfl) (by decide) (by decide)) (g := (mkF m 147 #[.val (.int p0), .val (.int p1), .val (.int p2), .val (.int p3), .val (.int p4), .val (.int p5), .val (.int (5 : Int32)), .val (.int c0), .val (.int c1), .val (.int c2), .val (.int c3), .val (.int c4), .val (.ref x8), .val (.int ((((((0 : Int32) + (own_mu c0)) + (own_mu c1)) + (own_mu c2)) + (own_mu c3)) + (own_mu c4)))] [(.ref x8)])) rfl (by rw [hml]; rfl) (argsL := [(.ref x8)]) (rest := []) (lenOf pd__Ljava_lang_String__I rfl) rfl (by show 2 * 0 + _ ≤ _; exact Nat.le_of_eq rfl) (hb hby at_147) (fun _ _ => ⟨rfl, rfl, (by decide : 4 + 0 ≤ _), (by decide : 30 + 0 ≤ _)⟩)
    dsimp only [Pt.U, Pt.locs, Pt.cells, Pt.slots] at X711 l711 y711 z711 st711 hQ711
    subst l711 y711 z711
    obtain ⟨rfl, N711q, EQ711⟩ := hQ711
    have N711 := Fr.app N706 N711q
    have ch712 : CHv Z EL s.vm T711.heap := by rw [EQ711]; exact ch707
    have cr712 : CHr Z EL s.vm h0 s.vm T711.heap := by rw [EQ711]; exact cr707
    have hk712 : 0 ≤ T711.heap.size := by rw [EQ711]; exact hk707
    have pre713 : ∀ t, Steps p.tables e below (T711.setTop (mkF m 160 #[.val (.int p0), .val (.int p1), .val (.int p2), .val (.int p3), .val (.int p4), .val (.int p5), .val (.int (5 : Int32)), .val (.int c0), .val (.int c1), .val (.int c2), .val (.int c3), .val (.int c4), .val (.ref x8), .val (.int ((((((0 : Int32) + (own_mu c0)) + (own_mu c1)) + (own_mu c2)) + (own_mu c3)) + (own_mu c4)))] [(.int (1 : Int32))])) t → Steps p.tables e below (s₁.setTop (mkF m 46 #[.val (.int p0), .val (.int p1), .val (.int p2), .val (.int p3), .val (.int p4), .val (.int p5), .val (.int (5 : Int32)), .val (.int c0), .val (.int c1), .val (.int c2), .val (.int c3), .val (.int c4), .unset, .unset] [])) t := by
      intro t kt
      show Steps p.tables e below (s₁.setTop (mkF m 46 #[.val (.int p0), .val (.int p1), .val (.int p2), .val (.int p3), .val (.int p4), .val (.int p5), .val (.int (5 : Int32)), .val (.int c0), .val (.int c1), .val (.int c2), .val (.int c3), .val (.int c4), .unset, .unset] [])) _
      refine XS.iload X0.here hx rfl (hb hby at_46) rfl ?_
      refine XS.iload X0.here hx rfl (hb hby at_48) rfl ?_
      refine XS.iload X0.here hx rfl (hb hby at_50) rfl ?_
      refine XS.iload X0.here hx rfl (hb hby at_52) rfl ?_
      refine XS.iload X0.here hx rfl (hb hby at_54) rfl ?_
      refine XS.iload X0.here hx rfl (hb hby at_56) rfl ?_
      refine st696 _ ?_
      show Steps p.tables e below (T696.setTop (mkF m 61 #[.val (.int p0), .val (.int p1), .val (.int p2), .val (.int p3), .val (.int p4), .val (.int p5), .val (.int (5 : Int32)), .val (.int c0), .val (.int c1), .val (.int c2), .val (.int c3), .val (.int c4), .unset, .unset] [(.ref x8)])) _
      refine XS.astore X696.here hx rfl (hb hby at_61) rfl rfl (l' := #[.val (.int p0), .val (.int p1), .val (.int p2), .val (.int p3), .val (.int p4), .val (.int p5), .val (.int (5 : Int32)), .val (.int c0), .val (.int c1), .val (.int c2), .val (.int c3), .val (.int c4), .val (.ref x8), .unset]) rfl ?_
      refine XS.iconst X696.here hx rfl (hb hby at_63) ?_
      refine XS.istore X696.here hx rfl (hb hby at_64) rfl (l' := #[.val (.int p0), .val (.int p1), .val (.int p2), .val (.int p3), .val (.int p4), .val (.int p5), .val (.int (5 : Int32)), .val (.int c0), .val (.int c1), .val (.int c2), .val (.int c3), .val (.int c4), .val (.ref x8), .val (.int (0 : Int32))]) rfl ?_
      refine XS.iload X696.here hx rfl (hb hby at_66) rfl ?_
      refine XS.ifNo X696.here hx rfl (hb hby at_68) rfl ((if0 _ _).trans (tlt (by decide : (0 : Int32) < (5 : Int32))).2.2.2) ?_
      show Steps p.tables e below (T696.setTop (mkF m 71 #[.val (.int p0), .val (.int p1), .val (.int p2), .val (.int p3), .val (.int p4), .val (.int p5), .val (.int (5 : Int32)), .val (.int c0), .val (.int c1), .val (.int c2), .val (.int c3), .val (.int c4), .val (.ref x8), .val (.int (0 : Int32))] [])) _
      refine XS.iload X696.here hx rfl (hb hby at_71) rfl ?_
      refine XS.iload X696.here hx rfl (hb hby at_73) rfl ?_
      refine st698 _ ?_
      show Steps p.tables e below (T698.setTop (mkF m 78 #[.val (.int p0), .val (.int p1), .val (.int p2), .val (.int p3), .val (.int p4), .val (.int p5), .val (.int (5 : Int32)), .val (.int c0), .val (.int c1), .val (.int c2), .val (.int c3), .val (.int c4), .val (.ref x8), .val (.int (0 : Int32))] [(.int (own_mu c0)), (.int (0 : Int32))])) _
      refine XS.iadd X698.here hx rfl (hb hby at_78) rfl ?_
      refine XS.istore X698.here hx rfl (hb hby at_79) rfl (l' := #[.val (.int p0), .val (.int p1), .val (.int p2), .val (.int p3), .val (.int p4), .val (.int p5), .val (.int (5 : Int32)), .val (.int c0), .val (.int c1), .val (.int c2), .val (.int c3), .val (.int c4), .val (.ref x8), .val (.int ((0 : Int32) + (own_mu c0)))]) rfl ?_
      refine XS.iload X698.here hx rfl (hb hby at_81) rfl ?_
      refine XS.iconst X698.here hx rfl (hb hby at_83) ?_
      refine XS.icmpNo X698.here hx rfl (hb hby at_84) rfl (tlt (by decide : (1 : Int32) < (5 : Int32))).2.2.2 ?_
      show Steps p.tables e below (T698.setTop (mkF m 87 #[.val (.int p0), .val (.int p1), .val (.int p2), .val (.int p3), .val (.int p4), .val (.int p5), .val (.int (5 : Int32)), .val (.int c0), .val (.int c1), .val (.int c2), .val (.int c3), .val (.int c4), .val (.ref x8), .val (.int ((0 : Int32) + (own_mu c0)))] [])) _
      refine XS.iload X698.here hx rfl (hb hby at_87) rfl ?_
      refine XS.iload X698.here hx rfl (hb hby at_89) rfl ?_
      refine st700 _ ?_
      show Steps p.tables e below (T700.setTop (mkF m 94 #[.val (.int p0), .val (.int p1), .val (.int p2), .val (.int p3), .val (.int p4), .val (.int p5), .val (.int (5 : Int32)), .val (.int c0), .val (.int c1), .val (.int c2), .val (.int c3), .val (.int c4), .val (.ref x8), .val (.int ((0 : Int32) + (own_mu c0)))] [(.int (own_mu c1)), (.int ((0 : Int32) + (own_mu c0)))])) _
      refine XS.iadd X700.here hx rfl (hb hby at_94) rfl ?_
      refine XS.istore X700.here hx rfl (hb hby at_95) rfl (l' := #[.val (.int p0), .val (.int p1), .val (.int p2), .val (.int p3), .val (.int p4), .val (.int p5), .val (.int (5 : Int32)), .val (.int c0), .val (.int c1), .val (.int c2), .val (.int c3), .val (.int c4), .val (.ref x8), .val (.int (((0 : Int32) + (own_mu c0)) + (own_mu c1)))]) rfl ?_
      refine XS.iload X700.here hx rfl (hb hby at_97) rfl ?_
      refine XS.iconst X700.here hx rfl (hb hby at_99) ?_
      refine XS.icmpNo X700.here hx rfl (hb hby at_100) rfl (tlt (by decide : (2 : Int32) < (5 : Int32))).2.2.2 ?_
      show Steps p.tables e below (T700.setTop (mkF m 103 #[.val (.int p0), .val (.int p1), .val (.int p2), .val (.int p3), .val (.int p4), .val (.int p5), .val (.int (5 : Int32)), .val (.int c0), .val (.int c1), .val (.int c2), .val (.int c3), .val (.int c4), .val (.ref x8), .val (.int (((0 : Int32) + (own_mu c0)) + (own_mu c1)))] [])) _
      refine XS.iload X700.here hx rfl (hb hby at_103) rfl ?_
      refine XS.iload X700.here hx rfl (hb hby at_105) rfl ?_
      refine st702 _ ?_
      show Steps p.tables e below (T702.setTop (mkF m 110 #[.val (.int p0), .val (.int p1), .val (.int p2), .val (.int p3), .val (.int p4), .val (.int p5), .val (.int (5 : Int32)), .val (.int c0), .val (.int c1), .val (.int c2), .val (.int c3), .val (.int c4), .val (.ref x8), .val (.int (((0 : Int32) + (own_mu c0)) + (own_mu c1)))] [(.int (own_mu c2)), (.int (((0 : Int32) + (own_mu c0)) + (own_mu c1)))])) _
      refine XS.iadd X702.here hx rfl (hb hby at_110) rfl ?_
      refine XS.istore X702.here hx rfl (hb hby at_111) rfl (l' := #[.val (.int p0), .val (.int p1), .val (.int p2), .val (.int p3), .val (.int p4), .val (.int p5), .val (.int (5 : Int32)), .val (.int c0), .val (.int c1), .val (.int c2), .val (.int c3), .val (.int c4), .val (.ref x8), .val (.int ((((0 : Int32) + (own_mu c0)) + (own_mu c1)) + (own_mu c2)))]) rfl ?_
      refine XS.iload X702.here hx rfl (hb hby at_113) rfl ?_
      refine XS.iconst X702.here hx rfl (hb hby at_115) ?_
      refine XS.icmpNo X702.here hx rfl (hb hby at_116) rfl (tlt (by decide : (3 : Int32) < (5 : Int32))).2.2.2 ?_
      show Steps p.tables e below (T702.setTop (mkF m 119 #[.val (.int p0), .val (.int p1), .val (.int p2), .val (.int p3), .val (.int p4), .val (.int p5), .val (.int (5 : Int32)), .val (.int c0), .val (.int c1), .val (.int c2), .val (.int c3), .val (.int c4), .val (.ref x8), .val (.int ((((0 : Int32) + (own_mu c0)) + (own_mu c1)) + (own_mu c2)))] [])) _
      refine XS.iload X702.here hx rfl (hb hby at_119) rfl ?_
      refine XS.iload X702.here hx rfl (hb hby at_121) rfl ?_
      refine st704 _ ?_
      show Steps p.tables e below (T704.setTop (mkF m 126 #[.val (.int p0), .val (.int p1), .val (.int p2), .val (.int p3), .val (.int p4), .val (.int p5), .val (.int (5 : Int32)), .val (.int c0), .val (.int c1), .val (.int c2), .val (.int c3), .val (.int c4), .val (.ref x8), .val (.int ((((0 : Int32) + (own_mu c0)) + (own_mu c1)) + (own_mu c2)))] [(.int (own_mu c3)), (.int ((((0 : Int32) + (own_mu c0)) + (own_mu c1)) + (own_mu c2)))])) _
      refine XS.iadd X704.here hx rfl (hb hby at_126) rfl ?_
      refine XS.istore X704.here hx rfl (hb hby at_127) rfl (l' := #[.val (.int p0), .val (.int p1), .val (.int p2), .val (.int p3), .val (.int p4), .val (.int p5), .val (.int (5 : Int32)), .val (.int c0), .val (.int c1), .val (.int c2), .val (.int c3), .val (.int c4), .val (.ref x8), .val (.int (((((0 : Int32) + (own_mu c0)) + (own_mu c1)) + (own_mu c2)) + (own_mu c3)))]) rfl ?_
      refine XS.iload X704.here hx rfl (hb hby at_129) rfl ?_
      refine XS.iconst X704.here hx rfl (hb hby at_131) ?_
      refine XS.icmpNo X704.here hx rfl (hb hby at_132) rfl (tlt (by decide : (4 : Int32) < (5 : Int32))).2.2.2 ?_
      show Steps p.tables e below (T704.setTop (mkF m 135 #[.val (.int p0), .val (.int p1), .val (.int p2), .val (.int p3), .val (.int p4), .val (.int p5), .val (.int (5 : Int32)), .val (.int c0), .val (.int c1), .val (.int c2), .val (.int c3), .val (.int c4), .val (.ref x8), .val (.int (((((0 : Int32) + (own_mu c0)) + (own_mu c1)) + (own_mu c2)) + (own_mu c3)))] [])) _
      refine XS.iload X704.here hx rfl (hb hby at_135) rfl ?_
      refine XS.iload X704.here hx rfl (hb hby at_137) rfl ?_
      refine st706 _ ?_
      show Steps p.tables e below (T706.setTop (mkF m 142 #[.val (.int p0), .val (.int p1), .val (.int p2), .val (.int p3), .val (.int p4), .val (.int p5), .val (.int (5 : Int32)), .val (.int c0), .val (.int c1), .val (.int c2), .val (.int c3), .val (.int c4), .val (.ref x8), .val (.int (((((0 : Int32) + (own_mu c0)) + (own_mu c1)) + (own_mu c2)) + (own_mu c3)))] [(.int (own_mu c4)), (.int (((((0 : Int32) + (own_mu c0)) + (own_mu c1)) + (own_mu c2)) + (own_mu c3)))])) _
      refine XS.iadd X706.here hx rfl (hb hby at_142) rfl ?_
      refine XS.istore X706.here hx rfl (hb hby at_143) rfl (l' := #[.val (.int p0), .val (.int p1), .val (.int p2), .val (.int p3), .val (.int p4), .val (.int p5), .val (.int (5 : Int32)), .val (.int c0), .val (.int c1), .val (.int c2), .val (.int c3), .val (.int c4), .val (.ref x8), .val (.int ((((((0 : Int32) + (own_mu c0)) + (own_mu c1)) + (own_mu c2)) + (own_mu c3)) + (own_mu c4)))]) rfl ?_
      refine XS.aload X706.here hx rfl (hb hby at_145) rfl rfl ?_
      refine st711 _ ?_
      show Steps p.tables e below (T711.setTop (mkF m 150 #[.val (.int p0), .val (.int p1), .val (.int p2), .val (.int p3), .val (.int p4), .val (.int p5), .val (.int (5 : Int32)), .val (.int c0), .val (.int c1), .val (.int c2), .val (.int c3), .val (.int c4), .val (.ref x8), .val (.int ((((((0 : Int32) + (own_mu c0)) + (own_mu c1)) + (own_mu c2)) + (own_mu c3)) + (own_mu c4)))] [(.int (own_acc [c0, c1, c2, c3, c4] 5))])) _
      refine XS.iload X711.here hx rfl (hb hby at_150) rfl ?_
      refine XS.icmpNo X711.here hx rfl (hb hby at_152) rfl (teq (rfl : (own_acc [c0, c1, c2, c3, c4] 5) = ((((((0 : Int32) + (own_mu c0)) + (own_mu c1)) + (own_mu c2)) + (own_mu c3)) + (own_mu c4)))).2 ?_
      show Steps p.tables e below (T711.setTop (mkF m 155 #[.val (.int p0), .val (.int p1), .val (.int p2), .val (.int p3), .val (.int p4), .val (.int p5), .val (.int (5 : Int32)), .val (.int c0), .val (.int c1), .val (.int c2), .val (.int c3), .val (.int c4), .val (.ref x8), .val (.int ((((((0 : Int32) + (own_mu c0)) + (own_mu c1)) + (own_mu c2)) + (own_mu c3)) + (own_mu c4)))] [])) _
      refine XS.iconst X711.here hx rfl (hb hby at_155) ?_
      refine XS.goto X711.here hx rfl (pc0 := 156) (pc' := 160) rfl (hb hby at_156) (by decide) (by decide) ?_
      exact kt
    obtain ⟨fs, hr, hrun, hended, e1, e2, e3, e4⟩ := X711.leaveW hSi0 hk712 (v := some (.int (1 : Int32))) (fun h => by rw [Bd.returns] at h; cases h)
    refine ⟨_, _, (pre0 _ (pre636 _ (pre713 _ ?_))), hrun, hended, _, _, rfl, ?_, ?_, ⟨e1, e2, e3, e4.mono (by decide) (by decide)⟩⟩
    · show Steps p.tables e below (T711.setTop (mkF m 160 #[.val (.int p0), .val (.int p1), .val (.int p2), .val (.int p3), .val (.int p4), .val (.int p5), .val (.int (5 : Int32)), .val (.int c0), .val (.int c1), .val (.int c2), .val (.int c3), .val (.int c4), .val (.ref x8), .val (.int ((((((0 : Int32) + (own_mu c0)) + (own_mu c1)) + (own_mu c2)) + (own_mu c3)) + (own_mu c4)))] [(.int (1 : Int32))])) _
      exact retN X711 hx (t := .boolean) Bd.returns (by simp) (hb hby at_160) hr
    · show Q0 Z p0 p1 p2 p3 p4 p5 zc fm h0 n0 _ T711.heap _ T711.vm
      exact ⟨rfl, N711⟩
    · have q := cr712.trans (CHv.at X711 hZ hEL ch712)
      show CHr Z EL s.vm s.heap T711.vm T711.heap
      rw [hh]
      exact q
set_option maxRecDepth 65536 in
set_option maxHeartbeats 40000000 in
theorem comes_1 {Post : Tables → Env → Array Value → State → Outcome → State → Prop} (hpost : ∀ tb e args s v u, (limb_1_1.after args s (.returned v) u = true ∧ limb_1_2.after args s (.returned v) u = true ∧ True) → ReturnedEndW s (.returned v) u (Jvm.fieldLocs frame_1_writes args s ++ Jvm.arrayLocs frame_1_arrays args s ++ Jvm.staticLocs frame_1_statics s) 24 1152 → Post tb e args s (.returned v) u) :
    ArmFor flags0 classFile x code maxLocals ret World_1 tables_1 room_1 Calls_1 rest_1 Pre_1 Post := by
  intro l hfl _ _ p e ha hc hk s m args below hf hA hF happ hP
  obtain ⟨hcalls, hrest, hpre⟩ := hP
  obtain ⟨-, -, -, hnamed, -, -, -, hat⟩ := (Spec.applies_iff hf).mp happ
  obtain ⟨hg, hn⟩ := and_e (Cond.before_iff.mp (show (Jvm.Cond.and given_1 narrow_1).before args s = true from hpre))
  obtain ⟨gc, g0⟩ := and_e hg
  obtain ⟨ga0, g1⟩ := and_e g0
  obtain ⟨ga1, g2⟩ := and_e g1
  obtain ⟨ga2, g3⟩ := and_e g2
  obtain ⟨ga3, g4⟩ := and_e g3
  obtain ⟨ga4, g5⟩ := and_e g4
  obtain ⟨w0, w1, w2, w3, w4, w5, rfl⟩ : ∃ w0 w1 w2 w3 w4 w5 : Value, args = #[w0, w1, w2, w3, w4, w5] := by
    have hs : args.size = 6 := by simpa [Cond.value, given_1] using gc
    obtain ⟨L⟩ := args
    match L, hs with
    | [w0, w1, w2, w3, w4, w5], _ => exact ⟨w0, w1, w2, w3, w4, w5, rfl⟩
  have hw := fun d (hd : d ∈ tables_1) => atoms_spec (ws := Jvm.Cond.code x code maxLocals ret :: tables_1) hat d (List.mem_cons_of_mem _ hd)
  have hfit : Fit s := fun {y c} hc i hi => by
    obtain ⟨ha, rfl⟩ := Array.getElem?_eq_some_iff.mp hc
    have q := List.all_eq_true.mp ((Array.all_eq_true_iff_forall_mem.mp hF) _ (Array.getElem_mem ha)) i (List.mem_range.mpr hi)
    simpa [Array.getElem?_eq_getElem hi] using q
  obtain ⟨i0, ei0⟩ := is_v ga0
  obtain rfl : w0 = (.int i0) := Option.some.inj ei0
  obtain ⟨i1, ei1⟩ := is_v ga1
  obtain rfl : w1 = (.int i1) := Option.some.inj ei1
  obtain ⟨i2, ei2⟩ := is_v ga2
  obtain rfl : w2 = (.int i2) := Option.some.inj ei2
  obtain ⟨i3, ei3⟩ := is_v ga3
  obtain rfl : w3 = (.int i3) := Option.some.inj ei3
  obtain ⟨i4, ei4⟩ := is_v ga4
  obtain rfl : w4 = (.int i4) := Option.some.inj ei4
  obtain ⟨i5, ei5⟩ := is_v g5
  obtain rfl : w5 = (.int i5) := Option.some.inj ei5
  obtain ⟨hsets, -⟩ := atoms_of _ (rest_1_c_eq ▸ (show rest_1_c.before _ s = true from hrest))
  obtain ⟨zc, vzc⟩ := is_v (Cond.before_iff.mp (hsets _ (List.mem_of_getElem? (i := 1) rfl)))
  have SC := Sta.start vzc (Or.inl (hsets _ (List.mem_of_getElem? (i := 0) rfl)))
  have hzc : ¬ zc = (0 : Int32) := fun q => by
      have h2 := not_v (Cond.before_iff.mp (hsets _ (List.mem_of_getElem? (i := 2) rfl)))
      have h3 := (eq_i vzc (Term.int_eval 0) (by rw [q])).symm.trans h2
      simp at h3
  obtain ⟨fm, vfm, rf⟩ := isR_v (Cond.before_iff.mp (hsets _ (List.mem_of_getElem? (i := 8) rfl)))
  have SFm := Sta.start vfm (Or.inl (hsets _ (List.mem_of_getElem? (i := 7) rfl)))
  have SA := Sta.start (own_eqv (Cond.before_iff.mp (hsets _ (List.mem_of_getElem? (i := 12) rfl))) (Term.int_eval 1)) (Or.inl (hsets _ (List.mem_of_getElem? (i := 11) rfl)))
  have SH := Sta.start (own_eqv (Cond.before_iff.mp (hsets _ (List.mem_of_getElem? (i := 15) rfl))) (Term.int_eval 0)) (Or.inl (hsets _ (List.mem_of_getElem? (i := 14) rfl)))
  have SL := Sta.start (own_eqv (Cond.before_iff.mp (hsets _ (List.mem_of_getElem? (i := 18) rfl))) (Term.int_eval 8)) (Or.inl (hsets _ (List.mem_of_getElem? (i := 17) rfl)))
  have hcw : Jvm.Lit.compactW.before #[.int i0, .int i1, .int i2, .int i3, .int i4, .int i5] s = true := hsets _ (List.mem_of_getElem? (i := 2) rfl)
  have hEL : EW s #[.int i0, .int i1, .int i2, .int i3, .int i4, .int i5] EL := (EW.cons (tw hw 20 rfl) (by decide) EW.nil)
  have hCH : CHv s EL s.vm s.heap := CHv.start hEL hcalls.1 hcw (tw hw 21 rfl) (tw hw 7 rfl)
  obtain ⟨n, o, h1, h2, h3, _, L, rfl, ⟨rfl, N⟩, -, hq⟩ := rm0 l s _ hw tables_1 i0 i1 i2 i3 i4 i5 zc fm s.heap s.heap.size (Nat.le_refl _) hEL (Old.start s) SC hzc SA SH SL SFm rf p e ha hc hk s m _ below hf ((Spec.applies_iff_loose hf).mp happ).1 ⟨rfl, State.Warmed39.refl s, rfl, hCH⟩ trivial
  refine ⟨n, _, h1, h2, h3, hpost _ _ _ _ _ _ ⟨Cond.after_iff.mpr rfl, Cond.after_iff.mpr (eq_i res_at (Term.int_eval (1)) rfl), trivial⟩ ⟨hq.1, hq.2.1, hq.2.2.1, (hq.2.2.2.sift fun y hy => Or.inr (N y hy)).mono (by decide) (by decide)⟩⟩
theorem main_1_1 : Claimed_1_1 := comes_1 fun _ _ _ _ _ _ h hF => ⟨h.1, hF⟩
theorem main_1_2 : Claimed_1_2 := comes_1 fun _ _ _ _ _ _ h hF => ⟨h.2.1, hF⟩
end Jvm.Pilot.@@N@@
namespace Jvm.Pilot.@@N@@
open Jvm Jvm.ClassFile Sem Op Lib Jvm.Free Jvm.Stand Jvm.Pilot.@@N@@.Jvm.D
/-! MADE BY PROGRAM (witnessworld.py) out of the Statement's table words and the real class files: 20 classes; the members and pool entries that the words name. The judged class is class 1, her method 1. -/
namespace start1
open Jvm.ClassFile
def u (s : String) : CpInfo := .utf8 (stringToUtf16 s)
/-- a pool by its gaps: so many unusable entries, then the entry; so many at the end -/
def gap : Nat → List CpInfo → List CpInfo
  | 0, r => r
  | n + 1, r => .unusable :: gap n r
def poolList (es : List (Nat × CpInfo)) (last : Nat) : List CpInfo := es.foldr (fun e r => gap e.1 (e.2 :: r)) (gap last [])
def pool (es : List (Nat × CpInfo)) (last : Nat) : Array CpInfo := ⟨poolList es last⟩
def fileOf (pool : Array CpInfo) (this : Nat) (attrs : Array Attribute := #[]) (ms : Array MethodInfo := #[]) (fl : Nat := 33) (sup : Nat := 0) (ifs : Array Nat := #[]) (fds : Array FieldInfo := #[]) : ClassFile where
  minorVersion := 0
  majorVersion := 65
  constantPool := pool
  accessFlags := fl
  thisClass := this
  superClass := sup
  interfaces := ifs
  fields := fds
  methods := ms
  attributes := attrs
def plain (name : String) (sup : Option ClassId) : Class where
  name := name
  kind := .ordinary
  loader := none
  accessFlags := 33
  super := sup
  interfaces := #[]
  cf := none
  fields := #[]
  methods := #[]
  instanceTypes := #[]
  staticTypes := #[]
  resolved := #[]
  callSites := []
  init := .initialized
  statics := none
  mirror := none

def pool0 : Array CpInfo := pool [(5, u "<init>"), (0, u "()V"), (1, .class_ 10), (1, u "java/lang/Object")] 113

def k0c0 : Code := { maxStack := 0, maxLocals := 1, code := object_method_1_code, exceptionTable := #[], attributes := #[] }
def k0m0 : Method := { name := "<init>", desc := "()V", sig := { parameters := [], returnType := none }, accessFlags := 1, code := some k0c0 }
/-- java/lang/Object -/
def k0 : Class := { plain "java/lang/Object" none with
  accessFlags := 33
  interfaces := #[]
  cf := some (fileOf pool0 8 #[] #[{ accessFlags := 1, nameIndex := 5, descriptorIndex := 6, attributes := #[] }] 33 0 #[] #[])
  fields := #[]
  methods := #[k0m0]
  instanceTypes := #[]
  staticTypes := #[]
  resolved := Array.replicate 124 none
  statics := none }

def pool1 : Array CpInfo := pool [(2, .class_ 4), (1, u "java/lang/Object"), (0, u "<init>"), (0, u "()V"), (0, .integer 2147483647), (0, .integer 65535), (0, .methodref 10 11), (0, .class_ 12), (0, .nameAndType 13 14), (0, u "com/example/corvid/corvid/classfile/ConstantPoolModifiedUtf8LengthPinLaw"), (0, u "make"), (0, u "(ICCCCC)Ljava/lang/String;"), (0, .methodref 10 16), (0, .nameAndType 17 18), (0, u "bytes"), (0, u "(C)I"), (0, .methodref 20 21), (0, .class_ 22), (0, .nameAndType 23 24), (0, u "com/example/corvid/corvid/classfile/ConstantPool"), (0, u "modifiedUtf8Length"), (0, u "(Ljava/lang/String;)I"), (0, .class_ 26), (0, u "java/lang/String"), (0, .methodref 25 28), (0, .nameAndType 5 29), (0, u "([C)V"), (0, .methodref 25 31), (0, .nameAndType 32 33), (0, u "valueOf"), (0, u "(C)Ljava/lang/String;"), (2, u "law"), (0, u "(IIIIII)Z")] 3

def k1m0 : Method := { name := "<init>", desc := "()V", sig := { parameters := [], returnType := none }, accessFlags := 1, code := none }
def k1c1 : Code := { maxStack := 6, maxLocals := 14, code := code, exceptionTable := #[], attributes := #[] }
def k1m1 : Method := { name := "law", desc := "(IIIIII)Z", sig := { parameters := [.int, .int, .int, .int, .int, .int], returnType := some .boolean }, accessFlags := 9, code := some k1c1 }
def k1c2 : Code := { maxStack := 2, maxLocals := 3, code := method_3_code, exceptionTable := #[], attributes := #[] }
def k1m2 : Method := { name := "bytes", desc := "(C)I", sig := { parameters := [.char], returnType := some .int }, accessFlags := 10, code := some k1c2 }
def k1c3 : Code := { maxStack := 6, maxLocals := 6, code := method_4_code, exceptionTable := #[], attributes := #[] }
def k1m3 : Method := { name := "make", desc := "(ICCCCC)Ljava/lang/String;", sig := { parameters := [.int, .char, .char, .char, .char, .char], returnType := some (.object "java/lang/String") }, accessFlags := 10, code := some k1c3 }
/-- com/example/corvid/corvid/classfile/ConstantPoolModifiedUtf8LengthPinLaw -/
def k1 : Class := { plain "com/example/corvid/corvid/classfile/ConstantPoolModifiedUtf8LengthPinLaw" (some 0) with
  accessFlags := 49
  interfaces := #[]
  cf := some (fileOf pool1 10 #[] #[{ accessFlags := 1, nameIndex := 5, descriptorIndex := 6, attributes := #[] }, { accessFlags := 9, nameIndex := 36, descriptorIndex := 37, attributes := #[] }, { accessFlags := 10, nameIndex := 17, descriptorIndex := 18, attributes := #[] }, { accessFlags := 10, nameIndex := 13, descriptorIndex := 14, attributes := #[] }] 49 2 #[] #[])
  fields := #[]
  methods := #[k1m0, k1m1, k1m2, k1m3]
  instanceTypes := #[]
  staticTypes := #[]
  resolved := Array.replicate 41 none
  statics := none }

def pool2 : Array CpInfo := pool [(1, .class_ 2), (0, u "java/io/Serializable"), (0, .class_ 4), (0, u "java/lang/Object")] 2

/-- java/io/Serializable -/
def k2 : Class := { plain "java/io/Serializable" (some 0) with
  accessFlags := 1537
  interfaces := #[]
  cf := some (fileOf pool2 1 #[] #[] 1537 3 #[] #[])
  fields := #[]
  methods := #[]
  instanceTypes := #[]
  staticTypes := #[]
  resolved := Array.replicate 7 none
  statics := none }

def pool3 : Array CpInfo := pool [(1, .class_ 2), (0, u "java/lang/Comparable"), (0, .class_ 4), (0, u "java/lang/Object")] 7

/-- java/lang/Comparable -/
def k3 : Class := { plain "java/lang/Comparable" (some 0) with
  accessFlags := 1537
  interfaces := #[]
  cf := some (fileOf pool3 1 #[] #[] 1537 3 #[] #[])
  fields := #[]
  methods := #[]
  instanceTypes := #[]
  staticTypes := #[]
  resolved := Array.replicate 12 none
  statics := none }

def pool4 : Array CpInfo := pool [(2, .class_ 4), (1, u "java/lang/CharSequence"), (42, .class_ 48), (0, u "java/lang/CharSequence$1CodePointIterator"), (10, .class_ 60), (0, u "java/lang/CharSequence$1CharIterator"), (5, .class_ 67), (0, u "java/lang/Object")] 63

/-- java/lang/CharSequence -/
def k4 : Class := { plain "java/lang/CharSequence" (some 0) with
  accessFlags := 1537
  interfaces := #[]
  cf := some (fileOf pool4 2 #[.nestMembers #[47, 59]] #[] 1537 66 #[] #[])
  fields := #[]
  methods := #[]
  instanceTypes := #[]
  staticTypes := #[]
  resolved := Array.replicate 131 none
  statics := none }

def pool5 : Array CpInfo := pool [(1, .class_ 2), (0, u "java/lang/constant/Constable"), (0, .class_ 4), (0, u "java/lang/Object")] 6

/-- java/lang/constant/Constable -/
def k5 : Class := { plain "java/lang/constant/Constable" (some 0) with
  accessFlags := 1537
  interfaces := #[]
  cf := some (fileOf pool5 1 #[] #[] 1537 3 #[] #[])
  fields := #[]
  methods := #[]
  instanceTypes := #[]
  staticTypes := #[]
  resolved := Array.replicate 11 none
  statics := none }

def pool6 : Array CpInfo := pool [(1, .class_ 2), (0, u "java/lang/constant/ConstantDesc"), (0, .class_ 4), (0, u "java/lang/Object")] 32

/-- java/lang/constant/ConstantDesc -/
def k6 : Class := { plain "java/lang/constant/ConstantDesc" (some 0) with
  accessFlags := 1537
  interfaces := #[]
  cf := some (fileOf pool6 1 #[] #[] 1537 3 #[] #[])
  fields := #[]
  methods := #[]
  instanceTypes := #[]
  staticTypes := #[]
  resolved := Array.replicate 37 none
  statics := none }

def pool7 : Array CpInfo := pool [(1, .methodref 2 3), (0, .class_ 4), (0, .nameAndType 5 6), (0, u "java/lang/Object"), (0, u "<init>"), (0, u "()V"), (0, .string 8), (0, u ""), (0, .fieldref 10 11), (0, .class_ 12), (0, .nameAndType 13 14), (0, u "java/lang/String"), (0, u "value"), (0, u "[B"), (0, .fieldref 10 16), (0, .nameAndType 17 18), (0, u "coder"), (0, u "B"), (2, u "hash"), (0, u "I"), (2, u "hashIsZero"), (0, u "Z"), (0, .methodref 10 28), (0, .nameAndType 5 29), (0, u "([CIILjava/lang/Void;)V"), (8, .fieldref 10 39), (0, .nameAndType 40 26), (0, u "COMPACT_STRINGS"), (1, .class_ 44), (1, u "java/lang/StringUTF16"), (0, u "compress"), (1, .methodref 42 48), (0, .nameAndType 49 50), (0, u "coderFromArrayLen"), (0, u "([BI)B"), (2, u "toBytes"), (53, .class_ 109), (1, u "java/lang/StringLatin1"), (32, u "()Z"), (34, .methodref 42 178), (0, .nameAndType 45 179), (0, u "([CII)[B"), (29, .methodref 10 210), (0, .nameAndType 5 211), (0, u "([BB)V"), (122, u "()I"), (0, .methodref 10 336), (0, .nameAndType 17 337), (0, u "()B"), (25, u "([BI)C"), (5, u "(C)Z"), (21, u "(II)V"), (35, u "(I)C"), (64, .methodref 10 493), (0, .nameAndType 494 142), (0, u "isLatin1"), (0, .methodref 107 496), (0, .nameAndType 497 363), (0, u "charAt"), (0, .methodref 42 496), (2, u "checkIndex"), (5, u "length"), (67, .class_ 576), (0, u "java/lang/CharSequence"), (22, u "CASE_INSENSITIVE_ORDER"), (0, u "Ljava/util/Comparator;"), (181, u "valueOf"), (0, u "(C)Ljava/lang/String;"), (226, u "([C)V"), (4, .methodref 107 1016), (0, .nameAndType 1017 369), (0, u "canEncode"), (0, .methodref 107 1019), (0, .nameAndType 53 1020), (0, u "(C)[B"), (0, .methodref 42 1019), (31, .fieldref 1054 1055), (0, .class_ 1056), (0, .nameAndType 1057 1058), (0, u "jdk/internal/util/Preconditions"), (0, u "SIOOBE_FORMATTER"), (0, u "Ljava/util/function/BiFunction;"), (0, .methodref 1054 1060), (0, .nameAndType 501 1061), (0, u "(IILjava/util/function/BiFunction;)I"), (39, u "serialPersistentFields"), (0, u "[Ljava/io/ObjectStreamField;"), (0, .class_ 1104), (0, u "java/lang/String$CaseInsensitiveComparator"), (1, .class_ 1107), (0, u "java/io/Serializable"), (0, .class_ 1109), (0, u "java/lang/Comparable"), (0, .class_ 1111), (0, u "java/lang/constant/Constable"), (0, .class_ 1113), (0, u "java/lang/constant/ConstantDesc"), (2, u "serialVersionUID"), (0, u "J"), (3, u "REPL"), (0, u "C"), (2, u "LATIN1"), (1, u "UTF16")] 323

def k7m0 : Method := { name := "<init>", desc := "()V", sig := { parameters := [], returnType := none }, accessFlags := 1, code := none }
def k7c1 : Code := { maxStack := 5, maxLocals := 2, code := jdk_42_method_3_code, exceptionTable := #[], attributes := #[] }
def k7m1 : Method := { name := "<init>", desc := "([C)V", sig := { parameters := [(.array .char)], returnType := none }, accessFlags := 1, code := some k7c1 }
def k7c2 : Code := { maxStack := 2, maxLocals := 1, code := jdk_42_method_54_code, exceptionTable := #[], attributes := #[] }
def k7m2 : Method := { name := "length", desc := "()I", sig := { parameters := [], returnType := some .int }, accessFlags := 1, code := some k7c2 }
def k7c3 : Code := { maxStack := 2, maxLocals := 2, code := jdk_42_method_56_code, exceptionTable := #[], attributes := #[] }
def k7m3 : Method := { name := "charAt", desc := "(I)C", sig := { parameters := [.int], returnType := some .char }, accessFlags := 1, code := some k7c3 }
def k7c4 : Code := { maxStack := 4, maxLocals := 1, code := jdk_42_method_139_code, exceptionTable := #[], attributes := #[] }
def k7m4 : Method := { name := "valueOf", desc := "(C)Ljava/lang/String;", sig := { parameters := [.char], returnType := some (.object "java/lang/String") }, accessFlags := 9, code := some k7c4 }
def k7c5 : Code := { maxStack := 4, maxLocals := 6, code := jdk_42_method_149_code, exceptionTable := #[], attributes := #[] }
def k7m5 : Method := { name := "<init>", desc := "([CIILjava/lang/Void;)V", sig := { parameters := [(.array .char), .int, .int, (.object "java/lang/Void")], returnType := none }, accessFlags := 2, code := some k7c5 }
def k7c6 : Code := { maxStack := 2, maxLocals := 3, code := jdk_42_method_151_code, exceptionTable := #[], attributes := #[] }
def k7m6 : Method := { name := "<init>", desc := "([BB)V", sig := { parameters := [(.array .byte), .byte], returnType := none }, accessFlags := 0, code := some k7c6 }
def k7c7 : Code := { maxStack := 1, maxLocals := 1, code := jdk_42_method_152_code, exceptionTable := #[], attributes := #[] }
def k7m7 : Method := { name := "coder", desc := "()B", sig := { parameters := [], returnType := some .byte }, accessFlags := 0, code := some k7c7 }
def k7c8 : Code := { maxStack := 1, maxLocals := 1, code := jdk_42_method_154_code, exceptionTable := #[], attributes := #[] }
def k7m8 : Method := { name := "isLatin1", desc := "()Z", sig := { parameters := [], returnType := some .boolean }, accessFlags := 0, code := some k7c8 }
def k7c9 : Code := { maxStack := 3, maxLocals := 2, code := jdk_42_method_155_code, exceptionTable := #[], attributes := #[] }
def k7m9 : Method := { name := "checkIndex", desc := "(II)V", sig := { parameters := [.int, .int], returnType := none }, accessFlags := 8, code := some k7c9 }
/-- java/lang/String -/
def k7 : Class := { plain "java/lang/String" (some 0) with
  accessFlags := 49
  interfaces := #[2, 3, 4, 5, 6]
  cf := some (fileOf pool7 10 #[.nestMembers #[1103]] #[{ accessFlags := 1, nameIndex := 5, descriptorIndex := 6, attributes := #[] }, { accessFlags := 1, nameIndex := 5, descriptorIndex := 1010, attributes := #[] }, { accessFlags := 1, nameIndex := 507, descriptorIndex := 334, attributes := #[] }, { accessFlags := 1, nameIndex := 497, descriptorIndex := 427, attributes := #[] }, { accessFlags := 9, nameIndex := 782, descriptorIndex := 783, attributes := #[] }, { accessFlags := 2, nameIndex := 5, descriptorIndex := 29, attributes := #[] }, { accessFlags := 0, nameIndex := 5, descriptorIndex := 211, attributes := #[] }, { accessFlags := 0, nameIndex := 17, descriptorIndex := 337, attributes := #[] }, { accessFlags := 0, nameIndex := 494, descriptorIndex := 142, attributes := #[] }, { accessFlags := 8, nameIndex := 501, descriptorIndex := 391, attributes := #[] }] 49 2 #[1106, 1108, 575, 1110, 1112] #[{ accessFlags := 18, nameIndex := 13, descriptorIndex := 14, attributes := #[] }, { accessFlags := 18, nameIndex := 17, descriptorIndex := 18, attributes := #[] }, { accessFlags := 2, nameIndex := 21, descriptorIndex := 22, attributes := #[] }, { accessFlags := 2, nameIndex := 25, descriptorIndex := 26, attributes := #[] }, { accessFlags := 26, nameIndex := 1116, descriptorIndex := 1117, attributes := #[] }, { accessFlags := 24, nameIndex := 40, descriptorIndex := 26, attributes := #[] }, { accessFlags := 26, nameIndex := 1101, descriptorIndex := 1102, attributes := #[] }, { accessFlags := 26, nameIndex := 1121, descriptorIndex := 1122, attributes := #[] }, { accessFlags := 25, nameIndex := 599, descriptorIndex := 600, attributes := #[] }, { accessFlags := 24, nameIndex := 1125, descriptorIndex := 18, attributes := #[] }, { accessFlags := 24, nameIndex := 1127, descriptorIndex := 18, attributes := #[] }])
  fields := #[{ name := "value", type := (.array .byte), accessFlags := 18, slot := 0, constantValue := 0 }, { name := "coder", type := .byte, accessFlags := 18, slot := 1, constantValue := 0 }, { name := "hash", type := .int, accessFlags := 2, slot := 2, constantValue := 0 }, { name := "hashIsZero", type := .boolean, accessFlags := 2, slot := 3, constantValue := 0 }, { name := "serialVersionUID", type := .long, accessFlags := 26, slot := 0, constantValue := 0 }, { name := "COMPACT_STRINGS", type := .boolean, accessFlags := 24, slot := 1, constantValue := 0 }, { name := "serialPersistentFields", type := (.array (.object "java/io/ObjectStreamField")), accessFlags := 26, slot := 2, constantValue := 0 }, { name := "REPL", type := .char, accessFlags := 26, slot := 3, constantValue := 0 }, { name := "CASE_INSENSITIVE_ORDER", type := (.object "java/util/Comparator"), accessFlags := 25, slot := 4, constantValue := 0 }, { name := "LATIN1", type := .byte, accessFlags := 24, slot := 5, constantValue := 0 }, { name := "UTF16", type := .byte, accessFlags := 24, slot := 6, constantValue := 0 }]
  methods := #[k7m0, k7m1, k7m2, k7m3, k7m4, k7m5, k7m6, k7m7, k7m8, k7m9]
  instanceTypes := #[(.array .byte), .byte, .int, .boolean]
  staticTypes := #[.long, .boolean, (.array (.object "java/io/ObjectStreamField")), .char, (.object "java/util/Comparator"), .byte, .byte]
  resolved := Array.replicate 1451 none
  statics := some 0 }

def pool8 : Array CpInfo := pool [(2, .class_ 4), (1, u "java/lang/Object"), (0, u "<init>"), (0, u "()V"), (4, .class_ 13), (1, u "com/example/corvid/corvid/classfile/ConstantPool"), (0, u "bytes"), (0, u "Ljava/io/ByteArrayOutputStream;"), (7, u "out"), (0, u "Ljava/io/DataOutputStream;"), (5, u "utf8Indexes"), (0, u "Ljava/util/Map;"), (2, u "indexes"), (2, u "count"), (0, u "I"), (11, u "()I"), (2, u "modifiedUtf8Length"), (0, u "(Ljava/lang/String;)I"), (74, .methodref 130 131), (0, .class_ 132), (0, .nameAndType 133 50), (0, u "java/lang/String"), (0, u "length"), (0, .methodref 130 135), (0, .nameAndType 136 137), (0, u "charAt"), (0, u "(I)C"), (0, .methodref 11 139), (0, .nameAndType 53 140), (0, u "(C)I"), (23, u "UTF8"), (2, u "INTEGER"), (1, u "FLOAT"), (1, u "LONG"), (1, u "DOUBLE"), (1, u "CLASS"), (1, u "STRING"), (1, u "FIELDREF"), (1, u "METHODREF"), (1, u "INTERFACE_METHODREF"), (1, u "NAME_AND_TYPE"), (1, u "MAX_UTF8"), (0, u "MAX")] 41

def k8m0 : Method := { name := "<init>", desc := "()V", sig := { parameters := [], returnType := none }, accessFlags := 1, code := none }
def k8c1 : Code := { maxStack := 3, maxLocals := 3, code := prog_14_method_13_code, exceptionTable := #[], attributes := #[] }
def k8m1 : Method := { name := "modifiedUtf8Length", desc := "(Ljava/lang/String;)I", sig := { parameters := [(.object "java/lang/String")], returnType := some .int }, accessFlags := 9, code := some k8c1 }
def k8c2 : Code := { maxStack := 2, maxLocals := 1, code := prog_14_method_14_code, exceptionTable := #[], attributes := #[] }
def k8m2 : Method := { name := "modifiedUtf8Length", desc := "(C)I", sig := { parameters := [.char], returnType := some .int }, accessFlags := 9, code := some k8c2 }
/-- com/example/corvid/corvid/classfile/ConstantPool -/
def k8 : Class := { plain "com/example/corvid/corvid/classfile/ConstantPool" (some 0) with
  accessFlags := 49
  interfaces := #[]
  cf := some (fileOf pool8 11 #[] #[{ accessFlags := 1, nameIndex := 5, descriptorIndex := 6, attributes := #[] }, { accessFlags := 9, nameIndex := 53, descriptorIndex := 54, attributes := #[] }, { accessFlags := 9, nameIndex := 53, descriptorIndex := 140, attributes := #[] }] 49 2 #[] #[{ accessFlags := 26, nameIndex := 164, descriptorIndex := 38, attributes := #[] }, { accessFlags := 26, nameIndex := 167, descriptorIndex := 38, attributes := #[] }, { accessFlags := 26, nameIndex := 169, descriptorIndex := 38, attributes := #[] }, { accessFlags := 26, nameIndex := 171, descriptorIndex := 38, attributes := #[] }, { accessFlags := 26, nameIndex := 173, descriptorIndex := 38, attributes := #[] }, { accessFlags := 26, nameIndex := 175, descriptorIndex := 38, attributes := #[] }, { accessFlags := 26, nameIndex := 177, descriptorIndex := 38, attributes := #[] }, { accessFlags := 26, nameIndex := 179, descriptorIndex := 38, attributes := #[] }, { accessFlags := 26, nameIndex := 181, descriptorIndex := 38, attributes := #[] }, { accessFlags := 26, nameIndex := 183, descriptorIndex := 38, attributes := #[] }, { accessFlags := 26, nameIndex := 185, descriptorIndex := 38, attributes := #[] }, { accessFlags := 25, nameIndex := 187, descriptorIndex := 38, attributes := #[] }, { accessFlags := 26, nameIndex := 188, descriptorIndex := 38, attributes := #[] }, { accessFlags := 18, nameIndex := 14, descriptorIndex := 15, attributes := #[] }, { accessFlags := 18, nameIndex := 23, descriptorIndex := 24, attributes := #[] }, { accessFlags := 18, nameIndex := 30, descriptorIndex := 31, attributes := #[] }, { accessFlags := 18, nameIndex := 34, descriptorIndex := 31, attributes := #[] }, { accessFlags := 2, nameIndex := 37, descriptorIndex := 38, attributes := #[] }])
  fields := #[{ name := "UTF8", type := .int, accessFlags := 26, slot := 0, constantValue := 0 }, { name := "INTEGER", type := .int, accessFlags := 26, slot := 1, constantValue := 0 }, { name := "FLOAT", type := .int, accessFlags := 26, slot := 2, constantValue := 0 }, { name := "LONG", type := .int, accessFlags := 26, slot := 3, constantValue := 0 }, { name := "DOUBLE", type := .int, accessFlags := 26, slot := 4, constantValue := 0 }, { name := "CLASS", type := .int, accessFlags := 26, slot := 5, constantValue := 0 }, { name := "STRING", type := .int, accessFlags := 26, slot := 6, constantValue := 0 }, { name := "FIELDREF", type := .int, accessFlags := 26, slot := 7, constantValue := 0 }, { name := "METHODREF", type := .int, accessFlags := 26, slot := 8, constantValue := 0 }, { name := "INTERFACE_METHODREF", type := .int, accessFlags := 26, slot := 9, constantValue := 0 }, { name := "NAME_AND_TYPE", type := .int, accessFlags := 26, slot := 10, constantValue := 0 }, { name := "MAX_UTF8", type := .int, accessFlags := 25, slot := 11, constantValue := 0 }, { name := "MAX", type := .int, accessFlags := 26, slot := 12, constantValue := 0 }, { name := "bytes", type := (.object "java/io/ByteArrayOutputStream"), accessFlags := 18, slot := 0, constantValue := 0 }, { name := "out", type := (.object "java/io/DataOutputStream"), accessFlags := 18, slot := 1, constantValue := 0 }, { name := "utf8Indexes", type := (.object "java/util/Map"), accessFlags := 18, slot := 2, constantValue := 0 }, { name := "indexes", type := (.object "java/util/Map"), accessFlags := 18, slot := 3, constantValue := 0 }, { name := "count", type := .int, accessFlags := 2, slot := 4, constantValue := 0 }]
  methods := #[k8m0, k8m1, k8m2]
  instanceTypes := #[(.object "java/io/ByteArrayOutputStream"), (.object "java/io/DataOutputStream"), (.object "java/util/Map"), (.object "java/util/Map"), .int]
  staticTypes := #[.int, .int, .int, .int, .int, .int, .int, .int, .int, .int, .int, .int, .int]
  resolved := Array.replicate 230 none
  statics := none }

def pool9 : Array CpInfo := pool [(3, .class_ 4), (0, u "java/lang/String"), (1, .class_ 8), (1, u "java/lang/Object"), (0, u "<init>"), (0, u "()V"), (0, .methodref 12 13), (0, .class_ 14), (0, .nameAndType 15 16), (0, u "java/lang/StringUTF16"), (0, u "newBytesLength"), (0, u "(I)I"), (3, .integer 1073741823), (23, .fieldref 12 45), (0, .nameAndType 46 47), (0, u "$assertionsDisabled"), (0, u "Z"), (0, .methodref 12 49), (0, .nameAndType 50 51), (0, u "length"), (0, u "([B)I"), (7, .fieldref 12 60), (0, .nameAndType 61 62), (0, u "HI_BYTE_SHIFT"), (0, u "I"), (0, .fieldref 12 64), (0, .nameAndType 65 62), (0, u "LO_BYTE_SHIFT"), (1, .methodref 12 68), (0, .nameAndType 69 70), (0, u "checkIndex"), (0, u "(I[B)V"), (0, .methodref 12 72), (0, .nameAndType 73 74), (0, u "getChar"), (0, u "([BI)C"), (32, .methodref 12 108), (0, .nameAndType 109 110), (0, u "newBytesFor"), (0, u "(I)[B"), (0, .methodref 12 112), (0, .nameAndType 113 114), (0, u "putChar"), (0, u "([BII)V"), (0, .methodref 12 116), (0, .nameAndType 117 118), (0, u "compress"), (0, u "([CI[BII)I"), (0, .methodref 12 120), (0, .nameAndType 121 122), (0, u "toBytes"), (0, u "([CII)[B"), (138, u "coderFromArrayLen"), (0, u "([BI)B"), (106, .class_ 371), (1, u "java/lang/StringUTF16$LinesSpliterator"), (20, u "charAt"), (21, .methodref 3 415), (0, .nameAndType 69 416), (0, u "(II)V"), (13, u "MAX_LENGTH"), (44, u "(C)[B"), (151, .class_ 628), (0, u "java/lang/StringUTF16$CodePointsSpliterator"), (0, .class_ 630), (0, u "java/lang/StringUTF16$CharsSpliterator")] 4

def k9m0 : Method := { name := "<init>", desc := "()V", sig := { parameters := [], returnType := none }, accessFlags := 0, code := none }
def k9c1 : Code := { maxStack := 1, maxLocals := 1, code := jdk_52_method_2_code, exceptionTable := #[], attributes := #[] }
def k9m1 : Method := { name := "newBytesFor", desc := "(I)[B", sig := { parameters := [.int], returnType := some (.array .byte) }, accessFlags := 9, code := some k9c1 }
def k9c2 : Code := { maxStack := 4, maxLocals := 1, code := jdk_52_method_3_code, exceptionTable := #[], attributes := #[] }
def k9m2 : Method := { name := "newBytesLength", desc := "(I)I", sig := { parameters := [.int], returnType := some .int }, accessFlags := 9, code := some k9c2 }
def k9c3 : Code := { maxStack := 4, maxLocals := 3, code := jdk_52_method_4_code, exceptionTable := #[], attributes := #[] }
def k9m3 : Method := { name := "putChar", desc := "([BII)V", sig := { parameters := [(.array .byte), .int, .int], returnType := none }, accessFlags := 8, code := some k9c3 }
def k9c4 : Code := { maxStack := 3, maxLocals := 2, code := jdk_52_method_5_code, exceptionTable := #[], attributes := #[] }
def k9m4 : Method := { name := "getChar", desc := "([BI)C", sig := { parameters := [(.array .byte), .int], returnType := some .char }, accessFlags := 8, code := some k9c4 }
def k9c5 : Code := { maxStack := 2, maxLocals := 1, code := jdk_52_method_6_code, exceptionTable := #[], attributes := #[] }
def k9m5 : Method := { name := "length", desc := "([B)I", sig := { parameters := [(.array .byte)], returnType := some .int }, accessFlags := 9, code := some k9c5 }
def k9c6 : Code := { maxStack := 4, maxLocals := 5, code := jdk_52_method_14_code, exceptionTable := #[], attributes := #[] }
def k9m6 : Method := { name := "toBytes", desc := "([CII)[B", sig := { parameters := [(.array .char), .int, .int], returnType := some (.array .byte) }, accessFlags := 9, code := some k9c6 }
def k9c7 : Code := { maxStack := 2, maxLocals := 2, code := jdk_52_method_15_code, exceptionTable := #[], attributes := #[] }
def k9m7 : Method := { name := "coderFromArrayLen", desc := "([BI)B", sig := { parameters := [(.array .byte), .int], returnType := some .byte }, accessFlags := 8, code := some k9c7 }
def k9c8 : Code := { maxStack := 5, maxLocals := 6, code := jdk_52_method_16_code, exceptionTable := #[], attributes := #[] }
def k9m8 : Method := { name := "compress", desc := "([CII)[B", sig := { parameters := [(.array .char), .int, .int], returnType := some (.array .byte) }, accessFlags := 9, code := some k9c8 }
def k9c9 : Code := { maxStack := 3, maxLocals := 7, code := jdk_52_method_21_code, exceptionTable := #[], attributes := #[] }
def k9m9 : Method := { name := "compress", desc := "([CI[BII)I", sig := { parameters := [(.array .char), .int, (.array .byte), .int, .int], returnType := some .int }, accessFlags := 9, code := some k9c9 }
def k9c10 : Code := { maxStack := 3, maxLocals := 2, code := jdk_52_method_24_code, exceptionTable := #[], attributes := #[] }
def k9m10 : Method := { name := "toBytes", desc := "(C)[B", sig := { parameters := [.char], returnType := some (.array .byte) }, accessFlags := 9, code := some k9c10 }
def k9c11 : Code := { maxStack := 2, maxLocals := 2, code := jdk_52_method_83_code, exceptionTable := #[], attributes := #[] }
def k9m11 : Method := { name := "charAt", desc := "([BI)C", sig := { parameters := [(.array .byte), .int], returnType := some .char }, accessFlags := 9, code := some k9c11 }
def k9c12 : Code := { maxStack := 2, maxLocals := 2, code := jdk_52_method_91_code, exceptionTable := #[], attributes := #[] }
def k9m12 : Method := { name := "checkIndex", desc := "(I[B)V", sig := { parameters := [.int, (.array .byte)], returnType := none }, accessFlags := 9, code := some k9c12 }
/-- java/lang/StringUTF16 -/
def k9 : Class := { plain "java/lang/StringUTF16" (some 0) with
  accessFlags := 48
  interfaces := #[]
  cf := some (fileOf pool9 12 #[.nestMembers #[627, 629, 369]] #[{ accessFlags := 0, nameIndex := 9, descriptorIndex := 10, attributes := #[] }, { accessFlags := 9, nameIndex := 109, descriptorIndex := 110, attributes := #[] }, { accessFlags := 9, nameIndex := 15, descriptorIndex := 16, attributes := #[] }, { accessFlags := 8, nameIndex := 113, descriptorIndex := 114, attributes := #[] }, { accessFlags := 8, nameIndex := 73, descriptorIndex := 74, attributes := #[] }, { accessFlags := 9, nameIndex := 50, descriptorIndex := 51, attributes := #[] }, { accessFlags := 9, nameIndex := 121, descriptorIndex := 122, attributes := #[] }, { accessFlags := 8, nameIndex := 261, descriptorIndex := 262, attributes := #[] }, { accessFlags := 9, nameIndex := 117, descriptorIndex := 122, attributes := #[] }, { accessFlags := 9, nameIndex := 117, descriptorIndex := 118, attributes := #[] }, { accessFlags := 9, nameIndex := 121, descriptorIndex := 475, attributes := #[] }, { accessFlags := 9, nameIndex := 392, descriptorIndex := 74, attributes := #[] }, { accessFlags := 9, nameIndex := 69, descriptorIndex := 70, attributes := #[] }] 48 6 #[] #[{ accessFlags := 26, nameIndex := 61, descriptorIndex := 62, attributes := #[] }, { accessFlags := 26, nameIndex := 65, descriptorIndex := 62, attributes := #[] }, { accessFlags := 24, nameIndex := 430, descriptorIndex := 62, attributes := #[] }, { accessFlags := 4120, nameIndex := 46, descriptorIndex := 47, attributes := #[] }])
  fields := #[{ name := "HI_BYTE_SHIFT", type := .int, accessFlags := 26, slot := 0, constantValue := 0 }, { name := "LO_BYTE_SHIFT", type := .int, accessFlags := 26, slot := 1, constantValue := 0 }, { name := "MAX_LENGTH", type := .int, accessFlags := 24, slot := 2, constantValue := 0 }, { name := "$assertionsDisabled", type := .boolean, accessFlags := 4120, slot := 3, constantValue := 0 }]
  methods := #[k9m0, k9m1, k9m2, k9m3, k9m4, k9m5, k9m6, k9m7, k9m8, k9m9, k9m10, k9m11, k9m12]
  instanceTypes := #[]
  staticTypes := #[.int, .int, .int, .boolean]
  resolved := Array.replicate 635 none
  statics := some 1 }

def pool10 : Array CpInfo := pool [(1, .class_ 2), (0, u "java/lang/String"), (1, .class_ 6), (1, u "java/lang/Object"), (0, u "<init>"), (0, u "()V"), (0, .methodref 1 10), (0, .nameAndType 11 12), (0, u "checkIndex"), (0, u "(II)V"), (1, .class_ 16), (1, u "java/lang/StringLatin1"), (36, u "([BI)C"), (36, u "canEncode"), (14, u "(C)Z"), (15, u "$assertionsDisabled"), (0, u "Z"), (98, .class_ 223), (1, u "java/lang/StringLatin1$LinesSpliterator"), (28, u "charAt"), (127, u "toBytes"), (1, u "(C)[B"), (7, .class_ 391), (0, u "java/lang/StringLatin1$CharsSpliterator")] 3

def k10m0 : Method := { name := "<init>", desc := "()V", sig := { parameters := [], returnType := none }, accessFlags := 0, code := none }
def k10c1 : Code := { maxStack := 2, maxLocals := 2, code := jdk_43_method_2_code, exceptionTable := #[], attributes := #[] }
def k10m1 : Method := { name := "charAt", desc := "([BI)C", sig := { parameters := [(.array .byte), .int], returnType := some .char }, accessFlags := 9, code := some k10c1 }
def k10c2 : Code := { maxStack := 2, maxLocals := 1, code := jdk_43_method_3_code, exceptionTable := #[], attributes := #[] }
def k10m2 : Method := { name := "canEncode", desc := "(C)Z", sig := { parameters := [.char], returnType := some .boolean }, accessFlags := 9, code := some k10c2 }
def k10c3 : Code := { maxStack := 4, maxLocals := 1, code := jdk_43_method_46_code, exceptionTable := #[], attributes := #[] }
def k10m3 : Method := { name := "toBytes", desc := "(C)[B", sig := { parameters := [.char], returnType := some (.array .byte) }, accessFlags := 9, code := some k10c3 }
/-- java/lang/StringLatin1 -/
def k10 : Class := { plain "java/lang/StringLatin1" (some 0) with
  accessFlags := 48
  interfaces := #[]
  cf := some (fileOf pool10 14 #[.nestMembers #[390, 221]] #[{ accessFlags := 0, nameIndex := 7, descriptorIndex := 8, attributes := #[] }, { accessFlags := 9, nameIndex := 252, descriptorIndex := 53, attributes := #[] }, { accessFlags := 9, nameIndex := 90, descriptorIndex := 105, attributes := #[] }, { accessFlags := 9, nameIndex := 380, descriptorIndex := 382, attributes := #[] }] 48 4 #[] #[{ accessFlags := 4120, nameIndex := 121, descriptorIndex := 122, attributes := #[] }])
  fields := #[{ name := "$assertionsDisabled", type := .boolean, accessFlags := 4120, slot := 0, constantValue := 0 }]
  methods := #[k10m0, k10m1, k10m2, k10m3]
  instanceTypes := #[]
  staticTypes := #[.boolean]
  resolved := Array.replicate 395 none
  statics := none }

def pool11 : Array CpInfo := pool [(2, .class_ 4), (1, u "java/lang/Object"), (0, u "<init>"), (0, u "()V"), (17, .class_ 26), (1, u "jdk/internal/util/Preconditions"), (6, u "checkIndex"), (21, .class_ 56), (0, u "jdk/internal/util/Preconditions$4"), (57, .class_ 115), (0, u "jdk/internal/util/Preconditions$1"), (7, u "SIOOBE_FORMATTER"), (0, u "Ljava/util/function/BiFunction;"), (0, .class_ 126), (0, u "jdk/internal/util/Preconditions$2"), (3, u "AIOOBE_FORMATTER"), (0, .class_ 132), (0, u "jdk/internal/util/Preconditions$3"), (3, u "IOOBE_FORMATTER"), (41, u "(IILjava/util/function/BiFunction;)I")] 15

def k11m0 : Method := { name := "<init>", desc := "()V", sig := { parameters := [], returnType := none }, accessFlags := 1, code := none }
def k11c1 : Code := { maxStack := 3, maxLocals := 3, code := jdk_41_method_11_code, exceptionTable := #[], attributes := #[] }
def k11m1 : Method := { name := "checkIndex", desc := "(IILjava/util/function/BiFunction;)I", sig := { parameters := [.int, .int, (.object "java/util/function/BiFunction")], returnType := some .int }, accessFlags := 9, code := some k11c1 }
/-- jdk/internal/util/Preconditions -/
def k11 : Class := { plain "jdk/internal/util/Preconditions" (some 0) with
  accessFlags := 33
  interfaces := #[]
  cf := some (fileOf pool11 24 #[.nestMembers #[55, 131, 125, 114]] #[{ accessFlags := 1, nameIndex := 5, descriptorIndex := 6, attributes := #[] }, { accessFlags := 9, nameIndex := 33, descriptorIndex := 178, attributes := #[] }] 33 2 #[] #[{ accessFlags := 25, nameIndex := 123, descriptorIndex := 124, attributes := #[] }, { accessFlags := 25, nameIndex := 130, descriptorIndex := 124, attributes := #[] }, { accessFlags := 25, nameIndex := 136, descriptorIndex := 124, attributes := #[] }])
  fields := #[{ name := "SIOOBE_FORMATTER", type := (.object "java/util/function/BiFunction"), accessFlags := 25, slot := 0, constantValue := 0 }, { name := "AIOOBE_FORMATTER", type := (.object "java/util/function/BiFunction"), accessFlags := 25, slot := 1, constantValue := 0 }, { name := "IOOBE_FORMATTER", type := (.object "java/util/function/BiFunction"), accessFlags := 25, slot := 2, constantValue := 0 }]
  methods := #[k11m0, k11m1]
  instanceTypes := #[]
  staticTypes := #[(.object "java/util/function/BiFunction"), (.object "java/util/function/BiFunction"), (.object "java/util/function/BiFunction")]
  resolved := Array.replicate 194 none
  statics := some 2 }

def pool12 : Array CpInfo := pool [(9, u "<init>"), (6, .class_ 18), (1, u "java/lang/Object"), (0, u "()V"), (1, .class_ 23), (1, u "jdk/internal/util/ArraysSupport"), (0, u "LOG2_ARRAY_LONG_INDEX_SCALE"), (0, u "I"), (2, u "U"), (0, u "Ljdk/internal/misc/Unsafe;"), (8, u "BIG_ENDIAN"), (0, u "Z"), (8, u "LOG2_BYTE_BIT_SIZE"), (4, u "LOG2_ARRAY_INT_INDEX_SCALE"), (54, u "JLA"), (0, u "Ljdk/internal/access/JavaLangAccess;"), (11, u "LOG2_ARRAY_BOOLEAN_INDEX_SCALE"), (9, u "LOG2_ARRAY_BYTE_INDEX_SCALE"), (5, u "LOG2_ARRAY_CHAR_INDEX_SCALE"), (5, u "LOG2_ARRAY_SHORT_INDEX_SCALE"), (18, u "LOG2_ARRAY_FLOAT_INDEX_SCALE"), (24, u "LOG2_ARRAY_DOUBLE_INDEX_SCALE"), (89, u "T_BOOLEAN"), (2, u "T_CHAR"), (1, u "T_FLOAT"), (1, u "T_DOUBLE"), (1, u "T_BYTE"), (1, u "T_SHORT"), (1, u "T_INT"), (1, u "T_LONG"), (1, u "SOFT_MAX_ARRAY_LENGTH")] 83

def k12m0 : Method := { name := "<init>", desc := "()V", sig := { parameters := [], returnType := none }, accessFlags := 2, code := none }
/-- jdk/internal/util/ArraysSupport -/
def k12 : Class := { plain "jdk/internal/util/ArraysSupport" (some 0) with
  accessFlags := 33
  interfaces := #[]
  cf := some (fileOf pool12 21 #[] #[{ accessFlags := 2, nameIndex := 9, descriptorIndex := 19, attributes := #[] }] 33 16 #[] #[{ accessFlags := 24, nameIndex := 28, descriptorIndex := 29, attributes := #[] }, { accessFlags := 26, nameIndex := 38, descriptorIndex := 39, attributes := #[] }, { accessFlags := 25, nameIndex := 121, descriptorIndex := 25, attributes := #[] }, { accessFlags := 25, nameIndex := 131, descriptorIndex := 25, attributes := #[] }, { accessFlags := 25, nameIndex := 137, descriptorIndex := 25, attributes := #[] }, { accessFlags := 25, nameIndex := 143, descriptorIndex := 25, attributes := #[] }, { accessFlags := 25, nameIndex := 53, descriptorIndex := 25, attributes := #[] }, { accessFlags := 25, nameIndex := 24, descriptorIndex := 25, attributes := #[] }, { accessFlags := 25, nameIndex := 162, descriptorIndex := 25, attributes := #[] }, { accessFlags := 25, nameIndex := 187, descriptorIndex := 25, attributes := #[] }, { accessFlags := 26, nameIndex := 48, descriptorIndex := 25, attributes := #[] }, { accessFlags := 25, nameIndex := 277, descriptorIndex := 25, attributes := #[] }, { accessFlags := 25, nameIndex := 280, descriptorIndex := 25, attributes := #[] }, { accessFlags := 25, nameIndex := 282, descriptorIndex := 25, attributes := #[] }, { accessFlags := 25, nameIndex := 284, descriptorIndex := 25, attributes := #[] }, { accessFlags := 25, nameIndex := 286, descriptorIndex := 25, attributes := #[] }, { accessFlags := 25, nameIndex := 288, descriptorIndex := 25, attributes := #[] }, { accessFlags := 25, nameIndex := 290, descriptorIndex := 25, attributes := #[] }, { accessFlags := 25, nameIndex := 292, descriptorIndex := 25, attributes := #[] }, { accessFlags := 26, nameIndex := 108, descriptorIndex := 109, attributes := #[] }, { accessFlags := 25, nameIndex := 294, descriptorIndex := 25, attributes := #[] }])
  fields := #[{ name := "U", type := (.object "jdk/internal/misc/Unsafe"), accessFlags := 24, slot := 0, constantValue := 0 }, { name := "BIG_ENDIAN", type := .boolean, accessFlags := 26, slot := 1, constantValue := 0 }, { name := "LOG2_ARRAY_BOOLEAN_INDEX_SCALE", type := .int, accessFlags := 25, slot := 2, constantValue := 0 }, { name := "LOG2_ARRAY_BYTE_INDEX_SCALE", type := .int, accessFlags := 25, slot := 3, constantValue := 0 }, { name := "LOG2_ARRAY_CHAR_INDEX_SCALE", type := .int, accessFlags := 25, slot := 4, constantValue := 0 }, { name := "LOG2_ARRAY_SHORT_INDEX_SCALE", type := .int, accessFlags := 25, slot := 5, constantValue := 0 }, { name := "LOG2_ARRAY_INT_INDEX_SCALE", type := .int, accessFlags := 25, slot := 6, constantValue := 0 }, { name := "LOG2_ARRAY_LONG_INDEX_SCALE", type := .int, accessFlags := 25, slot := 7, constantValue := 0 }, { name := "LOG2_ARRAY_FLOAT_INDEX_SCALE", type := .int, accessFlags := 25, slot := 8, constantValue := 0 }, { name := "LOG2_ARRAY_DOUBLE_INDEX_SCALE", type := .int, accessFlags := 25, slot := 9, constantValue := 0 }, { name := "LOG2_BYTE_BIT_SIZE", type := .int, accessFlags := 26, slot := 10, constantValue := 0 }, { name := "T_BOOLEAN", type := .int, accessFlags := 25, slot := 11, constantValue := 0 }, { name := "T_CHAR", type := .int, accessFlags := 25, slot := 12, constantValue := 0 }, { name := "T_FLOAT", type := .int, accessFlags := 25, slot := 13, constantValue := 0 }, { name := "T_DOUBLE", type := .int, accessFlags := 25, slot := 14, constantValue := 0 }, { name := "T_BYTE", type := .int, accessFlags := 25, slot := 15, constantValue := 0 }, { name := "T_SHORT", type := .int, accessFlags := 25, slot := 16, constantValue := 0 }, { name := "T_INT", type := .int, accessFlags := 25, slot := 17, constantValue := 0 }, { name := "T_LONG", type := .int, accessFlags := 25, slot := 18, constantValue := 0 }, { name := "JLA", type := (.object "jdk/internal/access/JavaLangAccess"), accessFlags := 26, slot := 19, constantValue := 0 }, { name := "SOFT_MAX_ARRAY_LENGTH", type := .int, accessFlags := 25, slot := 20, constantValue := 0 }]
  methods := #[k12m0]
  instanceTypes := #[]
  staticTypes := #[(.object "jdk/internal/misc/Unsafe"), .boolean, .int, .int, .int, .int, .int, .int, .int, .int, .int, .int, .int, .int, .int, .int, .int, .int, .int, (.object "jdk/internal/access/JavaLangAccess"), .int]
  resolved := Array.replicate 378 none
  statics := none }

def pool13 : Array CpInfo := pool [(1, u "java/lang/Cloneable"), (0, .class_ 1), (0, u "java/lang/Object"), (0, .class_ 3)] 3

/-- java/lang/Cloneable -/
def k13 : Class := { plain "java/lang/Cloneable" (some 0) with
  accessFlags := 1537
  interfaces := #[]
  cf := some (fileOf pool13 2 #[] #[] 1537 4 #[] #[])
  fields := #[]
  methods := #[]
  instanceTypes := #[]
  staticTypes := #[]
  resolved := Array.replicate 8 none
  statics := none }

/-- the primitive byte -/
def k14 : Class := { plain "byte" none with kind := .primitive 'B', accessFlags := 0x411 }
/-- [B -/
def k15 : Class := { plain "[B" (some 0) with kind := .array 14 .byte, interfaces := #[13, 2], accessFlags := 1041 }

/-- the primitive char -/
def k16 : Class := { plain "char" none with kind := .primitive 'C', accessFlags := 0x411 }
/-- [C -/
def k17 : Class := { plain "[C" (some 0) with kind := .array 16 .char, interfaces := #[13, 2], accessFlags := 1041 }

/-- the primitive int -/
def k18 : Class := { plain "int" none with kind := .primitive 'I', accessFlags := 0x411 }
/-- [I -/
def k19 : Class := { plain "[I" (some 0) with kind := .array 18 .int, interfaces := #[13, 2], accessFlags := 1041 }

def heap : Heap := #[{ cls := 7, slots := #[.long 0, .int 1, .null, .int 0, .null, .int 0, .int 0], vm := .statics 7 },
  { cls := 9, slots := #[.int 0, .int 8, .int 0, .int 1], vm := .statics 9 },
  { cls := 11, slots := #[.null, .null, .null], vm := .statics 11 }]
def classes : Array Class := #[k0, k1, k2, k3, k4, k5, k6, k7, k8, k9, k10, k11, k12, k13, k14, k15, k16, k17, k18, k19]
def interned : List (Array UInt16 × Addr) := []
def slotsUsed : Nat := 14
def theMethod : MethodId := ⟨1, 1⟩
def args0 : Array Value := #[.int 2, .int 97, .int 300, .int 5, .int 6, .int 7]
def aboutOver (below : List Frame) : State where
  vm := { classes := classes, interned := interned.toArray }
  heap := heap
  slotsUsed := slotsUsed
  threads := #[{ frames := .invoking theMethod args0 :: below }]
def below0 : List Frame := [.native { method := ⟨0, 0⟩, args := #[] }]
def about1 : State := aboutOver below0
def p0 : Program := .bare "" "" ""
def e0 : Env := launch0.env 0 0 0
theorem w_frames : about1.frames = Frame.invoking theMethod args0 :: below0 := rfl
set_option maxRecDepth 65536 in
theorem w_args : argsFit about1.vm theMethod args0 = true := by decide +kernel
set_option maxRecDepth 65536 in
theorem w_heap : heapFits about1 = true := by decide +kernel
set_option maxRecDepth 65536 in
theorem w_runnable : about1.curStatus? = some .runnable := by decide +kernel
set_option maxRecDepth 65536 in
theorem w_alone : about1.alone = true := by decide +kernel
set_option maxRecDepth 65536 in
theorem w_named : about1.methodNamed? x = some theMethod := by decide +kernel
set_option maxRecDepth 65536 in
theorem w_hears : about1.hears theMethod below0 = true := by decide +kernel
set_option maxRecDepth 65536 in
theorem w_ripe : about1.ripe theMethod args0 below0 = true := by decide +kernel
theorem w_running : about1.status = .running := rfl
set_option maxRecDepth 65536 in
theorem w_room : about1.hasRoom e0.platform room_1 = true :=
  launch0.hasRoom_least _ room_1 (by decide +kernel) (by decide +kernel) (by decide +kernel) (by decide +kernel) (by decide +kernel) (by decide +kernel)
theorem allAtoms_all (ts : List Jvm.Cond) (a : Array Jvm.Value) (st : Jvm.State) : (allAtoms ts).before a st = ts.all (fun c => c.before a st) := by
  induction ts with
  | nil => rfl
  | cons c t ih =>
    show (Jvm.Cond.and c (allAtoms t)).before a st = _
    rw [Jvm.Cond.before_and, ih, List.all_cons]
def words1 : List Jvm.Cond := Jvm.Cond.code x code maxLocals ret :: tables_1
/-- a 'code' word, met by the world's own term for the bytes: nothing is compared byte by byte -/
theorem code_word {y : MethodName} {bytes : ByteArray} {mx : Nat} {rt : Option FieldType} {a : Array Value} {s : State} {m : MethodId} {meth : Method} {c : Code} (h1 : s.methodNamed? y = some m) (h2 : s.vm.method? m = some meth) (h3 : meth.code = some c) (h4 : c.code = bytes)
    (h5 : (c.maxLocals == mx && c.exceptionTable.isEmpty && decide (c.maxStack ≤ mostOperands) && decide (meth.sig.returnType = rt) && !meth.locks && decide (parseMethodDescriptor y.desc = some meth.sig)) = true) : (Jvm.Cond.code y bytes mx rt).before a s = true := by
  simp only [Bool.and_eq_true, beq_iff_eq, Bool.not_eq_true', decide_eq_true_eq] at h5
  obtain ⟨⟨⟨⟨⟨g1, g2⟩, g3⟩, g4⟩, g5⟩, g6⟩ := h5
  simp [Cond.before, Cond.holds, Cond.value, h1, h2, h3, h4, g1, g2, g3, g4, g5, g6]
def isCode : Jvm.Cond → Bool
  | .code _ _ _ _ => true
  | _ => false
theorem all_split {L : List Jvm.Cond} {P : Jvm.Cond → Bool} (h1 : L.all (fun c => isCode c || P c) = true) (h2 : ∀ c ∈ L.filter isCode, P c = true) : L.all P = true := by
  refine List.all_eq_true.mpr fun c hc => ?_
  have h := List.all_eq_true.mp h1 c hc
  rcases Bool.eq_false_or_eq_true (isCode c) with hi | hi
  · exact h2 c (List.mem_filter.mpr ⟨hc, hi⟩)
  · simpa [hi] using h
set_option maxRecDepth 65536 in
theorem w_c0 : (Jvm.Cond.code x code maxLocals ret).before args0 about1 = true := code_word (m := ⟨1, 1⟩) (meth := k1m1) (c := k1c1) (by decide +kernel) rfl rfl rfl (by decide +kernel)
set_option maxRecDepth 65536 in
theorem w_c1 : (Jvm.Cond.code ({ cls := "com/example/corvid/corvid/classfile/ConstantPoolModifiedUtf8LengthPinLaw", name := "make", desc := "(ICCCCC)Ljava/lang/String;" } : Jvm.MethodName) method_4_code (6 : Nat) (Option.some (Jvm.ClassFile.FieldType.object "java/lang/String"))).before args0 about1 = true := code_word (m := ⟨1, 3⟩) (meth := k1m3) (c := k1c3) (by decide +kernel) rfl rfl rfl (by decide +kernel)
set_option maxRecDepth 65536 in
theorem w_c2 : (Jvm.Cond.code ({ cls := "java/lang/String", name := "<init>", desc := "([C)V" } : Jvm.MethodName) jdk_42_method_3_code (2 : Nat) (Option.none : Option Jvm.ClassFile.FieldType)).before args0 about1 = true := code_word (m := ⟨7, 1⟩) (meth := k7m1) (c := k7c1) (by decide +kernel) rfl rfl rfl (by decide +kernel)
set_option maxRecDepth 65536 in
theorem w_c3 : (Jvm.Cond.code ({ cls := "java/lang/String", name := "<init>", desc := "([CIILjava/lang/Void;)V" } : Jvm.MethodName) jdk_42_method_149_code (6 : Nat) (Option.none : Option Jvm.ClassFile.FieldType)).before args0 about1 = true := code_word (m := ⟨7, 5⟩) (meth := k7m5) (c := k7c5) (by decide +kernel) rfl rfl rfl (by decide +kernel)
set_option maxRecDepth 65536 in
theorem w_c4 : (Jvm.Cond.code ({ cls := "java/lang/Object", name := "<init>", desc := "()V" } : Jvm.MethodName) object_method_1_code (1 : Nat) (Option.none : Option Jvm.ClassFile.FieldType)).before args0 about1 = true := code_word (m := ⟨0, 0⟩) (meth := k0m0) (c := k0c0) (by decide +kernel) rfl rfl rfl (by decide +kernel)
set_option maxRecDepth 65536 in
theorem w_c5 : (Jvm.Cond.code ({ cls := "com/example/corvid/corvid/classfile/ConstantPool", name := "modifiedUtf8Length", desc := "(Ljava/lang/String;)I" } : Jvm.MethodName) prog_14_method_13_code (3 : Nat) (Option.some Jvm.ClassFile.FieldType.int)).before args0 about1 = true := code_word (m := ⟨8, 1⟩) (meth := k8m1) (c := k8c1) (by decide +kernel) rfl rfl rfl (by decide +kernel)
set_option maxRecDepth 65536 in
theorem w_c6 : (Jvm.Cond.code ({ cls := "java/lang/String", name := "length", desc := "()I" } : Jvm.MethodName) jdk_42_method_54_code (1 : Nat) (Option.some Jvm.ClassFile.FieldType.int)).before args0 about1 = true := code_word (m := ⟨7, 2⟩) (meth := k7m2) (c := k7c2) (by decide +kernel) rfl rfl rfl (by decide +kernel)
set_option maxRecDepth 65536 in
theorem w_c7 : (Jvm.Cond.code ({ cls := "java/lang/String", name := "coder", desc := "()B" } : Jvm.MethodName) jdk_42_method_152_code (1 : Nat) (Option.some Jvm.ClassFile.FieldType.byte)).before args0 about1 = true := code_word (m := ⟨7, 7⟩) (meth := k7m7) (c := k7c7) (by decide +kernel) rfl rfl rfl (by decide +kernel)
set_option maxRecDepth 65536 in
theorem w_c8 : (Jvm.Cond.code ({ cls := "java/lang/StringUTF16", name := "compress", desc := "([CII)[B" } : Jvm.MethodName) jdk_52_method_16_code (6 : Nat) (Option.some (Jvm.ClassFile.FieldType.array Jvm.ClassFile.FieldType.byte))).before args0 about1 = true := code_word (m := ⟨9, 8⟩) (meth := k9m8) (c := k9c8) (by decide +kernel) rfl rfl rfl (by decide +kernel)
set_option maxRecDepth 65536 in
theorem w_c9 : (Jvm.Cond.code ({ cls := "java/lang/StringUTF16", name := "compress", desc := "([CI[BII)I" } : Jvm.MethodName) jdk_52_method_21_code (7 : Nat) (Option.some Jvm.ClassFile.FieldType.int)).before args0 about1 = true := code_word (m := ⟨9, 9⟩) (meth := k9m9) (c := k9c9) (by decide +kernel) rfl rfl rfl (by decide +kernel)
set_option maxRecDepth 65536 in
theorem w_c10 : (Jvm.Cond.code ({ cls := "java/lang/StringUTF16", name := "coderFromArrayLen", desc := "([BI)B" } : Jvm.MethodName) jdk_52_method_15_code (2 : Nat) (Option.some Jvm.ClassFile.FieldType.byte)).before args0 about1 = true := code_word (m := ⟨9, 7⟩) (meth := k9m7) (c := k9c7) (by decide +kernel) rfl rfl rfl (by decide +kernel)
set_option maxRecDepth 65536 in
theorem w_c11 : (Jvm.Cond.code ({ cls := "com/example/corvid/corvid/classfile/ConstantPoolModifiedUtf8LengthPinLaw", name := "bytes", desc := "(C)I" } : Jvm.MethodName) method_3_code (3 : Nat) (Option.some Jvm.ClassFile.FieldType.int)).before args0 about1 = true := code_word (m := ⟨1, 2⟩) (meth := k1m2) (c := k1c2) (by decide +kernel) rfl rfl rfl (by decide +kernel)
set_option maxRecDepth 65536 in
theorem w_c12 : (Jvm.Cond.code ({ cls := "java/lang/String", name := "charAt", desc := "(I)C" } : Jvm.MethodName) jdk_42_method_56_code (2 : Nat) (Option.some Jvm.ClassFile.FieldType.char)).before args0 about1 = true := code_word (m := ⟨7, 3⟩) (meth := k7m3) (c := k7c3) (by decide +kernel) rfl rfl rfl (by decide +kernel)
set_option maxRecDepth 65536 in
theorem w_c13 : (Jvm.Cond.code ({ cls := "java/lang/String", name := "isLatin1", desc := "()Z" } : Jvm.MethodName) jdk_42_method_154_code (1 : Nat) (Option.some Jvm.ClassFile.FieldType.boolean)).before args0 about1 = true := code_word (m := ⟨7, 8⟩) (meth := k7m8) (c := k7c8) (by decide +kernel) rfl rfl rfl (by decide +kernel)
set_option maxRecDepth 65536 in
theorem w_c14 : (Jvm.Cond.code ({ cls := "java/lang/StringLatin1", name := "charAt", desc := "([BI)C" } : Jvm.MethodName) jdk_43_method_2_code (2 : Nat) (Option.some Jvm.ClassFile.FieldType.char)).before args0 about1 = true := code_word (m := ⟨10, 1⟩) (meth := k10m1) (c := k10c1) (by decide +kernel) rfl rfl rfl (by decide +kernel)
set_option maxRecDepth 65536 in
theorem w_c15 : (Jvm.Cond.code ({ cls := "java/lang/String", name := "checkIndex", desc := "(II)V" } : Jvm.MethodName) jdk_42_method_155_code (2 : Nat) (Option.none : Option Jvm.ClassFile.FieldType)).before args0 about1 = true := code_word (m := ⟨7, 9⟩) (meth := k7m9) (c := k7c9) (by decide +kernel) rfl rfl rfl (by decide +kernel)
set_option maxRecDepth 65536 in
theorem w_c16 : (Jvm.Cond.code ({ cls := "jdk/internal/util/Preconditions", name := "checkIndex", desc := "(IILjava/util/function/BiFunction;)I" } : Jvm.MethodName) jdk_41_method_11_code (3 : Nat) (Option.some Jvm.ClassFile.FieldType.int)).before args0 about1 = true := code_word (m := ⟨11, 1⟩) (meth := k11m1) (c := k11c1) (by decide +kernel) rfl rfl rfl (by decide +kernel)
set_option maxRecDepth 65536 in
theorem w_c17 : (Jvm.Cond.code ({ cls := "com/example/corvid/corvid/classfile/ConstantPool", name := "modifiedUtf8Length", desc := "(C)I" } : Jvm.MethodName) prog_14_method_14_code (1 : Nat) (Option.some Jvm.ClassFile.FieldType.int)).before args0 about1 = true := code_word (m := ⟨8, 2⟩) (meth := k8m2) (c := k8c2) (by decide +kernel) rfl rfl rfl (by decide +kernel)
set_option maxRecDepth 65536 in
theorem w_c18 : (Jvm.Cond.code ({ cls := "java/lang/StringUTF16", name := "toBytes", desc := "([CII)[B" } : Jvm.MethodName) jdk_52_method_14_code (5 : Nat) (Option.some (Jvm.ClassFile.FieldType.array Jvm.ClassFile.FieldType.byte))).before args0 about1 = true := code_word (m := ⟨9, 6⟩) (meth := k9m6) (c := k9c6) (by decide +kernel) rfl rfl rfl (by decide +kernel)
set_option maxRecDepth 65536 in
theorem w_c19 : (Jvm.Cond.code ({ cls := "java/lang/StringUTF16", name := "newBytesFor", desc := "(I)[B" } : Jvm.MethodName) jdk_52_method_2_code (1 : Nat) (Option.some (Jvm.ClassFile.FieldType.array Jvm.ClassFile.FieldType.byte))).before args0 about1 = true := code_word (m := ⟨9, 1⟩) (meth := k9m1) (c := k9c1) (by decide +kernel) rfl rfl rfl (by decide +kernel)
set_option maxRecDepth 65536 in
theorem w_c20 : (Jvm.Cond.code ({ cls := "java/lang/StringUTF16", name := "newBytesLength", desc := "(I)I" } : Jvm.MethodName) jdk_52_method_3_code (1 : Nat) (Option.some Jvm.ClassFile.FieldType.int)).before args0 about1 = true := code_word (m := ⟨9, 2⟩) (meth := k9m2) (c := k9c2) (by decide +kernel) rfl rfl rfl (by decide +kernel)
set_option maxRecDepth 65536 in
theorem w_c21 : (Jvm.Cond.code ({ cls := "java/lang/StringUTF16", name := "putChar", desc := "([BII)V" } : Jvm.MethodName) jdk_52_method_4_code (3 : Nat) (Option.none : Option Jvm.ClassFile.FieldType)).before args0 about1 = true := code_word (m := ⟨9, 3⟩) (meth := k9m3) (c := k9c3) (by decide +kernel) rfl rfl rfl (by decide +kernel)
set_option maxRecDepth 65536 in
theorem w_c22 : (Jvm.Cond.code ({ cls := "java/lang/StringUTF16", name := "getChar", desc := "([BI)C" } : Jvm.MethodName) jdk_52_method_5_code (2 : Nat) (Option.some Jvm.ClassFile.FieldType.char)).before args0 about1 = true := code_word (m := ⟨9, 4⟩) (meth := k9m4) (c := k9c4) (by decide +kernel) rfl rfl rfl (by decide +kernel)
set_option maxRecDepth 65536 in
theorem w_c23 : (Jvm.Cond.code ({ cls := "java/lang/StringUTF16", name := "charAt", desc := "([BI)C" } : Jvm.MethodName) jdk_52_method_83_code (2 : Nat) (Option.some Jvm.ClassFile.FieldType.char)).before args0 about1 = true := code_word (m := ⟨9, 11⟩) (meth := k9m11) (c := k9c11) (by decide +kernel) rfl rfl rfl (by decide +kernel)
set_option maxRecDepth 65536 in
theorem w_c24 : (Jvm.Cond.code ({ cls := "java/lang/StringUTF16", name := "checkIndex", desc := "(I[B)V" } : Jvm.MethodName) jdk_52_method_91_code (2 : Nat) (Option.none : Option Jvm.ClassFile.FieldType)).before args0 about1 = true := code_word (m := ⟨9, 12⟩) (meth := k9m12) (c := k9c12) (by decide +kernel) rfl rfl rfl (by decide +kernel)
set_option maxRecDepth 65536 in
theorem w_c25 : (Jvm.Cond.code ({ cls := "java/lang/StringUTF16", name := "length", desc := "([B)I" } : Jvm.MethodName) jdk_52_method_6_code (1 : Nat) (Option.some Jvm.ClassFile.FieldType.int)).before args0 about1 = true := code_word (m := ⟨9, 5⟩) (meth := k9m5) (c := k9c5) (by decide +kernel) rfl rfl rfl (by decide +kernel)
set_option maxRecDepth 65536 in
theorem w_c26 : (Jvm.Cond.code ({ cls := "java/lang/String", name := "valueOf", desc := "(C)Ljava/lang/String;" } : Jvm.MethodName) jdk_42_method_139_code (1 : Nat) (Option.some (Jvm.ClassFile.FieldType.object "java/lang/String"))).before args0 about1 = true := code_word (m := ⟨7, 4⟩) (meth := k7m4) (c := k7c4) (by decide +kernel) rfl rfl rfl (by decide +kernel)
set_option maxRecDepth 65536 in
theorem w_c27 : (Jvm.Cond.code ({ cls := "java/lang/StringLatin1", name := "canEncode", desc := "(C)Z" } : Jvm.MethodName) jdk_43_method_3_code (1 : Nat) (Option.some Jvm.ClassFile.FieldType.boolean)).before args0 about1 = true := code_word (m := ⟨10, 2⟩) (meth := k10m2) (c := k10c2) (by decide +kernel) rfl rfl rfl (by decide +kernel)
set_option maxRecDepth 65536 in
theorem w_c28 : (Jvm.Cond.code ({ cls := "java/lang/StringUTF16", name := "toBytes", desc := "(C)[B" } : Jvm.MethodName) jdk_52_method_24_code (2 : Nat) (Option.some (Jvm.ClassFile.FieldType.array Jvm.ClassFile.FieldType.byte))).before args0 about1 = true := code_word (m := ⟨9, 10⟩) (meth := k9m10) (c := k9c10) (by decide +kernel) rfl rfl rfl (by decide +kernel)
set_option maxRecDepth 65536 in
theorem w_c29 : (Jvm.Cond.code ({ cls := "java/lang/String", name := "<init>", desc := "([BB)V" } : Jvm.MethodName) jdk_42_method_151_code (3 : Nat) (Option.none : Option Jvm.ClassFile.FieldType)).before args0 about1 = true := code_word (m := ⟨7, 6⟩) (meth := k7m6) (c := k7c6) (by decide +kernel) rfl rfl rfl (by decide +kernel)
set_option maxRecDepth 65536 in
theorem w_c30 : (Jvm.Cond.code ({ cls := "java/lang/StringLatin1", name := "toBytes", desc := "(C)[B" } : Jvm.MethodName) jdk_43_method_46_code (1 : Nat) (Option.some (Jvm.ClassFile.FieldType.array Jvm.ClassFile.FieldType.byte))).before args0 about1 = true := code_word (m := ⟨10, 3⟩) (meth := k10m3) (c := k10c3) (by decide +kernel) rfl rfl rfl (by decide +kernel)
def codes1 : List Jvm.Cond := [Jvm.Cond.code x code maxLocals ret, Jvm.Cond.code ({ cls := "com/example/corvid/corvid/classfile/ConstantPoolModifiedUtf8LengthPinLaw", name := "make", desc := "(ICCCCC)Ljava/lang/String;" } : Jvm.MethodName) method_4_code (6 : Nat) (Option.some (Jvm.ClassFile.FieldType.object "java/lang/String")), Jvm.Cond.code ({ cls := "java/lang/String", name := "<init>", desc := "([C)V" } : Jvm.MethodName) jdk_42_method_3_code (2 : Nat) (Option.none : Option Jvm.ClassFile.FieldType), Jvm.Cond.code ({ cls := "java/lang/String", name := "<init>", desc := "([CIILjava/lang/Void;)V" } : Jvm.MethodName) jdk_42_method_149_code (6 : Nat) (Option.none : Option Jvm.ClassFile.FieldType), Jvm.Cond.code ({ cls := "java/lang/Object", name := "<init>", desc := "()V" } : Jvm.MethodName) object_method_1_code (1 : Nat) (Option.none : Option Jvm.ClassFile.FieldType), Jvm.Cond.code ({ cls := "com/example/corvid/corvid/classfile/ConstantPool", name := "modifiedUtf8Length", desc := "(Ljava/lang/String;)I" } : Jvm.MethodName) prog_14_method_13_code (3 : Nat) (Option.some Jvm.ClassFile.FieldType.int), Jvm.Cond.code ({ cls := "java/lang/String", name := "length", desc := "()I" } : Jvm.MethodName) jdk_42_method_54_code (1 : Nat) (Option.some Jvm.ClassFile.FieldType.int), Jvm.Cond.code ({ cls := "java/lang/String", name := "coder", desc := "()B" } : Jvm.MethodName) jdk_42_method_152_code (1 : Nat) (Option.some Jvm.ClassFile.FieldType.byte), Jvm.Cond.code ({ cls := "java/lang/StringUTF16", name := "compress", desc := "([CII)[B" } : Jvm.MethodName) jdk_52_method_16_code (6 : Nat) (Option.some (Jvm.ClassFile.FieldType.array Jvm.ClassFile.FieldType.byte)), Jvm.Cond.code ({ cls := "java/lang/StringUTF16", name := "compress", desc := "([CI[BII)I" } : Jvm.MethodName) jdk_52_method_21_code (7 : Nat) (Option.some Jvm.ClassFile.FieldType.int), Jvm.Cond.code ({ cls := "java/lang/StringUTF16", name := "coderFromArrayLen", desc := "([BI)B" } : Jvm.MethodName) jdk_52_method_15_code (2 : Nat) (Option.some Jvm.ClassFile.FieldType.byte), Jvm.Cond.code ({ cls := "com/example/corvid/corvid/classfile/ConstantPoolModifiedUtf8LengthPinLaw", name := "bytes", desc := "(C)I" } : Jvm.MethodName) method_3_code (3 : Nat) (Option.some Jvm.ClassFile.FieldType.int), Jvm.Cond.code ({ cls := "java/lang/String", name := "charAt", desc := "(I)C" } : Jvm.MethodName) jdk_42_method_56_code (2 : Nat) (Option.some Jvm.ClassFile.FieldType.char), Jvm.Cond.code ({ cls := "java/lang/String", name := "isLatin1", desc := "()Z" } : Jvm.MethodName) jdk_42_method_154_code (1 : Nat) (Option.some Jvm.ClassFile.FieldType.boolean), Jvm.Cond.code ({ cls := "java/lang/StringLatin1", name := "charAt", desc := "([BI)C" } : Jvm.MethodName) jdk_43_method_2_code (2 : Nat) (Option.some Jvm.ClassFile.FieldType.char), Jvm.Cond.code ({ cls := "java/lang/String", name := "checkIndex", desc := "(II)V" } : Jvm.MethodName) jdk_42_method_155_code (2 : Nat) (Option.none : Option Jvm.ClassFile.FieldType), Jvm.Cond.code ({ cls := "jdk/internal/util/Preconditions", name := "checkIndex", desc := "(IILjava/util/function/BiFunction;)I" } : Jvm.MethodName) jdk_41_method_11_code (3 : Nat) (Option.some Jvm.ClassFile.FieldType.int), Jvm.Cond.code ({ cls := "com/example/corvid/corvid/classfile/ConstantPool", name := "modifiedUtf8Length", desc := "(C)I" } : Jvm.MethodName) prog_14_method_14_code (1 : Nat) (Option.some Jvm.ClassFile.FieldType.int), Jvm.Cond.code ({ cls := "java/lang/StringUTF16", name := "toBytes", desc := "([CII)[B" } : Jvm.MethodName) jdk_52_method_14_code (5 : Nat) (Option.some (Jvm.ClassFile.FieldType.array Jvm.ClassFile.FieldType.byte)), Jvm.Cond.code ({ cls := "java/lang/StringUTF16", name := "newBytesFor", desc := "(I)[B" } : Jvm.MethodName) jdk_52_method_2_code (1 : Nat) (Option.some (Jvm.ClassFile.FieldType.array Jvm.ClassFile.FieldType.byte)), Jvm.Cond.code ({ cls := "java/lang/StringUTF16", name := "newBytesLength", desc := "(I)I" } : Jvm.MethodName) jdk_52_method_3_code (1 : Nat) (Option.some Jvm.ClassFile.FieldType.int), Jvm.Cond.code ({ cls := "java/lang/StringUTF16", name := "putChar", desc := "([BII)V" } : Jvm.MethodName) jdk_52_method_4_code (3 : Nat) (Option.none : Option Jvm.ClassFile.FieldType), Jvm.Cond.code ({ cls := "java/lang/StringUTF16", name := "getChar", desc := "([BI)C" } : Jvm.MethodName) jdk_52_method_5_code (2 : Nat) (Option.some Jvm.ClassFile.FieldType.char), Jvm.Cond.code ({ cls := "java/lang/StringUTF16", name := "charAt", desc := "([BI)C" } : Jvm.MethodName) jdk_52_method_83_code (2 : Nat) (Option.some Jvm.ClassFile.FieldType.char), Jvm.Cond.code ({ cls := "java/lang/StringUTF16", name := "checkIndex", desc := "(I[B)V" } : Jvm.MethodName) jdk_52_method_91_code (2 : Nat) (Option.none : Option Jvm.ClassFile.FieldType), Jvm.Cond.code ({ cls := "java/lang/StringUTF16", name := "length", desc := "([B)I" } : Jvm.MethodName) jdk_52_method_6_code (1 : Nat) (Option.some Jvm.ClassFile.FieldType.int), Jvm.Cond.code ({ cls := "java/lang/String", name := "valueOf", desc := "(C)Ljava/lang/String;" } : Jvm.MethodName) jdk_42_method_139_code (1 : Nat) (Option.some (Jvm.ClassFile.FieldType.object "java/lang/String")), Jvm.Cond.code ({ cls := "java/lang/StringLatin1", name := "canEncode", desc := "(C)Z" } : Jvm.MethodName) jdk_43_method_3_code (1 : Nat) (Option.some Jvm.ClassFile.FieldType.boolean), Jvm.Cond.code ({ cls := "java/lang/StringUTF16", name := "toBytes", desc := "(C)[B" } : Jvm.MethodName) jdk_52_method_24_code (2 : Nat) (Option.some (Jvm.ClassFile.FieldType.array Jvm.ClassFile.FieldType.byte)), Jvm.Cond.code ({ cls := "java/lang/String", name := "<init>", desc := "([BB)V" } : Jvm.MethodName) jdk_42_method_151_code (3 : Nat) (Option.none : Option Jvm.ClassFile.FieldType), Jvm.Cond.code ({ cls := "java/lang/StringLatin1", name := "toBytes", desc := "(C)[B" } : Jvm.MethodName) jdk_43_method_46_code (1 : Nat) (Option.some (Jvm.ClassFile.FieldType.array Jvm.ClassFile.FieldType.byte))]
set_option maxRecDepth 65536 in
theorem codes_eq : words1.filter isCode = codes1 := rfl
theorem w_codes : ∀ c ∈ words1.filter isCode, c.before args0 about1 = true := by
  rw [codes_eq]
  intro c hc
  simp only [codes1, List.mem_cons, List.not_mem_nil, or_false] at hc
  rcases hc with rfl | rfl | rfl | rfl | rfl | rfl | rfl | rfl | rfl | rfl | rfl | rfl | rfl | rfl | rfl | rfl | rfl | rfl | rfl | rfl | rfl | rfl | rfl | rfl | rfl | rfl | rfl | rfl | rfl | rfl | rfl
  · exact w_c0
  · exact w_c1
  · exact w_c2
  · exact w_c3
  · exact w_c4
  · exact w_c5
  · exact w_c6
  · exact w_c7
  · exact w_c8
  · exact w_c9
  · exact w_c10
  · exact w_c11
  · exact w_c12
  · exact w_c13
  · exact w_c14
  · exact w_c15
  · exact w_c16
  · exact w_c17
  · exact w_c18
  · exact w_c19
  · exact w_c20
  · exact w_c21
  · exact w_c22
  · exact w_c23
  · exact w_c24
  · exact w_c25
  · exact w_c26
  · exact w_c27
  · exact w_c28
  · exact w_c29
  · exact w_c30
set_option maxRecDepth 65536 in
theorem w_t1 : (words1.take 24).all (fun c => isCode c || c.before args0 about1) = true := by decide +kernel
set_option maxRecDepth 65536 in
theorem w_t2 : ((words1.drop 24).take 24).all (fun c => isCode c || c.before args0 about1) = true := by decide +kernel
set_option maxRecDepth 65536 in
theorem w_t3 : (((words1.drop 24).drop 24).take 24).all (fun c => isCode c || c.before args0 about1) = true := by decide +kernel
set_option maxRecDepth 65536 in
theorem w_t4 : ((((words1.drop 24).drop 24).drop 24).take 24).all (fun c => isCode c || c.before args0 about1) = true := by decide +kernel
set_option maxRecDepth 65536 in
theorem w_t5 : (((((words1.drop 24).drop 24).drop 24).drop 24).take 24).all (fun c => isCode c || c.before args0 about1) = true := by decide +kernel
set_option maxRecDepth 65536 in
theorem w_t6 : (((((words1.drop 24).drop 24).drop 24).drop 24).drop 24).all (fun c => isCode c || c.before args0 about1) = true := by decide +kernel
theorem w_tables : (allAtoms (Jvm.Cond.code x code maxLocals ret :: tables_1)).before args0 about1 = true := by
  rw [allAtoms_all]
  show words1.all (fun c => c.before args0 about1) = true
  refine all_split ?_ w_codes
  rw [← List.take_append_drop 24 words1, List.all_append, w_t1, ← List.take_append_drop 24 (words1.drop 24), List.all_append, w_t2, ← List.take_append_drop 24 ((words1.drop 24).drop 24), List.all_append, w_t3, ← List.take_append_drop 24 (((words1.drop 24).drop 24).drop 24), List.all_append, w_t4, ← List.take_append_drop 24 ((((words1.drop 24).drop 24).drop 24).drop 24), List.all_append, w_t5, w_t6]
  rfl
set_option maxRecDepth 65536 in
theorem w_rest : rest_1_c.before args0 about1 = true := by decide +kernel
set_option maxRecDepth 65536 in
theorem w_case : (Jvm.Cond.and given_1 narrow_1).before args0 about1 = true := by decide +kernel
set_option maxRecDepth 65536 in
theorem w_consts : constsHeld consts_1 about1 := Jvm.Lit.constsHeldB_iff.mp (by decide +kernel)
theorem w_applies : (headSpec (Jvm.Cond.code x code maxLocals ret :: tables_1) room_1).applies x e0.platform about1 = true :=
  (Spec.applies_iff w_frames).mpr ⟨w_running, w_runnable, w_alone, w_named, w_hears, w_ripe, w_room, w_tables⟩
theorem atStart : AtStart classFile x code maxLocals ret World_1 tables_1 room_1 Calls_1 rest_1 Pre_1 launch0 p0 e0 about1 theMethod args0 below0 :=
  ⟨lists_1, trivial, launch0.admits_env _ _ _, launch0.least_env, fairChoices_fair.cas, fairChoices_fair.clock, w_frames, w_args, w_heap, w_applies, ⟨w_consts, trivial⟩, w_rest, w_case⟩
end start1
theorem witness_1 : WitnessClaimed_1 := ⟨start1.p0, start1.e0, start1.about1, start1.theMethod, start1.args0, start1.below0, start1.atStart⟩
end Jvm.Pilot.@@N@@
