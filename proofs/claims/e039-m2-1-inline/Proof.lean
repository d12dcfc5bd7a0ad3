import JvmDerived
import JvmDerived.Pilot.@@N@@Statement
import JvmDerived.Pilot.@@N@@Code
set_option linter.unusedVariables false
set_option linter.unusedSimpArgs false
namespace Jvm.Pilot.@@N@@
open Jvm Jvm.ClassFile Sem Op Lib Jvm.Free Jvm.Stand Jvm.LawKit Jvm.RoadKit Bundle Jvm.Pilot.@@N@@.Jvm.D
theorem own_keq {h0 h h' : Heap} {ws : List Addr} (e : h' = h) (K : Keep h0 h ws) : Keep h0 h' ws := e ▸ K

abbrev EL : List (String × Nat) := consts_1
theorem own_nf {args : Array Value} {s : State} {C : String} {y0 z y : MethodName} (h : (Cond.selects C y0 z).before args s = true) (e : z.cls = y.cls) : NotFace s y := fun r0 h0 => by
  obtain ⟨c2, r2, m2, q1, q2, q3, q4, kP, hkP, hkPi⟩ := Cond.selects_spec h
  have e1 := findClass_of_methodNamed q3
  have e2 := findClass_of_methodNamed h0
  rw [e, e2] at e1
  exact ⟨kP, (Option.some.inj e1) ▸ hkP, hkPi⟩
theorem own_same {args a1 : Array Value} {s : State} {y : MethodName} {C : String} {y0 z0 : MethodName} (hi : (Cond.instanceMethod y).before args s = true) (h : (Cond.selects C y0 z0).before a1 s = true) (e : z0.cls = y.cls) (hy : y.cls ≠ "java/lang/invoke/MethodHandle" ∧ y.cls ≠ "java/lang/invoke/VarHandle") : (Cond.sameMethod y.cls y.cls y.name y.desc).before args s = true := by
  obtain ⟨mk, methM, hnamed, hmethM, -, -⟩ := Cond.instanceMethod_spec hi
  obtain ⟨c2, r2, m2, q1, q2, q3, q4, kP, hkP, hkPi⟩ := Cond.selects_spec h
  have hfound : s.methodFound? y.cls y.name y.desc = some mk := State.methodFound?_of_named hnamed hy
  have hc := findClass_of_methodNamed hnamed
  have e1 := findClass_of_methodNamed q3
  rw [e, hc] at e1
  have e2 : mk.cls = m2.cls := Option.some.inj e1
  have hn' : s.methodNamed? ⟨y.cls, y.name, y.desc⟩ = some mk := hnamed
  simp [Cond.before, Cond.holds, Cond.value, hc, hfound, hn', e2, hkP, hkPi]
theorem own_selP {args : Array Value} {s : State} {C : String} {y : MethodName} (h : (Cond.selects C y y).before args s = true) (hp : s.PrivateAt y) (hi : (Cond.instanceMethod y).before args s = true) (hy : y.cls ≠ "java/lang/invoke/MethodHandle" ∧ y.cls ≠ "java/lang/invoke/VarHandle") : (Cond.selects y.cls y y).before args s = true := by
  obtain ⟨c2, r2, m2, q1, q2, q3, q4, kP, hkP, hkPi⟩ := Cond.selects_spec h
  exact selects_self_of_private (findClass_of_methodNamed q3) hkP hkPi hp hi hy
theorem own_n {n : Nat} (h : n < 2147483648) : (Int32.ofNat n).toInt = n := Int32.toInt_ofNat_of_lt h
theorem own_nc {n : Nat} (h : n < 2147483648) : (Int32.ofNat n).toNatClampNeg = n := by simp only [Int32.toNatClampNeg, own_n h]; omega
theorem own_z : (0 : Int32).toInt = 0 := by decide
theorem own_39 : (2147483639 : Int32).toInt = 2147483639 := by decide
theorem own_47 : (2147483647 : Int32).toInt = 2147483647 := by decide
theorem own_nn {n : Nat} (h : n < 2147483648) : ¬ Int32.ofNat n < 0 := by rw [Int32.lt_iff_toInt_lt, own_n h, own_z]; omega
theorem own_lt {a b : Nat} (ha : a < 2147483648) (hb : b < 2147483648) : Int32.ofNat a < Int32.ofNat b ↔ a < b := by rw [Int32.lt_iff_toInt_lt, own_n ha, own_n hb]; omega
theorem own_eq {a b : Nat} (ha : a < 2147483648) (hb : b < 2147483648) : Int32.ofNat a = Int32.ofNat b ↔ a = b := by
  rw [← Int32.toInt_inj, own_n ha, own_n hb]; omega
theorem own_add (a b : Nat) : Int32.ofNat a + Int32.ofNat b = Int32.ofNat (a + b) := (Int32.ofNat_add a b).symm
theorem own_sub {a b : Nat} (h : b ≤ a) (ha : a < 2147483648) : Int32.ofNat a - Int32.ofNat b = Int32.ofNat (a - b) := by
  have q := c_isub (Int32.ofNat a) (Int32.ofNat b)
  have r := rng32 (Int32.ofNat a - Int32.ofNat b)
  refine Int32.toInt_inj.mp ?_
  rw [own_n ha, own_n (by omega)] at q
  rw [own_n (by omega)]; omega
theorem own_shr0 (x : Int32) : (x >>> ((0 : Int32) &&& 31)) = x := by
  have := c_ishr x 0 0 (by decide); exact Int32.toInt_inj.mp (by rw [this]; simp)
theorem own_shl0 (x : Int32) : (x <<< ((0 : Int32) &&& 31)) = x := by
  have q := c_ishl x 0 0 (by decide)
  have r := rng32 x
  have r' := rng32 (x <<< ((0 : Int32) &&& 31))
  refine Int32.toInt_inj.mp ?_
  simp only [Nat.pow_zero, Int.natCast_one, Int.mul_one] at q
  omega
def own_max (a b : Int32) : Int32 := if a < b then b else a
def own_min (a b : Int32) : Int32 := if b < a then b else a
theorem own_maxn {a b : Nat} (ha : a < 2147483648) (hb : b < 2147483648) : own_max (Int32.ofNat a) (Int32.ofNat b) = Int32.ofNat (max a b) := by
  unfold own_max; split
  · rename_i z; rw [own_lt ha hb] at z; rw [Nat.max_eq_right (by omega)]
  · rename_i z; rw [own_lt ha hb] at z; rw [Nat.max_eq_left (by omega)]
theorem own_minn {a b : Nat} (ha : a < 2147483648) (hb : b < 2147483648) : own_min (Int32.ofNat a) (Int32.ofNat b) = Int32.ofNat (min a b) := by
  unfold own_min; split
  · rename_i z; rw [own_lt hb ha] at z; rw [Nat.min_eq_right (by omega)]
  · rename_i z; rw [own_lt hb ha] at z; rw [Nat.min_eq_left (by omega)]
/-- what a builder's capacity becomes -/
def own_gr (cp nd : Nat) : Nat := if nd ≤ cp then cp else max nd (2 * cp + 2)
theorem own_ext {h h' : Heap} (K : Keep h h' []) : Ext h h' := ⟨K.1, fun a c q => K.2.1 a c q nin0⟩
theorem own_keep {h h' : Heap} {ws : List Addr} (E : Ext h h') : Keep h h' ws := (Keep.refl h ws).ext E
theorem own_us (vs : List Value) (sp nn : Nat) (h : sp + nn ≤ vs.length) : (List.range nn).map (fun i => vs.getD (sp + i) (.int 0)) = (vs.drop sp).take nn := by
  apply List.ext_getElem
  · simp; omega
  · intro i h1 h2
    simp at h1
    have h3 : sp + i < vs.length := by omega
    simp [List.getD_eq_getElem?_getD, h3]
theorem own_cp {p : Program} {l : Launch} {e : Env} {R : Room} {s : State} {m : MethodId} {args : Array Value} {below : List Frame} {meth : Method} {c : Code} {T : State} {locs : List Loc} {cells slots : Nat} {Z : State} {a0 : Array Value} {h : Heap} {a b : Addr}
    (X : Stand p l e R s m args below meth c T locs cells slots) (hx : p.tables.exec = Jvm.exec) (hZ : Z.Warmed39 s.vm) {own : String} {index : Nat} (hown : s.vm.findClass own = some m.cls)
    (w1 : (Cond.methodLink own index Jvm.Stand.acN).before a0 Z = true) (w2 : (Cond.native Jvm.Stand.acN).before a0 Z = true) (w3 : (Cond.static Jvm.Stand.acN).before a0 Z = true) (w4 : (Cond.initialized "java/lang/System").before a0 Z = true) (eT : T.heap = h)
    {k k' : ClassId} (z z' sp dp nn : Nat) {vs vd : List Value} (A : Arv Z h a k .byte (Int32.ofNat z) vs (.int 0)) (B : Arv Z h b k' .byte (Int32.ofNat z') vd (.int 0)) (hA : vs.length = z) (hB : vd.length = z') (hz : z < 2147483648) (hz' : z' < 2147483648) (h4 : sp + nn ≤ z) (h5 : dp + nn ≤ z')
    {n0 : Nat} (N : Fr n0 locs) (ge : n0 ≤ b) {g : JFrame} (hg : g.method = m) (hsize : g.locals.size = c.maxLocals) {rest : List Value} (hs : g.stack = .int (Int32.ofNat nn) :: .int (Int32.ofNat dp) :: .ref b :: .int (Int32.ofNat sp) :: .ref a :: rest) (hd : decode c.code g.pc = .ok (.invokestatic index, 3))
    (hf : 1 ≤ R.frames) {W : Nat} (hW : 2 * g.monitorRoom + (rest.map fun v => v.category).sum ≤ W) (hlo : W + (nativeFrameWords "java/lang/System" "arraycopy" 5 + 11) ≤ R.locals) :
    ∃ T' h' L, Stand p l e R s m args below meth c T' L cells slots ∧ T'.heap = h' ∧ Fr n0 L ∧ Keep h h' [b] ∧ Arv Z h' b k' .byte (Int32.ofNat z') (vd.take dp ++ (vs.drop sp).take nn ++ vd.drop (dp + nn)) (.int 0) ∧
      ∀ target, Steps p.tables e below (T'.setTop { g with pc := g.pc + 3, stack := rest }) target → Steps p.tables e below (T.setTop g) target := by
  have e1 := own_nc (n := sp) (by omega)
  have e2 := own_nc (n := dp) (by omega)
  have e3 := own_nc (n := nn) (by omega)
  have e4 := own_nc hz
  have e5 := own_nc hz'
  obtain ⟨T', h', L, X', e', N', K', V', st⟩ := cpA X hx hZ hown w1 w2 w3 w4 eT A B (Or.inl ⟨rfl, rfl⟩) (own_nn (n := sp) (by omega)) (own_nn (n := dp) (by omega)) (own_nn (n := nn) (by omega)) (by rw [e1, e3, e4]; exact h4) (by rw [e2, e3, e5]; exact h5) rfl (by rw [e2, e3]; omega) N ge hg hsize hs hd hf hW hlo
  rw [e1, e2, e3, own_us vs sp nn (by omega)] at V'
  exact ⟨T', h', L, X', e', N', K', V', st⟩
theorem own_all {vs : List Value} {n : Nat} (h : vs.length = n) : (vs.drop 0).take n = vs := by simp [← h]
theorem own_acat {z : Value} {n : Nat} : ((List.replicate n z).take 0 : List Value) = [] := by simp
theorem own_grle {cp nd : Nat} : nd ≤ own_gr cp nd ∧ cp ≤ own_gr cp nd := by unfold own_gr; split <;> omega
theorem own_grM {cp nd M : Nat} (hc : cp ≤ 1000) (hM : M ≤ 1000) (h : nd ≤ cp ∨ max nd (2 * cp + 2) ≤ M) : own_gr cp nd ≤ 1000 := by unfold own_gr; split <;> omega
theorem own_app {vs ws xs : List Value} {cp ct nx : Nat} (h1 : ws.take cp = vs) (h2 : ct ≤ cp) (h3 : xs.length = nx) (h4 : ct + nx ≤ ws.length) : (ws.take ct ++ xs ++ ws.drop (ct + nx)).take (ct + nx) = vs.take ct ++ xs ∧ (ws.take ct ++ xs ++ ws.drop (ct + nx)).length = ws.length := by
  have e : vs.take ct = ws.take ct := by rw [← h1, List.take_take, Nat.min_eq_left h2]
  have l1 : (ws.take ct ++ xs).length = ct + nx := by simp [h3]; omega
  refine ⟨?_, ?_⟩
  · rw [e, List.take_append_of_le_length (by omega), List.take_of_length_le (by omega)]
  · simp [h3]; omega
theorem own_set {vs ws : List Value} {cp ct : Nat} {x : Value} (h1 : ws.take cp = vs) (h2 : ct ≤ cp) (h4 : ct + 1 ≤ ws.length) : (ws.set ct x).take (ct + 1) = vs.take ct ++ [x] ∧ (ws.set ct x).length = ws.length := by
  have e : vs.take ct = ws.take ct := by rw [← h1, List.take_take, Nat.min_eq_left h2]
  refine ⟨?_, by simp⟩
  rw [e]
  apply List.ext_getElem?
  intro i
  by_cases hi : i < ct
  · rw [List.getElem?_take_of_lt (by omega), List.getElem?_set_ne (by omega), List.getElem?_append_left (by simp; omega), List.getElem?_take_of_lt hi]
  · by_cases hj : i = ct
    · subst hj
      rw [List.getElem?_take_of_lt (by omega), List.getElem?_set_self (by omega), List.getElem?_append_right (by simp; omega)]
      have : i - (ws.take i).length = 0 := by simp; omega
      rw [this]; rfl
    · rw [List.getElem?_eq_none (by simp; omega), List.getElem?_eq_none (by simp; omega)]
theorem own_dbl {lm c : Nat} {a b : Value} (h : c + c ≤ lm) : ((List.replicate c a ++ List.replicate (lm - c) b).take c ++ ((List.replicate c a ++ List.replicate (lm - c) b).drop 0).take c ++ (List.replicate c a ++ List.replicate (lm - c) b).drop (c + c)) = List.replicate (c + c) a ++ List.replicate (lm - (c + c)) b := by
  have e1 : (List.replicate c a ++ List.replicate (lm - c) b).take c = List.replicate c a := by rw [List.take_append_of_le_length (by simp)]; simp
  have e2 : (List.replicate c a ++ List.replicate (lm - c) b).drop (c + c) = List.replicate (lm - (c + c)) b := by
    rw [List.drop_append]; simp <;> omega
  rw [List.drop_zero, e1, e2, List.replicate_append_replicate]
theorem own_fill {lm c : Nat} {a b : Value} (h : c ≤ lm) (h2 : lm - c ≤ c) : ((List.replicate c a ++ List.replicate (lm - c) b).take c ++ ((List.replicate c a ++ List.replicate (lm - c) b).drop 0).take (lm - c) ++ (List.replicate c a ++ List.replicate (lm - c) b).drop (c + (lm - c))) = List.replicate lm a := by
  have e1 : (List.replicate c a ++ List.replicate (lm - c) b).take c = List.replicate c a := by rw [List.take_append_of_le_length (by simp)]; simp
  have e3 : (List.replicate c a ++ List.replicate (lm - c) b).take (lm - c) = List.replicate (lm - c) a := by rw [List.take_append_of_le_length (by simp; omega), List.take_replicate, Nat.min_eq_left h2]
  have e2 : (List.replicate c a ++ List.replicate (lm - c) b).drop (c + (lm - c)) = [] := List.drop_eq_nil_of_le (by simp <;> omega)
  rw [List.drop_zero, e1, e2, e3, List.append_nil, List.replicate_append_replicate]; congr 1; omega
theorem own_div {pn : Nat} (h : 2 ≤ pn) (h2 : pn ≤ 1000) : ¬ ((2147483647 : Int32) / Int32.ofNat pn < Int32.ofNat 4) := by
  have e : (2147483647 : Int32).toInt = 2147483647 := by decide
  have m1 : (-1 : Int32).toInt = -1 := by decide
  have q := (c_idiv 2147483647 (Int32.ofNat pn) pn (own_n (by omega)) (fun z => by have q := congrArg Int32.toInt z; rw [own_n (by omega), m1] at q; omega)).1 (by rw [e]; omega)
  rw [Int32.lt_iff_toInt_lt, q, own_n (by omega), e]
  have : (4 : Int) ≤ 2147483647 / (pn : Int) := (Int.le_ediv_iff_mul_le (by omega)).mpr (by omega)
  omega
theorem own_backS0 {p : Program} {l : Launch} {e : Env} {R : Room} {s : State} {args : Array Value} {below : List Frame} {Z : State} {a0 : Array Value} {EL : List (String × Nat)} {h : Heap} {vm0 : Vm} {y : MethodName} {bytes : ByteArray} {maxL : Nat} {ret : Option FieldType} {rm : Room} {len W : Nat} {as' : Array Value} {Q : Option Value → Heap → List Loc → Vm → Prop}
    (hM : MetFree l y (head1 [Cond.code y bytes maxL ret] rm) (fun a U => a = as' ∧ Z.Warmed39 U.vm ∧ U.heap = h ∧ CHv Z EL U.vm h) (fun _ _ _ _ _ => True) (fun _ U o U' => ∃ v L, o = .returned v ∧ Q v U'.heap L U'.vm ∧ CHr Z EL U.vm U.heap U'.vm U'.heap ∧ ReturnedEndW U o U' L rm.cells rm.slots))
    (hZ : Z.Warmed39 vm0) (wc : (Cond.code y bytes maxL ret).before a0 Z = true) (wz : (Cond.initialized y.cls).before a0 Z = true) (hf : rm.frames + 1 ≤ R.frames) (hl : W + (maxL + 11) + rm.locals ≤ R.locals) (hEL : EW Z a0 EL) (H : CHv Z EL vm0 h) :
    BackS l R p e below (s.setVm vm0) args y len W (fun A a => a = as' ∧ A.U.heap = h ∧ A.cells + rm.cells ≤ R.cells ∧ A.slots + rm.slots ≤ R.slots)
      (fun A _ v B => ∃ L, Q v B.U.heap L B.U.vm ∧ B.locs = A.locs ++ L ∧ B.cells = A.cells + rm.cells ∧ B.slots = A.slots + rm.slots ∧ CHr Z EL vm0 h B.U.vm B.U.heap) := by
  refine BackS.of_freeW (bytes := bytes) (maxL := maxL) (ret := ret) (E := fun _ first o t L k n => k = rm.cells ∧ n = rm.slots ∧ (∃ v, o = .returned v ∧ Q v t.heap L t.vm) ∧ CHr Z EL first.vm first.heap t.vm t.heap) hM hf hl ?_ ?_ (fun _ _ _ _ _ _ _ _ _ => trivial) ?_ ?_
  · intro m meth c A a Y hp
    have hU : Z.Warmed39 A.U.vm := wtrans (s := s.setVm vm0) hZ Y.warmed
    refine ⟨?_, mv hU wc, mv hU wz, hp.2.2.1, hp.2.2.2⟩
    show (Cond.and _ .tt).before a A.U = true
    rw [Cond.before_and, mv hU wc]; rfl
  · intro m meth c A a g mk Y hp
    have q := CHv.at Y hZ hEL H
    exact ⟨hp.1, wtrans (s := s.setVm vm0) hZ Y.warmed, hp.2.1, q.1⟩
  · intro _ _ _ _ hq
    obtain ⟨v, L, h1, h2, h3, h4⟩ := hq
    exact ⟨L, _, _, h4, rfl, rfl, ⟨v, h1, h2⟩, h3⟩
  · intro m meth c A a g mk v t L k n Y hp _ _ hq
    obtain ⟨e1, e2, ⟨v', e3, e4⟩, e5⟩ := hq
    cases e3; subst e1 e2
    refine ⟨L, e4, rfl, rfl, rfl, (CHv.at Y hZ hEL H).trans ?_⟩
    rw [← hp.2.1]; exact e5
theorem own_backS1 {p : Program} {l : Launch} {e : Env} {R : Room} {s : State} {args : Array Value} {below : List Frame} {Z : State} {a0 : Array Value} {EL : List (String × Nat)} {h : Heap} {vm0 : Vm} {y : MethodName} {bytes : ByteArray} {maxL : Nat} {ret : Option FieldType} {rm : Room} {len W : Nat} {as' : Array Value} {Q : Option Value → Heap → List Loc → Vm → Prop} {y1 : Addr}
    (hM : MetFree l y (head1 [Cond.code y bytes maxL ret] rm) (fun a U => a = as' ∧ Z.Warmed39 U.vm ∧ U.heap = h ∧ CHv Z EL U.vm h ∧ Safe Z EL U.vm h y1) (fun _ _ _ _ _ => True) (fun _ U o U' => ∃ v L, o = .returned v ∧ Q v U'.heap L U'.vm ∧ CHr Z EL U.vm U.heap U'.vm U'.heap ∧ ReturnedEndW U o U' L rm.cells rm.slots))
    (hZ : Z.Warmed39 vm0) (wc : (Cond.code y bytes maxL ret).before a0 Z = true) (wz : (Cond.initialized y.cls).before a0 Z = true) (hf : rm.frames + 1 ≤ R.frames) (hl : W + (maxL + 11) + rm.locals ≤ R.locals) (hEL : EW Z a0 EL) (H : CHv Z EL vm0 h) (hy : y1 < h.size) (S : Safe Z EL vm0 h y1) :
    BackS l R p e below (s.setVm vm0) args y len W (fun A a => a = as' ∧ A.U.heap = h ∧ A.cells + rm.cells ≤ R.cells ∧ A.slots + rm.slots ≤ R.slots)
      (fun A _ v B => ∃ L, Q v B.U.heap L B.U.vm ∧ B.locs = A.locs ++ L ∧ B.cells = A.cells + rm.cells ∧ B.slots = A.slots + rm.slots ∧ CHr Z EL vm0 h B.U.vm B.U.heap) := by
  refine BackS.of_freeW (bytes := bytes) (maxL := maxL) (ret := ret) (E := fun _ first o t L k n => k = rm.cells ∧ n = rm.slots ∧ (∃ v, o = .returned v ∧ Q v t.heap L t.vm) ∧ CHr Z EL first.vm first.heap t.vm t.heap) hM hf hl ?_ ?_ (fun _ _ _ _ _ _ _ _ _ => trivial) ?_ ?_
  · intro m meth c A a Y hp
    have hU : Z.Warmed39 A.U.vm := wtrans (s := s.setVm vm0) hZ Y.warmed
    refine ⟨?_, mv hU wc, mv hU wz, hp.2.2.1, hp.2.2.2⟩
    show (Cond.and _ .tt).before a A.U = true
    rw [Cond.before_and, mv hU wc]; rfl
  · intro m meth c A a g mk Y hp
    have q := CHv.at Y hZ hEL H
    exact ⟨hp.1, wtrans (s := s.setVm vm0) hZ Y.warmed, hp.2.1, q.1, q.safe hy S⟩
  · intro _ _ _ _ hq
    obtain ⟨v, L, h1, h2, h3, h4⟩ := hq
    exact ⟨L, _, _, h4, rfl, rfl, ⟨v, h1, h2⟩, h3⟩
  · intro m meth c A a g mk v t L k n Y hp _ _ hq
    obtain ⟨e1, e2, ⟨v', e3, e4⟩, e5⟩ := hq
    cases e3; subst e1 e2
    refine ⟨L, e4, rfl, rfl, rfl, (CHv.at Y hZ hEL H).trans ?_⟩
    rw [← hp.2.1]; exact e5
theorem own_three (n : Nat) : n = 0 ∨ n = 1 ∨ 2 ≤ n := by omega
theorem own_safeK {Z : State} {EL : List (String × Nat)} {vm : Vm} {h h' : Heap} {ws : List Addr} {x y : Addr} (K : Keep h h' ws) (hs : ∀ x ∈ ws, Safe Z EL vm h x) (H : CHv Z EL vm h) (hx : x = y ∨ h.size ≤ x) (S : Safe Z EL vm h y) : Safe Z EL vm h' x := fun B => by
  have B0 := (H.keepStep K hs).2 _ B
  rcases hx with e | q
  · rw [e] at B0; exact S B0
  · exact Safe.new q B0
theorem own_safeE {Z : State} {EL : List (String × Nat)} {vm : Vm} {h h' : Heap} {x : Addr} (E : Ext h h') (H : CHv Z EL vm h) (hx : h.size ≤ x) : Safe Z EL vm h' x := fun B => Safe.new hx ((H.step fun _ _ _ q => E.2 _ _ q).2 _ B)
theorem own_d (p : Int32) : ∃ dm : Nat, (p &&& (31 : Int32)) = Int32.ofNat dm ∧ dm ≤ 31 := by
  have h := c_mask p 31 5 (by decide) (by decide)
  refine ⟨(p &&& 31).toInt.toNat, Int32.toInt_inj.mp ?_, by omega⟩
  rw [own_n (by omega)]; omega
theorem own_nine {dm : Nat} (h : dm ≤ 31) : Int32.ofNat dm + (9 : Int32) ≠ (0 : Int32) := fun q => by
  rw [show Int32.ofNat dm + (9 : Int32) = Int32.ofNat (dm + 9) from own_add dm 9, show (0 : Int32) = Int32.ofNat 0 from rfl, own_eq (by omega) (by omega)] at q; omega
theorem own_kk (p : Int32) {dm : Nat} (h : dm ≤ 31) : ∃ (ki : Int32) (dn : Nat), (((p &&& (2147483647 : Int32)) % (Int32.ofNat dm + (9 : Int32))) - (8 : Int32)) = ki ∧ dn ≤ 39 ∧ Int32.ofNat dm - ki = Int32.ofNat dn := by
  have h1 := c_mask p 2147483647 31 (by decide) (by decide)
  have e9 : Int32.ofNat dm + (9 : Int32) = Int32.ofNat (dm + 9) := own_add dm 9
  have e9' : (Int32.ofNat (dm + 9)).toInt = dm + 9 := by rw [own_n (by omega)]; omega
  have h2 := (c_irem (p &&& 2147483647) (Int32.ofNat (dm + 9)) (dm + 9) e9').1 (by rw [h1]; omega)
  have a2 := Int.emod_nonneg (p &&& 2147483647).toInt (b := (dm : Int) + 9) (by omega)
  have a3 := Int.emod_lt_of_pos (p &&& 2147483647).toInt (b := (dm : Int) + 9) (by omega)
  rw [← h2] at a2 a3
  rw [e9]
  have q := c_isub ((p &&& 2147483647) % Int32.ofNat (dm + 9)) 8
  have r := rng32 (((p &&& 2147483647) % Int32.ofNat (dm + 9)) - 8)
  have e8 : (8 : Int32).toInt = 8 := by decide
  rw [e8] at q
  generalize (p &&& 2147483647) % Int32.ofNat (dm + 9) = y at *
  have q2 := c_isub (Int32.ofNat dm) (y - 8)
  have r2 := rng32 (Int32.ofNat dm - (y - 8))
  rw [own_n (by omega)] at q2
  refine ⟨y - 8, (Int32.ofNat dm - (y - 8)).toInt.toNat, rfl, by omega, Int32.toInt_inj.mp ?_⟩
  rw [own_n (by omega)]; omega
theorem own_caps {dn : Nat} (h : dn ≤ 39) : (75 + 4 * (dn) ≤ 148 ∨ max (75 + 4 * (dn)) (2 * (148) + 2) ≤ 304) ∧ (75 + 4 * (dn) + (1) ≤ own_gr (148) (75 + 4 * (dn)) ∨ max (75 + 4 * (dn) + (1)) (2 * (own_gr (148) (75 + 4 * (dn))) + 2) ≤ 304) ∧ (75 + 4 * (dn) + (1) + 1 ≤ own_gr (own_gr (148) (75 + 4 * (dn))) (75 + 4 * (dn) + (1)) ∨ max (75 + 4 * (dn) + (1) + 1) (2 * (own_gr (own_gr (148) (75 + 4 * (dn))) (75 + 4 * (dn) + (1))) + 2) ≤ 304) := by
  by_cases c1 : 75 + 4 * dn ≤ 148
  · have e1 : own_gr 148 (75 + 4 * dn) = 148 := if_pos c1
    rw [e1]
    by_cases c2 : 75 + 4 * dn + 1 ≤ 148
    · have e2 : own_gr 148 (75 + 4 * dn + 1) = 148 := if_pos c2
      rw [e2]; omega
    · have e2 : own_gr 148 (75 + 4 * dn + 1) = max (75 + 4 * dn + 1) (2 * 148 + 2) := if_neg c2
      rw [e2]; omega
  · have e1 : own_gr 148 (75 + 4 * dn) = 298 := by rw [show own_gr 148 (75 + 4 * dn) = max (75 + 4 * dn) (2 * 148 + 2) from if_neg c1]; omega
    rw [e1]
    have e2 : own_gr 298 (75 + 4 * dn + 1) = 298 := if_pos (by omega)
    rw [e2]; omega
theorem own_get {A : List Value} {m i : Nat} {a b e d : Value} (hA : A.length = 75) : (A ++ List.replicate m a ++ [b] ++ [e]).getD (75 + m) d = b ∧ (A ++ List.replicate m a ++ [b] ++ [e]).getD (75 + m + 1) d = e ∧ (i < m → (A ++ List.replicate m a ++ [b] ++ [e]).getD (75 + i) d = a) := by
  simp only [List.getD_eq_getElem?_getD]
  refine ⟨?_, ?_, fun hi => ?_⟩
  · rw [List.getElem?_append_left (by simp; omega), List.getElem?_append_right (by simp; omega)]
    have : 75 + m - (A ++ List.replicate m a).length = 0 := by simp; omega
    rw [this]; rfl
  · rw [List.getElem?_append_right (by simp; omega)]
    have : 75 + m + 1 - (A ++ List.replicate m a ++ [b]).length = 0 := by simp; omega
    rw [this]; rfl
  · rw [List.getElem?_append_left (by simp; omega), List.getElem?_append_left (by simp; omega), List.getElem?_append_right (by omega), List.getElem?_replicate]
    simp [hA, hi]
theorem ef_max (m : MethodId) (x0 : Int32) (x1 : Int32) : entryFrame m #[(.int x0), (.int x1)] 2 = mkF m 0 #[.val (.int x0), .val (.int x1)] [] := by (first | (simp [entryFrame, mkF, argsToLocals, Value.category]; done) | rfl)
def Qmax (Z : State) (p1 : Int32) (p2 : Int32) (h0 : Heap) (n0 : Nat) (v : Option Value) (h : Heap) (L : List Loc) : Prop := v = some (.int (own_max p1 p2)) ∧ Fr n0 L ∧ h = h0
theorem d12_0 : decode jdk_29_method_65_code 0 = .ok (.iload_n 0, 1) := by decide +kernel
theorem d12_1 : decode jdk_29_method_65_code 1 = .ok (.iload_n 1, 1) := by decide +kernel
theorem d12_2 : decode jdk_29_method_65_code 2 = .ok (.if_icmp .lt 7, 3) := by decide +kernel
theorem d12_9 : decode jdk_29_method_65_code 9 = .ok (.iload_n 1, 1) := by decide +kernel
theorem d12_10 : decode jdk_29_method_65_code 10 = .ok (.ireturn, 1) := by decide +kernel
theorem d12_5 : decode jdk_29_method_65_code 5 = .ok (.iload_n 0, 1) := by decide +kernel
theorem d12_6 : decode jdk_29_method_65_code 6 = .ok (.goto 4, 3) := by decide +kernel
set_option maxRecDepth 65536 in
set_option maxHeartbeats 40000000 in
theorem rmmax (l : Launch) (Z : State) (a0 : Array Value) (hw : ∀ d ∈ tables_1, d.before a0 Z = true) (ws : List Jvm.Cond) (p1 : Int32) (p2 : Int32) (h0 : Heap) (n0 : Nat) (Z0 : n0 ≤ h0.size)  :
    MetFree l (⟨"java/lang/Math", "max", "(II)I"⟩ : MethodName) (head1 (Jvm.Cond.code (⟨"java/lang/Math", "max", "(II)I"⟩ : MethodName) jdk_29_method_65_code 2 (some .int) :: ws) ({ frames := 0, cells := 0, slots := 0, locals := 0 } : Room)) (fun a U => a = #[(.int p1), (.int p2)] ∧ Z.Warmed39 U.vm ∧ U.heap = h0) (fun _ _ _ _ _ => True) (fun _ U o U' => ∃ v L, o = .returned v ∧ Qmax Z p1 p2 h0 n0 v U'.heap L ∧ FrameEnd U o U' L ({ frames := 0, cells := 0, slots := 0, locals := 0 } : Room).cells ({ frames := 0, cells := 0, slots := 0, locals := 0 } : Room).slots) := by
  refine MetFree.of_bodySF (Jvm.Free.JP.mathPlain rfl (by decide +kernel)) hisR ?_
  intro p e s m args below meth c s₁ Bd hml0 hP hK
  obtain ⟨rfl, hZ, hh⟩ := hP
  have hx := Bd.exec
  have hby := Bd.bytes
  have hml : c.maxLocals = 2 := hml0
  have hown : s.vm.findClass "java/lang/Math" = some m.cls := findClass_of_methodNamed Bd.named
  have hnm := (name_of_methodNamed Bd.named Bd.method).1
  have X0 : Stand p l e ({ frames := 0, cells := 0, slots := 0, locals := 0 } : Room) s m #[(.int p1), (.int p2)] below meth c s₁ [] 0 0 := Stand.of_body Bd
  have e0 : s₁.heap = h0 := by rw [← hh, Bd.state]; rfl
  have N0 := Fr.nil n0
  have pre0 : ∀ t, Steps p.tables e below (s₁.setTop (mkF m 0 #[.val (.int p1), .val (.int p2)] [])) t → Steps p.tables e below (s₁.setTop (entryFrame m #[(.int p1), (.int p2)] 2)) t := fun t k => castTop (ef_max m p1 p2) k
  have pre1 : ∀ t, Steps p.tables e below (s₁.setTop (mkF m 2 #[.val (.int p1), .val (.int p2)] [(.int p2), (.int p1)])) t → Steps p.tables e below (s₁.setTop (mkF m 0 #[.val (.int p1), .val (.int p2)] [])) t := by
    intro t kt
    show Steps p.tables e below (s₁.setTop (mkF m 0 #[.val (.int p1), .val (.int p2)] [])) _
    refine XS.iloadN X0.here hx rfl (hb hby d12_0) rfl ?_
    show Steps p.tables e below (s₁.setTop (mkF m 1 #[.val (.int p1), .val (.int p2)] [(.int p1)])) _
    refine XS.iloadN X0.here hx rfl (hb hby d12_1) rfl ?_
    exact kt
  by_cases c2 : p1 < p2
  · skip
    have pre2 : ∀ t, Steps p.tables e below (s₁.setTop (mkF m 10 #[.val (.int p1), .val (.int p2)] [(.int p2)])) t → Steps p.tables e below (s₁.setTop (mkF m 2 #[.val (.int p1), .val (.int p2)] [(.int p2), (.int p1)])) t := by
      intro t kt
      show Steps p.tables e below (s₁.setTop (mkF m 2 #[.val (.int p1), .val (.int p2)] [(.int p2), (.int p1)])) _
      refine XS.icmpYes X0.here hx rfl (pc0 := 2) (pc' := 9) rfl (hb hby d12_2) rfl (tlt (c2 : p1 < p2)).1 (by decide) (by decide) ?_
      show Steps p.tables e below (s₁.setTop (mkF m 9 #[.val (.int p1), .val (.int p2)] [])) _
      refine XS.iloadN X0.here hx rfl (hb hby d12_9) rfl ?_
      exact kt
    obtain ⟨fs, hr, hrun, hended, hW, hsame⟩ := X0.leave (v := some (.int p2)) (fun h => by rw [Bd.returns] at h; cases h)
    refine ⟨_, _, (pre0 _ (pre1 _ (pre2 _ ?_))), hrun, hended, _, _, rfl, ?_, ⟨_, rfl⟩, hW, hsame.mono (by decide) (by decide)⟩
    · show Steps p.tables e below (s₁.setTop (mkF m 10 #[.val (.int p1), .val (.int p2)] [(.int p2)])) _
      exact retOut X0 hx (t := .int) Bd.returns rfl (Or.inl ⟨rfl, Or.inl rfl, _, rfl⟩) (hb hby d12_10) hr
    · show Qmax Z p1 p2 h0 n0 _ s₁.heap _
      rw [e0]
      exact ⟨by rw [show own_max p1 p2 = p2 from if_pos c2], N0, rfl⟩
  · skip
    have pre3 : ∀ t, Steps p.tables e below (s₁.setTop (mkF m 10 #[.val (.int p1), .val (.int p2)] [(.int p1)])) t → Steps p.tables e below (s₁.setTop (mkF m 2 #[.val (.int p1), .val (.int p2)] [(.int p2), (.int p1)])) t := by
      intro t kt
      show Steps p.tables e below (s₁.setTop (mkF m 2 #[.val (.int p1), .val (.int p2)] [(.int p2), (.int p1)])) _
      refine XS.icmpNo X0.here hx rfl (hb hby d12_2) rfl (flt (c2 : ¬ (p1 < p2))).1 ?_
      show Steps p.tables e below (s₁.setTop (mkF m 5 #[.val (.int p1), .val (.int p2)] [])) _
      refine XS.iloadN X0.here hx rfl (hb hby d12_5) rfl ?_
      show Steps p.tables e below (s₁.setTop (mkF m 6 #[.val (.int p1), .val (.int p2)] [(.int p1)])) _
      refine XS.goto X0.here hx rfl (pc0 := 6) (pc' := 10) rfl (hb hby d12_6) (by decide) (by decide) ?_
      exact kt
    obtain ⟨fs, hr, hrun, hended, hW, hsame⟩ := X0.leave (v := some (.int p1)) (fun h => by rw [Bd.returns] at h; cases h)
    refine ⟨_, _, (pre0 _ (pre1 _ (pre3 _ ?_))), hrun, hended, _, _, rfl, ?_, ⟨_, rfl⟩, hW, hsame.mono (by decide) (by decide)⟩
    · show Steps p.tables e below (s₁.setTop (mkF m 10 #[.val (.int p1), .val (.int p2)] [(.int p1)])) _
      exact retOut X0 hx (t := .int) Bd.returns rfl (Or.inl ⟨rfl, Or.inl rfl, _, rfl⟩) (hb hby d12_10) hr
    · show Qmax Z p1 p2 h0 n0 _ s₁.heap _
      rw [e0]
      exact ⟨by rw [show own_max p1 p2 = p1 from if_neg c2], N0, rfl⟩
theorem ef_min (m : MethodId) (x0 : Int32) (x1 : Int32) : entryFrame m #[(.int x0), (.int x1)] 2 = mkF m 0 #[.val (.int x0), .val (.int x1)] [] := by (first | (simp [entryFrame, mkF, argsToLocals, Value.category]; done) | rfl)
def Qmin (Z : State) (p1 : Int32) (p2 : Int32) (h0 : Heap) (n0 : Nat) (v : Option Value) (h : Heap) (L : List Loc) : Prop := v = some (.int (own_min p1 p2)) ∧ Fr n0 L ∧ h = h0
theorem d14_0 : decode jdk_29_method_69_code 0 = .ok (.iload_n 0, 1) := by decide +kernel
theorem d14_1 : decode jdk_29_method_69_code 1 = .ok (.iload_n 1, 1) := by decide +kernel
theorem d14_2 : decode jdk_29_method_69_code 2 = .ok (.if_icmp .gt 7, 3) := by decide +kernel
theorem d14_9 : decode jdk_29_method_69_code 9 = .ok (.iload_n 1, 1) := by decide +kernel
theorem d14_10 : decode jdk_29_method_69_code 10 = .ok (.ireturn, 1) := by decide +kernel
theorem d14_5 : decode jdk_29_method_69_code 5 = .ok (.iload_n 0, 1) := by decide +kernel
theorem d14_6 : decode jdk_29_method_69_code 6 = .ok (.goto 4, 3) := by decide +kernel
set_option maxRecDepth 65536 in
set_option maxHeartbeats 40000000 in
theorem rmmin (l : Launch) (Z : State) (a0 : Array Value) (hw : ∀ d ∈ tables_1, d.before a0 Z = true) (ws : List Jvm.Cond) (p1 : Int32) (p2 : Int32) (h0 : Heap) (n0 : Nat) (Z0 : n0 ≤ h0.size)  :
    MetFree l (⟨"java/lang/Math", "min", "(II)I"⟩ : MethodName) (head1 (Jvm.Cond.code (⟨"java/lang/Math", "min", "(II)I"⟩ : MethodName) jdk_29_method_69_code 2 (some .int) :: ws) ({ frames := 0, cells := 0, slots := 0, locals := 0 } : Room)) (fun a U => a = #[(.int p1), (.int p2)] ∧ Z.Warmed39 U.vm ∧ U.heap = h0) (fun _ _ _ _ _ => True) (fun _ U o U' => ∃ v L, o = .returned v ∧ Qmin Z p1 p2 h0 n0 v U'.heap L ∧ FrameEnd U o U' L ({ frames := 0, cells := 0, slots := 0, locals := 0 } : Room).cells ({ frames := 0, cells := 0, slots := 0, locals := 0 } : Room).slots) := by
  refine MetFree.of_bodySF (Jvm.Free.JP.mathPlain rfl (by decide +kernel)) hisR ?_
  intro p e s m args below meth c s₁ Bd hml0 hP hK
  obtain ⟨rfl, hZ, hh⟩ := hP
  have hx := Bd.exec
  have hby := Bd.bytes
  have hml : c.maxLocals = 2 := hml0
  have hown : s.vm.findClass "java/lang/Math" = some m.cls := findClass_of_methodNamed Bd.named
  have hnm := (name_of_methodNamed Bd.named Bd.method).1
  have X0 : Stand p l e ({ frames := 0, cells := 0, slots := 0, locals := 0 } : Room) s m #[(.int p1), (.int p2)] below meth c s₁ [] 0 0 := Stand.of_body Bd
  have e0 : s₁.heap = h0 := by rw [← hh, Bd.state]; rfl
  have N0 := Fr.nil n0
  have pre0 : ∀ t, Steps p.tables e below (s₁.setTop (mkF m 0 #[.val (.int p1), .val (.int p2)] [])) t → Steps p.tables e below (s₁.setTop (entryFrame m #[(.int p1), (.int p2)] 2)) t := fun t k => castTop (ef_min m p1 p2) k
  have pre4 : ∀ t, Steps p.tables e below (s₁.setTop (mkF m 2 #[.val (.int p1), .val (.int p2)] [(.int p2), (.int p1)])) t → Steps p.tables e below (s₁.setTop (mkF m 0 #[.val (.int p1), .val (.int p2)] [])) t := by
    intro t kt
    show Steps p.tables e below (s₁.setTop (mkF m 0 #[.val (.int p1), .val (.int p2)] [])) _
    refine XS.iloadN X0.here hx rfl (hb hby d14_0) rfl ?_
    show Steps p.tables e below (s₁.setTop (mkF m 1 #[.val (.int p1), .val (.int p2)] [(.int p1)])) _
    refine XS.iloadN X0.here hx rfl (hb hby d14_1) rfl ?_
    exact kt
  by_cases c2 : p2 < p1
  · skip
    have pre5 : ∀ t, Steps p.tables e below (s₁.setTop (mkF m 10 #[.val (.int p1), .val (.int p2)] [(.int p2)])) t → Steps p.tables e below (s₁.setTop (mkF m 2 #[.val (.int p1), .val (.int p2)] [(.int p2), (.int p1)])) t := by
      intro t kt
      show Steps p.tables e below (s₁.setTop (mkF m 2 #[.val (.int p1), .val (.int p2)] [(.int p2), (.int p1)])) _
      refine XS.icmpYes X0.here hx rfl (pc0 := 2) (pc' := 9) rfl (hb hby d14_2) rfl (tlt (c2 : p2 < p1)).2.2.1 (by decide) (by decide) ?_
      show Steps p.tables e below (s₁.setTop (mkF m 9 #[.val (.int p1), .val (.int p2)] [])) _
      refine XS.iloadN X0.here hx rfl (hb hby d14_9) rfl ?_
      exact kt
    obtain ⟨fs, hr, hrun, hended, hW, hsame⟩ := X0.leave (v := some (.int p2)) (fun h => by rw [Bd.returns] at h; cases h)
    refine ⟨_, _, (pre0 _ (pre4 _ (pre5 _ ?_))), hrun, hended, _, _, rfl, ?_, ⟨_, rfl⟩, hW, hsame.mono (by decide) (by decide)⟩
    · show Steps p.tables e below (s₁.setTop (mkF m 10 #[.val (.int p1), .val (.int p2)] [(.int p2)])) _
      exact retOut X0 hx (t := .int) Bd.returns rfl (Or.inl ⟨rfl, Or.inl rfl, _, rfl⟩) (hb hby d14_10) hr
    · show Qmin Z p1 p2 h0 n0 _ s₁.heap _
      rw [e0]
      exact ⟨by rw [show own_min p1 p2 = p2 from if_pos c2], N0, rfl⟩
  · skip
    have pre6 : ∀ t, Steps p.tables e below (s₁.setTop (mkF m 10 #[.val (.int p1), .val (.int p2)] [(.int p1)])) t → Steps p.tables e below (s₁.setTop (mkF m 2 #[.val (.int p1), .val (.int p2)] [(.int p2), (.int p1)])) t := by
      intro t kt
      show Steps p.tables e below (s₁.setTop (mkF m 2 #[.val (.int p1), .val (.int p2)] [(.int p2), (.int p1)])) _
      refine XS.icmpNo X0.here hx rfl (hb hby d14_2) rfl (flt (c2 : ¬ (p2 < p1))).2.2.1 ?_
      show Steps p.tables e below (s₁.setTop (mkF m 5 #[.val (.int p1), .val (.int p2)] [])) _
      refine XS.iloadN X0.here hx rfl (hb hby d14_5) rfl ?_
      show Steps p.tables e below (s₁.setTop (mkF m 6 #[.val (.int p1), .val (.int p2)] [(.int p1)])) _
      refine XS.goto X0.here hx rfl (pc0 := 6) (pc' := 10) rfl (hb hby d14_6) (by decide) (by decide) ?_
      exact kt
    obtain ⟨fs, hr, hrun, hended, hW, hsame⟩ := X0.leave (v := some (.int p1)) (fun h => by rw [Bd.returns] at h; cases h)
    refine ⟨_, _, (pre0 _ (pre4 _ (pre6 _ ?_))), hrun, hended, _, _, rfl, ?_, ⟨_, rfl⟩, hW, hsame.mono (by decide) (by decide)⟩
    · show Steps p.tables e below (s₁.setTop (mkF m 10 #[.val (.int p1), .val (.int p2)] [(.int p1)])) _
      exact retOut X0 hx (t := .int) Bd.returns rfl (Or.inl ⟨rfl, Or.inl rfl, _, rfl⟩) (hb hby d14_10) hr
    · show Qmin Z p1 p2 h0 n0 _ s₁.heap _
      rw [e0]
      exact ⟨by rw [show own_min p1 p2 = p1 from if_neg c2], N0, rfl⟩
theorem ef_NewL (m : MethodId) (x0 : Int32) (x1 : Int32) (x2 : Int32) : entryFrame m #[(.int x0), (.int x1), (.int x2)] 4 = mkF m 0 #[.val (.int x0), .val (.int x1), .val (.int x2), .unset] [] := by (first | (simp [entryFrame, mkF, argsToLocals, Value.category]; done) | rfl)
def QNewL (Z : State) (o1 : Int32) (g1 : Int32) (f1 : Int32) (h0 : Heap) (n0 : Nat) (v : Option Value) (h : Heap) (L : List Loc) : Prop := v = some (.int (o1 + own_max g1 f1)) ∧ Fr n0 L ∧ h = h0
theorem pn_jdk_internal_util_ArraysSupport : plainName "jdk/internal/util/ArraysSupport" = true := by first | (simp [plainName, overriddenIn]; done) | decide +kernel
theorem d11_0 : decode jdk_48_method_27_code 0 = .ok (.iload_n 0, 1) := by decide +kernel
theorem d11_1 : decode jdk_48_method_27_code 1 = .ok (.iload_n 1, 1) := by decide +kernel
theorem d11_2 : decode jdk_48_method_27_code 2 = .ok (.iload_n 2, 1) := by decide +kernel
theorem d11_3 : decode jdk_48_method_27_code 3 = .ok (.invokestatic 194, 3) := by decide +kernel
theorem pd__II_I : parseMethodDescriptor "(II)I" = some ⟨[.int, .int], some .int⟩ := by decide +kernel
theorem d11_6 : decode jdk_48_method_27_code 6 = .ok (.iadd, 1) := by decide +kernel
theorem d11_7 : decode jdk_48_method_27_code 7 = .ok (.istore_n 3, 1) := by decide +kernel
theorem d11_8 : decode jdk_48_method_27_code 8 = .ok (.iconst 0, 1) := by decide +kernel
theorem d11_9 : decode jdk_48_method_27_code 9 = .ok (.iload_n 3, 1) := by decide +kernel
theorem d11_10 : decode jdk_48_method_27_code 10 = .ok (.if_icmp .ge 11, 3) := by decide +kernel
theorem d11_13 : decode jdk_48_method_27_code 13 = .ok (.iload_n 3, 1) := by decide +kernel
theorem d11_14 : decode jdk_48_method_27_code 14 = .ok (.ldc 200, 2) := by decide +kernel
theorem d11_16 : decode jdk_48_method_27_code 16 = .ok (.if_icmp .gt 5, 3) := by decide +kernel
theorem d11_19 : decode jdk_48_method_27_code 19 = .ok (.iload_n 3, 1) := by decide +kernel
theorem d11_20 : decode jdk_48_method_27_code 20 = .ok (.ireturn, 1) := by decide +kernel
set_option maxRecDepth 65536 in
set_option maxHeartbeats 40000000 in
theorem rmNewL (l : Launch) (Z : State) (a0 : Array Value) (hw : ∀ d ∈ tables_1, d.before a0 Z = true) (ws : List Jvm.Cond) (o1 : Int32) (g1 : Int32) (f1 : Int32) (h0 : Heap) (n0 : Nat) (Z0 : n0 ≤ h0.size) (hpos : (0 : Int32) < (o1 + own_max g1 f1)) (hle : ¬ ((2147483639 : Int32) < (o1 + own_max g1 f1))) :
    MetFree l (⟨"jdk/internal/util/ArraysSupport", "newLength", "(III)I"⟩ : MethodName) (head1 (Jvm.Cond.code (⟨"jdk/internal/util/ArraysSupport", "newLength", "(III)I"⟩ : MethodName) jdk_48_method_27_code 4 (some .int) :: ws) ({ frames := 1, cells := 0, slots := 0, locals := 14 } : Room)) (fun a U => a = #[(.int o1), (.int g1), (.int f1)] ∧ Z.Warmed39 U.vm ∧ U.heap = h0) (fun _ _ _ _ _ => True) (fun _ U o U' => ∃ v L, o = .returned v ∧ QNewL Z o1 g1 f1 h0 n0 v U'.heap L ∧ FrameEnd U o U' L ({ frames := 1, cells := 0, slots := 0, locals := 14 } : Room).cells ({ frames := 1, cells := 0, slots := 0, locals := 14 } : Room).slots) := by
  refine MetFree.of_bodySF (plainFor_of_name pn_jdk_internal_util_ArraysSupport) hisR ?_
  intro p e s m args below meth c s₁ Bd hml0 hP hK
  obtain ⟨rfl, hZ, hh⟩ := hP
  have hx := Bd.exec
  have hby := Bd.bytes
  have hml : c.maxLocals = 4 := hml0
  have hown : s.vm.findClass "jdk/internal/util/ArraysSupport" = some m.cls := findClass_of_methodNamed Bd.named
  have hnm := (name_of_methodNamed Bd.named Bd.method).1
  have X0 : Stand p l e ({ frames := 1, cells := 0, slots := 0, locals := 14 } : Room) s m #[(.int o1), (.int g1), (.int f1)] below meth c s₁ [] 0 0 := Stand.of_body Bd
  have e0 : s₁.heap = h0 := by rw [← hh, Bd.state]; rfl
  have N0 := Fr.nil n0
  have pre0 : ∀ t, Steps p.tables e below (s₁.setTop (mkF m 0 #[.val (.int o1), .val (.int g1), .val (.int f1), .unset] [])) t → Steps p.tables e below (s₁.setTop (entryFrame m #[(.int o1), (.int g1), (.int f1)] 4)) t := fun t k => castTop (ef_NewL m o1 g1 f1) k
  obtain ⟨_, _, ⟨T7, L7, k7, n7⟩, -, X7, ⟨Lc7, hQ7, l7, y7, z7⟩, st7⟩ := Jvm.LawKit.callS X0 hx (y := (⟨"java/lang/Math", "max", "(II)I"⟩ : MethodName)) hown (mvT hZ (hw _ (List.mem_of_getElem? (i := 78) rfl))) (mvT hZ (hw _ (List.mem_of_getElem? (i := 79) rfl))) (mvT hZ (hw _ (List.mem_of_getElem? (i := 80) rfl))) (mvT hZ (hw _ (List.mem_of_getElem? (i := 81) rfl))) (by decide) (backOf (W := 1) (rmmax l Z a0 hw [] g1 f1 h0 n0 Z0) hZ (hw _ (List.mem_of_getElem? (i := 81) rfl)) (hw _ (List.mem_of_getElem? (i := 80) rfl)) (by decide) (by decide)) (g := (mkF m 3 #[.val (.int o1), .val (.int g1), .val (.int f1), .unset] [(.int f1), (.int g1), (.int o1)])) rfl (by rw [hml]; rfl) (argsL := [(.int g1), (.int f1)]) (rest := [(.int o1)]) (lenOf pd__II_I rfl) rfl (by show 2 * 0 + _ ≤ _; exact Nat.le_of_eq rfl) (hb hby d11_3) (fun _ _ => ⟨rfl, e0, (by decide : 0 + 0 ≤ _), (by decide : 0 + 0 ≤ _)⟩)
  dsimp only [Pt.U, Pt.locs, Pt.cells, Pt.slots] at X7 l7 y7 z7 st7 hQ7
  subst l7 y7 z7
  obtain ⟨rfl, N7q, EQ7⟩ := hQ7
  have N7 := Fr.app N0 N7q
  have Z7 : n0 ≤ T7.heap.size := by rw [EQ7]; exact Z0
  have K7 := own_keq EQ7 (Keep.refl h0 [])
  have pre8 : ∀ t, Steps p.tables e below (T7.setTop (mkF m 20 #[.val (.int o1), .val (.int g1), .val (.int f1), .val (.int (o1 + (own_max g1 f1)))] [(.int (o1 + (own_max g1 f1)))])) t → Steps p.tables e below (s₁.setTop (mkF m 0 #[.val (.int o1), .val (.int g1), .val (.int f1), .unset] [])) t := by
    intro t kt
    show Steps p.tables e below (s₁.setTop (mkF m 0 #[.val (.int o1), .val (.int g1), .val (.int f1), .unset] [])) _
    refine XS.iloadN X0.here hx rfl (hb hby d11_0) rfl ?_
    show Steps p.tables e below (s₁.setTop (mkF m 1 #[.val (.int o1), .val (.int g1), .val (.int f1), .unset] [(.int o1)])) _
    refine XS.iloadN X0.here hx rfl (hb hby d11_1) rfl ?_
    show Steps p.tables e below (s₁.setTop (mkF m 2 #[.val (.int o1), .val (.int g1), .val (.int f1), .unset] [(.int g1), (.int o1)])) _
    refine XS.iloadN X0.here hx rfl (hb hby d11_2) rfl ?_
    show Steps p.tables e below (s₁.setTop (mkF m 3 #[.val (.int o1), .val (.int g1), .val (.int f1), .unset] [(.int f1), (.int g1), (.int o1)])) _
    refine st7 _ ?_
    show Steps p.tables e below (T7.setTop (mkF m 6 #[.val (.int o1), .val (.int g1), .val (.int f1), .unset] [(.int (own_max g1 f1)), (.int o1)])) _
    refine XS.iadd X7.here hx rfl (hb hby d11_6) rfl ?_
    show Steps p.tables e below (T7.setTop (mkF m 7 #[.val (.int o1), .val (.int g1), .val (.int f1), .unset] [(.int (o1 + (own_max g1 f1)))])) _
    refine XS.istoreN X7.here hx rfl (hb hby d11_7) rfl (l' := #[.val (.int o1), .val (.int g1), .val (.int f1), .val (.int (o1 + (own_max g1 f1)))]) rfl ?_
    show Steps p.tables e below (T7.setTop (mkF m 8 #[.val (.int o1), .val (.int g1), .val (.int f1), .val (.int (o1 + (own_max g1 f1)))] [])) _
    refine XS.iconst X7.here hx rfl (hb hby d11_8) ?_
    show Steps p.tables e below (T7.setTop (mkF m 9 #[.val (.int o1), .val (.int g1), .val (.int f1), .val (.int (o1 + (own_max g1 f1)))] [(.int (0 : Int32))])) _
    refine XS.iloadN X7.here hx rfl (hb hby d11_9) rfl ?_
    show Steps p.tables e below (T7.setTop (mkF m 10 #[.val (.int o1), .val (.int g1), .val (.int f1), .val (.int (o1 + (own_max g1 f1)))] [(.int (o1 + (own_max g1 f1))), (.int (0 : Int32))])) _
    refine XS.icmpNo X7.here hx rfl (hb hby d11_10) rfl (tlt (hpos : (0 : Int32) < (o1 + (own_max g1 f1)))).2.1 ?_
    show Steps p.tables e below (T7.setTop (mkF m 13 #[.val (.int o1), .val (.int g1), .val (.int f1), .val (.int (o1 + (own_max g1 f1)))] [])) _
    refine XS.iloadN X7.here hx rfl (hb hby d11_13) rfl ?_
    show Steps p.tables e below (T7.setTop (mkF m 14 #[.val (.int o1), .val (.int g1), .val (.int f1), .val (.int (o1 + (own_max g1 f1)))] [(.int (o1 + (own_max g1 f1)))])) _
    refine X7.ldcInt hx hown (mvT hZ (hw _ (List.mem_of_getElem? (i := 82) rfl))) (g := (mkF m 14 #[.val (.int o1), .val (.int g1), .val (.int f1), .val (.int (o1 + (own_max g1 f1)))] [(.int (o1 + (own_max g1 f1)))])) rfl (hb hby d11_14) _ ?_
    show Steps p.tables e below (T7.setTop (mkF m 16 #[.val (.int o1), .val (.int g1), .val (.int f1), .val (.int (o1 + (own_max g1 f1)))] [(.int (2147483639 : Int32)), (.int (o1 + (own_max g1 f1)))])) _
    refine XS.icmpNo X7.here hx rfl (hb hby d11_16) rfl (flt (hle : ¬ ((2147483639 : Int32) < (o1 + (own_max g1 f1))))).2.2.1 ?_
    show Steps p.tables e below (T7.setTop (mkF m 19 #[.val (.int o1), .val (.int g1), .val (.int f1), .val (.int (o1 + (own_max g1 f1)))] [])) _
    refine XS.iloadN X7.here hx rfl (hb hby d11_19) rfl ?_
    exact kt
  obtain ⟨fs, hr, hrun, hended, hW, hsame⟩ := X7.leave (v := some (.int (o1 + (own_max g1 f1)))) (fun h => by rw [Bd.returns] at h; cases h)
  refine ⟨_, _, (pre0 _ (pre8 _ ?_)), hrun, hended, _, _, rfl, ?_, ⟨_, rfl⟩, hW, hsame.mono (by decide) (by decide)⟩
  · show Steps p.tables e below (T7.setTop (mkF m 20 #[.val (.int o1), .val (.int g1), .val (.int f1), .val (.int (o1 + (own_max g1 f1)))] [(.int (o1 + (own_max g1 f1)))])) _
    exact retOut X7 hx (t := .int) Bd.returns rfl (Or.inl ⟨rfl, Or.inl rfl, _, rfl⟩) (hb hby d11_20) hr
  · show QNewL Z o1 g1 f1 h0 n0 _ T7.heap _
    exact ⟨rfl, N7, by rw [EQ7]⟩
theorem own_ncap {cp nd : Nat} (h : cp < nd) (h1 : nd ≤ 1000) : Int32.ofNat cp + own_max (Int32.ofNat nd - Int32.ofNat cp) (Int32.ofNat cp + (2 : Int32)) = Int32.ofNat (max nd (2 * cp + 2)) := by
  rw [own_sub (by omega) (by omega), show Int32.ofNat cp + (2 : Int32) = Int32.ofNat (cp + 2) from own_add cp 2, own_maxn (by omega) (by omega), own_add]
  congr 1; omega
theorem ef_NewC (m : MethodId) (x0 : Addr) (x1 : Int32) : entryFrame m #[(.ref x0), (.int x1)] 6 = mkF m 0 #[.val (.ref x0), .val (.int x1), .unset, .unset, .unset, .unset] [] := by (first | (simp [entryFrame, mkF, argsToLocals, Value.category]; done) | rfl)
def QNewC (Z : State) (b1 : Addr) (v1 : Addr) (k1 : ClassId) (cp : Nat) (ct : Nat) (vs : List Value) (nd : Nat) (h0 : Heap) (n0 : Nat) (v : Option Value) (h : Heap) (L : List Loc) : Prop := v = some (.int (Int32.ofNat (max nd (2 * cp + 2)))) ∧ Fr n0 L ∧ h = h0
theorem pn_java_lang_AbstractStringBuilder : plainName "java/lang/AbstractStringBuilder" = true := by first | (simp [plainName, overriddenIn]; done) | decide +kernel
theorem d10_0 : decode jdk_68_method_10_code 0 = .ok (.aload_n 0, 1) := by decide +kernel
theorem d10_1 : decode jdk_68_method_10_code 1 = .ok (.getfield 15, 3) := by decide +kernel
theorem d10_4 : decode jdk_68_method_10_code 4 = .ok (.arraylength, 1) := by decide +kernel
theorem d10_5 : decode jdk_68_method_10_code 5 = .ok (.istore_n 2, 1) := by decide +kernel
theorem d10_6 : decode jdk_68_method_10_code 6 = .ok (.iload_n 1, 1) := by decide +kernel
theorem d10_7 : decode jdk_68_method_10_code 7 = .ok (.aload_n 0, 1) := by decide +kernel
theorem d10_8 : decode jdk_68_method_10_code 8 = .ok (.getfield 22, 3) := by decide +kernel
theorem d10_11 : decode jdk_68_method_10_code 11 = .ok (.ishl, 1) := by decide +kernel
theorem d10_12 : decode jdk_68_method_10_code 12 = .ok (.istore_n 3, 1) := by decide +kernel
theorem d10_13 : decode jdk_68_method_10_code 13 = .ok (.iload_n 3, 1) := by decide +kernel
theorem d10_14 : decode jdk_68_method_10_code 14 = .ok (.iload_n 2, 1) := by decide +kernel
theorem d10_15 : decode jdk_68_method_10_code 15 = .ok (.isub, 1) := by decide +kernel
theorem d10_16 : decode jdk_68_method_10_code 16 = .ok (.istore 4, 2) := by decide +kernel
theorem d10_18 : decode jdk_68_method_10_code 18 = .ok (.iload_n 2, 1) := by decide +kernel
theorem d10_19 : decode jdk_68_method_10_code 19 = .ok (.iload 4, 2) := by decide +kernel
theorem d10_21 : decode jdk_68_method_10_code 21 = .ok (.iload_n 2, 1) := by decide +kernel
theorem d10_22 : decode jdk_68_method_10_code 22 = .ok (.iconst 2, 1) := by decide +kernel
theorem d10_23 : decode jdk_68_method_10_code 23 = .ok (.aload_n 0, 1) := by decide +kernel
theorem d10_24 : decode jdk_68_method_10_code 24 = .ok (.getfield 22, 3) := by decide +kernel
theorem d10_27 : decode jdk_68_method_10_code 27 = .ok (.ishl, 1) := by decide +kernel
theorem d10_28 : decode jdk_68_method_10_code 28 = .ok (.iadd, 1) := by decide +kernel
theorem d10_29 : decode jdk_68_method_10_code 29 = .ok (.invokestatic 114, 3) := by decide +kernel
theorem pd__III_I : parseMethodDescriptor "(III)I" = some ⟨[.int, .int, .int], some .int⟩ := by decide +kernel
theorem d10_32 : decode jdk_68_method_10_code 32 = .ok (.istore 5, 2) := by decide +kernel
theorem d10_34 : decode jdk_68_method_10_code 34 = .ok (.iload 5, 2) := by decide +kernel
theorem d10_36 : decode jdk_68_method_10_code 36 = .ok (.ldc 39, 2) := by decide +kernel
theorem d10_38 : decode jdk_68_method_10_code 38 = .ok (.if_icmp .ne 13, 3) := by decide +kernel
theorem d10_51 : decode jdk_68_method_10_code 51 = .ok (.iload 5, 2) := by decide +kernel
theorem d10_53 : decode jdk_68_method_10_code 53 = .ok (.aload_n 0, 1) := by decide +kernel
theorem d10_54 : decode jdk_68_method_10_code 54 = .ok (.getfield 22, 3) := by decide +kernel
theorem d10_57 : decode jdk_68_method_10_code 57 = .ok (.ishr, 1) := by decide +kernel
theorem d10_58 : decode jdk_68_method_10_code 58 = .ok (.ireturn, 1) := by decide +kernel
set_option maxRecDepth 65536 in
set_option maxHeartbeats 40000000 in
theorem rmNewC (l : Launch) (Z : State) (a0 : Array Value) (hw : ∀ d ∈ tables_1, d.before a0 Z = true) (ws : List Jvm.Cond) (b1 : Addr) (v1 : Addr) (k1 : ClassId) (cp : Nat) (ct : Nat) (vs : List Value) (nd : Nat) (h0 : Heap) (n0 : Nat) (Z0 : n0 ≤ h0.size) (BE : Exa Z h0 b1 "java/lang/StringBuilder") (BV : Fld Z h0 b1 "java/lang/AbstractStringBuilder" "value" "[B" (.ref v1)) (BC : Fld Z h0 b1 "java/lang/AbstractStringBuilder" "coder" "B" (.int (0 : Int32))) (BN : Fld Z h0 b1 "java/lang/AbstractStringBuilder" "count" "I" (.int (Int32.ofNat ct))) (BA : Arv Z h0 v1 k1 .byte (Int32.ofNat cp) vs (.int (0 : Int32))) (BX : Exa Z h0 v1 "[B") (hvl : vs.length = cp) (hcp : cp ≤ 1000) (g_b1 : n0 ≤ b1) (g_v1 : n0 ≤ v1) (hnd : cp < nd) (hnM : nd ≤ 1000) :
    MetFree l (⟨"java/lang/AbstractStringBuilder", "newCapacity", "(I)I"⟩ : MethodName) (head1 (Jvm.Cond.code (⟨"java/lang/AbstractStringBuilder", "newCapacity", "(I)I"⟩ : MethodName) jdk_68_method_10_code 6 (some .int) :: ws) ({ frames := 2, cells := 0, slots := 0, locals := 40 } : Room)) (fun a U => a = #[(.ref b1), (.int (Int32.ofNat nd))] ∧ Z.Warmed39 U.vm ∧ U.heap = h0) (fun _ _ _ _ _ => True) (fun _ U o U' => ∃ v L, o = .returned v ∧ QNewC Z b1 v1 k1 cp ct vs nd h0 n0 v U'.heap L ∧ FrameEnd U o U' L ({ frames := 2, cells := 0, slots := 0, locals := 40 } : Room).cells ({ frames := 2, cells := 0, slots := 0, locals := 40 } : Room).slots) := by
  refine MetFree.of_bodySF (plainFor_of_name pn_java_lang_AbstractStringBuilder) hisR ?_
  intro p e s m args below meth c s₁ Bd hml0 hP hK
  obtain ⟨rfl, hZ, hh⟩ := hP
  have hx := Bd.exec
  have hby := Bd.bytes
  have hml : c.maxLocals = 6 := hml0
  have hown : s.vm.findClass "java/lang/AbstractStringBuilder" = some m.cls := findClass_of_methodNamed Bd.named
  have hnm := (name_of_methodNamed Bd.named Bd.method).1
  have X0 : Stand p l e ({ frames := 2, cells := 0, slots := 0, locals := 40 } : Room) s m #[(.ref b1), (.int (Int32.ofNat nd))] below meth c s₁ [] 0 0 := Stand.of_body Bd
  have e0 : s₁.heap = h0 := by rw [← hh, Bd.state]; rfl
  have N0 := Fr.nil n0
  have pre0 : ∀ t, Steps p.tables e below (s₁.setTop (mkF m 0 #[.val (.ref b1), .val (.int (Int32.ofNat nd)), .unset, .unset, .unset, .unset] [])) t → Steps p.tables e below (s₁.setTop (entryFrame m #[(.ref b1), (.int (Int32.ofNat nd))] 6)) t := fun t k => castTop (ef_NewC m b1 (Int32.ofNat nd)) k
  obtain ⟨T9, X9, e9, st9⟩ := getF X0 hx hZ hown (host := "") (Or.inl (hw _ (List.mem_of_getElem? (i := 32) rfl))) Via.refl e0 BV (g := (mkF m 1 #[.val (.ref b1), .val (.int (Int32.ofNat nd)), .unset, .unset, .unset, .unset] [(.ref b1)])) rfl rfl (hb hby d10_1)
  obtain ⟨c10, Ar10, -, S10, M10, -, -⟩ := id BA
  obtain ⟨T11, X11, e11, st11⟩ := getF X9 hx hZ hown (host := "") (Or.inl (hw _ (List.mem_of_getElem? (i := 34) rfl))) Via.refl e9 BC (g := (mkF m 8 #[.val (.ref b1), .val (.int (Int32.ofNat nd)), .val (.int (Int32.ofNat cp)), .unset, .unset, .unset] [(.ref b1), (.int (Int32.ofNat nd))])) rfl rfl (hb hby d10_8)
  obtain ⟨T12, X12, e12, st12⟩ := getF X11 hx hZ hown (host := "") (Or.inl (hw _ (List.mem_of_getElem? (i := 34) rfl))) Via.refl e11 BC (g := (mkF m 24 #[.val (.ref b1), .val (.int (Int32.ofNat nd)), .val (.int (Int32.ofNat cp)), .val (.int (Int32.ofNat nd)), .val (.int ((Int32.ofNat nd) - (Int32.ofNat cp))), .unset] [(.ref b1), (.int (2 : Int32)), (.int (Int32.ofNat cp)), (.int ((Int32.ofNat nd) - (Int32.ofNat cp))), (.int (Int32.ofNat cp))])) rfl rfl (hb hby d10_24)
  have ec := own_ncap hnd hnM
  have hmx : max nd (2 * cp + 2) < 2147483000 := by omega
  obtain ⟨_, _, ⟨T13, L13, k13, n13⟩, -, X13, ⟨Lc13, hQ13, l13, y13, z13⟩, st13⟩ := Jvm.LawKit.callS X12 hx (y := (⟨"jdk/internal/util/ArraysSupport", "newLength", "(III)I"⟩ : MethodName)) hown (mvT hZ (hw _ (List.mem_of_getElem? (i := 74) rfl))) (mvT hZ (hw _ (List.mem_of_getElem? (i := 75) rfl))) (mvT hZ (hw _ (List.mem_of_getElem? (i := 76) rfl))) (mvT hZ (hw _ (List.mem_of_getElem? (i := 77) rfl))) (by decide) (backOf (W := 0) (rmNewL l Z a0 hw [] (Int32.ofNat cp) (Int32.ofNat nd - Int32.ofNat cp) (Int32.ofNat cp + (2 : Int32)) h0 n0 Z0 (by rw [ec, Int32.lt_iff_toInt_lt, own_n (by omega), own_z]; omega) (by rw [ec, Int32.lt_iff_toInt_lt, own_n (by omega), own_39]; omega)) hZ (hw _ (List.mem_of_getElem? (i := 77) rfl)) (hw _ (List.mem_of_getElem? (i := 76) rfl)) (by decide) (by decide)) (g := (mkF m 29 #[.val (.ref b1), .val (.int (Int32.ofNat nd)), .val (.int (Int32.ofNat cp)), .val (.int (Int32.ofNat nd)), .val (.int ((Int32.ofNat nd) - (Int32.ofNat cp))), .unset] [(.int ((Int32.ofNat cp) + (2 : Int32))), (.int ((Int32.ofNat nd) - (Int32.ofNat cp))), (.int (Int32.ofNat cp))])) rfl (by rw [hml]; rfl) (argsL := [(.int (Int32.ofNat cp)), (.int ((Int32.ofNat nd) - (Int32.ofNat cp))), (.int ((Int32.ofNat cp) + (2 : Int32)))]) (rest := []) (lenOf pd__III_I rfl) rfl (by show 2 * 0 + _ ≤ _; exact Nat.le_of_eq rfl) (hb hby d10_29) (fun _ _ => ⟨rfl, e12, (by decide : 0 + 0 ≤ _), (by decide : 0 + 0 ≤ _)⟩)
  dsimp only [Pt.U, Pt.locs, Pt.cells, Pt.slots] at X13 l13 y13 z13 st13 hQ13
  subst l13 y13 z13
  obtain ⟨rfl, N13q, EQ13⟩ := hQ13
  have N13 := Fr.app N0 N13q
  have Z13 : n0 ≤ T13.heap.size := by rw [EQ13]; exact Z0
  have K13 := own_keq EQ13 (Keep.refl h0 [])
  have f14 := (EQ13 ▸ BC)
  obtain ⟨T15, X15, e15, st15⟩ := getF X13 hx hZ hown (host := "") (Or.inl (hw _ (List.mem_of_getElem? (i := 34) rfl))) Via.refl rfl f14 (g := (mkF m 54 #[.val (.ref b1), .val (.int (Int32.ofNat nd)), .val (.int (Int32.ofNat cp)), .val (.int (Int32.ofNat nd)), .val (.int ((Int32.ofNat nd) - (Int32.ofNat cp))), .val (.int (Int32.ofNat (max nd (2 * cp + 2))))] [(.ref b1), (.int (Int32.ofNat (max nd (2 * cp + 2))))])) rfl rfl (hb hby d10_54)
  have pre16 : ∀ t, Steps p.tables e below (T15.setTop (mkF m 58 #[.val (.ref b1), .val (.int (Int32.ofNat nd)), .val (.int (Int32.ofNat cp)), .val (.int (Int32.ofNat nd)), .val (.int ((Int32.ofNat nd) - (Int32.ofNat cp))), .val (.int (Int32.ofNat (max nd (2 * cp + 2))))] [(.int ((Int32.ofNat (max nd (2 * cp + 2))) >>> ((0 : Int32) &&& 31)))])) t → Steps p.tables e below (s₁.setTop (mkF m 0 #[.val (.ref b1), .val (.int (Int32.ofNat nd)), .unset, .unset, .unset, .unset] [])) t := by
    intro t kt
    show Steps p.tables e below (s₁.setTop (mkF m 0 #[.val (.ref b1), .val (.int (Int32.ofNat nd)), .unset, .unset, .unset, .unset] [])) _
    refine XS.aloadN X0.here hx rfl (hb hby d10_0) rfl rfl ?_
    show Steps p.tables e below (s₁.setTop (mkF m 1 #[.val (.ref b1), .val (.int (Int32.ofNat nd)), .unset, .unset, .unset, .unset] [(.ref b1)])) _
    refine st9 _ ?_
    show Steps p.tables e below (T9.setTop (mkF m 4 #[.val (.ref b1), .val (.int (Int32.ofNat nd)), .unset, .unset, .unset, .unset] [(.ref v1)])) _
    refine X9.arraylength hx (by rw [e9]; exact Ar10.1) (State.isArrayOf_alike hZ.alike Ar10.2.1) (g := (mkF m 4 #[.val (.ref b1), .val (.int (Int32.ofNat nd)), .unset, .unset, .unset, .unset] [(.ref v1)])) rfl rfl (hb hby d10_4) _ ?_
    rw [len_of S10 M10]
    show Steps p.tables e below (T9.setTop (mkF m 5 #[.val (.ref b1), .val (.int (Int32.ofNat nd)), .unset, .unset, .unset, .unset] [(.int (Int32.ofNat cp))])) _
    refine XS.istoreN X9.here hx rfl (hb hby d10_5) rfl (l' := #[.val (.ref b1), .val (.int (Int32.ofNat nd)), .val (.int (Int32.ofNat cp)), .unset, .unset, .unset]) rfl ?_
    show Steps p.tables e below (T9.setTop (mkF m 6 #[.val (.ref b1), .val (.int (Int32.ofNat nd)), .val (.int (Int32.ofNat cp)), .unset, .unset, .unset] [])) _
    refine XS.iloadN X9.here hx rfl (hb hby d10_6) rfl ?_
    show Steps p.tables e below (T9.setTop (mkF m 7 #[.val (.ref b1), .val (.int (Int32.ofNat nd)), .val (.int (Int32.ofNat cp)), .unset, .unset, .unset] [(.int (Int32.ofNat nd))])) _
    refine XS.aloadN X9.here hx rfl (hb hby d10_7) rfl rfl ?_
    show Steps p.tables e below (T9.setTop (mkF m 8 #[.val (.ref b1), .val (.int (Int32.ofNat nd)), .val (.int (Int32.ofNat cp)), .unset, .unset, .unset] [(.ref b1), (.int (Int32.ofNat nd))])) _
    refine st11 _ ?_
    show Steps p.tables e below (T11.setTop (mkF m 11 #[.val (.ref b1), .val (.int (Int32.ofNat nd)), .val (.int (Int32.ofNat cp)), .unset, .unset, .unset] [(.int (0 : Int32)), (.int (Int32.ofNat nd))])) _
    refine XS.ishl X11.here hx rfl (hb hby d10_11) rfl ?_
    show Steps p.tables e below (T11.setTop (mkF m 12 #[.val (.ref b1), .val (.int (Int32.ofNat nd)), .val (.int (Int32.ofNat cp)), .unset, .unset, .unset] [(.int ((Int32.ofNat nd) <<< ((0 : Int32) &&& 31)))])) _
    rw [own_shl0]
    show Steps p.tables e below (T11.setTop (mkF m 12 #[.val (.ref b1), .val (.int (Int32.ofNat nd)), .val (.int (Int32.ofNat cp)), .unset, .unset, .unset] [(.int (Int32.ofNat nd))])) _
    refine XS.istoreN X11.here hx rfl (hb hby d10_12) rfl (l' := #[.val (.ref b1), .val (.int (Int32.ofNat nd)), .val (.int (Int32.ofNat cp)), .val (.int (Int32.ofNat nd)), .unset, .unset]) rfl ?_
    show Steps p.tables e below (T11.setTop (mkF m 13 #[.val (.ref b1), .val (.int (Int32.ofNat nd)), .val (.int (Int32.ofNat cp)), .val (.int (Int32.ofNat nd)), .unset, .unset] [])) _
    refine XS.iloadN X11.here hx rfl (hb hby d10_13) rfl ?_
    show Steps p.tables e below (T11.setTop (mkF m 14 #[.val (.ref b1), .val (.int (Int32.ofNat nd)), .val (.int (Int32.ofNat cp)), .val (.int (Int32.ofNat nd)), .unset, .unset] [(.int (Int32.ofNat nd))])) _
    refine XS.iloadN X11.here hx rfl (hb hby d10_14) rfl ?_
    show Steps p.tables e below (T11.setTop (mkF m 15 #[.val (.ref b1), .val (.int (Int32.ofNat nd)), .val (.int (Int32.ofNat cp)), .val (.int (Int32.ofNat nd)), .unset, .unset] [(.int (Int32.ofNat cp)), (.int (Int32.ofNat nd))])) _
    refine XS.isub X11.here hx rfl (hb hby d10_15) rfl ?_
    show Steps p.tables e below (T11.setTop (mkF m 16 #[.val (.ref b1), .val (.int (Int32.ofNat nd)), .val (.int (Int32.ofNat cp)), .val (.int (Int32.ofNat nd)), .unset, .unset] [(.int ((Int32.ofNat nd) - (Int32.ofNat cp)))])) _
    refine XS.istore X11.here hx rfl (hb hby d10_16) rfl (l' := #[.val (.ref b1), .val (.int (Int32.ofNat nd)), .val (.int (Int32.ofNat cp)), .val (.int (Int32.ofNat nd)), .val (.int ((Int32.ofNat nd) - (Int32.ofNat cp))), .unset]) rfl ?_
    show Steps p.tables e below (T11.setTop (mkF m 18 #[.val (.ref b1), .val (.int (Int32.ofNat nd)), .val (.int (Int32.ofNat cp)), .val (.int (Int32.ofNat nd)), .val (.int ((Int32.ofNat nd) - (Int32.ofNat cp))), .unset] [])) _
    refine XS.iloadN X11.here hx rfl (hb hby d10_18) rfl ?_
    show Steps p.tables e below (T11.setTop (mkF m 19 #[.val (.ref b1), .val (.int (Int32.ofNat nd)), .val (.int (Int32.ofNat cp)), .val (.int (Int32.ofNat nd)), .val (.int ((Int32.ofNat nd) - (Int32.ofNat cp))), .unset] [(.int (Int32.ofNat cp))])) _
    refine XS.iload X11.here hx rfl (hb hby d10_19) rfl ?_
    show Steps p.tables e below (T11.setTop (mkF m 21 #[.val (.ref b1), .val (.int (Int32.ofNat nd)), .val (.int (Int32.ofNat cp)), .val (.int (Int32.ofNat nd)), .val (.int ((Int32.ofNat nd) - (Int32.ofNat cp))), .unset] [(.int ((Int32.ofNat nd) - (Int32.ofNat cp))), (.int (Int32.ofNat cp))])) _
    refine XS.iloadN X11.here hx rfl (hb hby d10_21) rfl ?_
    show Steps p.tables e below (T11.setTop (mkF m 22 #[.val (.ref b1), .val (.int (Int32.ofNat nd)), .val (.int (Int32.ofNat cp)), .val (.int (Int32.ofNat nd)), .val (.int ((Int32.ofNat nd) - (Int32.ofNat cp))), .unset] [(.int (Int32.ofNat cp)), (.int ((Int32.ofNat nd) - (Int32.ofNat cp))), (.int (Int32.ofNat cp))])) _
    refine XS.iconst X11.here hx rfl (hb hby d10_22) ?_
    show Steps p.tables e below (T11.setTop (mkF m 23 #[.val (.ref b1), .val (.int (Int32.ofNat nd)), .val (.int (Int32.ofNat cp)), .val (.int (Int32.ofNat nd)), .val (.int ((Int32.ofNat nd) - (Int32.ofNat cp))), .unset] [(.int (2 : Int32)), (.int (Int32.ofNat cp)), (.int ((Int32.ofNat nd) - (Int32.ofNat cp))), (.int (Int32.ofNat cp))])) _
    refine XS.aloadN X11.here hx rfl (hb hby d10_23) rfl rfl ?_
    show Steps p.tables e below (T11.setTop (mkF m 24 #[.val (.ref b1), .val (.int (Int32.ofNat nd)), .val (.int (Int32.ofNat cp)), .val (.int (Int32.ofNat nd)), .val (.int ((Int32.ofNat nd) - (Int32.ofNat cp))), .unset] [(.ref b1), (.int (2 : Int32)), (.int (Int32.ofNat cp)), (.int ((Int32.ofNat nd) - (Int32.ofNat cp))), (.int (Int32.ofNat cp))])) _
    refine st12 _ ?_
    show Steps p.tables e below (T12.setTop (mkF m 27 #[.val (.ref b1), .val (.int (Int32.ofNat nd)), .val (.int (Int32.ofNat cp)), .val (.int (Int32.ofNat nd)), .val (.int ((Int32.ofNat nd) - (Int32.ofNat cp))), .unset] [(.int (0 : Int32)), (.int (2 : Int32)), (.int (Int32.ofNat cp)), (.int ((Int32.ofNat nd) - (Int32.ofNat cp))), (.int (Int32.ofNat cp))])) _
    refine XS.ishl X12.here hx rfl (hb hby d10_27) rfl ?_
    show Steps p.tables e below (T12.setTop (mkF m 28 #[.val (.ref b1), .val (.int (Int32.ofNat nd)), .val (.int (Int32.ofNat cp)), .val (.int (Int32.ofNat nd)), .val (.int ((Int32.ofNat nd) - (Int32.ofNat cp))), .unset] [(.int ((2 : Int32) <<< ((0 : Int32) &&& 31))), (.int (Int32.ofNat cp)), (.int ((Int32.ofNat nd) - (Int32.ofNat cp))), (.int (Int32.ofNat cp))])) _
    rw [own_shl0]
    show Steps p.tables e below (T12.setTop (mkF m 28 #[.val (.ref b1), .val (.int (Int32.ofNat nd)), .val (.int (Int32.ofNat cp)), .val (.int (Int32.ofNat nd)), .val (.int ((Int32.ofNat nd) - (Int32.ofNat cp))), .unset] [(.int (2 : Int32)), (.int (Int32.ofNat cp)), (.int ((Int32.ofNat nd) - (Int32.ofNat cp))), (.int (Int32.ofNat cp))])) _
    refine XS.iadd X12.here hx rfl (hb hby d10_28) rfl ?_
    show Steps p.tables e below (T12.setTop (mkF m 29 #[.val (.ref b1), .val (.int (Int32.ofNat nd)), .val (.int (Int32.ofNat cp)), .val (.int (Int32.ofNat nd)), .val (.int ((Int32.ofNat nd) - (Int32.ofNat cp))), .unset] [(.int ((Int32.ofNat cp) + (2 : Int32))), (.int ((Int32.ofNat nd) - (Int32.ofNat cp))), (.int (Int32.ofNat cp))])) _
    refine st13 _ ?_
    show Steps p.tables e below (T13.setTop (mkF m 32 #[.val (.ref b1), .val (.int (Int32.ofNat nd)), .val (.int (Int32.ofNat cp)), .val (.int (Int32.ofNat nd)), .val (.int ((Int32.ofNat nd) - (Int32.ofNat cp))), .unset] [(.int (Int32.ofNat cp + own_max (Int32.ofNat nd - Int32.ofNat cp) (Int32.ofNat cp + (2 : Int32))))])) _
    rw [ec]
    show Steps p.tables e below (T13.setTop (mkF m 32 #[.val (.ref b1), .val (.int (Int32.ofNat nd)), .val (.int (Int32.ofNat cp)), .val (.int (Int32.ofNat nd)), .val (.int ((Int32.ofNat nd) - (Int32.ofNat cp))), .unset] [(.int (Int32.ofNat (max nd (2 * cp + 2))))])) _
    refine XS.istore X13.here hx rfl (hb hby d10_32) rfl (l' := #[.val (.ref b1), .val (.int (Int32.ofNat nd)), .val (.int (Int32.ofNat cp)), .val (.int (Int32.ofNat nd)), .val (.int ((Int32.ofNat nd) - (Int32.ofNat cp))), .val (.int (Int32.ofNat (max nd (2 * cp + 2))))]) rfl ?_
    show Steps p.tables e below (T13.setTop (mkF m 34 #[.val (.ref b1), .val (.int (Int32.ofNat nd)), .val (.int (Int32.ofNat cp)), .val (.int (Int32.ofNat nd)), .val (.int ((Int32.ofNat nd) - (Int32.ofNat cp))), .val (.int (Int32.ofNat (max nd (2 * cp + 2))))] [])) _
    refine XS.iload X13.here hx rfl (hb hby d10_34) rfl ?_
    show Steps p.tables e below (T13.setTop (mkF m 36 #[.val (.ref b1), .val (.int (Int32.ofNat nd)), .val (.int (Int32.ofNat cp)), .val (.int (Int32.ofNat nd)), .val (.int ((Int32.ofNat nd) - (Int32.ofNat cp))), .val (.int (Int32.ofNat (max nd (2 * cp + 2))))] [(.int (Int32.ofNat (max nd (2 * cp + 2))))])) _
    refine X13.ldcInt hx hown (mvT hZ (hw _ (List.mem_of_getElem? (i := 83) rfl))) (g := (mkF m 36 #[.val (.ref b1), .val (.int (Int32.ofNat nd)), .val (.int (Int32.ofNat cp)), .val (.int (Int32.ofNat nd)), .val (.int ((Int32.ofNat nd) - (Int32.ofNat cp))), .val (.int (Int32.ofNat (max nd (2 * cp + 2))))] [(.int (Int32.ofNat (max nd (2 * cp + 2))))])) rfl (hb hby d10_36) _ ?_
    show Steps p.tables e below (T13.setTop (mkF m 38 #[.val (.ref b1), .val (.int (Int32.ofNat nd)), .val (.int (Int32.ofNat cp)), .val (.int (Int32.ofNat nd)), .val (.int ((Int32.ofNat nd) - (Int32.ofNat cp))), .val (.int (Int32.ofNat (max nd (2 * cp + 2))))] [(.int (2147483647 : Int32)), (.int (Int32.ofNat (max nd (2 * cp + 2))))])) _
    refine XS.icmpYes X13.here hx rfl (pc0 := 38) (pc' := 51) rfl (hb hby d10_38) rfl (feq (fun q => by have h1 := congrArg Int32.toInt q; rw [own_n (by omega), own_47] at h1; omega : ¬ ((Int32.ofNat (max nd (2 * cp + 2))) = (2147483647 : Int32)))).2 (by decide) (by decide) ?_
    show Steps p.tables e below (T13.setTop (mkF m 51 #[.val (.ref b1), .val (.int (Int32.ofNat nd)), .val (.int (Int32.ofNat cp)), .val (.int (Int32.ofNat nd)), .val (.int ((Int32.ofNat nd) - (Int32.ofNat cp))), .val (.int (Int32.ofNat (max nd (2 * cp + 2))))] [])) _
    refine XS.iload X13.here hx rfl (hb hby d10_51) rfl ?_
    show Steps p.tables e below (T13.setTop (mkF m 53 #[.val (.ref b1), .val (.int (Int32.ofNat nd)), .val (.int (Int32.ofNat cp)), .val (.int (Int32.ofNat nd)), .val (.int ((Int32.ofNat nd) - (Int32.ofNat cp))), .val (.int (Int32.ofNat (max nd (2 * cp + 2))))] [(.int (Int32.ofNat (max nd (2 * cp + 2))))])) _
    refine XS.aloadN X13.here hx rfl (hb hby d10_53) rfl rfl ?_
    show Steps p.tables e below (T13.setTop (mkF m 54 #[.val (.ref b1), .val (.int (Int32.ofNat nd)), .val (.int (Int32.ofNat cp)), .val (.int (Int32.ofNat nd)), .val (.int ((Int32.ofNat nd) - (Int32.ofNat cp))), .val (.int (Int32.ofNat (max nd (2 * cp + 2))))] [(.ref b1), (.int (Int32.ofNat (max nd (2 * cp + 2))))])) _
    refine st15 _ ?_
    show Steps p.tables e below (T15.setTop (mkF m 57 #[.val (.ref b1), .val (.int (Int32.ofNat nd)), .val (.int (Int32.ofNat cp)), .val (.int (Int32.ofNat nd)), .val (.int ((Int32.ofNat nd) - (Int32.ofNat cp))), .val (.int (Int32.ofNat (max nd (2 * cp + 2))))] [(.int (0 : Int32)), (.int (Int32.ofNat (max nd (2 * cp + 2))))])) _
    refine XS.ishr X15.here hx rfl (hb hby d10_57) rfl ?_
    exact kt
  obtain ⟨fs, hr, hrun, hended, hW, hsame⟩ := X15.leave (v := some (.int ((Int32.ofNat (max nd (2 * cp + 2))) >>> ((0 : Int32) &&& 31)))) (fun h => by rw [Bd.returns] at h; cases h)
  refine ⟨_, _, (pre0 _ (pre16 _ ?_)), hrun, hended, _, _, rfl, ?_, ⟨_, rfl⟩, hW, hsame.mono (by decide) (by decide)⟩
  · show Steps p.tables e below (T15.setTop (mkF m 58 #[.val (.ref b1), .val (.int (Int32.ofNat nd)), .val (.int (Int32.ofNat cp)), .val (.int (Int32.ofNat nd)), .val (.int ((Int32.ofNat nd) - (Int32.ofNat cp))), .val (.int (Int32.ofNat (max nd (2 * cp + 2))))] [(.int ((Int32.ofNat (max nd (2 * cp + 2))) >>> ((0 : Int32) &&& 31)))])) _
    exact retOut X15 hx (t := .int) Bd.returns rfl (Or.inl ⟨rfl, Or.inl rfl, _, rfl⟩) (hb hby d10_58) hr
  · show QNewC Z b1 v1 k1 cp ct vs nd h0 n0 _ T15.heap _
    rw [e15]
    exact ⟨by rw [own_shr0], N13, by rw [EQ13]⟩
theorem ef_CpO (m : MethodId) (x0 : Addr) (x1 : Int32) : entryFrame m #[(.ref x0), (.int x1)] 3 = mkF m 0 #[.val (.ref x0), .val (.int x1), .unset] [] := by (first | (simp [entryFrame, mkF, argsToLocals, Value.category]; done) | rfl)
def QCpO (Z : State) (v1 : Addr) (k1 : ClassId) (cp : Nat) (vs : List Value) (md : Nat) (h0 : Heap) (n0 : Nat) (v : Option Value) (h : Heap) (L : List Loc) : Prop := ∃ x2, v = some (.ref x2) ∧ Fr n0 L ∧ Ext h0 h ∧ h0.size ≤ x2 ∧ ∃ k2, Arv Z h x2 k2 .byte (Int32.ofNat md) (vs ++ List.replicate (md - cp) (.int (0 : Int32))) (.int (0 : Int32)) ∧ Exa Z h x2 "[B"
theorem pn_java_util_Arrays : plainName "java/util/Arrays" = true := by first | (simp [plainName, overriddenIn]; done) | decide +kernel
theorem d13_0 : decode jdk_65_method_121_code 0 = .ok (.iload_n 1, 1) := by decide +kernel
theorem d13_1 : decode jdk_65_method_121_code 1 = .ok (.aload_n 0, 1) := by decide +kernel
theorem d13_2 : decode jdk_65_method_121_code 2 = .ok (.arraylength, 1) := by decide +kernel
theorem d13_3 : decode jdk_65_method_121_code 3 = .ok (.if_icmp .ne 11, 3) := by decide +kernel
theorem d13_14 : decode jdk_65_method_121_code 14 = .ok (.iload_n 1, 1) := by decide +kernel
theorem d13_15 : decode jdk_65_method_121_code 15 = .ok (.newarray .byte, 2) := by decide +kernel
theorem d13_17 : decode jdk_65_method_121_code 17 = .ok (.astore_n 2, 1) := by decide +kernel
theorem d13_18 : decode jdk_65_method_121_code 18 = .ok (.aload_n 0, 1) := by decide +kernel
theorem d13_19 : decode jdk_65_method_121_code 19 = .ok (.iconst 0, 1) := by decide +kernel
theorem d13_20 : decode jdk_65_method_121_code 20 = .ok (.aload_n 2, 1) := by decide +kernel
theorem d13_21 : decode jdk_65_method_121_code 21 = .ok (.iconst 0, 1) := by decide +kernel
theorem d13_22 : decode jdk_65_method_121_code 22 = .ok (.aload_n 0, 1) := by decide +kernel
theorem d13_23 : decode jdk_65_method_121_code 23 = .ok (.arraylength, 1) := by decide +kernel
theorem d13_24 : decode jdk_65_method_121_code 24 = .ok (.iload_n 1, 1) := by decide +kernel
theorem d13_25 : decode jdk_65_method_121_code 25 = .ok (.invokestatic 304, 3) := by decide +kernel
theorem d13_28 : decode jdk_65_method_121_code 28 = .ok (.invokestatic 150, 3) := by decide +kernel
theorem d13_31 : decode jdk_65_method_121_code 31 = .ok (.aload_n 2, 1) := by decide +kernel
theorem d13_32 : decode jdk_65_method_121_code 32 = .ok (.areturn, 1) := by decide +kernel
set_option maxRecDepth 65536 in
set_option maxHeartbeats 40000000 in
theorem rmCpO (l : Launch) (Z : State) (a0 : Array Value) (hw : ∀ d ∈ tables_1, d.before a0 Z = true) (ws : List Jvm.Cond) (v1 : Addr) (k1 : ClassId) (cp : Nat) (vs : List Value) (md : Nat) (h0 : Heap) (n0 : Nat) (Z0 : n0 ≤ h0.size) (BA : Arv Z h0 v1 k1 .byte (Int32.ofNat cp) vs (.int (0 : Int32))) (hvl : vs.length = cp) (hcp : cp ≤ 1000) (hlt : cp < md) (hmd : md ≤ 304) :
    MetFree l (⟨"java/util/Arrays", "copyOf", "([BI)[B"⟩ : MethodName) (head1 (Jvm.Cond.code (⟨"java/util/Arrays", "copyOf", "([BI)[B"⟩ : MethodName) jdk_65_method_121_code 3 (some (.array .byte)) :: ws) ({ frames := 1, cells := 1, slots := 304, locals := 40 } : Room)) (fun a U => a = #[(.ref v1), (.int (Int32.ofNat md))] ∧ Z.Warmed39 U.vm ∧ U.heap = h0) (fun _ _ _ _ _ => True) (fun _ U o U' => ∃ v L, o = .returned v ∧ QCpO Z v1 k1 cp vs md h0 n0 v U'.heap L ∧ FrameEnd U o U' L ({ frames := 1, cells := 1, slots := 304, locals := 40 } : Room).cells ({ frames := 1, cells := 1, slots := 304, locals := 40 } : Room).slots) := by
  refine MetFree.of_bodySF (plainFor_of_name pn_java_util_Arrays) hisR ?_
  intro p e s m args below meth c s₁ Bd hml0 hP hK
  obtain ⟨rfl, hZ, hh⟩ := hP
  have hx := Bd.exec
  have hby := Bd.bytes
  have hml : c.maxLocals = 3 := hml0
  have hown : s.vm.findClass "java/util/Arrays" = some m.cls := findClass_of_methodNamed Bd.named
  have hnm := (name_of_methodNamed Bd.named Bd.method).1
  have X0 : Stand p l e ({ frames := 1, cells := 1, slots := 304, locals := 40 } : Room) s m #[(.ref v1), (.int (Int32.ofNat md))] below meth c s₁ [] 0 0 := Stand.of_body Bd
  have e0 : s₁.heap = h0 := by rw [← hh, Bd.state]; rfl
  have N0 := Fr.nil n0
  have pre0 : ∀ t, Steps p.tables e below (s₁.setTop (mkF m 0 #[.val (.ref v1), .val (.int (Int32.ofNat md)), .unset] [])) t → Steps p.tables e below (s₁.setTop (entryFrame m #[(.ref v1), (.int (Int32.ofNat md))] 3)) t := fun t k => castTop (ef_CpO m v1 (Int32.ofNat md)) k
  obtain ⟨c17, Ar17, -, S17, M17, -, -⟩ := id BA
  obtain ⟨T18, h18, k18, X18, e18, E18, A18, B18, st18⟩ := newPE X0 hx hZ (hw _ (List.mem_of_getElem? (i := 7) rfl)) e0 (g := (mkF m 15 #[.val (.ref v1), .val (.int (Int32.ofNat md)), .unset] [(.int (Int32.ofNat md))])) rfl (hb hby d13_15) rfl (own_nn (by omega)) (cap := 304) (by rw [own_nc (by omega)]; exact hmd) (by decide) (by decide) (by decide) (ad := "[B") rfl
  obtain ⟨b18, g18⟩ : ∃ z, z = h0.size := ⟨_, rfl⟩
  rw [← g18] at A18 B18 st18
  have g_b18 : n0 ≤ b18 := Nat.le_trans Z0 (Nat.le_of_eq g18.symm)
  have sz_b18 : h0.size ≤ b18 := Nat.le_trans (Keep.refl h0 []).1 (Nat.le_of_eq g18.symm)
  have ne_v1_b18 : v1 ≠ b18 := Nat.ne_of_lt (Nat.lt_of_lt_of_le BA.lt (Nat.le_of_eq g18.symm))
  have Z18 := Nat.le_trans Z0 E18.1
  have K18 := (Keep.refl h0 []).ext E18
  have V18 := Arv.new A18 (own_nn (by omega))
  have VP : Arv Z h18 b18 k18 .byte (Int32.ofNat md) (List.replicate md (.int (0 : Int32))) (.int (0 : Int32)) := V18.pad (pad_rep [] (.int (0 : Int32)) md)
  have f19 := (BA.ext E18)
  obtain ⟨c20, Ar20, -, S20, M20, -, -⟩ := id f19
  obtain ⟨_, _, ⟨T21, L21, k21, n21⟩, -, X21, ⟨Lc21, hQ21, l21, y21, z21⟩, st21⟩ := Jvm.LawKit.callS X18 hx (y := (⟨"java/lang/Math", "min", "(II)I"⟩ : MethodName)) hown (mvT hZ (hw _ (List.mem_of_getElem? (i := 88) rfl))) (mvT hZ (hw _ (List.mem_of_getElem? (i := 89) rfl))) (mvT hZ (hw _ (List.mem_of_getElem? (i := 80) rfl))) (mvT hZ (hw _ (List.mem_of_getElem? (i := 90) rfl))) (by decide) (backOf (W := 4) (rmmin l Z a0 hw [] (Int32.ofNat cp) (Int32.ofNat md) h18 n0 Z18) hZ (hw _ (List.mem_of_getElem? (i := 90) rfl)) (hw _ (List.mem_of_getElem? (i := 80) rfl)) (by decide) (by decide)) (g := (mkF m 25 #[.val (.ref v1), .val (.int (Int32.ofNat md)), .val (.ref b18)] [(.int (Int32.ofNat md)), (.int (Int32.ofNat cp)), (.int (0 : Int32)), (.ref b18), (.int (0 : Int32)), (.ref v1)])) rfl (by rw [hml]; rfl) (argsL := [(.int (Int32.ofNat cp)), (.int (Int32.ofNat md))]) (rest := [(.int (0 : Int32)), (.ref b18), (.int (0 : Int32)), (.ref v1)]) (lenOf pd__II_I rfl) rfl (by show 2 * 0 + _ ≤ _; exact Nat.le_of_eq rfl) (hb hby d13_25) (fun _ _ => ⟨rfl, e18, (by decide : 1 + 0 ≤ _), (by decide : 304 + 0 ≤ _)⟩)
  dsimp only [Pt.U, Pt.locs, Pt.cells, Pt.slots] at X21 l21 y21 z21 st21 hQ21
  subst l21 y21 z21
  obtain ⟨rfl, N21q, EQ21⟩ := hQ21
  have N21 := Fr.app N0 N21q
  have Z21 : n0 ≤ T21.heap.size := by rw [EQ21]; exact Z18
  have K21 := own_keq EQ21 K18
  have em : own_min (Int32.ofNat cp) (Int32.ofNat md) = Int32.ofNat cp := by rw [own_minn (by omega) (by omega), Nat.min_eq_left (by omega)]
  have f22 := (EQ21 ▸ f19)
  have f23 := (EQ21 ▸ VP)
  obtain ⟨T24, h24, L24, X24, e24, N24, KC24, V24, st24⟩ := own_cp X21 hx hZ hown (hw _ (List.mem_of_getElem? (i := 91) rfl)) (hw _ (List.mem_of_getElem? (i := 94) rfl)) (hw _ (List.mem_of_getElem? (i := 92) rfl)) (hw _ (List.mem_of_getElem? (i := 93) rfl)) rfl (cp) (md) (0) (0) (cp) f22 f23 hvl (by simp) (by omega) (by omega) (by omega) (by omega) N21 g_b18 (g := (mkF m 28 #[.val (.ref v1), .val (.int (Int32.ofNat md)), .val (.ref b18)] [(.int (Int32.ofNat cp)), (.int (0 : Int32)), (.ref b18), (.int (0 : Int32)), (.ref v1)])) rfl (by rw [hml]; rfl) rfl (hb hby d13_28) (by decide) (W := 0) (by show 2 * 0 + _ ≤ _; exact Nat.le_of_eq rfl) (by decide)
  have Z24 := Nat.le_trans Z21 KC24.1
  have K24 := K21.trans KC24 (allS (Or.inr sz_b18) all0)
  have VV : Arv Z h24 b18 k18 .byte (Int32.ofNat md) (vs ++ List.replicate (md - cp) (.int (0 : Int32))) (.int (0 : Int32)) := by have q := V24; rw [own_all hvl] at q; simpa using q
  have f25 := ((EQ21 ▸ B18).keep KC24)
  have pre26 : ∀ t, Steps p.tables e below (T24.setTop (mkF m 32 #[.val (.ref v1), .val (.int (Int32.ofNat md)), .val (.ref b18)] [(.ref b18)])) t → Steps p.tables e below (s₁.setTop (mkF m 0 #[.val (.ref v1), .val (.int (Int32.ofNat md)), .unset] [])) t := by
    intro t kt
    show Steps p.tables e below (s₁.setTop (mkF m 0 #[.val (.ref v1), .val (.int (Int32.ofNat md)), .unset] [])) _
    refine XS.iloadN X0.here hx rfl (hb hby d13_0) rfl ?_
    show Steps p.tables e below (s₁.setTop (mkF m 1 #[.val (.ref v1), .val (.int (Int32.ofNat md)), .unset] [(.int (Int32.ofNat md))])) _
    refine XS.aloadN X0.here hx rfl (hb hby d13_1) rfl rfl ?_
    show Steps p.tables e below (s₁.setTop (mkF m 2 #[.val (.ref v1), .val (.int (Int32.ofNat md)), .unset] [(.ref v1), (.int (Int32.ofNat md))])) _
    refine X0.arraylength hx (by rw [e0]; exact Ar17.1) (State.isArrayOf_alike hZ.alike Ar17.2.1) (g := (mkF m 2 #[.val (.ref v1), .val (.int (Int32.ofNat md)), .unset] [(.ref v1), (.int (Int32.ofNat md))])) rfl rfl (hb hby d13_2) _ ?_
    rw [len_of S17 M17]
    show Steps p.tables e below (s₁.setTop (mkF m 3 #[.val (.ref v1), .val (.int (Int32.ofNat md)), .unset] [(.int (Int32.ofNat cp)), (.int (Int32.ofNat md))])) _
    refine XS.icmpYes X0.here hx rfl (pc0 := 3) (pc' := 14) rfl (hb hby d13_3) rfl (feq (fun q => by rw [own_eq (by omega) (by omega)] at q; omega : ¬ ((Int32.ofNat md) = (Int32.ofNat cp)))).2 (by decide) (by decide) ?_
    show Steps p.tables e below (s₁.setTop (mkF m 14 #[.val (.ref v1), .val (.int (Int32.ofNat md)), .unset] [])) _
    refine XS.iloadN X0.here hx rfl (hb hby d13_14) rfl ?_
    show Steps p.tables e below (s₁.setTop (mkF m 15 #[.val (.ref v1), .val (.int (Int32.ofNat md)), .unset] [(.int (Int32.ofNat md))])) _
    refine st18 _ ?_
    show Steps p.tables e below (T18.setTop (mkF m 17 #[.val (.ref v1), .val (.int (Int32.ofNat md)), .unset] [(.ref b18)])) _
    refine XS.astoreN X18.here hx rfl (hb hby d13_17) rfl rfl (l' := #[.val (.ref v1), .val (.int (Int32.ofNat md)), .val (.ref b18)]) rfl ?_
    show Steps p.tables e below (T18.setTop (mkF m 18 #[.val (.ref v1), .val (.int (Int32.ofNat md)), .val (.ref b18)] [])) _
    refine XS.aloadN X18.here hx rfl (hb hby d13_18) rfl rfl ?_
    show Steps p.tables e below (T18.setTop (mkF m 19 #[.val (.ref v1), .val (.int (Int32.ofNat md)), .val (.ref b18)] [(.ref v1)])) _
    refine XS.iconst X18.here hx rfl (hb hby d13_19) ?_
    show Steps p.tables e below (T18.setTop (mkF m 20 #[.val (.ref v1), .val (.int (Int32.ofNat md)), .val (.ref b18)] [(.int (0 : Int32)), (.ref v1)])) _
    refine XS.aloadN X18.here hx rfl (hb hby d13_20) rfl rfl ?_
    show Steps p.tables e below (T18.setTop (mkF m 21 #[.val (.ref v1), .val (.int (Int32.ofNat md)), .val (.ref b18)] [(.ref b18), (.int (0 : Int32)), (.ref v1)])) _
    refine XS.iconst X18.here hx rfl (hb hby d13_21) ?_
    show Steps p.tables e below (T18.setTop (mkF m 22 #[.val (.ref v1), .val (.int (Int32.ofNat md)), .val (.ref b18)] [(.int (0 : Int32)), (.ref b18), (.int (0 : Int32)), (.ref v1)])) _
    refine XS.aloadN X18.here hx rfl (hb hby d13_22) rfl rfl ?_
    show Steps p.tables e below (T18.setTop (mkF m 23 #[.val (.ref v1), .val (.int (Int32.ofNat md)), .val (.ref b18)] [(.ref v1), (.int (0 : Int32)), (.ref b18), (.int (0 : Int32)), (.ref v1)])) _
    refine X18.arraylength hx (by rw [e18]; exact Ar20.1) (State.isArrayOf_alike hZ.alike Ar20.2.1) (g := (mkF m 23 #[.val (.ref v1), .val (.int (Int32.ofNat md)), .val (.ref b18)] [(.ref v1), (.int (0 : Int32)), (.ref b18), (.int (0 : Int32)), (.ref v1)])) rfl rfl (hb hby d13_23) _ ?_
    rw [len_of S20 M20]
    show Steps p.tables e below (T18.setTop (mkF m 24 #[.val (.ref v1), .val (.int (Int32.ofNat md)), .val (.ref b18)] [(.int (Int32.ofNat cp)), (.int (0 : Int32)), (.ref b18), (.int (0 : Int32)), (.ref v1)])) _
    refine XS.iloadN X18.here hx rfl (hb hby d13_24) rfl ?_
    show Steps p.tables e below (T18.setTop (mkF m 25 #[.val (.ref v1), .val (.int (Int32.ofNat md)), .val (.ref b18)] [(.int (Int32.ofNat md)), (.int (Int32.ofNat cp)), (.int (0 : Int32)), (.ref b18), (.int (0 : Int32)), (.ref v1)])) _
    refine st21 _ ?_
    show Steps p.tables e below (T21.setTop (mkF m 28 #[.val (.ref v1), .val (.int (Int32.ofNat md)), .val (.ref b18)] [(.int (own_min (Int32.ofNat cp) (Int32.ofNat md))), (.int (0 : Int32)), (.ref b18), (.int (0 : Int32)), (.ref v1)])) _
    rw [em]
    show Steps p.tables e below (T21.setTop (mkF m 28 #[.val (.ref v1), .val (.int (Int32.ofNat md)), .val (.ref b18)] [(.int (Int32.ofNat cp)), (.int (0 : Int32)), (.ref b18), (.int (0 : Int32)), (.ref v1)])) _
    refine st24 _ ?_
    show Steps p.tables e below (T24.setTop (mkF m 31 #[.val (.ref v1), .val (.int (Int32.ofNat md)), .val (.ref b18)] [])) _
    refine XS.aloadN X24.here hx rfl (hb hby d13_31) rfl rfl ?_
    exact kt
  obtain ⟨fs, hr, hrun, hended, hW, hsame⟩ := X24.leave (v := some (.ref b18)) (fun h => by rw [Bd.returns] at h; cases h)
  refine ⟨_, _, (pre0 _ (pre26 _ ?_)), hrun, hended, _, _, rfl, ?_, ⟨_, rfl⟩, hW, hsame.mono (by decide) (by decide)⟩
  · show Steps p.tables e below (T24.setTop (mkF m 32 #[.val (.ref v1), .val (.int (Int32.ofNat md)), .val (.ref b18)] [(.ref b18)])) _
    exact retOut X24 hx (t := (.array .byte)) Bd.returns rfl (Or.inr (Or.inr (Or.inr (Or.inr ⟨rfl, rfl, rfl⟩)))) (hb hby d13_32) hr
  · show QCpO Z v1 k1 cp vs md h0 n0 _ T24.heap _
    rw [e24]
    exact ⟨b18, rfl, N24, own_ext K24, sz_b18, k18, VV, f25⟩
theorem ef_Ens (m : MethodId) (x0 : Addr) (x1 : Int32) : entryFrame m #[(.ref x0), (.int x1)] 3 = mkF m 0 #[.val (.ref x0), .val (.int x1), .unset] [] := by (first | (simp [entryFrame, mkF, argsToLocals, Value.category]; done) | rfl)
def QEns (Z : State) (b1 : Addr) (v1 : Addr) (k1 : ClassId) (cp : Nat) (ct : Nat) (vs : List Value) (nd : Nat) (h0 : Heap) (n0 : Nat) (v : Option Value) (h : Heap) (L : List Loc) : Prop := v = none ∧ Fr n0 L ∧ Keep h0 h [b1] ∧ ∃ (v2 : Addr) (k2 : ClassId) (ws2 : List Value), (Exa Z h b1 "java/lang/StringBuilder" ∧ Fld Z h b1 "java/lang/AbstractStringBuilder" "value" "[B" (.ref v2) ∧ Fld Z h b1 "java/lang/AbstractStringBuilder" "coder" "B" (.int (0 : Int32)) ∧ Fld Z h b1 "java/lang/AbstractStringBuilder" "count" "I" (.int (Int32.ofNat ct)) ∧ Arv Z h v2 k2 .byte (Int32.ofNat (own_gr cp nd)) ws2 (.int (0 : Int32)) ∧ Exa Z h v2 "[B") ∧ ws2.length = own_gr cp nd ∧ ws2.take cp = vs ∧ n0 ≤ v2 ∧ (v2 = v1 ∨ h0.size ≤ v2)
theorem d9_0 : decode jdk_68_method_9_code 0 = .ok (.aload_n 0, 1) := by decide +kernel
theorem d9_1 : decode jdk_68_method_9_code 1 = .ok (.getfield 15, 3) := by decide +kernel
theorem d9_4 : decode jdk_68_method_9_code 4 = .ok (.arraylength, 1) := by decide +kernel
theorem d9_5 : decode jdk_68_method_9_code 5 = .ok (.aload_n 0, 1) := by decide +kernel
theorem d9_6 : decode jdk_68_method_9_code 6 = .ok (.getfield 22, 3) := by decide +kernel
theorem d9_9 : decode jdk_68_method_9_code 9 = .ok (.ishr, 1) := by decide +kernel
theorem d9_10 : decode jdk_68_method_9_code 10 = .ok (.istore_n 2, 1) := by decide +kernel
theorem d9_11 : decode jdk_68_method_9_code 11 = .ok (.iload_n 1, 1) := by decide +kernel
theorem d9_12 : decode jdk_68_method_9_code 12 = .ok (.iload_n 2, 1) := by decide +kernel
theorem d9_13 : decode jdk_68_method_9_code 13 = .ok (.isub, 1) := by decide +kernel
theorem d9_14 : decode jdk_68_method_9_code 14 = .ok (.ifCond .le 24, 3) := by decide +kernel
theorem d9_38 : decode jdk_68_method_9_code 38 = .ok (.return_, 1) := by decide +kernel
theorem d9_17 : decode jdk_68_method_9_code 17 = .ok (.aload_n 0, 1) := by decide +kernel
theorem d9_18 : decode jdk_68_method_9_code 18 = .ok (.aload_n 0, 1) := by decide +kernel
theorem d9_19 : decode jdk_68_method_9_code 19 = .ok (.getfield 15, 3) := by decide +kernel
theorem d9_22 : decode jdk_68_method_9_code 22 = .ok (.aload_n 0, 1) := by decide +kernel
theorem d9_23 : decode jdk_68_method_9_code 23 = .ok (.iload_n 1, 1) := by decide +kernel
theorem d9_24 : decode jdk_68_method_9_code 24 = .ok (.invokevirtual 104, 3) := by decide +kernel
theorem pd__I_I : parseMethodDescriptor "(I)I" = some ⟨[.int], some .int⟩ := by decide +kernel
theorem d9_27 : decode jdk_68_method_9_code 27 = .ok (.aload_n 0, 1) := by decide +kernel
theorem d9_28 : decode jdk_68_method_9_code 28 = .ok (.getfield 22, 3) := by decide +kernel
theorem d9_31 : decode jdk_68_method_9_code 31 = .ok (.ishl, 1) := by decide +kernel
theorem d9_32 : decode jdk_68_method_9_code 32 = .ok (.invokestatic 108, 3) := by decide +kernel
theorem pd___BI__B : parseMethodDescriptor "([BI)[B" = some ⟨[(.array .byte), .int], some (.array .byte)⟩ := by decide +kernel
theorem d9_35 : decode jdk_68_method_9_code 35 = .ok (.putfield 15, 3) := by decide +kernel
set_option maxRecDepth 65536 in
set_option maxHeartbeats 40000000 in
theorem rmEns (l : Launch) (Z : State) (a0 : Array Value) (hw : ∀ d ∈ tables_1, d.before a0 Z = true) (ws : List Jvm.Cond) (b1 : Addr) (v1 : Addr) (k1 : ClassId) (cp : Nat) (ct : Nat) (vs : List Value) (nd : Nat) (h0 : Heap) (n0 : Nat) (Z0 : n0 ≤ h0.size) (BE : Exa Z h0 b1 "java/lang/StringBuilder") (BV : Fld Z h0 b1 "java/lang/AbstractStringBuilder" "value" "[B" (.ref v1)) (BC : Fld Z h0 b1 "java/lang/AbstractStringBuilder" "coder" "B" (.int (0 : Int32))) (BN : Fld Z h0 b1 "java/lang/AbstractStringBuilder" "count" "I" (.int (Int32.ofNat ct))) (BA : Arv Z h0 v1 k1 .byte (Int32.ofNat cp) vs (.int (0 : Int32))) (BX : Exa Z h0 v1 "[B") (hvl : vs.length = cp) (hcp : cp ≤ 1000) (g_b1 : n0 ≤ b1) (g_v1 : n0 ≤ v1) (hnM : nd ≤ 1000) (hgM : nd ≤ cp ∨ max nd (2 * cp + 2) ≤ 304) :
    MetFree l (⟨"java/lang/AbstractStringBuilder", "ensureCapacityInternal", "(I)V"⟩ : MethodName) (head1 (Jvm.Cond.code (⟨"java/lang/AbstractStringBuilder", "ensureCapacityInternal", "(I)V"⟩ : MethodName) jdk_68_method_9_code 3 none :: ws) ({ frames := 3, cells := 1, slots := 304, locals := 80 } : Room)) (fun a U => a = #[(.ref b1), (.int (Int32.ofNat nd))] ∧ Z.Warmed39 U.vm ∧ U.heap = h0) (fun _ _ _ _ _ => True) (fun _ U o U' => ∃ v L, o = .returned v ∧ QEns Z b1 v1 k1 cp ct vs nd h0 n0 v U'.heap L ∧ FrameEnd U o U' L ({ frames := 3, cells := 1, slots := 304, locals := 80 } : Room).cells ({ frames := 3, cells := 1, slots := 304, locals := 80 } : Room).slots) := by
  refine MetFree.of_bodySF (plainFor_of_name pn_java_lang_AbstractStringBuilder) hisR ?_
  intro p e s m args below meth c s₁ Bd hml0 hP hK
  obtain ⟨rfl, hZ, hh⟩ := hP
  have hx := Bd.exec
  have hby := Bd.bytes
  have hml : c.maxLocals = 3 := hml0
  have hown : s.vm.findClass "java/lang/AbstractStringBuilder" = some m.cls := findClass_of_methodNamed Bd.named
  have hnm := (name_of_methodNamed Bd.named Bd.method).1
  have X0 : Stand p l e ({ frames := 3, cells := 1, slots := 304, locals := 80 } : Room) s m #[(.ref b1), (.int (Int32.ofNat nd))] below meth c s₁ [] 0 0 := Stand.of_body Bd
  have e0 : s₁.heap = h0 := by rw [← hh, Bd.state]; rfl
  have N0 := Fr.nil n0
  have pre0 : ∀ t, Steps p.tables e below (s₁.setTop (mkF m 0 #[.val (.ref b1), .val (.int (Int32.ofNat nd)), .unset] [])) t → Steps p.tables e below (s₁.setTop (entryFrame m #[(.ref b1), (.int (Int32.ofNat nd))] 3)) t := fun t k => castTop (ef_Ens m b1 (Int32.ofNat nd)) k
  have ne_b1_v1 : b1 ≠ v1 := BE.neArv BA (hw _ (List.mem_of_getElem? (i := 19) rfl))
  have mem_b1 : b1 ∈ [b1] := List.mem_of_getElem? (i := 0) rfl
  obtain ⟨T27, X27, e27, st27⟩ := getF X0 hx hZ hown (host := "") (Or.inl (hw _ (List.mem_of_getElem? (i := 32) rfl))) Via.refl e0 BV (g := (mkF m 1 #[.val (.ref b1), .val (.int (Int32.ofNat nd)), .unset] [(.ref b1)])) rfl rfl (hb hby d9_1)
  obtain ⟨c28, Ar28, -, S28, M28, -, -⟩ := id BA
  obtain ⟨T29, X29, e29, st29⟩ := getF X27 hx hZ hown (host := "") (Or.inl (hw _ (List.mem_of_getElem? (i := 34) rfl))) Via.refl e27 BC (g := (mkF m 6 #[.val (.ref b1), .val (.int (Int32.ofNat nd)), .unset] [(.ref b1), (.int (Int32.ofNat cp))])) rfl rfl (hb hby d9_6)
  have pre30 : ∀ t, Steps p.tables e below (T29.setTop (mkF m 14 #[.val (.ref b1), .val (.int (Int32.ofNat nd)), .val (.int (Int32.ofNat cp))] [(.int ((Int32.ofNat nd) - (Int32.ofNat cp)))])) t → Steps p.tables e below (s₁.setTop (mkF m 0 #[.val (.ref b1), .val (.int (Int32.ofNat nd)), .unset] [])) t := by
    intro t kt
    show Steps p.tables e below (s₁.setTop (mkF m 0 #[.val (.ref b1), .val (.int (Int32.ofNat nd)), .unset] [])) _
    refine XS.aloadN X0.here hx rfl (hb hby d9_0) rfl rfl ?_
    show Steps p.tables e below (s₁.setTop (mkF m 1 #[.val (.ref b1), .val (.int (Int32.ofNat nd)), .unset] [(.ref b1)])) _
    refine st27 _ ?_
    show Steps p.tables e below (T27.setTop (mkF m 4 #[.val (.ref b1), .val (.int (Int32.ofNat nd)), .unset] [(.ref v1)])) _
    refine X27.arraylength hx (by rw [e27]; exact Ar28.1) (State.isArrayOf_alike hZ.alike Ar28.2.1) (g := (mkF m 4 #[.val (.ref b1), .val (.int (Int32.ofNat nd)), .unset] [(.ref v1)])) rfl rfl (hb hby d9_4) _ ?_
    rw [len_of S28 M28]
    show Steps p.tables e below (T27.setTop (mkF m 5 #[.val (.ref b1), .val (.int (Int32.ofNat nd)), .unset] [(.int (Int32.ofNat cp))])) _
    refine XS.aloadN X27.here hx rfl (hb hby d9_5) rfl rfl ?_
    show Steps p.tables e below (T27.setTop (mkF m 6 #[.val (.ref b1), .val (.int (Int32.ofNat nd)), .unset] [(.ref b1), (.int (Int32.ofNat cp))])) _
    refine st29 _ ?_
    show Steps p.tables e below (T29.setTop (mkF m 9 #[.val (.ref b1), .val (.int (Int32.ofNat nd)), .unset] [(.int (0 : Int32)), (.int (Int32.ofNat cp))])) _
    refine XS.ishr X29.here hx rfl (hb hby d9_9) rfl ?_
    show Steps p.tables e below (T29.setTop (mkF m 10 #[.val (.ref b1), .val (.int (Int32.ofNat nd)), .unset] [(.int ((Int32.ofNat cp) >>> ((0 : Int32) &&& 31)))])) _
    rw [own_shr0]
    show Steps p.tables e below (T29.setTop (mkF m 10 #[.val (.ref b1), .val (.int (Int32.ofNat nd)), .unset] [(.int (Int32.ofNat cp))])) _
    refine XS.istoreN X29.here hx rfl (hb hby d9_10) rfl (l' := #[.val (.ref b1), .val (.int (Int32.ofNat nd)), .val (.int (Int32.ofNat cp))]) rfl ?_
    show Steps p.tables e below (T29.setTop (mkF m 11 #[.val (.ref b1), .val (.int (Int32.ofNat nd)), .val (.int (Int32.ofNat cp))] [])) _
    refine XS.iloadN X29.here hx rfl (hb hby d9_11) rfl ?_
    show Steps p.tables e below (T29.setTop (mkF m 12 #[.val (.ref b1), .val (.int (Int32.ofNat nd)), .val (.int (Int32.ofNat cp))] [(.int (Int32.ofNat nd))])) _
    refine XS.iloadN X29.here hx rfl (hb hby d9_12) rfl ?_
    show Steps p.tables e below (T29.setTop (mkF m 13 #[.val (.ref b1), .val (.int (Int32.ofNat nd)), .val (.int (Int32.ofNat cp))] [(.int (Int32.ofNat cp)), (.int (Int32.ofNat nd))])) _
    refine XS.isub X29.here hx rfl (hb hby d9_13) rfl ?_
    exact kt
  by_cases cg : nd ≤ cp
  · skip
    have eg : own_gr cp nd = cp := if_pos cg
    have pre31 : ∀ t, Steps p.tables e below (T29.setTop (mkF m 38 #[.val (.ref b1), .val (.int (Int32.ofNat nd)), .val (.int (Int32.ofNat cp))] [])) t → Steps p.tables e below (T29.setTop (mkF m 14 #[.val (.ref b1), .val (.int (Int32.ofNat nd)), .val (.int (Int32.ofNat cp))] [(.int ((Int32.ofNat nd) - (Int32.ofNat cp)))])) t := by
      intro t kt
      show Steps p.tables e below (T29.setTop (mkF m 14 #[.val (.ref b1), .val (.int (Int32.ofNat nd)), .val (.int (Int32.ofNat cp))] [(.int ((Int32.ofNat nd) - (Int32.ofNat cp)))])) _
      refine XS.ifYes X29.here hx rfl (pc0 := 14) (pc' := 38) rfl (hb hby d9_14) rfl ((if0 _ _).trans (flt (by have q := c_isub (Int32.ofNat nd) (Int32.ofNat cp); have r := rng32 (Int32.ofNat nd - Int32.ofNat cp); rw [own_n (by omega), own_n (by omega)] at q; rw [Int32.lt_iff_toInt_lt, own_z]; omega : ¬ ((0 : Int32) < ((Int32.ofNat nd) - (Int32.ofNat cp))))).2.2.2) (by decide) (by decide) ?_
      exact kt
    obtain ⟨fs, hr, hrun, hended, hW, hsame⟩ := X29.leave (v := none) (fun _ => rfl)
    refine ⟨_, _, (pre0 _ (pre30 _ (pre31 _ ?_))), hrun, hended, _, _, rfl, ?_, ⟨_, rfl⟩, hW, hsame.mono (by decide) (by decide)⟩
    · show Steps p.tables e below (T29.setTop (mkF m 38 #[.val (.ref b1), .val (.int (Int32.ofNat nd)), .val (.int (Int32.ofNat cp))] [])) _
      exact X29.returnOut hx Bd.returns (hb hby d9_38) hr
    · show QEns Z b1 v1 k1 cp ct vs nd h0 n0 _ T29.heap _
      rw [e29]
      exact ⟨rfl, N0, (Keep.refl h0 [b1]), v1, k1, vs, ⟨BE, BV, BC, BN, by rw [eg]; exact BA, BX⟩, by rw [eg]; exact hvl, by rw [← hvl]; exact List.take_length, g_v1, Or.inl rfl⟩
  · skip
    obtain ⟨T32, X32, e32, st32⟩ := getF X29 hx hZ hown (host := "") (Or.inl (hw _ (List.mem_of_getElem? (i := 32) rfl))) Via.refl e29 BV (g := (mkF m 19 #[.val (.ref b1), .val (.int (Int32.ofNat nd)), .val (.int (Int32.ofNat cp))] [(.ref b1), (.ref b1)])) rfl rfl (hb hby d9_19)
    obtain ⟨cq33, q33, q33'⟩ := BE.cell
    obtain ⟨_, _, ⟨T33, L33, k33, n33⟩, -, X33, ⟨Lc33, hQ33, l33, y33, z33⟩, st33⟩ := X32.privateBack hx (y := (⟨"java/lang/AbstractStringBuilder", "newCapacity", "(I)I"⟩ : MethodName)) hown (mvT hZ (hw _ (List.mem_of_getElem? (i := 69) rfl))) (mvT hZ (hw _ (List.mem_of_getElem? (i := 70) rfl))) (own_selP (mvT hZ (hw _ (List.mem_of_getElem? (i := 72) rfl))) (Cond.privateMethod_at (mvP hZ (hw _ (List.mem_of_getElem? (i := 71) rfl)) (args := #[]))) (mvT hZ (hw _ (List.mem_of_getElem? (i := 70) rfl))) (by decide)) (Cond.privateMethod_at (mvP hZ (hw _ (List.mem_of_getElem? (i := 71) rfl)) (args := #[]))) (mvT hZ (hw _ (List.mem_of_getElem? (i := 73) rfl))) (by decide) (backOf (W := 2) (rmNewC l Z a0 hw [] b1 v1 k1 cp ct vs nd h0 n0 Z0 BE BV BC BN BA BX hvl hcp g_b1 g_v1 (by omega) hnM) hZ (hw _ (List.mem_of_getElem? (i := 73) rfl)) (hw _ (List.mem_of_getElem? (i := 28) rfl)) (by decide) (by decide)) (g := (mkF m 24 #[.val (.ref b1), .val (.int (Int32.ofNat nd)), .val (.int (Int32.ofNat cp))] [(.int (Int32.ofNat nd)), (.ref b1), (.ref v1), (.ref b1)])) rfl (by rw [hml]; rfl) (Steps.refl _) (a := b1) (by rw [e32]; exact q33) q33' (argsL := [(.int (Int32.ofNat nd))]) (rest := [(.ref v1), (.ref b1)]) (lenOf pd__I_I rfl) rfl (by show 2 * 0 + _ ≤ _; exact Nat.le_of_eq rfl) (hb hby d9_24) (fun _ _ => ⟨rfl, e32, (by decide : 0 + 0 ≤ _), (by decide : 0 + 0 ≤ _)⟩)
    dsimp only [Pt.U, Pt.locs, Pt.cells, Pt.slots] at X33 l33 y33 z33 st33 hQ33
    subst l33 y33 z33
    obtain ⟨rfl, N33q, EQ33⟩ := hQ33
    have N33 := Fr.app N0 N33q
    have Z33 : n0 ≤ T33.heap.size := by rw [EQ33]; exact Z0
    have K33 := own_keq EQ33 (Keep.refl h0 [b1])
    have f34 := (EQ33 ▸ BC)
    obtain ⟨T35, X35, e35, st35⟩ := getF X33 hx hZ hown (host := "") (Or.inl (hw _ (List.mem_of_getElem? (i := 34) rfl))) Via.refl rfl f34 (g := (mkF m 28 #[.val (.ref b1), .val (.int (Int32.ofNat nd)), .val (.int (Int32.ofNat cp))] [(.ref b1), (.int (Int32.ofNat (max nd (2 * cp + 2)))), (.ref v1), (.ref b1)])) rfl rfl (hb hby d9_28)
    have hgx : max nd (2 * cp + 2) ≤ 304 := hgM.resolve_left cg
    have f36 := (EQ33 ▸ BA)
    have f38 := (EQ33 ▸ BE)
    obtain ⟨_, _, ⟨T37, L37, k37, n37⟩, -, X37, ⟨Lc37, hQ37, l37, y37, z37⟩, st37⟩ := Jvm.LawKit.callS X35 hx (y := (⟨"java/util/Arrays", "copyOf", "([BI)[B"⟩ : MethodName)) hown (mvT hZ (hw _ (List.mem_of_getElem? (i := 84) rfl))) (mvT hZ (hw _ (List.mem_of_getElem? (i := 85) rfl))) (mvT hZ (hw _ (List.mem_of_getElem? (i := 86) rfl))) (mvT hZ (hw _ (List.mem_of_getElem? (i := 87) rfl))) (by decide) (backOf (W := 1) (rmCpO l Z a0 hw [] v1 k1 cp vs (max nd (2 * cp + 2)) T33.heap n0 Z33 f36 hvl hcp (by omega) hgx) hZ (hw _ (List.mem_of_getElem? (i := 87) rfl)) (hw _ (List.mem_of_getElem? (i := 86) rfl)) (by decide) (by decide)) (g := (mkF m 32 #[.val (.ref b1), .val (.int (Int32.ofNat nd)), .val (.int (Int32.ofNat cp))] [(.int (Int32.ofNat (max nd (2 * cp + 2)))), (.ref v1), (.ref b1)])) rfl (by rw [hml]; rfl) (argsL := [(.ref v1), (.int (Int32.ofNat (max nd (2 * cp + 2))))]) (rest := [(.ref b1)]) (lenOf pd___BI__B rfl) rfl (by show 2 * 0 + _ ≤ _; exact Nat.le_of_eq rfl) (hb hby d9_32) (fun _ _ => ⟨rfl, e35, (by decide : 0 + 1 ≤ _), (by decide : 0 + 304 ≤ _)⟩)
    dsimp only [Pt.U, Pt.locs, Pt.cells, Pt.slots] at X37 l37 y37 z37 st37 hQ37
    subst l37 y37 z37
    obtain ⟨v2, rfl, N37q, EX37, le37, k2, V2, X2⟩ := hQ37
    have N37 := Fr.app N33 N37q
    have g_v2 : n0 ≤ v2 := Nat.le_trans Z33 le37
    have sz_v2 : h0.size ≤ v2 := Nat.le_trans K33.1 le37
    have ne_b1_v2 : b1 ≠ v2 := Nat.ne_of_lt (Nat.lt_of_lt_of_le f38.lt le37)
    have ne_v1_v2 : v1 ≠ v2 := Nat.ne_of_lt (Nat.lt_of_lt_of_le f36.lt le37)
    have Z37 := Nat.le_trans Z33 EX37.1
    have K37 := K33.ext EX37
    have f39 := ((EQ33 ▸ BV).ext EX37)
    have f40 := (f38.ext EX37)
    obtain ⟨T41, h41, X41, e41, W41, st41⟩ := putF X37 hx hZ hown (host := "") (Or.inl (hw _ (List.mem_of_getElem? (i := 32) rfl))) Via.refl rfl f39 f40 (Or.inl (hw _ (List.mem_of_getElem? (i := 33) rfl))) (hw _ (List.mem_of_getElem? (i := 19) rfl)) (ty := (.array .byte)) (by decide) rfl rfl (g := (mkF m 35 #[.val (.ref b1), .val (.int (Int32.ofNat nd)), .val (.int (Int32.ofNat cp))] [(.ref v2), (.ref b1)])) rfl rfl (hb hby d9_35)
    have N41 := Fr.snoc X41 N37 g_b1
    have Z41 := Nat.le_trans Z37 (Keep.of_wr W41).1
    have K41 := K37.wr W41 (Or.inl mem_b1)
    have Fw41 := f39.same W41
    have eg : own_gr cp nd = max nd (2 * cp + 2) := if_neg cg
    have f42 := (f40.wr W41)
    have f43 := ((f34.ext EX37).other W41 (Or.inr (slot_ne (Or.inl (hw _ (List.mem_of_getElem? (i := 35) rfl))) (Or.inl (hw _ (List.mem_of_getElem? (i := 33) rfl))) (by decide) (t := .byte) (t' := (.array .byte)) (by decide) (by decide))))
    have f44 := (((EQ33 ▸ BN).ext EX37).other W41 (Or.inr (slot_ne (Or.inl (hw _ (List.mem_of_getElem? (i := 63) rfl))) (Or.inl (hw _ (List.mem_of_getElem? (i := 33) rfl))) (by decide) (t := .int) (t' := (.array .byte)) (by decide) (by decide))))
    have f45 := (V2.other W41 (Ne.symm ne_b1_v2))
    have f46 := (X2.wr W41)
    have pre47 : ∀ t, Steps p.tables e below (T41.setTop (mkF m 38 #[.val (.ref b1), .val (.int (Int32.ofNat nd)), .val (.int (Int32.ofNat cp))] [])) t → Steps p.tables e below (T29.setTop (mkF m 14 #[.val (.ref b1), .val (.int (Int32.ofNat nd)), .val (.int (Int32.ofNat cp))] [(.int ((Int32.ofNat nd) - (Int32.ofNat cp)))])) t := by
      intro t kt
      show Steps p.tables e below (T29.setTop (mkF m 14 #[.val (.ref b1), .val (.int (Int32.ofNat nd)), .val (.int (Int32.ofNat cp))] [(.int ((Int32.ofNat nd) - (Int32.ofNat cp)))])) _
      refine XS.ifNo X29.here hx rfl (hb hby d9_14) rfl ((if0 _ _).trans (tlt (by rw [own_sub (by omega) (by omega), Int32.lt_iff_toInt_lt, own_n (by omega), own_z]; omega : (0 : Int32) < ((Int32.ofNat nd) - (Int32.ofNat cp)))).2.2.2) ?_
      show Steps p.tables e below (T29.setTop (mkF m 17 #[.val (.ref b1), .val (.int (Int32.ofNat nd)), .val (.int (Int32.ofNat cp))] [])) _
      refine XS.aloadN X29.here hx rfl (hb hby d9_17) rfl rfl ?_
      show Steps p.tables e below (T29.setTop (mkF m 18 #[.val (.ref b1), .val (.int (Int32.ofNat nd)), .val (.int (Int32.ofNat cp))] [(.ref b1)])) _
      refine XS.aloadN X29.here hx rfl (hb hby d9_18) rfl rfl ?_
      show Steps p.tables e below (T29.setTop (mkF m 19 #[.val (.ref b1), .val (.int (Int32.ofNat nd)), .val (.int (Int32.ofNat cp))] [(.ref b1), (.ref b1)])) _
      refine st32 _ ?_
      show Steps p.tables e below (T32.setTop (mkF m 22 #[.val (.ref b1), .val (.int (Int32.ofNat nd)), .val (.int (Int32.ofNat cp))] [(.ref v1), (.ref b1)])) _
      refine XS.aloadN X32.here hx rfl (hb hby d9_22) rfl rfl ?_
      show Steps p.tables e below (T32.setTop (mkF m 23 #[.val (.ref b1), .val (.int (Int32.ofNat nd)), .val (.int (Int32.ofNat cp))] [(.ref b1), (.ref v1), (.ref b1)])) _
      refine XS.iloadN X32.here hx rfl (hb hby d9_23) rfl ?_
      show Steps p.tables e below (T32.setTop (mkF m 24 #[.val (.ref b1), .val (.int (Int32.ofNat nd)), .val (.int (Int32.ofNat cp))] [(.int (Int32.ofNat nd)), (.ref b1), (.ref v1), (.ref b1)])) _
      refine st33.trans ?_
      show Steps p.tables e below (T33.setTop (mkF m 27 #[.val (.ref b1), .val (.int (Int32.ofNat nd)), .val (.int (Int32.ofNat cp))] [(.int (Int32.ofNat (max nd (2 * cp + 2)))), (.ref v1), (.ref b1)])) _
      refine XS.aloadN X33.here hx rfl (hb hby d9_27) rfl rfl ?_
      show Steps p.tables e below (T33.setTop (mkF m 28 #[.val (.ref b1), .val (.int (Int32.ofNat nd)), .val (.int (Int32.ofNat cp))] [(.ref b1), (.int (Int32.ofNat (max nd (2 * cp + 2)))), (.ref v1), (.ref b1)])) _
      refine st35 _ ?_
      show Steps p.tables e below (T35.setTop (mkF m 31 #[.val (.ref b1), .val (.int (Int32.ofNat nd)), .val (.int (Int32.ofNat cp))] [(.int (0 : Int32)), (.int (Int32.ofNat (max nd (2 * cp + 2)))), (.ref v1), (.ref b1)])) _
      refine XS.ishl X35.here hx rfl (hb hby d9_31) rfl ?_
      show Steps p.tables e below (T35.setTop (mkF m 32 #[.val (.ref b1), .val (.int (Int32.ofNat nd)), .val (.int (Int32.ofNat cp))] [(.int ((Int32.ofNat (max nd (2 * cp + 2))) <<< ((0 : Int32) &&& 31))), (.ref v1), (.ref b1)])) _
      rw [own_shl0]
      show Steps p.tables e below (T35.setTop (mkF m 32 #[.val (.ref b1), .val (.int (Int32.ofNat nd)), .val (.int (Int32.ofNat cp))] [(.int (Int32.ofNat (max nd (2 * cp + 2)))), (.ref v1), (.ref b1)])) _
      refine st37 _ ?_
      show Steps p.tables e below (T37.setTop (mkF m 35 #[.val (.ref b1), .val (.int (Int32.ofNat nd)), .val (.int (Int32.ofNat cp))] [(.ref v2), (.ref b1)])) _
      refine st41 _ ?_
      exact kt
    obtain ⟨fs, hr, hrun, hended, hW, hsame⟩ := X41.leave (v := none) (fun _ => rfl)
    refine ⟨_, _, (pre0 _ (pre30 _ (pre47 _ ?_))), hrun, hended, _, _, rfl, ?_, ⟨_, rfl⟩, hW, hsame.mono (by decide) (by decide)⟩
    · show Steps p.tables e below (T41.setTop (mkF m 38 #[.val (.ref b1), .val (.int (Int32.ofNat nd)), .val (.int (Int32.ofNat cp))] [])) _
      exact X41.returnOut hx Bd.returns (hb hby d9_38) hr
    · show QEns Z b1 v1 k1 cp ct vs nd h0 n0 _ T41.heap _
      rw [e41]
      exact ⟨rfl, N41, K41, v2, k2, _, ⟨f42, Fw41, f43, f44, by rw [eg]; exact f45, f46⟩, by rw [eg]; simp [hvl]; omega, by rw [← hvl]; simp, g_v2, Or.inr sz_v2⟩
theorem ef_Cod (m : MethodId) (x0 : Addr) : entryFrame m #[(.ref x0)] 1 = mkF m 0 #[.val (.ref x0)] [] := by (first | (simp [entryFrame, mkF, argsToLocals, Value.category]; done) | rfl)
def QCod (Z : State) (x1 : Addr) (zc : Int32) (h0 : Heap) (n0 : Nat) (v : Option Value) (h : Heap) (L : List Loc) : Prop := v = some (.int (0 : Int32)) ∧ Fr n0 L ∧ h = h0
theorem pn_java_lang_String : plainName "java/lang/String" = true := by first | (simp [plainName, overriddenIn]; done) | decide +kernel
theorem d8_0 : decode jdk_42_method_152_code 0 = .ok (.getstatic 38, 3) := by decide +kernel
theorem d8_3 : decode jdk_42_method_152_code 3 = .ok (.ifCond .eq 10, 3) := by decide +kernel
theorem d8_6 : decode jdk_42_method_152_code 6 = .ok (.aload_n 0, 1) := by decide +kernel
theorem d8_7 : decode jdk_42_method_152_code 7 = .ok (.getfield 15, 3) := by decide +kernel
theorem d8_10 : decode jdk_42_method_152_code 10 = .ok (.goto 4, 3) := by decide +kernel
theorem d8_14 : decode jdk_42_method_152_code 14 = .ok (.ireturn, 1) := by decide +kernel
set_option maxRecDepth 65536 in
set_option maxHeartbeats 40000000 in
theorem rmCod (l : Launch) (Z : State) (a0 : Array Value) (hw : ∀ d ∈ tables_1, d.before a0 Z = true) (ws : List Jvm.Cond) (x1 : Addr) (zc : Int32) (h0 : Heap) (n0 : Nat) (Z0 : n0 ≤ h0.size) (SC : Sta Z h0 "java/lang/String" "COMPACT_STRINGS" "Z" (.int zc)) (hzc : ¬ zc = (0 : Int32)) (FC : Fld Z h0 x1 "java/lang/String" "coder" "B" (.int (0 : Int32))) :
    MetFree l (⟨"java/lang/String", "coder", "()B"⟩ : MethodName) (head1 (Jvm.Cond.code (⟨"java/lang/String", "coder", "()B"⟩ : MethodName) jdk_42_method_152_code 1 (some .byte) :: ws) ({ frames := 0, cells := 0, slots := 0, locals := 0 } : Room)) (fun a U => a = #[(.ref x1)] ∧ Z.Warmed39 U.vm ∧ U.heap = h0) (fun _ _ _ _ _ => True) (fun _ U o U' => ∃ v L, o = .returned v ∧ QCod Z x1 zc h0 n0 v U'.heap L ∧ FrameEnd U o U' L ({ frames := 0, cells := 0, slots := 0, locals := 0 } : Room).cells ({ frames := 0, cells := 0, slots := 0, locals := 0 } : Room).slots) := by
  refine MetFree.of_bodySF (plainFor_of_name pn_java_lang_String) hisR ?_
  intro p e s m args below meth c s₁ Bd hml0 hP hK
  obtain ⟨rfl, hZ, hh⟩ := hP
  have hx := Bd.exec
  have hby := Bd.bytes
  have hml : c.maxLocals = 1 := hml0
  have hown : s.vm.findClass "java/lang/String" = some m.cls := findClass_of_methodNamed Bd.named
  have hnm := (name_of_methodNamed Bd.named Bd.method).1
  have X0 : Stand p l e ({ frames := 0, cells := 0, slots := 0, locals := 0 } : Room) s m #[(.ref x1)] below meth c s₁ [] 0 0 := Stand.of_body Bd
  have e0 : s₁.heap = h0 := by rw [← hh, Bd.state]; rfl
  have N0 := Fr.nil n0
  have pre0 : ∀ t, Steps p.tables e below (s₁.setTop (mkF m 0 #[.val (.ref x1)] [])) t → Steps p.tables e below (s₁.setTop (entryFrame m #[(.ref x1)] 1)) t := fun t k => castTop (ef_Cod m x1) k
  obtain ⟨T48, X48, e48, st48⟩ := getS2 X0 hx hZ hown (host := "") (Or.inl (hw _ (List.mem_of_getElem? (i := 60) rfl))) Via.refl e0 SC (g := (mkF m 0 #[.val (.ref x1)] [])) rfl (hb hby d8_0)
  obtain ⟨T49, X49, e49, st49⟩ := getF X48 hx hZ hown (host := "") (Or.inl (hw _ (List.mem_of_getElem? (i := 61) rfl))) Via.refl e48 FC (g := (mkF m 7 #[.val (.ref x1)] [(.ref x1)])) rfl rfl (hb hby d8_7)
  have pre50 : ∀ t, Steps p.tables e below (T49.setTop (mkF m 14 #[.val (.ref x1)] [(.int (0 : Int32))])) t → Steps p.tables e below (s₁.setTop (mkF m 0 #[.val (.ref x1)] [])) t := by
    intro t kt
    show Steps p.tables e below (s₁.setTop (mkF m 0 #[.val (.ref x1)] [])) _
    refine st48 _ ?_
    show Steps p.tables e below (T48.setTop (mkF m 3 #[.val (.ref x1)] [(.int zc)])) _
    refine XS.ifNo X48.here hx rfl (hb hby d8_3) rfl ((if0 _ _).trans (feq (hzc : ¬ (zc = (0 : Int32)))).1) ?_
    show Steps p.tables e below (T48.setTop (mkF m 6 #[.val (.ref x1)] [])) _
    refine XS.aloadN X48.here hx rfl (hb hby d8_6) rfl rfl ?_
    show Steps p.tables e below (T48.setTop (mkF m 7 #[.val (.ref x1)] [(.ref x1)])) _
    refine st49 _ ?_
    show Steps p.tables e below (T49.setTop (mkF m 10 #[.val (.ref x1)] [(.int (0 : Int32))])) _
    refine XS.goto X49.here hx rfl (pc0 := 10) (pc' := 14) rfl (hb hby d8_10) (by decide) (by decide) ?_
    exact kt
  obtain ⟨fs, hr, hrun, hended, hW, hsame⟩ := X49.leave (v := some (.int (0 : Int32))) (fun h => by rw [Bd.returns] at h; cases h)
  refine ⟨_, _, (pre0 _ (pre50 _ ?_)), hrun, hended, _, _, rfl, ?_, ⟨_, rfl⟩, hW, hsame.mono (by decide) (by decide)⟩
  · show Steps p.tables e below (T49.setTop (mkF m 14 #[.val (.ref x1)] [(.int (0 : Int32))])) _
    exact retN X49 hx (t := .byte) Bd.returns (by simp) (hb hby d8_14) hr
  · show QCod Z x1 zc h0 n0 _ T49.heap _
    rw [e49]
    exact ⟨rfl, N0, rfl⟩
theorem ef_Len (m : MethodId) (x0 : Addr) : entryFrame m #[(.ref x0)] 1 = mkF m 0 #[.val (.ref x0)] [] := by (first | (simp [entryFrame, mkF, argsToLocals, Value.category]; done) | rfl)
def QLen (Z : State) (x1 : Addr) (t1 : Addr) (kb : ClassId) (nb : Int32) (vb : List Value) (zc : Int32) (h0 : Heap) (n0 : Nat) (v : Option Value) (h : Heap) (L : List Loc) : Prop := v = some (.int nb) ∧ Fr n0 L ∧ h = h0
theorem d7_0 : decode jdk_42_method_54_code 0 = .ok (.aload_n 0, 1) := by decide +kernel
theorem d7_1 : decode jdk_42_method_54_code 1 = .ok (.getfield 9, 3) := by decide +kernel
theorem d7_4 : decode jdk_42_method_54_code 4 = .ok (.arraylength, 1) := by decide +kernel
theorem d7_5 : decode jdk_42_method_54_code 5 = .ok (.aload_n 0, 1) := by decide +kernel
theorem d7_6 : decode jdk_42_method_54_code 6 = .ok (.invokevirtual 335, 3) := by decide +kernel
theorem pd___B : parseMethodDescriptor "()B" = some ⟨[], some .byte⟩ := by decide +kernel
theorem d7_9 : decode jdk_42_method_54_code 9 = .ok (.ishr, 1) := by decide +kernel
theorem d7_10 : decode jdk_42_method_54_code 10 = .ok (.ireturn, 1) := by decide +kernel
set_option maxRecDepth 65536 in
set_option maxHeartbeats 40000000 in
theorem rmLen (l : Launch) (Z : State) (a0 : Array Value) (hw : ∀ d ∈ tables_1, d.before a0 Z = true) (ws : List Jvm.Cond) (x1 : Addr) (t1 : Addr) (kb : ClassId) (nb : Int32) (vb : List Value) (zc : Int32) (h0 : Heap) (n0 : Nat) (Z0 : n0 ≤ h0.size) (SC : Sta Z h0 "java/lang/String" "COMPACT_STRINGS" "Z" (.int zc)) (hzc : ¬ zc = (0 : Int32)) (FC : Fld Z h0 x1 "java/lang/String" "coder" "B" (.int (0 : Int32))) (FV : Fld Z h0 x1 "java/lang/String" "value" "[B" (.ref t1)) (EX : Exa Z h0 x1 "java/lang/String") (KA : Arv Z h0 t1 kb .byte nb vb (.int (0 : Int32))) :
    MetFree l (⟨"java/lang/String", "length", "()I"⟩ : MethodName) (head1 (Jvm.Cond.code (⟨"java/lang/String", "length", "()I"⟩ : MethodName) jdk_42_method_54_code 1 (some .int) :: ws) ({ frames := 1, cells := 0, slots := 0, locals := 13 } : Room)) (fun a U => a = #[(.ref x1)] ∧ Z.Warmed39 U.vm ∧ U.heap = h0) (fun _ _ _ _ _ => True) (fun _ U o U' => ∃ v L, o = .returned v ∧ QLen Z x1 t1 kb nb vb zc h0 n0 v U'.heap L ∧ FrameEnd U o U' L ({ frames := 1, cells := 0, slots := 0, locals := 13 } : Room).cells ({ frames := 1, cells := 0, slots := 0, locals := 13 } : Room).slots) := by
  refine MetFree.of_bodySF (plainFor_of_name pn_java_lang_String) hisR ?_
  intro p e s m args below meth c s₁ Bd hml0 hP hK
  obtain ⟨rfl, hZ, hh⟩ := hP
  have hx := Bd.exec
  have hby := Bd.bytes
  have hml : c.maxLocals = 1 := hml0
  have hown : s.vm.findClass "java/lang/String" = some m.cls := findClass_of_methodNamed Bd.named
  have hnm := (name_of_methodNamed Bd.named Bd.method).1
  have X0 : Stand p l e ({ frames := 1, cells := 0, slots := 0, locals := 13 } : Room) s m #[(.ref x1)] below meth c s₁ [] 0 0 := Stand.of_body Bd
  have e0 : s₁.heap = h0 := by rw [← hh, Bd.state]; rfl
  have N0 := Fr.nil n0
  have pre0 : ∀ t, Steps p.tables e below (s₁.setTop (mkF m 0 #[.val (.ref x1)] [])) t → Steps p.tables e below (s₁.setTop (entryFrame m #[(.ref x1)] 1)) t := fun t k => castTop (ef_Len m x1) k
  obtain ⟨T51, X51, e51, st51⟩ := getF X0 hx hZ hown (host := "") (Or.inl (hw _ (List.mem_of_getElem? (i := 54) rfl))) Via.refl e0 FV (g := (mkF m 1 #[.val (.ref x1)] [(.ref x1)])) rfl rfl (hb hby d7_1)
  obtain ⟨c52, Ar52, -, S52, M52, -, -⟩ := id KA
  obtain ⟨cq53, kq53, q53a, q53b, q53c⟩ := isOf hZ e51 EX
  obtain ⟨_, _, ⟨T53, L53, k53, n53⟩, -, X53, ⟨Lc53, hQ53, l53, y53, z53⟩, st53⟩ := X51.virtualBack hx (y := (⟨"java/lang/String", "coder", "()B"⟩ : MethodName)) (z := (⟨"java/lang/String", "coder", "()B"⟩ : MethodName)) hown (mvT hZ (hw _ (List.mem_of_getElem? (i := 55) rfl))) (mvT hZ (hw _ (List.mem_of_getElem? (i := 56) rfl))) (notFace_of_selects (args := #[]) (mvT hZ (hw _ (List.mem_of_getElem? (i := 58) rfl)))) (mvT hZ (hw _ (List.mem_of_getElem? (i := 58) rfl))) (mvT hZ (hw _ (List.mem_of_getElem? (i := 57) rfl))) (by decide) (backOf (W := 1) (rmCod l Z a0 hw [] x1 zc h0 n0 Z0 SC hzc FC) hZ (hw _ (List.mem_of_getElem? (i := 59) rfl)) (hw _ (List.mem_of_getElem? (i := 5) rfl)) (by decide) (by decide)) q53a q53c (g := (mkF m 6 #[.val (.ref x1)] [(.ref x1), (.int nb)])) rfl (by rw [hml]; rfl) (Steps.refl _) (argsL := []) (rest := [(.int nb)]) (lenOf pd___B rfl) rfl (by show 2 * 0 + _ ≤ _; exact Nat.le_of_eq rfl) (hb hby d7_6) (fun _ _ => ⟨rfl, e51, (by decide : 0 + 0 ≤ _), (by decide : 0 + 0 ≤ _)⟩)
  dsimp only [Pt.U, Pt.locs, Pt.cells, Pt.slots] at X53 l53 y53 z53 st53 hQ53
  subst l53 y53 z53
  obtain ⟨rfl, N53q, EQ53⟩ := hQ53
  have N53 := Fr.app N0 N53q
  have Z53 : n0 ≤ T53.heap.size := by rw [EQ53]; exact Z0
  have K53 := own_keq EQ53 (Keep.refl h0 [])
  have pre54 : ∀ t, Steps p.tables e below (T53.setTop (mkF m 10 #[.val (.ref x1)] [(.int (nb >>> ((0 : Int32) &&& 31)))])) t → Steps p.tables e below (s₁.setTop (mkF m 0 #[.val (.ref x1)] [])) t := by
    intro t kt
    show Steps p.tables e below (s₁.setTop (mkF m 0 #[.val (.ref x1)] [])) _
    refine XS.aloadN X0.here hx rfl (hb hby d7_0) rfl rfl ?_
    show Steps p.tables e below (s₁.setTop (mkF m 1 #[.val (.ref x1)] [(.ref x1)])) _
    refine st51 _ ?_
    show Steps p.tables e below (T51.setTop (mkF m 4 #[.val (.ref x1)] [(.ref t1)])) _
    refine X51.arraylength hx (by rw [e51]; exact Ar52.1) (State.isArrayOf_alike hZ.alike Ar52.2.1) (g := (mkF m 4 #[.val (.ref x1)] [(.ref t1)])) rfl rfl (hb hby d7_4) _ ?_
    rw [len_of S52 M52]
    show Steps p.tables e below (T51.setTop (mkF m 5 #[.val (.ref x1)] [(.int nb)])) _
    refine XS.aloadN X51.here hx rfl (hb hby d7_5) rfl rfl ?_
    show Steps p.tables e below (T51.setTop (mkF m 6 #[.val (.ref x1)] [(.ref x1), (.int nb)])) _
    refine st53.trans ?_
    show Steps p.tables e below (T53.setTop (mkF m 9 #[.val (.ref x1)] [(.int (0 : Int32)), (.int nb)])) _
    refine XS.ishr X53.here hx rfl (hb hby d7_9) rfl ?_
    exact kt
  obtain ⟨fs, hr, hrun, hended, hW, hsame⟩ := X53.leave (v := some (.int (nb >>> ((0 : Int32) &&& 31)))) (fun h => by rw [Bd.returns] at h; cases h)
  refine ⟨_, _, (pre0 _ (pre54 _ ?_)), hrun, hended, _, _, rfl, ?_, ⟨_, rfl⟩, hW, hsame.mono (by decide) (by decide)⟩
  · show Steps p.tables e below (T53.setTop (mkF m 10 #[.val (.ref x1)] [(.int (nb >>> ((0 : Int32) &&& 31)))])) _
    exact retOut X53 hx (t := .int) Bd.returns rfl (Or.inl ⟨rfl, Or.inl rfl, _, rfl⟩) (hb hby d7_10) hr
  · show QLen Z x1 t1 kb nb vb zc h0 n0 _ T53.heap _
    exact ⟨by rw [own_shr0], N53, by rw [EQ53]⟩
theorem ef_Inf (m : MethodId) (x0 : Addr) (x1 : Addr) : entryFrame m #[(.ref x0), (.ref x1)] 2 = mkF m 0 #[.val (.ref x0), .val (.ref x1)] [] := by (first | (simp [entryFrame, mkF, argsToLocals, Value.category]; done) | rfl)
def QInf (Z : State) (b1 : Addr) (v1 : Addr) (k1 : ClassId) (cp : Nat) (ct : Nat) (vs : List Value) (x1 : Addr) (t1 : Addr) (kx : ClassId) (nx : Nat) (xs : List Value) (zc : Int32) (h0 : Heap) (n0 : Nat) (v : Option Value) (h : Heap) (L : List Loc) : Prop := v = none ∧ Fr n0 L ∧ h = h0
theorem d16_0 : decode jdk_68_method_71_code 0 = .ok (.getstatic 18, 3) := by decide +kernel
theorem d16_3 : decode jdk_68_method_71_code 3 = .ok (.ifCond .eq 18, 3) := by decide +kernel
theorem d16_6 : decode jdk_68_method_71_code 6 = .ok (.aload_n 0, 1) := by decide +kernel
theorem d16_7 : decode jdk_68_method_71_code 7 = .ok (.getfield 22, 3) := by decide +kernel
theorem d16_10 : decode jdk_68_method_71_code 10 = .ok (.aload_n 1, 1) := by decide +kernel
theorem d16_11 : decode jdk_68_method_71_code 11 = .ok (.invokevirtual 40, 3) := by decide +kernel
theorem d16_14 : decode jdk_68_method_71_code 14 = .ok (.if_icmp .eq 7, 3) := by decide +kernel
theorem d16_21 : decode jdk_68_method_71_code 21 = .ok (.return_, 1) := by decide +kernel
set_option maxRecDepth 65536 in
set_option maxHeartbeats 40000000 in
theorem rmInf (l : Launch) (Z : State) (a0 : Array Value) (hw : ∀ d ∈ tables_1, d.before a0 Z = true) (ws : List Jvm.Cond) (b1 : Addr) (v1 : Addr) (k1 : ClassId) (cp : Nat) (ct : Nat) (vs : List Value) (x1 : Addr) (t1 : Addr) (kx : ClassId) (nx : Nat) (xs : List Value) (zc : Int32) (h0 : Heap) (n0 : Nat) (Z0 : n0 ≤ h0.size) (BE : Exa Z h0 b1 "java/lang/StringBuilder") (BV : Fld Z h0 b1 "java/lang/AbstractStringBuilder" "value" "[B" (.ref v1)) (BC : Fld Z h0 b1 "java/lang/AbstractStringBuilder" "coder" "B" (.int (0 : Int32))) (BN : Fld Z h0 b1 "java/lang/AbstractStringBuilder" "count" "I" (.int (Int32.ofNat ct))) (BA : Arv Z h0 v1 k1 .byte (Int32.ofNat cp) vs (.int (0 : Int32))) (BX : Exa Z h0 v1 "[B") (hvl : vs.length = cp) (hcp : cp ≤ 1000) (g_b1 : n0 ≤ b1) (g_v1 : n0 ≤ v1) (XE : Exa Z h0 x1 "java/lang/String") (XV : Fld Z h0 x1 "java/lang/String" "value" "[B" (.ref t1)) (XC : Fld Z h0 x1 "java/lang/String" "coder" "B" (.int (0 : Int32))) (XA : Arv Z h0 t1 kx .byte (Int32.ofNat nx) xs (.int (0 : Int32))) (hxl : xs.length = nx) (hnx : nx ≤ 1000) (OZ : Old Z n0 h0) (SC : Sta Z Z.heap "java/lang/String" "COMPACT_STRINGS" "Z" (.int zc)) (hzc : ¬ zc = (0 : Int32)) :
    MetFree l (⟨"java/lang/AbstractStringBuilder", "inflateIfNeededFor", "(Ljava/lang/String;)V"⟩ : MethodName) (head1 (Jvm.Cond.code (⟨"java/lang/AbstractStringBuilder", "inflateIfNeededFor", "(Ljava/lang/String;)V"⟩ : MethodName) jdk_68_method_71_code 2 none :: ws) ({ frames := 1, cells := 0, slots := 0, locals := 16 } : Room)) (fun a U => a = #[(.ref b1), (.ref x1)] ∧ Z.Warmed39 U.vm ∧ U.heap = h0) (fun _ _ _ _ _ => True) (fun _ U o U' => ∃ v L, o = .returned v ∧ QInf Z b1 v1 k1 cp ct vs x1 t1 kx nx xs zc h0 n0 v U'.heap L ∧ FrameEnd U o U' L ({ frames := 1, cells := 0, slots := 0, locals := 16 } : Room).cells ({ frames := 1, cells := 0, slots := 0, locals := 16 } : Room).slots) := by
  refine MetFree.of_bodySF (plainFor_of_name pn_java_lang_AbstractStringBuilder) hisR ?_
  intro p e s m args below meth c s₁ Bd hml0 hP hK
  obtain ⟨rfl, hZ, hh⟩ := hP
  have hx := Bd.exec
  have hby := Bd.bytes
  have hml : c.maxLocals = 2 := hml0
  have hown : s.vm.findClass "java/lang/AbstractStringBuilder" = some m.cls := findClass_of_methodNamed Bd.named
  have hnm := (name_of_methodNamed Bd.named Bd.method).1
  have X0 : Stand p l e ({ frames := 1, cells := 0, slots := 0, locals := 16 } : Room) s m #[(.ref b1), (.ref x1)] below meth c s₁ [] 0 0 := Stand.of_body Bd
  have e0 : s₁.heap = h0 := by rw [← hh, Bd.state]; rfl
  have N0 := Fr.nil n0
  have pre0 : ∀ t, Steps p.tables e below (s₁.setTop (mkF m 0 #[.val (.ref b1), .val (.ref x1)] [])) t → Steps p.tables e below (s₁.setTop (entryFrame m #[(.ref b1), (.ref x1)] 2)) t := fun t k => castTop (ef_Inf m b1 x1) k
  obtain ⟨T55, X55, e55, st55⟩ := getS2 X0 hx hZ hown (host := "") (Or.inl (hw _ (List.mem_of_getElem? (i := 31) rfl))) Via.refl e0 (SC.ext OZ.2) (g := (mkF m 0 #[.val (.ref b1), .val (.ref x1)] [])) rfl (hb hby d16_0)
  obtain ⟨T56, X56, e56, st56⟩ := getF X55 hx hZ hown (host := "") (Or.inl (hw _ (List.mem_of_getElem? (i := 34) rfl))) Via.refl e55 BC (g := (mkF m 7 #[.val (.ref b1), .val (.ref x1)] [(.ref b1)])) rfl rfl (hb hby d16_7)
  obtain ⟨cq57, kq57, q57a, q57b, q57c⟩ := isOf hZ e56 XE
  obtain ⟨_, _, ⟨T57, L57, k57, n57⟩, -, X57, ⟨Lc57, hQ57, l57, y57, z57⟩, st57⟩ := X56.virtualBack hx (y := (⟨"java/lang/String", "coder", "()B"⟩ : MethodName)) (z := (⟨"java/lang/String", "coder", "()B"⟩ : MethodName)) hown (mvT hZ (hw _ (List.mem_of_getElem? (i := 105) rfl))) (mvT hZ (hw _ (List.mem_of_getElem? (i := 56) rfl))) (notFace_of_selects (args := #[]) (mvT hZ (hw _ (List.mem_of_getElem? (i := 58) rfl)))) (mvT hZ (hw _ (List.mem_of_getElem? (i := 58) rfl))) (mvT hZ (hw _ (List.mem_of_getElem? (i := 57) rfl))) (by decide) (backOf (W := 1) (rmCod l Z a0 hw [] x1 zc h0 n0 Z0 (SC.ext OZ.2) hzc XC) hZ (hw _ (List.mem_of_getElem? (i := 59) rfl)) (hw _ (List.mem_of_getElem? (i := 5) rfl)) (by decide) (by decide)) q57a q57c (g := (mkF m 11 #[.val (.ref b1), .val (.ref x1)] [(.ref x1), (.int (0 : Int32))])) rfl (by rw [hml]; rfl) (Steps.refl _) (argsL := []) (rest := [(.int (0 : Int32))]) (lenOf pd___B rfl) rfl (by show 2 * 0 + _ ≤ _; exact Nat.le_of_eq rfl) (hb hby d16_11) (fun _ _ => ⟨rfl, e56, (by decide : 0 + 0 ≤ _), (by decide : 0 + 0 ≤ _)⟩)
  dsimp only [Pt.U, Pt.locs, Pt.cells, Pt.slots] at X57 l57 y57 z57 st57 hQ57
  subst l57 y57 z57
  obtain ⟨rfl, N57q, EQ57⟩ := hQ57
  have N57 := Fr.app N0 N57q
  have Z57 : n0 ≤ T57.heap.size := by rw [EQ57]; exact Z0
  have K57 := own_keq EQ57 (Keep.refl h0 [])
  have pre58 : ∀ t, Steps p.tables e below (T57.setTop (mkF m 21 #[.val (.ref b1), .val (.ref x1)] [])) t → Steps p.tables e below (s₁.setTop (mkF m 0 #[.val (.ref b1), .val (.ref x1)] [])) t := by
    intro t kt
    show Steps p.tables e below (s₁.setTop (mkF m 0 #[.val (.ref b1), .val (.ref x1)] [])) _
    refine st55 _ ?_
    show Steps p.tables e below (T55.setTop (mkF m 3 #[.val (.ref b1), .val (.ref x1)] [(.int zc)])) _
    refine XS.ifNo X55.here hx rfl (hb hby d16_3) rfl ((if0 _ _).trans (feq (hzc : ¬ (zc = (0 : Int32)))).1) ?_
    show Steps p.tables e below (T55.setTop (mkF m 6 #[.val (.ref b1), .val (.ref x1)] [])) _
    refine XS.aloadN X55.here hx rfl (hb hby d16_6) rfl rfl ?_
    show Steps p.tables e below (T55.setTop (mkF m 7 #[.val (.ref b1), .val (.ref x1)] [(.ref b1)])) _
    refine st56 _ ?_
    show Steps p.tables e below (T56.setTop (mkF m 10 #[.val (.ref b1), .val (.ref x1)] [(.int (0 : Int32))])) _
    refine XS.aloadN X56.here hx rfl (hb hby d16_10) rfl rfl ?_
    show Steps p.tables e below (T56.setTop (mkF m 11 #[.val (.ref b1), .val (.ref x1)] [(.ref x1), (.int (0 : Int32))])) _
    refine st57.trans ?_
    show Steps p.tables e below (T57.setTop (mkF m 14 #[.val (.ref b1), .val (.ref x1)] [(.int (0 : Int32)), (.int (0 : Int32))])) _
    refine XS.icmpYes X57.here hx rfl (pc0 := 14) (pc' := 21) rfl (hb hby d16_14) rfl (teq (rfl : (0 : Int32) = (0 : Int32))).1 (by decide) (by decide) ?_
    exact kt
  obtain ⟨fs, hr, hrun, hended, hW, hsame⟩ := X57.leave (v := none) (fun _ => rfl)
  refine ⟨_, _, (pre0 _ (pre58 _ ?_)), hrun, hended, _, _, rfl, ?_, ⟨_, rfl⟩, hW, hsame.mono (by decide) (by decide)⟩
  · show Steps p.tables e below (T57.setTop (mkF m 21 #[.val (.ref b1), .val (.ref x1)] [])) _
    exact X57.returnOut hx Bd.returns (hb hby d16_21) hr
  · show QInf Z b1 v1 k1 cp ct vs x1 t1 kx nx xs zc h0 n0 _ T57.heap _
    exact ⟨rfl, N57, by rw [EQ57]⟩
theorem ef_GetB (m : MethodId) (x0 : Addr) (x1 : Addr) (x2 : Int32) (x3 : Int32) : entryFrame m #[(.ref x0), (.ref x1), (.int x2), (.int x3)] 4 = mkF m 0 #[.val (.ref x0), .val (.ref x1), .val (.int x2), .val (.int x3)] [] := by (first | (simp [entryFrame, mkF, argsToLocals, Value.category]; done) | rfl)
def QGetB (Z : State) (x1 : Addr) (t1 : Addr) (kx : ClassId) (nx : Nat) (xs : List Value) (v1 : Addr) (k1 : ClassId) (cp : Nat) (ct : Nat) (vs : List Value) (zc : Int32) (h0 : Heap) (n0 : Nat) (v : Option Value) (h : Heap) (L : List Loc) : Prop := v = none ∧ Fr n0 L ∧ Keep h0 h [v1] ∧ Arv Z h v1 k1 .byte (Int32.ofNat cp) (vs.take ct ++ xs ++ vs.drop (ct + nx)) (.int (0 : Int32))
theorem d17_0 : decode jdk_42_method_147_code 0 = .ok (.aload_n 0, 1) := by decide +kernel
theorem d17_1 : decode jdk_42_method_147_code 1 = .ok (.invokevirtual 335, 3) := by decide +kernel
theorem d17_4 : decode jdk_42_method_147_code 4 = .ok (.iload_n 3, 1) := by decide +kernel
theorem d17_5 : decode jdk_42_method_147_code 5 = .ok (.if_icmp .ne 23, 3) := by decide +kernel
theorem d17_8 : decode jdk_42_method_147_code 8 = .ok (.aload_n 0, 1) := by decide +kernel
theorem d17_9 : decode jdk_42_method_147_code 9 = .ok (.getfield 9, 3) := by decide +kernel
theorem d17_12 : decode jdk_42_method_147_code 12 = .ok (.iconst 0, 1) := by decide +kernel
theorem d17_13 : decode jdk_42_method_147_code 13 = .ok (.aload_n 1, 1) := by decide +kernel
theorem d17_14 : decode jdk_42_method_147_code 14 = .ok (.iload_n 2, 1) := by decide +kernel
theorem d17_15 : decode jdk_42_method_147_code 15 = .ok (.iload_n 3, 1) := by decide +kernel
theorem d17_16 : decode jdk_42_method_147_code 16 = .ok (.ishl, 1) := by decide +kernel
theorem d17_17 : decode jdk_42_method_147_code 17 = .ok (.aload_n 0, 1) := by decide +kernel
theorem d17_18 : decode jdk_42_method_147_code 18 = .ok (.getfield 9, 3) := by decide +kernel
theorem d17_21 : decode jdk_42_method_147_code 21 = .ok (.arraylength, 1) := by decide +kernel
theorem d17_22 : decode jdk_42_method_147_code 22 = .ok (.invokestatic 212, 3) := by decide +kernel
theorem d17_25 : decode jdk_42_method_147_code 25 = .ok (.goto 18, 3) := by decide +kernel
theorem d17_43 : decode jdk_42_method_147_code 43 = .ok (.return_, 1) := by decide +kernel
set_option maxRecDepth 65536 in
set_option maxHeartbeats 40000000 in
theorem rmGetB (l : Launch) (Z : State) (a0 : Array Value) (hw : ∀ d ∈ tables_1, d.before a0 Z = true) (ws : List Jvm.Cond) (x1 : Addr) (t1 : Addr) (kx : ClassId) (nx : Nat) (xs : List Value) (v1 : Addr) (k1 : ClassId) (cp : Nat) (ct : Nat) (vs : List Value) (zc : Int32) (h0 : Heap) (n0 : Nat) (Z0 : n0 ≤ h0.size) (XE : Exa Z h0 x1 "java/lang/String") (XV : Fld Z h0 x1 "java/lang/String" "value" "[B" (.ref t1)) (XC : Fld Z h0 x1 "java/lang/String" "coder" "B" (.int (0 : Int32))) (XA : Arv Z h0 t1 kx .byte (Int32.ofNat nx) xs (.int (0 : Int32))) (hxl : xs.length = nx) (hnx : nx ≤ 1000) (BA : Arv Z h0 v1 k1 .byte (Int32.ofNat cp) vs (.int (0 : Int32))) (hvl : vs.length = cp) (hcp : cp ≤ 1000) (g_v1 : n0 ≤ v1) (hfit : ct + nx ≤ cp) (OZ : Old Z n0 h0) (SC : Sta Z Z.heap "java/lang/String" "COMPACT_STRINGS" "Z" (.int zc)) (hzc : ¬ zc = (0 : Int32)) :
    MetFree l (⟨"java/lang/String", "getBytes", "([BIB)V"⟩ : MethodName) (head1 (Jvm.Cond.code (⟨"java/lang/String", "getBytes", "([BIB)V"⟩ : MethodName) jdk_42_method_147_code 4 none :: ws) ({ frames := 1, cells := 0, slots := 0, locals := 40 } : Room)) (fun a U => a = #[(.ref x1), (.ref v1), (.int (Int32.ofNat ct)), (.int (0 : Int32))] ∧ Z.Warmed39 U.vm ∧ U.heap = h0) (fun _ _ _ _ _ => True) (fun _ U o U' => ∃ v L, o = .returned v ∧ QGetB Z x1 t1 kx nx xs v1 k1 cp ct vs zc h0 n0 v U'.heap L ∧ FrameEnd U o U' L ({ frames := 1, cells := 0, slots := 0, locals := 40 } : Room).cells ({ frames := 1, cells := 0, slots := 0, locals := 40 } : Room).slots) := by
  refine MetFree.of_bodySF (plainFor_of_name pn_java_lang_String) hisR ?_
  intro p e s m args below meth c s₁ Bd hml0 hP hK
  obtain ⟨rfl, hZ, hh⟩ := hP
  have hx := Bd.exec
  have hby := Bd.bytes
  have hml : c.maxLocals = 4 := hml0
  have hown : s.vm.findClass "java/lang/String" = some m.cls := findClass_of_methodNamed Bd.named
  have hnm := (name_of_methodNamed Bd.named Bd.method).1
  have X0 : Stand p l e ({ frames := 1, cells := 0, slots := 0, locals := 40 } : Room) s m #[(.ref x1), (.ref v1), (.int (Int32.ofNat ct)), (.int (0 : Int32))] below meth c s₁ [] 0 0 := Stand.of_body Bd
  have e0 : s₁.heap = h0 := by rw [← hh, Bd.state]; rfl
  have N0 := Fr.nil n0
  have pre0 : ∀ t, Steps p.tables e below (s₁.setTop (mkF m 0 #[.val (.ref x1), .val (.ref v1), .val (.int (Int32.ofNat ct)), .val (.int (0 : Int32))] [])) t → Steps p.tables e below (s₁.setTop (entryFrame m #[(.ref x1), (.ref v1), (.int (Int32.ofNat ct)), (.int (0 : Int32))] 4)) t := fun t k => castTop (ef_GetB m x1 v1 (Int32.ofNat ct) (0 : Int32)) k
  have mem_v1 : v1 ∈ [v1] := List.mem_of_getElem? (i := 0) rfl
  obtain ⟨cq59, kq59, q59a, q59b, q59c⟩ := isOf hZ e0 XE
  obtain ⟨_, _, ⟨T59, L59, k59, n59⟩, -, X59, ⟨Lc59, hQ59, l59, y59, z59⟩, st59⟩ := X0.virtualBack hx (y := (⟨"java/lang/String", "coder", "()B"⟩ : MethodName)) (z := (⟨"java/lang/String", "coder", "()B"⟩ : MethodName)) hown (mvT hZ (hw _ (List.mem_of_getElem? (i := 55) rfl))) (mvT hZ (hw _ (List.mem_of_getElem? (i := 56) rfl))) (notFace_of_selects (args := #[]) (mvT hZ (hw _ (List.mem_of_getElem? (i := 58) rfl)))) (mvT hZ (hw _ (List.mem_of_getElem? (i := 58) rfl))) (mvT hZ (hw _ (List.mem_of_getElem? (i := 57) rfl))) (by decide) (backOf (W := 0) (rmCod l Z a0 hw [] x1 zc h0 n0 Z0 (SC.ext OZ.2) hzc XC) hZ (hw _ (List.mem_of_getElem? (i := 59) rfl)) (hw _ (List.mem_of_getElem? (i := 5) rfl)) (by decide) (by decide)) q59a q59c (g := (mkF m 1 #[.val (.ref x1), .val (.ref v1), .val (.int (Int32.ofNat ct)), .val (.int (0 : Int32))] [(.ref x1)])) rfl (by rw [hml]; rfl) (Steps.refl _) (argsL := []) (rest := []) (lenOf pd___B rfl) rfl (by show 2 * 0 + _ ≤ _; exact Nat.le_of_eq rfl) (hb hby d17_1) (fun _ _ => ⟨rfl, e0, (by decide : 0 + 0 ≤ _), (by decide : 0 + 0 ≤ _)⟩)
  dsimp only [Pt.U, Pt.locs, Pt.cells, Pt.slots] at X59 l59 y59 z59 st59 hQ59
  subst l59 y59 z59
  obtain ⟨rfl, N59q, EQ59⟩ := hQ59
  have N59 := Fr.app N0 N59q
  have Z59 : n0 ≤ T59.heap.size := by rw [EQ59]; exact Z0
  have K59 := own_keq EQ59 (Keep.refl h0 [v1])
  have f60 := (EQ59 ▸ XV)
  obtain ⟨T61, X61, e61, st61⟩ := getF X59 hx hZ hown (host := "") (Or.inl (hw _ (List.mem_of_getElem? (i := 54) rfl))) Via.refl rfl f60 (g := (mkF m 9 #[.val (.ref x1), .val (.ref v1), .val (.int (Int32.ofNat ct)), .val (.int (0 : Int32))] [(.ref x1)])) rfl rfl (hb hby d17_9)
  obtain ⟨T62, X62, e62, st62⟩ := getF X61 hx hZ hown (host := "") (Or.inl (hw _ (List.mem_of_getElem? (i := 54) rfl))) Via.refl e61 f60 (g := (mkF m 18 #[.val (.ref x1), .val (.ref v1), .val (.int (Int32.ofNat ct)), .val (.int (0 : Int32))] [(.ref x1), (.int (Int32.ofNat ct)), (.ref v1), (.int (0 : Int32)), (.ref t1)])) rfl rfl (hb hby d17_18)
  have f63 := (EQ59 ▸ XA)
  obtain ⟨c64, Ar64, -, S64, M64, -, -⟩ := id f63
  have f65 := (EQ59 ▸ BA)
  obtain ⟨T66, h66, L66, X66, e66, N66, KC66, V66, st66⟩ := own_cp X62 hx hZ hown (hw _ (List.mem_of_getElem? (i := 111) rfl)) (hw _ (List.mem_of_getElem? (i := 94) rfl)) (hw _ (List.mem_of_getElem? (i := 92) rfl)) (hw _ (List.mem_of_getElem? (i := 93) rfl)) e62 (nx) (cp) (0) (ct) (nx) f63 f65 hxl hvl (by omega) (by omega) (by omega) hfit N59 g_v1 (g := (mkF m 22 #[.val (.ref x1), .val (.ref v1), .val (.int (Int32.ofNat ct)), .val (.int (0 : Int32))] [(.int (Int32.ofNat nx)), (.int (Int32.ofNat ct)), (.ref v1), (.int (0 : Int32)), (.ref t1)])) rfl (by rw [hml]; rfl) rfl (hb hby d17_22) (by decide) (W := 0) (by show 2 * 0 + _ ≤ _; exact Nat.le_of_eq rfl) (by decide)
  have Z66 := Nat.le_trans Z59 KC66.1
  have K66 := K59.trans KC66 (allS (Or.inl mem_v1) all0)
  have pre67 : ∀ t, Steps p.tables e below (T66.setTop (mkF m 43 #[.val (.ref x1), .val (.ref v1), .val (.int (Int32.ofNat ct)), .val (.int (0 : Int32))] [])) t → Steps p.tables e below (s₁.setTop (mkF m 0 #[.val (.ref x1), .val (.ref v1), .val (.int (Int32.ofNat ct)), .val (.int (0 : Int32))] [])) t := by
    intro t kt
    show Steps p.tables e below (s₁.setTop (mkF m 0 #[.val (.ref x1), .val (.ref v1), .val (.int (Int32.ofNat ct)), .val (.int (0 : Int32))] [])) _
    refine XS.aloadN X0.here hx rfl (hb hby d17_0) rfl rfl ?_
    show Steps p.tables e below (s₁.setTop (mkF m 1 #[.val (.ref x1), .val (.ref v1), .val (.int (Int32.ofNat ct)), .val (.int (0 : Int32))] [(.ref x1)])) _
    refine st59.trans ?_
    show Steps p.tables e below (T59.setTop (mkF m 4 #[.val (.ref x1), .val (.ref v1), .val (.int (Int32.ofNat ct)), .val (.int (0 : Int32))] [(.int (0 : Int32))])) _
    refine XS.iloadN X59.here hx rfl (hb hby d17_4) rfl ?_
    show Steps p.tables e below (T59.setTop (mkF m 5 #[.val (.ref x1), .val (.ref v1), .val (.int (Int32.ofNat ct)), .val (.int (0 : Int32))] [(.int (0 : Int32)), (.int (0 : Int32))])) _
    refine XS.icmpNo X59.here hx rfl (hb hby d17_5) rfl (teq (rfl : (0 : Int32) = (0 : Int32))).2 ?_
    show Steps p.tables e below (T59.setTop (mkF m 8 #[.val (.ref x1), .val (.ref v1), .val (.int (Int32.ofNat ct)), .val (.int (0 : Int32))] [])) _
    refine XS.aloadN X59.here hx rfl (hb hby d17_8) rfl rfl ?_
    show Steps p.tables e below (T59.setTop (mkF m 9 #[.val (.ref x1), .val (.ref v1), .val (.int (Int32.ofNat ct)), .val (.int (0 : Int32))] [(.ref x1)])) _
    refine st61 _ ?_
    show Steps p.tables e below (T61.setTop (mkF m 12 #[.val (.ref x1), .val (.ref v1), .val (.int (Int32.ofNat ct)), .val (.int (0 : Int32))] [(.ref t1)])) _
    refine XS.iconst X61.here hx rfl (hb hby d17_12) ?_
    show Steps p.tables e below (T61.setTop (mkF m 13 #[.val (.ref x1), .val (.ref v1), .val (.int (Int32.ofNat ct)), .val (.int (0 : Int32))] [(.int (0 : Int32)), (.ref t1)])) _
    refine XS.aloadN X61.here hx rfl (hb hby d17_13) rfl rfl ?_
    show Steps p.tables e below (T61.setTop (mkF m 14 #[.val (.ref x1), .val (.ref v1), .val (.int (Int32.ofNat ct)), .val (.int (0 : Int32))] [(.ref v1), (.int (0 : Int32)), (.ref t1)])) _
    refine XS.iloadN X61.here hx rfl (hb hby d17_14) rfl ?_
    show Steps p.tables e below (T61.setTop (mkF m 15 #[.val (.ref x1), .val (.ref v1), .val (.int (Int32.ofNat ct)), .val (.int (0 : Int32))] [(.int (Int32.ofNat ct)), (.ref v1), (.int (0 : Int32)), (.ref t1)])) _
    refine XS.iloadN X61.here hx rfl (hb hby d17_15) rfl ?_
    show Steps p.tables e below (T61.setTop (mkF m 16 #[.val (.ref x1), .val (.ref v1), .val (.int (Int32.ofNat ct)), .val (.int (0 : Int32))] [(.int (0 : Int32)), (.int (Int32.ofNat ct)), (.ref v1), (.int (0 : Int32)), (.ref t1)])) _
    refine XS.ishl X61.here hx rfl (hb hby d17_16) rfl ?_
    show Steps p.tables e below (T61.setTop (mkF m 17 #[.val (.ref x1), .val (.ref v1), .val (.int (Int32.ofNat ct)), .val (.int (0 : Int32))] [(.int ((Int32.ofNat ct) <<< ((0 : Int32) &&& 31))), (.ref v1), (.int (0 : Int32)), (.ref t1)])) _
    rw [own_shl0]
    show Steps p.tables e below (T61.setTop (mkF m 17 #[.val (.ref x1), .val (.ref v1), .val (.int (Int32.ofNat ct)), .val (.int (0 : Int32))] [(.int (Int32.ofNat ct)), (.ref v1), (.int (0 : Int32)), (.ref t1)])) _
    refine XS.aloadN X61.here hx rfl (hb hby d17_17) rfl rfl ?_
    show Steps p.tables e below (T61.setTop (mkF m 18 #[.val (.ref x1), .val (.ref v1), .val (.int (Int32.ofNat ct)), .val (.int (0 : Int32))] [(.ref x1), (.int (Int32.ofNat ct)), (.ref v1), (.int (0 : Int32)), (.ref t1)])) _
    refine st62 _ ?_
    show Steps p.tables e below (T62.setTop (mkF m 21 #[.val (.ref x1), .val (.ref v1), .val (.int (Int32.ofNat ct)), .val (.int (0 : Int32))] [(.ref t1), (.int (Int32.ofNat ct)), (.ref v1), (.int (0 : Int32)), (.ref t1)])) _
    refine X62.arraylength hx (by rw [e62]; exact Ar64.1) (State.isArrayOf_alike hZ.alike Ar64.2.1) (g := (mkF m 21 #[.val (.ref x1), .val (.ref v1), .val (.int (Int32.ofNat ct)), .val (.int (0 : Int32))] [(.ref t1), (.int (Int32.ofNat ct)), (.ref v1), (.int (0 : Int32)), (.ref t1)])) rfl rfl (hb hby d17_21) _ ?_
    rw [len_of S64 M64]
    show Steps p.tables e below (T62.setTop (mkF m 22 #[.val (.ref x1), .val (.ref v1), .val (.int (Int32.ofNat ct)), .val (.int (0 : Int32))] [(.int (Int32.ofNat nx)), (.int (Int32.ofNat ct)), (.ref v1), (.int (0 : Int32)), (.ref t1)])) _
    refine st66 _ ?_
    show Steps p.tables e below (T66.setTop (mkF m 25 #[.val (.ref x1), .val (.ref v1), .val (.int (Int32.ofNat ct)), .val (.int (0 : Int32))] [])) _
    refine XS.goto X66.here hx rfl (pc0 := 25) (pc' := 43) rfl (hb hby d17_25) (by decide) (by decide) ?_
    exact kt
  obtain ⟨fs, hr, hrun, hended, hW, hsame⟩ := X66.leave (v := none) (fun _ => rfl)
  refine ⟨_, _, (pre0 _ (pre67 _ ?_)), hrun, hended, _, _, rfl, ?_, ⟨_, rfl⟩, hW, hsame.mono (by decide) (by decide)⟩
  · show Steps p.tables e below (T66.setTop (mkF m 43 #[.val (.ref x1), .val (.ref v1), .val (.int (Int32.ofNat ct)), .val (.int (0 : Int32))] [])) _
    exact X66.returnOut hx Bd.returns (hb hby d17_43) hr
  · show QGetB Z x1 t1 kx nx xs v1 k1 cp ct vs zc h0 n0 _ T66.heap _
    rw [e66]
    exact ⟨rfl, N66, K66, by have q := V66; rw [own_all hxl] at q; exact q⟩
theorem ef_PutS (m : MethodId) (x0 : Addr) (x1 : Int32) (x2 : Addr) : entryFrame m #[(.ref x0), (.int x1), (.ref x2)] 3 = mkF m 0 #[.val (.ref x0), .val (.int x1), .val (.ref x2)] [] := by (first | (simp [entryFrame, mkF, argsToLocals, Value.category]; done) | rfl)
def QPutS (Z : State) (b1 : Addr) (v1 : Addr) (k1 : ClassId) (cp : Nat) (ct : Nat) (vs : List Value) (x1 : Addr) (t1 : Addr) (kx : ClassId) (nx : Nat) (xs : List Value) (zc : Int32) (h0 : Heap) (n0 : Nat) (v : Option Value) (h : Heap) (L : List Loc) : Prop := v = none ∧ Fr n0 L ∧ Keep h0 h [v1] ∧ Arv Z h v1 k1 .byte (Int32.ofNat cp) (vs.take ct ++ xs ++ vs.drop (ct + nx)) (.int (0 : Int32))
theorem d15_0 : decode jdk_68_method_73_code 0 = .ok (.aload_n 0, 1) := by decide +kernel
theorem d15_1 : decode jdk_68_method_73_code 1 = .ok (.aload_n 2, 1) := by decide +kernel
theorem d15_2 : decode jdk_68_method_73_code 2 = .ok (.invokevirtual 397, 3) := by decide +kernel
theorem pd__Ljava_lang_String__V : parseMethodDescriptor "(Ljava/lang/String;)V" = some ⟨[(.object "java/lang/String")], none⟩ := by decide +kernel
theorem d15_5 : decode jdk_68_method_73_code 5 = .ok (.aload_n 2, 1) := by decide +kernel
theorem d15_6 : decode jdk_68_method_73_code 6 = .ok (.aload_n 0, 1) := by decide +kernel
theorem d15_7 : decode jdk_68_method_73_code 7 = .ok (.getfield 15, 3) := by decide +kernel
theorem d15_10 : decode jdk_68_method_73_code 10 = .ok (.iload_n 1, 1) := by decide +kernel
theorem d15_11 : decode jdk_68_method_73_code 11 = .ok (.aload_n 0, 1) := by decide +kernel
theorem d15_12 : decode jdk_68_method_73_code 12 = .ok (.getfield 22, 3) := by decide +kernel
theorem d15_15 : decode jdk_68_method_73_code 15 = .ok (.invokevirtual 399, 3) := by decide +kernel
theorem pd___BIB_V : parseMethodDescriptor "([BIB)V" = some ⟨[(.array .byte), .int, .byte], none⟩ := by decide +kernel
theorem d15_18 : decode jdk_68_method_73_code 18 = .ok (.return_, 1) := by decide +kernel
set_option maxRecDepth 65536 in
set_option maxHeartbeats 40000000 in
theorem rmPutS (l : Launch) (Z : State) (a0 : Array Value) (hw : ∀ d ∈ tables_1, d.before a0 Z = true) (ws : List Jvm.Cond) (b1 : Addr) (v1 : Addr) (k1 : ClassId) (cp : Nat) (ct : Nat) (vs : List Value) (x1 : Addr) (t1 : Addr) (kx : ClassId) (nx : Nat) (xs : List Value) (zc : Int32) (h0 : Heap) (n0 : Nat) (Z0 : n0 ≤ h0.size) (BE : Exa Z h0 b1 "java/lang/StringBuilder") (BV : Fld Z h0 b1 "java/lang/AbstractStringBuilder" "value" "[B" (.ref v1)) (BC : Fld Z h0 b1 "java/lang/AbstractStringBuilder" "coder" "B" (.int (0 : Int32))) (BN : Fld Z h0 b1 "java/lang/AbstractStringBuilder" "count" "I" (.int (Int32.ofNat ct))) (BA : Arv Z h0 v1 k1 .byte (Int32.ofNat cp) vs (.int (0 : Int32))) (BX : Exa Z h0 v1 "[B") (hvl : vs.length = cp) (hcp : cp ≤ 1000) (g_b1 : n0 ≤ b1) (g_v1 : n0 ≤ v1) (XE : Exa Z h0 x1 "java/lang/String") (XV : Fld Z h0 x1 "java/lang/String" "value" "[B" (.ref t1)) (XC : Fld Z h0 x1 "java/lang/String" "coder" "B" (.int (0 : Int32))) (XA : Arv Z h0 t1 kx .byte (Int32.ofNat nx) xs (.int (0 : Int32))) (hxl : xs.length = nx) (hnx : nx ≤ 1000) (hfit : ct + nx ≤ cp) (OZ : Old Z n0 h0) (SC : Sta Z Z.heap "java/lang/String" "COMPACT_STRINGS" "Z" (.int zc)) (hzc : ¬ zc = (0 : Int32)) :
    MetFree l (⟨"java/lang/AbstractStringBuilder", "putStringAt", "(ILjava/lang/String;)V"⟩ : MethodName) (head1 (Jvm.Cond.code (⟨"java/lang/AbstractStringBuilder", "putStringAt", "(ILjava/lang/String;)V"⟩ : MethodName) jdk_68_method_73_code 3 none :: ws) ({ frames := 2, cells := 0, slots := 0, locals := 64 } : Room)) (fun a U => a = #[(.ref b1), (.int (Int32.ofNat ct)), (.ref x1)] ∧ Z.Warmed39 U.vm ∧ U.heap = h0) (fun _ _ _ _ _ => True) (fun _ U o U' => ∃ v L, o = .returned v ∧ QPutS Z b1 v1 k1 cp ct vs x1 t1 kx nx xs zc h0 n0 v U'.heap L ∧ FrameEnd U o U' L ({ frames := 2, cells := 0, slots := 0, locals := 64 } : Room).cells ({ frames := 2, cells := 0, slots := 0, locals := 64 } : Room).slots) := by
  refine MetFree.of_bodySF (plainFor_of_name pn_java_lang_AbstractStringBuilder) hisR ?_
  intro p e s m args below meth c s₁ Bd hml0 hP hK
  obtain ⟨rfl, hZ, hh⟩ := hP
  have hx := Bd.exec
  have hby := Bd.bytes
  have hml : c.maxLocals = 3 := hml0
  have hown : s.vm.findClass "java/lang/AbstractStringBuilder" = some m.cls := findClass_of_methodNamed Bd.named
  have hnm := (name_of_methodNamed Bd.named Bd.method).1
  have X0 : Stand p l e ({ frames := 2, cells := 0, slots := 0, locals := 64 } : Room) s m #[(.ref b1), (.int (Int32.ofNat ct)), (.ref x1)] below meth c s₁ [] 0 0 := Stand.of_body Bd
  have e0 : s₁.heap = h0 := by rw [← hh, Bd.state]; rfl
  have N0 := Fr.nil n0
  have pre0 : ∀ t, Steps p.tables e below (s₁.setTop (mkF m 0 #[.val (.ref b1), .val (.int (Int32.ofNat ct)), .val (.ref x1)] [])) t → Steps p.tables e below (s₁.setTop (entryFrame m #[(.ref b1), (.int (Int32.ofNat ct)), (.ref x1)] 3)) t := fun t k => castTop (ef_PutS m b1 (Int32.ofNat ct) x1) k
  have mem_v1 : v1 ∈ [v1] := List.mem_of_getElem? (i := 0) rfl
  obtain ⟨cq68, q68, q68'⟩ := BE.cell
  obtain ⟨_, _, ⟨T68, L68, k68, n68⟩, -, X68, ⟨Lc68, hQ68, l68, y68, z68⟩, st68⟩ := X0.privateBack hx (y := (⟨"java/lang/AbstractStringBuilder", "inflateIfNeededFor", "(Ljava/lang/String;)V"⟩ : MethodName)) hown (mvT hZ (hw _ (List.mem_of_getElem? (i := 100) rfl))) (mvT hZ (hw _ (List.mem_of_getElem? (i := 101) rfl))) (own_selP (mvT hZ (hw _ (List.mem_of_getElem? (i := 103) rfl))) (Cond.privateMethod_at (mvP hZ (hw _ (List.mem_of_getElem? (i := 102) rfl)) (args := #[]))) (mvT hZ (hw _ (List.mem_of_getElem? (i := 101) rfl))) (by decide)) (Cond.privateMethod_at (mvP hZ (hw _ (List.mem_of_getElem? (i := 102) rfl)) (args := #[]))) (mvT hZ (hw _ (List.mem_of_getElem? (i := 104) rfl))) (by decide) (backOf (W := 0) (rmInf l Z a0 hw [] b1 v1 k1 cp ct vs x1 t1 kx nx xs zc h0 n0 Z0 BE BV BC BN BA BX hvl hcp g_b1 g_v1 XE XV XC XA hxl hnx OZ SC hzc) hZ (hw _ (List.mem_of_getElem? (i := 104) rfl)) (hw _ (List.mem_of_getElem? (i := 28) rfl)) (by decide) (by decide)) (g := (mkF m 2 #[.val (.ref b1), .val (.int (Int32.ofNat ct)), .val (.ref x1)] [(.ref x1), (.ref b1)])) rfl (by rw [hml]; rfl) (Steps.refl _) (a := b1) (by rw [e0]; exact q68) q68' (argsL := [(.ref x1)]) (rest := []) (lenOf pd__Ljava_lang_String__V rfl) rfl (by show 2 * 0 + _ ≤ _; exact Nat.le_of_eq rfl) (hb hby d15_2) (fun _ _ => ⟨rfl, e0, (by decide : 0 + 0 ≤ _), (by decide : 0 + 0 ≤ _)⟩)
  dsimp only [Pt.U, Pt.locs, Pt.cells, Pt.slots] at X68 l68 y68 z68 st68 hQ68
  subst l68 y68 z68
  obtain ⟨rfl, N68q, EQ68⟩ := hQ68
  have N68 := Fr.app N0 N68q
  have Z68 : n0 ≤ T68.heap.size := by rw [EQ68]; exact Z0
  have K68 := own_keq EQ68 (Keep.refl h0 [v1])
  have f69 := (EQ68 ▸ BV)
  obtain ⟨T70, X70, e70, st70⟩ := getF X68 hx hZ hown (host := "") (Or.inl (hw _ (List.mem_of_getElem? (i := 32) rfl))) Via.refl rfl f69 (g := (mkF m 7 #[.val (.ref b1), .val (.int (Int32.ofNat ct)), .val (.ref x1)] [(.ref b1), (.ref x1)])) rfl rfl (hb hby d15_7)
  have f71 := (EQ68 ▸ BC)
  obtain ⟨T72, X72, e72, st72⟩ := getF X70 hx hZ hown (host := "") (Or.inl (hw _ (List.mem_of_getElem? (i := 34) rfl))) Via.refl e70 f71 (g := (mkF m 12 #[.val (.ref b1), .val (.int (Int32.ofNat ct)), .val (.ref x1)] [(.ref b1), (.int (Int32.ofNat ct)), (.ref v1), (.ref x1)])) rfl rfl (hb hby d15_12)
  have f73 := (EQ68 ▸ XE)
  have f74 := (EQ68 ▸ XV)
  have f75 := (EQ68 ▸ XC)
  have f76 := (EQ68 ▸ XA)
  have f77 := (EQ68 ▸ BA)
  have f78 := (EQ68 ▸ OZ)
  obtain ⟨cq79, kq79, q79a, q79b, q79c⟩ := isOf hZ e72 f73
  obtain ⟨_, _, ⟨T79, L79, k79, n79⟩, -, X79, ⟨Lc79, hQ79, l79, y79, z79⟩, st79⟩ := X72.virtualBack hx (y := (⟨"java/lang/String", "getBytes", "([BIB)V"⟩ : MethodName)) (z := (⟨"java/lang/String", "getBytes", "([BIB)V"⟩ : MethodName)) hown (mvT hZ (hw _ (List.mem_of_getElem? (i := 106) rfl))) (mvT hZ (hw _ (List.mem_of_getElem? (i := 107) rfl))) (notFace_of_selects (args := #[]) (mvT hZ (hw _ (List.mem_of_getElem? (i := 109) rfl)))) (mvT hZ (hw _ (List.mem_of_getElem? (i := 109) rfl))) (mvT hZ (hw _ (List.mem_of_getElem? (i := 108) rfl))) (by decide) (backOf (W := 0) (rmGetB l Z a0 hw [] x1 t1 kx nx xs v1 k1 cp ct vs zc T68.heap n0 Z68 f73 f74 f75 f76 hxl hnx f77 hvl hcp g_v1 hfit f78 SC hzc) hZ (hw _ (List.mem_of_getElem? (i := 110) rfl)) (hw _ (List.mem_of_getElem? (i := 5) rfl)) (by decide) (by decide)) q79a q79c (g := (mkF m 15 #[.val (.ref b1), .val (.int (Int32.ofNat ct)), .val (.ref x1)] [(.int (0 : Int32)), (.int (Int32.ofNat ct)), (.ref v1), (.ref x1)])) rfl (by rw [hml]; rfl) (Steps.refl _) (argsL := [(.ref v1), (.int (Int32.ofNat ct)), (.int (0 : Int32))]) (rest := []) (lenOf pd___BIB_V rfl) rfl (by show 2 * 0 + _ ≤ _; exact Nat.le_of_eq rfl) (hb hby d15_15) (fun _ _ => ⟨rfl, e72, (by decide : 0 + 0 ≤ _), (by decide : 0 + 0 ≤ _)⟩)
  dsimp only [Pt.U, Pt.locs, Pt.cells, Pt.slots] at X79 l79 y79 z79 st79 hQ79
  subst l79 y79 z79
  obtain ⟨rfl, N79q, KC79, V2⟩ := hQ79
  have N79 := Fr.app N68 N79q
  have Z79 := Nat.le_trans Z68 KC79.1
  have K79 := K68.trans KC79 (allS (Or.inl mem_v1) all0)
  have pre80 : ∀ t, Steps p.tables e below (T79.setTop (mkF m 18 #[.val (.ref b1), .val (.int (Int32.ofNat ct)), .val (.ref x1)] [])) t → Steps p.tables e below (s₁.setTop (mkF m 0 #[.val (.ref b1), .val (.int (Int32.ofNat ct)), .val (.ref x1)] [])) t := by
    intro t kt
    show Steps p.tables e below (s₁.setTop (mkF m 0 #[.val (.ref b1), .val (.int (Int32.ofNat ct)), .val (.ref x1)] [])) _
    refine XS.aloadN X0.here hx rfl (hb hby d15_0) rfl rfl ?_
    show Steps p.tables e below (s₁.setTop (mkF m 1 #[.val (.ref b1), .val (.int (Int32.ofNat ct)), .val (.ref x1)] [(.ref b1)])) _
    refine XS.aloadN X0.here hx rfl (hb hby d15_1) rfl rfl ?_
    show Steps p.tables e below (s₁.setTop (mkF m 2 #[.val (.ref b1), .val (.int (Int32.ofNat ct)), .val (.ref x1)] [(.ref x1), (.ref b1)])) _
    refine st68.trans ?_
    show Steps p.tables e below (T68.setTop (mkF m 5 #[.val (.ref b1), .val (.int (Int32.ofNat ct)), .val (.ref x1)] [])) _
    refine XS.aloadN X68.here hx rfl (hb hby d15_5) rfl rfl ?_
    show Steps p.tables e below (T68.setTop (mkF m 6 #[.val (.ref b1), .val (.int (Int32.ofNat ct)), .val (.ref x1)] [(.ref x1)])) _
    refine XS.aloadN X68.here hx rfl (hb hby d15_6) rfl rfl ?_
    show Steps p.tables e below (T68.setTop (mkF m 7 #[.val (.ref b1), .val (.int (Int32.ofNat ct)), .val (.ref x1)] [(.ref b1), (.ref x1)])) _
    refine st70 _ ?_
    show Steps p.tables e below (T70.setTop (mkF m 10 #[.val (.ref b1), .val (.int (Int32.ofNat ct)), .val (.ref x1)] [(.ref v1), (.ref x1)])) _
    refine XS.iloadN X70.here hx rfl (hb hby d15_10) rfl ?_
    show Steps p.tables e below (T70.setTop (mkF m 11 #[.val (.ref b1), .val (.int (Int32.ofNat ct)), .val (.ref x1)] [(.int (Int32.ofNat ct)), (.ref v1), (.ref x1)])) _
    refine XS.aloadN X70.here hx rfl (hb hby d15_11) rfl rfl ?_
    show Steps p.tables e below (T70.setTop (mkF m 12 #[.val (.ref b1), .val (.int (Int32.ofNat ct)), .val (.ref x1)] [(.ref b1), (.int (Int32.ofNat ct)), (.ref v1), (.ref x1)])) _
    refine st72 _ ?_
    show Steps p.tables e below (T72.setTop (mkF m 15 #[.val (.ref b1), .val (.int (Int32.ofNat ct)), .val (.ref x1)] [(.int (0 : Int32)), (.int (Int32.ofNat ct)), (.ref v1), (.ref x1)])) _
    refine st79.trans ?_
    exact kt
  obtain ⟨fs, hr, hrun, hended, hW, hsame⟩ := X79.leave (v := none) (fun _ => rfl)
  refine ⟨_, _, (pre0 _ (pre80 _ ?_)), hrun, hended, _, _, rfl, ?_, ⟨_, rfl⟩, hW, hsame.mono (by decide) (by decide)⟩
  · show Steps p.tables e below (T79.setTop (mkF m 18 #[.val (.ref b1), .val (.int (Int32.ofNat ct)), .val (.ref x1)] [])) _
    exact X79.returnOut hx Bd.returns (hb hby d15_18) hr
  · show QPutS Z b1 v1 k1 cp ct vs x1 t1 kx nx xs zc h0 n0 _ T79.heap _
    exact ⟨rfl, N79, K79, V2⟩
theorem ef_AApS (m : MethodId) (x0 : Addr) (x1 : Addr) : entryFrame m #[(.ref x0), (.ref x1)] 3 = mkF m 0 #[.val (.ref x0), .val (.ref x1), .unset] [] := by (first | (simp [entryFrame, mkF, argsToLocals, Value.category]; done) | rfl)
def QAApS (Z : State) (b1 : Addr) (v1 : Addr) (k1 : ClassId) (cp : Nat) (ct : Nat) (vs : List Value) (x1 : Addr) (t1 : Addr) (kx : ClassId) (nx : Nat) (xs : List Value) (zc : Int32) (h0 : Heap) (n0 : Nat) (v : Option Value) (h : Heap) (L : List Loc) : Prop := v = some (.ref b1) ∧ Fr n0 L ∧ Keep h0 h [b1, v1] ∧ ∃ (v2 : Addr) (k2 : ClassId) (ws2 : List Value), (Exa Z h b1 "java/lang/StringBuilder" ∧ Fld Z h b1 "java/lang/AbstractStringBuilder" "value" "[B" (.ref v2) ∧ Fld Z h b1 "java/lang/AbstractStringBuilder" "coder" "B" (.int (0 : Int32)) ∧ Fld Z h b1 "java/lang/AbstractStringBuilder" "count" "I" (.int (Int32.ofNat (ct + nx))) ∧ Arv Z h v2 k2 .byte (Int32.ofNat (own_gr cp (ct + nx))) ws2 (.int (0 : Int32)) ∧ Exa Z h v2 "[B") ∧ ws2.length = own_gr cp (ct + nx) ∧ ws2.take (ct + nx) = vs.take ct ++ xs ∧ n0 ≤ v2 ∧ (v2 = v1 ∨ h0.size ≤ v2)
theorem d6_0 : decode jdk_68_method_22_code 0 = .ok (.aload_n 1, 1) := by decide +kernel
theorem d6_1 : decode jdk_68_method_22_code 1 = .ok (.ifnonnull 8, 3) := by decide +kernel
theorem d6_9 : decode jdk_68_method_22_code 9 = .ok (.aload_n 1, 1) := by decide +kernel
theorem d6_10 : decode jdk_68_method_22_code 10 = .ok (.invokevirtual 32, 3) := by decide +kernel
theorem pd___I : parseMethodDescriptor "()I" = some ⟨[], some .int⟩ := by decide +kernel
theorem d6_13 : decode jdk_68_method_22_code 13 = .ok (.istore_n 2, 1) := by decide +kernel
theorem d6_14 : decode jdk_68_method_22_code 14 = .ok (.aload_n 0, 1) := by decide +kernel
theorem d6_15 : decode jdk_68_method_22_code 15 = .ok (.aload_n 0, 1) := by decide +kernel
theorem d6_16 : decode jdk_68_method_22_code 16 = .ok (.getfield 79, 3) := by decide +kernel
theorem d6_19 : decode jdk_68_method_22_code 19 = .ok (.iload_n 2, 1) := by decide +kernel
theorem d6_20 : decode jdk_68_method_22_code 20 = .ok (.iadd, 1) := by decide +kernel
theorem d6_21 : decode jdk_68_method_22_code 21 = .ok (.invokevirtual 100, 3) := by decide +kernel
theorem pd__I_V : parseMethodDescriptor "(I)V" = some ⟨[.int], none⟩ := by decide +kernel
theorem d6_24 : decode jdk_68_method_22_code 24 = .ok (.aload_n 0, 1) := by decide +kernel
theorem d6_25 : decode jdk_68_method_22_code 25 = .ok (.aload_n 0, 1) := by decide +kernel
theorem d6_26 : decode jdk_68_method_22_code 26 = .ok (.getfield 79, 3) := by decide +kernel
theorem d6_29 : decode jdk_68_method_22_code 29 = .ok (.aload_n 1, 1) := by decide +kernel
theorem d6_30 : decode jdk_68_method_22_code 30 = .ok (.invokevirtual 208, 3) := by decide +kernel
theorem pd__ILjava_lang_String__V : parseMethodDescriptor "(ILjava/lang/String;)V" = some ⟨[.int, (.object "java/lang/String")], none⟩ := by decide +kernel
theorem d6_33 : decode jdk_68_method_22_code 33 = .ok (.aload_n 0, 1) := by decide +kernel
theorem d6_34 : decode jdk_68_method_22_code 34 = .ok (.dup, 1) := by decide +kernel
theorem d6_35 : decode jdk_68_method_22_code 35 = .ok (.getfield 79, 3) := by decide +kernel
theorem d6_38 : decode jdk_68_method_22_code 38 = .ok (.iload_n 2, 1) := by decide +kernel
theorem d6_39 : decode jdk_68_method_22_code 39 = .ok (.iadd, 1) := by decide +kernel
theorem d6_40 : decode jdk_68_method_22_code 40 = .ok (.putfield 79, 3) := by decide +kernel
theorem d6_43 : decode jdk_68_method_22_code 43 = .ok (.aload_n 0, 1) := by decide +kernel
theorem d6_44 : decode jdk_68_method_22_code 44 = .ok (.areturn, 1) := by decide +kernel
set_option maxRecDepth 65536 in
set_option maxHeartbeats 40000000 in
theorem rmAApS (l : Launch) (Z : State) (a0 : Array Value) (hw : ∀ d ∈ tables_1, d.before a0 Z = true) (ws : List Jvm.Cond) (b1 : Addr) (v1 : Addr) (k1 : ClassId) (cp : Nat) (ct : Nat) (vs : List Value) (x1 : Addr) (t1 : Addr) (kx : ClassId) (nx : Nat) (xs : List Value) (zc : Int32) (h0 : Heap) (n0 : Nat) (Z0 : n0 ≤ h0.size) (BE : Exa Z h0 b1 "java/lang/StringBuilder") (BV : Fld Z h0 b1 "java/lang/AbstractStringBuilder" "value" "[B" (.ref v1)) (BC : Fld Z h0 b1 "java/lang/AbstractStringBuilder" "coder" "B" (.int (0 : Int32))) (BN : Fld Z h0 b1 "java/lang/AbstractStringBuilder" "count" "I" (.int (Int32.ofNat ct))) (BA : Arv Z h0 v1 k1 .byte (Int32.ofNat cp) vs (.int (0 : Int32))) (BX : Exa Z h0 v1 "[B") (hvl : vs.length = cp) (hcp : cp ≤ 1000) (g_b1 : n0 ≤ b1) (g_v1 : n0 ≤ v1) (XE : Exa Z h0 x1 "java/lang/String") (XV : Fld Z h0 x1 "java/lang/String" "value" "[B" (.ref t1)) (XC : Fld Z h0 x1 "java/lang/String" "coder" "B" (.int (0 : Int32))) (XA : Arv Z h0 t1 kx .byte (Int32.ofNat nx) xs (.int (0 : Int32))) (hxl : xs.length = nx) (hnx : nx ≤ 1000) (ntv : t1 ≠ v1) (hct : ct ≤ cp) (hgM : ct + nx ≤ cp ∨ max (ct + nx) (2 * cp + 2) ≤ 304) (hnM : ct + nx ≤ 1000) (OZ : Old Z n0 h0) (SC : Sta Z Z.heap "java/lang/String" "COMPACT_STRINGS" "Z" (.int zc)) (hzc : ¬ zc = (0 : Int32)) :
    MetFree l (⟨"java/lang/AbstractStringBuilder", "append", "(Ljava/lang/String;)Ljava/lang/AbstractStringBuilder;"⟩ : MethodName) (head1 (Jvm.Cond.code (⟨"java/lang/AbstractStringBuilder", "append", "(Ljava/lang/String;)Ljava/lang/AbstractStringBuilder;"⟩ : MethodName) jdk_68_method_22_code 3 (some (.object "java/lang/AbstractStringBuilder")) :: ws) ({ frames := 4, cells := 1, slots := 304, locals := 110 } : Room)) (fun a U => a = #[(.ref b1), (.ref x1)] ∧ Z.Warmed39 U.vm ∧ U.heap = h0) (fun _ _ _ _ _ => True) (fun _ U o U' => ∃ v L, o = .returned v ∧ QAApS Z b1 v1 k1 cp ct vs x1 t1 kx nx xs zc h0 n0 v U'.heap L ∧ FrameEnd U o U' L ({ frames := 4, cells := 1, slots := 304, locals := 110 } : Room).cells ({ frames := 4, cells := 1, slots := 304, locals := 110 } : Room).slots) := by
  refine MetFree.of_bodySF (plainFor_of_name pn_java_lang_AbstractStringBuilder) hisR ?_
  intro p e s m args below meth c s₁ Bd hml0 hP hK
  obtain ⟨rfl, hZ, hh⟩ := hP
  have hx := Bd.exec
  have hby := Bd.bytes
  have hml : c.maxLocals = 3 := hml0
  have hown : s.vm.findClass "java/lang/AbstractStringBuilder" = some m.cls := findClass_of_methodNamed Bd.named
  have hnm := (name_of_methodNamed Bd.named Bd.method).1
  have X0 : Stand p l e ({ frames := 4, cells := 1, slots := 304, locals := 110 } : Room) s m #[(.ref b1), (.ref x1)] below meth c s₁ [] 0 0 := Stand.of_body Bd
  have e0 : s₁.heap = h0 := by rw [← hh, Bd.state]; rfl
  have N0 := Fr.nil n0
  have pre0 : ∀ t, Steps p.tables e below (s₁.setTop (mkF m 0 #[.val (.ref b1), .val (.ref x1), .unset] [])) t → Steps p.tables e below (s₁.setTop (entryFrame m #[(.ref b1), (.ref x1)] 3)) t := fun t k => castTop (ef_AApS m b1 x1) k
  have ne_b1_v1 : b1 ≠ v1 := BE.neArv BA (hw _ (List.mem_of_getElem? (i := 19) rfl))
  have ne_x1_t1 : x1 ≠ t1 := XE.neArv XA (hw _ (List.mem_of_getElem? (i := 6) rfl))
  have ne_x1_b1 : x1 ≠ b1 := XE.ne BE (by decide)
  have ne_b1_t1 : b1 ≠ t1 := BE.neArv XA (hw _ (List.mem_of_getElem? (i := 19) rfl))
  have ne_x1_v1 : x1 ≠ v1 := XE.neArv BA (hw _ (List.mem_of_getElem? (i := 6) rfl))
  have mem_b1 : b1 ∈ [b1, v1] := List.mem_of_getElem? (i := 0) rfl
  have mem_v1 : v1 ∈ [b1, v1] := List.mem_of_getElem? (i := 1) rfl
  obtain ⟨cq81, kq81, q81a, q81b, q81c⟩ := isOf hZ e0 XE
  obtain ⟨_, _, ⟨T81, L81, k81, n81⟩, -, X81, ⟨Lc81, hQ81, l81, y81, z81⟩, st81⟩ := X0.virtualBack hx (y := (⟨"java/lang/String", "length", "()I"⟩ : MethodName)) (z := (⟨"java/lang/String", "length", "()I"⟩ : MethodName)) hown (mvT hZ (hw _ (List.mem_of_getElem? (i := 49) rfl))) (mvT hZ (hw _ (List.mem_of_getElem? (i := 50) rfl))) (notFace_of_selects (args := #[]) (mvT hZ (hw _ (List.mem_of_getElem? (i := 52) rfl)))) (mvT hZ (hw _ (List.mem_of_getElem? (i := 52) rfl))) (mvT hZ (hw _ (List.mem_of_getElem? (i := 51) rfl))) (by decide) (backOf (W := 0) (rmLen l Z a0 hw [] x1 t1 kx (Int32.ofNat nx) xs zc h0 n0 Z0 (SC.ext OZ.2) hzc XC XV XE XA) hZ (hw _ (List.mem_of_getElem? (i := 53) rfl)) (hw _ (List.mem_of_getElem? (i := 5) rfl)) (by decide) (by decide)) q81a q81c (g := (mkF m 10 #[.val (.ref b1), .val (.ref x1), .unset] [(.ref x1)])) rfl (by rw [hml]; rfl) (Steps.refl _) (argsL := []) (rest := []) (lenOf pd___I rfl) rfl (by show 2 * 0 + _ ≤ _; exact Nat.le_of_eq rfl) (hb hby d6_10) (fun _ _ => ⟨rfl, e0, (by decide : 0 + 0 ≤ _), (by decide : 0 + 0 ≤ _)⟩)
  dsimp only [Pt.U, Pt.locs, Pt.cells, Pt.slots] at X81 l81 y81 z81 st81 hQ81
  subst l81 y81 z81
  obtain ⟨rfl, N81q, EQ81⟩ := hQ81
  have N81 := Fr.app N0 N81q
  have Z81 : n0 ≤ T81.heap.size := by rw [EQ81]; exact Z0
  have K81 := own_keq EQ81 (Keep.refl h0 [b1, v1])
  have f82 := (EQ81 ▸ BN)
  obtain ⟨T83, X83, e83, st83⟩ := getF X81 hx hZ hown (host := "") (Or.inl (hw _ (List.mem_of_getElem? (i := 62) rfl))) Via.refl rfl f82 (g := (mkF m 16 #[.val (.ref b1), .val (.ref x1), .val (.int (Int32.ofNat nx))] [(.ref b1), (.ref b1)])) rfl rfl (hb hby d6_16)
  have f84 := (EQ81 ▸ XA)
  have ltt : t1 < T81.heap.size := f84.lt
  have hsz := K81.1
  have f85 := (EQ81 ▸ BE)
  have f86 := (EQ81 ▸ BV)
  have f87 := (EQ81 ▸ BC)
  have f88 := (EQ81 ▸ BA)
  have f89 := (EQ81 ▸ BX)
  obtain ⟨cq90, q90, q90'⟩ := f85.cell
  obtain ⟨_, _, ⟨T90, L90, k90, n90⟩, -, X90, ⟨Lc90, hQ90, l90, y90, z90⟩, st90⟩ := X83.privateBack hx (y := (⟨"java/lang/AbstractStringBuilder", "ensureCapacityInternal", "(I)V"⟩ : MethodName)) hown (mvT hZ (hw _ (List.mem_of_getElem? (i := 64) rfl))) (mvT hZ (hw _ (List.mem_of_getElem? (i := 65) rfl))) (own_selP (mvT hZ (hw _ (List.mem_of_getElem? (i := 67) rfl))) (Cond.privateMethod_at (mvP hZ (hw _ (List.mem_of_getElem? (i := 66) rfl)) (args := #[]))) (mvT hZ (hw _ (List.mem_of_getElem? (i := 65) rfl))) (by decide)) (Cond.privateMethod_at (mvP hZ (hw _ (List.mem_of_getElem? (i := 66) rfl)) (args := #[]))) (mvT hZ (hw _ (List.mem_of_getElem? (i := 68) rfl))) (by decide) (backOf (W := 0) (rmEns l Z a0 hw [] b1 v1 k1 cp ct vs (ct + nx) T81.heap n0 Z81 f85 f86 f87 f82 f88 f89 hvl hcp g_b1 g_v1 (by omega) hgM) hZ (hw _ (List.mem_of_getElem? (i := 68) rfl)) (hw _ (List.mem_of_getElem? (i := 28) rfl)) (by decide) (by decide)) (g := (mkF m 21 #[.val (.ref b1), .val (.ref x1), .val (.int (Int32.ofNat nx))] [(.int (Int32.ofNat (ct + nx))), (.ref b1)])) rfl (by rw [hml]; rfl) (Steps.refl _) (a := b1) (by rw [e83]; exact q90) q90' (argsL := [(.int (Int32.ofNat (ct + nx)))]) (rest := []) (lenOf pd__I_V rfl) rfl (by show 2 * 0 + _ ≤ _; exact Nat.le_of_eq rfl) (hb hby d6_21) (fun _ _ => ⟨rfl, e83, (by decide : 0 + 1 ≤ _), (by decide : 0 + 304 ≤ _)⟩)
  dsimp only [Pt.U, Pt.locs, Pt.cells, Pt.slots] at X90 l90 y90 z90 st90 hQ90
  subst l90 y90 z90
  obtain ⟨rfl, N90q, KC90, v2, k2, wa, ⟨E2, V2, C2, N2, A2, X2⟩, l2, tk2, g_v2, hv2⟩ := hQ90
  have N90 := Fr.app N81 N90q
  have Z90 := Nat.le_trans Z81 KC90.1
  have K90 := K81.trans KC90 (allS (Or.inl mem_b1) all0)
  have ne_b1_v2 : b1 ≠ v2 := E2.neArv A2 (hw _ (List.mem_of_getElem? (i := 19) rfl))
  have hgl := @own_grle cp (ct + nx)
  have hgm : own_gr cp (ct + nx) ≤ 1000 := own_grM hcp (by decide) hgM
  have ne_t1_v2 : t1 ≠ v2 := hv2.elim (fun q => by rw [q]; exact ntv) (fun q => Nat.ne_of_lt (Nat.lt_of_lt_of_le ltt q))
  have f91 := ((EQ81 ▸ XE).keep KC90)
  have ne_x1_v2 : x1 ≠ v2 := Exa.neArv f91 A2 (hw _ (List.mem_of_getElem? (i := 6) rfl))
  obtain ⟨T92, X92, e92, st92⟩ := getF X90 hx hZ hown (host := "") (Or.inl (hw _ (List.mem_of_getElem? (i := 62) rfl))) Via.refl rfl N2 (g := (mkF m 26 #[.val (.ref b1), .val (.ref x1), .val (.int (Int32.ofNat nx))] [(.ref b1), (.ref b1)])) rfl rfl (hb hby d6_26)
  have f93 := ((EQ81 ▸ XV).keep KC90 (ninS ne_x1_b1 nin0))
  have f94 := ((EQ81 ▸ XC).keep KC90 (ninS ne_x1_b1 nin0))
  have f95 := (f84.keep KC90 (ninS (Ne.symm ne_b1_t1) nin0))
  have f96 := ((EQ81 ▸ OZ).keep KC90 (allS g_b1 all0))
  obtain ⟨cq97, q97, q97'⟩ := E2.cell
  obtain ⟨_, _, ⟨T97, L97, k97, n97⟩, -, X97, ⟨Lc97, hQ97, l97, y97, z97⟩, st97⟩ := X92.privateBack hx (y := (⟨"java/lang/AbstractStringBuilder", "putStringAt", "(ILjava/lang/String;)V"⟩ : MethodName)) hown (mvT hZ (hw _ (List.mem_of_getElem? (i := 95) rfl))) (mvT hZ (hw _ (List.mem_of_getElem? (i := 96) rfl))) (own_selP (mvT hZ (hw _ (List.mem_of_getElem? (i := 98) rfl))) (Cond.privateMethod_at (mvP hZ (hw _ (List.mem_of_getElem? (i := 97) rfl)) (args := #[]))) (mvT hZ (hw _ (List.mem_of_getElem? (i := 96) rfl))) (by decide)) (Cond.privateMethod_at (mvP hZ (hw _ (List.mem_of_getElem? (i := 97) rfl)) (args := #[]))) (mvT hZ (hw _ (List.mem_of_getElem? (i := 99) rfl))) (by decide) (backOf (W := 0) (rmPutS l Z a0 hw [] b1 v2 k2 (own_gr cp (ct + nx)) ct wa x1 t1 kx nx xs zc T90.heap n0 Z90 E2 V2 C2 N2 A2 X2 l2 hgm g_b1 g_v2 f91 f93 f94 f95 hxl hnx (by omega) f96 SC hzc) hZ (hw _ (List.mem_of_getElem? (i := 99) rfl)) (hw _ (List.mem_of_getElem? (i := 28) rfl)) (by decide) (by decide)) (g := (mkF m 30 #[.val (.ref b1), .val (.ref x1), .val (.int (Int32.ofNat nx))] [(.ref x1), (.int (Int32.ofNat ct)), (.ref b1)])) rfl (by rw [hml]; rfl) (Steps.refl _) (a := b1) (by rw [e92]; exact q97) q97' (argsL := [(.int (Int32.ofNat ct)), (.ref x1)]) (rest := []) (lenOf pd__ILjava_lang_String__V rfl) rfl (by show 2 * 0 + _ ≤ _; exact Nat.le_of_eq rfl) (hb hby d6_30) (fun _ _ => ⟨rfl, e92, (by decide : 1 + 0 ≤ _), (by decide : 304 + 0 ≤ _)⟩)
  dsimp only [Pt.U, Pt.locs, Pt.cells, Pt.slots] at X97 l97 y97 z97 st97 hQ97
  subst l97 y97 z97
  obtain ⟨rfl, N97q, KC97, A3⟩ := hQ97
  have N97 := Fr.app N90 N97q
  have Z97 := Nat.le_trans Z90 KC97.1
  have K97 := K90.trans KC97 (allS (hv2.imp (fun q => by rw [q]; exact mem_v1) (fun q => Nat.le_trans hsz q)) all0)
  have f98 := (N2.keep KC97 (ninS ne_b1_v2 nin0))
  obtain ⟨T99, X99, e99, st99⟩ := getF X97 hx hZ hown (host := "") (Or.inl (hw _ (List.mem_of_getElem? (i := 62) rfl))) Via.refl rfl f98 (g := (mkF m 35 #[.val (.ref b1), .val (.ref x1), .val (.int (Int32.ofNat nx))] [(.ref b1), (.ref b1)])) rfl rfl (hb hby d6_35)
  have f100 := (E2.keep KC97)
  obtain ⟨T101, h101, X101, e101, W101, st101⟩ := putF X99 hx hZ hown (host := "") (Or.inl (hw _ (List.mem_of_getElem? (i := 62) rfl))) Via.refl e99 f98 f100 (Or.inl (hw _ (List.mem_of_getElem? (i := 63) rfl))) (hw _ (List.mem_of_getElem? (i := 19) rfl)) (ty := .int) (by decide) rfl rfl (g := (mkF m 40 #[.val (.ref b1), .val (.ref x1), .val (.int (Int32.ofNat nx))] [(.int (Int32.ofNat (ct + nx))), (.ref b1)])) rfl rfl (hb hby d6_40)
  have N101 := Fr.snoc X101 N97 g_b1
  have Z101 := Nat.le_trans Z97 (Keep.of_wr W101).1
  have K101 := K97.wr W101 (Or.inl mem_b1)
  have Fw101 := f98.same W101
  have ap := own_app (xs := xs) (nx := nx) tk2 hct hxl (by omega)
  have f102 := (f100.wr W101)
  have f103 := ((V2.keep KC97 (ninS ne_b1_v2 nin0)).other W101 (Or.inr (slot_ne (Or.inl (hw _ (List.mem_of_getElem? (i := 33) rfl))) (Or.inl (hw _ (List.mem_of_getElem? (i := 63) rfl))) (by decide) (t := (.array .byte)) (t' := .int) (by decide) (by decide))))
  have f104 := ((C2.keep KC97 (ninS ne_b1_v2 nin0)).other W101 (Or.inr (slot_ne (Or.inl (hw _ (List.mem_of_getElem? (i := 35) rfl))) (Or.inl (hw _ (List.mem_of_getElem? (i := 63) rfl))) (by decide) (t := .byte) (t' := .int) (by decide) (by decide))))
  have f105 := (A3.other W101 (Ne.symm ne_b1_v2))
  have f106 := ((X2.keep KC97).wr W101)
  have pre107 : ∀ t, Steps p.tables e below (T101.setTop (mkF m 44 #[.val (.ref b1), .val (.ref x1), .val (.int (Int32.ofNat nx))] [(.ref b1)])) t → Steps p.tables e below (s₁.setTop (mkF m 0 #[.val (.ref b1), .val (.ref x1), .unset] [])) t := by
    intro t kt
    show Steps p.tables e below (s₁.setTop (mkF m 0 #[.val (.ref b1), .val (.ref x1), .unset] [])) _
    refine XS.aloadN X0.here hx rfl (hb hby d6_0) rfl rfl ?_
    show Steps p.tables e below (s₁.setTop (mkF m 1 #[.val (.ref b1), .val (.ref x1), .unset] [(.ref x1)])) _
    refine XS.ifnonnullYes X0.here hx rfl (pc0 := 1) (pc' := 9) rfl (hb hby d6_1) rfl (by decide) (by decide) ?_
    show Steps p.tables e below (s₁.setTop (mkF m 9 #[.val (.ref b1), .val (.ref x1), .unset] [])) _
    refine XS.aloadN X0.here hx rfl (hb hby d6_9) rfl rfl ?_
    show Steps p.tables e below (s₁.setTop (mkF m 10 #[.val (.ref b1), .val (.ref x1), .unset] [(.ref x1)])) _
    refine st81.trans ?_
    show Steps p.tables e below (T81.setTop (mkF m 13 #[.val (.ref b1), .val (.ref x1), .unset] [(.int (Int32.ofNat nx))])) _
    refine XS.istoreN X81.here hx rfl (hb hby d6_13) rfl (l' := #[.val (.ref b1), .val (.ref x1), .val (.int (Int32.ofNat nx))]) rfl ?_
    show Steps p.tables e below (T81.setTop (mkF m 14 #[.val (.ref b1), .val (.ref x1), .val (.int (Int32.ofNat nx))] [])) _
    refine XS.aloadN X81.here hx rfl (hb hby d6_14) rfl rfl ?_
    show Steps p.tables e below (T81.setTop (mkF m 15 #[.val (.ref b1), .val (.ref x1), .val (.int (Int32.ofNat nx))] [(.ref b1)])) _
    refine XS.aloadN X81.here hx rfl (hb hby d6_15) rfl rfl ?_
    show Steps p.tables e below (T81.setTop (mkF m 16 #[.val (.ref b1), .val (.ref x1), .val (.int (Int32.ofNat nx))] [(.ref b1), (.ref b1)])) _
    refine st83 _ ?_
    show Steps p.tables e below (T83.setTop (mkF m 19 #[.val (.ref b1), .val (.ref x1), .val (.int (Int32.ofNat nx))] [(.int (Int32.ofNat ct)), (.ref b1)])) _
    refine XS.iloadN X83.here hx rfl (hb hby d6_19) rfl ?_
    show Steps p.tables e below (T83.setTop (mkF m 20 #[.val (.ref b1), .val (.ref x1), .val (.int (Int32.ofNat nx))] [(.int (Int32.ofNat nx)), (.int (Int32.ofNat ct)), (.ref b1)])) _
    refine XS.iadd X83.here hx rfl (hb hby d6_20) rfl ?_
    show Steps p.tables e below (T83.setTop (mkF m 21 #[.val (.ref b1), .val (.ref x1), .val (.int (Int32.ofNat nx))] [(.int ((Int32.ofNat ct) + (Int32.ofNat nx))), (.ref b1)])) _
    rw [own_add]
    show Steps p.tables e below (T83.setTop (mkF m 21 #[.val (.ref b1), .val (.ref x1), .val (.int (Int32.ofNat nx))] [(.int (Int32.ofNat (ct + nx))), (.ref b1)])) _
    refine st90.trans ?_
    show Steps p.tables e below (T90.setTop (mkF m 24 #[.val (.ref b1), .val (.ref x1), .val (.int (Int32.ofNat nx))] [])) _
    refine XS.aloadN X90.here hx rfl (hb hby d6_24) rfl rfl ?_
    show Steps p.tables e below (T90.setTop (mkF m 25 #[.val (.ref b1), .val (.ref x1), .val (.int (Int32.ofNat nx))] [(.ref b1)])) _
    refine XS.aloadN X90.here hx rfl (hb hby d6_25) rfl rfl ?_
    show Steps p.tables e below (T90.setTop (mkF m 26 #[.val (.ref b1), .val (.ref x1), .val (.int (Int32.ofNat nx))] [(.ref b1), (.ref b1)])) _
    refine st92 _ ?_
    show Steps p.tables e below (T92.setTop (mkF m 29 #[.val (.ref b1), .val (.ref x1), .val (.int (Int32.ofNat nx))] [(.int (Int32.ofNat ct)), (.ref b1)])) _
    refine XS.aloadN X92.here hx rfl (hb hby d6_29) rfl rfl ?_
    show Steps p.tables e below (T92.setTop (mkF m 30 #[.val (.ref b1), .val (.ref x1), .val (.int (Int32.ofNat nx))] [(.ref x1), (.int (Int32.ofNat ct)), (.ref b1)])) _
    refine st97.trans ?_
    show Steps p.tables e below (T97.setTop (mkF m 33 #[.val (.ref b1), .val (.ref x1), .val (.int (Int32.ofNat nx))] [])) _
    refine XS.aloadN X97.here hx rfl (hb hby d6_33) rfl rfl ?_
    show Steps p.tables e below (T97.setTop (mkF m 34 #[.val (.ref b1), .val (.ref x1), .val (.int (Int32.ofNat nx))] [(.ref b1)])) _
    refine XS.dup X97.here hx rfl (hb hby d6_34) rfl rfl ?_
    show Steps p.tables e below (T97.setTop (mkF m 35 #[.val (.ref b1), .val (.ref x1), .val (.int (Int32.ofNat nx))] [(.ref b1), (.ref b1)])) _
    refine st99 _ ?_
    show Steps p.tables e below (T99.setTop (mkF m 38 #[.val (.ref b1), .val (.ref x1), .val (.int (Int32.ofNat nx))] [(.int (Int32.ofNat ct)), (.ref b1)])) _
    refine XS.iloadN X99.here hx rfl (hb hby d6_38) rfl ?_
    show Steps p.tables e below (T99.setTop (mkF m 39 #[.val (.ref b1), .val (.ref x1), .val (.int (Int32.ofNat nx))] [(.int (Int32.ofNat nx)), (.int (Int32.ofNat ct)), (.ref b1)])) _
    refine XS.iadd X99.here hx rfl (hb hby d6_39) rfl ?_
    show Steps p.tables e below (T99.setTop (mkF m 40 #[.val (.ref b1), .val (.ref x1), .val (.int (Int32.ofNat nx))] [(.int ((Int32.ofNat ct) + (Int32.ofNat nx))), (.ref b1)])) _
    rw [own_add]
    show Steps p.tables e below (T99.setTop (mkF m 40 #[.val (.ref b1), .val (.ref x1), .val (.int (Int32.ofNat nx))] [(.int (Int32.ofNat (ct + nx))), (.ref b1)])) _
    refine st101 _ ?_
    show Steps p.tables e below (T101.setTop (mkF m 43 #[.val (.ref b1), .val (.ref x1), .val (.int (Int32.ofNat nx))] [])) _
    refine XS.aloadN X101.here hx rfl (hb hby d6_43) rfl rfl ?_
    exact kt
  obtain ⟨fs, hr, hrun, hended, hW, hsame⟩ := X101.leave (v := some (.ref b1)) (fun h => by rw [Bd.returns] at h; cases h)
  refine ⟨_, _, (pre0 _ (pre107 _ ?_)), hrun, hended, _, _, rfl, ?_, ⟨_, rfl⟩, hW, hsame.mono (by decide) (by decide)⟩
  · show Steps p.tables e below (T101.setTop (mkF m 44 #[.val (.ref b1), .val (.ref x1), .val (.int (Int32.ofNat nx))] [(.ref b1)])) _
    exact retOut X101 hx (t := (.object "java/lang/AbstractStringBuilder")) Bd.returns rfl (Or.inr (Or.inr (Or.inr (Or.inr ⟨rfl, rfl, rfl⟩)))) (hb hby d6_44) hr
  · show QAApS Z b1 v1 k1 cp ct vs x1 t1 kx nx xs zc h0 n0 _ T101.heap _
    rw [e101]
    exact ⟨rfl, N101, K101, v2, k2, _, ⟨f102, f103, f104, Fw101, f105, f106⟩, ap.2.trans l2, ap.1, g_v2, hv2.imp id (fun q => Nat.le_trans hsz q)⟩
theorem ef_SApS (m : MethodId) (x0 : Addr) (x1 : Addr) : entryFrame m #[(.ref x0), (.ref x1)] 2 = mkF m 0 #[.val (.ref x0), .val (.ref x1)] [] := by (first | (simp [entryFrame, mkF, argsToLocals, Value.category]; done) | rfl)
def QSApS (Z : State) (b1 : Addr) (v1 : Addr) (k1 : ClassId) (cp : Nat) (ct : Nat) (vs : List Value) (x1 : Addr) (t1 : Addr) (kx : ClassId) (nx : Nat) (xs : List Value) (zc : Int32) (h0 : Heap) (n0 : Nat) (v : Option Value) (h : Heap) (L : List Loc) : Prop := v = some (.ref b1) ∧ Fr n0 L ∧ Keep h0 h [b1, v1] ∧ ∃ (v2 : Addr) (k2 : ClassId) (ws2 : List Value), (Exa Z h b1 "java/lang/StringBuilder" ∧ Fld Z h b1 "java/lang/AbstractStringBuilder" "value" "[B" (.ref v2) ∧ Fld Z h b1 "java/lang/AbstractStringBuilder" "coder" "B" (.int (0 : Int32)) ∧ Fld Z h b1 "java/lang/AbstractStringBuilder" "count" "I" (.int (Int32.ofNat (ct + nx))) ∧ Arv Z h v2 k2 .byte (Int32.ofNat (own_gr cp (ct + nx))) ws2 (.int (0 : Int32)) ∧ Exa Z h v2 "[B") ∧ ws2.length = own_gr cp (ct + nx) ∧ ws2.take (ct + nx) = vs.take ct ++ xs ∧ n0 ≤ v2 ∧ (v2 = v1 ∨ h0.size ≤ v2)
theorem pn_java_lang_StringBuilder : plainName "java/lang/StringBuilder" = true := by first | (simp [plainName, overriddenIn]; done) | decide +kernel
theorem d5_0 : decode jdk_67_method_7_code 0 = .ok (.aload_n 0, 1) := by decide +kernel
theorem d5_1 : decode jdk_67_method_7_code 1 = .ok (.aload_n 1, 1) := by decide +kernel
theorem d5_2 : decode jdk_67_method_7_code 2 = .ok (.invokespecial 29, 3) := by decide +kernel
theorem pd__Ljava_lang_String__Ljava_lang_AbstractStringBuilder_ : parseMethodDescriptor "(Ljava/lang/String;)Ljava/lang/AbstractStringBuilder;" = some ⟨[(.object "java/lang/String")], some (.object "java/lang/AbstractStringBuilder")⟩ := by decide +kernel
theorem d5_5 : decode jdk_67_method_7_code 5 = .ok (.pop, 1) := by decide +kernel
theorem d5_6 : decode jdk_67_method_7_code 6 = .ok (.aload_n 0, 1) := by decide +kernel
theorem d5_7 : decode jdk_67_method_7_code 7 = .ok (.areturn, 1) := by decide +kernel
set_option maxRecDepth 65536 in
set_option maxHeartbeats 40000000 in
theorem rmSApS (l : Launch) (Z : State) (a0 : Array Value) (hw : ∀ d ∈ tables_1, d.before a0 Z = true) (ws : List Jvm.Cond) (b1 : Addr) (v1 : Addr) (k1 : ClassId) (cp : Nat) (ct : Nat) (vs : List Value) (x1 : Addr) (t1 : Addr) (kx : ClassId) (nx : Nat) (xs : List Value) (zc : Int32) (h0 : Heap) (n0 : Nat) (Z0 : n0 ≤ h0.size) (BE : Exa Z h0 b1 "java/lang/StringBuilder") (BV : Fld Z h0 b1 "java/lang/AbstractStringBuilder" "value" "[B" (.ref v1)) (BC : Fld Z h0 b1 "java/lang/AbstractStringBuilder" "coder" "B" (.int (0 : Int32))) (BN : Fld Z h0 b1 "java/lang/AbstractStringBuilder" "count" "I" (.int (Int32.ofNat ct))) (BA : Arv Z h0 v1 k1 .byte (Int32.ofNat cp) vs (.int (0 : Int32))) (BX : Exa Z h0 v1 "[B") (hvl : vs.length = cp) (hcp : cp ≤ 1000) (g_b1 : n0 ≤ b1) (g_v1 : n0 ≤ v1) (XE : Exa Z h0 x1 "java/lang/String") (XV : Fld Z h0 x1 "java/lang/String" "value" "[B" (.ref t1)) (XC : Fld Z h0 x1 "java/lang/String" "coder" "B" (.int (0 : Int32))) (XA : Arv Z h0 t1 kx .byte (Int32.ofNat nx) xs (.int (0 : Int32))) (hxl : xs.length = nx) (hnx : nx ≤ 1000) (ntv : t1 ≠ v1) (hct : ct ≤ cp) (hgM : ct + nx ≤ cp ∨ max (ct + nx) (2 * cp + 2) ≤ 304) (hnM : ct + nx ≤ 1000) (OZ : Old Z n0 h0) (SC : Sta Z Z.heap "java/lang/String" "COMPACT_STRINGS" "Z" (.int zc)) (hzc : ¬ zc = (0 : Int32)) :
    MetFree l (⟨"java/lang/StringBuilder", "append", "(Ljava/lang/String;)Ljava/lang/StringBuilder;"⟩ : MethodName) (head1 (Jvm.Cond.code (⟨"java/lang/StringBuilder", "append", "(Ljava/lang/String;)Ljava/lang/StringBuilder;"⟩ : MethodName) jdk_67_method_7_code 2 (some (.object "java/lang/StringBuilder")) :: ws) ({ frames := 5, cells := 1, slots := 304, locals := 130 } : Room)) (fun a U => a = #[(.ref b1), (.ref x1)] ∧ Z.Warmed39 U.vm ∧ U.heap = h0) (fun _ _ _ _ _ => True) (fun _ U o U' => ∃ v L, o = .returned v ∧ QSApS Z b1 v1 k1 cp ct vs x1 t1 kx nx xs zc h0 n0 v U'.heap L ∧ FrameEnd U o U' L ({ frames := 5, cells := 1, slots := 304, locals := 130 } : Room).cells ({ frames := 5, cells := 1, slots := 304, locals := 130 } : Room).slots) := by
  refine MetFree.of_bodySF (plainFor_of_name pn_java_lang_StringBuilder) hisR ?_
  intro p e s m args below meth c s₁ Bd hml0 hP hK
  obtain ⟨rfl, hZ, hh⟩ := hP
  have hx := Bd.exec
  have hby := Bd.bytes
  have hml : c.maxLocals = 2 := hml0
  have hown : s.vm.findClass "java/lang/StringBuilder" = some m.cls := findClass_of_methodNamed Bd.named
  have hnm := (name_of_methodNamed Bd.named Bd.method).1
  have X0 : Stand p l e ({ frames := 5, cells := 1, slots := 304, locals := 130 } : Room) s m #[(.ref b1), (.ref x1)] below meth c s₁ [] 0 0 := Stand.of_body Bd
  have e0 : s₁.heap = h0 := by rw [← hh, Bd.state]; rfl
  have N0 := Fr.nil n0
  have pre0 : ∀ t, Steps p.tables e below (s₁.setTop (mkF m 0 #[.val (.ref b1), .val (.ref x1)] [])) t → Steps p.tables e below (s₁.setTop (entryFrame m #[(.ref b1), (.ref x1)] 2)) t := fun t k => castTop (ef_SApS m b1 x1) k
  have mem_b1 : b1 ∈ [b1, v1] := List.mem_of_getElem? (i := 0) rfl
  have mem_v1 : v1 ∈ [b1, v1] := List.mem_of_getElem? (i := 1) rfl
  obtain ⟨_, _, ⟨T108, L108, k108, n108⟩, -, X108, ⟨Lc108, hQ108, l108, y108, z108⟩, st108⟩ := superBack X0 hx hZ (y := (⟨"java/lang/AbstractStringBuilder", "append", "(Ljava/lang/String;)Ljava/lang/AbstractStringBuilder;"⟩ : MethodName)) hown (hw _ (List.mem_of_getElem? (i := 44) rfl)) (own_same (y := (⟨"java/lang/AbstractStringBuilder", "append", "(Ljava/lang/String;)Ljava/lang/AbstractStringBuilder;"⟩ : MethodName)) (hw _ (List.mem_of_getElem? (i := 45) rfl)) (hw _ (List.mem_of_getElem? (i := 67) rfl)) rfl (by decide)) (hw _ (List.mem_of_getElem? (i := 45) rfl)) (hw _ (List.mem_of_getElem? (i := 46) rfl)) (by decide) (backOf (W := 0) (rmAApS l Z a0 hw [] b1 v1 k1 cp ct vs x1 t1 kx nx xs zc h0 n0 Z0 BE BV BC BN BA BX hvl hcp g_b1 g_v1 XE XV XC XA hxl hnx ntv hct hgM hnM OZ SC hzc) hZ (hw _ (List.mem_of_getElem? (i := 48) rfl)) (hw _ (List.mem_of_getElem? (i := 28) rfl)) (by decide) (by decide)) e0 (Ins.self BE) (g := (mkF m 2 #[.val (.ref b1), .val (.ref x1)] [(.ref x1), (.ref b1)])) rfl (by rw [hml]; rfl) (hw _ (List.mem_of_getElem? (i := 48) rfl)) (argsL := [(.ref x1)]) (rest := []) (lenOf pd__Ljava_lang_String__Ljava_lang_AbstractStringBuilder_ rfl) rfl (by show 2 * 0 + _ ≤ _; exact Nat.le_of_eq rfl) (hb hby d5_2) (fun _ _ => ⟨rfl, e0, (by decide : 0 + 1 ≤ _), (by decide : 0 + 304 ≤ _)⟩)
  dsimp only [Pt.U, Pt.locs, Pt.cells, Pt.slots] at X108 l108 y108 z108 st108 hQ108
  subst l108 y108 z108
  obtain ⟨rfl, N108q, KC108, RR⟩ := hQ108
  have N108 := Fr.app N0 N108q
  have Z108 := Nat.le_trans Z0 KC108.1
  have K108 := (Keep.refl h0 [b1, v1]).trans KC108 (allS (Or.inl mem_b1) (allS (Or.inl mem_v1) all0))
  have pre109 : ∀ t, Steps p.tables e below (T108.setTop (mkF m 7 #[.val (.ref b1), .val (.ref x1)] [(.ref b1)])) t → Steps p.tables e below (s₁.setTop (mkF m 0 #[.val (.ref b1), .val (.ref x1)] [])) t := by
    intro t kt
    show Steps p.tables e below (s₁.setTop (mkF m 0 #[.val (.ref b1), .val (.ref x1)] [])) _
    refine XS.aloadN X0.here hx rfl (hb hby d5_0) rfl rfl ?_
    show Steps p.tables e below (s₁.setTop (mkF m 1 #[.val (.ref b1), .val (.ref x1)] [(.ref b1)])) _
    refine XS.aloadN X0.here hx rfl (hb hby d5_1) rfl rfl ?_
    show Steps p.tables e below (s₁.setTop (mkF m 2 #[.val (.ref b1), .val (.ref x1)] [(.ref x1), (.ref b1)])) _
    refine st108.trans ?_
    show Steps p.tables e below (T108.setTop (mkF m 5 #[.val (.ref b1), .val (.ref x1)] [(.ref b1)])) _
    refine XS.pop X108.here hx rfl (hb hby d5_5) rfl rfl ?_
    show Steps p.tables e below (T108.setTop (mkF m 6 #[.val (.ref b1), .val (.ref x1)] [])) _
    refine XS.aloadN X108.here hx rfl (hb hby d5_6) rfl rfl ?_
    exact kt
  obtain ⟨fs, hr, hrun, hended, hW, hsame⟩ := X108.leave (v := some (.ref b1)) (fun h => by rw [Bd.returns] at h; cases h)
  refine ⟨_, _, (pre0 _ (pre109 _ ?_)), hrun, hended, _, _, rfl, ?_, ⟨_, rfl⟩, hW, hsame.mono (by decide) (by decide)⟩
  · show Steps p.tables e below (T108.setTop (mkF m 7 #[.val (.ref b1), .val (.ref x1)] [(.ref b1)])) _
    exact retOut X108 hx (t := (.object "java/lang/StringBuilder")) Bd.returns rfl (Or.inr (Or.inr (Or.inr (Or.inr ⟨rfl, rfl, rfl⟩)))) (hb hby d5_7) hr
  · show QSApS Z b1 v1 k1 cp ct vs x1 t1 kx nx xs zc h0 n0 _ T108.heap _
    exact ⟨rfl, N108, K108, RR⟩
theorem ef_BLat (m : MethodId) (x0 : Addr) : entryFrame m #[(.ref x0)] 1 = mkF m 0 #[.val (.ref x0)] [] := by (first | (simp [entryFrame, mkF, argsToLocals, Value.category]; done) | rfl)
def QBLat (Z : State) (b1 : Addr) (zc : Int32) (h0 : Heap) (n0 : Nat) (v : Option Value) (h : Heap) (L : List Loc) : Prop := v = some (.int (1 : Int32)) ∧ Fr n0 L ∧ h = h0
theorem d24_0 : decode jdk_68_method_68_code 0 = .ok (.getstatic 18, 3) := by decide +kernel
theorem d24_3 : decode jdk_68_method_68_code 3 = .ok (.ifCond .eq 14, 3) := by decide +kernel
theorem d24_6 : decode jdk_68_method_68_code 6 = .ok (.aload_n 0, 1) := by decide +kernel
theorem d24_7 : decode jdk_68_method_68_code 7 = .ok (.getfield 22, 3) := by decide +kernel
theorem d24_10 : decode jdk_68_method_68_code 10 = .ok (.ifCond .ne 7, 3) := by decide +kernel
theorem d24_13 : decode jdk_68_method_68_code 13 = .ok (.iconst 1, 1) := by decide +kernel
theorem d24_14 : decode jdk_68_method_68_code 14 = .ok (.goto 4, 3) := by decide +kernel
theorem d24_18 : decode jdk_68_method_68_code 18 = .ok (.ireturn, 1) := by decide +kernel
set_option maxRecDepth 65536 in
set_option maxHeartbeats 40000000 in
theorem rmBLat (l : Launch) (Z : State) (a0 : Array Value) (hw : ∀ d ∈ tables_1, d.before a0 Z = true) (ws : List Jvm.Cond) (b1 : Addr) (zc : Int32) (h0 : Heap) (n0 : Nat) (Z0 : n0 ≤ h0.size) (BC : Fld Z h0 b1 "java/lang/AbstractStringBuilder" "coder" "B" (.int (0 : Int32))) (SC : Sta Z h0 "java/lang/String" "COMPACT_STRINGS" "Z" (.int zc)) (hzc : ¬ zc = (0 : Int32)) :
    MetFree l (⟨"java/lang/AbstractStringBuilder", "isLatin1", "()Z"⟩ : MethodName) (head1 (Jvm.Cond.code (⟨"java/lang/AbstractStringBuilder", "isLatin1", "()Z"⟩ : MethodName) jdk_68_method_68_code 1 (some .boolean) :: ws) ({ frames := 0, cells := 0, slots := 0, locals := 0 } : Room)) (fun a U => a = #[(.ref b1)] ∧ Z.Warmed39 U.vm ∧ U.heap = h0) (fun _ _ _ _ _ => True) (fun _ U o U' => ∃ v L, o = .returned v ∧ QBLat Z b1 zc h0 n0 v U'.heap L ∧ FrameEnd U o U' L ({ frames := 0, cells := 0, slots := 0, locals := 0 } : Room).cells ({ frames := 0, cells := 0, slots := 0, locals := 0 } : Room).slots) := by
  refine MetFree.of_bodySF (plainFor_of_name pn_java_lang_AbstractStringBuilder) hisR ?_
  intro p e s m args below meth c s₁ Bd hml0 hP hK
  obtain ⟨rfl, hZ, hh⟩ := hP
  have hx := Bd.exec
  have hby := Bd.bytes
  have hml : c.maxLocals = 1 := hml0
  have hown : s.vm.findClass "java/lang/AbstractStringBuilder" = some m.cls := findClass_of_methodNamed Bd.named
  have hnm := (name_of_methodNamed Bd.named Bd.method).1
  have X0 : Stand p l e ({ frames := 0, cells := 0, slots := 0, locals := 0 } : Room) s m #[(.ref b1)] below meth c s₁ [] 0 0 := Stand.of_body Bd
  have e0 : s₁.heap = h0 := by rw [← hh, Bd.state]; rfl
  have N0 := Fr.nil n0
  have pre0 : ∀ t, Steps p.tables e below (s₁.setTop (mkF m 0 #[.val (.ref b1)] [])) t → Steps p.tables e below (s₁.setTop (entryFrame m #[(.ref b1)] 1)) t := fun t k => castTop (ef_BLat m b1) k
  obtain ⟨T110, X110, e110, st110⟩ := getS2 X0 hx hZ hown (host := "") (Or.inl (hw _ (List.mem_of_getElem? (i := 31) rfl))) Via.refl e0 SC (g := (mkF m 0 #[.val (.ref b1)] [])) rfl (hb hby d24_0)
  obtain ⟨T111, X111, e111, st111⟩ := getF X110 hx hZ hown (host := "") (Or.inl (hw _ (List.mem_of_getElem? (i := 34) rfl))) Via.refl e110 BC (g := (mkF m 7 #[.val (.ref b1)] [(.ref b1)])) rfl rfl (hb hby d24_7)
  have pre112 : ∀ t, Steps p.tables e below (T111.setTop (mkF m 18 #[.val (.ref b1)] [(.int (1 : Int32))])) t → Steps p.tables e below (s₁.setTop (mkF m 0 #[.val (.ref b1)] [])) t := by
    intro t kt
    show Steps p.tables e below (s₁.setTop (mkF m 0 #[.val (.ref b1)] [])) _
    refine st110 _ ?_
    show Steps p.tables e below (T110.setTop (mkF m 3 #[.val (.ref b1)] [(.int zc)])) _
    refine XS.ifNo X110.here hx rfl (hb hby d24_3) rfl ((if0 _ _).trans (feq (hzc : ¬ (zc = (0 : Int32)))).1) ?_
    show Steps p.tables e below (T110.setTop (mkF m 6 #[.val (.ref b1)] [])) _
    refine XS.aloadN X110.here hx rfl (hb hby d24_6) rfl rfl ?_
    show Steps p.tables e below (T110.setTop (mkF m 7 #[.val (.ref b1)] [(.ref b1)])) _
    refine st111 _ ?_
    show Steps p.tables e below (T111.setTop (mkF m 10 #[.val (.ref b1)] [(.int (0 : Int32))])) _
    refine XS.ifNo X111.here hx rfl (hb hby d24_10) rfl ((if0 _ _).trans (teq (rfl : (0 : Int32) = (0 : Int32))).2) ?_
    show Steps p.tables e below (T111.setTop (mkF m 13 #[.val (.ref b1)] [])) _
    refine XS.iconst X111.here hx rfl (hb hby d24_13) ?_
    show Steps p.tables e below (T111.setTop (mkF m 14 #[.val (.ref b1)] [(.int (1 : Int32))])) _
    refine XS.goto X111.here hx rfl (pc0 := 14) (pc' := 18) rfl (hb hby d24_14) (by decide) (by decide) ?_
    exact kt
  obtain ⟨fs, hr, hrun, hended, hW, hsame⟩ := X111.leave (v := some (.int (1 : Int32))) (fun h => by rw [Bd.returns] at h; cases h)
  refine ⟨_, _, (pre0 _ (pre112 _ ?_)), hrun, hended, _, _, rfl, ?_, ⟨_, rfl⟩, hW, hsame.mono (by decide) (by decide)⟩
  · show Steps p.tables e below (T111.setTop (mkF m 18 #[.val (.ref b1)] [(.int (1 : Int32))])) _
    exact retN X111 hx (t := .boolean) Bd.returns (by simp) (hb hby d24_18) hr
  · show QBLat Z b1 zc h0 n0 _ T111.heap _
    rw [e111]
    exact ⟨rfl, N0, rfl⟩
theorem ef_CanE (m : MethodId) (x0 : Int32) : entryFrame m #[(.int x0)] 1 = mkF m 0 #[.val (.int x0)] [] := by (first | (simp [entryFrame, mkF, argsToLocals, Value.category]; done) | rfl)
def QCanE (Z : State) (p1 : Int32) (h0 : Heap) (n0 : Nat) (v : Option Value) (h : Heap) (L : List Loc) : Prop := v = some (.int (1 : Int32)) ∧ Fr n0 L ∧ h = h0
theorem pn_java_lang_StringLatin1 : plainName "java/lang/StringLatin1" = true := by first | (simp [plainName, overriddenIn]; done) | decide +kernel
theorem d30_0 : decode jdk_43_method_3_code 0 = .ok (.iload_n 0, 1) := by decide +kernel
theorem d30_1 : decode jdk_43_method_3_code 1 = .ok (.sipush 255, 3) := by decide +kernel
theorem d30_4 : decode jdk_43_method_3_code 4 = .ok (.if_icmp .gt 7, 3) := by decide +kernel
theorem d30_7 : decode jdk_43_method_3_code 7 = .ok (.iconst 1, 1) := by decide +kernel
theorem d30_8 : decode jdk_43_method_3_code 8 = .ok (.goto 4, 3) := by decide +kernel
theorem d30_12 : decode jdk_43_method_3_code 12 = .ok (.ireturn, 1) := by decide +kernel
set_option maxRecDepth 65536 in
set_option maxHeartbeats 40000000 in
theorem rmCanE (l : Launch) (Z : State) (a0 : Array Value) (hw : ∀ d ∈ tables_1, d.before a0 Z = true) (ws : List Jvm.Cond) (p1 : Int32) (h0 : Heap) (n0 : Nat) (Z0 : n0 ≤ h0.size) (hp : ¬ ((255 : Int32) < p1)) :
    MetFree l (⟨"java/lang/StringLatin1", "canEncode", "(C)Z"⟩ : MethodName) (head1 (Jvm.Cond.code (⟨"java/lang/StringLatin1", "canEncode", "(C)Z"⟩ : MethodName) jdk_43_method_3_code 1 (some .boolean) :: ws) ({ frames := 0, cells := 0, slots := 0, locals := 0 } : Room)) (fun a U => a = #[(.int p1)] ∧ Z.Warmed39 U.vm ∧ U.heap = h0) (fun _ _ _ _ _ => True) (fun _ U o U' => ∃ v L, o = .returned v ∧ QCanE Z p1 h0 n0 v U'.heap L ∧ FrameEnd U o U' L ({ frames := 0, cells := 0, slots := 0, locals := 0 } : Room).cells ({ frames := 0, cells := 0, slots := 0, locals := 0 } : Room).slots) := by
  refine MetFree.of_bodySF (plainFor_of_name pn_java_lang_StringLatin1) hisR ?_
  intro p e s m args below meth c s₁ Bd hml0 hP hK
  obtain ⟨rfl, hZ, hh⟩ := hP
  have hx := Bd.exec
  have hby := Bd.bytes
  have hml : c.maxLocals = 1 := hml0
  have hown : s.vm.findClass "java/lang/StringLatin1" = some m.cls := findClass_of_methodNamed Bd.named
  have hnm := (name_of_methodNamed Bd.named Bd.method).1
  have X0 : Stand p l e ({ frames := 0, cells := 0, slots := 0, locals := 0 } : Room) s m #[(.int p1)] below meth c s₁ [] 0 0 := Stand.of_body Bd
  have e0 : s₁.heap = h0 := by rw [← hh, Bd.state]; rfl
  have N0 := Fr.nil n0
  have pre0 : ∀ t, Steps p.tables e below (s₁.setTop (mkF m 0 #[.val (.int p1)] [])) t → Steps p.tables e below (s₁.setTop (entryFrame m #[(.int p1)] 1)) t := fun t k => castTop (ef_CanE m p1) k
  have pre113 : ∀ t, Steps p.tables e below (s₁.setTop (mkF m 12 #[.val (.int p1)] [(.int (1 : Int32))])) t → Steps p.tables e below (s₁.setTop (mkF m 0 #[.val (.int p1)] [])) t := by
    intro t kt
    show Steps p.tables e below (s₁.setTop (mkF m 0 #[.val (.int p1)] [])) _
    refine XS.iloadN X0.here hx rfl (hb hby d30_0) rfl ?_
    show Steps p.tables e below (s₁.setTop (mkF m 1 #[.val (.int p1)] [(.int p1)])) _
    refine XS.sipush X0.here hx rfl (hb hby d30_1) ?_
    show Steps p.tables e below (s₁.setTop (mkF m 4 #[.val (.int p1)] [(.int (255 : Int32)), (.int p1)])) _
    refine XS.icmpNo X0.here hx rfl (hb hby d30_4) rfl (flt (hp : ¬ ((255 : Int32) < p1))).2.2.1 ?_
    show Steps p.tables e below (s₁.setTop (mkF m 7 #[.val (.int p1)] [])) _
    refine XS.iconst X0.here hx rfl (hb hby d30_7) ?_
    show Steps p.tables e below (s₁.setTop (mkF m 8 #[.val (.int p1)] [(.int (1 : Int32))])) _
    refine XS.goto X0.here hx rfl (pc0 := 8) (pc' := 12) rfl (hb hby d30_8) (by decide) (by decide) ?_
    exact kt
  obtain ⟨fs, hr, hrun, hended, hW, hsame⟩ := X0.leave (v := some (.int (1 : Int32))) (fun h => by rw [Bd.returns] at h; cases h)
  refine ⟨_, _, (pre0 _ (pre113 _ ?_)), hrun, hended, _, _, rfl, ?_, ⟨_, rfl⟩, hW, hsame.mono (by decide) (by decide)⟩
  · show Steps p.tables e below (s₁.setTop (mkF m 12 #[.val (.int p1)] [(.int (1 : Int32))])) _
    exact retN X0 hx (t := .boolean) Bd.returns (by simp) (hb hby d30_12) hr
  · show QCanE Z p1 h0 n0 _ s₁.heap _
    rw [e0]
    exact ⟨rfl, N0, rfl⟩
theorem ef_AApC (m : MethodId) (x0 : Addr) (x1 : Int32) : entryFrame m #[(.ref x0), (.int x1)] 2 = mkF m 0 #[.val (.ref x0), .val (.int x1)] [] := by (first | (simp [entryFrame, mkF, argsToLocals, Value.category]; done) | rfl)
def QAApC (Z : State) (b1 : Addr) (v1 : Addr) (k1 : ClassId) (cp : Nat) (ct : Nat) (vs : List Value) (p1 : Int32) (zc : Int32) (h0 : Heap) (n0 : Nat) (v : Option Value) (h : Heap) (L : List Loc) : Prop := v = some (.ref b1) ∧ Fr n0 L ∧ Keep h0 h [b1, v1] ∧ ∃ (v2 : Addr) (k2 : ClassId) (ws2 : List Value), (Exa Z h b1 "java/lang/StringBuilder" ∧ Fld Z h b1 "java/lang/AbstractStringBuilder" "value" "[B" (.ref v2) ∧ Fld Z h b1 "java/lang/AbstractStringBuilder" "coder" "B" (.int (0 : Int32)) ∧ Fld Z h b1 "java/lang/AbstractStringBuilder" "count" "I" (.int (Int32.ofNat (ct + 1))) ∧ Arv Z h v2 k2 .byte (Int32.ofNat (own_gr cp (ct + 1))) ws2 (.int (0 : Int32)) ∧ Exa Z h v2 "[B") ∧ ws2.length = own_gr cp (ct + 1) ∧ ws2.take (ct + 1) = vs.take ct ++ [.int (nar .byte (p1.toInt8.toInt32))] ∧ n0 ≤ v2 ∧ (v2 = v1 ∨ h0.size ≤ v2)
theorem d29_0 : decode jdk_68_method_31_code 0 = .ok (.aload_n 0, 1) := by decide +kernel
theorem d29_1 : decode jdk_68_method_31_code 1 = .ok (.aload_n 0, 1) := by decide +kernel
theorem d29_2 : decode jdk_68_method_31_code 2 = .ok (.getfield 79, 3) := by decide +kernel
theorem d29_5 : decode jdk_68_method_31_code 5 = .ok (.iconst 1, 1) := by decide +kernel
theorem d29_6 : decode jdk_68_method_31_code 6 = .ok (.iadd, 1) := by decide +kernel
theorem d29_7 : decode jdk_68_method_31_code 7 = .ok (.invokevirtual 100, 3) := by decide +kernel
theorem d29_10 : decode jdk_68_method_31_code 10 = .ok (.aload_n 0, 1) := by decide +kernel
theorem d29_11 : decode jdk_68_method_31_code 11 = .ok (.invokevirtual 83, 3) := by decide +kernel
theorem pd___Z : parseMethodDescriptor "()Z" = some ⟨[], some .boolean⟩ := by decide +kernel
theorem d29_14 : decode jdk_68_method_31_code 14 = .ok (.ifCond .eq 31, 3) := by decide +kernel
theorem d29_17 : decode jdk_68_method_31_code 17 = .ok (.iload_n 1, 1) := by decide +kernel
theorem d29_18 : decode jdk_68_method_31_code 18 = .ok (.invokestatic 191, 3) := by decide +kernel
theorem pd__C_Z : parseMethodDescriptor "(C)Z" = some ⟨[.char], some .boolean⟩ := by decide +kernel
theorem d29_21 : decode jdk_68_method_31_code 21 = .ok (.ifCond .eq 24, 3) := by decide +kernel
theorem d29_24 : decode jdk_68_method_31_code 24 = .ok (.aload_n 0, 1) := by decide +kernel
theorem d29_25 : decode jdk_68_method_31_code 25 = .ok (.getfield 15, 3) := by decide +kernel
theorem d29_28 : decode jdk_68_method_31_code 28 = .ok (.aload_n 0, 1) := by decide +kernel
theorem d29_29 : decode jdk_68_method_31_code 29 = .ok (.dup, 1) := by decide +kernel
theorem d29_30 : decode jdk_68_method_31_code 30 = .ok (.getfield 79, 3) := by decide +kernel
theorem d29_33 : decode jdk_68_method_31_code 33 = .ok (.dup_x1, 1) := by decide +kernel
theorem d29_34 : decode jdk_68_method_31_code 34 = .ok (.iconst 1, 1) := by decide +kernel
theorem d29_35 : decode jdk_68_method_31_code 35 = .ok (.iadd, 1) := by decide +kernel
theorem d29_36 : decode jdk_68_method_31_code 36 = .ok (.putfield 79, 3) := by decide +kernel
theorem d29_39 : decode jdk_68_method_31_code 39 = .ok (.iload_n 1, 1) := by decide +kernel
theorem d29_40 : decode jdk_68_method_31_code 40 = .ok (.i2b, 1) := by decide +kernel
theorem d29_41 : decode jdk_68_method_31_code 41 = .ok (.bastore, 1) := by decide +kernel
theorem d29_42 : decode jdk_68_method_31_code 42 = .ok (.goto 33, 3) := by decide +kernel
theorem d29_75 : decode jdk_68_method_31_code 75 = .ok (.aload_n 0, 1) := by decide +kernel
theorem d29_76 : decode jdk_68_method_31_code 76 = .ok (.areturn, 1) := by decide +kernel
set_option maxRecDepth 65536 in
set_option maxHeartbeats 40000000 in
theorem rmAApC (l : Launch) (Z : State) (a0 : Array Value) (hw : ∀ d ∈ tables_1, d.before a0 Z = true) (ws : List Jvm.Cond) (b1 : Addr) (v1 : Addr) (k1 : ClassId) (cp : Nat) (ct : Nat) (vs : List Value) (p1 : Int32) (zc : Int32) (h0 : Heap) (n0 : Nat) (Z0 : n0 ≤ h0.size) (BE : Exa Z h0 b1 "java/lang/StringBuilder") (BV : Fld Z h0 b1 "java/lang/AbstractStringBuilder" "value" "[B" (.ref v1)) (BC : Fld Z h0 b1 "java/lang/AbstractStringBuilder" "coder" "B" (.int (0 : Int32))) (BN : Fld Z h0 b1 "java/lang/AbstractStringBuilder" "count" "I" (.int (Int32.ofNat ct))) (BA : Arv Z h0 v1 k1 .byte (Int32.ofNat cp) vs (.int (0 : Int32))) (BX : Exa Z h0 v1 "[B") (hvl : vs.length = cp) (hcp : cp ≤ 1000) (g_b1 : n0 ≤ b1) (g_v1 : n0 ≤ v1) (hp : ¬ ((255 : Int32) < p1)) (hct : ct ≤ cp) (hgM : ct + 1 ≤ cp ∨ max (ct + 1) (2 * cp + 2) ≤ 304) (hnM : ct + 1 ≤ 1000) (OZ : Old Z n0 h0) (SC : Sta Z Z.heap "java/lang/String" "COMPACT_STRINGS" "Z" (.int zc)) (hzc : ¬ zc = (0 : Int32)) :
    MetFree l (⟨"java/lang/AbstractStringBuilder", "append", "(C)Ljava/lang/AbstractStringBuilder;"⟩ : MethodName) (head1 (Jvm.Cond.code (⟨"java/lang/AbstractStringBuilder", "append", "(C)Ljava/lang/AbstractStringBuilder;"⟩ : MethodName) jdk_68_method_31_code 2 (some (.object "java/lang/AbstractStringBuilder")) :: ws) ({ frames := 4, cells := 1, slots := 304, locals := 110 } : Room)) (fun a U => a = #[(.ref b1), (.int p1)] ∧ Z.Warmed39 U.vm ∧ U.heap = h0) (fun _ _ _ _ _ => True) (fun _ U o U' => ∃ v L, o = .returned v ∧ QAApC Z b1 v1 k1 cp ct vs p1 zc h0 n0 v U'.heap L ∧ FrameEnd U o U' L ({ frames := 4, cells := 1, slots := 304, locals := 110 } : Room).cells ({ frames := 4, cells := 1, slots := 304, locals := 110 } : Room).slots) := by
  refine MetFree.of_bodySF (plainFor_of_name pn_java_lang_AbstractStringBuilder) hisR ?_
  intro p e s m args below meth c s₁ Bd hml0 hP hK
  obtain ⟨rfl, hZ, hh⟩ := hP
  have hx := Bd.exec
  have hby := Bd.bytes
  have hml : c.maxLocals = 2 := hml0
  have hown : s.vm.findClass "java/lang/AbstractStringBuilder" = some m.cls := findClass_of_methodNamed Bd.named
  have hnm := (name_of_methodNamed Bd.named Bd.method).1
  have X0 : Stand p l e ({ frames := 4, cells := 1, slots := 304, locals := 110 } : Room) s m #[(.ref b1), (.int p1)] below meth c s₁ [] 0 0 := Stand.of_body Bd
  have e0 : s₁.heap = h0 := by rw [← hh, Bd.state]; rfl
  have N0 := Fr.nil n0
  have pre0 : ∀ t, Steps p.tables e below (s₁.setTop (mkF m 0 #[.val (.ref b1), .val (.int p1)] [])) t → Steps p.tables e below (s₁.setTop (entryFrame m #[(.ref b1), (.int p1)] 2)) t := fun t k => castTop (ef_AApC m b1 p1) k
  have ne_b1_v1 : b1 ≠ v1 := BE.neArv BA (hw _ (List.mem_of_getElem? (i := 19) rfl))
  have mem_b1 : b1 ∈ [b1, v1] := List.mem_of_getElem? (i := 0) rfl
  have mem_v1 : v1 ∈ [b1, v1] := List.mem_of_getElem? (i := 1) rfl
  obtain ⟨T114, X114, e114, st114⟩ := getF X0 hx hZ hown (host := "") (Or.inl (hw _ (List.mem_of_getElem? (i := 62) rfl))) Via.refl e0 BN (g := (mkF m 2 #[.val (.ref b1), .val (.int p1)] [(.ref b1), (.ref b1)])) rfl rfl (hb hby d29_2)
  have hsz := (Keep.refl h0 [b1, v1]).1
  obtain ⟨cq115, q115, q115'⟩ := BE.cell
  obtain ⟨_, _, ⟨T115, L115, k115, n115⟩, -, X115, ⟨Lc115, hQ115, l115, y115, z115⟩, st115⟩ := X114.privateBack hx (y := (⟨"java/lang/AbstractStringBuilder", "ensureCapacityInternal", "(I)V"⟩ : MethodName)) hown (mvT hZ (hw _ (List.mem_of_getElem? (i := 64) rfl))) (mvT hZ (hw _ (List.mem_of_getElem? (i := 65) rfl))) (own_selP (mvT hZ (hw _ (List.mem_of_getElem? (i := 67) rfl))) (Cond.privateMethod_at (mvP hZ (hw _ (List.mem_of_getElem? (i := 66) rfl)) (args := #[]))) (mvT hZ (hw _ (List.mem_of_getElem? (i := 65) rfl))) (by decide)) (Cond.privateMethod_at (mvP hZ (hw _ (List.mem_of_getElem? (i := 66) rfl)) (args := #[]))) (mvT hZ (hw _ (List.mem_of_getElem? (i := 68) rfl))) (by decide) (backOf (W := 0) (rmEns l Z a0 hw [] b1 v1 k1 cp ct vs (ct + 1) h0 n0 Z0 BE BV BC BN BA BX hvl hcp g_b1 g_v1 (by omega) hgM) hZ (hw _ (List.mem_of_getElem? (i := 68) rfl)) (hw _ (List.mem_of_getElem? (i := 28) rfl)) (by decide) (by decide)) (g := (mkF m 7 #[.val (.ref b1), .val (.int p1)] [(.int (Int32.ofNat (ct + 1))), (.ref b1)])) rfl (by rw [hml]; rfl) (Steps.refl _) (a := b1) (by rw [e114]; exact q115) q115' (argsL := [(.int (Int32.ofNat (ct + 1)))]) (rest := []) (lenOf pd__I_V rfl) rfl (by show 2 * 0 + _ ≤ _; exact Nat.le_of_eq rfl) (hb hby d29_7) (fun _ _ => ⟨rfl, e114, (by decide : 0 + 1 ≤ _), (by decide : 0 + 304 ≤ _)⟩)
  dsimp only [Pt.U, Pt.locs, Pt.cells, Pt.slots] at X115 l115 y115 z115 st115 hQ115
  subst l115 y115 z115
  obtain ⟨rfl, N115q, KC115, v2, k2, wa, ⟨E2, V2, C2, N2, A2, X2⟩, l2, tk2, g_v2, hv2⟩ := hQ115
  have N115 := Fr.app N0 N115q
  have Z115 := Nat.le_trans Z0 KC115.1
  have K115 := (Keep.refl h0 [b1, v1]).trans KC115 (allS (Or.inl mem_b1) all0)
  have ne_b1_v2 : b1 ≠ v2 := E2.neArv A2 (hw _ (List.mem_of_getElem? (i := 19) rfl))
  have hgl := @own_grle cp (ct + 1)
  have hgm : own_gr cp (ct + 1) ≤ 1000 := own_grM hcp (by decide) hgM
  have f116 := (OZ.keep KC115 (allS g_b1 all0))
  obtain ⟨cq117, kq117, q117a, q117b, q117c⟩ := isOf hZ rfl E2
  obtain ⟨_, _, ⟨T117, L117, k117, n117⟩, -, X117, ⟨Lc117, hQ117, l117, y117, z117⟩, st117⟩ := X115.virtualBack hx (y := (⟨"java/lang/AbstractStringBuilder", "isLatin1", "()Z"⟩ : MethodName)) (z := (⟨"java/lang/AbstractStringBuilder", "isLatin1", "()Z"⟩ : MethodName)) hown (mvT hZ (hw _ (List.mem_of_getElem? (i := 180) rfl))) (mvT hZ (hw _ (List.mem_of_getElem? (i := 141) rfl))) (notFace_of_selects (args := #[]) (mvT hZ (hw _ (List.mem_of_getElem? (i := 143) rfl)))) (mvT hZ (hw _ (List.mem_of_getElem? (i := 143) rfl))) (mvT hZ (hw _ (List.mem_of_getElem? (i := 142) rfl))) (by decide) (backOf (W := 0) (rmBLat l Z a0 hw [] b1 zc T115.heap n0 Z115 C2 (SC.ext f116.2) hzc) hZ (hw _ (List.mem_of_getElem? (i := 144) rfl)) (hw _ (List.mem_of_getElem? (i := 28) rfl)) (by decide) (by decide)) q117a q117c (g := (mkF m 11 #[.val (.ref b1), .val (.int p1)] [(.ref b1)])) rfl (by rw [hml]; rfl) (Steps.refl _) (argsL := []) (rest := []) (lenOf pd___Z rfl) rfl (by show 2 * 0 + _ ≤ _; exact Nat.le_of_eq rfl) (hb hby d29_11) (fun _ _ => ⟨rfl, rfl, (by decide : 1 + 0 ≤ _), (by decide : 304 + 0 ≤ _)⟩)
  dsimp only [Pt.U, Pt.locs, Pt.cells, Pt.slots] at X117 l117 y117 z117 st117 hQ117
  subst l117 y117 z117
  obtain ⟨rfl, N117q, EQ117⟩ := hQ117
  have N117 := Fr.app N115 N117q
  have Z117 : n0 ≤ T117.heap.size := by rw [EQ117]; exact Z115
  have K117 := own_keq EQ117 K115
  obtain ⟨_, _, ⟨T118, L118, k118, n118⟩, -, X118, ⟨Lc118, hQ118, l118, y118, z118⟩, st118⟩ := Jvm.LawKit.callS X117 hx (y := (⟨"java/lang/StringLatin1", "canEncode", "(C)Z"⟩ : MethodName)) hown (mvT hZ (hw _ (List.mem_of_getElem? (i := 181) rfl))) (mvT hZ (hw _ (List.mem_of_getElem? (i := 182) rfl))) (mvT hZ (hw _ (List.mem_of_getElem? (i := 183) rfl))) (mvT hZ (hw _ (List.mem_of_getElem? (i := 184) rfl))) (by decide) (backOf (W := 0) (rmCanE l Z a0 hw [] p1 T117.heap n0 Z117 hp) hZ (hw _ (List.mem_of_getElem? (i := 184) rfl)) (hw _ (List.mem_of_getElem? (i := 183) rfl)) (by decide) (by decide)) (g := (mkF m 18 #[.val (.ref b1), .val (.int p1)] [(.int p1)])) rfl (by rw [hml]; rfl) (argsL := [(.int p1)]) (rest := []) (lenOf pd__C_Z rfl) rfl (by show 2 * 0 + _ ≤ _; exact Nat.le_of_eq rfl) (hb hby d29_18) (fun _ _ => ⟨rfl, rfl, (by decide : 1 + 0 ≤ _), (by decide : 304 + 0 ≤ _)⟩)
  dsimp only [Pt.U, Pt.locs, Pt.cells, Pt.slots] at X118 l118 y118 z118 st118 hQ118
  subst l118 y118 z118
  obtain ⟨rfl, N118q, EQ118⟩ := hQ118
  have N118 := Fr.app N117 N118q
  have Z118 : n0 ≤ T118.heap.size := by rw [EQ118]; exact Z117
  have K118 := own_keq EQ118 K117
  have f119 := (EQ118 ▸ (EQ117 ▸ V2))
  obtain ⟨T120, X120, e120, st120⟩ := getF X118 hx hZ hown (host := "") (Or.inl (hw _ (List.mem_of_getElem? (i := 32) rfl))) Via.refl rfl f119 (g := (mkF m 25 #[.val (.ref b1), .val (.int p1)] [(.ref b1)])) rfl rfl (hb hby d29_25)
  have f121 := (EQ118 ▸ (EQ117 ▸ N2))
  obtain ⟨T122, X122, e122, st122⟩ := getF X120 hx hZ hown (host := "") (Or.inl (hw _ (List.mem_of_getElem? (i := 62) rfl))) Via.refl e120 f121 (g := (mkF m 30 #[.val (.ref b1), .val (.int p1)] [(.ref b1), (.ref b1), (.ref v2)])) rfl rfl (hb hby d29_30)
  have f123 := (EQ118 ▸ (EQ117 ▸ E2))
  obtain ⟨T124, h124, X124, e124, W124, st124⟩ := putF X122 hx hZ hown (host := "") (Or.inl (hw _ (List.mem_of_getElem? (i := 62) rfl))) Via.refl e122 f121 f123 (Or.inl (hw _ (List.mem_of_getElem? (i := 63) rfl))) (hw _ (List.mem_of_getElem? (i := 19) rfl)) (ty := .int) (by decide) rfl rfl (g := (mkF m 36 #[.val (.ref b1), .val (.int p1)] [(.int (Int32.ofNat (ct + 1))), (.ref b1), (.int (Int32.ofNat ct)), (.ref v2)])) rfl rfl (hb hby d29_36)
  have N124 := Fr.snoc X124 N118 g_b1
  have Z124 := Nat.le_trans Z118 (Keep.of_wr W124).1
  have K124 := K118.wr W124 (Or.inl mem_b1)
  have Fw124 := f121.same W124
  have f125 := ((EQ118 ▸ (EQ117 ▸ A2)).other W124 (Ne.symm ne_b1_v2))
  obtain ⟨c126, Ar126, q126, S126, M126, H126, G126⟩ := id f125
  have hin126 : ¬ ((Int32.ofNat ct) < 0 ∨ c126.slots.size ≤ ((Int32.ofNat ct)).toNatClampNeg) := inb_of S126 ⟨own_nn (by omega), by rw [own_lt (by omega) (by omega)]; omega⟩
  obtain ⟨T127, h127, X127, e127, W127, st127⟩ := stB X124 hx hZ e124 Ar126 (j := (Int32.ofNat ct)) hin126 (g := (mkF m 41 #[.val (.ref b1), .val (.int p1)] [(.int (p1.toInt8.toInt32)), (.int (Int32.ofNat ct)), (.ref v2)])) rfl rfl (hb hby d29_41)
  have N127 := Fr.snoc X127 N124 g_v2
  have Z127 := Nat.le_trans Z124 (Keep.of_wr W127).1
  have K127 := K124.wr W127 (hv2.imp (fun q => by rw [q]; exact mem_v1) (fun q => Nat.le_trans hsz q))
  have V127 := Arv.set Ar126 q126 S126 M126 H126 G126 (fits_nar_byte _) W127 ct (own_nc (by omega)) (by omega)
  have ap := own_set (x := .int (nar .byte (p1.toInt8.toInt32))) tk2 hct (by omega)
  have f128 := ((f123.wr W124).wr W127)
  have f129 := ((f119.other W124 (Or.inr (slot_ne (Or.inl (hw _ (List.mem_of_getElem? (i := 33) rfl))) (Or.inl (hw _ (List.mem_of_getElem? (i := 63) rfl))) (by decide) (t := (.array .byte)) (t' := .int) (by decide) (by decide)))).other W127 (Or.inl ne_b1_v2))
  have f130 := (((EQ118 ▸ (EQ117 ▸ C2)).other W124 (Or.inr (slot_ne (Or.inl (hw _ (List.mem_of_getElem? (i := 35) rfl))) (Or.inl (hw _ (List.mem_of_getElem? (i := 63) rfl))) (by decide) (t := .byte) (t' := .int) (by decide) (by decide)))).other W127 (Or.inl ne_b1_v2))
  have f131 := (Fw124.other W127 (Or.inl ne_b1_v2))
  have f132 := (((EQ118 ▸ (EQ117 ▸ X2)).wr W124).wr W127)
  have pre133 : ∀ t, Steps p.tables e below (T127.setTop (mkF m 76 #[.val (.ref b1), .val (.int p1)] [(.ref b1)])) t → Steps p.tables e below (s₁.setTop (mkF m 0 #[.val (.ref b1), .val (.int p1)] [])) t := by
    intro t kt
    show Steps p.tables e below (s₁.setTop (mkF m 0 #[.val (.ref b1), .val (.int p1)] [])) _
    refine XS.aloadN X0.here hx rfl (hb hby d29_0) rfl rfl ?_
    show Steps p.tables e below (s₁.setTop (mkF m 1 #[.val (.ref b1), .val (.int p1)] [(.ref b1)])) _
    refine XS.aloadN X0.here hx rfl (hb hby d29_1) rfl rfl ?_
    show Steps p.tables e below (s₁.setTop (mkF m 2 #[.val (.ref b1), .val (.int p1)] [(.ref b1), (.ref b1)])) _
    refine st114 _ ?_
    show Steps p.tables e below (T114.setTop (mkF m 5 #[.val (.ref b1), .val (.int p1)] [(.int (Int32.ofNat ct)), (.ref b1)])) _
    refine XS.iconst X114.here hx rfl (hb hby d29_5) ?_
    show Steps p.tables e below (T114.setTop (mkF m 6 #[.val (.ref b1), .val (.int p1)] [(.int (1 : Int32)), (.int (Int32.ofNat ct)), (.ref b1)])) _
    refine XS.iadd X114.here hx rfl (hb hby d29_6) rfl ?_
    show Steps p.tables e below (T114.setTop (mkF m 7 #[.val (.ref b1), .val (.int p1)] [(.int ((Int32.ofNat ct) + (1 : Int32))), (.ref b1)])) _
    rw [show Int32.ofNat ct + (1 : Int32) = Int32.ofNat (ct + 1) from own_add ct 1]
    show Steps p.tables e below (T114.setTop (mkF m 7 #[.val (.ref b1), .val (.int p1)] [(.int (Int32.ofNat (ct + 1))), (.ref b1)])) _
    refine st115.trans ?_
    show Steps p.tables e below (T115.setTop (mkF m 10 #[.val (.ref b1), .val (.int p1)] [])) _
    refine XS.aloadN X115.here hx rfl (hb hby d29_10) rfl rfl ?_
    show Steps p.tables e below (T115.setTop (mkF m 11 #[.val (.ref b1), .val (.int p1)] [(.ref b1)])) _
    refine st117.trans ?_
    show Steps p.tables e below (T117.setTop (mkF m 14 #[.val (.ref b1), .val (.int p1)] [(.int (1 : Int32))])) _
    refine XS.ifNo X117.here hx rfl (hb hby d29_14) rfl ((if0 _ _).trans (feq (by decide : ¬ ((1 : Int32) = (0 : Int32)))).1) ?_
    show Steps p.tables e below (T117.setTop (mkF m 17 #[.val (.ref b1), .val (.int p1)] [])) _
    refine XS.iloadN X117.here hx rfl (hb hby d29_17) rfl ?_
    show Steps p.tables e below (T117.setTop (mkF m 18 #[.val (.ref b1), .val (.int p1)] [(.int p1)])) _
    refine st118 _ ?_
    show Steps p.tables e below (T118.setTop (mkF m 21 #[.val (.ref b1), .val (.int p1)] [(.int (1 : Int32))])) _
    refine XS.ifNo X118.here hx rfl (hb hby d29_21) rfl ((if0 _ _).trans (feq (by decide : ¬ ((1 : Int32) = (0 : Int32)))).1) ?_
    show Steps p.tables e below (T118.setTop (mkF m 24 #[.val (.ref b1), .val (.int p1)] [])) _
    refine XS.aloadN X118.here hx rfl (hb hby d29_24) rfl rfl ?_
    show Steps p.tables e below (T118.setTop (mkF m 25 #[.val (.ref b1), .val (.int p1)] [(.ref b1)])) _
    refine st120 _ ?_
    show Steps p.tables e below (T120.setTop (mkF m 28 #[.val (.ref b1), .val (.int p1)] [(.ref v2)])) _
    refine XS.aloadN X120.here hx rfl (hb hby d29_28) rfl rfl ?_
    show Steps p.tables e below (T120.setTop (mkF m 29 #[.val (.ref b1), .val (.int p1)] [(.ref b1), (.ref v2)])) _
    refine XS.dup X120.here hx rfl (hb hby d29_29) rfl rfl ?_
    show Steps p.tables e below (T120.setTop (mkF m 30 #[.val (.ref b1), .val (.int p1)] [(.ref b1), (.ref b1), (.ref v2)])) _
    refine st122 _ ?_
    show Steps p.tables e below (T122.setTop (mkF m 33 #[.val (.ref b1), .val (.int p1)] [(.int (Int32.ofNat ct)), (.ref b1), (.ref v2)])) _
    refine XS.dupX1 X122.here hx rfl (hb hby d29_33) rfl rfl rfl ?_
    show Steps p.tables e below (T122.setTop (mkF m 34 #[.val (.ref b1), .val (.int p1)] [(.int (Int32.ofNat ct)), (.ref b1), (.int (Int32.ofNat ct)), (.ref v2)])) _
    refine XS.iconst X122.here hx rfl (hb hby d29_34) ?_
    show Steps p.tables e below (T122.setTop (mkF m 35 #[.val (.ref b1), .val (.int p1)] [(.int (1 : Int32)), (.int (Int32.ofNat ct)), (.ref b1), (.int (Int32.ofNat ct)), (.ref v2)])) _
    refine XS.iadd X122.here hx rfl (hb hby d29_35) rfl ?_
    show Steps p.tables e below (T122.setTop (mkF m 36 #[.val (.ref b1), .val (.int p1)] [(.int ((Int32.ofNat ct) + (1 : Int32))), (.ref b1), (.int (Int32.ofNat ct)), (.ref v2)])) _
    rw [show Int32.ofNat ct + (1 : Int32) = Int32.ofNat (ct + 1) from own_add ct 1]
    show Steps p.tables e below (T122.setTop (mkF m 36 #[.val (.ref b1), .val (.int p1)] [(.int (Int32.ofNat (ct + 1))), (.ref b1), (.int (Int32.ofNat ct)), (.ref v2)])) _
    refine st124 _ ?_
    show Steps p.tables e below (T124.setTop (mkF m 39 #[.val (.ref b1), .val (.int p1)] [(.int (Int32.ofNat ct)), (.ref v2)])) _
    refine XS.iloadN X124.here hx rfl (hb hby d29_39) rfl ?_
    show Steps p.tables e below (T124.setTop (mkF m 40 #[.val (.ref b1), .val (.int p1)] [(.int p1), (.int (Int32.ofNat ct)), (.ref v2)])) _
    refine XS.i2b X124.here hx rfl (hb hby d29_40) rfl ?_
    show Steps p.tables e below (T124.setTop (mkF m 41 #[.val (.ref b1), .val (.int p1)] [(.int (p1.toInt8.toInt32)), (.int (Int32.ofNat ct)), (.ref v2)])) _
    refine st127 _ ?_
    show Steps p.tables e below (T127.setTop (mkF m 42 #[.val (.ref b1), .val (.int p1)] [])) _
    refine XS.goto X127.here hx rfl (pc0 := 42) (pc' := 75) rfl (hb hby d29_42) (by decide) (by decide) ?_
    show Steps p.tables e below (T127.setTop (mkF m 75 #[.val (.ref b1), .val (.int p1)] [])) _
    refine XS.aloadN X127.here hx rfl (hb hby d29_75) rfl rfl ?_
    exact kt
  obtain ⟨fs, hr, hrun, hended, hW, hsame⟩ := X127.leave (v := some (.ref b1)) (fun h => by rw [Bd.returns] at h; cases h)
  refine ⟨_, _, (pre0 _ (pre133 _ ?_)), hrun, hended, _, _, rfl, ?_, ⟨_, rfl⟩, hW, hsame.mono (by decide) (by decide)⟩
  · show Steps p.tables e below (T127.setTop (mkF m 76 #[.val (.ref b1), .val (.int p1)] [(.ref b1)])) _
    exact retOut X127 hx (t := (.object "java/lang/AbstractStringBuilder")) Bd.returns rfl (Or.inr (Or.inr (Or.inr (Or.inr ⟨rfl, rfl, rfl⟩)))) (hb hby d29_76) hr
  · show QAApC Z b1 v1 k1 cp ct vs p1 zc h0 n0 _ T127.heap _
    rw [e127]
    exact ⟨rfl, N127, K127, v2, k2, _, ⟨f128, f129, f130, f131, V127, f132⟩, ap.2.trans l2, ap.1, g_v2, hv2.imp id (fun q => Nat.le_trans hsz q)⟩
theorem ef_SApC (m : MethodId) (x0 : Addr) (x1 : Int32) : entryFrame m #[(.ref x0), (.int x1)] 2 = mkF m 0 #[.val (.ref x0), .val (.int x1)] [] := by (first | (simp [entryFrame, mkF, argsToLocals, Value.category]; done) | rfl)
def QSApC (Z : State) (b1 : Addr) (v1 : Addr) (k1 : ClassId) (cp : Nat) (ct : Nat) (vs : List Value) (p1 : Int32) (zc : Int32) (h0 : Heap) (n0 : Nat) (v : Option Value) (h : Heap) (L : List Loc) : Prop := v = some (.ref b1) ∧ Fr n0 L ∧ Keep h0 h [b1, v1] ∧ ∃ (v2 : Addr) (k2 : ClassId) (ws2 : List Value), (Exa Z h b1 "java/lang/StringBuilder" ∧ Fld Z h b1 "java/lang/AbstractStringBuilder" "value" "[B" (.ref v2) ∧ Fld Z h b1 "java/lang/AbstractStringBuilder" "coder" "B" (.int (0 : Int32)) ∧ Fld Z h b1 "java/lang/AbstractStringBuilder" "count" "I" (.int (Int32.ofNat (ct + 1))) ∧ Arv Z h v2 k2 .byte (Int32.ofNat (own_gr cp (ct + 1))) ws2 (.int (0 : Int32)) ∧ Exa Z h v2 "[B") ∧ ws2.length = own_gr cp (ct + 1) ∧ ws2.take (ct + 1) = vs.take ct ++ [.int (nar .byte (p1.toInt8.toInt32))] ∧ n0 ≤ v2 ∧ (v2 = v1 ∨ h0.size ≤ v2)
theorem d28_0 : decode jdk_67_method_14_code 0 = .ok (.aload_n 0, 1) := by decide +kernel
theorem d28_1 : decode jdk_67_method_14_code 1 = .ok (.iload_n 1, 1) := by decide +kernel
theorem d28_2 : decode jdk_67_method_14_code 2 = .ok (.invokespecial 50, 3) := by decide +kernel
theorem pd__C_Ljava_lang_AbstractStringBuilder_ : parseMethodDescriptor "(C)Ljava/lang/AbstractStringBuilder;" = some ⟨[.char], some (.object "java/lang/AbstractStringBuilder")⟩ := by decide +kernel
theorem d28_5 : decode jdk_67_method_14_code 5 = .ok (.pop, 1) := by decide +kernel
theorem d28_6 : decode jdk_67_method_14_code 6 = .ok (.aload_n 0, 1) := by decide +kernel
theorem d28_7 : decode jdk_67_method_14_code 7 = .ok (.areturn, 1) := by decide +kernel
set_option maxRecDepth 65536 in
set_option maxHeartbeats 40000000 in
theorem rmSApC (l : Launch) (Z : State) (a0 : Array Value) (hw : ∀ d ∈ tables_1, d.before a0 Z = true) (ws : List Jvm.Cond) (b1 : Addr) (v1 : Addr) (k1 : ClassId) (cp : Nat) (ct : Nat) (vs : List Value) (p1 : Int32) (zc : Int32) (h0 : Heap) (n0 : Nat) (Z0 : n0 ≤ h0.size) (BE : Exa Z h0 b1 "java/lang/StringBuilder") (BV : Fld Z h0 b1 "java/lang/AbstractStringBuilder" "value" "[B" (.ref v1)) (BC : Fld Z h0 b1 "java/lang/AbstractStringBuilder" "coder" "B" (.int (0 : Int32))) (BN : Fld Z h0 b1 "java/lang/AbstractStringBuilder" "count" "I" (.int (Int32.ofNat ct))) (BA : Arv Z h0 v1 k1 .byte (Int32.ofNat cp) vs (.int (0 : Int32))) (BX : Exa Z h0 v1 "[B") (hvl : vs.length = cp) (hcp : cp ≤ 1000) (g_b1 : n0 ≤ b1) (g_v1 : n0 ≤ v1) (hp : ¬ ((255 : Int32) < p1)) (hct : ct ≤ cp) (hgM : ct + 1 ≤ cp ∨ max (ct + 1) (2 * cp + 2) ≤ 304) (hnM : ct + 1 ≤ 1000) (OZ : Old Z n0 h0) (SC : Sta Z Z.heap "java/lang/String" "COMPACT_STRINGS" "Z" (.int zc)) (hzc : ¬ zc = (0 : Int32)) :
    MetFree l (⟨"java/lang/StringBuilder", "append", "(C)Ljava/lang/StringBuilder;"⟩ : MethodName) (head1 (Jvm.Cond.code (⟨"java/lang/StringBuilder", "append", "(C)Ljava/lang/StringBuilder;"⟩ : MethodName) jdk_67_method_14_code 2 (some (.object "java/lang/StringBuilder")) :: ws) ({ frames := 5, cells := 1, slots := 304, locals := 130 } : Room)) (fun a U => a = #[(.ref b1), (.int p1)] ∧ Z.Warmed39 U.vm ∧ U.heap = h0) (fun _ _ _ _ _ => True) (fun _ U o U' => ∃ v L, o = .returned v ∧ QSApC Z b1 v1 k1 cp ct vs p1 zc h0 n0 v U'.heap L ∧ FrameEnd U o U' L ({ frames := 5, cells := 1, slots := 304, locals := 130 } : Room).cells ({ frames := 5, cells := 1, slots := 304, locals := 130 } : Room).slots) := by
  refine MetFree.of_bodySF (plainFor_of_name pn_java_lang_StringBuilder) hisR ?_
  intro p e s m args below meth c s₁ Bd hml0 hP hK
  obtain ⟨rfl, hZ, hh⟩ := hP
  have hx := Bd.exec
  have hby := Bd.bytes
  have hml : c.maxLocals = 2 := hml0
  have hown : s.vm.findClass "java/lang/StringBuilder" = some m.cls := findClass_of_methodNamed Bd.named
  have hnm := (name_of_methodNamed Bd.named Bd.method).1
  have X0 : Stand p l e ({ frames := 5, cells := 1, slots := 304, locals := 130 } : Room) s m #[(.ref b1), (.int p1)] below meth c s₁ [] 0 0 := Stand.of_body Bd
  have e0 : s₁.heap = h0 := by rw [← hh, Bd.state]; rfl
  have N0 := Fr.nil n0
  have pre0 : ∀ t, Steps p.tables e below (s₁.setTop (mkF m 0 #[.val (.ref b1), .val (.int p1)] [])) t → Steps p.tables e below (s₁.setTop (entryFrame m #[(.ref b1), (.int p1)] 2)) t := fun t k => castTop (ef_SApC m b1 p1) k
  have mem_b1 : b1 ∈ [b1, v1] := List.mem_of_getElem? (i := 0) rfl
  have mem_v1 : v1 ∈ [b1, v1] := List.mem_of_getElem? (i := 1) rfl
  obtain ⟨_, _, ⟨T134, L134, k134, n134⟩, -, X134, ⟨Lc134, hQ134, l134, y134, z134⟩, st134⟩ := superBack X0 hx hZ (y := (⟨"java/lang/AbstractStringBuilder", "append", "(C)Ljava/lang/AbstractStringBuilder;"⟩ : MethodName)) hown (hw _ (List.mem_of_getElem? (i := 176) rfl)) (own_same (y := (⟨"java/lang/AbstractStringBuilder", "append", "(C)Ljava/lang/AbstractStringBuilder;"⟩ : MethodName)) (hw _ (List.mem_of_getElem? (i := 177) rfl)) (hw _ (List.mem_of_getElem? (i := 67) rfl)) rfl (by decide)) (hw _ (List.mem_of_getElem? (i := 177) rfl)) (hw _ (List.mem_of_getElem? (i := 46) rfl)) (by decide) (backOf (W := 0) (rmAApC l Z a0 hw [] b1 v1 k1 cp ct vs p1 zc h0 n0 Z0 BE BV BC BN BA BX hvl hcp g_b1 g_v1 hp hct hgM hnM OZ SC hzc) hZ (hw _ (List.mem_of_getElem? (i := 179) rfl)) (hw _ (List.mem_of_getElem? (i := 28) rfl)) (by decide) (by decide)) e0 (Ins.self BE) (g := (mkF m 2 #[.val (.ref b1), .val (.int p1)] [(.int p1), (.ref b1)])) rfl (by rw [hml]; rfl) (hw _ (List.mem_of_getElem? (i := 179) rfl)) (argsL := [(.int p1)]) (rest := []) (lenOf pd__C_Ljava_lang_AbstractStringBuilder_ rfl) rfl (by show 2 * 0 + _ ≤ _; exact Nat.le_of_eq rfl) (hb hby d28_2) (fun _ _ => ⟨rfl, e0, (by decide : 0 + 1 ≤ _), (by decide : 0 + 304 ≤ _)⟩)
  dsimp only [Pt.U, Pt.locs, Pt.cells, Pt.slots] at X134 l134 y134 z134 st134 hQ134
  subst l134 y134 z134
  obtain ⟨rfl, N134q, KC134, RR⟩ := hQ134
  have N134 := Fr.app N0 N134q
  have Z134 := Nat.le_trans Z0 KC134.1
  have K134 := (Keep.refl h0 [b1, v1]).trans KC134 (allS (Or.inl mem_b1) (allS (Or.inl mem_v1) all0))
  have pre135 : ∀ t, Steps p.tables e below (T134.setTop (mkF m 7 #[.val (.ref b1), .val (.int p1)] [(.ref b1)])) t → Steps p.tables e below (s₁.setTop (mkF m 0 #[.val (.ref b1), .val (.int p1)] [])) t := by
    intro t kt
    show Steps p.tables e below (s₁.setTop (mkF m 0 #[.val (.ref b1), .val (.int p1)] [])) _
    refine XS.aloadN X0.here hx rfl (hb hby d28_0) rfl rfl ?_
    show Steps p.tables e below (s₁.setTop (mkF m 1 #[.val (.ref b1), .val (.int p1)] [(.ref b1)])) _
    refine XS.iloadN X0.here hx rfl (hb hby d28_1) rfl ?_
    show Steps p.tables e below (s₁.setTop (mkF m 2 #[.val (.ref b1), .val (.int p1)] [(.int p1), (.ref b1)])) _
    refine st134.trans ?_
    show Steps p.tables e below (T134.setTop (mkF m 5 #[.val (.ref b1), .val (.int p1)] [(.ref b1)])) _
    refine XS.pop X134.here hx rfl (hb hby d28_5) rfl rfl ?_
    show Steps p.tables e below (T134.setTop (mkF m 6 #[.val (.ref b1), .val (.int p1)] [])) _
    refine XS.aloadN X134.here hx rfl (hb hby d28_6) rfl rfl ?_
    exact kt
  obtain ⟨fs, hr, hrun, hended, hW, hsame⟩ := X134.leave (v := some (.ref b1)) (fun h => by rw [Bd.returns] at h; cases h)
  refine ⟨_, _, (pre0 _ (pre135 _ ?_)), hrun, hended, _, _, rfl, ?_, ⟨_, rfl⟩, hW, hsame.mono (by decide) (by decide)⟩
  · show Steps p.tables e below (T134.setTop (mkF m 7 #[.val (.ref b1), .val (.int p1)] [(.ref b1)])) _
    exact retOut X134 hx (t := (.object "java/lang/StringBuilder")) Bd.returns rfl (Or.inr (Or.inr (Or.inr (Or.inr ⟨rfl, rfl, rfl⟩)))) (hb hby d28_7) hr
  · show QSApC Z b1 v1 k1 cp ct vs p1 zc h0 n0 _ T134.heap _
    exact ⟨rfl, N134, K134, RR⟩
theorem ef_AInit (m : MethodId) (x0 : Addr) (x1 : Int32) : entryFrame m #[(.ref x0), (.int x1)] 2 = mkF m 0 #[.val (.ref x0), .val (.int x1)] [] := by (first | (simp [entryFrame, mkF, argsToLocals, Value.category]; done) | rfl)
def QAInit (Z : State) (b1 : Addr) (zc : Int32) (h0 : Heap) (n0 : Nat) (v : Option Value) (h : Heap) (L : List Loc) : Prop := v = none ∧ Fr n0 L ∧ Keep h0 h [b1] ∧ ∃ (v2 : Addr) (k2 : ClassId), (Exa Z h b1 "java/lang/StringBuilder" ∧ Fld Z h b1 "java/lang/AbstractStringBuilder" "value" "[B" (.ref v2) ∧ Fld Z h b1 "java/lang/AbstractStringBuilder" "coder" "B" (.int (0 : Int32)) ∧ Fld Z h b1 "java/lang/AbstractStringBuilder" "count" "I" (.int (Int32.ofNat 0)) ∧ Arv Z h v2 k2 .byte (Int32.ofNat 16) (List.replicate 16 (.int (0 : Int32))) (.int (0 : Int32)) ∧ Exa Z h v2 "[B") ∧ h0.size ≤ v2
theorem d4_0 : decode jdk_68_method_2_code 0 = .ok (.aload_n 0, 1) := by decide +kernel
theorem d4_1 : decode jdk_68_method_2_code 1 = .ok (.invokespecial 3, 3) := by decide +kernel
theorem d4_4 : decode jdk_68_method_2_code 4 = .ok (.getstatic 18, 3) := by decide +kernel
theorem d4_7 : decode jdk_68_method_2_code 7 = .ok (.ifCond .eq 18, 3) := by decide +kernel
theorem d4_10 : decode jdk_68_method_2_code 10 = .ok (.aload_n 0, 1) := by decide +kernel
theorem d4_11 : decode jdk_68_method_2_code 11 = .ok (.iload_n 1, 1) := by decide +kernel
theorem d4_12 : decode jdk_68_method_2_code 12 = .ok (.newarray .byte, 2) := by decide +kernel
theorem d4_14 : decode jdk_68_method_2_code 14 = .ok (.putfield 15, 3) := by decide +kernel
theorem d4_17 : decode jdk_68_method_2_code 17 = .ok (.aload_n 0, 1) := by decide +kernel
theorem d4_18 : decode jdk_68_method_2_code 18 = .ok (.iconst 0, 1) := by decide +kernel
theorem d4_19 : decode jdk_68_method_2_code 19 = .ok (.putfield 22, 3) := by decide +kernel
theorem d4_22 : decode jdk_68_method_2_code 22 = .ok (.goto 16, 3) := by decide +kernel
theorem d4_38 : decode jdk_68_method_2_code 38 = .ok (.return_, 1) := by decide +kernel
set_option maxRecDepth 65536 in
set_option maxHeartbeats 40000000 in
theorem rmAInit (l : Launch) (Z : State) (a0 : Array Value) (hw : ∀ d ∈ tables_1, d.before a0 Z = true) (ws : List Jvm.Cond) (b1 : Addr) (zc : Int32) (h0 : Heap) (n0 : Nat) (Z0 : n0 ≤ h0.size) (BE : Exa Z h0 b1 "java/lang/StringBuilder") (FV0 : Fld Z h0 b1 "java/lang/AbstractStringBuilder" "value" "[B" .null) (FC0 : Fld Z h0 b1 "java/lang/AbstractStringBuilder" "coder" "B" (.int (0 : Int32))) (FN0 : Fld Z h0 b1 "java/lang/AbstractStringBuilder" "count" "I" (.int (0 : Int32))) (g_b1 : n0 ≤ b1) (OZ : Old Z n0 h0) (SC : Sta Z Z.heap "java/lang/String" "COMPACT_STRINGS" "Z" (.int zc)) (hzc : ¬ zc = (0 : Int32)) :
    MetFree l (⟨"java/lang/AbstractStringBuilder", "<init>", "(I)V"⟩ : MethodName) (head1 (Jvm.Cond.code (⟨"java/lang/AbstractStringBuilder", "<init>", "(I)V"⟩ : MethodName) jdk_68_method_2_code 2 none :: ws) ({ frames := 1, cells := 1, slots := 16, locals := 14 } : Room)) (fun a U => a = #[(.ref b1), (.int (16 : Int32))] ∧ Z.Warmed39 U.vm ∧ U.heap = h0) (fun _ _ _ _ _ => True) (fun _ U o U' => ∃ v L, o = .returned v ∧ QAInit Z b1 zc h0 n0 v U'.heap L ∧ FrameEnd U o U' L ({ frames := 1, cells := 1, slots := 16, locals := 14 } : Room).cells ({ frames := 1, cells := 1, slots := 16, locals := 14 } : Room).slots) := by
  refine MetFree.of_bodySF (plainFor_of_name pn_java_lang_AbstractStringBuilder) hisR ?_
  intro p e s m args below meth c s₁ Bd hml0 hP hK
  obtain ⟨rfl, hZ, hh⟩ := hP
  have hx := Bd.exec
  have hby := Bd.bytes
  have hml : c.maxLocals = 2 := hml0
  have hown : s.vm.findClass "java/lang/AbstractStringBuilder" = some m.cls := findClass_of_methodNamed Bd.named
  have hnm := (name_of_methodNamed Bd.named Bd.method).1
  have X0 : Stand p l e ({ frames := 1, cells := 1, slots := 16, locals := 14 } : Room) s m #[(.ref b1), (.int (16 : Int32))] below meth c s₁ [] 0 0 := Stand.of_body Bd
  have e0 : s₁.heap = h0 := by rw [← hh, Bd.state]; rfl
  have N0 := Fr.nil n0
  have pre0 : ∀ t, Steps p.tables e below (s₁.setTop (mkF m 0 #[.val (.ref b1), .val (.int (16 : Int32))] [])) t → Steps p.tables e below (s₁.setTop (entryFrame m #[(.ref b1), (.int (16 : Int32))] 2)) t := fun t k => castTop (ef_AInit m b1 (16 : Int32)) k
  have mem_b1 : b1 ∈ [b1] := List.mem_of_getElem? (i := 0) rfl
  obtain ⟨T136, X136, e136, st136⟩ := initO X0 hx hZ hown (hw _ (List.mem_of_getElem? (i := 30) rfl)) (hw _ (List.mem_of_getElem? (i := 16) rfl)) (hw _ (List.mem_of_getElem? (i := 17) rfl)) e0 (g := (mkF m 1 #[.val (.ref b1), .val (.int (16 : Int32))] [(.ref b1)])) rfl (by rw [hml]; rfl) rfl (hb hby d4_1) (by decide) (W := 0) (by show 2 * 0 + _ ≤ _; exact Nat.le_of_eq rfl) (by decide)
  obtain ⟨T137, X137, e137, st137⟩ := getS2 X136 hx hZ hown (host := "") (Or.inl (hw _ (List.mem_of_getElem? (i := 31) rfl))) Via.refl e136 (SC.ext OZ.2) (g := (mkF m 4 #[.val (.ref b1), .val (.int (16 : Int32))] [])) rfl (hb hby d4_4)
  obtain ⟨T138, h138, k138, X138, e138, E138, A138, B138, st138⟩ := newPE X137 hx hZ (hw _ (List.mem_of_getElem? (i := 7) rfl)) e137 (g := (mkF m 12 #[.val (.ref b1), .val (.int (16 : Int32))] [(.int (16 : Int32)), (.ref b1)])) rfl (hb hby d4_12) rfl (by decide) (cap := 16) (by decide) (by decide) (by decide) (by decide) (ad := "[B") rfl
  obtain ⟨b138, g138⟩ : ∃ z, z = h0.size := ⟨_, rfl⟩
  rw [← g138] at A138 B138 st138
  have g_b138 : n0 ≤ b138 := Nat.le_trans Z0 (Nat.le_of_eq g138.symm)
  have sz_b138 : h0.size ≤ b138 := Nat.le_trans (Keep.refl h0 [b1]).1 (Nat.le_of_eq g138.symm)
  have ne_b1_b138 : b1 ≠ b138 := Nat.ne_of_lt (Nat.lt_of_lt_of_le BE.lt (Nat.le_of_eq g138.symm))
  have Z138 := Nat.le_trans Z0 E138.1
  have K138 := (Keep.refl h0 [b1]).ext E138
  have V138 := Arv.new A138 (by decide)
  have VP : Arv Z h138 b138 k138 .byte (Int32.ofNat 16) (List.replicate 16 (.int (0 : Int32))) (.int (0 : Int32)) := V138.pad (pad_rep [] (.int (0 : Int32)) 16)
  have f139 := (FV0.ext E138)
  have f140 := (BE.ext E138)
  obtain ⟨T141, h141, X141, e141, W141, st141⟩ := putF X138 hx hZ hown (host := "") (Or.inl (hw _ (List.mem_of_getElem? (i := 32) rfl))) Via.refl e138 f139 f140 (Or.inl (hw _ (List.mem_of_getElem? (i := 33) rfl))) (hw _ (List.mem_of_getElem? (i := 19) rfl)) (ty := (.array .byte)) (by decide) rfl rfl (g := (mkF m 14 #[.val (.ref b1), .val (.int (16 : Int32))] [(.ref b138), (.ref b1)])) rfl rfl (hb hby d4_14)
  have N141 := Fr.snoc X141 N0 g_b1
  have Z141 := Nat.le_trans Z138 (Keep.of_wr W141).1
  have K141 := K138.wr W141 (Or.inl mem_b1)
  have Fw141 := f139.same W141
  have f142 := ((FC0.ext E138).other W141 (Or.inr (slot_ne (Or.inl (hw _ (List.mem_of_getElem? (i := 35) rfl))) (Or.inl (hw _ (List.mem_of_getElem? (i := 33) rfl))) (by decide) (t := .byte) (t' := (.array .byte)) (by decide) (by decide))))
  have f143 := (f140.wr W141)
  obtain ⟨T144, h144, X144, e144, W144, st144⟩ := putFN X141 hx hZ hown (hw _ (List.mem_of_getElem? (i := 34) rfl)) Via.refl e141 f142 f143 (Or.inl (hw _ (List.mem_of_getElem? (i := 35) rfl))) (hw _ (List.mem_of_getElem? (i := 19) rfl)) (ty := .byte) (v' := (.int (0 : Int32))) (by decide) rfl rfl (g := (mkF m 19 #[.val (.ref b1), .val (.int (16 : Int32))] [(.int (0 : Int32)), (.ref b1)])) rfl rfl (hb hby d4_19)
  have N144 := Fr.snoc X144 N141 g_b1
  have Z144 := Nat.le_trans Z141 (Keep.of_wr W144).1
  have K144 := K141.wr W144 (Or.inl mem_b1)
  have Fw144 := f142.same W144
  have f145 := (f143.wr W144)
  have f146 := (Fw141.other W144 (Or.inr (slot_ne (Or.inl (hw _ (List.mem_of_getElem? (i := 33) rfl))) (Or.inl (hw _ (List.mem_of_getElem? (i := 35) rfl))) (by decide) (t := (.array .byte)) (t' := .byte) (by decide) (by decide))))
  have f147 := (((FN0.ext E138).other W141 (Or.inr (slot_ne (Or.inl (hw _ (List.mem_of_getElem? (i := 63) rfl))) (Or.inl (hw _ (List.mem_of_getElem? (i := 33) rfl))) (by decide) (t := .int) (t' := (.array .byte)) (by decide) (by decide)))).other W144 (Or.inr (slot_ne (Or.inl (hw _ (List.mem_of_getElem? (i := 63) rfl))) (Or.inl (hw _ (List.mem_of_getElem? (i := 35) rfl))) (by decide) (t := .int) (t' := .byte) (by decide) (by decide))))
  have f148 := ((VP.other W141 (Ne.symm ne_b1_b138)).other W144 (Ne.symm ne_b1_b138))
  have f149 := ((B138.wr W141).wr W144)
  have pre150 : ∀ t, Steps p.tables e below (T144.setTop (mkF m 38 #[.val (.ref b1), .val (.int (16 : Int32))] [])) t → Steps p.tables e below (s₁.setTop (mkF m 0 #[.val (.ref b1), .val (.int (16 : Int32))] [])) t := by
    intro t kt
    show Steps p.tables e below (s₁.setTop (mkF m 0 #[.val (.ref b1), .val (.int (16 : Int32))] [])) _
    refine XS.aloadN X0.here hx rfl (hb hby d4_0) rfl rfl ?_
    show Steps p.tables e below (s₁.setTop (mkF m 1 #[.val (.ref b1), .val (.int (16 : Int32))] [(.ref b1)])) _
    refine st136 _ ?_
    show Steps p.tables e below (T136.setTop (mkF m 4 #[.val (.ref b1), .val (.int (16 : Int32))] [])) _
    refine st137 _ ?_
    show Steps p.tables e below (T137.setTop (mkF m 7 #[.val (.ref b1), .val (.int (16 : Int32))] [(.int zc)])) _
    refine XS.ifNo X137.here hx rfl (hb hby d4_7) rfl ((if0 _ _).trans (feq (hzc : ¬ (zc = (0 : Int32)))).1) ?_
    show Steps p.tables e below (T137.setTop (mkF m 10 #[.val (.ref b1), .val (.int (16 : Int32))] [])) _
    refine XS.aloadN X137.here hx rfl (hb hby d4_10) rfl rfl ?_
    show Steps p.tables e below (T137.setTop (mkF m 11 #[.val (.ref b1), .val (.int (16 : Int32))] [(.ref b1)])) _
    refine XS.iloadN X137.here hx rfl (hb hby d4_11) rfl ?_
    show Steps p.tables e below (T137.setTop (mkF m 12 #[.val (.ref b1), .val (.int (16 : Int32))] [(.int (16 : Int32)), (.ref b1)])) _
    refine st138 _ ?_
    show Steps p.tables e below (T138.setTop (mkF m 14 #[.val (.ref b1), .val (.int (16 : Int32))] [(.ref b138), (.ref b1)])) _
    refine st141 _ ?_
    show Steps p.tables e below (T141.setTop (mkF m 17 #[.val (.ref b1), .val (.int (16 : Int32))] [])) _
    refine XS.aloadN X141.here hx rfl (hb hby d4_17) rfl rfl ?_
    show Steps p.tables e below (T141.setTop (mkF m 18 #[.val (.ref b1), .val (.int (16 : Int32))] [(.ref b1)])) _
    refine XS.iconst X141.here hx rfl (hb hby d4_18) ?_
    show Steps p.tables e below (T141.setTop (mkF m 19 #[.val (.ref b1), .val (.int (16 : Int32))] [(.int (0 : Int32)), (.ref b1)])) _
    refine st144 _ ?_
    show Steps p.tables e below (T144.setTop (mkF m 22 #[.val (.ref b1), .val (.int (16 : Int32))] [])) _
    refine XS.goto X144.here hx rfl (pc0 := 22) (pc' := 38) rfl (hb hby d4_22) (by decide) (by decide) ?_
    exact kt
  obtain ⟨fs, hr, hrun, hended, hW, hsame⟩ := X144.leave (v := none) (fun _ => rfl)
  refine ⟨_, _, (pre0 _ (pre150 _ ?_)), hrun, hended, _, _, rfl, ?_, ⟨_, rfl⟩, hW, hsame.mono (by decide) (by decide)⟩
  · show Steps p.tables e below (T144.setTop (mkF m 38 #[.val (.ref b1), .val (.int (16 : Int32))] [])) _
    exact X144.returnOut hx Bd.returns (hb hby d4_38) hr
  · show QAInit Z b1 zc h0 n0 _ T144.heap _
    rw [e144]
    exact ⟨rfl, N144, K144, b138, k138, ⟨f145, f146, Fw144, f147, f148, f149⟩, sz_b138⟩
theorem ef_SInit (m : MethodId) (x0 : Addr) : entryFrame m #[(.ref x0)] 1 = mkF m 0 #[.val (.ref x0)] [] := by (first | (simp [entryFrame, mkF, argsToLocals, Value.category]; done) | rfl)
def QSInit (Z : State) (b1 : Addr) (zc : Int32) (h0 : Heap) (n0 : Nat) (v : Option Value) (h : Heap) (L : List Loc) : Prop := v = none ∧ Fr n0 L ∧ Keep h0 h [b1] ∧ ∃ (v2 : Addr) (k2 : ClassId), (Exa Z h b1 "java/lang/StringBuilder" ∧ Fld Z h b1 "java/lang/AbstractStringBuilder" "value" "[B" (.ref v2) ∧ Fld Z h b1 "java/lang/AbstractStringBuilder" "coder" "B" (.int (0 : Int32)) ∧ Fld Z h b1 "java/lang/AbstractStringBuilder" "count" "I" (.int (Int32.ofNat 0)) ∧ Arv Z h v2 k2 .byte (Int32.ofNat 16) (List.replicate 16 (.int (0 : Int32))) (.int (0 : Int32)) ∧ Exa Z h v2 "[B") ∧ h0.size ≤ v2
theorem d3_0 : decode jdk_67_method_1_code 0 = .ok (.aload_n 0, 1) := by decide +kernel
theorem d3_1 : decode jdk_67_method_1_code 1 = .ok (.bipush 16, 2) := by decide +kernel
theorem d3_3 : decode jdk_67_method_1_code 3 = .ok (.invokespecial 1, 3) := by decide +kernel
theorem d3_6 : decode jdk_67_method_1_code 6 = .ok (.return_, 1) := by decide +kernel
set_option maxRecDepth 65536 in
set_option maxHeartbeats 40000000 in
theorem rmSInit (l : Launch) (Z : State) (a0 : Array Value) (hw : ∀ d ∈ tables_1, d.before a0 Z = true) (ws : List Jvm.Cond) (b1 : Addr) (zc : Int32) (h0 : Heap) (n0 : Nat) (Z0 : n0 ≤ h0.size) (BE : Exa Z h0 b1 "java/lang/StringBuilder") (FV0 : Fld Z h0 b1 "java/lang/AbstractStringBuilder" "value" "[B" .null) (FC0 : Fld Z h0 b1 "java/lang/AbstractStringBuilder" "coder" "B" (.int (0 : Int32))) (FN0 : Fld Z h0 b1 "java/lang/AbstractStringBuilder" "count" "I" (.int (0 : Int32))) (g_b1 : n0 ≤ b1) (OZ : Old Z n0 h0) (SC : Sta Z Z.heap "java/lang/String" "COMPACT_STRINGS" "Z" (.int zc)) (hzc : ¬ zc = (0 : Int32)) :
    MetFree l (⟨"java/lang/StringBuilder", "<init>", "()V"⟩ : MethodName) (head1 (Jvm.Cond.code (⟨"java/lang/StringBuilder", "<init>", "()V"⟩ : MethodName) jdk_67_method_1_code 1 none :: ws) ({ frames := 2, cells := 1, slots := 16, locals := 40 } : Room)) (fun a U => a = #[(.ref b1)] ∧ Z.Warmed39 U.vm ∧ U.heap = h0) (fun _ _ _ _ _ => True) (fun _ U o U' => ∃ v L, o = .returned v ∧ QSInit Z b1 zc h0 n0 v U'.heap L ∧ FrameEnd U o U' L ({ frames := 2, cells := 1, slots := 16, locals := 40 } : Room).cells ({ frames := 2, cells := 1, slots := 16, locals := 40 } : Room).slots) := by
  refine MetFree.of_bodySF (plainFor_of_name pn_java_lang_StringBuilder) hisR ?_
  intro p e s m args below meth c s₁ Bd hml0 hP hK
  obtain ⟨rfl, hZ, hh⟩ := hP
  have hx := Bd.exec
  have hby := Bd.bytes
  have hml : c.maxLocals = 1 := hml0
  have hown : s.vm.findClass "java/lang/StringBuilder" = some m.cls := findClass_of_methodNamed Bd.named
  have hnm := (name_of_methodNamed Bd.named Bd.method).1
  have X0 : Stand p l e ({ frames := 2, cells := 1, slots := 16, locals := 40 } : Room) s m #[(.ref b1)] below meth c s₁ [] 0 0 := Stand.of_body Bd
  have e0 : s₁.heap = h0 := by rw [← hh, Bd.state]; rfl
  have N0 := Fr.nil n0
  have pre0 : ∀ t, Steps p.tables e below (s₁.setTop (mkF m 0 #[.val (.ref b1)] [])) t → Steps p.tables e below (s₁.setTop (entryFrame m #[(.ref b1)] 1)) t := fun t k => castTop (ef_SInit m b1) k
  have mem_b1 : b1 ∈ [b1] := List.mem_of_getElem? (i := 0) rfl
  obtain ⟨_, _, ⟨T151, L151, k151, n151⟩, -, X151, ⟨Lc151, hQ151, l151, y151, z151⟩, st151⟩ := X0.specialBack hx (y := (⟨"java/lang/AbstractStringBuilder", "<init>", "(I)V"⟩ : MethodName)) rfl hown (mvT hZ (hw _ (List.mem_of_getElem? (i := 24) rfl))) (mvT hZ (hw _ (List.mem_of_getElem? (i := 25) rfl))) (mvT hZ (hw _ (List.mem_of_getElem? (i := 29) rfl))) (by decide) (backOf (W := 0) (rmAInit l Z a0 hw [] b1 zc h0 n0 Z0 BE FV0 FC0 FN0 g_b1 OZ SC hzc) hZ (hw _ (List.mem_of_getElem? (i := 29) rfl)) (hw _ (List.mem_of_getElem? (i := 28) rfl)) (by decide) (by decide)) (g := (mkF m 3 #[.val (.ref b1)] [(.int (16 : Int32)), (.ref b1)])) rfl (by rw [hml]; rfl) (Steps.refl _) (a := b1) (argsL := [(.int (16 : Int32))]) (rest := []) (lenOf pd__I_V rfl) rfl (by show 2 * 0 + _ ≤ _; exact Nat.le_of_eq rfl) (hb hby d3_3) (fun _ _ => ⟨rfl, e0, (by decide : 0 + 1 ≤ _), (by decide : 0 + 16 ≤ _)⟩)
  dsimp only [Pt.U, Pt.locs, Pt.cells, Pt.slots] at X151 l151 y151 z151 st151 hQ151
  subst l151 y151 z151
  obtain ⟨rfl, N151q, KC151, RR⟩ := hQ151
  have N151 := Fr.app N0 N151q
  have Z151 := Nat.le_trans Z0 KC151.1
  have K151 := (Keep.refl h0 [b1]).trans KC151 (allS (Or.inl mem_b1) all0)
  have pre152 : ∀ t, Steps p.tables e below (T151.setTop (mkF m 6 #[.val (.ref b1)] [])) t → Steps p.tables e below (s₁.setTop (mkF m 0 #[.val (.ref b1)] [])) t := by
    intro t kt
    show Steps p.tables e below (s₁.setTop (mkF m 0 #[.val (.ref b1)] [])) _
    refine XS.aloadN X0.here hx rfl (hb hby d3_0) rfl rfl ?_
    show Steps p.tables e below (s₁.setTop (mkF m 1 #[.val (.ref b1)] [(.ref b1)])) _
    refine XS.bipush X0.here hx rfl (hb hby d3_1) ?_
    show Steps p.tables e below (s₁.setTop (mkF m 3 #[.val (.ref b1)] [(.int (16 : Int32)), (.ref b1)])) _
    refine st151.trans ?_
    exact kt
  obtain ⟨fs, hr, hrun, hended, hW, hsame⟩ := X151.leave (v := none) (fun _ => rfl)
  refine ⟨_, _, (pre0 _ (pre152 _ ?_)), hrun, hended, _, _, rfl, ?_, ⟨_, rfl⟩, hW, hsame.mono (by decide) (by decide)⟩
  · show Steps p.tables e below (T151.setTop (mkF m 6 #[.val (.ref b1)] [])) _
    exact X151.returnOut hx Bd.returns (hb hby d3_6) hr
  · show QSInit Z b1 zc h0 n0 _ T151.heap _
    exact ⟨rfl, N151, K151, RR⟩
theorem ef_ChkL (m : MethodId) (x0 : Int32) (x1 : Int32) : entryFrame m #[(.int x0), (.int x1)] 2 = mkF m 0 #[.val (.int x0), .val (.int x1)] [] := by (first | (simp [entryFrame, mkF, argsToLocals, Value.category]; done) | rfl)
def QChkL (Z : State) (p1 : Int32) (h0 : Heap) (n0 : Nat) (v : Option Value) (h : Heap) (L : List Loc) : Prop := v = none ∧ Fr n0 L ∧ h = h0
theorem d36_0 : decode jdk_65_method_131_code 0 = .ok (.iload_n 1, 1) := by decide +kernel
theorem d36_1 : decode jdk_65_method_131_code 1 = .ok (.iload_n 0, 1) := by decide +kernel
theorem d36_2 : decode jdk_65_method_131_code 2 = .ok (.if_icmp .ge 35, 3) := by decide +kernel
theorem d36_37 : decode jdk_65_method_131_code 37 = .ok (.return_, 1) := by decide +kernel
set_option maxRecDepth 65536 in
set_option maxHeartbeats 40000000 in
theorem rmChkL (l : Launch) (Z : State) (a0 : Array Value) (hw : ∀ d ∈ tables_1, d.before a0 Z = true) (ws : List Jvm.Cond) (p1 : Int32) (h0 : Heap) (n0 : Nat) (Z0 : n0 ≤ h0.size) (hp : ¬ (p1 < (0 : Int32))) :
    MetFree l (⟨"java/util/Arrays", "checkLength", "(II)V"⟩ : MethodName) (head1 (Jvm.Cond.code (⟨"java/util/Arrays", "checkLength", "(II)V"⟩ : MethodName) jdk_65_method_131_code 2 none :: ws) ({ frames := 0, cells := 0, slots := 0, locals := 0 } : Room)) (fun a U => a = #[(.int (0 : Int32)), (.int p1)] ∧ Z.Warmed39 U.vm ∧ U.heap = h0) (fun _ _ _ _ _ => True) (fun _ U o U' => ∃ v L, o = .returned v ∧ QChkL Z p1 h0 n0 v U'.heap L ∧ FrameEnd U o U' L ({ frames := 0, cells := 0, slots := 0, locals := 0 } : Room).cells ({ frames := 0, cells := 0, slots := 0, locals := 0 } : Room).slots) := by
  refine MetFree.of_bodySF (plainFor_of_name pn_java_util_Arrays) hisR ?_
  intro p e s m args below meth c s₁ Bd hml0 hP hK
  obtain ⟨rfl, hZ, hh⟩ := hP
  have hx := Bd.exec
  have hby := Bd.bytes
  have hml : c.maxLocals = 2 := hml0
  have hown : s.vm.findClass "java/util/Arrays" = some m.cls := findClass_of_methodNamed Bd.named
  have hnm := (name_of_methodNamed Bd.named Bd.method).1
  have X0 : Stand p l e ({ frames := 0, cells := 0, slots := 0, locals := 0 } : Room) s m #[(.int (0 : Int32)), (.int p1)] below meth c s₁ [] 0 0 := Stand.of_body Bd
  have e0 : s₁.heap = h0 := by rw [← hh, Bd.state]; rfl
  have N0 := Fr.nil n0
  have pre0 : ∀ t, Steps p.tables e below (s₁.setTop (mkF m 0 #[.val (.int (0 : Int32)), .val (.int p1)] [])) t → Steps p.tables e below (s₁.setTop (entryFrame m #[(.int (0 : Int32)), (.int p1)] 2)) t := fun t k => castTop (ef_ChkL m (0 : Int32) p1) k
  have pre153 : ∀ t, Steps p.tables e below (s₁.setTop (mkF m 37 #[.val (.int (0 : Int32)), .val (.int p1)] [])) t → Steps p.tables e below (s₁.setTop (mkF m 0 #[.val (.int (0 : Int32)), .val (.int p1)] [])) t := by
    intro t kt
    show Steps p.tables e below (s₁.setTop (mkF m 0 #[.val (.int (0 : Int32)), .val (.int p1)] [])) _
    refine XS.iloadN X0.here hx rfl (hb hby d36_0) rfl ?_
    show Steps p.tables e below (s₁.setTop (mkF m 1 #[.val (.int (0 : Int32)), .val (.int p1)] [(.int p1)])) _
    refine XS.iloadN X0.here hx rfl (hb hby d36_1) rfl ?_
    show Steps p.tables e below (s₁.setTop (mkF m 2 #[.val (.int (0 : Int32)), .val (.int p1)] [(.int (0 : Int32)), (.int p1)])) _
    refine XS.icmpYes X0.here hx rfl (pc0 := 2) (pc' := 37) rfl (hb hby d36_2) rfl (flt (hp : ¬ (p1 < (0 : Int32)))).2.1 (by decide) (by decide) ?_
    exact kt
  obtain ⟨fs, hr, hrun, hended, hW, hsame⟩ := X0.leave (v := none) (fun _ => rfl)
  refine ⟨_, _, (pre0 _ (pre153 _ ?_)), hrun, hended, _, _, rfl, ?_, ⟨_, rfl⟩, hW, hsame.mono (by decide) (by decide)⟩
  · show Steps p.tables e below (s₁.setTop (mkF m 37 #[.val (.int (0 : Int32)), .val (.int p1)] [])) _
    exact X0.returnOut hx Bd.returns (hb hby d36_37) hr
  · show QChkL Z p1 h0 n0 _ s₁.heap _
    rw [e0]
    exact ⟨rfl, N0, rfl⟩
theorem ef_CRB (m : MethodId) (x0 : Addr) (x1 : Int32) (x2 : Int32) : entryFrame m #[(.ref x0), (.int x1), (.int x2)] 5 = mkF m 0 #[.val (.ref x0), .val (.int x1), .val (.int x2), .unset, .unset] [] := by (first | (simp [entryFrame, mkF, argsToLocals, Value.category]; done) | rfl)
def QCRB (Z : State) (v1 : Addr) (k1 : ClassId) (cp : Nat) (ct : Nat) (vs : List Value) (h0 : Heap) (n0 : Nat) (v : Option Value) (h : Heap) (L : List Loc) : Prop := ∃ x2, v = some (.ref x2) ∧ Fr n0 L ∧ Ext h0 h ∧ h0.size ≤ x2 ∧ ∃ k2, Arv Z h x2 k2 .byte (Int32.ofNat ct) (vs.take ct) (.int (0 : Int32))
theorem d35_0 : decode jdk_65_method_133_code 0 = .ok (.iload_n 1, 1) := by decide +kernel
theorem d35_1 : decode jdk_65_method_133_code 1 = .ok (.iload_n 2, 1) := by decide +kernel
theorem d35_2 : decode jdk_65_method_133_code 2 = .ok (.invokestatic 343, 3) := by decide +kernel
theorem pd__II_V : parseMethodDescriptor "(II)V" = some ⟨[.int, .int], none⟩ := by decide +kernel
theorem d35_5 : decode jdk_65_method_133_code 5 = .ok (.iload_n 2, 1) := by decide +kernel
theorem d35_6 : decode jdk_65_method_133_code 6 = .ok (.iload_n 1, 1) := by decide +kernel
theorem d35_7 : decode jdk_65_method_133_code 7 = .ok (.isub, 1) := by decide +kernel
theorem d35_8 : decode jdk_65_method_133_code 8 = .ok (.istore_n 3, 1) := by decide +kernel
theorem d35_9 : decode jdk_65_method_133_code 9 = .ok (.iload_n 3, 1) := by decide +kernel
theorem d35_10 : decode jdk_65_method_133_code 10 = .ok (.newarray .byte, 2) := by decide +kernel
theorem d35_12 : decode jdk_65_method_133_code 12 = .ok (.astore 4, 2) := by decide +kernel
theorem d35_14 : decode jdk_65_method_133_code 14 = .ok (.aload_n 0, 1) := by decide +kernel
theorem d35_15 : decode jdk_65_method_133_code 15 = .ok (.iload_n 1, 1) := by decide +kernel
theorem d35_16 : decode jdk_65_method_133_code 16 = .ok (.aload 4, 2) := by decide +kernel
theorem d35_18 : decode jdk_65_method_133_code 18 = .ok (.iconst 0, 1) := by decide +kernel
theorem d35_19 : decode jdk_65_method_133_code 19 = .ok (.aload_n 0, 1) := by decide +kernel
theorem d35_20 : decode jdk_65_method_133_code 20 = .ok (.arraylength, 1) := by decide +kernel
theorem d35_21 : decode jdk_65_method_133_code 21 = .ok (.iload_n 1, 1) := by decide +kernel
theorem d35_22 : decode jdk_65_method_133_code 22 = .ok (.isub, 1) := by decide +kernel
theorem d35_23 : decode jdk_65_method_133_code 23 = .ok (.iload_n 3, 1) := by decide +kernel
theorem d35_24 : decode jdk_65_method_133_code 24 = .ok (.invokestatic 304, 3) := by decide +kernel
theorem d35_27 : decode jdk_65_method_133_code 27 = .ok (.invokestatic 150, 3) := by decide +kernel
theorem d35_30 : decode jdk_65_method_133_code 30 = .ok (.aload 4, 2) := by decide +kernel
theorem d35_32 : decode jdk_65_method_133_code 32 = .ok (.areturn, 1) := by decide +kernel
set_option maxRecDepth 65536 in
set_option maxHeartbeats 40000000 in
theorem rmCRB (l : Launch) (Z : State) (a0 : Array Value) (hw : ∀ d ∈ tables_1, d.before a0 Z = true) (ws : List Jvm.Cond) (v1 : Addr) (k1 : ClassId) (cp : Nat) (ct : Nat) (vs : List Value) (h0 : Heap) (n0 : Nat) (Z0 : n0 ≤ h0.size) (BA : Arv Z h0 v1 k1 .byte (Int32.ofNat cp) vs (.int (0 : Int32))) (BX : Exa Z h0 v1 "[B") (hvl : vs.length = cp) (hcp : cp ≤ 1000) (hct : ct ≤ cp) (hcT : ct ≤ 256) :
    MetFree l (⟨"java/util/Arrays", "copyOfRangeByte", "([BII)[B"⟩ : MethodName) (head1 (Jvm.Cond.code (⟨"java/util/Arrays", "copyOfRangeByte", "([BII)[B"⟩ : MethodName) jdk_65_method_133_code 5 (some (.array .byte)) :: ws) ({ frames := 1, cells := 1, slots := 256, locals := 44 } : Room)) (fun a U => a = #[(.ref v1), (.int (0 : Int32)), (.int (Int32.ofNat ct))] ∧ Z.Warmed39 U.vm ∧ U.heap = h0) (fun _ _ _ _ _ => True) (fun _ U o U' => ∃ v L, o = .returned v ∧ QCRB Z v1 k1 cp ct vs h0 n0 v U'.heap L ∧ FrameEnd U o U' L ({ frames := 1, cells := 1, slots := 256, locals := 44 } : Room).cells ({ frames := 1, cells := 1, slots := 256, locals := 44 } : Room).slots) := by
  refine MetFree.of_bodySF (plainFor_of_name pn_java_util_Arrays) hisR ?_
  intro p e s m args below meth c s₁ Bd hml0 hP hK
  obtain ⟨rfl, hZ, hh⟩ := hP
  have hx := Bd.exec
  have hby := Bd.bytes
  have hml : c.maxLocals = 5 := hml0
  have hown : s.vm.findClass "java/util/Arrays" = some m.cls := findClass_of_methodNamed Bd.named
  have hnm := (name_of_methodNamed Bd.named Bd.method).1
  have X0 : Stand p l e ({ frames := 1, cells := 1, slots := 256, locals := 44 } : Room) s m #[(.ref v1), (.int (0 : Int32)), (.int (Int32.ofNat ct))] below meth c s₁ [] 0 0 := Stand.of_body Bd
  have e0 : s₁.heap = h0 := by rw [← hh, Bd.state]; rfl
  have N0 := Fr.nil n0
  have pre0 : ∀ t, Steps p.tables e below (s₁.setTop (mkF m 0 #[.val (.ref v1), .val (.int (0 : Int32)), .val (.int (Int32.ofNat ct)), .unset, .unset] [])) t → Steps p.tables e below (s₁.setTop (entryFrame m #[(.ref v1), (.int (0 : Int32)), (.int (Int32.ofNat ct))] 5)) t := fun t k => castTop (ef_CRB m v1 (0 : Int32) (Int32.ofNat ct)) k
  obtain ⟨_, _, ⟨T154, L154, k154, n154⟩, -, X154, ⟨Lc154, hQ154, l154, y154, z154⟩, st154⟩ := Jvm.LawKit.callS X0 hx (y := (⟨"java/util/Arrays", "checkLength", "(II)V"⟩ : MethodName)) hown (mvT hZ (hw _ (List.mem_of_getElem? (i := 208) rfl))) (mvT hZ (hw _ (List.mem_of_getElem? (i := 209) rfl))) (mvT hZ (hw _ (List.mem_of_getElem? (i := 86) rfl))) (mvT hZ (hw _ (List.mem_of_getElem? (i := 210) rfl))) (by decide) (backOf (W := 0) (rmChkL l Z a0 hw [] (Int32.ofNat ct) h0 n0 Z0 (own_nn (by omega))) hZ (hw _ (List.mem_of_getElem? (i := 210) rfl)) (hw _ (List.mem_of_getElem? (i := 86) rfl)) (by decide) (by decide)) (g := (mkF m 2 #[.val (.ref v1), .val (.int (0 : Int32)), .val (.int (Int32.ofNat ct)), .unset, .unset] [(.int (Int32.ofNat ct)), (.int (0 : Int32))])) rfl (by rw [hml]; rfl) (argsL := [(.int (0 : Int32)), (.int (Int32.ofNat ct))]) (rest := []) (lenOf pd__II_V rfl) rfl (by show 2 * 0 + _ ≤ _; exact Nat.le_of_eq rfl) (hb hby d35_2) (fun _ _ => ⟨rfl, e0, (by decide : 0 + 0 ≤ _), (by decide : 0 + 0 ≤ _)⟩)
  dsimp only [Pt.U, Pt.locs, Pt.cells, Pt.slots] at X154 l154 y154 z154 st154 hQ154
  subst l154 y154 z154
  obtain ⟨rfl, N154q, EQ154⟩ := hQ154
  have N154 := Fr.app N0 N154q
  have Z154 : n0 ≤ T154.heap.size := by rw [EQ154]; exact Z0
  have K154 := own_keq EQ154 (Keep.refl h0 [])
  obtain ⟨T155, h155, k155, X155, e155, E155, A155, st155⟩ := newP X154 hx hZ (hw _ (List.mem_of_getElem? (i := 7) rfl)) rfl (g := (mkF m 10 #[.val (.ref v1), .val (.int (0 : Int32)), .val (.int (Int32.ofNat ct)), .val (.int (Int32.ofNat ct)), .unset] [(.int (Int32.ofNat ct))])) rfl (hb hby d35_10) rfl (own_nn (by omega)) (cap := 256) (by rw [own_nc (by omega)]; exact hcT) (by decide) (by decide) (by decide)
  obtain ⟨b155, g155⟩ : ∃ z, z = T154.heap.size := ⟨_, rfl⟩
  rw [← g155] at A155 st155
  have g_b155 : n0 ≤ b155 := Nat.le_trans Z154 (Nat.le_of_eq g155.symm)
  have sz_b155 : h0.size ≤ b155 := Nat.le_trans K154.1 (Nat.le_of_eq g155.symm)
  have f156 := (EQ154 ▸ BA)
  have ne_v1_b155 : v1 ≠ b155 := Nat.ne_of_lt (Nat.lt_of_lt_of_le f156.lt (Nat.le_of_eq g155.symm))
  have Z155 := Nat.le_trans Z154 E155.1
  have K155 := K154.ext E155
  have V155 := Arv.new A155 (own_nn (by omega))
  have VP : Arv Z h155 b155 k155 .byte (Int32.ofNat ct) (List.replicate ct (.int (0 : Int32))) (.int (0 : Int32)) := V155.pad (pad_rep [] (.int (0 : Int32)) ct)
  have f157 := (f156.ext E155)
  obtain ⟨c158, Ar158, -, S158, M158, -, -⟩ := id f157
  obtain ⟨_, _, ⟨T159, L159, k159, n159⟩, -, X159, ⟨Lc159, hQ159, l159, y159, z159⟩, st159⟩ := Jvm.LawKit.callS X155 hx (y := (⟨"java/lang/Math", "min", "(II)I"⟩ : MethodName)) hown (mvT hZ (hw _ (List.mem_of_getElem? (i := 88) rfl))) (mvT hZ (hw _ (List.mem_of_getElem? (i := 89) rfl))) (mvT hZ (hw _ (List.mem_of_getElem? (i := 80) rfl))) (mvT hZ (hw _ (List.mem_of_getElem? (i := 90) rfl))) (by decide) (backOf (W := 4) (rmmin l Z a0 hw [] (Int32.ofNat cp) (Int32.ofNat ct) h155 n0 Z155) hZ (hw _ (List.mem_of_getElem? (i := 90) rfl)) (hw _ (List.mem_of_getElem? (i := 80) rfl)) (by decide) (by decide)) (g := (mkF m 24 #[.val (.ref v1), .val (.int (0 : Int32)), .val (.int (Int32.ofNat ct)), .val (.int (Int32.ofNat ct)), .val (.ref b155)] [(.int (Int32.ofNat ct)), (.int (Int32.ofNat cp)), (.int (0 : Int32)), (.ref b155), (.int (0 : Int32)), (.ref v1)])) rfl (by rw [hml]; rfl) (argsL := [(.int (Int32.ofNat cp)), (.int (Int32.ofNat ct))]) (rest := [(.int (0 : Int32)), (.ref b155), (.int (0 : Int32)), (.ref v1)]) (lenOf pd__II_I rfl) rfl (by show 2 * 0 + _ ≤ _; exact Nat.le_of_eq rfl) (hb hby d35_24) (fun _ _ => ⟨rfl, e155, (by decide : 1 + 0 ≤ _), (by decide : 256 + 0 ≤ _)⟩)
  dsimp only [Pt.U, Pt.locs, Pt.cells, Pt.slots] at X159 l159 y159 z159 st159 hQ159
  subst l159 y159 z159
  obtain ⟨rfl, N159q, EQ159⟩ := hQ159
  have N159 := Fr.app N154 N159q
  have Z159 : n0 ≤ T159.heap.size := by rw [EQ159]; exact Z155
  have K159 := own_keq EQ159 K155
  have em : own_min (Int32.ofNat cp) (Int32.ofNat ct) = Int32.ofNat ct := by rw [own_minn (by omega) (by omega), Nat.min_eq_right (by omega)]
  have f160 := (EQ159 ▸ f157)
  have f161 := (EQ159 ▸ VP)
  obtain ⟨T162, h162, L162, X162, e162, N162, KC162, V162, st162⟩ := own_cp X159 hx hZ hown (hw _ (List.mem_of_getElem? (i := 91) rfl)) (hw _ (List.mem_of_getElem? (i := 94) rfl)) (hw _ (List.mem_of_getElem? (i := 92) rfl)) (hw _ (List.mem_of_getElem? (i := 93) rfl)) rfl (cp) (ct) (0) (0) (ct) f160 f161 hvl (by simp) (by omega) (by omega) (by omega) (by omega) N159 g_b155 (g := (mkF m 27 #[.val (.ref v1), .val (.int (0 : Int32)), .val (.int (Int32.ofNat ct)), .val (.int (Int32.ofNat ct)), .val (.ref b155)] [(.int (Int32.ofNat ct)), (.int (0 : Int32)), (.ref b155), (.int (0 : Int32)), (.ref v1)])) rfl (by rw [hml]; rfl) rfl (hb hby d35_27) (by decide) (W := 0) (by show 2 * 0 + _ ≤ _; exact Nat.le_of_eq rfl) (by decide)
  have Z162 := Nat.le_trans Z159 KC162.1
  have K162 := K159.trans KC162 (allS (Or.inr sz_b155) all0)
  have VV : Arv Z h162 b155 k155 .byte (Int32.ofNat ct) (vs.take ct) (.int (0 : Int32)) := by have q := V162; simpa using q
  have pre163 : ∀ t, Steps p.tables e below (T162.setTop (mkF m 32 #[.val (.ref v1), .val (.int (0 : Int32)), .val (.int (Int32.ofNat ct)), .val (.int (Int32.ofNat ct)), .val (.ref b155)] [(.ref b155)])) t → Steps p.tables e below (s₁.setTop (mkF m 0 #[.val (.ref v1), .val (.int (0 : Int32)), .val (.int (Int32.ofNat ct)), .unset, .unset] [])) t := by
    intro t kt
    show Steps p.tables e below (s₁.setTop (mkF m 0 #[.val (.ref v1), .val (.int (0 : Int32)), .val (.int (Int32.ofNat ct)), .unset, .unset] [])) _
    refine XS.iloadN X0.here hx rfl (hb hby d35_0) rfl ?_
    show Steps p.tables e below (s₁.setTop (mkF m 1 #[.val (.ref v1), .val (.int (0 : Int32)), .val (.int (Int32.ofNat ct)), .unset, .unset] [(.int (0 : Int32))])) _
    refine XS.iloadN X0.here hx rfl (hb hby d35_1) rfl ?_
    show Steps p.tables e below (s₁.setTop (mkF m 2 #[.val (.ref v1), .val (.int (0 : Int32)), .val (.int (Int32.ofNat ct)), .unset, .unset] [(.int (Int32.ofNat ct)), (.int (0 : Int32))])) _
    refine st154 _ ?_
    show Steps p.tables e below (T154.setTop (mkF m 5 #[.val (.ref v1), .val (.int (0 : Int32)), .val (.int (Int32.ofNat ct)), .unset, .unset] [])) _
    refine XS.iloadN X154.here hx rfl (hb hby d35_5) rfl ?_
    show Steps p.tables e below (T154.setTop (mkF m 6 #[.val (.ref v1), .val (.int (0 : Int32)), .val (.int (Int32.ofNat ct)), .unset, .unset] [(.int (Int32.ofNat ct))])) _
    refine XS.iloadN X154.here hx rfl (hb hby d35_6) rfl ?_
    show Steps p.tables e below (T154.setTop (mkF m 7 #[.val (.ref v1), .val (.int (0 : Int32)), .val (.int (Int32.ofNat ct)), .unset, .unset] [(.int (0 : Int32)), (.int (Int32.ofNat ct))])) _
    refine XS.isub X154.here hx rfl (hb hby d35_7) rfl ?_
    show Steps p.tables e below (T154.setTop (mkF m 8 #[.val (.ref v1), .val (.int (0 : Int32)), .val (.int (Int32.ofNat ct)), .unset, .unset] [(.int ((Int32.ofNat ct) - (0 : Int32)))])) _
    rw [Int32.sub_zero]
    show Steps p.tables e below (T154.setTop (mkF m 8 #[.val (.ref v1), .val (.int (0 : Int32)), .val (.int (Int32.ofNat ct)), .unset, .unset] [(.int (Int32.ofNat ct))])) _
    refine XS.istoreN X154.here hx rfl (hb hby d35_8) rfl (l' := #[.val (.ref v1), .val (.int (0 : Int32)), .val (.int (Int32.ofNat ct)), .val (.int (Int32.ofNat ct)), .unset]) rfl ?_
    show Steps p.tables e below (T154.setTop (mkF m 9 #[.val (.ref v1), .val (.int (0 : Int32)), .val (.int (Int32.ofNat ct)), .val (.int (Int32.ofNat ct)), .unset] [])) _
    refine XS.iloadN X154.here hx rfl (hb hby d35_9) rfl ?_
    show Steps p.tables e below (T154.setTop (mkF m 10 #[.val (.ref v1), .val (.int (0 : Int32)), .val (.int (Int32.ofNat ct)), .val (.int (Int32.ofNat ct)), .unset] [(.int (Int32.ofNat ct))])) _
    refine st155 _ ?_
    show Steps p.tables e below (T155.setTop (mkF m 12 #[.val (.ref v1), .val (.int (0 : Int32)), .val (.int (Int32.ofNat ct)), .val (.int (Int32.ofNat ct)), .unset] [(.ref b155)])) _
    refine XS.astore X155.here hx rfl (hb hby d35_12) rfl rfl (l' := #[.val (.ref v1), .val (.int (0 : Int32)), .val (.int (Int32.ofNat ct)), .val (.int (Int32.ofNat ct)), .val (.ref b155)]) rfl ?_
    show Steps p.tables e below (T155.setTop (mkF m 14 #[.val (.ref v1), .val (.int (0 : Int32)), .val (.int (Int32.ofNat ct)), .val (.int (Int32.ofNat ct)), .val (.ref b155)] [])) _
    refine XS.aloadN X155.here hx rfl (hb hby d35_14) rfl rfl ?_
    show Steps p.tables e below (T155.setTop (mkF m 15 #[.val (.ref v1), .val (.int (0 : Int32)), .val (.int (Int32.ofNat ct)), .val (.int (Int32.ofNat ct)), .val (.ref b155)] [(.ref v1)])) _
    refine XS.iloadN X155.here hx rfl (hb hby d35_15) rfl ?_
    show Steps p.tables e below (T155.setTop (mkF m 16 #[.val (.ref v1), .val (.int (0 : Int32)), .val (.int (Int32.ofNat ct)), .val (.int (Int32.ofNat ct)), .val (.ref b155)] [(.int (0 : Int32)), (.ref v1)])) _
    refine XS.aload X155.here hx rfl (hb hby d35_16) rfl rfl ?_
    show Steps p.tables e below (T155.setTop (mkF m 18 #[.val (.ref v1), .val (.int (0 : Int32)), .val (.int (Int32.ofNat ct)), .val (.int (Int32.ofNat ct)), .val (.ref b155)] [(.ref b155), (.int (0 : Int32)), (.ref v1)])) _
    refine XS.iconst X155.here hx rfl (hb hby d35_18) ?_
    show Steps p.tables e below (T155.setTop (mkF m 19 #[.val (.ref v1), .val (.int (0 : Int32)), .val (.int (Int32.ofNat ct)), .val (.int (Int32.ofNat ct)), .val (.ref b155)] [(.int (0 : Int32)), (.ref b155), (.int (0 : Int32)), (.ref v1)])) _
    refine XS.aloadN X155.here hx rfl (hb hby d35_19) rfl rfl ?_
    show Steps p.tables e below (T155.setTop (mkF m 20 #[.val (.ref v1), .val (.int (0 : Int32)), .val (.int (Int32.ofNat ct)), .val (.int (Int32.ofNat ct)), .val (.ref b155)] [(.ref v1), (.int (0 : Int32)), (.ref b155), (.int (0 : Int32)), (.ref v1)])) _
    refine X155.arraylength hx (by rw [e155]; exact Ar158.1) (State.isArrayOf_alike hZ.alike Ar158.2.1) (g := (mkF m 20 #[.val (.ref v1), .val (.int (0 : Int32)), .val (.int (Int32.ofNat ct)), .val (.int (Int32.ofNat ct)), .val (.ref b155)] [(.ref v1), (.int (0 : Int32)), (.ref b155), (.int (0 : Int32)), (.ref v1)])) rfl rfl (hb hby d35_20) _ ?_
    rw [len_of S158 M158]
    show Steps p.tables e below (T155.setTop (mkF m 21 #[.val (.ref v1), .val (.int (0 : Int32)), .val (.int (Int32.ofNat ct)), .val (.int (Int32.ofNat ct)), .val (.ref b155)] [(.int (Int32.ofNat cp)), (.int (0 : Int32)), (.ref b155), (.int (0 : Int32)), (.ref v1)])) _
    refine XS.iloadN X155.here hx rfl (hb hby d35_21) rfl ?_
    show Steps p.tables e below (T155.setTop (mkF m 22 #[.val (.ref v1), .val (.int (0 : Int32)), .val (.int (Int32.ofNat ct)), .val (.int (Int32.ofNat ct)), .val (.ref b155)] [(.int (0 : Int32)), (.int (Int32.ofNat cp)), (.int (0 : Int32)), (.ref b155), (.int (0 : Int32)), (.ref v1)])) _
    refine XS.isub X155.here hx rfl (hb hby d35_22) rfl ?_
    show Steps p.tables e below (T155.setTop (mkF m 23 #[.val (.ref v1), .val (.int (0 : Int32)), .val (.int (Int32.ofNat ct)), .val (.int (Int32.ofNat ct)), .val (.ref b155)] [(.int ((Int32.ofNat cp) - (0 : Int32))), (.int (0 : Int32)), (.ref b155), (.int (0 : Int32)), (.ref v1)])) _
    rw [Int32.sub_zero]
    show Steps p.tables e below (T155.setTop (mkF m 23 #[.val (.ref v1), .val (.int (0 : Int32)), .val (.int (Int32.ofNat ct)), .val (.int (Int32.ofNat ct)), .val (.ref b155)] [(.int (Int32.ofNat cp)), (.int (0 : Int32)), (.ref b155), (.int (0 : Int32)), (.ref v1)])) _
    refine XS.iloadN X155.here hx rfl (hb hby d35_23) rfl ?_
    show Steps p.tables e below (T155.setTop (mkF m 24 #[.val (.ref v1), .val (.int (0 : Int32)), .val (.int (Int32.ofNat ct)), .val (.int (Int32.ofNat ct)), .val (.ref b155)] [(.int (Int32.ofNat ct)), (.int (Int32.ofNat cp)), (.int (0 : Int32)), (.ref b155), (.int (0 : Int32)), (.ref v1)])) _
    refine st159 _ ?_
    show Steps p.tables e below (T159.setTop (mkF m 27 #[.val (.ref v1), .val (.int (0 : Int32)), .val (.int (Int32.ofNat ct)), .val (.int (Int32.ofNat ct)), .val (.ref b155)] [(.int (own_min (Int32.ofNat cp) (Int32.ofNat ct))), (.int (0 : Int32)), (.ref b155), (.int (0 : Int32)), (.ref v1)])) _
    rw [em]
    show Steps p.tables e below (T159.setTop (mkF m 27 #[.val (.ref v1), .val (.int (0 : Int32)), .val (.int (Int32.ofNat ct)), .val (.int (Int32.ofNat ct)), .val (.ref b155)] [(.int (Int32.ofNat ct)), (.int (0 : Int32)), (.ref b155), (.int (0 : Int32)), (.ref v1)])) _
    refine st162 _ ?_
    show Steps p.tables e below (T162.setTop (mkF m 30 #[.val (.ref v1), .val (.int (0 : Int32)), .val (.int (Int32.ofNat ct)), .val (.int (Int32.ofNat ct)), .val (.ref b155)] [])) _
    refine XS.aload X162.here hx rfl (hb hby d35_30) rfl rfl ?_
    exact kt
  obtain ⟨fs, hr, hrun, hended, hW, hsame⟩ := X162.leave (v := some (.ref b155)) (fun h => by rw [Bd.returns] at h; cases h)
  refine ⟨_, _, (pre0 _ (pre163 _ ?_)), hrun, hended, _, _, rfl, ?_, ⟨_, rfl⟩, hW, hsame.mono (by decide) (by decide)⟩
  · show Steps p.tables e below (T162.setTop (mkF m 32 #[.val (.ref v1), .val (.int (0 : Int32)), .val (.int (Int32.ofNat ct)), .val (.int (Int32.ofNat ct)), .val (.ref b155)] [(.ref b155)])) _
    exact retOut X162 hx (t := (.array .byte)) Bd.returns rfl (Or.inr (Or.inr (Or.inr (Or.inr ⟨rfl, rfl, rfl⟩)))) (hb hby d35_32) hr
  · show QCRB Z v1 k1 cp ct vs h0 n0 _ T162.heap _
    rw [e162]
    exact ⟨b155, rfl, N162, own_ext K162, sz_b155, k155, VV⟩
theorem ef_CpR (m : MethodId) (x0 : Addr) (x1 : Int32) (x2 : Int32) : entryFrame m #[(.ref x0), (.int x1), (.int x2)] 3 = mkF m 0 #[.val (.ref x0), .val (.int x1), .val (.int x2)] [] := by (first | (simp [entryFrame, mkF, argsToLocals, Value.category]; done) | rfl)
def QCpR (Z : State) (v1 : Addr) (k1 : ClassId) (cp : Nat) (ct : Nat) (vs : List Value) (h0 : Heap) (n0 : Nat) (v : Option Value) (h : Heap) (L : List Loc) : Prop := ∃ x2, v = some (.ref x2) ∧ Fr n0 L ∧ Ext h0 h ∧ h0.size ≤ x2 ∧ ∃ k2, Arv Z h x2 k2 .byte (Int32.ofNat ct) (vs.take ct) (.int (0 : Int32))
theorem d25_0 : decode jdk_65_method_132_code 0 = .ok (.iload_n 1, 1) := by decide +kernel
theorem d25_1 : decode jdk_65_method_132_code 1 = .ok (.ifCond .ne 9, 3) := by decide +kernel
theorem d25_4 : decode jdk_65_method_132_code 4 = .ok (.iload_n 2, 1) := by decide +kernel
theorem d25_5 : decode jdk_65_method_132_code 5 = .ok (.aload_n 0, 1) := by decide +kernel
theorem d25_6 : decode jdk_65_method_132_code 6 = .ok (.arraylength, 1) := by decide +kernel
theorem d25_7 : decode jdk_65_method_132_code 7 = .ok (.if_icmp .eq 10, 3) := by decide +kernel
theorem d25_17 : decode jdk_65_method_132_code 17 = .ok (.aload_n 0, 1) := by decide +kernel
theorem d25_18 : decode jdk_65_method_132_code 18 = .ok (.invokevirtual 310, 3) := by decide +kernel
theorem d25_21 : decode jdk_65_method_132_code 21 = .ok (.checkcast 311, 3) := by decide +kernel
theorem d25_24 : decode jdk_65_method_132_code 24 = .ok (.areturn, 1) := by decide +kernel
theorem d25_10 : decode jdk_65_method_132_code 10 = .ok (.aload_n 0, 1) := by decide +kernel
theorem d25_11 : decode jdk_65_method_132_code 11 = .ok (.iload_n 1, 1) := by decide +kernel
theorem d25_12 : decode jdk_65_method_132_code 12 = .ok (.iload_n 2, 1) := by decide +kernel
theorem d25_13 : decode jdk_65_method_132_code 13 = .ok (.invokestatic 339, 3) := by decide +kernel
theorem pd___BII__B : parseMethodDescriptor "([BII)[B" = some ⟨[(.array .byte), .int, .int], some (.array .byte)⟩ := by decide +kernel
theorem d25_16 : decode jdk_65_method_132_code 16 = .ok (.areturn, 1) := by decide +kernel
set_option maxRecDepth 65536 in
set_option maxHeartbeats 40000000 in
theorem rmCpR (l : Launch) (Z : State) (a0 : Array Value) (hw : ∀ d ∈ tables_1, d.before a0 Z = true) (ws : List Jvm.Cond) (v1 : Addr) (k1 : ClassId) (cp : Nat) (ct : Nat) (vs : List Value) (h0 : Heap) (n0 : Nat) (Z0 : n0 ≤ h0.size) (BA : Arv Z h0 v1 k1 .byte (Int32.ofNat cp) vs (.int (0 : Int32))) (BX : Exa Z h0 v1 "[B") (hvl : vs.length = cp) (hcp : cp ≤ 1000) (hct : ct ≤ cp) (hcT : ct ≤ 256) :
    MetFree l (⟨"java/util/Arrays", "copyOfRange", "([BII)[B"⟩ : MethodName) (head1 (Jvm.Cond.code (⟨"java/util/Arrays", "copyOfRange", "([BII)[B"⟩ : MethodName) jdk_65_method_132_code 3 (some (.array .byte)) :: ws) ({ frames := 2, cells := 1, slots := 256, locals := 70 } : Room)) (fun a U => a = #[(.ref v1), (.int (0 : Int32)), (.int (Int32.ofNat ct))] ∧ Z.Warmed39 U.vm ∧ U.heap = h0) (fun _ _ _ _ _ => True) (fun _ U o U' => ∃ v L, o = .returned v ∧ QCpR Z v1 k1 cp ct vs h0 n0 v U'.heap L ∧ FrameEnd U o U' L ({ frames := 2, cells := 1, slots := 256, locals := 70 } : Room).cells ({ frames := 2, cells := 1, slots := 256, locals := 70 } : Room).slots) := by
  refine MetFree.of_bodySF (plainFor_of_name pn_java_util_Arrays) hisR ?_
  intro p e s m args below meth c s₁ Bd hml0 hP hK
  obtain ⟨rfl, hZ, hh⟩ := hP
  have hx := Bd.exec
  have hby := Bd.bytes
  have hml : c.maxLocals = 3 := hml0
  have hown : s.vm.findClass "java/util/Arrays" = some m.cls := findClass_of_methodNamed Bd.named
  have hnm := (name_of_methodNamed Bd.named Bd.method).1
  have X0 : Stand p l e ({ frames := 2, cells := 1, slots := 256, locals := 70 } : Room) s m #[(.ref v1), (.int (0 : Int32)), (.int (Int32.ofNat ct))] below meth c s₁ [] 0 0 := Stand.of_body Bd
  have e0 : s₁.heap = h0 := by rw [← hh, Bd.state]; rfl
  have N0 := Fr.nil n0
  have pre0 : ∀ t, Steps p.tables e below (s₁.setTop (mkF m 0 #[.val (.ref v1), .val (.int (0 : Int32)), .val (.int (Int32.ofNat ct))] [])) t → Steps p.tables e below (s₁.setTop (entryFrame m #[(.ref v1), (.int (0 : Int32)), (.int (Int32.ofNat ct))] 3)) t := fun t k => castTop (ef_CpR m v1 (0 : Int32) (Int32.ofNat ct)) k
  obtain ⟨c164, Ar164, -, S164, M164, -, -⟩ := id BA
  have pre165 : ∀ t, Steps p.tables e below (s₁.setTop (mkF m 7 #[.val (.ref v1), .val (.int (0 : Int32)), .val (.int (Int32.ofNat ct))] [(.int (Int32.ofNat cp)), (.int (Int32.ofNat ct))])) t → Steps p.tables e below (s₁.setTop (mkF m 0 #[.val (.ref v1), .val (.int (0 : Int32)), .val (.int (Int32.ofNat ct))] [])) t := by
    intro t kt
    show Steps p.tables e below (s₁.setTop (mkF m 0 #[.val (.ref v1), .val (.int (0 : Int32)), .val (.int (Int32.ofNat ct))] [])) _
    refine XS.iloadN X0.here hx rfl (hb hby d25_0) rfl ?_
    show Steps p.tables e below (s₁.setTop (mkF m 1 #[.val (.ref v1), .val (.int (0 : Int32)), .val (.int (Int32.ofNat ct))] [(.int (0 : Int32))])) _
    refine XS.ifNo X0.here hx rfl (hb hby d25_1) rfl ((if0 _ _).trans (teq (rfl : (0 : Int32) = (0 : Int32))).2) ?_
    show Steps p.tables e below (s₁.setTop (mkF m 4 #[.val (.ref v1), .val (.int (0 : Int32)), .val (.int (Int32.ofNat ct))] [])) _
    refine XS.iloadN X0.here hx rfl (hb hby d25_4) rfl ?_
    show Steps p.tables e below (s₁.setTop (mkF m 5 #[.val (.ref v1), .val (.int (0 : Int32)), .val (.int (Int32.ofNat ct))] [(.int (Int32.ofNat ct))])) _
    refine XS.aloadN X0.here hx rfl (hb hby d25_5) rfl rfl ?_
    show Steps p.tables e below (s₁.setTop (mkF m 6 #[.val (.ref v1), .val (.int (0 : Int32)), .val (.int (Int32.ofNat ct))] [(.ref v1), (.int (Int32.ofNat ct))])) _
    refine X0.arraylength hx (by rw [e0]; exact Ar164.1) (State.isArrayOf_alike hZ.alike Ar164.2.1) (g := (mkF m 6 #[.val (.ref v1), .val (.int (0 : Int32)), .val (.int (Int32.ofNat ct))] [(.ref v1), (.int (Int32.ofNat ct))])) rfl rfl (hb hby d25_6) _ ?_
    rw [len_of S164 M164]
    exact kt
  by_cases cc : ct = cp
  · skip
    obtain ⟨T166, h166, X166, e166, E166, A166, B166, st166⟩ := cloneH X0 hx hZ hown (hw _ (List.mem_of_getElem? (i := 148) rfl)) (hw _ (List.mem_of_getElem? (i := 149) rfl)) (hw _ (List.mem_of_getElem? (i := 153) rfl)) (hw _ (List.mem_of_getElem? (i := 151) rfl)) (hw _ (List.mem_of_getElem? (i := 152) rfl)) (hw _ (List.mem_of_getElem? (i := 154) rfl)) e0 BA.arh BX (g := (mkF m 18 #[.val (.ref v1), .val (.int (0 : Int32)), .val (.int (Int32.ofNat ct))] [(.ref v1)])) rfl (by rw [hml]; rfl) rfl (hb hby d25_18) (by decide) (W := 0) (by show 2 * 0 + _ ≤ _; exact Nat.le_of_eq rfl) (by decide) (cap := 256) (by rw [own_nc (by omega)]; omega) (by decide) (by decide)
    obtain ⟨b166, g166⟩ : ∃ z, z = h0.size := ⟨_, rfl⟩
    rw [← g166] at A166 B166 st166
    have g_b166 : n0 ≤ b166 := Nat.le_trans Z0 (Nat.le_of_eq g166.symm)
    have sz_b166 : h0.size ≤ b166 := Nat.le_trans (Keep.refl h0 []).1 (Nat.le_of_eq g166.symm)
    have ne_v1_b166 : v1 ≠ b166 := Nat.ne_of_lt (Nat.lt_of_lt_of_le BA.lt (Nat.le_of_eq g166.symm))
    have Z166 := Nat.le_trans Z0 E166.1
    have K166 := (Keep.refl h0 []).ext E166
    obtain ⟨T167, X167, e167, st167⟩ := castY X166 hx hZ hown (hw _ (List.mem_of_getElem? (i := 155) rfl)) e166 (Ins.self B166) (g := (mkF m 21 #[.val (.ref v1), .val (.int (0 : Int32)), .val (.int (Int32.ofNat ct))] [(.ref b166)])) rfl rfl (hb hby d25_21)
    have VV : Arv Z h166 b166 k1 .byte (Int32.ofNat ct) (vs.take ct) (.int (0 : Int32)) := by rw [cc, ← hvl, List.take_length, hvl]; exact A166
    have pre168 : ∀ t, Steps p.tables e below (T167.setTop (mkF m 24 #[.val (.ref v1), .val (.int (0 : Int32)), .val (.int (Int32.ofNat ct))] [(.ref b166)])) t → Steps p.tables e below (s₁.setTop (mkF m 7 #[.val (.ref v1), .val (.int (0 : Int32)), .val (.int (Int32.ofNat ct))] [(.int (Int32.ofNat cp)), (.int (Int32.ofNat ct))])) t := by
      intro t kt
      show Steps p.tables e below (s₁.setTop (mkF m 7 #[.val (.ref v1), .val (.int (0 : Int32)), .val (.int (Int32.ofNat ct))] [(.int (Int32.ofNat cp)), (.int (Int32.ofNat ct))])) _
      refine XS.icmpYes X0.here hx rfl (pc0 := 7) (pc' := 17) rfl (hb hby d25_7) rfl (teq (by rw [cc] : (Int32.ofNat ct) = (Int32.ofNat cp))).1 (by decide) (by decide) ?_
      show Steps p.tables e below (s₁.setTop (mkF m 17 #[.val (.ref v1), .val (.int (0 : Int32)), .val (.int (Int32.ofNat ct))] [])) _
      refine XS.aloadN X0.here hx rfl (hb hby d25_17) rfl rfl ?_
      show Steps p.tables e below (s₁.setTop (mkF m 18 #[.val (.ref v1), .val (.int (0 : Int32)), .val (.int (Int32.ofNat ct))] [(.ref v1)])) _
      refine st166 _ ?_
      show Steps p.tables e below (T166.setTop (mkF m 21 #[.val (.ref v1), .val (.int (0 : Int32)), .val (.int (Int32.ofNat ct))] [(.ref b166)])) _
      refine st167 _ ?_
      exact kt
    obtain ⟨fs, hr, hrun, hended, hW, hsame⟩ := X167.leave (v := some (.ref b166)) (fun h => by rw [Bd.returns] at h; cases h)
    refine ⟨_, _, (pre0 _ (pre165 _ (pre168 _ ?_))), hrun, hended, _, _, rfl, ?_, ⟨_, rfl⟩, hW, hsame.mono (by decide) (by decide)⟩
    · show Steps p.tables e below (T167.setTop (mkF m 24 #[.val (.ref v1), .val (.int (0 : Int32)), .val (.int (Int32.ofNat ct))] [(.ref b166)])) _
      exact retOut X167 hx (t := (.array .byte)) Bd.returns rfl (Or.inr (Or.inr (Or.inr (Or.inr ⟨rfl, rfl, rfl⟩)))) (hb hby d25_24) hr
    · show QCpR Z v1 k1 cp ct vs h0 n0 _ T167.heap _
      rw [e167]
      exact ⟨b166, rfl, N0, E166, sz_b166, k1, VV⟩
  · skip
    obtain ⟨_, _, ⟨T169, L169, k169, n169⟩, -, X169, ⟨Lc169, hQ169, l169, y169, z169⟩, st169⟩ := Jvm.LawKit.callS X0 hx (y := (⟨"java/util/Arrays", "copyOfRangeByte", "([BII)[B"⟩ : MethodName)) hown (mvT hZ (hw _ (List.mem_of_getElem? (i := 205) rfl))) (mvT hZ (hw _ (List.mem_of_getElem? (i := 206) rfl))) (mvT hZ (hw _ (List.mem_of_getElem? (i := 86) rfl))) (mvT hZ (hw _ (List.mem_of_getElem? (i := 207) rfl))) (by decide) (backOf (W := 0) (rmCRB l Z a0 hw [] v1 k1 cp ct vs h0 n0 Z0 BA BX hvl hcp hct hcT) hZ (hw _ (List.mem_of_getElem? (i := 207) rfl)) (hw _ (List.mem_of_getElem? (i := 86) rfl)) (by decide) (by decide)) (g := (mkF m 13 #[.val (.ref v1), .val (.int (0 : Int32)), .val (.int (Int32.ofNat ct))] [(.int (Int32.ofNat ct)), (.int (0 : Int32)), (.ref v1)])) rfl (by rw [hml]; rfl) (argsL := [(.ref v1), (.int (0 : Int32)), (.int (Int32.ofNat ct))]) (rest := []) (lenOf pd___BII__B rfl) rfl (by show 2 * 0 + _ ≤ _; exact Nat.le_of_eq rfl) (hb hby d25_13) (fun _ _ => ⟨rfl, e0, (by decide : 0 + 1 ≤ _), (by decide : 0 + 256 ≤ _)⟩)
    dsimp only [Pt.U, Pt.locs, Pt.cells, Pt.slots] at X169 l169 y169 z169 st169 hQ169
    subst l169 y169 z169
    obtain ⟨x2, rfl, N169q, EX169, le169, RR169⟩ := hQ169
    have N169 := Fr.app N0 N169q
    have Z169 := Nat.le_trans Z0 EX169.1
    have K169 := (Keep.refl h0 []).ext EX169
    have pre170 : ∀ t, Steps p.tables e below (T169.setTop (mkF m 16 #[.val (.ref v1), .val (.int (0 : Int32)), .val (.int (Int32.ofNat ct))] [(.ref x2)])) t → Steps p.tables e below (s₁.setTop (mkF m 7 #[.val (.ref v1), .val (.int (0 : Int32)), .val (.int (Int32.ofNat ct))] [(.int (Int32.ofNat cp)), (.int (Int32.ofNat ct))])) t := by
      intro t kt
      show Steps p.tables e below (s₁.setTop (mkF m 7 #[.val (.ref v1), .val (.int (0 : Int32)), .val (.int (Int32.ofNat ct))] [(.int (Int32.ofNat cp)), (.int (Int32.ofNat ct))])) _
      refine XS.icmpNo X0.here hx rfl (hb hby d25_7) rfl (feq (fun q => cc ((own_eq (by omega) (by omega)).mp q) : ¬ ((Int32.ofNat ct) = (Int32.ofNat cp)))).1 ?_
      show Steps p.tables e below (s₁.setTop (mkF m 10 #[.val (.ref v1), .val (.int (0 : Int32)), .val (.int (Int32.ofNat ct))] [])) _
      refine XS.aloadN X0.here hx rfl (hb hby d25_10) rfl rfl ?_
      show Steps p.tables e below (s₁.setTop (mkF m 11 #[.val (.ref v1), .val (.int (0 : Int32)), .val (.int (Int32.ofNat ct))] [(.ref v1)])) _
      refine XS.iloadN X0.here hx rfl (hb hby d25_11) rfl ?_
      show Steps p.tables e below (s₁.setTop (mkF m 12 #[.val (.ref v1), .val (.int (0 : Int32)), .val (.int (Int32.ofNat ct))] [(.int (0 : Int32)), (.ref v1)])) _
      refine XS.iloadN X0.here hx rfl (hb hby d25_12) rfl ?_
      show Steps p.tables e below (s₁.setTop (mkF m 13 #[.val (.ref v1), .val (.int (0 : Int32)), .val (.int (Int32.ofNat ct))] [(.int (Int32.ofNat ct)), (.int (0 : Int32)), (.ref v1)])) _
      refine st169 _ ?_
      exact kt
    obtain ⟨fs, hr, hrun, hended, hW, hsame⟩ := X169.leave (v := some (.ref x2)) (fun h => by rw [Bd.returns] at h; cases h)
    refine ⟨_, _, (pre0 _ (pre165 _ (pre170 _ ?_))), hrun, hended, _, _, rfl, ?_, ⟨_, rfl⟩, hW, hsame.mono (by decide) (by decide)⟩
    · show Steps p.tables e below (T169.setTop (mkF m 16 #[.val (.ref v1), .val (.int (0 : Int32)), .val (.int (Int32.ofNat ct))] [(.ref x2)])) _
      exact retOut X169 hx (t := (.array .byte)) Bd.returns rfl (Or.inr (Or.inr (Or.inr (Or.inr ⟨rfl, rfl, rfl⟩)))) (hb hby d25_16) hr
    · show QCpR Z v1 k1 cp ct vs h0 n0 _ T169.heap _
      exact ⟨x2, rfl, N169, EX169, le169, RR169⟩
theorem ef_GetV (m : MethodId) (x0 : Addr) : entryFrame m #[(.ref x0)] 1 = mkF m 0 #[.val (.ref x0)] [] := by (first | (simp [entryFrame, mkF, argsToLocals, Value.category]; done) | rfl)
def QGetV (Z : State) (b1 : Addr) (v1 : Addr) (h0 : Heap) (n0 : Nat) (v : Option Value) (h : Heap) (L : List Loc) : Prop := v = some (.ref v1) ∧ Fr n0 L ∧ h = h0
theorem d21_0 : decode jdk_68_method_64_code 0 = .ok (.aload_n 0, 1) := by decide +kernel
theorem d21_1 : decode jdk_68_method_64_code 1 = .ok (.getfield 15, 3) := by decide +kernel
theorem d21_4 : decode jdk_68_method_64_code 4 = .ok (.areturn, 1) := by decide +kernel
set_option maxRecDepth 65536 in
set_option maxHeartbeats 40000000 in
theorem rmGetV (l : Launch) (Z : State) (a0 : Array Value) (hw : ∀ d ∈ tables_1, d.before a0 Z = true) (ws : List Jvm.Cond) (b1 : Addr) (v1 : Addr) (h0 : Heap) (n0 : Nat) (Z0 : n0 ≤ h0.size) (BV : Fld Z h0 b1 "java/lang/AbstractStringBuilder" "value" "[B" (.ref v1)) :
    MetFree l (⟨"java/lang/AbstractStringBuilder", "getValue", "()[B"⟩ : MethodName) (head1 (Jvm.Cond.code (⟨"java/lang/AbstractStringBuilder", "getValue", "()[B"⟩ : MethodName) jdk_68_method_64_code 1 (some (.array .byte)) :: ws) ({ frames := 0, cells := 0, slots := 0, locals := 0 } : Room)) (fun a U => a = #[(.ref b1)] ∧ Z.Warmed39 U.vm ∧ U.heap = h0) (fun _ _ _ _ _ => True) (fun _ U o U' => ∃ v L, o = .returned v ∧ QGetV Z b1 v1 h0 n0 v U'.heap L ∧ FrameEnd U o U' L ({ frames := 0, cells := 0, slots := 0, locals := 0 } : Room).cells ({ frames := 0, cells := 0, slots := 0, locals := 0 } : Room).slots) := by
  refine MetFree.of_bodySF (plainFor_of_name pn_java_lang_AbstractStringBuilder) hisR ?_
  intro p e s m args below meth c s₁ Bd hml0 hP hK
  obtain ⟨rfl, hZ, hh⟩ := hP
  have hx := Bd.exec
  have hby := Bd.bytes
  have hml : c.maxLocals = 1 := hml0
  have hown : s.vm.findClass "java/lang/AbstractStringBuilder" = some m.cls := findClass_of_methodNamed Bd.named
  have hnm := (name_of_methodNamed Bd.named Bd.method).1
  have X0 : Stand p l e ({ frames := 0, cells := 0, slots := 0, locals := 0 } : Room) s m #[(.ref b1)] below meth c s₁ [] 0 0 := Stand.of_body Bd
  have e0 : s₁.heap = h0 := by rw [← hh, Bd.state]; rfl
  have N0 := Fr.nil n0
  have pre0 : ∀ t, Steps p.tables e below (s₁.setTop (mkF m 0 #[.val (.ref b1)] [])) t → Steps p.tables e below (s₁.setTop (entryFrame m #[(.ref b1)] 1)) t := fun t k => castTop (ef_GetV m b1) k
  obtain ⟨T171, X171, e171, st171⟩ := getF X0 hx hZ hown (host := "") (Or.inl (hw _ (List.mem_of_getElem? (i := 32) rfl))) Via.refl e0 BV (g := (mkF m 1 #[.val (.ref b1)] [(.ref b1)])) rfl rfl (hb hby d21_1)
  have pre172 : ∀ t, Steps p.tables e below (T171.setTop (mkF m 4 #[.val (.ref b1)] [(.ref v1)])) t → Steps p.tables e below (s₁.setTop (mkF m 0 #[.val (.ref b1)] [])) t := by
    intro t kt
    show Steps p.tables e below (s₁.setTop (mkF m 0 #[.val (.ref b1)] [])) _
    refine XS.aloadN X0.here hx rfl (hb hby d21_0) rfl rfl ?_
    show Steps p.tables e below (s₁.setTop (mkF m 1 #[.val (.ref b1)] [(.ref b1)])) _
    refine st171 _ ?_
    exact kt
  obtain ⟨fs, hr, hrun, hended, hW, hsame⟩ := X171.leave (v := some (.ref v1)) (fun h => by rw [Bd.returns] at h; cases h)
  refine ⟨_, _, (pre0 _ (pre172 _ ?_)), hrun, hended, _, _, rfl, ?_, ⟨_, rfl⟩, hW, hsame.mono (by decide) (by decide)⟩
  · show Steps p.tables e below (T171.setTop (mkF m 4 #[.val (.ref b1)] [(.ref v1)])) _
    exact retOut X171 hx (t := (.array .byte)) Bd.returns rfl (Or.inr (Or.inr (Or.inr (Or.inr ⟨rfl, rfl, rfl⟩)))) (hb hby d21_4) hr
  · show QGetV Z b1 v1 h0 n0 _ T171.heap _
    rw [e171]
    exact ⟨rfl, N0, rfl⟩
theorem ef_ALen (m : MethodId) (x0 : Addr) : entryFrame m #[(.ref x0)] 1 = mkF m 0 #[.val (.ref x0)] [] := by (first | (simp [entryFrame, mkF, argsToLocals, Value.category]; done) | rfl)
def QALen (Z : State) (b1 : Addr) (ct : Nat) (h0 : Heap) (n0 : Nat) (v : Option Value) (h : Heap) (L : List Loc) : Prop := v = some (.int (Int32.ofNat ct)) ∧ Fr n0 L ∧ h = h0
theorem d23_0 : decode jdk_68_method_6_code 0 = .ok (.aload_n 0, 1) := by decide +kernel
theorem d23_1 : decode jdk_68_method_6_code 1 = .ok (.getfield 79, 3) := by decide +kernel
theorem d23_4 : decode jdk_68_method_6_code 4 = .ok (.ireturn, 1) := by decide +kernel
set_option maxRecDepth 65536 in
set_option maxHeartbeats 40000000 in
theorem rmALen (l : Launch) (Z : State) (a0 : Array Value) (hw : ∀ d ∈ tables_1, d.before a0 Z = true) (ws : List Jvm.Cond) (b1 : Addr) (ct : Nat) (h0 : Heap) (n0 : Nat) (Z0 : n0 ≤ h0.size) (BE : Exa Z h0 b1 "java/lang/StringBuilder") (BN : Fld Z h0 b1 "java/lang/AbstractStringBuilder" "count" "I" (.int (Int32.ofNat ct))) :
    MetFree l (⟨"java/lang/AbstractStringBuilder", "length", "()I"⟩ : MethodName) (head1 (Jvm.Cond.code (⟨"java/lang/AbstractStringBuilder", "length", "()I"⟩ : MethodName) jdk_68_method_6_code 1 (some .int) :: ws) ({ frames := 0, cells := 0, slots := 0, locals := 0 } : Room)) (fun a U => a = #[(.ref b1)] ∧ Z.Warmed39 U.vm ∧ U.heap = h0) (fun _ _ _ _ _ => True) (fun _ U o U' => ∃ v L, o = .returned v ∧ QALen Z b1 ct h0 n0 v U'.heap L ∧ FrameEnd U o U' L ({ frames := 0, cells := 0, slots := 0, locals := 0 } : Room).cells ({ frames := 0, cells := 0, slots := 0, locals := 0 } : Room).slots) := by
  refine MetFree.of_bodySF (plainFor_of_name pn_java_lang_AbstractStringBuilder) hisR ?_
  intro p e s m args below meth c s₁ Bd hml0 hP hK
  obtain ⟨rfl, hZ, hh⟩ := hP
  have hx := Bd.exec
  have hby := Bd.bytes
  have hml : c.maxLocals = 1 := hml0
  have hown : s.vm.findClass "java/lang/AbstractStringBuilder" = some m.cls := findClass_of_methodNamed Bd.named
  have hnm := (name_of_methodNamed Bd.named Bd.method).1
  have X0 : Stand p l e ({ frames := 0, cells := 0, slots := 0, locals := 0 } : Room) s m #[(.ref b1)] below meth c s₁ [] 0 0 := Stand.of_body Bd
  have e0 : s₁.heap = h0 := by rw [← hh, Bd.state]; rfl
  have N0 := Fr.nil n0
  have pre0 : ∀ t, Steps p.tables e below (s₁.setTop (mkF m 0 #[.val (.ref b1)] [])) t → Steps p.tables e below (s₁.setTop (entryFrame m #[(.ref b1)] 1)) t := fun t k => castTop (ef_ALen m b1) k
  obtain ⟨T173, X173, e173, st173⟩ := getF X0 hx hZ hown (host := "") (Or.inl (hw _ (List.mem_of_getElem? (i := 62) rfl))) Via.refl e0 BN (g := (mkF m 1 #[.val (.ref b1)] [(.ref b1)])) rfl rfl (hb hby d23_1)
  have pre174 : ∀ t, Steps p.tables e below (T173.setTop (mkF m 4 #[.val (.ref b1)] [(.int (Int32.ofNat ct))])) t → Steps p.tables e below (s₁.setTop (mkF m 0 #[.val (.ref b1)] [])) t := by
    intro t kt
    show Steps p.tables e below (s₁.setTop (mkF m 0 #[.val (.ref b1)] [])) _
    refine XS.aloadN X0.here hx rfl (hb hby d23_0) rfl rfl ?_
    show Steps p.tables e below (s₁.setTop (mkF m 1 #[.val (.ref b1)] [(.ref b1)])) _
    refine st173 _ ?_
    exact kt
  obtain ⟨fs, hr, hrun, hended, hW, hsame⟩ := X173.leave (v := some (.int (Int32.ofNat ct))) (fun h => by rw [Bd.returns] at h; cases h)
  refine ⟨_, _, (pre0 _ (pre174 _ ?_)), hrun, hended, _, _, rfl, ?_, ⟨_, rfl⟩, hW, hsame.mono (by decide) (by decide)⟩
  · show Steps p.tables e below (T173.setTop (mkF m 4 #[.val (.ref b1)] [(.int (Int32.ofNat ct))])) _
    exact retOut X173 hx (t := .int) Bd.returns rfl (Or.inl ⟨rfl, Or.inl rfl, _, rfl⟩) (hb hby d23_4) hr
  · show QALen Z b1 ct h0 n0 _ T173.heap _
    rw [e173]
    exact ⟨rfl, N0, rfl⟩
theorem ef_SLen (m : MethodId) (x0 : Addr) : entryFrame m #[(.ref x0)] 1 = mkF m 0 #[.val (.ref x0)] [] := by (first | (simp [entryFrame, mkF, argsToLocals, Value.category]; done) | rfl)
def QSLen (Z : State) (b1 : Addr) (ct : Nat) (h0 : Heap) (n0 : Nat) (v : Option Value) (h : Heap) (L : List Loc) : Prop := v = some (.int (Int32.ofNat ct)) ∧ Fr n0 L ∧ h = h0
theorem d22_0 : decode jdk_67_method_93_code 0 = .ok (.aload_n 0, 1) := by decide +kernel
theorem d22_1 : decode jdk_67_method_93_code 1 = .ok (.invokespecial 343, 3) := by decide +kernel
theorem d22_4 : decode jdk_67_method_93_code 4 = .ok (.ireturn, 1) := by decide +kernel
set_option maxRecDepth 65536 in
set_option maxHeartbeats 40000000 in
theorem rmSLen (l : Launch) (Z : State) (a0 : Array Value) (hw : ∀ d ∈ tables_1, d.before a0 Z = true) (ws : List Jvm.Cond) (b1 : Addr) (ct : Nat) (h0 : Heap) (n0 : Nat) (Z0 : n0 ≤ h0.size) (BE : Exa Z h0 b1 "java/lang/StringBuilder") (BN : Fld Z h0 b1 "java/lang/AbstractStringBuilder" "count" "I" (.int (Int32.ofNat ct))) :
    MetFree l (⟨"java/lang/StringBuilder", "length", "()I"⟩ : MethodName) (head1 (Jvm.Cond.code (⟨"java/lang/StringBuilder", "length", "()I"⟩ : MethodName) jdk_67_method_93_code 1 (some .int) :: ws) ({ frames := 1, cells := 0, slots := 0, locals := 14 } : Room)) (fun a U => a = #[(.ref b1)] ∧ Z.Warmed39 U.vm ∧ U.heap = h0) (fun _ _ _ _ _ => True) (fun _ U o U' => ∃ v L, o = .returned v ∧ QSLen Z b1 ct h0 n0 v U'.heap L ∧ FrameEnd U o U' L ({ frames := 1, cells := 0, slots := 0, locals := 14 } : Room).cells ({ frames := 1, cells := 0, slots := 0, locals := 14 } : Room).slots) := by
  refine MetFree.of_bodySF (plainFor_of_name pn_java_lang_StringBuilder) hisR ?_
  intro p e s m args below meth c s₁ Bd hml0 hP hK
  obtain ⟨rfl, hZ, hh⟩ := hP
  have hx := Bd.exec
  have hby := Bd.bytes
  have hml : c.maxLocals = 1 := hml0
  have hown : s.vm.findClass "java/lang/StringBuilder" = some m.cls := findClass_of_methodNamed Bd.named
  have hnm := (name_of_methodNamed Bd.named Bd.method).1
  have X0 : Stand p l e ({ frames := 1, cells := 0, slots := 0, locals := 14 } : Room) s m #[(.ref b1)] below meth c s₁ [] 0 0 := Stand.of_body Bd
  have e0 : s₁.heap = h0 := by rw [← hh, Bd.state]; rfl
  have N0 := Fr.nil n0
  have pre0 : ∀ t, Steps p.tables e below (s₁.setTop (mkF m 0 #[.val (.ref b1)] [])) t → Steps p.tables e below (s₁.setTop (entryFrame m #[(.ref b1)] 1)) t := fun t k => castTop (ef_SLen m b1) k
  obtain ⟨_, _, ⟨T175, L175, k175, n175⟩, -, X175, ⟨Lc175, hQ175, l175, y175, z175⟩, st175⟩ := superBack X0 hx hZ (y := (⟨"java/lang/AbstractStringBuilder", "length", "()I"⟩ : MethodName)) hown (hw _ (List.mem_of_getElem? (i := 138) rfl)) (own_same (y := (⟨"java/lang/AbstractStringBuilder", "length", "()I"⟩ : MethodName)) (hw _ (List.mem_of_getElem? (i := 134) rfl)) (hw _ (List.mem_of_getElem? (i := 67) rfl)) rfl (by decide)) (hw _ (List.mem_of_getElem? (i := 134) rfl)) (hw _ (List.mem_of_getElem? (i := 46) rfl)) (by decide) (backOf (W := 0) (rmALen l Z a0 hw [] b1 ct h0 n0 Z0 BE BN) hZ (hw _ (List.mem_of_getElem? (i := 139) rfl)) (hw _ (List.mem_of_getElem? (i := 28) rfl)) (by decide) (by decide)) e0 (Ins.self BE) (g := (mkF m 1 #[.val (.ref b1)] [(.ref b1)])) rfl (by rw [hml]; rfl) (hw _ (List.mem_of_getElem? (i := 139) rfl)) (argsL := []) (rest := []) (lenOf pd___I rfl) rfl (by show 2 * 0 + _ ≤ _; exact Nat.le_of_eq rfl) (hb hby d22_1) (fun _ _ => ⟨rfl, e0, (by decide : 0 + 0 ≤ _), (by decide : 0 + 0 ≤ _)⟩)
  dsimp only [Pt.U, Pt.locs, Pt.cells, Pt.slots] at X175 l175 y175 z175 st175 hQ175
  subst l175 y175 z175
  obtain ⟨rfl, N175q, EQ175⟩ := hQ175
  have N175 := Fr.app N0 N175q
  have Z175 : n0 ≤ T175.heap.size := by rw [EQ175]; exact Z0
  have K175 := own_keq EQ175 (Keep.refl h0 [])
  have pre176 : ∀ t, Steps p.tables e below (T175.setTop (mkF m 4 #[.val (.ref b1)] [(.int (Int32.ofNat ct))])) t → Steps p.tables e below (s₁.setTop (mkF m 0 #[.val (.ref b1)] [])) t := by
    intro t kt
    show Steps p.tables e below (s₁.setTop (mkF m 0 #[.val (.ref b1)] [])) _
    refine XS.aloadN X0.here hx rfl (hb hby d22_0) rfl rfl ?_
    show Steps p.tables e below (s₁.setTop (mkF m 1 #[.val (.ref b1)] [(.ref b1)])) _
    refine st175.trans ?_
    exact kt
  obtain ⟨fs, hr, hrun, hended, hW, hsame⟩ := X175.leave (v := some (.int (Int32.ofNat ct))) (fun h => by rw [Bd.returns] at h; cases h)
  refine ⟨_, _, (pre0 _ (pre176 _ ?_)), hrun, hended, _, _, rfl, ?_, ⟨_, rfl⟩, hW, hsame.mono (by decide) (by decide)⟩
  · show Steps p.tables e below (T175.setTop (mkF m 4 #[.val (.ref b1)] [(.int (Int32.ofNat ct))])) _
    exact retOut X175 hx (t := .int) Bd.returns rfl (Or.inl ⟨rfl, Or.inl rfl, _, rfl⟩) (hb hby d22_4) hr
  · show QSLen Z b1 ct h0 n0 _ T175.heap _
    exact ⟨rfl, N175, by rw [EQ175]⟩
theorem ef_SIA (m : MethodId) (x0 : Addr) (x1 : Addr) : entryFrame m #[(.ref x0), (.ref x1), .null] 5 = mkF m 0 #[.val (.ref x0), .val (.ref x1), .val .null, .unset, .unset] [] := by (first | (simp [entryFrame, mkF, argsToLocals, Value.category]; done) | rfl)
def QSIA (Z : State) (x1 : Addr) (b1 : Addr) (v1 : Addr) (k1 : ClassId) (cp : Nat) (ct : Nat) (vs : List Value) (zc : Int32) (h0 : Heap) (n0 : Nat) (v : Option Value) (h : Heap) (L : List Loc) : Prop := v = none ∧ Fr n0 L ∧ Keep h0 h [x1] ∧ ∃ (t2 : Addr) (k2 : ClassId), (Exa Z h x1 "java/lang/String" ∧ Fld Z h x1 "java/lang/String" "value" "[B" (.ref t2) ∧ Fld Z h x1 "java/lang/String" "coder" "B" (.int (0 : Int32)) ∧ Arv Z h t2 k2 .byte (Int32.ofNat ct) (vs.take ct) (.int (0 : Int32))) ∧ h0.size ≤ t2
theorem d20_0 : decode jdk_42_method_150_code 0 = .ok (.aload_n 0, 1) := by decide +kernel
theorem d20_1 : decode jdk_42_method_150_code 1 = .ok (.invokespecial 1, 3) := by decide +kernel
theorem d20_4 : decode jdk_42_method_150_code 4 = .ok (.aload_n 1, 1) := by decide +kernel
theorem d20_5 : decode jdk_42_method_150_code 5 = .ok (.invokevirtual 552, 3) := by decide +kernel
theorem pd____B : parseMethodDescriptor "()[B" = some ⟨[], some (.array .byte)⟩ := by decide +kernel
theorem d20_8 : decode jdk_42_method_150_code 8 = .ok (.astore_n 3, 1) := by decide +kernel
theorem d20_9 : decode jdk_42_method_150_code 9 = .ok (.aload_n 1, 1) := by decide +kernel
theorem d20_10 : decode jdk_42_method_150_code 10 = .ok (.invokevirtual 549, 3) := by decide +kernel
theorem d20_13 : decode jdk_42_method_150_code 13 = .ok (.istore 4, 2) := by decide +kernel
theorem d20_15 : decode jdk_42_method_150_code 15 = .ok (.aload_n 1, 1) := by decide +kernel
theorem d20_16 : decode jdk_42_method_150_code 16 = .ok (.invokevirtual 1047, 3) := by decide +kernel
theorem d20_19 : decode jdk_42_method_150_code 19 = .ok (.ifCond .eq 22, 3) := by decide +kernel
theorem d20_22 : decode jdk_42_method_150_code 22 = .ok (.aload_n 0, 1) := by decide +kernel
theorem d20_23 : decode jdk_42_method_150_code 23 = .ok (.iconst 0, 1) := by decide +kernel
theorem d20_24 : decode jdk_42_method_150_code 24 = .ok (.putfield 15, 3) := by decide +kernel
theorem d20_27 : decode jdk_42_method_150_code 27 = .ok (.aload_n 0, 1) := by decide +kernel
theorem d20_28 : decode jdk_42_method_150_code 28 = .ok (.aload_n 3, 1) := by decide +kernel
theorem d20_29 : decode jdk_42_method_150_code 29 = .ok (.iconst 0, 1) := by decide +kernel
theorem d20_30 : decode jdk_42_method_150_code 30 = .ok (.iload 4, 2) := by decide +kernel
theorem d20_32 : decode jdk_42_method_150_code 32 = .ok (.invokestatic 54, 3) := by decide +kernel
theorem d20_35 : decode jdk_42_method_150_code 35 = .ok (.putfield 9, 3) := by decide +kernel
theorem d20_38 : decode jdk_42_method_150_code 38 = .ok (.goto 59, 3) := by decide +kernel
theorem d20_97 : decode jdk_42_method_150_code 97 = .ok (.return_, 1) := by decide +kernel
set_option maxRecDepth 65536 in
set_option maxHeartbeats 40000000 in
theorem rmSIA (l : Launch) (Z : State) (a0 : Array Value) (hw : ∀ d ∈ tables_1, d.before a0 Z = true) (ws : List Jvm.Cond) (x1 : Addr) (b1 : Addr) (v1 : Addr) (k1 : ClassId) (cp : Nat) (ct : Nat) (vs : List Value) (zc : Int32) (h0 : Heap) (n0 : Nat) (Z0 : n0 ≤ h0.size) (XE : Exa Z h0 x1 "java/lang/String") (XV0 : Fld Z h0 x1 "java/lang/String" "value" "[B" .null) (XC0 : Fld Z h0 x1 "java/lang/String" "coder" "B" (.int (0 : Int32))) (g_x1 : n0 ≤ x1) (BE : Exa Z h0 b1 "java/lang/StringBuilder") (BV : Fld Z h0 b1 "java/lang/AbstractStringBuilder" "value" "[B" (.ref v1)) (BC : Fld Z h0 b1 "java/lang/AbstractStringBuilder" "coder" "B" (.int (0 : Int32))) (BN : Fld Z h0 b1 "java/lang/AbstractStringBuilder" "count" "I" (.int (Int32.ofNat ct))) (BA : Arv Z h0 v1 k1 .byte (Int32.ofNat cp) vs (.int (0 : Int32))) (BX : Exa Z h0 v1 "[B") (hvl : vs.length = cp) (hcp : cp ≤ 1000) (g_b1 : n0 ≤ b1) (g_v1 : n0 ≤ v1) (hct : ct ≤ cp) (hcT : ct ≤ 256) (OZ : Old Z n0 h0) (SC : Sta Z Z.heap "java/lang/String" "COMPACT_STRINGS" "Z" (.int zc)) (hzc : ¬ zc = (0 : Int32)) :
    MetFree l (⟨"java/lang/String", "<init>", "(Ljava/lang/AbstractStringBuilder;Ljava/lang/Void;)V"⟩ : MethodName) (head1 (Jvm.Cond.code (⟨"java/lang/String", "<init>", "(Ljava/lang/AbstractStringBuilder;Ljava/lang/Void;)V"⟩ : MethodName) jdk_42_method_150_code 5 none :: ws) ({ frames := 3, cells := 1, slots := 256, locals := 100 } : Room)) (fun a U => a = #[(.ref x1), (.ref b1), .null] ∧ Z.Warmed39 U.vm ∧ U.heap = h0) (fun _ _ _ _ _ => True) (fun _ U o U' => ∃ v L, o = .returned v ∧ QSIA Z x1 b1 v1 k1 cp ct vs zc h0 n0 v U'.heap L ∧ FrameEnd U o U' L ({ frames := 3, cells := 1, slots := 256, locals := 100 } : Room).cells ({ frames := 3, cells := 1, slots := 256, locals := 100 } : Room).slots) := by
  refine MetFree.of_bodySF (plainFor_of_name pn_java_lang_String) hisR ?_
  intro p e s m args below meth c s₁ Bd hml0 hP hK
  obtain ⟨rfl, hZ, hh⟩ := hP
  have hx := Bd.exec
  have hby := Bd.bytes
  have hml : c.maxLocals = 5 := hml0
  have hown : s.vm.findClass "java/lang/String" = some m.cls := findClass_of_methodNamed Bd.named
  have hnm := (name_of_methodNamed Bd.named Bd.method).1
  have X0 : Stand p l e ({ frames := 3, cells := 1, slots := 256, locals := 100 } : Room) s m #[(.ref x1), (.ref b1), .null] below meth c s₁ [] 0 0 := Stand.of_body Bd
  have e0 : s₁.heap = h0 := by rw [← hh, Bd.state]; rfl
  have N0 := Fr.nil n0
  have pre0 : ∀ t, Steps p.tables e below (s₁.setTop (mkF m 0 #[.val (.ref x1), .val (.ref b1), .val .null, .unset, .unset] [])) t → Steps p.tables e below (s₁.setTop (entryFrame m #[(.ref x1), (.ref b1), .null] 5)) t := fun t k => castTop (ef_SIA m x1 b1) k
  have mem_x1 : x1 ∈ [x1] := List.mem_of_getElem? (i := 0) rfl
  have ne_x1_b1 : x1 ≠ b1 := XE.ne BE (by decide)
  have ne_x1_v1 : x1 ≠ v1 := XE.ne BX (by decide)
  obtain ⟨T177, X177, e177, st177⟩ := initO X0 hx hZ hown (hw _ (List.mem_of_getElem? (i := 126) rfl)) (hw _ (List.mem_of_getElem? (i := 16) rfl)) (hw _ (List.mem_of_getElem? (i := 17) rfl)) e0 (g := (mkF m 1 #[.val (.ref x1), .val (.ref b1), .val .null, .unset, .unset] [(.ref x1)])) rfl (by rw [hml]; rfl) rfl (hb hby d20_1) (by decide) (W := 0) (by show 2 * 0 + _ ≤ _; exact Nat.le_of_eq rfl) (by decide)
  obtain ⟨cq178, kq178, q178a, q178b, q178c⟩ := isOf hZ e177 BE
  obtain ⟨_, _, ⟨T178, L178, k178, n178⟩, -, X178, ⟨Lc178, hQ178, l178, y178, z178⟩, st178⟩ := X177.virtualBack hx (y := (⟨"java/lang/AbstractStringBuilder", "getValue", "()[B"⟩ : MethodName)) (z := (⟨"java/lang/AbstractStringBuilder", "getValue", "()[B"⟩ : MethodName)) hown (mvT hZ (hw _ (List.mem_of_getElem? (i := 127) rfl))) (mvT hZ (hw _ (List.mem_of_getElem? (i := 128) rfl))) (notFace_of_selects (args := #[]) (mvT hZ (hw _ (List.mem_of_getElem? (i := 130) rfl)))) (mvT hZ (hw _ (List.mem_of_getElem? (i := 130) rfl))) (mvT hZ (hw _ (List.mem_of_getElem? (i := 129) rfl))) (by decide) (backOf (W := 0) (rmGetV l Z a0 hw [] b1 v1 h0 n0 Z0 BV) hZ (hw _ (List.mem_of_getElem? (i := 131) rfl)) (hw _ (List.mem_of_getElem? (i := 28) rfl)) (by decide) (by decide)) q178a q178c (g := (mkF m 5 #[.val (.ref x1), .val (.ref b1), .val .null, .unset, .unset] [(.ref b1)])) rfl (by rw [hml]; rfl) (Steps.refl _) (argsL := []) (rest := []) (lenOf pd____B rfl) rfl (by show 2 * 0 + _ ≤ _; exact Nat.le_of_eq rfl) (hb hby d20_5) (fun _ _ => ⟨rfl, e177, (by decide : 0 + 0 ≤ _), (by decide : 0 + 0 ≤ _)⟩)
  dsimp only [Pt.U, Pt.locs, Pt.cells, Pt.slots] at X178 l178 y178 z178 st178 hQ178
  subst l178 y178 z178
  obtain ⟨rfl, N178q, EQ178⟩ := hQ178
  have N178 := Fr.app N0 N178q
  have Z178 : n0 ≤ T178.heap.size := by rw [EQ178]; exact Z0
  have K178 := own_keq EQ178 (Keep.refl h0 [x1])
  have f179 := (EQ178 ▸ BE)
  have f180 := (EQ178 ▸ BN)
  obtain ⟨cq181, kq181, q181a, q181b, q181c⟩ := isOf hZ rfl f179
  obtain ⟨_, _, ⟨T181, L181, k181, n181⟩, -, X181, ⟨Lc181, hQ181, l181, y181, z181⟩, st181⟩ := X178.virtualBack hx (y := (⟨"java/lang/AbstractStringBuilder", "length", "()I"⟩ : MethodName)) (z := (⟨"java/lang/StringBuilder", "length", "()I"⟩ : MethodName)) hown (mvT hZ (hw _ (List.mem_of_getElem? (i := 132) rfl))) (mvT hZ (hw _ (List.mem_of_getElem? (i := 133) rfl))) (own_nf (args := #[]) (mvT hZ (hw _ (List.mem_of_getElem? (i := 67) rfl))) rfl) (mvT hZ (hw _ (List.mem_of_getElem? (i := 135) rfl))) (mvT hZ (hw _ (List.mem_of_getElem? (i := 136) rfl))) (by decide) (backOf (W := 0) (rmSLen l Z a0 hw [] b1 ct T178.heap n0 Z178 f179 f180) hZ (hw _ (List.mem_of_getElem? (i := 137) rfl)) (hw _ (List.mem_of_getElem? (i := 20) rfl)) (by decide) (by decide)) q181a q181c (g := (mkF m 10 #[.val (.ref x1), .val (.ref b1), .val .null, .val (.ref v1), .unset] [(.ref b1)])) rfl (by rw [hml]; rfl) (Steps.refl _) (argsL := []) (rest := []) (lenOf pd___I rfl) rfl (by show 2 * 0 + _ ≤ _; exact Nat.le_of_eq rfl) (hb hby d20_10) (fun _ _ => ⟨rfl, rfl, (by decide : 0 + 0 ≤ _), (by decide : 0 + 0 ≤ _)⟩)
  dsimp only [Pt.U, Pt.locs, Pt.cells, Pt.slots] at X181 l181 y181 z181 st181 hQ181
  subst l181 y181 z181
  obtain ⟨rfl, N181q, EQ181⟩ := hQ181
  have N181 := Fr.app N178 N181q
  have Z181 : n0 ≤ T181.heap.size := by rw [EQ181]; exact Z178
  have K181 := own_keq EQ181 K178
  have f182 := (EQ181 ▸ (EQ178 ▸ BC))
  have f183 := (EQ181 ▸ (EQ178 ▸ OZ))
  have f185 := (EQ181 ▸ f179)
  obtain ⟨cq184, kq184, q184a, q184b, q184c⟩ := isOf hZ rfl f185
  obtain ⟨_, _, ⟨T184, L184, k184, n184⟩, -, X184, ⟨Lc184, hQ184, l184, y184, z184⟩, st184⟩ := X181.virtualBack hx (y := (⟨"java/lang/AbstractStringBuilder", "isLatin1", "()Z"⟩ : MethodName)) (z := (⟨"java/lang/AbstractStringBuilder", "isLatin1", "()Z"⟩ : MethodName)) hown (mvT hZ (hw _ (List.mem_of_getElem? (i := 140) rfl))) (mvT hZ (hw _ (List.mem_of_getElem? (i := 141) rfl))) (notFace_of_selects (args := #[]) (mvT hZ (hw _ (List.mem_of_getElem? (i := 143) rfl)))) (mvT hZ (hw _ (List.mem_of_getElem? (i := 143) rfl))) (mvT hZ (hw _ (List.mem_of_getElem? (i := 142) rfl))) (by decide) (backOf (W := 0) (rmBLat l Z a0 hw [] b1 zc T181.heap n0 Z181 f182 (SC.ext f183.2) hzc) hZ (hw _ (List.mem_of_getElem? (i := 144) rfl)) (hw _ (List.mem_of_getElem? (i := 28) rfl)) (by decide) (by decide)) q184a q184c (g := (mkF m 16 #[.val (.ref x1), .val (.ref b1), .val .null, .val (.ref v1), .val (.int (Int32.ofNat ct))] [(.ref b1)])) rfl (by rw [hml]; rfl) (Steps.refl _) (argsL := []) (rest := []) (lenOf pd___Z rfl) rfl (by show 2 * 0 + _ ≤ _; exact Nat.le_of_eq rfl) (hb hby d20_16) (fun _ _ => ⟨rfl, rfl, (by decide : 0 + 0 ≤ _), (by decide : 0 + 0 ≤ _)⟩)
  dsimp only [Pt.U, Pt.locs, Pt.cells, Pt.slots] at X184 l184 y184 z184 st184 hQ184
  subst l184 y184 z184
  obtain ⟨rfl, N184q, EQ184⟩ := hQ184
  have N184 := Fr.app N181 N184q
  have Z184 : n0 ≤ T184.heap.size := by rw [EQ184]; exact Z181
  have K184 := own_keq EQ184 K181
  have f186 := (EQ184 ▸ (EQ181 ▸ (EQ178 ▸ XC0)))
  have f187 := (EQ184 ▸ (EQ181 ▸ (EQ178 ▸ XE)))
  obtain ⟨T188, h188, X188, e188, W188, st188⟩ := putFN X184 hx hZ hown (hw _ (List.mem_of_getElem? (i := 61) rfl)) Via.refl rfl f186 f187 (Or.inr ⟨(hw _ (List.mem_of_getElem? (i := 9) rfl)), rfl, hnm⟩) (hw _ (List.mem_of_getElem? (i := 6) rfl)) (ty := .byte) (v' := (.int (0 : Int32))) (by decide) rfl rfl (g := (mkF m 24 #[.val (.ref x1), .val (.ref b1), .val .null, .val (.ref v1), .val (.int (Int32.ofNat ct))] [(.int (0 : Int32)), (.ref x1)])) rfl rfl (hb hby d20_24)
  have N188 := Fr.snoc X188 N184 g_x1
  have Z188 := Nat.le_trans Z184 (Keep.of_wr W188).1
  have K188 := K184.wr W188 (Or.inl mem_x1)
  have Fw188 := f186.same W188
  have f189 := ((EQ184 ▸ (EQ181 ▸ (EQ178 ▸ BA))).other W188 (Ne.symm ne_x1_v1))
  have f190 := ((EQ184 ▸ (EQ181 ▸ (EQ178 ▸ BX))).wr W188)
  have f192 := ((EQ184 ▸ f185).wr W188)
  have f193 := (f187.wr W188)
  obtain ⟨_, _, ⟨T191, L191, k191, n191⟩, -, X191, ⟨Lc191, hQ191, l191, y191, z191⟩, st191⟩ := Jvm.LawKit.callS X188 hx (y := (⟨"java/util/Arrays", "copyOfRange", "([BII)[B"⟩ : MethodName)) hown (mvT hZ (hw _ (List.mem_of_getElem? (i := 145) rfl))) (mvT hZ (hw _ (List.mem_of_getElem? (i := 146) rfl))) (mvT hZ (hw _ (List.mem_of_getElem? (i := 86) rfl))) (mvT hZ (hw _ (List.mem_of_getElem? (i := 147) rfl))) (by decide) (backOf (W := 1) (rmCpR l Z a0 hw [] v1 k1 cp ct vs h188 n0 Z188 f189 f190 hvl hcp hct hcT) hZ (hw _ (List.mem_of_getElem? (i := 147) rfl)) (hw _ (List.mem_of_getElem? (i := 86) rfl)) (by decide) (by decide)) (g := (mkF m 32 #[.val (.ref x1), .val (.ref b1), .val .null, .val (.ref v1), .val (.int (Int32.ofNat ct))] [(.int (Int32.ofNat ct)), (.int (0 : Int32)), (.ref v1), (.ref x1)])) rfl (by rw [hml]; rfl) (argsL := [(.ref v1), (.int (0 : Int32)), (.int (Int32.ofNat ct))]) (rest := [(.ref x1)]) (lenOf pd___BII__B rfl) rfl (by show 2 * 0 + _ ≤ _; exact Nat.le_of_eq rfl) (hb hby d20_32) (fun _ _ => ⟨rfl, e188, (by decide : 0 + 1 ≤ _), (by decide : 0 + 256 ≤ _)⟩)
  dsimp only [Pt.U, Pt.locs, Pt.cells, Pt.slots] at X191 l191 y191 z191 st191 hQ191
  subst l191 y191 z191
  obtain ⟨t2, rfl, N191q, EX191, le191, k2, V2⟩ := hQ191
  have N191 := Fr.app N188 N191q
  have g_t2 : n0 ≤ t2 := Nat.le_trans Z188 le191
  have sz_t2 : h0.size ≤ t2 := Nat.le_trans K188.1 le191
  have ne_b1_t2 : b1 ≠ t2 := Nat.ne_of_lt (Nat.lt_of_lt_of_le f192.lt le191)
  have ne_v1_t2 : v1 ≠ t2 := Nat.ne_of_lt (Nat.lt_of_lt_of_le f189.lt le191)
  have ne_x1_t2 : x1 ≠ t2 := Nat.ne_of_lt (Nat.lt_of_lt_of_le f193.lt le191)
  have Z191 := Nat.le_trans Z188 EX191.1
  have K191 := K188.ext EX191
  have f194 := (((EQ184 ▸ (EQ181 ▸ (EQ178 ▸ XV0))).other W188 (Or.inr (slot_ne (Or.inr (hw _ (List.mem_of_getElem? (i := 8) rfl))) (Or.inr (hw _ (List.mem_of_getElem? (i := 9) rfl))) (by decide) (t := (.array .byte)) (t' := .byte) (by decide) (by decide)))).ext EX191)
  have f195 := (f193.ext EX191)
  obtain ⟨T196, h196, X196, e196, W196, st196⟩ := putF X191 hx hZ hown (host := "") (Or.inl (hw _ (List.mem_of_getElem? (i := 54) rfl))) Via.refl rfl f194 f195 (Or.inr ⟨(hw _ (List.mem_of_getElem? (i := 8) rfl)), rfl, hnm⟩) (hw _ (List.mem_of_getElem? (i := 6) rfl)) (ty := (.array .byte)) (by decide) rfl rfl (g := (mkF m 35 #[.val (.ref x1), .val (.ref b1), .val .null, .val (.ref v1), .val (.int (Int32.ofNat ct))] [(.ref t2), (.ref x1)])) rfl rfl (hb hby d20_35)
  have N196 := Fr.snoc X196 N191 g_x1
  have Z196 := Nat.le_trans Z191 (Keep.of_wr W196).1
  have K196 := K191.wr W196 (Or.inl mem_x1)
  have Fw196 := f194.same W196
  have f197 := (f195.wr W196)
  have f198 := ((Fw188.ext EX191).other W196 (Or.inr (slot_ne (Or.inr (hw _ (List.mem_of_getElem? (i := 9) rfl))) (Or.inr (hw _ (List.mem_of_getElem? (i := 8) rfl))) (by decide) (t := .byte) (t' := (.array .byte)) (by decide) (by decide))))
  have f199 := (V2.other W196 (Ne.symm ne_x1_t2))
  have pre200 : ∀ t, Steps p.tables e below (T196.setTop (mkF m 97 #[.val (.ref x1), .val (.ref b1), .val .null, .val (.ref v1), .val (.int (Int32.ofNat ct))] [])) t → Steps p.tables e below (s₁.setTop (mkF m 0 #[.val (.ref x1), .val (.ref b1), .val .null, .unset, .unset] [])) t := by
    intro t kt
    show Steps p.tables e below (s₁.setTop (mkF m 0 #[.val (.ref x1), .val (.ref b1), .val .null, .unset, .unset] [])) _
    refine XS.aloadN X0.here hx rfl (hb hby d20_0) rfl rfl ?_
    show Steps p.tables e below (s₁.setTop (mkF m 1 #[.val (.ref x1), .val (.ref b1), .val .null, .unset, .unset] [(.ref x1)])) _
    refine st177 _ ?_
    show Steps p.tables e below (T177.setTop (mkF m 4 #[.val (.ref x1), .val (.ref b1), .val .null, .unset, .unset] [])) _
    refine XS.aloadN X177.here hx rfl (hb hby d20_4) rfl rfl ?_
    show Steps p.tables e below (T177.setTop (mkF m 5 #[.val (.ref x1), .val (.ref b1), .val .null, .unset, .unset] [(.ref b1)])) _
    refine st178.trans ?_
    show Steps p.tables e below (T178.setTop (mkF m 8 #[.val (.ref x1), .val (.ref b1), .val .null, .unset, .unset] [(.ref v1)])) _
    refine XS.astoreN X178.here hx rfl (hb hby d20_8) rfl rfl (l' := #[.val (.ref x1), .val (.ref b1), .val .null, .val (.ref v1), .unset]) rfl ?_
    show Steps p.tables e below (T178.setTop (mkF m 9 #[.val (.ref x1), .val (.ref b1), .val .null, .val (.ref v1), .unset] [])) _
    refine XS.aloadN X178.here hx rfl (hb hby d20_9) rfl rfl ?_
    show Steps p.tables e below (T178.setTop (mkF m 10 #[.val (.ref x1), .val (.ref b1), .val .null, .val (.ref v1), .unset] [(.ref b1)])) _
    refine st181.trans ?_
    show Steps p.tables e below (T181.setTop (mkF m 13 #[.val (.ref x1), .val (.ref b1), .val .null, .val (.ref v1), .unset] [(.int (Int32.ofNat ct))])) _
    refine XS.istore X181.here hx rfl (hb hby d20_13) rfl (l' := #[.val (.ref x1), .val (.ref b1), .val .null, .val (.ref v1), .val (.int (Int32.ofNat ct))]) rfl ?_
    show Steps p.tables e below (T181.setTop (mkF m 15 #[.val (.ref x1), .val (.ref b1), .val .null, .val (.ref v1), .val (.int (Int32.ofNat ct))] [])) _
    refine XS.aloadN X181.here hx rfl (hb hby d20_15) rfl rfl ?_
    show Steps p.tables e below (T181.setTop (mkF m 16 #[.val (.ref x1), .val (.ref b1), .val .null, .val (.ref v1), .val (.int (Int32.ofNat ct))] [(.ref b1)])) _
    refine st184.trans ?_
    show Steps p.tables e below (T184.setTop (mkF m 19 #[.val (.ref x1), .val (.ref b1), .val .null, .val (.ref v1), .val (.int (Int32.ofNat ct))] [(.int (1 : Int32))])) _
    refine XS.ifNo X184.here hx rfl (hb hby d20_19) rfl ((if0 _ _).trans (feq (by decide : ¬ ((1 : Int32) = (0 : Int32)))).1) ?_
    show Steps p.tables e below (T184.setTop (mkF m 22 #[.val (.ref x1), .val (.ref b1), .val .null, .val (.ref v1), .val (.int (Int32.ofNat ct))] [])) _
    refine XS.aloadN X184.here hx rfl (hb hby d20_22) rfl rfl ?_
    show Steps p.tables e below (T184.setTop (mkF m 23 #[.val (.ref x1), .val (.ref b1), .val .null, .val (.ref v1), .val (.int (Int32.ofNat ct))] [(.ref x1)])) _
    refine XS.iconst X184.here hx rfl (hb hby d20_23) ?_
    show Steps p.tables e below (T184.setTop (mkF m 24 #[.val (.ref x1), .val (.ref b1), .val .null, .val (.ref v1), .val (.int (Int32.ofNat ct))] [(.int (0 : Int32)), (.ref x1)])) _
    refine st188 _ ?_
    show Steps p.tables e below (T188.setTop (mkF m 27 #[.val (.ref x1), .val (.ref b1), .val .null, .val (.ref v1), .val (.int (Int32.ofNat ct))] [])) _
    refine XS.aloadN X188.here hx rfl (hb hby d20_27) rfl rfl ?_
    show Steps p.tables e below (T188.setTop (mkF m 28 #[.val (.ref x1), .val (.ref b1), .val .null, .val (.ref v1), .val (.int (Int32.ofNat ct))] [(.ref x1)])) _
    refine XS.aloadN X188.here hx rfl (hb hby d20_28) rfl rfl ?_
    show Steps p.tables e below (T188.setTop (mkF m 29 #[.val (.ref x1), .val (.ref b1), .val .null, .val (.ref v1), .val (.int (Int32.ofNat ct))] [(.ref v1), (.ref x1)])) _
    refine XS.iconst X188.here hx rfl (hb hby d20_29) ?_
    show Steps p.tables e below (T188.setTop (mkF m 30 #[.val (.ref x1), .val (.ref b1), .val .null, .val (.ref v1), .val (.int (Int32.ofNat ct))] [(.int (0 : Int32)), (.ref v1), (.ref x1)])) _
    refine XS.iload X188.here hx rfl (hb hby d20_30) rfl ?_
    show Steps p.tables e below (T188.setTop (mkF m 32 #[.val (.ref x1), .val (.ref b1), .val .null, .val (.ref v1), .val (.int (Int32.ofNat ct))] [(.int (Int32.ofNat ct)), (.int (0 : Int32)), (.ref v1), (.ref x1)])) _
    refine st191 _ ?_
    show Steps p.tables e below (T191.setTop (mkF m 35 #[.val (.ref x1), .val (.ref b1), .val .null, .val (.ref v1), .val (.int (Int32.ofNat ct))] [(.ref t2), (.ref x1)])) _
    refine st196 _ ?_
    show Steps p.tables e below (T196.setTop (mkF m 38 #[.val (.ref x1), .val (.ref b1), .val .null, .val (.ref v1), .val (.int (Int32.ofNat ct))] [])) _
    refine XS.goto X196.here hx rfl (pc0 := 38) (pc' := 97) rfl (hb hby d20_38) (by decide) (by decide) ?_
    exact kt
  obtain ⟨fs, hr, hrun, hended, hW, hsame⟩ := X196.leave (v := none) (fun _ => rfl)
  refine ⟨_, _, (pre0 _ (pre200 _ ?_)), hrun, hended, _, _, rfl, ?_, ⟨_, rfl⟩, hW, hsame.mono (by decide) (by decide)⟩
  · show Steps p.tables e below (T196.setTop (mkF m 97 #[.val (.ref x1), .val (.ref b1), .val .null, .val (.ref v1), .val (.int (Int32.ofNat ct))] [])) _
    exact X196.returnOut hx Bd.returns (hb hby d20_97) hr
  · show QSIA Z x1 b1 v1 k1 cp ct vs zc h0 n0 _ T196.heap _
    rw [e196]
    exact ⟨rfl, N196, K196, t2, k2, ⟨f197, Fw196, f198, f199⟩, sz_t2⟩
theorem ef_SIB (m : MethodId) (x0 : Addr) (x1 : Addr) : entryFrame m #[(.ref x0), (.ref x1)] 2 = mkF m 0 #[.val (.ref x0), .val (.ref x1)] [] := by (first | (simp [entryFrame, mkF, argsToLocals, Value.category]; done) | rfl)
def QSIB (Z : State) (x1 : Addr) (b1 : Addr) (v1 : Addr) (k1 : ClassId) (cp : Nat) (ct : Nat) (vs : List Value) (zc : Int32) (h0 : Heap) (n0 : Nat) (v : Option Value) (h : Heap) (L : List Loc) : Prop := v = none ∧ Fr n0 L ∧ Keep h0 h [x1] ∧ ∃ (t2 : Addr) (k2 : ClassId), (Exa Z h x1 "java/lang/String" ∧ Fld Z h x1 "java/lang/String" "value" "[B" (.ref t2) ∧ Fld Z h x1 "java/lang/String" "coder" "B" (.int (0 : Int32)) ∧ Arv Z h t2 k2 .byte (Int32.ofNat ct) (vs.take ct) (.int (0 : Int32))) ∧ h0.size ≤ t2
theorem d19_0 : decode jdk_42_method_53_code 0 = .ok (.aload_n 0, 1) := by decide +kernel
theorem d19_1 : decode jdk_42_method_53_code 1 = .ok (.aload_n 1, 1) := by decide +kernel
theorem d19_2 : decode jdk_42_method_53_code 2 = .ok (.aconst_null, 1) := by decide +kernel
theorem d19_3 : decode jdk_42_method_53_code 3 = .ok (.invokespecial 489, 3) := by decide +kernel
theorem pd__Ljava_lang_AbstractStringBuilder_Ljava_lang_Void__V : parseMethodDescriptor "(Ljava/lang/AbstractStringBuilder;Ljava/lang/Void;)V" = some ⟨[(.object "java/lang/AbstractStringBuilder"), (.object "java/lang/Void")], none⟩ := by decide +kernel
theorem d19_6 : decode jdk_42_method_53_code 6 = .ok (.return_, 1) := by decide +kernel
set_option maxRecDepth 65536 in
set_option maxHeartbeats 40000000 in
theorem rmSIB (l : Launch) (Z : State) (a0 : Array Value) (hw : ∀ d ∈ tables_1, d.before a0 Z = true) (ws : List Jvm.Cond) (x1 : Addr) (b1 : Addr) (v1 : Addr) (k1 : ClassId) (cp : Nat) (ct : Nat) (vs : List Value) (zc : Int32) (h0 : Heap) (n0 : Nat) (Z0 : n0 ≤ h0.size) (XE : Exa Z h0 x1 "java/lang/String") (XV0 : Fld Z h0 x1 "java/lang/String" "value" "[B" .null) (XC0 : Fld Z h0 x1 "java/lang/String" "coder" "B" (.int (0 : Int32))) (g_x1 : n0 ≤ x1) (BE : Exa Z h0 b1 "java/lang/StringBuilder") (BV : Fld Z h0 b1 "java/lang/AbstractStringBuilder" "value" "[B" (.ref v1)) (BC : Fld Z h0 b1 "java/lang/AbstractStringBuilder" "coder" "B" (.int (0 : Int32))) (BN : Fld Z h0 b1 "java/lang/AbstractStringBuilder" "count" "I" (.int (Int32.ofNat ct))) (BA : Arv Z h0 v1 k1 .byte (Int32.ofNat cp) vs (.int (0 : Int32))) (BX : Exa Z h0 v1 "[B") (hvl : vs.length = cp) (hcp : cp ≤ 1000) (g_b1 : n0 ≤ b1) (g_v1 : n0 ≤ v1) (hct : ct ≤ cp) (hcT : ct ≤ 256) (OZ : Old Z n0 h0) (SC : Sta Z Z.heap "java/lang/String" "COMPACT_STRINGS" "Z" (.int zc)) (hzc : ¬ zc = (0 : Int32)) :
    MetFree l (⟨"java/lang/String", "<init>", "(Ljava/lang/StringBuilder;)V"⟩ : MethodName) (head1 (Jvm.Cond.code (⟨"java/lang/String", "<init>", "(Ljava/lang/StringBuilder;)V"⟩ : MethodName) jdk_42_method_53_code 2 none :: ws) ({ frames := 4, cells := 1, slots := 256, locals := 120 } : Room)) (fun a U => a = #[(.ref x1), (.ref b1)] ∧ Z.Warmed39 U.vm ∧ U.heap = h0) (fun _ _ _ _ _ => True) (fun _ U o U' => ∃ v L, o = .returned v ∧ QSIB Z x1 b1 v1 k1 cp ct vs zc h0 n0 v U'.heap L ∧ FrameEnd U o U' L ({ frames := 4, cells := 1, slots := 256, locals := 120 } : Room).cells ({ frames := 4, cells := 1, slots := 256, locals := 120 } : Room).slots) := by
  refine MetFree.of_bodySF (plainFor_of_name pn_java_lang_String) hisR ?_
  intro p e s m args below meth c s₁ Bd hml0 hP hK
  obtain ⟨rfl, hZ, hh⟩ := hP
  have hx := Bd.exec
  have hby := Bd.bytes
  have hml : c.maxLocals = 2 := hml0
  have hown : s.vm.findClass "java/lang/String" = some m.cls := findClass_of_methodNamed Bd.named
  have hnm := (name_of_methodNamed Bd.named Bd.method).1
  have X0 : Stand p l e ({ frames := 4, cells := 1, slots := 256, locals := 120 } : Room) s m #[(.ref x1), (.ref b1)] below meth c s₁ [] 0 0 := Stand.of_body Bd
  have e0 : s₁.heap = h0 := by rw [← hh, Bd.state]; rfl
  have N0 := Fr.nil n0
  have pre0 : ∀ t, Steps p.tables e below (s₁.setTop (mkF m 0 #[.val (.ref x1), .val (.ref b1)] [])) t → Steps p.tables e below (s₁.setTop (entryFrame m #[(.ref x1), (.ref b1)] 2)) t := fun t k => castTop (ef_SIB m x1 b1) k
  have mem_x1 : x1 ∈ [x1] := List.mem_of_getElem? (i := 0) rfl
  have ne_x1_b1 : x1 ≠ b1 := XE.ne BE (by decide)
  have ne_x1_v1 : x1 ≠ v1 := XE.ne BX (by decide)
  obtain ⟨_, _, ⟨T201, L201, k201, n201⟩, -, X201, ⟨Lc201, hQ201, l201, y201, z201⟩, st201⟩ := X0.specialBack hx (y := (⟨"java/lang/String", "<init>", "(Ljava/lang/AbstractStringBuilder;Ljava/lang/Void;)V"⟩ : MethodName)) rfl hown (mvT hZ (hw _ (List.mem_of_getElem? (i := 123) rfl))) (mvT hZ (hw _ (List.mem_of_getElem? (i := 124) rfl))) (mvT hZ (hw _ (List.mem_of_getElem? (i := 125) rfl))) (by decide) (backOf (W := 0) (rmSIA l Z a0 hw [] x1 b1 v1 k1 cp ct vs zc h0 n0 Z0 XE XV0 XC0 g_x1 BE BV BC BN BA BX hvl hcp g_b1 g_v1 hct hcT OZ SC hzc) hZ (hw _ (List.mem_of_getElem? (i := 125) rfl)) (hw _ (List.mem_of_getElem? (i := 5) rfl)) (by decide) (by decide)) (g := (mkF m 3 #[.val (.ref x1), .val (.ref b1)] [.null, (.ref b1), (.ref x1)])) rfl (by rw [hml]; rfl) (Steps.refl _) (a := x1) (argsL := [(.ref b1), .null]) (rest := []) (lenOf pd__Ljava_lang_AbstractStringBuilder_Ljava_lang_Void__V rfl) rfl (by show 2 * 0 + _ ≤ _; exact Nat.le_of_eq rfl) (hb hby d19_3) (fun _ _ => ⟨rfl, e0, (by decide : 0 + 1 ≤ _), (by decide : 0 + 256 ≤ _)⟩)
  dsimp only [Pt.U, Pt.locs, Pt.cells, Pt.slots] at X201 l201 y201 z201 st201 hQ201
  subst l201 y201 z201
  obtain ⟨rfl, N201q, KC201, RR⟩ := hQ201
  have N201 := Fr.app N0 N201q
  have Z201 := Nat.le_trans Z0 KC201.1
  have K201 := (Keep.refl h0 [x1]).trans KC201 (allS (Or.inl mem_x1) all0)
  have pre202 : ∀ t, Steps p.tables e below (T201.setTop (mkF m 6 #[.val (.ref x1), .val (.ref b1)] [])) t → Steps p.tables e below (s₁.setTop (mkF m 0 #[.val (.ref x1), .val (.ref b1)] [])) t := by
    intro t kt
    show Steps p.tables e below (s₁.setTop (mkF m 0 #[.val (.ref x1), .val (.ref b1)] [])) _
    refine XS.aloadN X0.here hx rfl (hb hby d19_0) rfl rfl ?_
    show Steps p.tables e below (s₁.setTop (mkF m 1 #[.val (.ref x1), .val (.ref b1)] [(.ref x1)])) _
    refine XS.aloadN X0.here hx rfl (hb hby d19_1) rfl rfl ?_
    show Steps p.tables e below (s₁.setTop (mkF m 2 #[.val (.ref x1), .val (.ref b1)] [(.ref b1), (.ref x1)])) _
    refine XS.aconstNull X0.here hx rfl (hb hby d19_2) ?_
    show Steps p.tables e below (s₁.setTop (mkF m 3 #[.val (.ref x1), .val (.ref b1)] [.null, (.ref b1), (.ref x1)])) _
    refine st201.trans ?_
    exact kt
  obtain ⟨fs, hr, hrun, hended, hW, hsame⟩ := X201.leave (v := none) (fun _ => rfl)
  refine ⟨_, _, (pre0 _ (pre202 _ ?_)), hrun, hended, _, _, rfl, ?_, ⟨_, rfl⟩, hW, hsame.mono (by decide) (by decide)⟩
  · show Steps p.tables e below (T201.setTop (mkF m 6 #[.val (.ref x1), .val (.ref b1)] [])) _
    exact X201.returnOut hx Bd.returns (hb hby d19_6) hr
  · show QSIB Z x1 b1 v1 k1 cp ct vs zc h0 n0 _ T201.heap _
    exact ⟨rfl, N201, K201, RR⟩
theorem ef_ToS (m : MethodId) (x0 : Addr) : entryFrame m #[(.ref x0)] 1 = mkF m 0 #[.val (.ref x0)] [] := by (first | (simp [entryFrame, mkF, argsToLocals, Value.category]; done) | rfl)
def QToS (Z : State) (b1 : Addr) (v1 : Addr) (k1 : ClassId) (cp : Nat) (ct : Nat) (vs : List Value) (zc : Int32) (h0 : Heap) (n0 : Nat) (v : Option Value) (h : Heap) (L : List Loc) : Prop := ∃ x2, v = some (.ref x2) ∧ Fr n0 L ∧ Ext h0 h ∧ h0.size ≤ x2 ∧ ∃ (t2 : Addr) (k2 : ClassId), (Exa Z h x2 "java/lang/String" ∧ Fld Z h x2 "java/lang/String" "value" "[B" (.ref t2) ∧ Fld Z h x2 "java/lang/String" "coder" "B" (.int (0 : Int32)) ∧ Arv Z h t2 k2 .byte (Int32.ofNat ct) (vs.take ct) (.int (0 : Int32))) ∧ h0.size ≤ t2
theorem d18_0 : decode jdk_67_method_42_code 0 = .ok (.new 18, 3) := by decide +kernel
theorem d18_3 : decode jdk_67_method_42_code 3 = .ok (.dup, 1) := by decide +kernel
theorem d18_4 : decode jdk_67_method_42_code 4 = .ok (.aload_n 0, 1) := by decide +kernel
theorem d18_5 : decode jdk_67_method_42_code 5 = .ok (.invokespecial 137, 3) := by decide +kernel
theorem pd__Ljava_lang_StringBuilder__V : parseMethodDescriptor "(Ljava/lang/StringBuilder;)V" = some ⟨[(.object "java/lang/StringBuilder")], none⟩ := by decide +kernel
theorem d18_8 : decode jdk_67_method_42_code 8 = .ok (.areturn, 1) := by decide +kernel
set_option maxRecDepth 65536 in
set_option maxHeartbeats 40000000 in
theorem rmToS (l : Launch) (Z : State) (a0 : Array Value) (hw : ∀ d ∈ tables_1, d.before a0 Z = true) (ws : List Jvm.Cond) (b1 : Addr) (v1 : Addr) (k1 : ClassId) (cp : Nat) (ct : Nat) (vs : List Value) (zc : Int32) (h0 : Heap) (n0 : Nat) (Z0 : n0 ≤ h0.size) (BE : Exa Z h0 b1 "java/lang/StringBuilder") (BV : Fld Z h0 b1 "java/lang/AbstractStringBuilder" "value" "[B" (.ref v1)) (BC : Fld Z h0 b1 "java/lang/AbstractStringBuilder" "coder" "B" (.int (0 : Int32))) (BN : Fld Z h0 b1 "java/lang/AbstractStringBuilder" "count" "I" (.int (Int32.ofNat ct))) (BA : Arv Z h0 v1 k1 .byte (Int32.ofNat cp) vs (.int (0 : Int32))) (BX : Exa Z h0 v1 "[B") (hvl : vs.length = cp) (hcp : cp ≤ 1000) (g_b1 : n0 ≤ b1) (g_v1 : n0 ≤ v1) (hct : ct ≤ cp) (hcT : ct ≤ 256) (OZ : Old Z n0 h0) (SC : Sta Z Z.heap "java/lang/String" "COMPACT_STRINGS" "Z" (.int zc)) (hzc : ¬ zc = (0 : Int32)) :
    MetFree l (⟨"java/lang/StringBuilder", "toString", "()Ljava/lang/String;"⟩ : MethodName) (head1 (Jvm.Cond.code (⟨"java/lang/StringBuilder", "toString", "()Ljava/lang/String;"⟩ : MethodName) jdk_67_method_42_code 1 (some (.object "java/lang/String")) :: ws) ({ frames := 5, cells := 2, slots := 260, locals := 140 } : Room)) (fun a U => a = #[(.ref b1)] ∧ Z.Warmed39 U.vm ∧ U.heap = h0) (fun _ _ _ _ _ => True) (fun _ U o U' => ∃ v L, o = .returned v ∧ QToS Z b1 v1 k1 cp ct vs zc h0 n0 v U'.heap L ∧ FrameEnd U o U' L ({ frames := 5, cells := 2, slots := 260, locals := 140 } : Room).cells ({ frames := 5, cells := 2, slots := 260, locals := 140 } : Room).slots) := by
  refine MetFree.of_bodySF (plainFor_of_name pn_java_lang_StringBuilder) hisR ?_
  intro p e s m args below meth c s₁ Bd hml0 hP hK
  obtain ⟨rfl, hZ, hh⟩ := hP
  have hx := Bd.exec
  have hby := Bd.bytes
  have hml : c.maxLocals = 1 := hml0
  have hown : s.vm.findClass "java/lang/StringBuilder" = some m.cls := findClass_of_methodNamed Bd.named
  have hnm := (name_of_methodNamed Bd.named Bd.method).1
  have X0 : Stand p l e ({ frames := 5, cells := 2, slots := 260, locals := 140 } : Room) s m #[(.ref b1)] below meth c s₁ [] 0 0 := Stand.of_body Bd
  have e0 : s₁.heap = h0 := by rw [← hh, Bd.state]; rfl
  have N0 := Fr.nil n0
  have pre0 : ∀ t, Steps p.tables e below (s₁.setTop (mkF m 0 #[.val (.ref b1)] [])) t → Steps p.tables e below (s₁.setTop (entryFrame m #[(.ref b1)] 1)) t := fun t k => castTop (ef_ToS m b1) k
  obtain ⟨T203, h203, X203, e203, E203, A203, D203, -, st203⟩ := newO X0 hx hZ hown (hw _ (List.mem_of_getElem? (i := 118) rfl)) (hw _ (List.mem_of_getElem? (i := 6) rfl)) (hw _ (List.mem_of_getElem? (i := 5) rfl)) e0 (g := (mkF m 0 #[.val (.ref b1)] [])) rfl (hb hby d18_0) (by decide) (by decide)
  obtain ⟨b203, g203⟩ : ∃ z, z = h0.size := ⟨_, rfl⟩
  rw [← g203] at A203 D203 st203
  have g_b203 : n0 ≤ b203 := Nat.le_trans Z0 (Nat.le_of_eq g203.symm)
  have sz_b203 : h0.size ≤ b203 := Nat.le_trans (Keep.refl h0 []).1 (Nat.le_of_eq g203.symm)
  have ne_b1_b203 : b1 ≠ b203 := Nat.ne_of_lt (Nat.lt_of_lt_of_le BE.lt (Nat.le_of_eq g203.symm))
  have ne_v1_b203 : v1 ≠ b203 := Nat.ne_of_lt (Nat.lt_of_lt_of_le BA.lt (Nat.le_of_eq g203.symm))
  have Z203 := Nat.le_trans Z0 E203.1
  have K203 := (Keep.refl h0 []).ext E203
  have F203_value : Fld Z h203 b203 "java/lang/String" "value" "[B" .null := D203 (Or.inr (hw _ (List.mem_of_getElem? (i := 8) rfl))) (ty := (.array .byte)) (by decide)
  have F203_coder : Fld Z h203 b203 "java/lang/String" "coder" "B" (.int (0 : Int32)) := D203 (Or.inr (hw _ (List.mem_of_getElem? (i := 9) rfl))) (ty := .byte) (by decide)
  have f204 := (BE.ext E203)
  have f205 := (BV.ext E203)
  have f206 := (BC.ext E203)
  have f207 := (BN.ext E203)
  have f208 := (BA.ext E203)
  have f209 := (BX.ext E203)
  have f210 := (OZ.ext E203)
  obtain ⟨_, _, ⟨T211, L211, k211, n211⟩, -, X211, ⟨Lc211, hQ211, l211, y211, z211⟩, st211⟩ := X203.specialBack hx (y := (⟨"java/lang/String", "<init>", "(Ljava/lang/StringBuilder;)V"⟩ : MethodName)) rfl hown (mvT hZ (hw _ (List.mem_of_getElem? (i := 119) rfl))) (mvT hZ (hw _ (List.mem_of_getElem? (i := 120) rfl))) (mvT hZ (hw _ (List.mem_of_getElem? (i := 122) rfl))) (by decide) (backOf (W := 1) (rmSIB l Z a0 hw [] b203 b1 v1 k1 cp ct vs zc h203 n0 Z203 A203 F203_value F203_coder g_b203 f204 f205 f206 f207 f208 f209 hvl hcp g_b1 g_v1 hct hcT f210 SC hzc) hZ (hw _ (List.mem_of_getElem? (i := 122) rfl)) (hw _ (List.mem_of_getElem? (i := 5) rfl)) (by decide) (by decide)) (g := (mkF m 5 #[.val (.ref b1)] [(.ref b1), (.ref b203), (.ref b203)])) rfl (by rw [hml]; rfl) (Steps.refl _) (a := b203) (argsL := [(.ref b1)]) (rest := [(.ref b203)]) (lenOf pd__Ljava_lang_StringBuilder__V rfl) rfl (by show 2 * 0 + _ ≤ _; exact Nat.le_of_eq rfl) (hb hby d18_5) (fun _ _ => ⟨rfl, e203, (by decide : 1 + 1 ≤ _), (by decide : 4 + 256 ≤ _)⟩)
  dsimp only [Pt.U, Pt.locs, Pt.cells, Pt.slots] at X211 l211 y211 z211 st211 hQ211
  subst l211 y211 z211
  obtain ⟨rfl, N211q, KC211, t2, k2, XX, le2⟩ := hQ211
  have N211 := Fr.app N0 N211q
  have Z211 := Nat.le_trans Z203 KC211.1
  have K211 := K203.trans KC211 (allS (Or.inr sz_b203) all0)
  have pre212 : ∀ t, Steps p.tables e below (T211.setTop (mkF m 8 #[.val (.ref b1)] [(.ref b203)])) t → Steps p.tables e below (s₁.setTop (mkF m 0 #[.val (.ref b1)] [])) t := by
    intro t kt
    show Steps p.tables e below (s₁.setTop (mkF m 0 #[.val (.ref b1)] [])) _
    refine st203 _ ?_
    show Steps p.tables e below (T203.setTop (mkF m 3 #[.val (.ref b1)] [(.ref b203)])) _
    refine XS.dup X203.here hx rfl (hb hby d18_3) rfl rfl ?_
    show Steps p.tables e below (T203.setTop (mkF m 4 #[.val (.ref b1)] [(.ref b203), (.ref b203)])) _
    refine XS.aloadN X203.here hx rfl (hb hby d18_4) rfl rfl ?_
    show Steps p.tables e below (T203.setTop (mkF m 5 #[.val (.ref b1)] [(.ref b1), (.ref b203), (.ref b203)])) _
    refine st211.trans ?_
    exact kt
  obtain ⟨fs, hr, hrun, hended, hW, hsame⟩ := X211.leave (v := some (.ref b203)) (fun h => by rw [Bd.returns] at h; cases h)
  refine ⟨_, _, (pre0 _ (pre212 _ ?_)), hrun, hended, _, _, rfl, ?_, ⟨_, rfl⟩, hW, hsame.mono (by decide) (by decide)⟩
  · show Steps p.tables e below (T211.setTop (mkF m 8 #[.val (.ref b1)] [(.ref b203)])) _
    exact retOut X211 hx (t := (.object "java/lang/String")) Bd.returns rfl (Or.inr (Or.inr (Or.inr (Or.inr ⟨rfl, rfl, rfl⟩)))) (hb hby d18_8) hr
  · show QToS Z b1 v1 k1 cp ct vs zc h0 n0 _ T211.heap _
    exact ⟨b203, rfl, N211, own_ext K211, sz_b203, t2, k2, XX, by have := E203.1; omega⟩
theorem ef_SBB (m : MethodId) (x0 : Addr) (x1 : Addr) (x2 : Int32) : entryFrame m #[(.ref x0), (.ref x1), (.int x2)] 3 = mkF m 0 #[.val (.ref x0), .val (.ref x1), .val (.int x2)] [] := by (first | (simp [entryFrame, mkF, argsToLocals, Value.category]; done) | rfl)
def QSBB (Z : State) (x1 : Addr) (t1 : Addr) (h0 : Heap) (n0 : Nat) (v : Option Value) (h : Heap) (L : List Loc) : Prop := v = none ∧ Fr n0 L ∧ Keep h0 h [x1] ∧ Exa Z h x1 "java/lang/String" ∧ Fld Z h x1 "java/lang/String" "value" "[B" (.ref t1) ∧ Fld Z h x1 "java/lang/String" "coder" "B" (.int (0 : Int32))
theorem d39_0 : decode jdk_42_method_151_code 0 = .ok (.aload_n 0, 1) := by decide +kernel
theorem d39_1 : decode jdk_42_method_151_code 1 = .ok (.invokespecial 1, 3) := by decide +kernel
theorem d39_4 : decode jdk_42_method_151_code 4 = .ok (.aload_n 0, 1) := by decide +kernel
theorem d39_5 : decode jdk_42_method_151_code 5 = .ok (.aload_n 1, 1) := by decide +kernel
theorem d39_6 : decode jdk_42_method_151_code 6 = .ok (.putfield 9, 3) := by decide +kernel
theorem d39_9 : decode jdk_42_method_151_code 9 = .ok (.aload_n 0, 1) := by decide +kernel
theorem d39_10 : decode jdk_42_method_151_code 10 = .ok (.iload_n 2, 1) := by decide +kernel
theorem d39_11 : decode jdk_42_method_151_code 11 = .ok (.putfield 15, 3) := by decide +kernel
theorem d39_14 : decode jdk_42_method_151_code 14 = .ok (.return_, 1) := by decide +kernel
set_option maxRecDepth 65536 in
set_option maxHeartbeats 40000000 in
theorem rmSBB (l : Launch) (Z : State) (a0 : Array Value) (hw : ∀ d ∈ tables_1, d.before a0 Z = true) (ws : List Jvm.Cond) (x1 : Addr) (t1 : Addr) (h0 : Heap) (n0 : Nat) (Z0 : n0 ≤ h0.size) (XE : Exa Z h0 x1 "java/lang/String") (XV0 : Fld Z h0 x1 "java/lang/String" "value" "[B" .null) (XC0 : Fld Z h0 x1 "java/lang/String" "coder" "B" (.int (0 : Int32))) (g_x1 : n0 ≤ x1) :
    MetFree l (⟨"java/lang/String", "<init>", "([BB)V"⟩ : MethodName) (head1 (Jvm.Cond.code (⟨"java/lang/String", "<init>", "([BB)V"⟩ : MethodName) jdk_42_method_151_code 3 none :: ws) ({ frames := 1, cells := 0, slots := 0, locals := 12 } : Room)) (fun a U => a = #[(.ref x1), (.ref t1), (.int (0 : Int32))] ∧ Z.Warmed39 U.vm ∧ U.heap = h0) (fun _ _ _ _ _ => True) (fun _ U o U' => ∃ v L, o = .returned v ∧ QSBB Z x1 t1 h0 n0 v U'.heap L ∧ FrameEnd U o U' L ({ frames := 1, cells := 0, slots := 0, locals := 12 } : Room).cells ({ frames := 1, cells := 0, slots := 0, locals := 12 } : Room).slots) := by
  refine MetFree.of_bodySF (plainFor_of_name pn_java_lang_String) hisR ?_
  intro p e s m args below meth c s₁ Bd hml0 hP hK
  obtain ⟨rfl, hZ, hh⟩ := hP
  have hx := Bd.exec
  have hby := Bd.bytes
  have hml : c.maxLocals = 3 := hml0
  have hown : s.vm.findClass "java/lang/String" = some m.cls := findClass_of_methodNamed Bd.named
  have hnm := (name_of_methodNamed Bd.named Bd.method).1
  have X0 : Stand p l e ({ frames := 1, cells := 0, slots := 0, locals := 12 } : Room) s m #[(.ref x1), (.ref t1), (.int (0 : Int32))] below meth c s₁ [] 0 0 := Stand.of_body Bd
  have e0 : s₁.heap = h0 := by rw [← hh, Bd.state]; rfl
  have N0 := Fr.nil n0
  have pre0 : ∀ t, Steps p.tables e below (s₁.setTop (mkF m 0 #[.val (.ref x1), .val (.ref t1), .val (.int (0 : Int32))] [])) t → Steps p.tables e below (s₁.setTop (entryFrame m #[(.ref x1), (.ref t1), (.int (0 : Int32))] 3)) t := fun t k => castTop (ef_SBB m x1 t1 (0 : Int32)) k
  have mem_x1 : x1 ∈ [x1] := List.mem_of_getElem? (i := 0) rfl
  obtain ⟨T213, X213, e213, st213⟩ := initO X0 hx hZ hown (hw _ (List.mem_of_getElem? (i := 126) rfl)) (hw _ (List.mem_of_getElem? (i := 16) rfl)) (hw _ (List.mem_of_getElem? (i := 17) rfl)) e0 (g := (mkF m 1 #[.val (.ref x1), .val (.ref t1), .val (.int (0 : Int32))] [(.ref x1)])) rfl (by rw [hml]; rfl) rfl (hb hby d39_1) (by decide) (W := 0) (by show 2 * 0 + _ ≤ _; exact Nat.le_of_eq rfl) (by decide)
  obtain ⟨T214, h214, X214, e214, W214, st214⟩ := putF X213 hx hZ hown (host := "") (Or.inl (hw _ (List.mem_of_getElem? (i := 54) rfl))) Via.refl e213 XV0 XE (Or.inr ⟨(hw _ (List.mem_of_getElem? (i := 8) rfl)), rfl, hnm⟩) (hw _ (List.mem_of_getElem? (i := 6) rfl)) (ty := (.array .byte)) (by decide) rfl rfl (g := (mkF m 6 #[.val (.ref x1), .val (.ref t1), .val (.int (0 : Int32))] [(.ref t1), (.ref x1)])) rfl rfl (hb hby d39_6)
  have N214 := Fr.snoc X214 N0 g_x1
  have Z214 := Nat.le_trans Z0 (Keep.of_wr W214).1
  have K214 := (Keep.refl h0 [x1]).wr W214 (Or.inl mem_x1)
  have Fw214 := XV0.same W214
  have f215 := (XC0.other W214 (Or.inr (slot_ne (Or.inr (hw _ (List.mem_of_getElem? (i := 9) rfl))) (Or.inr (hw _ (List.mem_of_getElem? (i := 8) rfl))) (by decide) (t := .byte) (t' := (.array .byte)) (by decide) (by decide))))
  have f216 := (XE.wr W214)
  obtain ⟨T217, h217, X217, e217, W217, st217⟩ := putFN X214 hx hZ hown (hw _ (List.mem_of_getElem? (i := 61) rfl)) Via.refl e214 f215 f216 (Or.inr ⟨(hw _ (List.mem_of_getElem? (i := 9) rfl)), rfl, hnm⟩) (hw _ (List.mem_of_getElem? (i := 6) rfl)) (ty := .byte) (v' := (.int (0 : Int32))) (by decide) rfl rfl (g := (mkF m 11 #[.val (.ref x1), .val (.ref t1), .val (.int (0 : Int32))] [(.int (0 : Int32)), (.ref x1)])) rfl rfl (hb hby d39_11)
  have N217 := Fr.snoc X217 N214 g_x1
  have Z217 := Nat.le_trans Z214 (Keep.of_wr W217).1
  have K217 := K214.wr W217 (Or.inl mem_x1)
  have Fw217 := f215.same W217
  have f218 := (f216.wr W217)
  have f219 := (Fw214.other W217 (Or.inr (slot_ne (Or.inr (hw _ (List.mem_of_getElem? (i := 8) rfl))) (Or.inr (hw _ (List.mem_of_getElem? (i := 9) rfl))) (by decide) (t := (.array .byte)) (t' := .byte) (by decide) (by decide))))
  have pre220 : ∀ t, Steps p.tables e below (T217.setTop (mkF m 14 #[.val (.ref x1), .val (.ref t1), .val (.int (0 : Int32))] [])) t → Steps p.tables e below (s₁.setTop (mkF m 0 #[.val (.ref x1), .val (.ref t1), .val (.int (0 : Int32))] [])) t := by
    intro t kt
    show Steps p.tables e below (s₁.setTop (mkF m 0 #[.val (.ref x1), .val (.ref t1), .val (.int (0 : Int32))] [])) _
    refine XS.aloadN X0.here hx rfl (hb hby d39_0) rfl rfl ?_
    show Steps p.tables e below (s₁.setTop (mkF m 1 #[.val (.ref x1), .val (.ref t1), .val (.int (0 : Int32))] [(.ref x1)])) _
    refine st213 _ ?_
    show Steps p.tables e below (T213.setTop (mkF m 4 #[.val (.ref x1), .val (.ref t1), .val (.int (0 : Int32))] [])) _
    refine XS.aloadN X213.here hx rfl (hb hby d39_4) rfl rfl ?_
    show Steps p.tables e below (T213.setTop (mkF m 5 #[.val (.ref x1), .val (.ref t1), .val (.int (0 : Int32))] [(.ref x1)])) _
    refine XS.aloadN X213.here hx rfl (hb hby d39_5) rfl rfl ?_
    show Steps p.tables e below (T213.setTop (mkF m 6 #[.val (.ref x1), .val (.ref t1), .val (.int (0 : Int32))] [(.ref t1), (.ref x1)])) _
    refine st214 _ ?_
    show Steps p.tables e below (T214.setTop (mkF m 9 #[.val (.ref x1), .val (.ref t1), .val (.int (0 : Int32))] [])) _
    refine XS.aloadN X214.here hx rfl (hb hby d39_9) rfl rfl ?_
    show Steps p.tables e below (T214.setTop (mkF m 10 #[.val (.ref x1), .val (.ref t1), .val (.int (0 : Int32))] [(.ref x1)])) _
    refine XS.iloadN X214.here hx rfl (hb hby d39_10) rfl ?_
    show Steps p.tables e below (T214.setTop (mkF m 11 #[.val (.ref x1), .val (.ref t1), .val (.int (0 : Int32))] [(.int (0 : Int32)), (.ref x1)])) _
    refine st217 _ ?_
    exact kt
  obtain ⟨fs, hr, hrun, hended, hW, hsame⟩ := X217.leave (v := none) (fun _ => rfl)
  refine ⟨_, _, (pre0 _ (pre220 _ ?_)), hrun, hended, _, _, rfl, ?_, ⟨_, rfl⟩, hW, hsame.mono (by decide) (by decide)⟩
  · show Steps p.tables e below (T217.setTop (mkF m 14 #[.val (.ref x1), .val (.ref t1), .val (.int (0 : Int32))] [])) _
    exact X217.returnOut hx Bd.returns (hb hby d39_14) hr
  · show QSBB Z x1 t1 h0 n0 _ T217.heap _
    rw [e217]
    exact ⟨rfl, N217, K217, f218, f219, Fw217⟩
theorem ef_RCR (m : MethodId) (x0 : Addr) (x1 : Int32) (x2 : Int32) (x3 : Int32) : entryFrame m #[(.ref x0), (.int x1), (.int x2), (.int x3)] 4 = mkF m 0 #[.val (.ref x0), .val (.int x1), .val (.int x2), .val (.int x3)] [] := by (first | (simp [entryFrame, mkF, argsToLocals, Value.category]; done) | rfl)
def QRCR (Z : State) (v1 : Addr) (k1 : ClassId) (lm : Nat) (h0 : Heap) (n0 : Nat) (v : Option Value) (h : Heap) (L : List Loc) : Prop := v = none ∧ Fr n0 L ∧ Keep h0 h [v1] ∧ Arv Z h v1 k1 .byte (Int32.ofNat lm) (List.replicate (lm) (.int (32 : Int32))) (.int (0 : Int32))
theorem d38_0 : decode jdk_42_method_146_code 0 = .ok (.iload_n 3, 1) := by decide +kernel
theorem d38_1 : decode jdk_42_method_146_code 1 = .ok (.iload_n 2, 1) := by decide +kernel
theorem d38_2 : decode jdk_42_method_146_code 2 = .ok (.iload_n 3, 1) := by decide +kernel
theorem d38_3 : decode jdk_42_method_146_code 3 = .ok (.isub, 1) := by decide +kernel
theorem d38_4 : decode jdk_42_method_146_code 4 = .ok (.if_icmp .ge 20, 3) := by decide +kernel
theorem d38_24 : decode jdk_42_method_146_code 24 = .ok (.aload_n 0, 1) := by decide +kernel
theorem d38_25 : decode jdk_42_method_146_code 25 = .ok (.iload_n 1, 1) := by decide +kernel
theorem d38_26 : decode jdk_42_method_146_code 26 = .ok (.aload_n 0, 1) := by decide +kernel
theorem d38_27 : decode jdk_42_method_146_code 27 = .ok (.iload_n 1, 1) := by decide +kernel
theorem d38_28 : decode jdk_42_method_146_code 28 = .ok (.iload_n 3, 1) := by decide +kernel
theorem d38_29 : decode jdk_42_method_146_code 29 = .ok (.iadd, 1) := by decide +kernel
theorem d38_30 : decode jdk_42_method_146_code 30 = .ok (.iload_n 2, 1) := by decide +kernel
theorem d38_31 : decode jdk_42_method_146_code 31 = .ok (.iload_n 3, 1) := by decide +kernel
theorem d38_32 : decode jdk_42_method_146_code 32 = .ok (.isub, 1) := by decide +kernel
theorem d38_33 : decode jdk_42_method_146_code 33 = .ok (.invokestatic 212, 3) := by decide +kernel
theorem d38_36 : decode jdk_42_method_146_code 36 = .ok (.return_, 1) := by decide +kernel
theorem d38_7 : decode jdk_42_method_146_code 7 = .ok (.aload_n 0, 1) := by decide +kernel
theorem d38_8 : decode jdk_42_method_146_code 8 = .ok (.iload_n 1, 1) := by decide +kernel
theorem d38_9 : decode jdk_42_method_146_code 9 = .ok (.aload_n 0, 1) := by decide +kernel
theorem d38_10 : decode jdk_42_method_146_code 10 = .ok (.iload_n 1, 1) := by decide +kernel
theorem d38_11 : decode jdk_42_method_146_code 11 = .ok (.iload_n 3, 1) := by decide +kernel
theorem d38_12 : decode jdk_42_method_146_code 12 = .ok (.iadd, 1) := by decide +kernel
theorem d38_13 : decode jdk_42_method_146_code 13 = .ok (.iload_n 3, 1) := by decide +kernel
theorem d38_14 : decode jdk_42_method_146_code 14 = .ok (.invokestatic 212, 3) := by decide +kernel
theorem d38_17 : decode jdk_42_method_146_code 17 = .ok (.iload_n 3, 1) := by decide +kernel
theorem d38_18 : decode jdk_42_method_146_code 18 = .ok (.iconst 1, 1) := by decide +kernel
theorem d38_19 : decode jdk_42_method_146_code 19 = .ok (.ishl, 1) := by decide +kernel
theorem d38_20 : decode jdk_42_method_146_code 20 = .ok (.istore_n 3, 1) := by decide +kernel
theorem d38_21 : decode jdk_42_method_146_code 21 = .ok (.goto (-21), 3) := by decide +kernel
set_option maxRecDepth 65536 in
set_option maxHeartbeats 40000000 in
theorem rmRCR (l : Launch) (Z : State) (a0 : Array Value) (hw : ∀ d ∈ tables_1, d.before a0 Z = true) (ws : List Jvm.Cond) (v1 : Addr) (k1 : ClassId) (lm : Nat) (h0 : Heap) (n0 : Nat) (Z0 : n0 ≤ h0.size) (BA : Arv Z h0 v1 k1 .byte (Int32.ofNat lm) (List.replicate 4 (.int (32 : Int32)) ++ List.replicate (lm - 4) (.int (0 : Int32))) (.int (0 : Int32))) (g_v1 : n0 ≤ v1) (hl8 : 8 ≤ lm) (hlM : lm ≤ 160) :
    MetFree l (⟨"java/lang/String", "repeatCopyRest", "([BIII)V"⟩ : MethodName) (head1 (Jvm.Cond.code (⟨"java/lang/String", "repeatCopyRest", "([BIII)V"⟩ : MethodName) jdk_42_method_146_code 4 none :: ws) ({ frames := 1, cells := 0, slots := 0, locals := 40 } : Room)) (fun a U => a = #[(.ref v1), (.int (0 : Int32)), (.int (Int32.ofNat lm)), (.int (4 : Int32))] ∧ Z.Warmed39 U.vm ∧ U.heap = h0) (fun _ _ _ _ _ => True) (fun _ U o U' => ∃ v L, o = .returned v ∧ QRCR Z v1 k1 lm h0 n0 v U'.heap L ∧ FrameEnd U o U' L ({ frames := 1, cells := 0, slots := 0, locals := 40 } : Room).cells ({ frames := 1, cells := 0, slots := 0, locals := 40 } : Room).slots) := by
  refine MetFree.of_bodySF (plainFor_of_name pn_java_lang_String) hisR ?_
  intro p e s m args below meth c s₁ Bd hml0 hP hK
  obtain ⟨rfl, hZ, hh⟩ := hP
  have hx := Bd.exec
  have hby := Bd.bytes
  have hml : c.maxLocals = 4 := hml0
  have hown : s.vm.findClass "java/lang/String" = some m.cls := findClass_of_methodNamed Bd.named
  have hnm := (name_of_methodNamed Bd.named Bd.method).1
  have X0 : Stand p l e ({ frames := 1, cells := 0, slots := 0, locals := 40 } : Room) s m #[(.ref v1), (.int (0 : Int32)), (.int (Int32.ofNat lm)), (.int (4 : Int32))] below meth c s₁ [] 0 0 := Stand.of_body Bd
  have e0 : s₁.heap = h0 := by rw [← hh, Bd.state]; rfl
  have N0 := Fr.nil n0
  have pre0 : ∀ t, Steps p.tables e below (s₁.setTop (mkF m 0 #[.val (.ref v1), .val (.int (0 : Int32)), .val (.int (Int32.ofNat lm)), .val (.int (4 : Int32))] [])) t → Steps p.tables e below (s₁.setTop (entryFrame m #[(.ref v1), (.int (0 : Int32)), (.int (Int32.ofNat lm)), (.int (4 : Int32))] 4)) t := fun t k => castTop (ef_RCR m v1 (0 : Int32) (Int32.ofNat lm) (4 : Int32)) k
  have mem_v1 : v1 ∈ [v1] := List.mem_of_getElem? (i := 0) rfl
  have pre221 : ∀ t, Steps p.tables e below (s₁.setTop (mkF m 4 #[.val (.ref v1), .val (.int (0 : Int32)), .val (.int (Int32.ofNat lm)), .val (.int (4 : Int32))] [(.int (Int32.ofNat (lm - 4))), (.int (4 : Int32))])) t → Steps p.tables e below (s₁.setTop (mkF m 0 #[.val (.ref v1), .val (.int (0 : Int32)), .val (.int (Int32.ofNat lm)), .val (.int (4 : Int32))] [])) t := by
    intro t kt
    show Steps p.tables e below (s₁.setTop (mkF m 0 #[.val (.ref v1), .val (.int (0 : Int32)), .val (.int (Int32.ofNat lm)), .val (.int (4 : Int32))] [])) _
    refine XS.iloadN X0.here hx rfl (hb hby d38_0) rfl ?_
    show Steps p.tables e below (s₁.setTop (mkF m 1 #[.val (.ref v1), .val (.int (0 : Int32)), .val (.int (Int32.ofNat lm)), .val (.int (4 : Int32))] [(.int (4 : Int32))])) _
    refine XS.iloadN X0.here hx rfl (hb hby d38_1) rfl ?_
    show Steps p.tables e below (s₁.setTop (mkF m 2 #[.val (.ref v1), .val (.int (0 : Int32)), .val (.int (Int32.ofNat lm)), .val (.int (4 : Int32))] [(.int (Int32.ofNat lm)), (.int (4 : Int32))])) _
    refine XS.iloadN X0.here hx rfl (hb hby d38_2) rfl ?_
    show Steps p.tables e below (s₁.setTop (mkF m 3 #[.val (.ref v1), .val (.int (0 : Int32)), .val (.int (Int32.ofNat lm)), .val (.int (4 : Int32))] [(.int (4 : Int32)), (.int (Int32.ofNat lm)), (.int (4 : Int32))])) _
    refine XS.isub X0.here hx rfl (hb hby d38_3) rfl ?_
    show Steps p.tables e below (s₁.setTop (mkF m 4 #[.val (.ref v1), .val (.int (0 : Int32)), .val (.int (Int32.ofNat lm)), .val (.int (4 : Int32))] [(.int ((Int32.ofNat lm) - (4 : Int32))), (.int (4 : Int32))])) _
    rw [show Int32.ofNat lm - (4 : Int32) = Int32.ofNat (lm - 4) from own_sub (b := 4) (by omega) (by omega)]
    exact kt
  by_cases cc4 : 4 < lm - 4
  · skip
    obtain ⟨T224, h224, L224, X224, e224, N224, KC224, V224, st224⟩ := own_cp X0 hx hZ hown (hw _ (List.mem_of_getElem? (i := 111) rfl)) (hw _ (List.mem_of_getElem? (i := 94) rfl)) (hw _ (List.mem_of_getElem? (i := 92) rfl)) (hw _ (List.mem_of_getElem? (i := 93) rfl)) e0 (lm) (lm) (0) (4) (4) BA BA (by simp; omega) (by simp; omega) (by omega) (by omega) (by omega) (by omega) N0 g_v1 (g := (mkF m 14 #[.val (.ref v1), .val (.int (0 : Int32)), .val (.int (Int32.ofNat lm)), .val (.int (4 : Int32))] [(.int (4 : Int32)), (.int (4 : Int32)), (.ref v1), (.int (0 : Int32)), (.ref v1)])) rfl (by rw [hml]; rfl) rfl (hb hby d38_14) (by decide) (W := 0) (by show 2 * 0 + _ ≤ _; exact Nat.le_of_eq rfl) (by decide)
    have Z224 := Nat.le_trans Z0 KC224.1
    have K224 := (Keep.refl h0 [v1]).trans KC224 (allS (Or.inl mem_v1) all0)
    have VR4 : Arv Z h224 v1 k1 .byte (Int32.ofNat lm) (List.replicate 8 (.int (32 : Int32)) ++ List.replicate (lm - 8) (.int (0 : Int32))) (.int (0 : Int32)) := by have q := V224; rw [own_dbl (by omega)] at q; exact q
    have pre225 : ∀ t, Steps p.tables e below (T224.setTop (mkF m 4 #[.val (.ref v1), .val (.int (0 : Int32)), .val (.int (Int32.ofNat lm)), .val (.int (8 : Int32))] [(.int (Int32.ofNat (lm - 8))), (.int (8 : Int32))])) t → Steps p.tables e below (s₁.setTop (mkF m 4 #[.val (.ref v1), .val (.int (0 : Int32)), .val (.int (Int32.ofNat lm)), .val (.int (4 : Int32))] [(.int (Int32.ofNat (lm - 4))), (.int (4 : Int32))])) t := by
      intro t kt
      show Steps p.tables e below (s₁.setTop (mkF m 4 #[.val (.ref v1), .val (.int (0 : Int32)), .val (.int (Int32.ofNat lm)), .val (.int (4 : Int32))] [(.int (Int32.ofNat (lm - 4))), (.int (4 : Int32))])) _
      refine XS.icmpNo X0.here hx rfl (hb hby d38_4) rfl (tlt (by rw [show (4 : Int32) = Int32.ofNat 4 from rfl, own_lt (by omega) (by omega)]; omega : (4 : Int32) < (Int32.ofNat (lm - 4)))).2.1 ?_
      show Steps p.tables e below (s₁.setTop (mkF m 7 #[.val (.ref v1), .val (.int (0 : Int32)), .val (.int (Int32.ofNat lm)), .val (.int (4 : Int32))] [])) _
      refine XS.aloadN X0.here hx rfl (hb hby d38_7) rfl rfl ?_
      show Steps p.tables e below (s₁.setTop (mkF m 8 #[.val (.ref v1), .val (.int (0 : Int32)), .val (.int (Int32.ofNat lm)), .val (.int (4 : Int32))] [(.ref v1)])) _
      refine XS.iloadN X0.here hx rfl (hb hby d38_8) rfl ?_
      show Steps p.tables e below (s₁.setTop (mkF m 9 #[.val (.ref v1), .val (.int (0 : Int32)), .val (.int (Int32.ofNat lm)), .val (.int (4 : Int32))] [(.int (0 : Int32)), (.ref v1)])) _
      refine XS.aloadN X0.here hx rfl (hb hby d38_9) rfl rfl ?_
      show Steps p.tables e below (s₁.setTop (mkF m 10 #[.val (.ref v1), .val (.int (0 : Int32)), .val (.int (Int32.ofNat lm)), .val (.int (4 : Int32))] [(.ref v1), (.int (0 : Int32)), (.ref v1)])) _
      refine XS.iloadN X0.here hx rfl (hb hby d38_10) rfl ?_
      show Steps p.tables e below (s₁.setTop (mkF m 11 #[.val (.ref v1), .val (.int (0 : Int32)), .val (.int (Int32.ofNat lm)), .val (.int (4 : Int32))] [(.int (0 : Int32)), (.ref v1), (.int (0 : Int32)), (.ref v1)])) _
      refine XS.iloadN X0.here hx rfl (hb hby d38_11) rfl ?_
      show Steps p.tables e below (s₁.setTop (mkF m 12 #[.val (.ref v1), .val (.int (0 : Int32)), .val (.int (Int32.ofNat lm)), .val (.int (4 : Int32))] [(.int (4 : Int32)), (.int (0 : Int32)), (.ref v1), (.int (0 : Int32)), (.ref v1)])) _
      refine XS.iadd X0.here hx rfl (hb hby d38_12) rfl ?_
      show Steps p.tables e below (s₁.setTop (mkF m 13 #[.val (.ref v1), .val (.int (0 : Int32)), .val (.int (Int32.ofNat lm)), .val (.int (4 : Int32))] [(.int ((0 : Int32) + (4 : Int32))), (.ref v1), (.int (0 : Int32)), (.ref v1)])) _
      refine XS.iloadN X0.here hx rfl (hb hby d38_13) rfl ?_
      show Steps p.tables e below (s₁.setTop (mkF m 14 #[.val (.ref v1), .val (.int (0 : Int32)), .val (.int (Int32.ofNat lm)), .val (.int (4 : Int32))] [(.int (4 : Int32)), (.int ((0 : Int32) + (4 : Int32))), (.ref v1), (.int (0 : Int32)), (.ref v1)])) _
      rw [show (0 : Int32) + (4 : Int32) = (4 : Int32) from by decide]
      show Steps p.tables e below (s₁.setTop (mkF m 14 #[.val (.ref v1), .val (.int (0 : Int32)), .val (.int (Int32.ofNat lm)), .val (.int (4 : Int32))] [(.int (4 : Int32)), (.int (4 : Int32)), (.ref v1), (.int (0 : Int32)), (.ref v1)])) _
      refine st224 _ ?_
      show Steps p.tables e below (T224.setTop (mkF m 17 #[.val (.ref v1), .val (.int (0 : Int32)), .val (.int (Int32.ofNat lm)), .val (.int (4 : Int32))] [])) _
      refine XS.iloadN X224.here hx rfl (hb hby d38_17) rfl ?_
      show Steps p.tables e below (T224.setTop (mkF m 18 #[.val (.ref v1), .val (.int (0 : Int32)), .val (.int (Int32.ofNat lm)), .val (.int (4 : Int32))] [(.int (4 : Int32))])) _
      refine XS.iconst X224.here hx rfl (hb hby d38_18) ?_
      show Steps p.tables e below (T224.setTop (mkF m 19 #[.val (.ref v1), .val (.int (0 : Int32)), .val (.int (Int32.ofNat lm)), .val (.int (4 : Int32))] [(.int (1 : Int32)), (.int (4 : Int32))])) _
      refine XS.ishl X224.here hx rfl (hb hby d38_19) rfl ?_
      show Steps p.tables e below (T224.setTop (mkF m 20 #[.val (.ref v1), .val (.int (0 : Int32)), .val (.int (Int32.ofNat lm)), .val (.int (4 : Int32))] [(.int ((4 : Int32) <<< ((1 : Int32) &&& 31)))])) _
      rw [show ((4 : Int32) <<< ((1 : Int32) &&& 31)) = (8 : Int32) from by decide]
      show Steps p.tables e below (T224.setTop (mkF m 20 #[.val (.ref v1), .val (.int (0 : Int32)), .val (.int (Int32.ofNat lm)), .val (.int (4 : Int32))] [(.int (8 : Int32))])) _
      refine XS.istoreN X224.here hx rfl (hb hby d38_20) rfl (l' := #[.val (.ref v1), .val (.int (0 : Int32)), .val (.int (Int32.ofNat lm)), .val (.int (8 : Int32))]) rfl ?_
      show Steps p.tables e below (T224.setTop (mkF m 21 #[.val (.ref v1), .val (.int (0 : Int32)), .val (.int (Int32.ofNat lm)), .val (.int (8 : Int32))] [])) _
      refine XS.goto X224.here hx rfl (pc0 := 21) (pc' := 0) rfl (hb hby d38_21) (by decide) (by decide) ?_
      show Steps p.tables e below (T224.setTop (mkF m 0 #[.val (.ref v1), .val (.int (0 : Int32)), .val (.int (Int32.ofNat lm)), .val (.int (8 : Int32))] [])) _
      refine XS.iloadN X224.here hx rfl (hb hby d38_0) rfl ?_
      show Steps p.tables e below (T224.setTop (mkF m 1 #[.val (.ref v1), .val (.int (0 : Int32)), .val (.int (Int32.ofNat lm)), .val (.int (8 : Int32))] [(.int (8 : Int32))])) _
      refine XS.iloadN X224.here hx rfl (hb hby d38_1) rfl ?_
      show Steps p.tables e below (T224.setTop (mkF m 2 #[.val (.ref v1), .val (.int (0 : Int32)), .val (.int (Int32.ofNat lm)), .val (.int (8 : Int32))] [(.int (Int32.ofNat lm)), (.int (8 : Int32))])) _
      refine XS.iloadN X224.here hx rfl (hb hby d38_2) rfl ?_
      show Steps p.tables e below (T224.setTop (mkF m 3 #[.val (.ref v1), .val (.int (0 : Int32)), .val (.int (Int32.ofNat lm)), .val (.int (8 : Int32))] [(.int (8 : Int32)), (.int (Int32.ofNat lm)), (.int (8 : Int32))])) _
      refine XS.isub X224.here hx rfl (hb hby d38_3) rfl ?_
      show Steps p.tables e below (T224.setTop (mkF m 4 #[.val (.ref v1), .val (.int (0 : Int32)), .val (.int (Int32.ofNat lm)), .val (.int (8 : Int32))] [(.int ((Int32.ofNat lm) - (8 : Int32))), (.int (8 : Int32))])) _
      rw [show Int32.ofNat lm - (8 : Int32) = Int32.ofNat (lm - 8) from own_sub (b := 8) (by omega) (by omega)]
      exact kt
    by_cases cc8 : 8 < lm - 8
    · skip
      obtain ⟨T228, h228, L228, X228, e228, N228, KC228, V228, st228⟩ := own_cp X224 hx hZ hown (hw _ (List.mem_of_getElem? (i := 111) rfl)) (hw _ (List.mem_of_getElem? (i := 94) rfl)) (hw _ (List.mem_of_getElem? (i := 92) rfl)) (hw _ (List.mem_of_getElem? (i := 93) rfl)) e224 (lm) (lm) (0) (8) (8) VR4 VR4 (by simp; omega) (by simp; omega) (by omega) (by omega) (by omega) (by omega) N224 g_v1 (g := (mkF m 14 #[.val (.ref v1), .val (.int (0 : Int32)), .val (.int (Int32.ofNat lm)), .val (.int (8 : Int32))] [(.int (8 : Int32)), (.int (8 : Int32)), (.ref v1), (.int (0 : Int32)), (.ref v1)])) rfl (by rw [hml]; rfl) rfl (hb hby d38_14) (by decide) (W := 0) (by show 2 * 0 + _ ≤ _; exact Nat.le_of_eq rfl) (by decide)
      have Z228 := Nat.le_trans Z224 KC228.1
      have K228 := K224.trans KC228 (allS (Or.inl mem_v1) all0)
      have VR8 : Arv Z h228 v1 k1 .byte (Int32.ofNat lm) (List.replicate 16 (.int (32 : Int32)) ++ List.replicate (lm - 16) (.int (0 : Int32))) (.int (0 : Int32)) := by have q := V228; rw [own_dbl (by omega)] at q; exact q
      have pre229 : ∀ t, Steps p.tables e below (T228.setTop (mkF m 4 #[.val (.ref v1), .val (.int (0 : Int32)), .val (.int (Int32.ofNat lm)), .val (.int (16 : Int32))] [(.int (Int32.ofNat (lm - 16))), (.int (16 : Int32))])) t → Steps p.tables e below (T224.setTop (mkF m 4 #[.val (.ref v1), .val (.int (0 : Int32)), .val (.int (Int32.ofNat lm)), .val (.int (8 : Int32))] [(.int (Int32.ofNat (lm - 8))), (.int (8 : Int32))])) t := by
        intro t kt
        show Steps p.tables e below (T224.setTop (mkF m 4 #[.val (.ref v1), .val (.int (0 : Int32)), .val (.int (Int32.ofNat lm)), .val (.int (8 : Int32))] [(.int (Int32.ofNat (lm - 8))), (.int (8 : Int32))])) _
        refine XS.icmpNo X224.here hx rfl (hb hby d38_4) rfl (tlt (by rw [show (8 : Int32) = Int32.ofNat 8 from rfl, own_lt (by omega) (by omega)]; omega : (8 : Int32) < (Int32.ofNat (lm - 8)))).2.1 ?_
        show Steps p.tables e below (T224.setTop (mkF m 7 #[.val (.ref v1), .val (.int (0 : Int32)), .val (.int (Int32.ofNat lm)), .val (.int (8 : Int32))] [])) _
        refine XS.aloadN X224.here hx rfl (hb hby d38_7) rfl rfl ?_
        show Steps p.tables e below (T224.setTop (mkF m 8 #[.val (.ref v1), .val (.int (0 : Int32)), .val (.int (Int32.ofNat lm)), .val (.int (8 : Int32))] [(.ref v1)])) _
        refine XS.iloadN X224.here hx rfl (hb hby d38_8) rfl ?_
        show Steps p.tables e below (T224.setTop (mkF m 9 #[.val (.ref v1), .val (.int (0 : Int32)), .val (.int (Int32.ofNat lm)), .val (.int (8 : Int32))] [(.int (0 : Int32)), (.ref v1)])) _
        refine XS.aloadN X224.here hx rfl (hb hby d38_9) rfl rfl ?_
        show Steps p.tables e below (T224.setTop (mkF m 10 #[.val (.ref v1), .val (.int (0 : Int32)), .val (.int (Int32.ofNat lm)), .val (.int (8 : Int32))] [(.ref v1), (.int (0 : Int32)), (.ref v1)])) _
        refine XS.iloadN X224.here hx rfl (hb hby d38_10) rfl ?_
        show Steps p.tables e below (T224.setTop (mkF m 11 #[.val (.ref v1), .val (.int (0 : Int32)), .val (.int (Int32.ofNat lm)), .val (.int (8 : Int32))] [(.int (0 : Int32)), (.ref v1), (.int (0 : Int32)), (.ref v1)])) _
        refine XS.iloadN X224.here hx rfl (hb hby d38_11) rfl ?_
        show Steps p.tables e below (T224.setTop (mkF m 12 #[.val (.ref v1), .val (.int (0 : Int32)), .val (.int (Int32.ofNat lm)), .val (.int (8 : Int32))] [(.int (8 : Int32)), (.int (0 : Int32)), (.ref v1), (.int (0 : Int32)), (.ref v1)])) _
        refine XS.iadd X224.here hx rfl (hb hby d38_12) rfl ?_
        show Steps p.tables e below (T224.setTop (mkF m 13 #[.val (.ref v1), .val (.int (0 : Int32)), .val (.int (Int32.ofNat lm)), .val (.int (8 : Int32))] [(.int ((0 : Int32) + (8 : Int32))), (.ref v1), (.int (0 : Int32)), (.ref v1)])) _
        refine XS.iloadN X224.here hx rfl (hb hby d38_13) rfl ?_
        show Steps p.tables e below (T224.setTop (mkF m 14 #[.val (.ref v1), .val (.int (0 : Int32)), .val (.int (Int32.ofNat lm)), .val (.int (8 : Int32))] [(.int (8 : Int32)), (.int ((0 : Int32) + (8 : Int32))), (.ref v1), (.int (0 : Int32)), (.ref v1)])) _
        rw [show (0 : Int32) + (8 : Int32) = (8 : Int32) from by decide]
        show Steps p.tables e below (T224.setTop (mkF m 14 #[.val (.ref v1), .val (.int (0 : Int32)), .val (.int (Int32.ofNat lm)), .val (.int (8 : Int32))] [(.int (8 : Int32)), (.int (8 : Int32)), (.ref v1), (.int (0 : Int32)), (.ref v1)])) _
        refine st228 _ ?_
        show Steps p.tables e below (T228.setTop (mkF m 17 #[.val (.ref v1), .val (.int (0 : Int32)), .val (.int (Int32.ofNat lm)), .val (.int (8 : Int32))] [])) _
        refine XS.iloadN X228.here hx rfl (hb hby d38_17) rfl ?_
        show Steps p.tables e below (T228.setTop (mkF m 18 #[.val (.ref v1), .val (.int (0 : Int32)), .val (.int (Int32.ofNat lm)), .val (.int (8 : Int32))] [(.int (8 : Int32))])) _
        refine XS.iconst X228.here hx rfl (hb hby d38_18) ?_
        show Steps p.tables e below (T228.setTop (mkF m 19 #[.val (.ref v1), .val (.int (0 : Int32)), .val (.int (Int32.ofNat lm)), .val (.int (8 : Int32))] [(.int (1 : Int32)), (.int (8 : Int32))])) _
        refine XS.ishl X228.here hx rfl (hb hby d38_19) rfl ?_
        show Steps p.tables e below (T228.setTop (mkF m 20 #[.val (.ref v1), .val (.int (0 : Int32)), .val (.int (Int32.ofNat lm)), .val (.int (8 : Int32))] [(.int ((8 : Int32) <<< ((1 : Int32) &&& 31)))])) _
        rw [show ((8 : Int32) <<< ((1 : Int32) &&& 31)) = (16 : Int32) from by decide]
        show Steps p.tables e below (T228.setTop (mkF m 20 #[.val (.ref v1), .val (.int (0 : Int32)), .val (.int (Int32.ofNat lm)), .val (.int (8 : Int32))] [(.int (16 : Int32))])) _
        refine XS.istoreN X228.here hx rfl (hb hby d38_20) rfl (l' := #[.val (.ref v1), .val (.int (0 : Int32)), .val (.int (Int32.ofNat lm)), .val (.int (16 : Int32))]) rfl ?_
        show Steps p.tables e below (T228.setTop (mkF m 21 #[.val (.ref v1), .val (.int (0 : Int32)), .val (.int (Int32.ofNat lm)), .val (.int (16 : Int32))] [])) _
        refine XS.goto X228.here hx rfl (pc0 := 21) (pc' := 0) rfl (hb hby d38_21) (by decide) (by decide) ?_
        show Steps p.tables e below (T228.setTop (mkF m 0 #[.val (.ref v1), .val (.int (0 : Int32)), .val (.int (Int32.ofNat lm)), .val (.int (16 : Int32))] [])) _
        refine XS.iloadN X228.here hx rfl (hb hby d38_0) rfl ?_
        show Steps p.tables e below (T228.setTop (mkF m 1 #[.val (.ref v1), .val (.int (0 : Int32)), .val (.int (Int32.ofNat lm)), .val (.int (16 : Int32))] [(.int (16 : Int32))])) _
        refine XS.iloadN X228.here hx rfl (hb hby d38_1) rfl ?_
        show Steps p.tables e below (T228.setTop (mkF m 2 #[.val (.ref v1), .val (.int (0 : Int32)), .val (.int (Int32.ofNat lm)), .val (.int (16 : Int32))] [(.int (Int32.ofNat lm)), (.int (16 : Int32))])) _
        refine XS.iloadN X228.here hx rfl (hb hby d38_2) rfl ?_
        show Steps p.tables e below (T228.setTop (mkF m 3 #[.val (.ref v1), .val (.int (0 : Int32)), .val (.int (Int32.ofNat lm)), .val (.int (16 : Int32))] [(.int (16 : Int32)), (.int (Int32.ofNat lm)), (.int (16 : Int32))])) _
        refine XS.isub X228.here hx rfl (hb hby d38_3) rfl ?_
        show Steps p.tables e below (T228.setTop (mkF m 4 #[.val (.ref v1), .val (.int (0 : Int32)), .val (.int (Int32.ofNat lm)), .val (.int (16 : Int32))] [(.int ((Int32.ofNat lm) - (16 : Int32))), (.int (16 : Int32))])) _
        rw [show Int32.ofNat lm - (16 : Int32) = Int32.ofNat (lm - 16) from own_sub (b := 16) (by omega) (by omega)]
        exact kt
      by_cases cc16 : 16 < lm - 16
      · skip
        obtain ⟨T232, h232, L232, X232, e232, N232, KC232, V232, st232⟩ := own_cp X228 hx hZ hown (hw _ (List.mem_of_getElem? (i := 111) rfl)) (hw _ (List.mem_of_getElem? (i := 94) rfl)) (hw _ (List.mem_of_getElem? (i := 92) rfl)) (hw _ (List.mem_of_getElem? (i := 93) rfl)) e228 (lm) (lm) (0) (16) (16) VR8 VR8 (by simp; omega) (by simp; omega) (by omega) (by omega) (by omega) (by omega) N228 g_v1 (g := (mkF m 14 #[.val (.ref v1), .val (.int (0 : Int32)), .val (.int (Int32.ofNat lm)), .val (.int (16 : Int32))] [(.int (16 : Int32)), (.int (16 : Int32)), (.ref v1), (.int (0 : Int32)), (.ref v1)])) rfl (by rw [hml]; rfl) rfl (hb hby d38_14) (by decide) (W := 0) (by show 2 * 0 + _ ≤ _; exact Nat.le_of_eq rfl) (by decide)
        have Z232 := Nat.le_trans Z228 KC232.1
        have K232 := K228.trans KC232 (allS (Or.inl mem_v1) all0)
        have VR16 : Arv Z h232 v1 k1 .byte (Int32.ofNat lm) (List.replicate 32 (.int (32 : Int32)) ++ List.replicate (lm - 32) (.int (0 : Int32))) (.int (0 : Int32)) := by have q := V232; rw [own_dbl (by omega)] at q; exact q
        have pre233 : ∀ t, Steps p.tables e below (T232.setTop (mkF m 4 #[.val (.ref v1), .val (.int (0 : Int32)), .val (.int (Int32.ofNat lm)), .val (.int (32 : Int32))] [(.int (Int32.ofNat (lm - 32))), (.int (32 : Int32))])) t → Steps p.tables e below (T228.setTop (mkF m 4 #[.val (.ref v1), .val (.int (0 : Int32)), .val (.int (Int32.ofNat lm)), .val (.int (16 : Int32))] [(.int (Int32.ofNat (lm - 16))), (.int (16 : Int32))])) t := by
          intro t kt
          show Steps p.tables e below (T228.setTop (mkF m 4 #[.val (.ref v1), .val (.int (0 : Int32)), .val (.int (Int32.ofNat lm)), .val (.int (16 : Int32))] [(.int (Int32.ofNat (lm - 16))), (.int (16 : Int32))])) _
          refine XS.icmpNo X228.here hx rfl (hb hby d38_4) rfl (tlt (by rw [show (16 : Int32) = Int32.ofNat 16 from rfl, own_lt (by omega) (by omega)]; omega : (16 : Int32) < (Int32.ofNat (lm - 16)))).2.1 ?_
          show Steps p.tables e below (T228.setTop (mkF m 7 #[.val (.ref v1), .val (.int (0 : Int32)), .val (.int (Int32.ofNat lm)), .val (.int (16 : Int32))] [])) _
          refine XS.aloadN X228.here hx rfl (hb hby d38_7) rfl rfl ?_
          show Steps p.tables e below (T228.setTop (mkF m 8 #[.val (.ref v1), .val (.int (0 : Int32)), .val (.int (Int32.ofNat lm)), .val (.int (16 : Int32))] [(.ref v1)])) _
          refine XS.iloadN X228.here hx rfl (hb hby d38_8) rfl ?_
          show Steps p.tables e below (T228.setTop (mkF m 9 #[.val (.ref v1), .val (.int (0 : Int32)), .val (.int (Int32.ofNat lm)), .val (.int (16 : Int32))] [(.int (0 : Int32)), (.ref v1)])) _
          refine XS.aloadN X228.here hx rfl (hb hby d38_9) rfl rfl ?_
          show Steps p.tables e below (T228.setTop (mkF m 10 #[.val (.ref v1), .val (.int (0 : Int32)), .val (.int (Int32.ofNat lm)), .val (.int (16 : Int32))] [(.ref v1), (.int (0 : Int32)), (.ref v1)])) _
          refine XS.iloadN X228.here hx rfl (hb hby d38_10) rfl ?_
          show Steps p.tables e below (T228.setTop (mkF m 11 #[.val (.ref v1), .val (.int (0 : Int32)), .val (.int (Int32.ofNat lm)), .val (.int (16 : Int32))] [(.int (0 : Int32)), (.ref v1), (.int (0 : Int32)), (.ref v1)])) _
          refine XS.iloadN X228.here hx rfl (hb hby d38_11) rfl ?_
          show Steps p.tables e below (T228.setTop (mkF m 12 #[.val (.ref v1), .val (.int (0 : Int32)), .val (.int (Int32.ofNat lm)), .val (.int (16 : Int32))] [(.int (16 : Int32)), (.int (0 : Int32)), (.ref v1), (.int (0 : Int32)), (.ref v1)])) _
          refine XS.iadd X228.here hx rfl (hb hby d38_12) rfl ?_
          show Steps p.tables e below (T228.setTop (mkF m 13 #[.val (.ref v1), .val (.int (0 : Int32)), .val (.int (Int32.ofNat lm)), .val (.int (16 : Int32))] [(.int ((0 : Int32) + (16 : Int32))), (.ref v1), (.int (0 : Int32)), (.ref v1)])) _
          refine XS.iloadN X228.here hx rfl (hb hby d38_13) rfl ?_
          show Steps p.tables e below (T228.setTop (mkF m 14 #[.val (.ref v1), .val (.int (0 : Int32)), .val (.int (Int32.ofNat lm)), .val (.int (16 : Int32))] [(.int (16 : Int32)), (.int ((0 : Int32) + (16 : Int32))), (.ref v1), (.int (0 : Int32)), (.ref v1)])) _
          rw [show (0 : Int32) + (16 : Int32) = (16 : Int32) from by decide]
          show Steps p.tables e below (T228.setTop (mkF m 14 #[.val (.ref v1), .val (.int (0 : Int32)), .val (.int (Int32.ofNat lm)), .val (.int (16 : Int32))] [(.int (16 : Int32)), (.int (16 : Int32)), (.ref v1), (.int (0 : Int32)), (.ref v1)])) _
          refine st232 _ ?_
          show Steps p.tables e below (T232.setTop (mkF m 17 #[.val (.ref v1), .val (.int (0 : Int32)), .val (.int (Int32.ofNat lm)), .val (.int (16 : Int32))] [])) _
          refine XS.iloadN X232.here hx rfl (hb hby d38_17) rfl ?_
          show Steps p.tables e below (T232.setTop (mkF m 18 #[.val (.ref v1), .val (.int (0 : Int32)), .val (.int (Int32.ofNat lm)), .val (.int (16 : Int32))] [(.int (16 : Int32))])) _
          refine XS.iconst X232.here hx rfl (hb hby d38_18) ?_
          show Steps p.tables e below (T232.setTop (mkF m 19 #[.val (.ref v1), .val (.int (0 : Int32)), .val (.int (Int32.ofNat lm)), .val (.int (16 : Int32))] [(.int (1 : Int32)), (.int (16 : Int32))])) _
          refine XS.ishl X232.here hx rfl (hb hby d38_19) rfl ?_
          show Steps p.tables e below (T232.setTop (mkF m 20 #[.val (.ref v1), .val (.int (0 : Int32)), .val (.int (Int32.ofNat lm)), .val (.int (16 : Int32))] [(.int ((16 : Int32) <<< ((1 : Int32) &&& 31)))])) _
          rw [show ((16 : Int32) <<< ((1 : Int32) &&& 31)) = (32 : Int32) from by decide]
          show Steps p.tables e below (T232.setTop (mkF m 20 #[.val (.ref v1), .val (.int (0 : Int32)), .val (.int (Int32.ofNat lm)), .val (.int (16 : Int32))] [(.int (32 : Int32))])) _
          refine XS.istoreN X232.here hx rfl (hb hby d38_20) rfl (l' := #[.val (.ref v1), .val (.int (0 : Int32)), .val (.int (Int32.ofNat lm)), .val (.int (32 : Int32))]) rfl ?_
          show Steps p.tables e below (T232.setTop (mkF m 21 #[.val (.ref v1), .val (.int (0 : Int32)), .val (.int (Int32.ofNat lm)), .val (.int (32 : Int32))] [])) _
          refine XS.goto X232.here hx rfl (pc0 := 21) (pc' := 0) rfl (hb hby d38_21) (by decide) (by decide) ?_
          show Steps p.tables e below (T232.setTop (mkF m 0 #[.val (.ref v1), .val (.int (0 : Int32)), .val (.int (Int32.ofNat lm)), .val (.int (32 : Int32))] [])) _
          refine XS.iloadN X232.here hx rfl (hb hby d38_0) rfl ?_
          show Steps p.tables e below (T232.setTop (mkF m 1 #[.val (.ref v1), .val (.int (0 : Int32)), .val (.int (Int32.ofNat lm)), .val (.int (32 : Int32))] [(.int (32 : Int32))])) _
          refine XS.iloadN X232.here hx rfl (hb hby d38_1) rfl ?_
          show Steps p.tables e below (T232.setTop (mkF m 2 #[.val (.ref v1), .val (.int (0 : Int32)), .val (.int (Int32.ofNat lm)), .val (.int (32 : Int32))] [(.int (Int32.ofNat lm)), (.int (32 : Int32))])) _
          refine XS.iloadN X232.here hx rfl (hb hby d38_2) rfl ?_
          show Steps p.tables e below (T232.setTop (mkF m 3 #[.val (.ref v1), .val (.int (0 : Int32)), .val (.int (Int32.ofNat lm)), .val (.int (32 : Int32))] [(.int (32 : Int32)), (.int (Int32.ofNat lm)), (.int (32 : Int32))])) _
          refine XS.isub X232.here hx rfl (hb hby d38_3) rfl ?_
          show Steps p.tables e below (T232.setTop (mkF m 4 #[.val (.ref v1), .val (.int (0 : Int32)), .val (.int (Int32.ofNat lm)), .val (.int (32 : Int32))] [(.int ((Int32.ofNat lm) - (32 : Int32))), (.int (32 : Int32))])) _
          rw [show Int32.ofNat lm - (32 : Int32) = Int32.ofNat (lm - 32) from own_sub (b := 32) (by omega) (by omega)]
          exact kt
        by_cases cc32 : 32 < lm - 32
        · skip
          obtain ⟨T236, h236, L236, X236, e236, N236, KC236, V236, st236⟩ := own_cp X232 hx hZ hown (hw _ (List.mem_of_getElem? (i := 111) rfl)) (hw _ (List.mem_of_getElem? (i := 94) rfl)) (hw _ (List.mem_of_getElem? (i := 92) rfl)) (hw _ (List.mem_of_getElem? (i := 93) rfl)) e232 (lm) (lm) (0) (32) (32) VR16 VR16 (by simp; omega) (by simp; omega) (by omega) (by omega) (by omega) (by omega) N232 g_v1 (g := (mkF m 14 #[.val (.ref v1), .val (.int (0 : Int32)), .val (.int (Int32.ofNat lm)), .val (.int (32 : Int32))] [(.int (32 : Int32)), (.int (32 : Int32)), (.ref v1), (.int (0 : Int32)), (.ref v1)])) rfl (by rw [hml]; rfl) rfl (hb hby d38_14) (by decide) (W := 0) (by show 2 * 0 + _ ≤ _; exact Nat.le_of_eq rfl) (by decide)
          have Z236 := Nat.le_trans Z232 KC236.1
          have K236 := K232.trans KC236 (allS (Or.inl mem_v1) all0)
          have VR32 : Arv Z h236 v1 k1 .byte (Int32.ofNat lm) (List.replicate 64 (.int (32 : Int32)) ++ List.replicate (lm - 64) (.int (0 : Int32))) (.int (0 : Int32)) := by have q := V236; rw [own_dbl (by omega)] at q; exact q
          have pre237 : ∀ t, Steps p.tables e below (T236.setTop (mkF m 4 #[.val (.ref v1), .val (.int (0 : Int32)), .val (.int (Int32.ofNat lm)), .val (.int (64 : Int32))] [(.int (Int32.ofNat (lm - 64))), (.int (64 : Int32))])) t → Steps p.tables e below (T232.setTop (mkF m 4 #[.val (.ref v1), .val (.int (0 : Int32)), .val (.int (Int32.ofNat lm)), .val (.int (32 : Int32))] [(.int (Int32.ofNat (lm - 32))), (.int (32 : Int32))])) t := by
            intro t kt
            show Steps p.tables e below (T232.setTop (mkF m 4 #[.val (.ref v1), .val (.int (0 : Int32)), .val (.int (Int32.ofNat lm)), .val (.int (32 : Int32))] [(.int (Int32.ofNat (lm - 32))), (.int (32 : Int32))])) _
            refine XS.icmpNo X232.here hx rfl (hb hby d38_4) rfl (tlt (by rw [show (32 : Int32) = Int32.ofNat 32 from rfl, own_lt (by omega) (by omega)]; omega : (32 : Int32) < (Int32.ofNat (lm - 32)))).2.1 ?_
            show Steps p.tables e below (T232.setTop (mkF m 7 #[.val (.ref v1), .val (.int (0 : Int32)), .val (.int (Int32.ofNat lm)), .val (.int (32 : Int32))] [])) _
            refine XS.aloadN X232.here hx rfl (hb hby d38_7) rfl rfl ?_
            show Steps p.tables e below (T232.setTop (mkF m 8 #[.val (.ref v1), .val (.int (0 : Int32)), .val (.int (Int32.ofNat lm)), .val (.int (32 : Int32))] [(.ref v1)])) _
            refine XS.iloadN X232.here hx rfl (hb hby d38_8) rfl ?_
            show Steps p.tables e below (T232.setTop (mkF m 9 #[.val (.ref v1), .val (.int (0 : Int32)), .val (.int (Int32.ofNat lm)), .val (.int (32 : Int32))] [(.int (0 : Int32)), (.ref v1)])) _
            refine XS.aloadN X232.here hx rfl (hb hby d38_9) rfl rfl ?_
            show Steps p.tables e below (T232.setTop (mkF m 10 #[.val (.ref v1), .val (.int (0 : Int32)), .val (.int (Int32.ofNat lm)), .val (.int (32 : Int32))] [(.ref v1), (.int (0 : Int32)), (.ref v1)])) _
            refine XS.iloadN X232.here hx rfl (hb hby d38_10) rfl ?_
            show Steps p.tables e below (T232.setTop (mkF m 11 #[.val (.ref v1), .val (.int (0 : Int32)), .val (.int (Int32.ofNat lm)), .val (.int (32 : Int32))] [(.int (0 : Int32)), (.ref v1), (.int (0 : Int32)), (.ref v1)])) _
            refine XS.iloadN X232.here hx rfl (hb hby d38_11) rfl ?_
            show Steps p.tables e below (T232.setTop (mkF m 12 #[.val (.ref v1), .val (.int (0 : Int32)), .val (.int (Int32.ofNat lm)), .val (.int (32 : Int32))] [(.int (32 : Int32)), (.int (0 : Int32)), (.ref v1), (.int (0 : Int32)), (.ref v1)])) _
            refine XS.iadd X232.here hx rfl (hb hby d38_12) rfl ?_
            show Steps p.tables e below (T232.setTop (mkF m 13 #[.val (.ref v1), .val (.int (0 : Int32)), .val (.int (Int32.ofNat lm)), .val (.int (32 : Int32))] [(.int ((0 : Int32) + (32 : Int32))), (.ref v1), (.int (0 : Int32)), (.ref v1)])) _
            refine XS.iloadN X232.here hx rfl (hb hby d38_13) rfl ?_
            show Steps p.tables e below (T232.setTop (mkF m 14 #[.val (.ref v1), .val (.int (0 : Int32)), .val (.int (Int32.ofNat lm)), .val (.int (32 : Int32))] [(.int (32 : Int32)), (.int ((0 : Int32) + (32 : Int32))), (.ref v1), (.int (0 : Int32)), (.ref v1)])) _
            rw [show (0 : Int32) + (32 : Int32) = (32 : Int32) from by decide]
            show Steps p.tables e below (T232.setTop (mkF m 14 #[.val (.ref v1), .val (.int (0 : Int32)), .val (.int (Int32.ofNat lm)), .val (.int (32 : Int32))] [(.int (32 : Int32)), (.int (32 : Int32)), (.ref v1), (.int (0 : Int32)), (.ref v1)])) _
            refine st236 _ ?_
            show Steps p.tables e below (T236.setTop (mkF m 17 #[.val (.ref v1), .val (.int (0 : Int32)), .val (.int (Int32.ofNat lm)), .val (.int (32 : Int32))] [])) _
            refine XS.iloadN X236.here hx rfl (hb hby d38_17) rfl ?_
            show Steps p.tables e below (T236.setTop (mkF m 18 #[.val (.ref v1), .val (.int (0 : Int32)), .val (.int (Int32.ofNat lm)), .val (.int (32 : Int32))] [(.int (32 : Int32))])) _
            refine XS.iconst X236.here hx rfl (hb hby d38_18) ?_
            show Steps p.tables e below (T236.setTop (mkF m 19 #[.val (.ref v1), .val (.int (0 : Int32)), .val (.int (Int32.ofNat lm)), .val (.int (32 : Int32))] [(.int (1 : Int32)), (.int (32 : Int32))])) _
            refine XS.ishl X236.here hx rfl (hb hby d38_19) rfl ?_
            show Steps p.tables e below (T236.setTop (mkF m 20 #[.val (.ref v1), .val (.int (0 : Int32)), .val (.int (Int32.ofNat lm)), .val (.int (32 : Int32))] [(.int ((32 : Int32) <<< ((1 : Int32) &&& 31)))])) _
            rw [show ((32 : Int32) <<< ((1 : Int32) &&& 31)) = (64 : Int32) from by decide]
            show Steps p.tables e below (T236.setTop (mkF m 20 #[.val (.ref v1), .val (.int (0 : Int32)), .val (.int (Int32.ofNat lm)), .val (.int (32 : Int32))] [(.int (64 : Int32))])) _
            refine XS.istoreN X236.here hx rfl (hb hby d38_20) rfl (l' := #[.val (.ref v1), .val (.int (0 : Int32)), .val (.int (Int32.ofNat lm)), .val (.int (64 : Int32))]) rfl ?_
            show Steps p.tables e below (T236.setTop (mkF m 21 #[.val (.ref v1), .val (.int (0 : Int32)), .val (.int (Int32.ofNat lm)), .val (.int (64 : Int32))] [])) _
            refine XS.goto X236.here hx rfl (pc0 := 21) (pc' := 0) rfl (hb hby d38_21) (by decide) (by decide) ?_
            show Steps p.tables e below (T236.setTop (mkF m 0 #[.val (.ref v1), .val (.int (0 : Int32)), .val (.int (Int32.ofNat lm)), .val (.int (64 : Int32))] [])) _
            refine XS.iloadN X236.here hx rfl (hb hby d38_0) rfl ?_
            show Steps p.tables e below (T236.setTop (mkF m 1 #[.val (.ref v1), .val (.int (0 : Int32)), .val (.int (Int32.ofNat lm)), .val (.int (64 : Int32))] [(.int (64 : Int32))])) _
            refine XS.iloadN X236.here hx rfl (hb hby d38_1) rfl ?_
            show Steps p.tables e below (T236.setTop (mkF m 2 #[.val (.ref v1), .val (.int (0 : Int32)), .val (.int (Int32.ofNat lm)), .val (.int (64 : Int32))] [(.int (Int32.ofNat lm)), (.int (64 : Int32))])) _
            refine XS.iloadN X236.here hx rfl (hb hby d38_2) rfl ?_
            show Steps p.tables e below (T236.setTop (mkF m 3 #[.val (.ref v1), .val (.int (0 : Int32)), .val (.int (Int32.ofNat lm)), .val (.int (64 : Int32))] [(.int (64 : Int32)), (.int (Int32.ofNat lm)), (.int (64 : Int32))])) _
            refine XS.isub X236.here hx rfl (hb hby d38_3) rfl ?_
            show Steps p.tables e below (T236.setTop (mkF m 4 #[.val (.ref v1), .val (.int (0 : Int32)), .val (.int (Int32.ofNat lm)), .val (.int (64 : Int32))] [(.int ((Int32.ofNat lm) - (64 : Int32))), (.int (64 : Int32))])) _
            rw [show Int32.ofNat lm - (64 : Int32) = Int32.ofNat (lm - 64) from own_sub (b := 64) (by omega) (by omega)]
            exact kt
          by_cases cc64 : 64 < lm - 64
          · skip
            obtain ⟨T240, h240, L240, X240, e240, N240, KC240, V240, st240⟩ := own_cp X236 hx hZ hown (hw _ (List.mem_of_getElem? (i := 111) rfl)) (hw _ (List.mem_of_getElem? (i := 94) rfl)) (hw _ (List.mem_of_getElem? (i := 92) rfl)) (hw _ (List.mem_of_getElem? (i := 93) rfl)) e236 (lm) (lm) (0) (64) (64) VR32 VR32 (by simp; omega) (by simp; omega) (by omega) (by omega) (by omega) (by omega) N236 g_v1 (g := (mkF m 14 #[.val (.ref v1), .val (.int (0 : Int32)), .val (.int (Int32.ofNat lm)), .val (.int (64 : Int32))] [(.int (64 : Int32)), (.int (64 : Int32)), (.ref v1), (.int (0 : Int32)), (.ref v1)])) rfl (by rw [hml]; rfl) rfl (hb hby d38_14) (by decide) (W := 0) (by show 2 * 0 + _ ≤ _; exact Nat.le_of_eq rfl) (by decide)
            have Z240 := Nat.le_trans Z236 KC240.1
            have K240 := K236.trans KC240 (allS (Or.inl mem_v1) all0)
            have VR64 : Arv Z h240 v1 k1 .byte (Int32.ofNat lm) (List.replicate 128 (.int (32 : Int32)) ++ List.replicate (lm - 128) (.int (0 : Int32))) (.int (0 : Int32)) := by have q := V240; rw [own_dbl (by omega)] at q; exact q
            obtain ⟨T241, h241, L241, X241, e241, N241, KC241, V241, st241⟩ := own_cp X240 hx hZ hown (hw _ (List.mem_of_getElem? (i := 111) rfl)) (hw _ (List.mem_of_getElem? (i := 94) rfl)) (hw _ (List.mem_of_getElem? (i := 92) rfl)) (hw _ (List.mem_of_getElem? (i := 93) rfl)) e240 (lm) (lm) (0) (128) (lm - 128) VR64 VR64 (by simp; omega) (by simp; omega) (by omega) (by omega) (by omega) (by omega) N240 g_v1 (g := (mkF m 33 #[.val (.ref v1), .val (.int (0 : Int32)), .val (.int (Int32.ofNat lm)), .val (.int (128 : Int32))] [(.int (Int32.ofNat (lm - 128))), (.int (128 : Int32)), (.ref v1), (.int (0 : Int32)), (.ref v1)])) rfl (by rw [hml]; rfl) rfl (hb hby d38_33) (by decide) (W := 0) (by show 2 * 0 + _ ≤ _; exact Nat.le_of_eq rfl) (by decide)
            have Z241 := Nat.le_trans Z240 KC241.1
            have K241 := K240.trans KC241 (allS (Or.inl mem_v1) all0)
            have pre242 : ∀ t, Steps p.tables e below (T241.setTop (mkF m 36 #[.val (.ref v1), .val (.int (0 : Int32)), .val (.int (Int32.ofNat lm)), .val (.int (128 : Int32))] [])) t → Steps p.tables e below (T236.setTop (mkF m 4 #[.val (.ref v1), .val (.int (0 : Int32)), .val (.int (Int32.ofNat lm)), .val (.int (64 : Int32))] [(.int (Int32.ofNat (lm - 64))), (.int (64 : Int32))])) t := by
              intro t kt
              show Steps p.tables e below (T236.setTop (mkF m 4 #[.val (.ref v1), .val (.int (0 : Int32)), .val (.int (Int32.ofNat lm)), .val (.int (64 : Int32))] [(.int (Int32.ofNat (lm - 64))), (.int (64 : Int32))])) _
              refine XS.icmpNo X236.here hx rfl (hb hby d38_4) rfl (tlt (by rw [show (64 : Int32) = Int32.ofNat 64 from rfl, own_lt (by omega) (by omega)]; omega : (64 : Int32) < (Int32.ofNat (lm - 64)))).2.1 ?_
              show Steps p.tables e below (T236.setTop (mkF m 7 #[.val (.ref v1), .val (.int (0 : Int32)), .val (.int (Int32.ofNat lm)), .val (.int (64 : Int32))] [])) _
              refine XS.aloadN X236.here hx rfl (hb hby d38_7) rfl rfl ?_
              show Steps p.tables e below (T236.setTop (mkF m 8 #[.val (.ref v1), .val (.int (0 : Int32)), .val (.int (Int32.ofNat lm)), .val (.int (64 : Int32))] [(.ref v1)])) _
              refine XS.iloadN X236.here hx rfl (hb hby d38_8) rfl ?_
              show Steps p.tables e below (T236.setTop (mkF m 9 #[.val (.ref v1), .val (.int (0 : Int32)), .val (.int (Int32.ofNat lm)), .val (.int (64 : Int32))] [(.int (0 : Int32)), (.ref v1)])) _
              refine XS.aloadN X236.here hx rfl (hb hby d38_9) rfl rfl ?_
              show Steps p.tables e below (T236.setTop (mkF m 10 #[.val (.ref v1), .val (.int (0 : Int32)), .val (.int (Int32.ofNat lm)), .val (.int (64 : Int32))] [(.ref v1), (.int (0 : Int32)), (.ref v1)])) _
              refine XS.iloadN X236.here hx rfl (hb hby d38_10) rfl ?_
              show Steps p.tables e below (T236.setTop (mkF m 11 #[.val (.ref v1), .val (.int (0 : Int32)), .val (.int (Int32.ofNat lm)), .val (.int (64 : Int32))] [(.int (0 : Int32)), (.ref v1), (.int (0 : Int32)), (.ref v1)])) _
              refine XS.iloadN X236.here hx rfl (hb hby d38_11) rfl ?_
              show Steps p.tables e below (T236.setTop (mkF m 12 #[.val (.ref v1), .val (.int (0 : Int32)), .val (.int (Int32.ofNat lm)), .val (.int (64 : Int32))] [(.int (64 : Int32)), (.int (0 : Int32)), (.ref v1), (.int (0 : Int32)), (.ref v1)])) _
              refine XS.iadd X236.here hx rfl (hb hby d38_12) rfl ?_
              show Steps p.tables e below (T236.setTop (mkF m 13 #[.val (.ref v1), .val (.int (0 : Int32)), .val (.int (Int32.ofNat lm)), .val (.int (64 : Int32))] [(.int ((0 : Int32) + (64 : Int32))), (.ref v1), (.int (0 : Int32)), (.ref v1)])) _
              refine XS.iloadN X236.here hx rfl (hb hby d38_13) rfl ?_
              show Steps p.tables e below (T236.setTop (mkF m 14 #[.val (.ref v1), .val (.int (0 : Int32)), .val (.int (Int32.ofNat lm)), .val (.int (64 : Int32))] [(.int (64 : Int32)), (.int ((0 : Int32) + (64 : Int32))), (.ref v1), (.int (0 : Int32)), (.ref v1)])) _
              rw [show (0 : Int32) + (64 : Int32) = (64 : Int32) from by decide]
              show Steps p.tables e below (T236.setTop (mkF m 14 #[.val (.ref v1), .val (.int (0 : Int32)), .val (.int (Int32.ofNat lm)), .val (.int (64 : Int32))] [(.int (64 : Int32)), (.int (64 : Int32)), (.ref v1), (.int (0 : Int32)), (.ref v1)])) _
              refine st240 _ ?_
              show Steps p.tables e below (T240.setTop (mkF m 17 #[.val (.ref v1), .val (.int (0 : Int32)), .val (.int (Int32.ofNat lm)), .val (.int (64 : Int32))] [])) _
              refine XS.iloadN X240.here hx rfl (hb hby d38_17) rfl ?_
              show Steps p.tables e below (T240.setTop (mkF m 18 #[.val (.ref v1), .val (.int (0 : Int32)), .val (.int (Int32.ofNat lm)), .val (.int (64 : Int32))] [(.int (64 : Int32))])) _
              refine XS.iconst X240.here hx rfl (hb hby d38_18) ?_
              show Steps p.tables e below (T240.setTop (mkF m 19 #[.val (.ref v1), .val (.int (0 : Int32)), .val (.int (Int32.ofNat lm)), .val (.int (64 : Int32))] [(.int (1 : Int32)), (.int (64 : Int32))])) _
              refine XS.ishl X240.here hx rfl (hb hby d38_19) rfl ?_
              show Steps p.tables e below (T240.setTop (mkF m 20 #[.val (.ref v1), .val (.int (0 : Int32)), .val (.int (Int32.ofNat lm)), .val (.int (64 : Int32))] [(.int ((64 : Int32) <<< ((1 : Int32) &&& 31)))])) _
              rw [show ((64 : Int32) <<< ((1 : Int32) &&& 31)) = (128 : Int32) from by decide]
              show Steps p.tables e below (T240.setTop (mkF m 20 #[.val (.ref v1), .val (.int (0 : Int32)), .val (.int (Int32.ofNat lm)), .val (.int (64 : Int32))] [(.int (128 : Int32))])) _
              refine XS.istoreN X240.here hx rfl (hb hby d38_20) rfl (l' := #[.val (.ref v1), .val (.int (0 : Int32)), .val (.int (Int32.ofNat lm)), .val (.int (128 : Int32))]) rfl ?_
              show Steps p.tables e below (T240.setTop (mkF m 21 #[.val (.ref v1), .val (.int (0 : Int32)), .val (.int (Int32.ofNat lm)), .val (.int (128 : Int32))] [])) _
              refine XS.goto X240.here hx rfl (pc0 := 21) (pc' := 0) rfl (hb hby d38_21) (by decide) (by decide) ?_
              show Steps p.tables e below (T240.setTop (mkF m 0 #[.val (.ref v1), .val (.int (0 : Int32)), .val (.int (Int32.ofNat lm)), .val (.int (128 : Int32))] [])) _
              refine XS.iloadN X240.here hx rfl (hb hby d38_0) rfl ?_
              show Steps p.tables e below (T240.setTop (mkF m 1 #[.val (.ref v1), .val (.int (0 : Int32)), .val (.int (Int32.ofNat lm)), .val (.int (128 : Int32))] [(.int (128 : Int32))])) _
              refine XS.iloadN X240.here hx rfl (hb hby d38_1) rfl ?_
              show Steps p.tables e below (T240.setTop (mkF m 2 #[.val (.ref v1), .val (.int (0 : Int32)), .val (.int (Int32.ofNat lm)), .val (.int (128 : Int32))] [(.int (Int32.ofNat lm)), (.int (128 : Int32))])) _
              refine XS.iloadN X240.here hx rfl (hb hby d38_2) rfl ?_
              show Steps p.tables e below (T240.setTop (mkF m 3 #[.val (.ref v1), .val (.int (0 : Int32)), .val (.int (Int32.ofNat lm)), .val (.int (128 : Int32))] [(.int (128 : Int32)), (.int (Int32.ofNat lm)), (.int (128 : Int32))])) _
              refine XS.isub X240.here hx rfl (hb hby d38_3) rfl ?_
              show Steps p.tables e below (T240.setTop (mkF m 4 #[.val (.ref v1), .val (.int (0 : Int32)), .val (.int (Int32.ofNat lm)), .val (.int (128 : Int32))] [(.int ((Int32.ofNat lm) - (128 : Int32))), (.int (128 : Int32))])) _
              rw [show Int32.ofNat lm - (128 : Int32) = Int32.ofNat (lm - 128) from own_sub (b := 128) (by omega) (by omega)]
              show Steps p.tables e below (T240.setTop (mkF m 4 #[.val (.ref v1), .val (.int (0 : Int32)), .val (.int (Int32.ofNat lm)), .val (.int (128 : Int32))] [(.int (Int32.ofNat (lm - 128))), (.int (128 : Int32))])) _
              refine XS.icmpYes X240.here hx rfl (pc0 := 4) (pc' := 24) rfl (hb hby d38_4) rfl (flt (by rw [show (128 : Int32) = Int32.ofNat 128 from rfl, own_lt (by omega) (by omega)]; omega : ¬ ((128 : Int32) < (Int32.ofNat (lm - 128))))).2.1 (by decide) (by decide) ?_
              show Steps p.tables e below (T240.setTop (mkF m 24 #[.val (.ref v1), .val (.int (0 : Int32)), .val (.int (Int32.ofNat lm)), .val (.int (128 : Int32))] [])) _
              refine XS.aloadN X240.here hx rfl (hb hby d38_24) rfl rfl ?_
              show Steps p.tables e below (T240.setTop (mkF m 25 #[.val (.ref v1), .val (.int (0 : Int32)), .val (.int (Int32.ofNat lm)), .val (.int (128 : Int32))] [(.ref v1)])) _
              refine XS.iloadN X240.here hx rfl (hb hby d38_25) rfl ?_
              show Steps p.tables e below (T240.setTop (mkF m 26 #[.val (.ref v1), .val (.int (0 : Int32)), .val (.int (Int32.ofNat lm)), .val (.int (128 : Int32))] [(.int (0 : Int32)), (.ref v1)])) _
              refine XS.aloadN X240.here hx rfl (hb hby d38_26) rfl rfl ?_
              show Steps p.tables e below (T240.setTop (mkF m 27 #[.val (.ref v1), .val (.int (0 : Int32)), .val (.int (Int32.ofNat lm)), .val (.int (128 : Int32))] [(.ref v1), (.int (0 : Int32)), (.ref v1)])) _
              refine XS.iloadN X240.here hx rfl (hb hby d38_27) rfl ?_
              show Steps p.tables e below (T240.setTop (mkF m 28 #[.val (.ref v1), .val (.int (0 : Int32)), .val (.int (Int32.ofNat lm)), .val (.int (128 : Int32))] [(.int (0 : Int32)), (.ref v1), (.int (0 : Int32)), (.ref v1)])) _
              refine XS.iloadN X240.here hx rfl (hb hby d38_28) rfl ?_
              show Steps p.tables e below (T240.setTop (mkF m 29 #[.val (.ref v1), .val (.int (0 : Int32)), .val (.int (Int32.ofNat lm)), .val (.int (128 : Int32))] [(.int (128 : Int32)), (.int (0 : Int32)), (.ref v1), (.int (0 : Int32)), (.ref v1)])) _
              refine XS.iadd X240.here hx rfl (hb hby d38_29) rfl ?_
              show Steps p.tables e below (T240.setTop (mkF m 30 #[.val (.ref v1), .val (.int (0 : Int32)), .val (.int (Int32.ofNat lm)), .val (.int (128 : Int32))] [(.int ((0 : Int32) + (128 : Int32))), (.ref v1), (.int (0 : Int32)), (.ref v1)])) _
              refine XS.iloadN X240.here hx rfl (hb hby d38_30) rfl ?_
              show Steps p.tables e below (T240.setTop (mkF m 31 #[.val (.ref v1), .val (.int (0 : Int32)), .val (.int (Int32.ofNat lm)), .val (.int (128 : Int32))] [(.int (Int32.ofNat lm)), (.int ((0 : Int32) + (128 : Int32))), (.ref v1), (.int (0 : Int32)), (.ref v1)])) _
              refine XS.iloadN X240.here hx rfl (hb hby d38_31) rfl ?_
              show Steps p.tables e below (T240.setTop (mkF m 32 #[.val (.ref v1), .val (.int (0 : Int32)), .val (.int (Int32.ofNat lm)), .val (.int (128 : Int32))] [(.int (128 : Int32)), (.int (Int32.ofNat lm)), (.int ((0 : Int32) + (128 : Int32))), (.ref v1), (.int (0 : Int32)), (.ref v1)])) _
              refine XS.isub X240.here hx rfl (hb hby d38_32) rfl ?_
              show Steps p.tables e below (T240.setTop (mkF m 33 #[.val (.ref v1), .val (.int (0 : Int32)), .val (.int (Int32.ofNat lm)), .val (.int (128 : Int32))] [(.int ((Int32.ofNat lm) - (128 : Int32))), (.int ((0 : Int32) + (128 : Int32))), (.ref v1), (.int (0 : Int32)), (.ref v1)])) _
              rw [show Int32.ofNat lm - (128 : Int32) = Int32.ofNat (lm - 128) from own_sub (b := 128) (by omega) (by omega)]
              show Steps p.tables e below (T240.setTop (mkF m 33 #[.val (.ref v1), .val (.int (0 : Int32)), .val (.int (Int32.ofNat lm)), .val (.int (128 : Int32))] [(.int (Int32.ofNat (lm - 128))), (.int ((0 : Int32) + (128 : Int32))), (.ref v1), (.int (0 : Int32)), (.ref v1)])) _
              rw [show (0 : Int32) + (128 : Int32) = (128 : Int32) from by decide]
              show Steps p.tables e below (T240.setTop (mkF m 33 #[.val (.ref v1), .val (.int (0 : Int32)), .val (.int (Int32.ofNat lm)), .val (.int (128 : Int32))] [(.int (Int32.ofNat (lm - 128))), (.int (128 : Int32)), (.ref v1), (.int (0 : Int32)), (.ref v1)])) _
              refine st241 _ ?_
              exact kt
            obtain ⟨fs, hr, hrun, hended, hW, hsame⟩ := X241.leave (v := none) (fun _ => rfl)
            refine ⟨_, _, (pre0 _ (pre221 _ (pre225 _ (pre229 _ (pre233 _ (pre237 _ (pre242 _ ?_))))))), hrun, hended, _, _, rfl, ?_, ⟨_, rfl⟩, hW, hsame.mono (by decide) (by decide)⟩
            · show Steps p.tables e below (T241.setTop (mkF m 36 #[.val (.ref v1), .val (.int (0 : Int32)), .val (.int (Int32.ofNat lm)), .val (.int (128 : Int32))] [])) _
              exact X241.returnOut hx Bd.returns (hb hby d38_36) hr
            · show QRCR Z v1 k1 lm h0 n0 _ T241.heap _
              rw [e241]
              exact ⟨rfl, N241, K241, by have q := V241; rw [own_fill (by omega) (by omega)] at q; exact q⟩
          · skip
            obtain ⟨T238, h238, L238, X238, e238, N238, KC238, V238, st238⟩ := own_cp X236 hx hZ hown (hw _ (List.mem_of_getElem? (i := 111) rfl)) (hw _ (List.mem_of_getElem? (i := 94) rfl)) (hw _ (List.mem_of_getElem? (i := 92) rfl)) (hw _ (List.mem_of_getElem? (i := 93) rfl)) e236 (lm) (lm) (0) (64) (lm - 64) VR32 VR32 (by simp; omega) (by simp; omega) (by omega) (by omega) (by omega) (by omega) N236 g_v1 (g := (mkF m 33 #[.val (.ref v1), .val (.int (0 : Int32)), .val (.int (Int32.ofNat lm)), .val (.int (64 : Int32))] [(.int (Int32.ofNat (lm - 64))), (.int (64 : Int32)), (.ref v1), (.int (0 : Int32)), (.ref v1)])) rfl (by rw [hml]; rfl) rfl (hb hby d38_33) (by decide) (W := 0) (by show 2 * 0 + _ ≤ _; exact Nat.le_of_eq rfl) (by decide)
            have Z238 := Nat.le_trans Z236 KC238.1
            have K238 := K236.trans KC238 (allS (Or.inl mem_v1) all0)
            have pre239 : ∀ t, Steps p.tables e below (T238.setTop (mkF m 36 #[.val (.ref v1), .val (.int (0 : Int32)), .val (.int (Int32.ofNat lm)), .val (.int (64 : Int32))] [])) t → Steps p.tables e below (T236.setTop (mkF m 4 #[.val (.ref v1), .val (.int (0 : Int32)), .val (.int (Int32.ofNat lm)), .val (.int (64 : Int32))] [(.int (Int32.ofNat (lm - 64))), (.int (64 : Int32))])) t := by
              intro t kt
              show Steps p.tables e below (T236.setTop (mkF m 4 #[.val (.ref v1), .val (.int (0 : Int32)), .val (.int (Int32.ofNat lm)), .val (.int (64 : Int32))] [(.int (Int32.ofNat (lm - 64))), (.int (64 : Int32))])) _
              refine XS.icmpYes X236.here hx rfl (pc0 := 4) (pc' := 24) rfl (hb hby d38_4) rfl (flt (by rw [show (64 : Int32) = Int32.ofNat 64 from rfl, own_lt (by omega) (by omega)]; omega : ¬ ((64 : Int32) < (Int32.ofNat (lm - 64))))).2.1 (by decide) (by decide) ?_
              show Steps p.tables e below (T236.setTop (mkF m 24 #[.val (.ref v1), .val (.int (0 : Int32)), .val (.int (Int32.ofNat lm)), .val (.int (64 : Int32))] [])) _
              refine XS.aloadN X236.here hx rfl (hb hby d38_24) rfl rfl ?_
              show Steps p.tables e below (T236.setTop (mkF m 25 #[.val (.ref v1), .val (.int (0 : Int32)), .val (.int (Int32.ofNat lm)), .val (.int (64 : Int32))] [(.ref v1)])) _
              refine XS.iloadN X236.here hx rfl (hb hby d38_25) rfl ?_
              show Steps p.tables e below (T236.setTop (mkF m 26 #[.val (.ref v1), .val (.int (0 : Int32)), .val (.int (Int32.ofNat lm)), .val (.int (64 : Int32))] [(.int (0 : Int32)), (.ref v1)])) _
              refine XS.aloadN X236.here hx rfl (hb hby d38_26) rfl rfl ?_
              show Steps p.tables e below (T236.setTop (mkF m 27 #[.val (.ref v1), .val (.int (0 : Int32)), .val (.int (Int32.ofNat lm)), .val (.int (64 : Int32))] [(.ref v1), (.int (0 : Int32)), (.ref v1)])) _
              refine XS.iloadN X236.here hx rfl (hb hby d38_27) rfl ?_
              show Steps p.tables e below (T236.setTop (mkF m 28 #[.val (.ref v1), .val (.int (0 : Int32)), .val (.int (Int32.ofNat lm)), .val (.int (64 : Int32))] [(.int (0 : Int32)), (.ref v1), (.int (0 : Int32)), (.ref v1)])) _
              refine XS.iloadN X236.here hx rfl (hb hby d38_28) rfl ?_
              show Steps p.tables e below (T236.setTop (mkF m 29 #[.val (.ref v1), .val (.int (0 : Int32)), .val (.int (Int32.ofNat lm)), .val (.int (64 : Int32))] [(.int (64 : Int32)), (.int (0 : Int32)), (.ref v1), (.int (0 : Int32)), (.ref v1)])) _
              refine XS.iadd X236.here hx rfl (hb hby d38_29) rfl ?_
              show Steps p.tables e below (T236.setTop (mkF m 30 #[.val (.ref v1), .val (.int (0 : Int32)), .val (.int (Int32.ofNat lm)), .val (.int (64 : Int32))] [(.int ((0 : Int32) + (64 : Int32))), (.ref v1), (.int (0 : Int32)), (.ref v1)])) _
              refine XS.iloadN X236.here hx rfl (hb hby d38_30) rfl ?_
              show Steps p.tables e below (T236.setTop (mkF m 31 #[.val (.ref v1), .val (.int (0 : Int32)), .val (.int (Int32.ofNat lm)), .val (.int (64 : Int32))] [(.int (Int32.ofNat lm)), (.int ((0 : Int32) + (64 : Int32))), (.ref v1), (.int (0 : Int32)), (.ref v1)])) _
              refine XS.iloadN X236.here hx rfl (hb hby d38_31) rfl ?_
              show Steps p.tables e below (T236.setTop (mkF m 32 #[.val (.ref v1), .val (.int (0 : Int32)), .val (.int (Int32.ofNat lm)), .val (.int (64 : Int32))] [(.int (64 : Int32)), (.int (Int32.ofNat lm)), (.int ((0 : Int32) + (64 : Int32))), (.ref v1), (.int (0 : Int32)), (.ref v1)])) _
              refine XS.isub X236.here hx rfl (hb hby d38_32) rfl ?_
              show Steps p.tables e below (T236.setTop (mkF m 33 #[.val (.ref v1), .val (.int (0 : Int32)), .val (.int (Int32.ofNat lm)), .val (.int (64 : Int32))] [(.int ((Int32.ofNat lm) - (64 : Int32))), (.int ((0 : Int32) + (64 : Int32))), (.ref v1), (.int (0 : Int32)), (.ref v1)])) _
              rw [show Int32.ofNat lm - (64 : Int32) = Int32.ofNat (lm - 64) from own_sub (b := 64) (by omega) (by omega)]
              show Steps p.tables e below (T236.setTop (mkF m 33 #[.val (.ref v1), .val (.int (0 : Int32)), .val (.int (Int32.ofNat lm)), .val (.int (64 : Int32))] [(.int (Int32.ofNat (lm - 64))), (.int ((0 : Int32) + (64 : Int32))), (.ref v1), (.int (0 : Int32)), (.ref v1)])) _
              rw [show (0 : Int32) + (64 : Int32) = (64 : Int32) from by decide]
              show Steps p.tables e below (T236.setTop (mkF m 33 #[.val (.ref v1), .val (.int (0 : Int32)), .val (.int (Int32.ofNat lm)), .val (.int (64 : Int32))] [(.int (Int32.ofNat (lm - 64))), (.int (64 : Int32)), (.ref v1), (.int (0 : Int32)), (.ref v1)])) _
              refine st238 _ ?_
              exact kt
            obtain ⟨fs, hr, hrun, hended, hW, hsame⟩ := X238.leave (v := none) (fun _ => rfl)
            refine ⟨_, _, (pre0 _ (pre221 _ (pre225 _ (pre229 _ (pre233 _ (pre237 _ (pre239 _ ?_))))))), hrun, hended, _, _, rfl, ?_, ⟨_, rfl⟩, hW, hsame.mono (by decide) (by decide)⟩
            · show Steps p.tables e below (T238.setTop (mkF m 36 #[.val (.ref v1), .val (.int (0 : Int32)), .val (.int (Int32.ofNat lm)), .val (.int (64 : Int32))] [])) _
              exact X238.returnOut hx Bd.returns (hb hby d38_36) hr
            · show QRCR Z v1 k1 lm h0 n0 _ T238.heap _
              rw [e238]
              exact ⟨rfl, N238, K238, by have q := V238; rw [own_fill (by omega) (by omega)] at q; exact q⟩
        · skip
          obtain ⟨T234, h234, L234, X234, e234, N234, KC234, V234, st234⟩ := own_cp X232 hx hZ hown (hw _ (List.mem_of_getElem? (i := 111) rfl)) (hw _ (List.mem_of_getElem? (i := 94) rfl)) (hw _ (List.mem_of_getElem? (i := 92) rfl)) (hw _ (List.mem_of_getElem? (i := 93) rfl)) e232 (lm) (lm) (0) (32) (lm - 32) VR16 VR16 (by simp; omega) (by simp; omega) (by omega) (by omega) (by omega) (by omega) N232 g_v1 (g := (mkF m 33 #[.val (.ref v1), .val (.int (0 : Int32)), .val (.int (Int32.ofNat lm)), .val (.int (32 : Int32))] [(.int (Int32.ofNat (lm - 32))), (.int (32 : Int32)), (.ref v1), (.int (0 : Int32)), (.ref v1)])) rfl (by rw [hml]; rfl) rfl (hb hby d38_33) (by decide) (W := 0) (by show 2 * 0 + _ ≤ _; exact Nat.le_of_eq rfl) (by decide)
          have Z234 := Nat.le_trans Z232 KC234.1
          have K234 := K232.trans KC234 (allS (Or.inl mem_v1) all0)
          have pre235 : ∀ t, Steps p.tables e below (T234.setTop (mkF m 36 #[.val (.ref v1), .val (.int (0 : Int32)), .val (.int (Int32.ofNat lm)), .val (.int (32 : Int32))] [])) t → Steps p.tables e below (T232.setTop (mkF m 4 #[.val (.ref v1), .val (.int (0 : Int32)), .val (.int (Int32.ofNat lm)), .val (.int (32 : Int32))] [(.int (Int32.ofNat (lm - 32))), (.int (32 : Int32))])) t := by
            intro t kt
            show Steps p.tables e below (T232.setTop (mkF m 4 #[.val (.ref v1), .val (.int (0 : Int32)), .val (.int (Int32.ofNat lm)), .val (.int (32 : Int32))] [(.int (Int32.ofNat (lm - 32))), (.int (32 : Int32))])) _
            refine XS.icmpYes X232.here hx rfl (pc0 := 4) (pc' := 24) rfl (hb hby d38_4) rfl (flt (by rw [show (32 : Int32) = Int32.ofNat 32 from rfl, own_lt (by omega) (by omega)]; omega : ¬ ((32 : Int32) < (Int32.ofNat (lm - 32))))).2.1 (by decide) (by decide) ?_
            show Steps p.tables e below (T232.setTop (mkF m 24 #[.val (.ref v1), .val (.int (0 : Int32)), .val (.int (Int32.ofNat lm)), .val (.int (32 : Int32))] [])) _
            refine XS.aloadN X232.here hx rfl (hb hby d38_24) rfl rfl ?_
            show Steps p.tables e below (T232.setTop (mkF m 25 #[.val (.ref v1), .val (.int (0 : Int32)), .val (.int (Int32.ofNat lm)), .val (.int (32 : Int32))] [(.ref v1)])) _
            refine XS.iloadN X232.here hx rfl (hb hby d38_25) rfl ?_
            show Steps p.tables e below (T232.setTop (mkF m 26 #[.val (.ref v1), .val (.int (0 : Int32)), .val (.int (Int32.ofNat lm)), .val (.int (32 : Int32))] [(.int (0 : Int32)), (.ref v1)])) _
            refine XS.aloadN X232.here hx rfl (hb hby d38_26) rfl rfl ?_
            show Steps p.tables e below (T232.setTop (mkF m 27 #[.val (.ref v1), .val (.int (0 : Int32)), .val (.int (Int32.ofNat lm)), .val (.int (32 : Int32))] [(.ref v1), (.int (0 : Int32)), (.ref v1)])) _
            refine XS.iloadN X232.here hx rfl (hb hby d38_27) rfl ?_
            show Steps p.tables e below (T232.setTop (mkF m 28 #[.val (.ref v1), .val (.int (0 : Int32)), .val (.int (Int32.ofNat lm)), .val (.int (32 : Int32))] [(.int (0 : Int32)), (.ref v1), (.int (0 : Int32)), (.ref v1)])) _
            refine XS.iloadN X232.here hx rfl (hb hby d38_28) rfl ?_
            show Steps p.tables e below (T232.setTop (mkF m 29 #[.val (.ref v1), .val (.int (0 : Int32)), .val (.int (Int32.ofNat lm)), .val (.int (32 : Int32))] [(.int (32 : Int32)), (.int (0 : Int32)), (.ref v1), (.int (0 : Int32)), (.ref v1)])) _
            refine XS.iadd X232.here hx rfl (hb hby d38_29) rfl ?_
            show Steps p.tables e below (T232.setTop (mkF m 30 #[.val (.ref v1), .val (.int (0 : Int32)), .val (.int (Int32.ofNat lm)), .val (.int (32 : Int32))] [(.int ((0 : Int32) + (32 : Int32))), (.ref v1), (.int (0 : Int32)), (.ref v1)])) _
            refine XS.iloadN X232.here hx rfl (hb hby d38_30) rfl ?_
            show Steps p.tables e below (T232.setTop (mkF m 31 #[.val (.ref v1), .val (.int (0 : Int32)), .val (.int (Int32.ofNat lm)), .val (.int (32 : Int32))] [(.int (Int32.ofNat lm)), (.int ((0 : Int32) + (32 : Int32))), (.ref v1), (.int (0 : Int32)), (.ref v1)])) _
            refine XS.iloadN X232.here hx rfl (hb hby d38_31) rfl ?_
            show Steps p.tables e below (T232.setTop (mkF m 32 #[.val (.ref v1), .val (.int (0 : Int32)), .val (.int (Int32.ofNat lm)), .val (.int (32 : Int32))] [(.int (32 : Int32)), (.int (Int32.ofNat lm)), (.int ((0 : Int32) + (32 : Int32))), (.ref v1), (.int (0 : Int32)), (.ref v1)])) _
            refine XS.isub X232.here hx rfl (hb hby d38_32) rfl ?_
            show Steps p.tables e below (T232.setTop (mkF m 33 #[.val (.ref v1), .val (.int (0 : Int32)), .val (.int (Int32.ofNat lm)), .val (.int (32 : Int32))] [(.int ((Int32.ofNat lm) - (32 : Int32))), (.int ((0 : Int32) + (32 : Int32))), (.ref v1), (.int (0 : Int32)), (.ref v1)])) _
            rw [show Int32.ofNat lm - (32 : Int32) = Int32.ofNat (lm - 32) from own_sub (b := 32) (by omega) (by omega)]
            show Steps p.tables e below (T232.setTop (mkF m 33 #[.val (.ref v1), .val (.int (0 : Int32)), .val (.int (Int32.ofNat lm)), .val (.int (32 : Int32))] [(.int (Int32.ofNat (lm - 32))), (.int ((0 : Int32) + (32 : Int32))), (.ref v1), (.int (0 : Int32)), (.ref v1)])) _
            rw [show (0 : Int32) + (32 : Int32) = (32 : Int32) from by decide]
            show Steps p.tables e below (T232.setTop (mkF m 33 #[.val (.ref v1), .val (.int (0 : Int32)), .val (.int (Int32.ofNat lm)), .val (.int (32 : Int32))] [(.int (Int32.ofNat (lm - 32))), (.int (32 : Int32)), (.ref v1), (.int (0 : Int32)), (.ref v1)])) _
            refine st234 _ ?_
            exact kt
          obtain ⟨fs, hr, hrun, hended, hW, hsame⟩ := X234.leave (v := none) (fun _ => rfl)
          refine ⟨_, _, (pre0 _ (pre221 _ (pre225 _ (pre229 _ (pre233 _ (pre235 _ ?_)))))), hrun, hended, _, _, rfl, ?_, ⟨_, rfl⟩, hW, hsame.mono (by decide) (by decide)⟩
          · show Steps p.tables e below (T234.setTop (mkF m 36 #[.val (.ref v1), .val (.int (0 : Int32)), .val (.int (Int32.ofNat lm)), .val (.int (32 : Int32))] [])) _
            exact X234.returnOut hx Bd.returns (hb hby d38_36) hr
          · show QRCR Z v1 k1 lm h0 n0 _ T234.heap _
            rw [e234]
            exact ⟨rfl, N234, K234, by have q := V234; rw [own_fill (by omega) (by omega)] at q; exact q⟩
      · skip
        obtain ⟨T230, h230, L230, X230, e230, N230, KC230, V230, st230⟩ := own_cp X228 hx hZ hown (hw _ (List.mem_of_getElem? (i := 111) rfl)) (hw _ (List.mem_of_getElem? (i := 94) rfl)) (hw _ (List.mem_of_getElem? (i := 92) rfl)) (hw _ (List.mem_of_getElem? (i := 93) rfl)) e228 (lm) (lm) (0) (16) (lm - 16) VR8 VR8 (by simp; omega) (by simp; omega) (by omega) (by omega) (by omega) (by omega) N228 g_v1 (g := (mkF m 33 #[.val (.ref v1), .val (.int (0 : Int32)), .val (.int (Int32.ofNat lm)), .val (.int (16 : Int32))] [(.int (Int32.ofNat (lm - 16))), (.int (16 : Int32)), (.ref v1), (.int (0 : Int32)), (.ref v1)])) rfl (by rw [hml]; rfl) rfl (hb hby d38_33) (by decide) (W := 0) (by show 2 * 0 + _ ≤ _; exact Nat.le_of_eq rfl) (by decide)
        have Z230 := Nat.le_trans Z228 KC230.1
        have K230 := K228.trans KC230 (allS (Or.inl mem_v1) all0)
        have pre231 : ∀ t, Steps p.tables e below (T230.setTop (mkF m 36 #[.val (.ref v1), .val (.int (0 : Int32)), .val (.int (Int32.ofNat lm)), .val (.int (16 : Int32))] [])) t → Steps p.tables e below (T228.setTop (mkF m 4 #[.val (.ref v1), .val (.int (0 : Int32)), .val (.int (Int32.ofNat lm)), .val (.int (16 : Int32))] [(.int (Int32.ofNat (lm - 16))), (.int (16 : Int32))])) t := by
          intro t kt
          show Steps p.tables e below (T228.setTop (mkF m 4 #[.val (.ref v1), .val (.int (0 : Int32)), .val (.int (Int32.ofNat lm)), .val (.int (16 : Int32))] [(.int (Int32.ofNat (lm - 16))), (.int (16 : Int32))])) _
          refine XS.icmpYes X228.here hx rfl (pc0 := 4) (pc' := 24) rfl (hb hby d38_4) rfl (flt (by rw [show (16 : Int32) = Int32.ofNat 16 from rfl, own_lt (by omega) (by omega)]; omega : ¬ ((16 : Int32) < (Int32.ofNat (lm - 16))))).2.1 (by decide) (by decide) ?_
          show Steps p.tables e below (T228.setTop (mkF m 24 #[.val (.ref v1), .val (.int (0 : Int32)), .val (.int (Int32.ofNat lm)), .val (.int (16 : Int32))] [])) _
          refine XS.aloadN X228.here hx rfl (hb hby d38_24) rfl rfl ?_
          show Steps p.tables e below (T228.setTop (mkF m 25 #[.val (.ref v1), .val (.int (0 : Int32)), .val (.int (Int32.ofNat lm)), .val (.int (16 : Int32))] [(.ref v1)])) _
          refine XS.iloadN X228.here hx rfl (hb hby d38_25) rfl ?_
          show Steps p.tables e below (T228.setTop (mkF m 26 #[.val (.ref v1), .val (.int (0 : Int32)), .val (.int (Int32.ofNat lm)), .val (.int (16 : Int32))] [(.int (0 : Int32)), (.ref v1)])) _
          refine XS.aloadN X228.here hx rfl (hb hby d38_26) rfl rfl ?_
          show Steps p.tables e below (T228.setTop (mkF m 27 #[.val (.ref v1), .val (.int (0 : Int32)), .val (.int (Int32.ofNat lm)), .val (.int (16 : Int32))] [(.ref v1), (.int (0 : Int32)), (.ref v1)])) _
          refine XS.iloadN X228.here hx rfl (hb hby d38_27) rfl ?_
          show Steps p.tables e below (T228.setTop (mkF m 28 #[.val (.ref v1), .val (.int (0 : Int32)), .val (.int (Int32.ofNat lm)), .val (.int (16 : Int32))] [(.int (0 : Int32)), (.ref v1), (.int (0 : Int32)), (.ref v1)])) _
          refine XS.iloadN X228.here hx rfl (hb hby d38_28) rfl ?_
          show Steps p.tables e below (T228.setTop (mkF m 29 #[.val (.ref v1), .val (.int (0 : Int32)), .val (.int (Int32.ofNat lm)), .val (.int (16 : Int32))] [(.int (16 : Int32)), (.int (0 : Int32)), (.ref v1), (.int (0 : Int32)), (.ref v1)])) _
          refine XS.iadd X228.here hx rfl (hb hby d38_29) rfl ?_
          show Steps p.tables e below (T228.setTop (mkF m 30 #[.val (.ref v1), .val (.int (0 : Int32)), .val (.int (Int32.ofNat lm)), .val (.int (16 : Int32))] [(.int ((0 : Int32) + (16 : Int32))), (.ref v1), (.int (0 : Int32)), (.ref v1)])) _
          refine XS.iloadN X228.here hx rfl (hb hby d38_30) rfl ?_
          show Steps p.tables e below (T228.setTop (mkF m 31 #[.val (.ref v1), .val (.int (0 : Int32)), .val (.int (Int32.ofNat lm)), .val (.int (16 : Int32))] [(.int (Int32.ofNat lm)), (.int ((0 : Int32) + (16 : Int32))), (.ref v1), (.int (0 : Int32)), (.ref v1)])) _
          refine XS.iloadN X228.here hx rfl (hb hby d38_31) rfl ?_
          show Steps p.tables e below (T228.setTop (mkF m 32 #[.val (.ref v1), .val (.int (0 : Int32)), .val (.int (Int32.ofNat lm)), .val (.int (16 : Int32))] [(.int (16 : Int32)), (.int (Int32.ofNat lm)), (.int ((0 : Int32) + (16 : Int32))), (.ref v1), (.int (0 : Int32)), (.ref v1)])) _
          refine XS.isub X228.here hx rfl (hb hby d38_32) rfl ?_
          show Steps p.tables e below (T228.setTop (mkF m 33 #[.val (.ref v1), .val (.int (0 : Int32)), .val (.int (Int32.ofNat lm)), .val (.int (16 : Int32))] [(.int ((Int32.ofNat lm) - (16 : Int32))), (.int ((0 : Int32) + (16 : Int32))), (.ref v1), (.int (0 : Int32)), (.ref v1)])) _
          rw [show Int32.ofNat lm - (16 : Int32) = Int32.ofNat (lm - 16) from own_sub (b := 16) (by omega) (by omega)]
          show Steps p.tables e below (T228.setTop (mkF m 33 #[.val (.ref v1), .val (.int (0 : Int32)), .val (.int (Int32.ofNat lm)), .val (.int (16 : Int32))] [(.int (Int32.ofNat (lm - 16))), (.int ((0 : Int32) + (16 : Int32))), (.ref v1), (.int (0 : Int32)), (.ref v1)])) _
          rw [show (0 : Int32) + (16 : Int32) = (16 : Int32) from by decide]
          show Steps p.tables e below (T228.setTop (mkF m 33 #[.val (.ref v1), .val (.int (0 : Int32)), .val (.int (Int32.ofNat lm)), .val (.int (16 : Int32))] [(.int (Int32.ofNat (lm - 16))), (.int (16 : Int32)), (.ref v1), (.int (0 : Int32)), (.ref v1)])) _
          refine st230 _ ?_
          exact kt
        obtain ⟨fs, hr, hrun, hended, hW, hsame⟩ := X230.leave (v := none) (fun _ => rfl)
        refine ⟨_, _, (pre0 _ (pre221 _ (pre225 _ (pre229 _ (pre231 _ ?_))))), hrun, hended, _, _, rfl, ?_, ⟨_, rfl⟩, hW, hsame.mono (by decide) (by decide)⟩
        · show Steps p.tables e below (T230.setTop (mkF m 36 #[.val (.ref v1), .val (.int (0 : Int32)), .val (.int (Int32.ofNat lm)), .val (.int (16 : Int32))] [])) _
          exact X230.returnOut hx Bd.returns (hb hby d38_36) hr
        · show QRCR Z v1 k1 lm h0 n0 _ T230.heap _
          rw [e230]
          exact ⟨rfl, N230, K230, by have q := V230; rw [own_fill (by omega) (by omega)] at q; exact q⟩
    · skip
      obtain ⟨T226, h226, L226, X226, e226, N226, KC226, V226, st226⟩ := own_cp X224 hx hZ hown (hw _ (List.mem_of_getElem? (i := 111) rfl)) (hw _ (List.mem_of_getElem? (i := 94) rfl)) (hw _ (List.mem_of_getElem? (i := 92) rfl)) (hw _ (List.mem_of_getElem? (i := 93) rfl)) e224 (lm) (lm) (0) (8) (lm - 8) VR4 VR4 (by simp; omega) (by simp; omega) (by omega) (by omega) (by omega) (by omega) N224 g_v1 (g := (mkF m 33 #[.val (.ref v1), .val (.int (0 : Int32)), .val (.int (Int32.ofNat lm)), .val (.int (8 : Int32))] [(.int (Int32.ofNat (lm - 8))), (.int (8 : Int32)), (.ref v1), (.int (0 : Int32)), (.ref v1)])) rfl (by rw [hml]; rfl) rfl (hb hby d38_33) (by decide) (W := 0) (by show 2 * 0 + _ ≤ _; exact Nat.le_of_eq rfl) (by decide)
      have Z226 := Nat.le_trans Z224 KC226.1
      have K226 := K224.trans KC226 (allS (Or.inl mem_v1) all0)
      have pre227 : ∀ t, Steps p.tables e below (T226.setTop (mkF m 36 #[.val (.ref v1), .val (.int (0 : Int32)), .val (.int (Int32.ofNat lm)), .val (.int (8 : Int32))] [])) t → Steps p.tables e below (T224.setTop (mkF m 4 #[.val (.ref v1), .val (.int (0 : Int32)), .val (.int (Int32.ofNat lm)), .val (.int (8 : Int32))] [(.int (Int32.ofNat (lm - 8))), (.int (8 : Int32))])) t := by
        intro t kt
        show Steps p.tables e below (T224.setTop (mkF m 4 #[.val (.ref v1), .val (.int (0 : Int32)), .val (.int (Int32.ofNat lm)), .val (.int (8 : Int32))] [(.int (Int32.ofNat (lm - 8))), (.int (8 : Int32))])) _
        refine XS.icmpYes X224.here hx rfl (pc0 := 4) (pc' := 24) rfl (hb hby d38_4) rfl (flt (by rw [show (8 : Int32) = Int32.ofNat 8 from rfl, own_lt (by omega) (by omega)]; omega : ¬ ((8 : Int32) < (Int32.ofNat (lm - 8))))).2.1 (by decide) (by decide) ?_
        show Steps p.tables e below (T224.setTop (mkF m 24 #[.val (.ref v1), .val (.int (0 : Int32)), .val (.int (Int32.ofNat lm)), .val (.int (8 : Int32))] [])) _
        refine XS.aloadN X224.here hx rfl (hb hby d38_24) rfl rfl ?_
        show Steps p.tables e below (T224.setTop (mkF m 25 #[.val (.ref v1), .val (.int (0 : Int32)), .val (.int (Int32.ofNat lm)), .val (.int (8 : Int32))] [(.ref v1)])) _
        refine XS.iloadN X224.here hx rfl (hb hby d38_25) rfl ?_
        show Steps p.tables e below (T224.setTop (mkF m 26 #[.val (.ref v1), .val (.int (0 : Int32)), .val (.int (Int32.ofNat lm)), .val (.int (8 : Int32))] [(.int (0 : Int32)), (.ref v1)])) _
        refine XS.aloadN X224.here hx rfl (hb hby d38_26) rfl rfl ?_
        show Steps p.tables e below (T224.setTop (mkF m 27 #[.val (.ref v1), .val (.int (0 : Int32)), .val (.int (Int32.ofNat lm)), .val (.int (8 : Int32))] [(.ref v1), (.int (0 : Int32)), (.ref v1)])) _
        refine XS.iloadN X224.here hx rfl (hb hby d38_27) rfl ?_
        show Steps p.tables e below (T224.setTop (mkF m 28 #[.val (.ref v1), .val (.int (0 : Int32)), .val (.int (Int32.ofNat lm)), .val (.int (8 : Int32))] [(.int (0 : Int32)), (.ref v1), (.int (0 : Int32)), (.ref v1)])) _
        refine XS.iloadN X224.here hx rfl (hb hby d38_28) rfl ?_
        show Steps p.tables e below (T224.setTop (mkF m 29 #[.val (.ref v1), .val (.int (0 : Int32)), .val (.int (Int32.ofNat lm)), .val (.int (8 : Int32))] [(.int (8 : Int32)), (.int (0 : Int32)), (.ref v1), (.int (0 : Int32)), (.ref v1)])) _
        refine XS.iadd X224.here hx rfl (hb hby d38_29) rfl ?_
        show Steps p.tables e below (T224.setTop (mkF m 30 #[.val (.ref v1), .val (.int (0 : Int32)), .val (.int (Int32.ofNat lm)), .val (.int (8 : Int32))] [(.int ((0 : Int32) + (8 : Int32))), (.ref v1), (.int (0 : Int32)), (.ref v1)])) _
        refine XS.iloadN X224.here hx rfl (hb hby d38_30) rfl ?_
        show Steps p.tables e below (T224.setTop (mkF m 31 #[.val (.ref v1), .val (.int (0 : Int32)), .val (.int (Int32.ofNat lm)), .val (.int (8 : Int32))] [(.int (Int32.ofNat lm)), (.int ((0 : Int32) + (8 : Int32))), (.ref v1), (.int (0 : Int32)), (.ref v1)])) _
        refine XS.iloadN X224.here hx rfl (hb hby d38_31) rfl ?_
        show Steps p.tables e below (T224.setTop (mkF m 32 #[.val (.ref v1), .val (.int (0 : Int32)), .val (.int (Int32.ofNat lm)), .val (.int (8 : Int32))] [(.int (8 : Int32)), (.int (Int32.ofNat lm)), (.int ((0 : Int32) + (8 : Int32))), (.ref v1), (.int (0 : Int32)), (.ref v1)])) _
        refine XS.isub X224.here hx rfl (hb hby d38_32) rfl ?_
        show Steps p.tables e below (T224.setTop (mkF m 33 #[.val (.ref v1), .val (.int (0 : Int32)), .val (.int (Int32.ofNat lm)), .val (.int (8 : Int32))] [(.int ((Int32.ofNat lm) - (8 : Int32))), (.int ((0 : Int32) + (8 : Int32))), (.ref v1), (.int (0 : Int32)), (.ref v1)])) _
        rw [show Int32.ofNat lm - (8 : Int32) = Int32.ofNat (lm - 8) from own_sub (b := 8) (by omega) (by omega)]
        show Steps p.tables e below (T224.setTop (mkF m 33 #[.val (.ref v1), .val (.int (0 : Int32)), .val (.int (Int32.ofNat lm)), .val (.int (8 : Int32))] [(.int (Int32.ofNat (lm - 8))), (.int ((0 : Int32) + (8 : Int32))), (.ref v1), (.int (0 : Int32)), (.ref v1)])) _
        rw [show (0 : Int32) + (8 : Int32) = (8 : Int32) from by decide]
        show Steps p.tables e below (T224.setTop (mkF m 33 #[.val (.ref v1), .val (.int (0 : Int32)), .val (.int (Int32.ofNat lm)), .val (.int (8 : Int32))] [(.int (Int32.ofNat (lm - 8))), (.int (8 : Int32)), (.ref v1), (.int (0 : Int32)), (.ref v1)])) _
        refine st226 _ ?_
        exact kt
      obtain ⟨fs, hr, hrun, hended, hW, hsame⟩ := X226.leave (v := none) (fun _ => rfl)
      refine ⟨_, _, (pre0 _ (pre221 _ (pre225 _ (pre227 _ ?_)))), hrun, hended, _, _, rfl, ?_, ⟨_, rfl⟩, hW, hsame.mono (by decide) (by decide)⟩
      · show Steps p.tables e below (T226.setTop (mkF m 36 #[.val (.ref v1), .val (.int (0 : Int32)), .val (.int (Int32.ofNat lm)), .val (.int (8 : Int32))] [])) _
        exact X226.returnOut hx Bd.returns (hb hby d38_36) hr
      · show QRCR Z v1 k1 lm h0 n0 _ T226.heap _
        rw [e226]
        exact ⟨rfl, N226, K226, by have q := V226; rw [own_fill (by omega) (by omega)] at q; exact q⟩
  · skip
    obtain ⟨T222, h222, L222, X222, e222, N222, KC222, V222, st222⟩ := own_cp X0 hx hZ hown (hw _ (List.mem_of_getElem? (i := 111) rfl)) (hw _ (List.mem_of_getElem? (i := 94) rfl)) (hw _ (List.mem_of_getElem? (i := 92) rfl)) (hw _ (List.mem_of_getElem? (i := 93) rfl)) e0 (lm) (lm) (0) (4) (lm - 4) BA BA (by simp; omega) (by simp; omega) (by omega) (by omega) (by omega) (by omega) N0 g_v1 (g := (mkF m 33 #[.val (.ref v1), .val (.int (0 : Int32)), .val (.int (Int32.ofNat lm)), .val (.int (4 : Int32))] [(.int (Int32.ofNat (lm - 4))), (.int (4 : Int32)), (.ref v1), (.int (0 : Int32)), (.ref v1)])) rfl (by rw [hml]; rfl) rfl (hb hby d38_33) (by decide) (W := 0) (by show 2 * 0 + _ ≤ _; exact Nat.le_of_eq rfl) (by decide)
    have Z222 := Nat.le_trans Z0 KC222.1
    have K222 := (Keep.refl h0 [v1]).trans KC222 (allS (Or.inl mem_v1) all0)
    have pre223 : ∀ t, Steps p.tables e below (T222.setTop (mkF m 36 #[.val (.ref v1), .val (.int (0 : Int32)), .val (.int (Int32.ofNat lm)), .val (.int (4 : Int32))] [])) t → Steps p.tables e below (s₁.setTop (mkF m 4 #[.val (.ref v1), .val (.int (0 : Int32)), .val (.int (Int32.ofNat lm)), .val (.int (4 : Int32))] [(.int (Int32.ofNat (lm - 4))), (.int (4 : Int32))])) t := by
      intro t kt
      show Steps p.tables e below (s₁.setTop (mkF m 4 #[.val (.ref v1), .val (.int (0 : Int32)), .val (.int (Int32.ofNat lm)), .val (.int (4 : Int32))] [(.int (Int32.ofNat (lm - 4))), (.int (4 : Int32))])) _
      refine XS.icmpYes X0.here hx rfl (pc0 := 4) (pc' := 24) rfl (hb hby d38_4) rfl (flt (by rw [show (4 : Int32) = Int32.ofNat 4 from rfl, own_lt (by omega) (by omega)]; omega : ¬ ((4 : Int32) < (Int32.ofNat (lm - 4))))).2.1 (by decide) (by decide) ?_
      show Steps p.tables e below (s₁.setTop (mkF m 24 #[.val (.ref v1), .val (.int (0 : Int32)), .val (.int (Int32.ofNat lm)), .val (.int (4 : Int32))] [])) _
      refine XS.aloadN X0.here hx rfl (hb hby d38_24) rfl rfl ?_
      show Steps p.tables e below (s₁.setTop (mkF m 25 #[.val (.ref v1), .val (.int (0 : Int32)), .val (.int (Int32.ofNat lm)), .val (.int (4 : Int32))] [(.ref v1)])) _
      refine XS.iloadN X0.here hx rfl (hb hby d38_25) rfl ?_
      show Steps p.tables e below (s₁.setTop (mkF m 26 #[.val (.ref v1), .val (.int (0 : Int32)), .val (.int (Int32.ofNat lm)), .val (.int (4 : Int32))] [(.int (0 : Int32)), (.ref v1)])) _
      refine XS.aloadN X0.here hx rfl (hb hby d38_26) rfl rfl ?_
      show Steps p.tables e below (s₁.setTop (mkF m 27 #[.val (.ref v1), .val (.int (0 : Int32)), .val (.int (Int32.ofNat lm)), .val (.int (4 : Int32))] [(.ref v1), (.int (0 : Int32)), (.ref v1)])) _
      refine XS.iloadN X0.here hx rfl (hb hby d38_27) rfl ?_
      show Steps p.tables e below (s₁.setTop (mkF m 28 #[.val (.ref v1), .val (.int (0 : Int32)), .val (.int (Int32.ofNat lm)), .val (.int (4 : Int32))] [(.int (0 : Int32)), (.ref v1), (.int (0 : Int32)), (.ref v1)])) _
      refine XS.iloadN X0.here hx rfl (hb hby d38_28) rfl ?_
      show Steps p.tables e below (s₁.setTop (mkF m 29 #[.val (.ref v1), .val (.int (0 : Int32)), .val (.int (Int32.ofNat lm)), .val (.int (4 : Int32))] [(.int (4 : Int32)), (.int (0 : Int32)), (.ref v1), (.int (0 : Int32)), (.ref v1)])) _
      refine XS.iadd X0.here hx rfl (hb hby d38_29) rfl ?_
      show Steps p.tables e below (s₁.setTop (mkF m 30 #[.val (.ref v1), .val (.int (0 : Int32)), .val (.int (Int32.ofNat lm)), .val (.int (4 : Int32))] [(.int ((0 : Int32) + (4 : Int32))), (.ref v1), (.int (0 : Int32)), (.ref v1)])) _
      refine XS.iloadN X0.here hx rfl (hb hby d38_30) rfl ?_
      show Steps p.tables e below (s₁.setTop (mkF m 31 #[.val (.ref v1), .val (.int (0 : Int32)), .val (.int (Int32.ofNat lm)), .val (.int (4 : Int32))] [(.int (Int32.ofNat lm)), (.int ((0 : Int32) + (4 : Int32))), (.ref v1), (.int (0 : Int32)), (.ref v1)])) _
      refine XS.iloadN X0.here hx rfl (hb hby d38_31) rfl ?_
      show Steps p.tables e below (s₁.setTop (mkF m 32 #[.val (.ref v1), .val (.int (0 : Int32)), .val (.int (Int32.ofNat lm)), .val (.int (4 : Int32))] [(.int (4 : Int32)), (.int (Int32.ofNat lm)), (.int ((0 : Int32) + (4 : Int32))), (.ref v1), (.int (0 : Int32)), (.ref v1)])) _
      refine XS.isub X0.here hx rfl (hb hby d38_32) rfl ?_
      show Steps p.tables e below (s₁.setTop (mkF m 33 #[.val (.ref v1), .val (.int (0 : Int32)), .val (.int (Int32.ofNat lm)), .val (.int (4 : Int32))] [(.int ((Int32.ofNat lm) - (4 : Int32))), (.int ((0 : Int32) + (4 : Int32))), (.ref v1), (.int (0 : Int32)), (.ref v1)])) _
      rw [show Int32.ofNat lm - (4 : Int32) = Int32.ofNat (lm - 4) from own_sub (b := 4) (by omega) (by omega)]
      show Steps p.tables e below (s₁.setTop (mkF m 33 #[.val (.ref v1), .val (.int (0 : Int32)), .val (.int (Int32.ofNat lm)), .val (.int (4 : Int32))] [(.int (Int32.ofNat (lm - 4))), (.int ((0 : Int32) + (4 : Int32))), (.ref v1), (.int (0 : Int32)), (.ref v1)])) _
      rw [show (0 : Int32) + (4 : Int32) = (4 : Int32) from by decide]
      show Steps p.tables e below (s₁.setTop (mkF m 33 #[.val (.ref v1), .val (.int (0 : Int32)), .val (.int (Int32.ofNat lm)), .val (.int (4 : Int32))] [(.int (Int32.ofNat (lm - 4))), (.int (4 : Int32)), (.ref v1), (.int (0 : Int32)), (.ref v1)])) _
      refine st222 _ ?_
      exact kt
    obtain ⟨fs, hr, hrun, hended, hW, hsame⟩ := X222.leave (v := none) (fun _ => rfl)
    refine ⟨_, _, (pre0 _ (pre221 _ (pre223 _ ?_))), hrun, hended, _, _, rfl, ?_, ⟨_, rfl⟩, hW, hsame.mono (by decide) (by decide)⟩
    · show Steps p.tables e below (T222.setTop (mkF m 36 #[.val (.ref v1), .val (.int (0 : Int32)), .val (.int (Int32.ofNat lm)), .val (.int (4 : Int32))] [])) _
      exact X222.returnOut hx Bd.returns (hb hby d38_36) hr
    · show QRCR Z v1 k1 lm h0 n0 _ T222.heap _
      rw [e222]
      exact ⟨rfl, N222, K222, by have q := V222; rw [own_fill (by omega) (by omega)] at q; exact q⟩
theorem ef_Rep (m : MethodId) (x0 : Addr) (x1 : Int32) : entryFrame m #[(.ref x0), (.int x1)] 5 = mkF m 0 #[.val (.ref x0), .val (.int x1), .unset, .unset, .unset] [] := by (first | (simp [entryFrame, mkF, argsToLocals, Value.category]; done) | rfl)
def QRep (Z : State) (x1 : Addr) (t1 : Addr) (kx : ClassId) (pn : Nat) (h0 : Heap) (n0 : Nat) (v : Option Value) (h : Heap) (L : List Loc) (vm : Vm) : Prop := ∃ x2, v = some (.ref x2) ∧ Fr n0 L ∧ Ext h0 h ∧ ∃ (t2 : Addr) (k2 : ClassId), (Exa Z h x2 "java/lang/String" ∧ Fld Z h x2 "java/lang/String" "value" "[B" (.ref t2) ∧ Fld Z h x2 "java/lang/String" "coder" "B" (.int (0 : Int32)) ∧ Arv Z h t2 k2 .byte (Int32.ofNat (4 * pn)) (List.replicate (4 * pn) (.int (32 : Int32))) (.int (0 : Int32))) ∧ (t2 = t1 ∨ h0.size ≤ t2 ∨ ∀ y, Safe Z EL vm h y → y ≠ t2)
theorem d27_0 : decode jdk_42_method_145_code 0 = .ok (.iload_n 1, 1) := by decide +kernel
theorem d27_1 : decode jdk_42_method_145_code 1 = .ok (.ifCond .ge 31, 3) := by decide +kernel
theorem d27_32 : decode jdk_42_method_145_code 32 = .ok (.iload_n 1, 1) := by decide +kernel
theorem d27_33 : decode jdk_42_method_145_code 33 = .ok (.iconst 1, 1) := by decide +kernel
theorem d27_34 : decode jdk_42_method_145_code 34 = .ok (.if_icmp .ne 5, 3) := by decide +kernel
theorem d27_37 : decode jdk_42_method_145_code 37 = .ok (.aload_n 0, 1) := by decide +kernel
theorem d27_38 : decode jdk_42_method_145_code 38 = .ok (.areturn, 1) := by decide +kernel
theorem d27_39 : decode jdk_42_method_145_code 39 = .ok (.aload_n 0, 1) := by decide +kernel
theorem d27_40 : decode jdk_42_method_145_code 40 = .ok (.getfield 9, 3) := by decide +kernel
theorem d27_43 : decode jdk_42_method_145_code 43 = .ok (.arraylength, 1) := by decide +kernel
theorem d27_44 : decode jdk_42_method_145_code 44 = .ok (.istore_n 2, 1) := by decide +kernel
theorem d27_45 : decode jdk_42_method_145_code 45 = .ok (.iload_n 2, 1) := by decide +kernel
theorem d27_46 : decode jdk_42_method_145_code 46 = .ok (.ifCond .eq 7, 3) := by decide +kernel
theorem d27_49 : decode jdk_42_method_145_code 49 = .ok (.iload_n 1, 1) := by decide +kernel
theorem d27_50 : decode jdk_42_method_145_code 50 = .ok (.ifCond .ne 6, 3) := by decide +kernel
theorem d27_53 : decode jdk_42_method_145_code 53 = .ok (.ldc 7, 2) := by decide +kernel
theorem d27_55 : decode jdk_42_method_145_code 55 = .ok (.areturn, 1) := by decide +kernel
theorem d27_56 : decode jdk_42_method_145_code 56 = .ok (.ldc_w 943, 3) := by decide +kernel
theorem d27_59 : decode jdk_42_method_145_code 59 = .ok (.iload_n 1, 1) := by decide +kernel
theorem d27_60 : decode jdk_42_method_145_code 60 = .ok (.idiv, 1) := by decide +kernel
theorem d27_61 : decode jdk_42_method_145_code 61 = .ok (.iload_n 2, 1) := by decide +kernel
theorem d27_62 : decode jdk_42_method_145_code 62 = .ok (.if_icmp .ge 14, 3) := by decide +kernel
theorem d27_76 : decode jdk_42_method_145_code 76 = .ok (.iload_n 2, 1) := by decide +kernel
theorem d27_77 : decode jdk_42_method_145_code 77 = .ok (.iconst 1, 1) := by decide +kernel
theorem d27_78 : decode jdk_42_method_145_code 78 = .ok (.if_icmp .ne 30, 3) := by decide +kernel
theorem d27_108 : decode jdk_42_method_145_code 108 = .ok (.iload_n 2, 1) := by decide +kernel
theorem d27_109 : decode jdk_42_method_145_code 109 = .ok (.iload_n 1, 1) := by decide +kernel
theorem d27_110 : decode jdk_42_method_145_code 110 = .ok (.imul, 1) := by decide +kernel
theorem d27_111 : decode jdk_42_method_145_code 111 = .ok (.istore_n 3, 1) := by decide +kernel
theorem d27_112 : decode jdk_42_method_145_code 112 = .ok (.iload_n 3, 1) := by decide +kernel
theorem d27_113 : decode jdk_42_method_145_code 113 = .ok (.newarray .byte, 2) := by decide +kernel
theorem d27_115 : decode jdk_42_method_145_code 115 = .ok (.astore 4, 2) := by decide +kernel
theorem d27_117 : decode jdk_42_method_145_code 117 = .ok (.aload_n 0, 1) := by decide +kernel
theorem d27_118 : decode jdk_42_method_145_code 118 = .ok (.getfield 9, 3) := by decide +kernel
theorem d27_121 : decode jdk_42_method_145_code 121 = .ok (.iconst 0, 1) := by decide +kernel
theorem d27_122 : decode jdk_42_method_145_code 122 = .ok (.aload 4, 2) := by decide +kernel
theorem d27_124 : decode jdk_42_method_145_code 124 = .ok (.iconst 0, 1) := by decide +kernel
theorem d27_125 : decode jdk_42_method_145_code 125 = .ok (.iload_n 2, 1) := by decide +kernel
theorem d27_126 : decode jdk_42_method_145_code 126 = .ok (.invokestatic 212, 3) := by decide +kernel
theorem d27_129 : decode jdk_42_method_145_code 129 = .ok (.aload 4, 2) := by decide +kernel
theorem d27_131 : decode jdk_42_method_145_code 131 = .ok (.iconst 0, 1) := by decide +kernel
theorem d27_132 : decode jdk_42_method_145_code 132 = .ok (.iload_n 3, 1) := by decide +kernel
theorem d27_133 : decode jdk_42_method_145_code 133 = .ok (.iload_n 2, 1) := by decide +kernel
theorem d27_134 : decode jdk_42_method_145_code 134 = .ok (.invokestatic 1044, 3) := by decide +kernel
theorem pd___BIII_V : parseMethodDescriptor "([BIII)V" = some ⟨[(.array .byte), .int, .int, .int], none⟩ := by decide +kernel
theorem d27_137 : decode jdk_42_method_145_code 137 = .ok (.new 10, 3) := by decide +kernel
theorem d27_140 : decode jdk_42_method_145_code 140 = .ok (.dup, 1) := by decide +kernel
theorem d27_141 : decode jdk_42_method_145_code 141 = .ok (.aload 4, 2) := by decide +kernel
theorem d27_143 : decode jdk_42_method_145_code 143 = .ok (.aload_n 0, 1) := by decide +kernel
theorem d27_144 : decode jdk_42_method_145_code 144 = .ok (.getfield 15, 3) := by decide +kernel
theorem d27_147 : decode jdk_42_method_145_code 147 = .ok (.invokespecial 209, 3) := by decide +kernel
theorem pd___BB_V : parseMethodDescriptor "([BB)V" = some ⟨[(.array .byte), .byte], none⟩ := by decide +kernel
theorem d27_150 : decode jdk_42_method_145_code 150 = .ok (.areturn, 1) := by decide +kernel
set_option maxRecDepth 65536 in
set_option maxHeartbeats 40000000 in
theorem rmRep (l : Launch) (Z : State) (a0 : Array Value) (hw : ∀ d ∈ tables_1, d.before a0 Z = true) (ws : List Jvm.Cond) (x1 : Addr) (t1 : Addr) (kx : ClassId) (pn : Nat) (h0 : Heap) (n0 : Nat) (Z0 : n0 ≤ h0.size) (hEL : EW Z a0 EL) (XE : Exa Z h0 x1 "java/lang/String") (XV : Fld Z h0 x1 "java/lang/String" "value" "[B" (.ref t1)) (XC : Fld Z h0 x1 "java/lang/String" "coder" "B" (.int (0 : Int32))) (XA : Arv Z h0 t1 kx .byte (Int32.ofNat 4) [(.int (32 : Int32)), (.int (32 : Int32)), (.int (32 : Int32)), (.int (32 : Int32))] (.int (0 : Int32))) (hpM : 4 * pn ≤ 160) :
    MetFree l (⟨"java/lang/String", "repeat", "(I)Ljava/lang/String;"⟩ : MethodName) (head1 (Jvm.Cond.code (⟨"java/lang/String", "repeat", "(I)Ljava/lang/String;"⟩ : MethodName) jdk_42_method_145_code 5 (some (.object "java/lang/String")) :: ws) ({ frames := 2, cells := 2, slots := 164, locals := 80 } : Room)) (fun a U => a = #[(.ref x1), (.int (Int32.ofNat pn))] ∧ Z.Warmed39 U.vm ∧ U.heap = h0 ∧ CHv Z EL U.vm h0) (fun _ _ _ _ _ => True) (fun _ U o U' => ∃ v L, o = .returned v ∧ QRep Z x1 t1 kx pn h0 n0 v U'.heap L U'.vm ∧ CHr Z EL U.vm U.heap U'.vm U'.heap ∧ ReturnedEndW U o U' L ({ frames := 2, cells := 2, slots := 164, locals := 80 } : Room).cells ({ frames := 2, cells := 2, slots := 164, locals := 80 } : Room).slots) := by
  refine MetFree.of_bodySF (plainFor_of_name pn_java_lang_String) hisR ?_
  intro p e s m args below meth c s₁ Bd hml0 hP hK
  obtain ⟨rfl, hZ, hh, hCH⟩ := hP
  have hx := Bd.exec
  have hby := Bd.bytes
  have hml : c.maxLocals = 5 := hml0
  have hown : s.vm.findClass "java/lang/String" = some m.cls := findClass_of_methodNamed Bd.named
  have hnm := (name_of_methodNamed Bd.named Bd.method).1
  have X0 : Stand p l e ({ frames := 2, cells := 2, slots := 164, locals := 80 } : Room) s m #[(.ref x1), (.int (Int32.ofNat pn))] below meth c s₁ [] 0 0 := Stand.of_body Bd
  have e0 : s₁.heap = h0 := by rw [← hh, Bd.state]; rfl
  have N0 := Fr.nil n0
  have pre0 : ∀ t, Steps p.tables e below (s₁.setTop (mkF m 0 #[.val (.ref x1), .val (.int (Int32.ofNat pn)), .unset, .unset, .unset] [])) t → Steps p.tables e below (s₁.setTop (entryFrame m #[(.ref x1), (.int (Int32.ofNat pn))] 5)) t := fun t k => castTop (ef_Rep m x1 (Int32.ofNat pn)) k
  have X0 : Stand p l e ({ frames := 2, cells := 2, slots := 164, locals := 80 } : Room) (s.setVm s.vm) m #[(.ref x1), (.int (Int32.ofNat pn))] below meth c s₁ [] 0 0 := by rw [State.setVm_self]; exact X0
  have hZ : Z.Warmed39 (s.setVm s.vm).vm := hZ
  have hown : (s.setVm s.vm).vm.findClass "java/lang/String" = some m.cls := hown
  have hSi0 : s.Since s.vm 0 := (State.WarmedH.refl s).since 0
  rcases own_three pn with rfl | rfl | hp2
  · skip
    obtain ⟨T244, X244, e244, st244⟩ := getF X0 hx hZ hown (host := "") (Or.inl (hw _ (List.mem_of_getElem? (i := 54) rfl))) Via.refl e0 XV (g := (mkF m 40 #[.val (.ref x1), .val (.int (Int32.ofNat 0)), .unset, .unset, .unset] [(.ref x1)])) rfl rfl (hb hby d27_40)
    obtain ⟨c245, Ar245, -, S245, M245, -, -⟩ := id XA
    have pre246 : ∀ t, Steps p.tables e below (T244.setTop (mkF m 53 #[.val (.ref x1), .val (.int (Int32.ofNat 0)), .val (.int (Int32.ofNat 4)), .unset, .unset] [])) t → Steps p.tables e below (s₁.setTop (mkF m 0 #[.val (.ref x1), .val (.int (Int32.ofNat 0)), .unset, .unset, .unset] [])) t := by
      intro t kt
      show Steps p.tables e below (s₁.setTop (mkF m 0 #[.val (.ref x1), .val (.int (Int32.ofNat 0)), .unset, .unset, .unset] [])) _
      refine XS.iloadN X0.here hx rfl (hb hby d27_0) rfl ?_
      show Steps p.tables e below (s₁.setTop (mkF m 1 #[.val (.ref x1), .val (.int (Int32.ofNat 0)), .unset, .unset, .unset] [(.int (Int32.ofNat 0))])) _
      refine XS.ifYes X0.here hx rfl (pc0 := 1) (pc' := 32) rfl (hb hby d27_1) rfl ((if0 _ _).trans (flt (by decide : ¬ ((Int32.ofNat 0) < (0 : Int32)))).2.1) (by decide) (by decide) ?_
      show Steps p.tables e below (s₁.setTop (mkF m 32 #[.val (.ref x1), .val (.int (Int32.ofNat 0)), .unset, .unset, .unset] [])) _
      refine XS.iloadN X0.here hx rfl (hb hby d27_32) rfl ?_
      show Steps p.tables e below (s₁.setTop (mkF m 33 #[.val (.ref x1), .val (.int (Int32.ofNat 0)), .unset, .unset, .unset] [(.int (Int32.ofNat 0))])) _
      refine XS.iconst X0.here hx rfl (hb hby d27_33) ?_
      show Steps p.tables e below (s₁.setTop (mkF m 34 #[.val (.ref x1), .val (.int (Int32.ofNat 0)), .unset, .unset, .unset] [(.int (1 : Int32)), (.int (Int32.ofNat 0))])) _
      refine XS.icmpYes X0.here hx rfl (pc0 := 34) (pc' := 39) rfl (hb hby d27_34) rfl (feq (by decide : ¬ ((Int32.ofNat 0) = (1 : Int32)))).2 (by decide) (by decide) ?_
      show Steps p.tables e below (s₁.setTop (mkF m 39 #[.val (.ref x1), .val (.int (Int32.ofNat 0)), .unset, .unset, .unset] [])) _
      refine XS.aloadN X0.here hx rfl (hb hby d27_39) rfl rfl ?_
      show Steps p.tables e below (s₁.setTop (mkF m 40 #[.val (.ref x1), .val (.int (Int32.ofNat 0)), .unset, .unset, .unset] [(.ref x1)])) _
      refine st244 _ ?_
      show Steps p.tables e below (T244.setTop (mkF m 43 #[.val (.ref x1), .val (.int (Int32.ofNat 0)), .unset, .unset, .unset] [(.ref t1)])) _
      refine X244.arraylength hx (by rw [e244]; exact Ar245.1) (State.isArrayOf_alike hZ.alike Ar245.2.1) (g := (mkF m 43 #[.val (.ref x1), .val (.int (Int32.ofNat 0)), .unset, .unset, .unset] [(.ref t1)])) rfl rfl (hb hby d27_43) _ ?_
      rw [len_of S245 M245]
      show Steps p.tables e below (T244.setTop (mkF m 44 #[.val (.ref x1), .val (.int (Int32.ofNat 0)), .unset, .unset, .unset] [(.int (Int32.ofNat 4))])) _
      refine XS.istoreN X244.here hx rfl (hb hby d27_44) rfl (l' := #[.val (.ref x1), .val (.int (Int32.ofNat 0)), .val (.int (Int32.ofNat 4)), .unset, .unset]) rfl ?_
      show Steps p.tables e below (T244.setTop (mkF m 45 #[.val (.ref x1), .val (.int (Int32.ofNat 0)), .val (.int (Int32.ofNat 4)), .unset, .unset] [])) _
      refine XS.iloadN X244.here hx rfl (hb hby d27_45) rfl ?_
      show Steps p.tables e below (T244.setTop (mkF m 46 #[.val (.ref x1), .val (.int (Int32.ofNat 0)), .val (.int (Int32.ofNat 4)), .unset, .unset] [(.int (Int32.ofNat 4))])) _
      refine XS.ifNo X244.here hx rfl (hb hby d27_46) rfl ((if0 _ _).trans (feq (by decide : ¬ ((Int32.ofNat 4) = (0 : Int32)))).1) ?_
      show Steps p.tables e below (T244.setTop (mkF m 49 #[.val (.ref x1), .val (.int (Int32.ofNat 0)), .val (.int (Int32.ofNat 4)), .unset, .unset] [])) _
      refine XS.iloadN X244.here hx rfl (hb hby d27_49) rfl ?_
      show Steps p.tables e below (T244.setTop (mkF m 50 #[.val (.ref x1), .val (.int (Int32.ofNat 0)), .val (.int (Int32.ofNat 4)), .unset, .unset] [(.int (Int32.ofNat 0))])) _
      refine XS.ifNo X244.here hx rfl (hb hby d27_50) rfl ((if0 _ _).trans (teq (rfl : (Int32.ofNat 0) = (0 : Int32))).2) ?_
      exact kt
    have wS247 : ∀ a ∈ Bundle.stringAtoms, a.before a0 Z = true := fun d hd => hw d ((by decide +kernel : ∀ d ∈ Bundle.stringAtoms, d ∈ tables_1) d hd)
    obtain ⟨b247, T247, h247, k247, d247, kb247, X247, e247, E247, hSi247, hk247, hZ, hown, A247, FC247, FV247, V247, -, -, crs247, Lt247, nn247, st247⟩ := ldcCH (s := s) (vm0 := s.vm) X244 hx hZ hown (hw _ (List.mem_of_getElem? (i := 170) rfl)) wS247 e244 hSi0 (Nat.zero_le _) hEL (by decide : ("java/lang/String", 7) ∈ EL) hCH (vs := []) (z := (0 : Int32)) ⟨by decide, rfl⟩ (by decide) (by decide) (g := (mkF m 53 #[.val (.ref x1), .val (.int (Int32.ofNat 0)), .val (.int (Int32.ofNat 4)), .unset, .unset] [])) rfl (hb hby d27_53) (n := 0) (by decide) (by decide) (by decide) (by decide)
    have cs248 := crs247
    have cr248 := (CHr.refl hCH).trans cs248
    have Z247 := Nat.le_trans Z0 E247.1
    have K247 := (Keep.refl h0 []).ext E247
    have nf : ∀ y, Safe Z EL T247.vm h247 y → y ≠ d247 := fun y q => (nn247 y q).2
    have pre249 : ∀ t, Steps p.tables e below (T247.setTop (mkF m 55 #[.val (.ref x1), .val (.int (Int32.ofNat 0)), .val (.int (Int32.ofNat 4)), .unset, .unset] [(.ref b247)])) t → Steps p.tables e below (T244.setTop (mkF m 53 #[.val (.ref x1), .val (.int (Int32.ofNat 0)), .val (.int (Int32.ofNat 4)), .unset, .unset] [])) t := by
      intro t kt
      show Steps p.tables e below (T244.setTop (mkF m 53 #[.val (.ref x1), .val (.int (Int32.ofNat 0)), .val (.int (Int32.ofNat 4)), .unset, .unset] [])) _
      refine st247 _ ?_
      exact kt
    obtain ⟨fs, hr, hrun, hended, e1, e2, e3, e4⟩ := X247.leaveW hSi247 (by rw [e247]; exact hk247) (v := some (.ref b247)) (fun h => by rw [Bd.returns] at h; cases h)
    refine ⟨_, _, (pre0 _ (pre246 _ (pre249 _ ?_))), hrun, hended, _, _, rfl, ?_, ?_, ⟨e1, e2, e3, e4.mono (by decide) (by decide)⟩⟩
    · show Steps p.tables e below (T247.setTop (mkF m 55 #[.val (.ref x1), .val (.int (Int32.ofNat 0)), .val (.int (Int32.ofNat 4)), .unset, .unset] [(.ref b247)])) _
      exact retOut X247 hx (t := (.object "java/lang/String")) Bd.returns rfl (Or.inr (Or.inr (Or.inr (Or.inr ⟨rfl, rfl, rfl⟩)))) (hb hby d27_55) hr
    · show QRep Z x1 t1 kx 0 h0 n0 _ T247.heap _ T247.vm
      rw [e247]
      exact ⟨b247, rfl, N0, own_ext K247, d247, kb247, ⟨A247, FV247, FC247, V247⟩, Or.inr (Or.inr nf)⟩
    · have q := cr248.trans (CHv.at X247 hZ hEL cs248.1)
      show CHr Z EL s.vm s.heap T247.vm T247.heap
      rw [hh, e247]
      exact q
  · skip
    have pre243 : ∀ t, Steps p.tables e below (s₁.setTop (mkF m 38 #[.val (.ref x1), .val (.int (Int32.ofNat 1)), .unset, .unset, .unset] [(.ref x1)])) t → Steps p.tables e below (s₁.setTop (mkF m 0 #[.val (.ref x1), .val (.int (Int32.ofNat 1)), .unset, .unset, .unset] [])) t := by
      intro t kt
      show Steps p.tables e below (s₁.setTop (mkF m 0 #[.val (.ref x1), .val (.int (Int32.ofNat 1)), .unset, .unset, .unset] [])) _
      refine XS.iloadN X0.here hx rfl (hb hby d27_0) rfl ?_
      show Steps p.tables e below (s₁.setTop (mkF m 1 #[.val (.ref x1), .val (.int (Int32.ofNat 1)), .unset, .unset, .unset] [(.int (Int32.ofNat 1))])) _
      refine XS.ifYes X0.here hx rfl (pc0 := 1) (pc' := 32) rfl (hb hby d27_1) rfl ((if0 _ _).trans (flt (by decide : ¬ ((Int32.ofNat 1) < (0 : Int32)))).2.1) (by decide) (by decide) ?_
      show Steps p.tables e below (s₁.setTop (mkF m 32 #[.val (.ref x1), .val (.int (Int32.ofNat 1)), .unset, .unset, .unset] [])) _
      refine XS.iloadN X0.here hx rfl (hb hby d27_32) rfl ?_
      show Steps p.tables e below (s₁.setTop (mkF m 33 #[.val (.ref x1), .val (.int (Int32.ofNat 1)), .unset, .unset, .unset] [(.int (Int32.ofNat 1))])) _
      refine XS.iconst X0.here hx rfl (hb hby d27_33) ?_
      show Steps p.tables e below (s₁.setTop (mkF m 34 #[.val (.ref x1), .val (.int (Int32.ofNat 1)), .unset, .unset, .unset] [(.int (1 : Int32)), (.int (Int32.ofNat 1))])) _
      refine XS.icmpNo X0.here hx rfl (hb hby d27_34) rfl (teq (rfl : (Int32.ofNat 1) = (1 : Int32))).2 ?_
      show Steps p.tables e below (s₁.setTop (mkF m 37 #[.val (.ref x1), .val (.int (Int32.ofNat 1)), .unset, .unset, .unset] [])) _
      refine XS.aloadN X0.here hx rfl (hb hby d27_37) rfl rfl ?_
      exact kt
    obtain ⟨fs, hr, hrun, hended, e1, e2, e3, e4⟩ := X0.leaveW hSi0 (by rw [e0]; exact (Nat.zero_le _)) (v := some (.ref x1)) (fun h => by rw [Bd.returns] at h; cases h)
    refine ⟨_, _, (pre0 _ (pre243 _ ?_)), hrun, hended, _, _, rfl, ?_, ?_, ⟨e1, e2, e3, e4.mono (by decide) (by decide)⟩⟩
    · show Steps p.tables e below (s₁.setTop (mkF m 38 #[.val (.ref x1), .val (.int (Int32.ofNat 1)), .unset, .unset, .unset] [(.ref x1)])) _
      exact retOut X0 hx (t := (.object "java/lang/String")) Bd.returns rfl (Or.inr (Or.inr (Or.inr (Or.inr ⟨rfl, rfl, rfl⟩)))) (hb hby d27_38) hr
    · show QRep Z x1 t1 kx 1 h0 n0 _ s₁.heap _ s₁.vm
      rw [e0]
      exact ⟨x1, rfl, N0, own_ext (Keep.refl h0 []), t1, kx, ⟨XE, XV, XC, XA⟩, Or.inl rfl⟩
    · have q := (CHr.refl hCH).trans (CHv.at X0 hZ hEL hCH)
      show CHr Z EL s.vm s.heap s₁.vm s₁.heap
      rw [hh, e0]
      exact q
  · skip
    obtain ⟨T250, X250, e250, st250⟩ := getF X0 hx hZ hown (host := "") (Or.inl (hw _ (List.mem_of_getElem? (i := 54) rfl))) Via.refl e0 XV (g := (mkF m 40 #[.val (.ref x1), .val (.int (Int32.ofNat pn)), .unset, .unset, .unset] [(.ref x1)])) rfl rfl (hb hby d27_40)
    obtain ⟨c251, Ar251, -, S251, M251, -, -⟩ := id XA
    obtain ⟨T252, h252, k252, X252, e252, E252, A252, st252⟩ := newP X250 hx hZ (hw _ (List.mem_of_getElem? (i := 7) rfl)) e250 (g := (mkF m 113 #[.val (.ref x1), .val (.int (Int32.ofNat pn)), .val (.int (Int32.ofNat 4)), .val (.int (Int32.ofNat (4 * pn))), .unset] [(.int (Int32.ofNat (4 * pn)))])) rfl (hb hby d27_113) rfl (own_nn (by omega)) (cap := 160) (by rw [own_nc (by omega)]; exact hpM) (by decide) (by decide) (by decide)
    obtain ⟨b252, g252⟩ : ∃ z, z = h0.size := ⟨_, rfl⟩
    rw [← g252] at A252 st252
    have g_b252 : n0 ≤ b252 := Nat.le_trans Z0 (Nat.le_of_eq g252.symm)
    have sz_b252 : h0.size ≤ b252 := Nat.le_trans (Keep.refl h0 []).1 (Nat.le_of_eq g252.symm)
    have ne_x1_b252 : x1 ≠ b252 := Nat.ne_of_lt (Nat.lt_of_lt_of_le XE.lt (Nat.le_of_eq g252.symm))
    have ne_t1_b252 : t1 ≠ b252 := Nat.ne_of_lt (Nat.lt_of_lt_of_le XA.lt (Nat.le_of_eq g252.symm))
    have cs253 := CHr.ext E252 hCH
    have cr253 := (CHr.refl hCH).trans cs253
    have hk253 := Nat.le_trans (Nat.zero_le _) cs253.2.1
    have Z252 := Nat.le_trans Z0 E252.1
    have K252 := (Keep.refl h0 []).ext E252
    have V252 := Arv.new A252 (own_nn (by omega))
    have VP : Arv Z h252 b252 k252 .byte (Int32.ofNat (4 * pn)) (List.replicate (4 * pn) (.int (0 : Int32))) (.int (0 : Int32)) := V252.pad (pad_rep [] (.int (0 : Int32)) (4 * pn))
    have yb252 := own_safeE E252 hCH (Nat.le_of_eq g252.symm)
    have f254 := (XV.ext E252)
    obtain ⟨T255, X255, e255, st255⟩ := getF X252 hx hZ hown (host := "") (Or.inl (hw _ (List.mem_of_getElem? (i := 54) rfl))) Via.refl e252 f254 (g := (mkF m 118 #[.val (.ref x1), .val (.int (Int32.ofNat pn)), .val (.int (Int32.ofNat 4)), .val (.int (Int32.ofNat (4 * pn))), .val (.ref b252)] [(.ref x1)])) rfl rfl (hb hby d27_118)
    have f256 := (XA.ext E252)
    obtain ⟨T257, h257, L257, X257, e257, N257, KC257, V257, st257⟩ := own_cp X255 hx hZ hown (hw _ (List.mem_of_getElem? (i := 111) rfl)) (hw _ (List.mem_of_getElem? (i := 94) rfl)) (hw _ (List.mem_of_getElem? (i := 92) rfl)) (hw _ (List.mem_of_getElem? (i := 93) rfl)) e255 (4) (4 * pn) (0) (0) (4) f256 VP rfl (by simp) (by omega) (by omega) (by omega) (by omega) N0 g_b252 (g := (mkF m 126 #[.val (.ref x1), .val (.int (Int32.ofNat pn)), .val (.int (Int32.ofNat 4)), .val (.int (Int32.ofNat (4 * pn))), .val (.ref b252)] [(.int (Int32.ofNat 4)), (.int (0 : Int32)), (.ref b252), (.int (0 : Int32)), (.ref t1)])) rfl (by rw [hml]; rfl) rfl (hb hby d27_126) (by decide) (W := 0) (by show 2 * 0 + _ ≤ _; exact Nat.le_of_eq rfl) (by decide)
    have cs258 := CHr.keep KC257 (allS yb252 all0) cs253.1
    have cr258 := cr253.trans cs258
    have y258_b252 := cs258.safe VP.lt yb252
    have hk258 := Nat.le_trans hk253 cs258.2.1
    have Z257 := Nat.le_trans Z252 KC257.1
    have K257 := K252.trans KC257 (allS (Or.inr sz_b252) all0)
    have V4 : Arv Z h257 b252 k252 .byte (Int32.ofNat (4 * pn)) (List.replicate 4 (.int (32 : Int32)) ++ List.replicate (4 * pn - 4) (.int (0 : Int32))) (.int (0 : Int32)) := by have q := V257; simp at q; simpa using q
    obtain ⟨_, _, ⟨T259, L259, k259, n259⟩, -, X259, ⟨Lc259, hQ259, l259, y259, z259⟩, st259⟩ := Jvm.LawKit.callS X257 hx (y := (⟨"java/lang/String", "repeatCopyRest", "([BIII)V"⟩ : MethodName)) hown (mvT hZ (hw _ (List.mem_of_getElem? (i := 220) rfl))) (mvT hZ (hw _ (List.mem_of_getElem? (i := 221) rfl))) (mvT hZ (hw _ (List.mem_of_getElem? (i := 5) rfl))) (mvT hZ (hw _ (List.mem_of_getElem? (i := 222) rfl))) (by decide) (backOf (W := 0) (rmRCR l Z a0 hw [] b252 k252 (4 * pn) h257 n0 Z257 V4 g_b252 (by omega) hpM) hZ (hw _ (List.mem_of_getElem? (i := 222) rfl)) (hw _ (List.mem_of_getElem? (i := 5) rfl)) (by decide) (by decide)) (g := (mkF m 134 #[.val (.ref x1), .val (.int (Int32.ofNat pn)), .val (.int (Int32.ofNat 4)), .val (.int (Int32.ofNat (4 * pn))), .val (.ref b252)] [(.int (Int32.ofNat 4)), (.int (Int32.ofNat (4 * pn))), (.int (0 : Int32)), (.ref b252)])) rfl (by rw [hml]; rfl) (argsL := [(.ref b252), (.int (0 : Int32)), (.int (Int32.ofNat (4 * pn))), (.int (Int32.ofNat 4))]) (rest := []) (lenOf pd___BIII_V rfl) rfl (by show 2 * 0 + _ ≤ _; exact Nat.le_of_eq rfl) (hb hby d27_134) (fun _ _ => ⟨rfl, e257, (by decide : 1 + 0 ≤ _), (by decide : 160 + 0 ≤ _)⟩)
    dsimp only [Pt.U, Pt.locs, Pt.cells, Pt.slots] at X259 l259 y259 z259 st259 hQ259
    subst l259 y259 z259
    obtain ⟨rfl, N259q, KC259, V5⟩ := hQ259
    have N259 := Fr.app N257 N259q
    have cs260 := CHr.keep KC259 (allS y258_b252 all0) cs258.1
    have cr260 := cr258.trans cs260
    have y260_b252 := cs260.safe V4.lt y258_b252
    have hk260 := Nat.le_trans hk258 cs260.2.1
    have Z259 := Nat.le_trans Z257 KC259.1
    have K259 := K257.trans KC259 (allS (Or.inr sz_b252) all0)
    obtain ⟨T261, h261, X261, e261, E261, A261, D261, -, st261⟩ := newO X259 hx hZ hown (hw _ (List.mem_of_getElem? (i := 223) rfl)) (hw _ (List.mem_of_getElem? (i := 6) rfl)) (hw _ (List.mem_of_getElem? (i := 5) rfl)) rfl (g := (mkF m 137 #[.val (.ref x1), .val (.int (Int32.ofNat pn)), .val (.int (Int32.ofNat 4)), .val (.int (Int32.ofNat (4 * pn))), .val (.ref b252)] [])) rfl (hb hby d27_137) (by decide) (by decide)
    obtain ⟨b261, g261⟩ : ∃ z, z = T259.heap.size := ⟨_, rfl⟩
    rw [← g261] at A261 D261 st261
    have g_b261 : n0 ≤ b261 := Nat.le_trans Z259 (Nat.le_of_eq g261.symm)
    have sz_b261 : h0.size ≤ b261 := Nat.le_trans K259.1 (Nat.le_of_eq g261.symm)
    have f262 := (((XE.ext E252).keep KC257).keep KC259)
    have ne_x1_b261 : x1 ≠ b261 := Nat.ne_of_lt (Nat.lt_of_lt_of_le f262.lt (Nat.le_of_eq g261.symm))
    have ne_b252_b261 : b252 ≠ b261 := Nat.ne_of_lt (Nat.lt_of_lt_of_le V5.lt (Nat.le_of_eq g261.symm))
    have f263 := ((f256.keep KC257 (ninS ne_t1_b252 nin0)).keep KC259 (ninS ne_t1_b252 nin0))
    have ne_t1_b261 : t1 ≠ b261 := Nat.ne_of_lt (Nat.lt_of_lt_of_le f263.lt (Nat.le_of_eq g261.symm))
    have cs264 := CHr.ext E261 cs260.1
    have cr264 := cr260.trans cs264
    have y264_b252 := cs264.safe V5.lt y260_b252
    have hk264 := Nat.le_trans hk260 cs264.2.1
    have Z261 := Nat.le_trans Z259 E261.1
    have K261 := K259.ext E261
    have F261_value : Fld Z h261 b261 "java/lang/String" "value" "[B" .null := D261 (Or.inr (hw _ (List.mem_of_getElem? (i := 8) rfl))) (ty := (.array .byte)) (by decide)
    have F261_coder : Fld Z h261 b261 "java/lang/String" "coder" "B" (.int (0 : Int32)) := D261 (Or.inr (hw _ (List.mem_of_getElem? (i := 9) rfl))) (ty := .byte) (by decide)
    have yb261 := own_safeE E261 cs260.1 (Nat.le_of_eq g261.symm)
    have f265 := ((((XC.ext E252).keep KC257 (ninS ne_x1_b252 nin0)).keep KC259 (ninS ne_x1_b252 nin0)).ext E261)
    obtain ⟨T266, X266, e266, st266⟩ := getF X261 hx hZ hown (host := "") (Or.inl (hw _ (List.mem_of_getElem? (i := 61) rfl))) Via.refl e261 f265 (g := (mkF m 144 #[.val (.ref x1), .val (.int (Int32.ofNat pn)), .val (.int (Int32.ofNat 4)), .val (.int (Int32.ofNat (4 * pn))), .val (.ref b252)] [(.ref x1), (.ref b252), (.ref b261), (.ref b261)])) rfl rfl (hb hby d27_144)
    obtain ⟨_, _, ⟨T267, L267, k267, n267⟩, -, X267, ⟨Lc267, hQ267, l267, y267, z267⟩, st267⟩ := X266.specialBack hx (y := (⟨"java/lang/String", "<init>", "([BB)V"⟩ : MethodName)) rfl hown (mvT hZ (hw _ (List.mem_of_getElem? (i := 224) rfl))) (mvT hZ (hw _ (List.mem_of_getElem? (i := 225) rfl))) (mvT hZ (hw _ (List.mem_of_getElem? (i := 226) rfl))) (by decide) (backOf (W := 1) (rmSBB l Z a0 hw [] b261 b252 h261 n0 Z261 A261 F261_value F261_coder g_b261) hZ (hw _ (List.mem_of_getElem? (i := 226) rfl)) (hw _ (List.mem_of_getElem? (i := 5) rfl)) (by decide) (by decide)) (g := (mkF m 147 #[.val (.ref x1), .val (.int (Int32.ofNat pn)), .val (.int (Int32.ofNat 4)), .val (.int (Int32.ofNat (4 * pn))), .val (.ref b252)] [(.int (0 : Int32)), (.ref b252), (.ref b261), (.ref b261)])) rfl (by rw [hml]; rfl) (Steps.refl _) (a := b261) (argsL := [(.ref b252), (.int (0 : Int32))]) (rest := [(.ref b261)]) (lenOf pd___BB_V rfl) rfl (by show 2 * 0 + _ ≤ _; exact Nat.le_of_eq rfl) (hb hby d27_147) (fun _ _ => ⟨rfl, e266, (by decide : 2 + 0 ≤ _), (by decide : 164 + 0 ≤ _)⟩)
    dsimp only [Pt.U, Pt.locs, Pt.cells, Pt.slots] at X267 l267 y267 z267 st267 hQ267
    subst l267 y267 z267
    obtain ⟨rfl, N267q, KC267, E6, F6, G6⟩ := hQ267
    have N267 := Fr.app N259 N267q
    have f269 := (V5.ext E261)
    have cs268 := CHr.keep KC267 (allS yb261 all0) cs264.1
    have cr268 := cr264.trans cs268
    have y268_b252 := cs268.safe f269.lt y264_b252
    have y268_b261 := cs268.safe A261.lt yb261
    have hk268 := Nat.le_trans hk264 cs268.2.1
    have Z267 := Nat.le_trans Z261 KC267.1
    have K267 := K261.trans KC267 (allS (Or.inr sz_b261) all0)
    have f270 := (f269.keep KC267 (ninS ne_b252_b261 nin0))
    have pre271 : ∀ t, Steps p.tables e below (T267.setTop (mkF m 150 #[.val (.ref x1), .val (.int (Int32.ofNat pn)), .val (.int (Int32.ofNat 4)), .val (.int (Int32.ofNat (4 * pn))), .val (.ref b252)] [(.ref b261)])) t → Steps p.tables e below (s₁.setTop (mkF m 0 #[.val (.ref x1), .val (.int (Int32.ofNat pn)), .unset, .unset, .unset] [])) t := by
      intro t kt
      show Steps p.tables e below (s₁.setTop (mkF m 0 #[.val (.ref x1), .val (.int (Int32.ofNat pn)), .unset, .unset, .unset] [])) _
      refine XS.iloadN X0.here hx rfl (hb hby d27_0) rfl ?_
      show Steps p.tables e below (s₁.setTop (mkF m 1 #[.val (.ref x1), .val (.int (Int32.ofNat pn)), .unset, .unset, .unset] [(.int (Int32.ofNat pn))])) _
      refine XS.ifYes X0.here hx rfl (pc0 := 1) (pc' := 32) rfl (hb hby d27_1) rfl ((if0 _ _).trans (flt (own_nn (by omega) : ¬ ((Int32.ofNat pn) < (0 : Int32)))).2.1) (by decide) (by decide) ?_
      show Steps p.tables e below (s₁.setTop (mkF m 32 #[.val (.ref x1), .val (.int (Int32.ofNat pn)), .unset, .unset, .unset] [])) _
      refine XS.iloadN X0.here hx rfl (hb hby d27_32) rfl ?_
      show Steps p.tables e below (s₁.setTop (mkF m 33 #[.val (.ref x1), .val (.int (Int32.ofNat pn)), .unset, .unset, .unset] [(.int (Int32.ofNat pn))])) _
      refine XS.iconst X0.here hx rfl (hb hby d27_33) ?_
      show Steps p.tables e below (s₁.setTop (mkF m 34 #[.val (.ref x1), .val (.int (Int32.ofNat pn)), .unset, .unset, .unset] [(.int (1 : Int32)), (.int (Int32.ofNat pn))])) _
      refine XS.icmpYes X0.here hx rfl (pc0 := 34) (pc' := 39) rfl (hb hby d27_34) rfl (feq (fun q => by rw [show (1 : Int32) = Int32.ofNat 1 from rfl, own_eq (by omega) (by omega)] at q; omega : ¬ ((Int32.ofNat pn) = (1 : Int32)))).2 (by decide) (by decide) ?_
      show Steps p.tables e below (s₁.setTop (mkF m 39 #[.val (.ref x1), .val (.int (Int32.ofNat pn)), .unset, .unset, .unset] [])) _
      refine XS.aloadN X0.here hx rfl (hb hby d27_39) rfl rfl ?_
      show Steps p.tables e below (s₁.setTop (mkF m 40 #[.val (.ref x1), .val (.int (Int32.ofNat pn)), .unset, .unset, .unset] [(.ref x1)])) _
      refine st250 _ ?_
      show Steps p.tables e below (T250.setTop (mkF m 43 #[.val (.ref x1), .val (.int (Int32.ofNat pn)), .unset, .unset, .unset] [(.ref t1)])) _
      refine X250.arraylength hx (by rw [e250]; exact Ar251.1) (State.isArrayOf_alike hZ.alike Ar251.2.1) (g := (mkF m 43 #[.val (.ref x1), .val (.int (Int32.ofNat pn)), .unset, .unset, .unset] [(.ref t1)])) rfl rfl (hb hby d27_43) _ ?_
      rw [len_of S251 M251]
      show Steps p.tables e below (T250.setTop (mkF m 44 #[.val (.ref x1), .val (.int (Int32.ofNat pn)), .unset, .unset, .unset] [(.int (Int32.ofNat 4))])) _
      refine XS.istoreN X250.here hx rfl (hb hby d27_44) rfl (l' := #[.val (.ref x1), .val (.int (Int32.ofNat pn)), .val (.int (Int32.ofNat 4)), .unset, .unset]) rfl ?_
      show Steps p.tables e below (T250.setTop (mkF m 45 #[.val (.ref x1), .val (.int (Int32.ofNat pn)), .val (.int (Int32.ofNat 4)), .unset, .unset] [])) _
      refine XS.iloadN X250.here hx rfl (hb hby d27_45) rfl ?_
      show Steps p.tables e below (T250.setTop (mkF m 46 #[.val (.ref x1), .val (.int (Int32.ofNat pn)), .val (.int (Int32.ofNat 4)), .unset, .unset] [(.int (Int32.ofNat 4))])) _
      refine XS.ifNo X250.here hx rfl (hb hby d27_46) rfl ((if0 _ _).trans (feq (by decide : ¬ ((Int32.ofNat 4) = (0 : Int32)))).1) ?_
      show Steps p.tables e below (T250.setTop (mkF m 49 #[.val (.ref x1), .val (.int (Int32.ofNat pn)), .val (.int (Int32.ofNat 4)), .unset, .unset] [])) _
      refine XS.iloadN X250.here hx rfl (hb hby d27_49) rfl ?_
      show Steps p.tables e below (T250.setTop (mkF m 50 #[.val (.ref x1), .val (.int (Int32.ofNat pn)), .val (.int (Int32.ofNat 4)), .unset, .unset] [(.int (Int32.ofNat pn))])) _
      refine XS.ifYes X250.here hx rfl (pc0 := 50) (pc' := 56) rfl (hb hby d27_50) rfl ((if0 _ _).trans (feq (fun q => by rw [show (0 : Int32) = Int32.ofNat 0 from rfl, own_eq (by omega) (by omega)] at q; omega : ¬ ((Int32.ofNat pn) = (0 : Int32)))).2) (by decide) (by decide) ?_
      show Steps p.tables e below (T250.setTop (mkF m 56 #[.val (.ref x1), .val (.int (Int32.ofNat pn)), .val (.int (Int32.ofNat 4)), .unset, .unset] [])) _
      refine X250.ldcwInt hx hown (mvT hZ (hw _ (List.mem_of_getElem? (i := 219) rfl))) (g := (mkF m 56 #[.val (.ref x1), .val (.int (Int32.ofNat pn)), .val (.int (Int32.ofNat 4)), .unset, .unset] [])) rfl (hb hby d27_56) _ ?_
      show Steps p.tables e below (T250.setTop (mkF m 59 #[.val (.ref x1), .val (.int (Int32.ofNat pn)), .val (.int (Int32.ofNat 4)), .unset, .unset] [(.int (2147483647 : Int32))])) _
      refine XS.iloadN X250.here hx rfl (hb hby d27_59) rfl ?_
      show Steps p.tables e below (T250.setTop (mkF m 60 #[.val (.ref x1), .val (.int (Int32.ofNat pn)), .val (.int (Int32.ofNat 4)), .unset, .unset] [(.int (Int32.ofNat pn)), (.int (2147483647 : Int32))])) _
      refine XS.idiv X250.here hx rfl (hb hby d27_60) rfl (fun q => by rw [show (0 : Int32) = Int32.ofNat 0 from rfl, own_eq (by omega) (by omega)] at q; omega) ?_
      show Steps p.tables e below (T250.setTop (mkF m 61 #[.val (.ref x1), .val (.int (Int32.ofNat pn)), .val (.int (Int32.ofNat 4)), .unset, .unset] [(.int ((2147483647 : Int32) / (Int32.ofNat pn)))])) _
      refine XS.iloadN X250.here hx rfl (hb hby d27_61) rfl ?_
      show Steps p.tables e below (T250.setTop (mkF m 62 #[.val (.ref x1), .val (.int (Int32.ofNat pn)), .val (.int (Int32.ofNat 4)), .unset, .unset] [(.int (Int32.ofNat 4)), (.int ((2147483647 : Int32) / (Int32.ofNat pn)))])) _
      refine XS.icmpYes X250.here hx rfl (pc0 := 62) (pc' := 76) rfl (hb hby d27_62) rfl (flt (own_div (by omega) (by omega) : ¬ (((2147483647 : Int32) / (Int32.ofNat pn)) < (Int32.ofNat 4)))).2.1 (by decide) (by decide) ?_
      show Steps p.tables e below (T250.setTop (mkF m 76 #[.val (.ref x1), .val (.int (Int32.ofNat pn)), .val (.int (Int32.ofNat 4)), .unset, .unset] [])) _
      refine XS.iloadN X250.here hx rfl (hb hby d27_76) rfl ?_
      show Steps p.tables e below (T250.setTop (mkF m 77 #[.val (.ref x1), .val (.int (Int32.ofNat pn)), .val (.int (Int32.ofNat 4)), .unset, .unset] [(.int (Int32.ofNat 4))])) _
      refine XS.iconst X250.here hx rfl (hb hby d27_77) ?_
      show Steps p.tables e below (T250.setTop (mkF m 78 #[.val (.ref x1), .val (.int (Int32.ofNat pn)), .val (.int (Int32.ofNat 4)), .unset, .unset] [(.int (1 : Int32)), (.int (Int32.ofNat 4))])) _
      refine XS.icmpYes X250.here hx rfl (pc0 := 78) (pc' := 108) rfl (hb hby d27_78) rfl (feq (by decide : ¬ ((Int32.ofNat 4) = (1 : Int32)))).2 (by decide) (by decide) ?_
      show Steps p.tables e below (T250.setTop (mkF m 108 #[.val (.ref x1), .val (.int (Int32.ofNat pn)), .val (.int (Int32.ofNat 4)), .unset, .unset] [])) _
      refine XS.iloadN X250.here hx rfl (hb hby d27_108) rfl ?_
      show Steps p.tables e below (T250.setTop (mkF m 109 #[.val (.ref x1), .val (.int (Int32.ofNat pn)), .val (.int (Int32.ofNat 4)), .unset, .unset] [(.int (Int32.ofNat 4))])) _
      refine XS.iloadN X250.here hx rfl (hb hby d27_109) rfl ?_
      show Steps p.tables e below (T250.setTop (mkF m 110 #[.val (.ref x1), .val (.int (Int32.ofNat pn)), .val (.int (Int32.ofNat 4)), .unset, .unset] [(.int (Int32.ofNat pn)), (.int (Int32.ofNat 4))])) _
      refine XS.imul X250.here hx rfl (hb hby d27_110) rfl ?_
      show Steps p.tables e below (T250.setTop (mkF m 111 #[.val (.ref x1), .val (.int (Int32.ofNat pn)), .val (.int (Int32.ofNat 4)), .unset, .unset] [(.int ((Int32.ofNat 4) * (Int32.ofNat pn)))])) _
      rw [show ((Int32.ofNat 4) * (Int32.ofNat pn)) = Int32.ofNat (4 * pn) from (Int32.ofNat_mul 4 pn).symm]
      show Steps p.tables e below (T250.setTop (mkF m 111 #[.val (.ref x1), .val (.int (Int32.ofNat pn)), .val (.int (Int32.ofNat 4)), .unset, .unset] [(.int (Int32.ofNat (4 * pn)))])) _
      refine XS.istoreN X250.here hx rfl (hb hby d27_111) rfl (l' := #[.val (.ref x1), .val (.int (Int32.ofNat pn)), .val (.int (Int32.ofNat 4)), .val (.int (Int32.ofNat (4 * pn))), .unset]) rfl ?_
      show Steps p.tables e below (T250.setTop (mkF m 112 #[.val (.ref x1), .val (.int (Int32.ofNat pn)), .val (.int (Int32.ofNat 4)), .val (.int (Int32.ofNat (4 * pn))), .unset] [])) _
      refine XS.iloadN X250.here hx rfl (hb hby d27_112) rfl ?_
      show Steps p.tables e below (T250.setTop (mkF m 113 #[.val (.ref x1), .val (.int (Int32.ofNat pn)), .val (.int (Int32.ofNat 4)), .val (.int (Int32.ofNat (4 * pn))), .unset] [(.int (Int32.ofNat (4 * pn)))])) _
      refine st252 _ ?_
      show Steps p.tables e below (T252.setTop (mkF m 115 #[.val (.ref x1), .val (.int (Int32.ofNat pn)), .val (.int (Int32.ofNat 4)), .val (.int (Int32.ofNat (4 * pn))), .unset] [(.ref b252)])) _
      refine XS.astore X252.here hx rfl (hb hby d27_115) rfl rfl (l' := #[.val (.ref x1), .val (.int (Int32.ofNat pn)), .val (.int (Int32.ofNat 4)), .val (.int (Int32.ofNat (4 * pn))), .val (.ref b252)]) rfl ?_
      show Steps p.tables e below (T252.setTop (mkF m 117 #[.val (.ref x1), .val (.int (Int32.ofNat pn)), .val (.int (Int32.ofNat 4)), .val (.int (Int32.ofNat (4 * pn))), .val (.ref b252)] [])) _
      refine XS.aloadN X252.here hx rfl (hb hby d27_117) rfl rfl ?_
      show Steps p.tables e below (T252.setTop (mkF m 118 #[.val (.ref x1), .val (.int (Int32.ofNat pn)), .val (.int (Int32.ofNat 4)), .val (.int (Int32.ofNat (4 * pn))), .val (.ref b252)] [(.ref x1)])) _
      refine st255 _ ?_
      show Steps p.tables e below (T255.setTop (mkF m 121 #[.val (.ref x1), .val (.int (Int32.ofNat pn)), .val (.int (Int32.ofNat 4)), .val (.int (Int32.ofNat (4 * pn))), .val (.ref b252)] [(.ref t1)])) _
      refine XS.iconst X255.here hx rfl (hb hby d27_121) ?_
      show Steps p.tables e below (T255.setTop (mkF m 122 #[.val (.ref x1), .val (.int (Int32.ofNat pn)), .val (.int (Int32.ofNat 4)), .val (.int (Int32.ofNat (4 * pn))), .val (.ref b252)] [(.int (0 : Int32)), (.ref t1)])) _
      refine XS.aload X255.here hx rfl (hb hby d27_122) rfl rfl ?_
      show Steps p.tables e below (T255.setTop (mkF m 124 #[.val (.ref x1), .val (.int (Int32.ofNat pn)), .val (.int (Int32.ofNat 4)), .val (.int (Int32.ofNat (4 * pn))), .val (.ref b252)] [(.ref b252), (.int (0 : Int32)), (.ref t1)])) _
      refine XS.iconst X255.here hx rfl (hb hby d27_124) ?_
      show Steps p.tables e below (T255.setTop (mkF m 125 #[.val (.ref x1), .val (.int (Int32.ofNat pn)), .val (.int (Int32.ofNat 4)), .val (.int (Int32.ofNat (4 * pn))), .val (.ref b252)] [(.int (0 : Int32)), (.ref b252), (.int (0 : Int32)), (.ref t1)])) _
      refine XS.iloadN X255.here hx rfl (hb hby d27_125) rfl ?_
      show Steps p.tables e below (T255.setTop (mkF m 126 #[.val (.ref x1), .val (.int (Int32.ofNat pn)), .val (.int (Int32.ofNat 4)), .val (.int (Int32.ofNat (4 * pn))), .val (.ref b252)] [(.int (Int32.ofNat 4)), (.int (0 : Int32)), (.ref b252), (.int (0 : Int32)), (.ref t1)])) _
      refine st257 _ ?_
      show Steps p.tables e below (T257.setTop (mkF m 129 #[.val (.ref x1), .val (.int (Int32.ofNat pn)), .val (.int (Int32.ofNat 4)), .val (.int (Int32.ofNat (4 * pn))), .val (.ref b252)] [])) _
      refine XS.aload X257.here hx rfl (hb hby d27_129) rfl rfl ?_
      show Steps p.tables e below (T257.setTop (mkF m 131 #[.val (.ref x1), .val (.int (Int32.ofNat pn)), .val (.int (Int32.ofNat 4)), .val (.int (Int32.ofNat (4 * pn))), .val (.ref b252)] [(.ref b252)])) _
      refine XS.iconst X257.here hx rfl (hb hby d27_131) ?_
      show Steps p.tables e below (T257.setTop (mkF m 132 #[.val (.ref x1), .val (.int (Int32.ofNat pn)), .val (.int (Int32.ofNat 4)), .val (.int (Int32.ofNat (4 * pn))), .val (.ref b252)] [(.int (0 : Int32)), (.ref b252)])) _
      refine XS.iloadN X257.here hx rfl (hb hby d27_132) rfl ?_
      show Steps p.tables e below (T257.setTop (mkF m 133 #[.val (.ref x1), .val (.int (Int32.ofNat pn)), .val (.int (Int32.ofNat 4)), .val (.int (Int32.ofNat (4 * pn))), .val (.ref b252)] [(.int (Int32.ofNat (4 * pn))), (.int (0 : Int32)), (.ref b252)])) _
      refine XS.iloadN X257.here hx rfl (hb hby d27_133) rfl ?_
      show Steps p.tables e below (T257.setTop (mkF m 134 #[.val (.ref x1), .val (.int (Int32.ofNat pn)), .val (.int (Int32.ofNat 4)), .val (.int (Int32.ofNat (4 * pn))), .val (.ref b252)] [(.int (Int32.ofNat 4)), (.int (Int32.ofNat (4 * pn))), (.int (0 : Int32)), (.ref b252)])) _
      refine st259 _ ?_
      show Steps p.tables e below (T259.setTop (mkF m 137 #[.val (.ref x1), .val (.int (Int32.ofNat pn)), .val (.int (Int32.ofNat 4)), .val (.int (Int32.ofNat (4 * pn))), .val (.ref b252)] [])) _
      refine st261 _ ?_
      show Steps p.tables e below (T261.setTop (mkF m 140 #[.val (.ref x1), .val (.int (Int32.ofNat pn)), .val (.int (Int32.ofNat 4)), .val (.int (Int32.ofNat (4 * pn))), .val (.ref b252)] [(.ref b261)])) _
      refine XS.dup X261.here hx rfl (hb hby d27_140) rfl rfl ?_
      show Steps p.tables e below (T261.setTop (mkF m 141 #[.val (.ref x1), .val (.int (Int32.ofNat pn)), .val (.int (Int32.ofNat 4)), .val (.int (Int32.ofNat (4 * pn))), .val (.ref b252)] [(.ref b261), (.ref b261)])) _
      refine XS.aload X261.here hx rfl (hb hby d27_141) rfl rfl ?_
      show Steps p.tables e below (T261.setTop (mkF m 143 #[.val (.ref x1), .val (.int (Int32.ofNat pn)), .val (.int (Int32.ofNat 4)), .val (.int (Int32.ofNat (4 * pn))), .val (.ref b252)] [(.ref b252), (.ref b261), (.ref b261)])) _
      refine XS.aloadN X261.here hx rfl (hb hby d27_143) rfl rfl ?_
      show Steps p.tables e below (T261.setTop (mkF m 144 #[.val (.ref x1), .val (.int (Int32.ofNat pn)), .val (.int (Int32.ofNat 4)), .val (.int (Int32.ofNat (4 * pn))), .val (.ref b252)] [(.ref x1), (.ref b252), (.ref b261), (.ref b261)])) _
      refine st266 _ ?_
      show Steps p.tables e below (T266.setTop (mkF m 147 #[.val (.ref x1), .val (.int (Int32.ofNat pn)), .val (.int (Int32.ofNat 4)), .val (.int (Int32.ofNat (4 * pn))), .val (.ref b252)] [(.int (0 : Int32)), (.ref b252), (.ref b261), (.ref b261)])) _
      refine st267.trans ?_
      exact kt
    have yf_b252 := (CHv.at X267 hZ hEL cs268.1).safe f270.lt y268_b252
    have yf_b261 := (CHv.at X267 hZ hEL cs268.1).safe E6.lt y268_b261
    obtain ⟨fs, hr, hrun, hended, e1, e2, e3, e4⟩ := X267.leaveW hSi0 hk268 (v := some (.ref b261)) (fun h => by rw [Bd.returns] at h; cases h)
    refine ⟨_, _, (pre0 _ (pre271 _ ?_)), hrun, hended, _, _, rfl, ?_, ?_, ⟨e1, e2, e3, e4.mono (by decide) (by decide)⟩⟩
    · show Steps p.tables e below (T267.setTop (mkF m 150 #[.val (.ref x1), .val (.int (Int32.ofNat pn)), .val (.int (Int32.ofNat 4)), .val (.int (Int32.ofNat (4 * pn))), .val (.ref b252)] [(.ref b261)])) _
      exact retOut X267 hx (t := (.object "java/lang/String")) Bd.returns rfl (Or.inr (Or.inr (Or.inr (Or.inr ⟨rfl, rfl, rfl⟩)))) (hb hby d27_150) hr
    · show QRep Z x1 t1 kx pn h0 n0 _ T267.heap _ T267.vm
      exact ⟨b261, rfl, N267, own_ext K267, b252, k252, ⟨E6, F6, G6, f270⟩, Or.inr (Or.inl sz_b252)⟩
    · have q := cr268.trans (CHv.at X267 hZ hEL cs268.1)
      show CHr Z EL s.vm s.heap T267.vm T267.heap
      rw [hh]
      exact q
theorem ef_deeper (m : MethodId) (x0 : Addr) (x1 : Int32) : entryFrame m #[(.ref x0), (.int x1)] 2 = mkF m 0 #[.val (.ref x0), .val (.int x1)] [] := by (first | (simp [entryFrame, mkF, argsToLocals, Value.category]; done) | rfl)
def Qdeeper (Z : State) (j1 : Addr) (b1 : Addr) (dv : Int32) (p1 : Int32) (h0 : Heap) (n0 : Nat) (v : Option Value) (h : Heap) (L : List Loc) : Prop := v = some (.ref j1) ∧ Fr n0 L ∧ Keep h0 h [j1] ∧ (Exa Z h j1 "com/example/orbweaver/orbweaver/mapping/JavaSource" ∧ Fld Z h j1 "com/example/orbweaver/orbweaver/mapping/JavaSource" "text" "Ljava/lang/StringBuilder;" (.ref b1) ∧ Fld Z h j1 "com/example/orbweaver/orbweaver/mapping/JavaSource" "depth" "I" (.int (dv + p1)))
theorem pn_com_example_orbweaver_orbweaver_mapping_JavaSource : plainName "com/example/orbweaver/orbweaver/mapping/JavaSource" = true := by first | (simp [plainName, overriddenIn]; done) | decide +kernel
theorem d33_0 : decode prog_171_method_8_code 0 = .ok (.aload_n 0, 1) := by decide +kernel
theorem d33_1 : decode prog_171_method_8_code 1 = .ok (.dup, 1) := by decide +kernel
theorem d33_2 : decode prog_171_method_8_code 2 = .ok (.getfield 48, 3) := by decide +kernel
theorem d33_5 : decode prog_171_method_8_code 5 = .ok (.iload_n 1, 1) := by decide +kernel
theorem d33_6 : decode prog_171_method_8_code 6 = .ok (.iadd, 1) := by decide +kernel
theorem d33_7 : decode prog_171_method_8_code 7 = .ok (.putfield 48, 3) := by decide +kernel
theorem d33_10 : decode prog_171_method_8_code 10 = .ok (.aload_n 0, 1) := by decide +kernel
theorem d33_11 : decode prog_171_method_8_code 11 = .ok (.areturn, 1) := by decide +kernel
set_option maxRecDepth 65536 in
set_option maxHeartbeats 40000000 in
theorem rmdeeper (l : Launch) (Z : State) (a0 : Array Value) (hw : ∀ d ∈ tables_1, d.before a0 Z = true) (ws : List Jvm.Cond) (j1 : Addr) (b1 : Addr) (dv : Int32) (p1 : Int32) (h0 : Heap) (n0 : Nat) (Z0 : n0 ≤ h0.size) (JE : Exa Z h0 j1 "com/example/orbweaver/orbweaver/mapping/JavaSource") (JT : Fld Z h0 j1 "com/example/orbweaver/orbweaver/mapping/JavaSource" "text" "Ljava/lang/StringBuilder;" (.ref b1)) (JD : Fld Z h0 j1 "com/example/orbweaver/orbweaver/mapping/JavaSource" "depth" "I" (.int dv)) (g_j1 : n0 ≤ j1) :
    MetFree l (⟨"com/example/orbweaver/orbweaver/mapping/JavaSource", "deeper", "(I)Lcom/example/orbweaver/orbweaver/mapping/JavaSource;"⟩ : MethodName) (head1 (Jvm.Cond.code (⟨"com/example/orbweaver/orbweaver/mapping/JavaSource", "deeper", "(I)Lcom/example/orbweaver/orbweaver/mapping/JavaSource;"⟩ : MethodName) prog_171_method_8_code 2 (some (.object "com/example/orbweaver/orbweaver/mapping/JavaSource")) :: ws) ({ frames := 0, cells := 0, slots := 0, locals := 0 } : Room)) (fun a U => a = #[(.ref j1), (.int p1)] ∧ Z.Warmed39 U.vm ∧ U.heap = h0) (fun _ _ _ _ _ => True) (fun _ U o U' => ∃ v L, o = .returned v ∧ Qdeeper Z j1 b1 dv p1 h0 n0 v U'.heap L ∧ FrameEnd U o U' L ({ frames := 0, cells := 0, slots := 0, locals := 0 } : Room).cells ({ frames := 0, cells := 0, slots := 0, locals := 0 } : Room).slots) := by
  refine MetFree.of_bodySF (plainFor_of_name pn_com_example_orbweaver_orbweaver_mapping_JavaSource) hisR ?_
  intro p e s m args below meth c s₁ Bd hml0 hP hK
  obtain ⟨rfl, hZ, hh⟩ := hP
  have hx := Bd.exec
  have hby := Bd.bytes
  have hml : c.maxLocals = 2 := hml0
  have hown : s.vm.findClass "com/example/orbweaver/orbweaver/mapping/JavaSource" = some m.cls := findClass_of_methodNamed Bd.named
  have hnm := (name_of_methodNamed Bd.named Bd.method).1
  have X0 : Stand p l e ({ frames := 0, cells := 0, slots := 0, locals := 0 } : Room) s m #[(.ref j1), (.int p1)] below meth c s₁ [] 0 0 := Stand.of_body Bd
  have e0 : s₁.heap = h0 := by rw [← hh, Bd.state]; rfl
  have N0 := Fr.nil n0
  have pre0 : ∀ t, Steps p.tables e below (s₁.setTop (mkF m 0 #[.val (.ref j1), .val (.int p1)] [])) t → Steps p.tables e below (s₁.setTop (entryFrame m #[(.ref j1), (.int p1)] 2)) t := fun t k => castTop (ef_deeper m j1 p1) k
  have mem_j1 : j1 ∈ [j1] := List.mem_of_getElem? (i := 0) rfl
  obtain ⟨T272, X272, e272, st272⟩ := getF X0 hx hZ hown (host := "") (Or.inl (hw _ (List.mem_of_getElem? (i := 163) rfl))) Via.refl e0 JD (g := (mkF m 2 #[.val (.ref j1), .val (.int p1)] [(.ref j1), (.ref j1)])) rfl rfl (hb hby d33_2)
  obtain ⟨T273, h273, X273, e273, W273, st273⟩ := putF X272 hx hZ hown (host := "") (Or.inl (hw _ (List.mem_of_getElem? (i := 163) rfl))) Via.refl e272 JD JE (Or.inl (hw _ (List.mem_of_getElem? (i := 164) rfl))) (hw _ (List.mem_of_getElem? (i := 2) rfl)) (ty := .int) (by decide) rfl rfl (g := (mkF m 7 #[.val (.ref j1), .val (.int p1)] [(.int (dv + p1)), (.ref j1)])) rfl rfl (hb hby d33_7)
  have N273 := Fr.snoc X273 N0 g_j1
  have Z273 := Nat.le_trans Z0 (Keep.of_wr W273).1
  have K273 := (Keep.refl h0 [j1]).wr W273 (Or.inl mem_j1)
  have Fw273 := JD.same W273
  have f274 := (JE.wr W273)
  have f275 := (JT.other W273 (Or.inr (slot_ne (Or.inr (hw _ (List.mem_of_getElem? (i := 37) rfl))) (Or.inl (hw _ (List.mem_of_getElem? (i := 164) rfl))) (by decide) (t := (.object "java/lang/StringBuilder")) (t' := .int) (by decide) (by decide))))
  have pre276 : ∀ t, Steps p.tables e below (T273.setTop (mkF m 11 #[.val (.ref j1), .val (.int p1)] [(.ref j1)])) t → Steps p.tables e below (s₁.setTop (mkF m 0 #[.val (.ref j1), .val (.int p1)] [])) t := by
    intro t kt
    show Steps p.tables e below (s₁.setTop (mkF m 0 #[.val (.ref j1), .val (.int p1)] [])) _
    refine XS.aloadN X0.here hx rfl (hb hby d33_0) rfl rfl ?_
    show Steps p.tables e below (s₁.setTop (mkF m 1 #[.val (.ref j1), .val (.int p1)] [(.ref j1)])) _
    refine XS.dup X0.here hx rfl (hb hby d33_1) rfl rfl ?_
    show Steps p.tables e below (s₁.setTop (mkF m 2 #[.val (.ref j1), .val (.int p1)] [(.ref j1), (.ref j1)])) _
    refine st272 _ ?_
    show Steps p.tables e below (T272.setTop (mkF m 5 #[.val (.ref j1), .val (.int p1)] [(.int dv), (.ref j1)])) _
    refine XS.iloadN X272.here hx rfl (hb hby d33_5) rfl ?_
    show Steps p.tables e below (T272.setTop (mkF m 6 #[.val (.ref j1), .val (.int p1)] [(.int p1), (.int dv), (.ref j1)])) _
    refine XS.iadd X272.here hx rfl (hb hby d33_6) rfl ?_
    show Steps p.tables e below (T272.setTop (mkF m 7 #[.val (.ref j1), .val (.int p1)] [(.int (dv + p1)), (.ref j1)])) _
    refine st273 _ ?_
    show Steps p.tables e below (T273.setTop (mkF m 10 #[.val (.ref j1), .val (.int p1)] [])) _
    refine XS.aloadN X273.here hx rfl (hb hby d33_10) rfl rfl ?_
    exact kt
  obtain ⟨fs, hr, hrun, hended, hW, hsame⟩ := X273.leave (v := some (.ref j1)) (fun h => by rw [Bd.returns] at h; cases h)
  refine ⟨_, _, (pre0 _ (pre276 _ ?_)), hrun, hended, _, _, rfl, ?_, ⟨_, rfl⟩, hW, hsame.mono (by decide) (by decide)⟩
  · show Steps p.tables e below (T273.setTop (mkF m 11 #[.val (.ref j1), .val (.int p1)] [(.ref j1)])) _
    exact retOut X273 hx (t := (.object "com/example/orbweaver/orbweaver/mapping/JavaSource")) Bd.returns rfl (Or.inr (Or.inr (Or.inr (Or.inr ⟨rfl, rfl, rfl⟩)))) (hb hby d33_11) hr
  · show Qdeeper Z j1 b1 dv p1 h0 n0 _ T273.heap _
    rw [e273]
    exact ⟨rfl, N273, K273, f274, f275, Fw273⟩
theorem ef_shallower (m : MethodId) (x0 : Addr) (x1 : Int32) : entryFrame m #[(.ref x0), (.int x1)] 2 = mkF m 0 #[.val (.ref x0), .val (.int x1)] [] := by (first | (simp [entryFrame, mkF, argsToLocals, Value.category]; done) | rfl)
def Qshallower (Z : State) (j1 : Addr) (b1 : Addr) (dv : Int32) (p1 : Int32) (h0 : Heap) (n0 : Nat) (v : Option Value) (h : Heap) (L : List Loc) : Prop := v = some (.ref j1) ∧ Fr n0 L ∧ Keep h0 h [j1] ∧ (Exa Z h j1 "com/example/orbweaver/orbweaver/mapping/JavaSource" ∧ Fld Z h j1 "com/example/orbweaver/orbweaver/mapping/JavaSource" "text" "Ljava/lang/StringBuilder;" (.ref b1) ∧ Fld Z h j1 "com/example/orbweaver/orbweaver/mapping/JavaSource" "depth" "I" (.int (dv - p1)))
theorem d37_0 : decode prog_171_method_9_code 0 = .ok (.aload_n 0, 1) := by decide +kernel
theorem d37_1 : decode prog_171_method_9_code 1 = .ok (.dup, 1) := by decide +kernel
theorem d37_2 : decode prog_171_method_9_code 2 = .ok (.getfield 48, 3) := by decide +kernel
theorem d37_5 : decode prog_171_method_9_code 5 = .ok (.iload_n 1, 1) := by decide +kernel
theorem d37_6 : decode prog_171_method_9_code 6 = .ok (.isub, 1) := by decide +kernel
theorem d37_7 : decode prog_171_method_9_code 7 = .ok (.putfield 48, 3) := by decide +kernel
theorem d37_10 : decode prog_171_method_9_code 10 = .ok (.aload_n 0, 1) := by decide +kernel
theorem d37_11 : decode prog_171_method_9_code 11 = .ok (.areturn, 1) := by decide +kernel
set_option maxRecDepth 65536 in
set_option maxHeartbeats 40000000 in
theorem rmshallower (l : Launch) (Z : State) (a0 : Array Value) (hw : ∀ d ∈ tables_1, d.before a0 Z = true) (ws : List Jvm.Cond) (j1 : Addr) (b1 : Addr) (dv : Int32) (p1 : Int32) (h0 : Heap) (n0 : Nat) (Z0 : n0 ≤ h0.size) (JE : Exa Z h0 j1 "com/example/orbweaver/orbweaver/mapping/JavaSource") (JT : Fld Z h0 j1 "com/example/orbweaver/orbweaver/mapping/JavaSource" "text" "Ljava/lang/StringBuilder;" (.ref b1)) (JD : Fld Z h0 j1 "com/example/orbweaver/orbweaver/mapping/JavaSource" "depth" "I" (.int dv)) (g_j1 : n0 ≤ j1) :
    MetFree l (⟨"com/example/orbweaver/orbweaver/mapping/JavaSource", "shallower", "(I)Lcom/example/orbweaver/orbweaver/mapping/JavaSource;"⟩ : MethodName) (head1 (Jvm.Cond.code (⟨"com/example/orbweaver/orbweaver/mapping/JavaSource", "shallower", "(I)Lcom/example/orbweaver/orbweaver/mapping/JavaSource;"⟩ : MethodName) prog_171_method_9_code 2 (some (.object "com/example/orbweaver/orbweaver/mapping/JavaSource")) :: ws) ({ frames := 0, cells := 0, slots := 0, locals := 0 } : Room)) (fun a U => a = #[(.ref j1), (.int p1)] ∧ Z.Warmed39 U.vm ∧ U.heap = h0) (fun _ _ _ _ _ => True) (fun _ U o U' => ∃ v L, o = .returned v ∧ Qshallower Z j1 b1 dv p1 h0 n0 v U'.heap L ∧ FrameEnd U o U' L ({ frames := 0, cells := 0, slots := 0, locals := 0 } : Room).cells ({ frames := 0, cells := 0, slots := 0, locals := 0 } : Room).slots) := by
  refine MetFree.of_bodySF (plainFor_of_name pn_com_example_orbweaver_orbweaver_mapping_JavaSource) hisR ?_
  intro p e s m args below meth c s₁ Bd hml0 hP hK
  obtain ⟨rfl, hZ, hh⟩ := hP
  have hx := Bd.exec
  have hby := Bd.bytes
  have hml : c.maxLocals = 2 := hml0
  have hown : s.vm.findClass "com/example/orbweaver/orbweaver/mapping/JavaSource" = some m.cls := findClass_of_methodNamed Bd.named
  have hnm := (name_of_methodNamed Bd.named Bd.method).1
  have X0 : Stand p l e ({ frames := 0, cells := 0, slots := 0, locals := 0 } : Room) s m #[(.ref j1), (.int p1)] below meth c s₁ [] 0 0 := Stand.of_body Bd
  have e0 : s₁.heap = h0 := by rw [← hh, Bd.state]; rfl
  have N0 := Fr.nil n0
  have pre0 : ∀ t, Steps p.tables e below (s₁.setTop (mkF m 0 #[.val (.ref j1), .val (.int p1)] [])) t → Steps p.tables e below (s₁.setTop (entryFrame m #[(.ref j1), (.int p1)] 2)) t := fun t k => castTop (ef_shallower m j1 p1) k
  have mem_j1 : j1 ∈ [j1] := List.mem_of_getElem? (i := 0) rfl
  obtain ⟨T277, X277, e277, st277⟩ := getF X0 hx hZ hown (host := "") (Or.inl (hw _ (List.mem_of_getElem? (i := 163) rfl))) Via.refl e0 JD (g := (mkF m 2 #[.val (.ref j1), .val (.int p1)] [(.ref j1), (.ref j1)])) rfl rfl (hb hby d37_2)
  obtain ⟨T278, h278, X278, e278, W278, st278⟩ := putF X277 hx hZ hown (host := "") (Or.inl (hw _ (List.mem_of_getElem? (i := 163) rfl))) Via.refl e277 JD JE (Or.inl (hw _ (List.mem_of_getElem? (i := 164) rfl))) (hw _ (List.mem_of_getElem? (i := 2) rfl)) (ty := .int) (by decide) rfl rfl (g := (mkF m 7 #[.val (.ref j1), .val (.int p1)] [(.int (dv - p1)), (.ref j1)])) rfl rfl (hb hby d37_7)
  have N278 := Fr.snoc X278 N0 g_j1
  have Z278 := Nat.le_trans Z0 (Keep.of_wr W278).1
  have K278 := (Keep.refl h0 [j1]).wr W278 (Or.inl mem_j1)
  have Fw278 := JD.same W278
  have f279 := (JE.wr W278)
  have f280 := (JT.other W278 (Or.inr (slot_ne (Or.inr (hw _ (List.mem_of_getElem? (i := 37) rfl))) (Or.inl (hw _ (List.mem_of_getElem? (i := 164) rfl))) (by decide) (t := (.object "java/lang/StringBuilder")) (t' := .int) (by decide) (by decide))))
  have pre281 : ∀ t, Steps p.tables e below (T278.setTop (mkF m 11 #[.val (.ref j1), .val (.int p1)] [(.ref j1)])) t → Steps p.tables e below (s₁.setTop (mkF m 0 #[.val (.ref j1), .val (.int p1)] [])) t := by
    intro t kt
    show Steps p.tables e below (s₁.setTop (mkF m 0 #[.val (.ref j1), .val (.int p1)] [])) _
    refine XS.aloadN X0.here hx rfl (hb hby d37_0) rfl rfl ?_
    show Steps p.tables e below (s₁.setTop (mkF m 1 #[.val (.ref j1), .val (.int p1)] [(.ref j1)])) _
    refine XS.dup X0.here hx rfl (hb hby d37_1) rfl rfl ?_
    show Steps p.tables e below (s₁.setTop (mkF m 2 #[.val (.ref j1), .val (.int p1)] [(.ref j1), (.ref j1)])) _
    refine st277 _ ?_
    show Steps p.tables e below (T277.setTop (mkF m 5 #[.val (.ref j1), .val (.int p1)] [(.int dv), (.ref j1)])) _
    refine XS.iloadN X277.here hx rfl (hb hby d37_5) rfl ?_
    show Steps p.tables e below (T277.setTop (mkF m 6 #[.val (.ref j1), .val (.int p1)] [(.int p1), (.int dv), (.ref j1)])) _
    refine XS.isub X277.here hx rfl (hb hby d37_6) rfl ?_
    show Steps p.tables e below (T277.setTop (mkF m 7 #[.val (.ref j1), .val (.int p1)] [(.int (dv - p1)), (.ref j1)])) _
    refine st278 _ ?_
    show Steps p.tables e below (T278.setTop (mkF m 10 #[.val (.ref j1), .val (.int p1)] [])) _
    refine XS.aloadN X278.here hx rfl (hb hby d37_10) rfl rfl ?_
    exact kt
  obtain ⟨fs, hr, hrun, hended, hW, hsame⟩ := X278.leave (v := some (.ref j1)) (fun h => by rw [Bd.returns] at h; cases h)
  refine ⟨_, _, (pre0 _ (pre281 _ ?_)), hrun, hended, _, _, rfl, ?_, ⟨_, rfl⟩, hW, hsame.mono (by decide) (by decide)⟩
  · show Steps p.tables e below (T278.setTop (mkF m 11 #[.val (.ref j1), .val (.int p1)] [(.ref j1)])) _
    exact retOut X278 hx (t := (.object "com/example/orbweaver/orbweaver/mapping/JavaSource")) Bd.returns rfl (Or.inr (Or.inr (Or.inr (Or.inr ⟨rfl, rfl, rfl⟩)))) (hb hby d37_11) hr
  · show Qshallower Z j1 b1 dv p1 h0 n0 _ T278.heap _
    rw [e278]
    exact ⟨rfl, N278, K278, f279, f280, Fw278⟩
theorem ef_JToS (m : MethodId) (x0 : Addr) : entryFrame m #[(.ref x0)] 1 = mkF m 0 #[.val (.ref x0)] [] := by (first | (simp [entryFrame, mkF, argsToLocals, Value.category]; done) | rfl)
def QJToS (Z : State) (j1 : Addr) (b1 : Addr) (v1 : Addr) (k1 : ClassId) (cp : Nat) (ct : Nat) (vs : List Value) (zc : Int32) (h0 : Heap) (n0 : Nat) (v : Option Value) (h : Heap) (L : List Loc) : Prop := ∃ x2, v = some (.ref x2) ∧ Fr n0 L ∧ Ext h0 h ∧ h0.size ≤ x2 ∧ ∃ (t2 : Addr) (k2 : ClassId), (Exa Z h x2 "java/lang/String" ∧ Fld Z h x2 "java/lang/String" "value" "[B" (.ref t2) ∧ Fld Z h x2 "java/lang/String" "coder" "B" (.int (0 : Int32)) ∧ Arv Z h t2 k2 .byte (Int32.ofNat ct) (vs.take ct) (.int (0 : Int32))) ∧ h0.size ≤ t2
theorem d34_0 : decode prog_171_method_10_code 0 = .ok (.aload_n 0, 1) := by decide +kernel
theorem d34_1 : decode prog_171_method_10_code 1 = .ok (.getfield 10, 3) := by decide +kernel
theorem d34_4 : decode prog_171_method_10_code 4 = .ok (.invokevirtual 24, 3) := by decide +kernel
theorem pd___Ljava_lang_String_ : parseMethodDescriptor "()Ljava/lang/String;" = some ⟨[], some (.object "java/lang/String")⟩ := by decide +kernel
theorem d34_7 : decode prog_171_method_10_code 7 = .ok (.areturn, 1) := by decide +kernel
set_option maxRecDepth 65536 in
set_option maxHeartbeats 40000000 in
theorem rmJToS (l : Launch) (Z : State) (a0 : Array Value) (hw : ∀ d ∈ tables_1, d.before a0 Z = true) (ws : List Jvm.Cond) (j1 : Addr) (b1 : Addr) (v1 : Addr) (k1 : ClassId) (cp : Nat) (ct : Nat) (vs : List Value) (zc : Int32) (h0 : Heap) (n0 : Nat) (Z0 : n0 ≤ h0.size) (JT : Fld Z h0 j1 "com/example/orbweaver/orbweaver/mapping/JavaSource" "text" "Ljava/lang/StringBuilder;" (.ref b1)) (BE : Exa Z h0 b1 "java/lang/StringBuilder") (BV : Fld Z h0 b1 "java/lang/AbstractStringBuilder" "value" "[B" (.ref v1)) (BC : Fld Z h0 b1 "java/lang/AbstractStringBuilder" "coder" "B" (.int (0 : Int32))) (BN : Fld Z h0 b1 "java/lang/AbstractStringBuilder" "count" "I" (.int (Int32.ofNat ct))) (BA : Arv Z h0 v1 k1 .byte (Int32.ofNat cp) vs (.int (0 : Int32))) (BX : Exa Z h0 v1 "[B") (hvl : vs.length = cp) (hcp : cp ≤ 1000) (g_b1 : n0 ≤ b1) (g_v1 : n0 ≤ v1) (hct : ct ≤ cp) (hcT : ct ≤ 256) (OZ : Old Z n0 h0) (SC : Sta Z Z.heap "java/lang/String" "COMPACT_STRINGS" "Z" (.int zc)) (hzc : ¬ zc = (0 : Int32)) :
    MetFree l (⟨"com/example/orbweaver/orbweaver/mapping/JavaSource", "toString", "()Ljava/lang/String;"⟩ : MethodName) (head1 (Jvm.Cond.code (⟨"com/example/orbweaver/orbweaver/mapping/JavaSource", "toString", "()Ljava/lang/String;"⟩ : MethodName) prog_171_method_10_code 1 (some (.object "java/lang/String")) :: ws) ({ frames := 6, cells := 2, slots := 260, locals := 160 } : Room)) (fun a U => a = #[(.ref j1)] ∧ Z.Warmed39 U.vm ∧ U.heap = h0) (fun _ _ _ _ _ => True) (fun _ U o U' => ∃ v L, o = .returned v ∧ QJToS Z j1 b1 v1 k1 cp ct vs zc h0 n0 v U'.heap L ∧ FrameEnd U o U' L ({ frames := 6, cells := 2, slots := 260, locals := 160 } : Room).cells ({ frames := 6, cells := 2, slots := 260, locals := 160 } : Room).slots) := by
  refine MetFree.of_bodySF (plainFor_of_name pn_com_example_orbweaver_orbweaver_mapping_JavaSource) hisR ?_
  intro p e s m args below meth c s₁ Bd hml0 hP hK
  obtain ⟨rfl, hZ, hh⟩ := hP
  have hx := Bd.exec
  have hby := Bd.bytes
  have hml : c.maxLocals = 1 := hml0
  have hown : s.vm.findClass "com/example/orbweaver/orbweaver/mapping/JavaSource" = some m.cls := findClass_of_methodNamed Bd.named
  have hnm := (name_of_methodNamed Bd.named Bd.method).1
  have X0 : Stand p l e ({ frames := 6, cells := 2, slots := 260, locals := 160 } : Room) s m #[(.ref j1)] below meth c s₁ [] 0 0 := Stand.of_body Bd
  have e0 : s₁.heap = h0 := by rw [← hh, Bd.state]; rfl
  have N0 := Fr.nil n0
  have pre0 : ∀ t, Steps p.tables e below (s₁.setTop (mkF m 0 #[.val (.ref j1)] [])) t → Steps p.tables e below (s₁.setTop (entryFrame m #[(.ref j1)] 1)) t := fun t k => castTop (ef_JToS m j1) k
  obtain ⟨T282, X282, e282, st282⟩ := getF X0 hx hZ hown (host := "") (Or.inl (hw _ (List.mem_of_getElem? (i := 36) rfl))) Via.refl e0 JT (g := (mkF m 1 #[.val (.ref j1)] [(.ref j1)])) rfl rfl (hb hby d34_1)
  obtain ⟨cq283, kq283, q283a, q283b, q283c⟩ := isOf hZ e282 BE
  obtain ⟨_, _, ⟨T283, L283, k283, n283⟩, -, X283, ⟨Lc283, hQ283, l283, y283, z283⟩, st283⟩ := X282.virtualBack hx (y := (⟨"java/lang/StringBuilder", "toString", "()Ljava/lang/String;"⟩ : MethodName)) (z := (⟨"java/lang/StringBuilder", "toString", "()Ljava/lang/String;"⟩ : MethodName)) hown (mvT hZ (hw _ (List.mem_of_getElem? (i := 113) rfl))) (mvT hZ (hw _ (List.mem_of_getElem? (i := 114) rfl))) (notFace_of_selects (args := #[]) (mvT hZ (hw _ (List.mem_of_getElem? (i := 116) rfl)))) (mvT hZ (hw _ (List.mem_of_getElem? (i := 116) rfl))) (mvT hZ (hw _ (List.mem_of_getElem? (i := 115) rfl))) (by decide) (backOf (W := 0) (rmToS l Z a0 hw [] b1 v1 k1 cp ct vs zc h0 n0 Z0 BE BV BC BN BA BX hvl hcp g_b1 g_v1 hct hcT OZ SC hzc) hZ (hw _ (List.mem_of_getElem? (i := 117) rfl)) (hw _ (List.mem_of_getElem? (i := 20) rfl)) (by decide) (by decide)) q283a q283c (g := (mkF m 4 #[.val (.ref j1)] [(.ref b1)])) rfl (by rw [hml]; rfl) (Steps.refl _) (argsL := []) (rest := []) (lenOf pd___Ljava_lang_String_ rfl) rfl (by show 2 * 0 + _ ≤ _; exact Nat.le_of_eq rfl) (hb hby d34_4) (fun _ _ => ⟨rfl, e282, (by decide : 0 + 2 ≤ _), (by decide : 0 + 260 ≤ _)⟩)
  dsimp only [Pt.U, Pt.locs, Pt.cells, Pt.slots] at X283 l283 y283 z283 st283 hQ283
  subst l283 y283 z283
  obtain ⟨x2, rfl, N283q, EX283, RR283⟩ := hQ283
  have N283 := Fr.app N0 N283q
  have Z283 := Nat.le_trans Z0 EX283.1
  have K283 := (Keep.refl h0 []).ext EX283
  have pre284 : ∀ t, Steps p.tables e below (T283.setTop (mkF m 7 #[.val (.ref j1)] [(.ref x2)])) t → Steps p.tables e below (s₁.setTop (mkF m 0 #[.val (.ref j1)] [])) t := by
    intro t kt
    show Steps p.tables e below (s₁.setTop (mkF m 0 #[.val (.ref j1)] [])) _
    refine XS.aloadN X0.here hx rfl (hb hby d34_0) rfl rfl ?_
    show Steps p.tables e below (s₁.setTop (mkF m 1 #[.val (.ref j1)] [(.ref j1)])) _
    refine st282 _ ?_
    show Steps p.tables e below (T282.setTop (mkF m 4 #[.val (.ref j1)] [(.ref b1)])) _
    refine st283.trans ?_
    exact kt
  obtain ⟨fs, hr, hrun, hended, hW, hsame⟩ := X283.leave (v := some (.ref x2)) (fun h => by rw [Bd.returns] at h; cases h)
  refine ⟨_, _, (pre0 _ (pre284 _ ?_)), hrun, hended, _, _, rfl, ?_, ⟨_, rfl⟩, hW, hsame.mono (by decide) (by decide)⟩
  · show Steps p.tables e below (T283.setTop (mkF m 7 #[.val (.ref j1)] [(.ref x2)])) _
    exact retOut X283 hx (t := (.object "java/lang/String")) Bd.returns rfl (Or.inr (Or.inr (Or.inr (Or.inr ⟨rfl, rfl, rfl⟩)))) (hb hby d34_7) hr
  · show QJToS Z j1 b1 v1 k1 cp ct vs zc h0 n0 _ T283.heap _
    exact ⟨x2, rfl, N283, EX283, RR283⟩
theorem ef_Blank (m : MethodId) (x0 : Addr) : entryFrame m #[(.ref x0)] 1 = mkF m 0 #[.val (.ref x0)] [] := by (first | (simp [entryFrame, mkF, argsToLocals, Value.category]; done) | rfl)
def QBlank (Z : State) (j1 : Addr) (b1 : Addr) (v1 : Addr) (k1 : ClassId) (cp : Nat) (ct : Nat) (vs : List Value) (zc : Int32) (h0 : Heap) (n0 : Nat) (v : Option Value) (h : Heap) (L : List Loc) : Prop := v = some (.ref j1) ∧ Fr n0 L ∧ Keep h0 h [b1, v1] ∧ ∃ (v2 : Addr) (k2 : ClassId) (ws2 : List Value), (Exa Z h b1 "java/lang/StringBuilder" ∧ Fld Z h b1 "java/lang/AbstractStringBuilder" "value" "[B" (.ref v2) ∧ Fld Z h b1 "java/lang/AbstractStringBuilder" "coder" "B" (.int (0 : Int32)) ∧ Fld Z h b1 "java/lang/AbstractStringBuilder" "count" "I" (.int (Int32.ofNat (ct + 1))) ∧ Arv Z h v2 k2 .byte (Int32.ofNat (own_gr cp (ct + 1))) ws2 (.int (0 : Int32)) ∧ Exa Z h v2 "[B") ∧ ws2.length = own_gr cp (ct + 1) ∧ ws2.take (ct + 1) = vs.take ct ++ [.int (nar .byte ((10 : Int32).toInt8.toInt32))] ∧ n0 ≤ v2 ∧ (v2 = v1 ∨ h0.size ≤ v2)
theorem d32_0 : decode prog_171_method_4_code 0 = .ok (.aload_n 0, 1) := by decide +kernel
theorem d32_1 : decode prog_171_method_4_code 1 = .ok (.getfield 10, 3) := by decide +kernel
theorem d32_4 : decode prog_171_method_4_code 4 = .ok (.bipush 10, 2) := by decide +kernel
theorem d32_6 : decode prog_171_method_4_code 6 = .ok (.invokevirtual 56, 3) := by decide +kernel
theorem pd__C_Ljava_lang_StringBuilder_ : parseMethodDescriptor "(C)Ljava/lang/StringBuilder;" = some ⟨[.char], some (.object "java/lang/StringBuilder")⟩ := by decide +kernel
theorem d32_9 : decode prog_171_method_4_code 9 = .ok (.pop, 1) := by decide +kernel
theorem d32_10 : decode prog_171_method_4_code 10 = .ok (.aload_n 0, 1) := by decide +kernel
theorem d32_11 : decode prog_171_method_4_code 11 = .ok (.areturn, 1) := by decide +kernel
set_option maxRecDepth 65536 in
set_option maxHeartbeats 40000000 in
theorem rmBlank (l : Launch) (Z : State) (a0 : Array Value) (hw : ∀ d ∈ tables_1, d.before a0 Z = true) (ws : List Jvm.Cond) (j1 : Addr) (b1 : Addr) (v1 : Addr) (k1 : ClassId) (cp : Nat) (ct : Nat) (vs : List Value) (zc : Int32) (h0 : Heap) (n0 : Nat) (Z0 : n0 ≤ h0.size) (JT : Fld Z h0 j1 "com/example/orbweaver/orbweaver/mapping/JavaSource" "text" "Ljava/lang/StringBuilder;" (.ref b1)) (BE : Exa Z h0 b1 "java/lang/StringBuilder") (BV : Fld Z h0 b1 "java/lang/AbstractStringBuilder" "value" "[B" (.ref v1)) (BC : Fld Z h0 b1 "java/lang/AbstractStringBuilder" "coder" "B" (.int (0 : Int32))) (BN : Fld Z h0 b1 "java/lang/AbstractStringBuilder" "count" "I" (.int (Int32.ofNat ct))) (BA : Arv Z h0 v1 k1 .byte (Int32.ofNat cp) vs (.int (0 : Int32))) (BX : Exa Z h0 v1 "[B") (hvl : vs.length = cp) (hcp : cp ≤ 1000) (g_b1 : n0 ≤ b1) (g_v1 : n0 ≤ v1) (hct : ct ≤ cp) (hgM : ct + 1 ≤ cp ∨ max (ct + 1) (2 * cp + 2) ≤ 304) (hnM : ct + 1 ≤ 1000) (OZ : Old Z n0 h0) (SC : Sta Z Z.heap "java/lang/String" "COMPACT_STRINGS" "Z" (.int zc)) (hzc : ¬ zc = (0 : Int32)) :
    MetFree l (⟨"com/example/orbweaver/orbweaver/mapping/JavaSource", "blank", "()Lcom/example/orbweaver/orbweaver/mapping/JavaSource;"⟩ : MethodName) (head1 (Jvm.Cond.code (⟨"com/example/orbweaver/orbweaver/mapping/JavaSource", "blank", "()Lcom/example/orbweaver/orbweaver/mapping/JavaSource;"⟩ : MethodName) prog_171_method_4_code 1 (some (.object "com/example/orbweaver/orbweaver/mapping/JavaSource")) :: ws) ({ frames := 6, cells := 1, slots := 304, locals := 150 } : Room)) (fun a U => a = #[(.ref j1)] ∧ Z.Warmed39 U.vm ∧ U.heap = h0) (fun _ _ _ _ _ => True) (fun _ U o U' => ∃ v L, o = .returned v ∧ QBlank Z j1 b1 v1 k1 cp ct vs zc h0 n0 v U'.heap L ∧ FrameEnd U o U' L ({ frames := 6, cells := 1, slots := 304, locals := 150 } : Room).cells ({ frames := 6, cells := 1, slots := 304, locals := 150 } : Room).slots) := by
  refine MetFree.of_bodySF (plainFor_of_name pn_com_example_orbweaver_orbweaver_mapping_JavaSource) hisR ?_
  intro p e s m args below meth c s₁ Bd hml0 hP hK
  obtain ⟨rfl, hZ, hh⟩ := hP
  have hx := Bd.exec
  have hby := Bd.bytes
  have hml : c.maxLocals = 1 := hml0
  have hown : s.vm.findClass "com/example/orbweaver/orbweaver/mapping/JavaSource" = some m.cls := findClass_of_methodNamed Bd.named
  have hnm := (name_of_methodNamed Bd.named Bd.method).1
  have X0 : Stand p l e ({ frames := 6, cells := 1, slots := 304, locals := 150 } : Room) s m #[(.ref j1)] below meth c s₁ [] 0 0 := Stand.of_body Bd
  have e0 : s₁.heap = h0 := by rw [← hh, Bd.state]; rfl
  have N0 := Fr.nil n0
  have pre0 : ∀ t, Steps p.tables e below (s₁.setTop (mkF m 0 #[.val (.ref j1)] [])) t → Steps p.tables e below (s₁.setTop (entryFrame m #[(.ref j1)] 1)) t := fun t k => castTop (ef_Blank m j1) k
  have mem_b1 : b1 ∈ [b1, v1] := List.mem_of_getElem? (i := 0) rfl
  have mem_v1 : v1 ∈ [b1, v1] := List.mem_of_getElem? (i := 1) rfl
  obtain ⟨T285, X285, e285, st285⟩ := getF X0 hx hZ hown (host := "") (Or.inl (hw _ (List.mem_of_getElem? (i := 36) rfl))) Via.refl e0 JT (g := (mkF m 1 #[.val (.ref j1)] [(.ref j1)])) rfl rfl (hb hby d32_1)
  obtain ⟨cq286, kq286, q286a, q286b, q286c⟩ := isOf hZ e285 BE
  obtain ⟨_, _, ⟨T286, L286, k286, n286⟩, -, X286, ⟨Lc286, hQ286, l286, y286, z286⟩, st286⟩ := X285.virtualBack hx (y := (⟨"java/lang/StringBuilder", "append", "(C)Ljava/lang/StringBuilder;"⟩ : MethodName)) (z := (⟨"java/lang/StringBuilder", "append", "(C)Ljava/lang/StringBuilder;"⟩ : MethodName)) hown (mvT hZ (hw _ (List.mem_of_getElem? (i := 171) rfl))) (mvT hZ (hw _ (List.mem_of_getElem? (i := 172) rfl))) (notFace_of_selects (args := #[]) (mvT hZ (hw _ (List.mem_of_getElem? (i := 174) rfl)))) (mvT hZ (hw _ (List.mem_of_getElem? (i := 174) rfl))) (mvT hZ (hw _ (List.mem_of_getElem? (i := 173) rfl))) (by decide) (backOf (W := 0) (rmSApC l Z a0 hw [] b1 v1 k1 cp ct vs (10 : Int32) zc h0 n0 Z0 BE BV BC BN BA BX hvl hcp g_b1 g_v1 (by decide) hct hgM hnM OZ SC hzc) hZ (hw _ (List.mem_of_getElem? (i := 175) rfl)) (hw _ (List.mem_of_getElem? (i := 20) rfl)) (by decide) (by decide)) q286a q286c (g := (mkF m 6 #[.val (.ref j1)] [(.int (10 : Int32)), (.ref b1)])) rfl (by rw [hml]; rfl) (Steps.refl _) (argsL := [(.int (10 : Int32))]) (rest := []) (lenOf pd__C_Ljava_lang_StringBuilder_ rfl) rfl (by show 2 * 0 + _ ≤ _; exact Nat.le_of_eq rfl) (hb hby d32_6) (fun _ _ => ⟨rfl, e285, (by decide : 0 + 1 ≤ _), (by decide : 0 + 304 ≤ _)⟩)
  dsimp only [Pt.U, Pt.locs, Pt.cells, Pt.slots] at X286 l286 y286 z286 st286 hQ286
  subst l286 y286 z286
  obtain ⟨rfl, N286q, KC286, RR⟩ := hQ286
  have N286 := Fr.app N0 N286q
  have Z286 := Nat.le_trans Z0 KC286.1
  have K286 := (Keep.refl h0 [b1, v1]).trans KC286 (allS (Or.inl mem_b1) (allS (Or.inl mem_v1) all0))
  have pre287 : ∀ t, Steps p.tables e below (T286.setTop (mkF m 11 #[.val (.ref j1)] [(.ref j1)])) t → Steps p.tables e below (s₁.setTop (mkF m 0 #[.val (.ref j1)] [])) t := by
    intro t kt
    show Steps p.tables e below (s₁.setTop (mkF m 0 #[.val (.ref j1)] [])) _
    refine XS.aloadN X0.here hx rfl (hb hby d32_0) rfl rfl ?_
    show Steps p.tables e below (s₁.setTop (mkF m 1 #[.val (.ref j1)] [(.ref j1)])) _
    refine st285 _ ?_
    show Steps p.tables e below (T285.setTop (mkF m 4 #[.val (.ref j1)] [(.ref b1)])) _
    refine XS.bipush X285.here hx rfl (hb hby d32_4) ?_
    show Steps p.tables e below (T285.setTop (mkF m 6 #[.val (.ref j1)] [(.int (10 : Int32)), (.ref b1)])) _
    refine st286.trans ?_
    show Steps p.tables e below (T286.setTop (mkF m 9 #[.val (.ref j1)] [(.ref b1)])) _
    refine XS.pop X286.here hx rfl (hb hby d32_9) rfl rfl ?_
    show Steps p.tables e below (T286.setTop (mkF m 10 #[.val (.ref j1)] [])) _
    refine XS.aloadN X286.here hx rfl (hb hby d32_10) rfl rfl ?_
    exact kt
  obtain ⟨fs, hr, hrun, hended, hW, hsame⟩ := X286.leave (v := some (.ref j1)) (fun h => by rw [Bd.returns] at h; cases h)
  refine ⟨_, _, (pre0 _ (pre287 _ ?_)), hrun, hended, _, _, rfl, ?_, ⟨_, rfl⟩, hW, hsame.mono (by decide) (by decide)⟩
  · show Steps p.tables e below (T286.setTop (mkF m 11 #[.val (.ref j1)] [(.ref j1)])) _
    exact retOut X286 hx (t := (.object "com/example/orbweaver/orbweaver/mapping/JavaSource")) Bd.returns rfl (Or.inr (Or.inr (Or.inr (Or.inr ⟨rfl, rfl, rfl⟩)))) (hb hby d32_11) hr
  · show QBlank Z j1 b1 v1 k1 cp ct vs zc h0 n0 _ T286.heap _
    exact ⟨rfl, N286, K286, RR⟩
theorem ef_Line (m : MethodId) (x0 : Addr) (x1 : Addr) : entryFrame m #[(.ref x0), (.ref x1)] 2 = mkF m 0 #[.val (.ref x0), .val (.ref x1)] [] := by (first | (simp [entryFrame, mkF, argsToLocals, Value.category]; done) | rfl)
def QLine (Z : State) (j1 : Addr) (b1 : Addr) (v1 : Addr) (k1 : ClassId) (cp : Nat) (ct : Nat) (vs : List Value) (x1 : Addr) (t1 : Addr) (kx : ClassId) (nx : Nat) (xs : List Value) (dn : Nat) (zc : Int32) (h0 : Heap) (n0 : Nat) (v : Option Value) (h : Heap) (L : List Loc) (vm : Vm) : Prop := v = some (.ref j1) ∧ Fr n0 L ∧ Keep h0 h [b1, v1] ∧ ∃ (v2 : Addr) (k2 : ClassId) (ws2 : List Value), (Exa Z h b1 "java/lang/StringBuilder" ∧ Fld Z h b1 "java/lang/AbstractStringBuilder" "value" "[B" (.ref v2) ∧ Fld Z h b1 "java/lang/AbstractStringBuilder" "coder" "B" (.int (0 : Int32)) ∧ Fld Z h b1 "java/lang/AbstractStringBuilder" "count" "I" (.int (Int32.ofNat (ct + 4 * dn + nx + 1))) ∧ Arv Z h v2 k2 .byte (Int32.ofNat (own_gr (own_gr (own_gr (cp) (ct + 4 * dn)) (ct + 4 * dn + nx)) (ct + 4 * dn + nx + 1))) ws2 (.int (0 : Int32)) ∧ Exa Z h v2 "[B") ∧ ws2.length = own_gr (own_gr (own_gr (cp) (ct + 4 * dn)) (ct + 4 * dn + nx)) (ct + 4 * dn + nx + 1) ∧ ws2.take (ct + 4 * dn + nx + 1) = vs.take ct ++ (List.replicate (4 * dn) (.int (32 : Int32))) ++ xs ++ [.int (nar .byte ((10 : Int32).toInt8.toInt32))] ∧ n0 ≤ v2 ∧ (v2 = v1 ∨ h0.size ≤ v2) ∧ Safe Z EL vm h v2
theorem d26_0 : decode prog_171_method_2_code 0 = .ok (.aload_n 0, 1) := by decide +kernel
theorem d26_1 : decode prog_171_method_2_code 1 = .ok (.getfield 10, 3) := by decide +kernel
theorem d26_4 : decode prog_171_method_2_code 4 = .ok (.ldc 46, 2) := by decide +kernel
theorem d26_6 : decode prog_171_method_2_code 6 = .ok (.aload_n 0, 1) := by decide +kernel
theorem d26_7 : decode prog_171_method_2_code 7 = .ok (.getfield 48, 3) := by decide +kernel
theorem d26_10 : decode prog_171_method_2_code 10 = .ok (.invokevirtual 52, 3) := by decide +kernel
theorem pd__I_Ljava_lang_String_ : parseMethodDescriptor "(I)Ljava/lang/String;" = some ⟨[.int], some (.object "java/lang/String")⟩ := by decide +kernel
theorem d26_13 : decode prog_171_method_2_code 13 = .ok (.invokevirtual 18, 3) := by decide +kernel
theorem pd__Ljava_lang_String__Ljava_lang_StringBuilder_ : parseMethodDescriptor "(Ljava/lang/String;)Ljava/lang/StringBuilder;" = some ⟨[(.object "java/lang/String")], some (.object "java/lang/StringBuilder")⟩ := by decide +kernel
theorem d26_16 : decode prog_171_method_2_code 16 = .ok (.aload_n 1, 1) := by decide +kernel
theorem d26_17 : decode prog_171_method_2_code 17 = .ok (.invokevirtual 18, 3) := by decide +kernel
theorem d26_20 : decode prog_171_method_2_code 20 = .ok (.bipush 10, 2) := by decide +kernel
theorem d26_22 : decode prog_171_method_2_code 22 = .ok (.invokevirtual 56, 3) := by decide +kernel
theorem d26_25 : decode prog_171_method_2_code 25 = .ok (.pop, 1) := by decide +kernel
theorem d26_26 : decode prog_171_method_2_code 26 = .ok (.aload_n 0, 1) := by decide +kernel
theorem d26_27 : decode prog_171_method_2_code 27 = .ok (.areturn, 1) := by decide +kernel
set_option maxRecDepth 65536 in
set_option maxHeartbeats 40000000 in
theorem rmLine (l : Launch) (Z : State) (a0 : Array Value) (hw : ∀ d ∈ tables_1, d.before a0 Z = true) (ws : List Jvm.Cond) (j1 : Addr) (b1 : Addr) (v1 : Addr) (k1 : ClassId) (cp : Nat) (ct : Nat) (vs : List Value) (x1 : Addr) (t1 : Addr) (kx : ClassId) (nx : Nat) (xs : List Value) (dn : Nat) (zc : Int32) (h0 : Heap) (n0 : Nat) (Z0 : n0 ≤ h0.size) (hEL : EW Z a0 EL) (JE : Exa Z h0 j1 "com/example/orbweaver/orbweaver/mapping/JavaSource") (JT : Fld Z h0 j1 "com/example/orbweaver/orbweaver/mapping/JavaSource" "text" "Ljava/lang/StringBuilder;" (.ref b1)) (JD : Fld Z h0 j1 "com/example/orbweaver/orbweaver/mapping/JavaSource" "depth" "I" (.int (Int32.ofNat dn))) (BE : Exa Z h0 b1 "java/lang/StringBuilder") (BV : Fld Z h0 b1 "java/lang/AbstractStringBuilder" "value" "[B" (.ref v1)) (BC : Fld Z h0 b1 "java/lang/AbstractStringBuilder" "coder" "B" (.int (0 : Int32))) (BN : Fld Z h0 b1 "java/lang/AbstractStringBuilder" "count" "I" (.int (Int32.ofNat ct))) (BA : Arv Z h0 v1 k1 .byte (Int32.ofNat cp) vs (.int (0 : Int32))) (BX : Exa Z h0 v1 "[B") (hvl : vs.length = cp) (hcp : cp ≤ 1000) (g_b1 : n0 ≤ b1) (g_v1 : n0 ≤ v1) (XE : Exa Z h0 x1 "java/lang/String") (XV : Fld Z h0 x1 "java/lang/String" "value" "[B" (.ref t1)) (XC : Fld Z h0 x1 "java/lang/String" "coder" "B" (.int (0 : Int32))) (XA : Arv Z h0 t1 kx .byte (Int32.ofNat nx) xs (.int (0 : Int32))) (hxl : xs.length = nx) (hnx : nx ≤ 1000) (ntv : t1 ≠ v1) (hct : ct ≤ cp) (hdn : 4 * dn ≤ 160) (hg1 : ct + 4 * dn ≤ cp ∨ max (ct + 4 * dn) (2 * (cp) + 2) ≤ 304) (hg2 : ct + 4 * dn + nx ≤ own_gr (cp) (ct + 4 * dn) ∨ max (ct + 4 * dn + nx) (2 * (own_gr (cp) (ct + 4 * dn)) + 2) ≤ 304) (hg3 : ct + 4 * dn + nx + 1 ≤ own_gr (own_gr (cp) (ct + 4 * dn)) (ct + 4 * dn + nx) ∨ max (ct + 4 * dn + nx + 1) (2 * (own_gr (own_gr (cp) (ct + 4 * dn)) (ct + 4 * dn + nx)) + 2) ≤ 304) (hn3 : ct + 4 * dn + nx + 1 ≤ 1000) (OZ : Old Z n0 h0) (SC : Sta Z Z.heap "java/lang/String" "COMPACT_STRINGS" "Z" (.int zc)) (hzc : ¬ zc = (0 : Int32)) :
    MetFree l (⟨"com/example/orbweaver/orbweaver/mapping/JavaSource", "line", "(Ljava/lang/String;)Lcom/example/orbweaver/orbweaver/mapping/JavaSource;"⟩ : MethodName) (head1 (Jvm.Cond.code (⟨"com/example/orbweaver/orbweaver/mapping/JavaSource", "line", "(Ljava/lang/String;)Lcom/example/orbweaver/orbweaver/mapping/JavaSource;"⟩ : MethodName) prog_171_method_2_code 2 (some (.object "com/example/orbweaver/orbweaver/mapping/JavaSource")) :: ws) ({ frames := 7, cells := 7, slots := 1096, locals := 190 } : Room)) (fun a U => a = #[(.ref j1), (.ref x1)] ∧ Z.Warmed39 U.vm ∧ U.heap = h0 ∧ CHv Z EL U.vm h0 ∧ Safe Z EL U.vm h0 v1) (fun _ _ _ _ _ => True) (fun _ U o U' => ∃ v L, o = .returned v ∧ QLine Z j1 b1 v1 k1 cp ct vs x1 t1 kx nx xs dn zc h0 n0 v U'.heap L U'.vm ∧ CHr Z EL U.vm U.heap U'.vm U'.heap ∧ ReturnedEndW U o U' L ({ frames := 7, cells := 7, slots := 1096, locals := 190 } : Room).cells ({ frames := 7, cells := 7, slots := 1096, locals := 190 } : Room).slots) := by
  refine MetFree.of_bodySF (plainFor_of_name pn_com_example_orbweaver_orbweaver_mapping_JavaSource) hisR ?_
  intro p e s m args below meth c s₁ Bd hml0 hP hK
  obtain ⟨rfl, hZ, hh, hCH, hY⟩ := hP
  have hx := Bd.exec
  have hby := Bd.bytes
  have hml : c.maxLocals = 2 := hml0
  have hown : s.vm.findClass "com/example/orbweaver/orbweaver/mapping/JavaSource" = some m.cls := findClass_of_methodNamed Bd.named
  have hnm := (name_of_methodNamed Bd.named Bd.method).1
  have X0 : Stand p l e ({ frames := 7, cells := 7, slots := 1096, locals := 190 } : Room) s m #[(.ref j1), (.ref x1)] below meth c s₁ [] 0 0 := Stand.of_body Bd
  have e0 : s₁.heap = h0 := by rw [← hh, Bd.state]; rfl
  have N0 := Fr.nil n0
  have pre0 : ∀ t, Steps p.tables e below (s₁.setTop (mkF m 0 #[.val (.ref j1), .val (.ref x1)] [])) t → Steps p.tables e below (s₁.setTop (entryFrame m #[(.ref j1), (.ref x1)] 2)) t := fun t k => castTop (ef_Line m j1 x1) k
  have X0 : Stand p l e ({ frames := 7, cells := 7, slots := 1096, locals := 190 } : Room) (s.setVm s.vm) m #[(.ref j1), (.ref x1)] below meth c s₁ [] 0 0 := by rw [State.setVm_self]; exact X0
  have hZ : Z.Warmed39 (s.setVm s.vm).vm := hZ
  have hown : (s.setVm s.vm).vm.findClass "com/example/orbweaver/orbweaver/mapping/JavaSource" = some m.cls := hown
  have hSi0 : s.Since s.vm 0 := (State.WarmedH.refl s).since 0
  have ne_b1_v1 : b1 ≠ v1 := BE.neArv BA (hw _ (List.mem_of_getElem? (i := 19) rfl))
  have ne_x1_t1 : x1 ≠ t1 := XE.neArv XA (hw _ (List.mem_of_getElem? (i := 6) rfl))
  have ne_x1_b1 : x1 ≠ b1 := XE.ne BE (by decide)
  have ne_b1_t1 : b1 ≠ t1 := BE.neArv XA (hw _ (List.mem_of_getElem? (i := 19) rfl))
  have ne_x1_v1 : x1 ≠ v1 := XE.neArv BA (hw _ (List.mem_of_getElem? (i := 6) rfl))
  have mem_b1 : b1 ∈ [b1, v1] := List.mem_of_getElem? (i := 0) rfl
  have mem_v1 : v1 ∈ [b1, v1] := List.mem_of_getElem? (i := 1) rfl
  obtain ⟨T288, X288, e288, st288⟩ := getF X0 hx hZ hown (host := "") (Or.inl (hw _ (List.mem_of_getElem? (i := 36) rfl))) Via.refl e0 JT (g := (mkF m 1 #[.val (.ref j1), .val (.ref x1)] [(.ref j1)])) rfl rfl (hb hby d26_1)
  have pre289 : ∀ t, Steps p.tables e below (T288.setTop (mkF m 4 #[.val (.ref j1), .val (.ref x1)] [(.ref b1)])) t → Steps p.tables e below (s₁.setTop (mkF m 0 #[.val (.ref j1), .val (.ref x1)] [])) t := by
    intro t kt
    show Steps p.tables e below (s₁.setTop (mkF m 0 #[.val (.ref j1), .val (.ref x1)] [])) _
    refine XS.aloadN X0.here hx rfl (hb hby d26_0) rfl rfl ?_
    show Steps p.tables e below (s₁.setTop (mkF m 1 #[.val (.ref j1), .val (.ref x1)] [(.ref j1)])) _
    refine st288 _ ?_
    exact kt
  have wS290 : ∀ a ∈ Bundle.stringAtoms, a.before a0 Z = true := fun d hd => hw d ((by decide +kernel : ∀ d ∈ Bundle.stringAtoms, d ∈ tables_1) d hd)
  obtain ⟨b290, T290, h290, k290, d290, kb290, X290, e290, E290, hSi290, hk290, hZ, hown, A290, FC290, FV290, V290, -, -, crs290, Lt290, nn290, st290⟩ := ldcCH (s := s) (vm0 := s.vm) X288 hx hZ hown (hw _ (List.mem_of_getElem? (i := 162) rfl)) wS290 e288 hSi0 (Nat.zero_le _) hEL (by decide : ("com/example/orbweaver/orbweaver/mapping/JavaSource", 46) ∈ EL) hCH (vs := [(.int (32 : Int32)), (.int (32 : Int32)), (.int (32 : Int32)), (.int (32 : Int32))]) (z := (4 : Int32)) ⟨by decide, rfl⟩ (by decide) (by decide) (g := (mkF m 4 #[.val (.ref j1), .val (.ref x1)] [(.ref b1)])) rfl (hb hby d26_4) (n := 16) (by decide) (by decide) (by decide) (by decide)
  have cs291 := crs290
  have cr291 := (CHr.refl hCH).trans cs291
  have y291_v1 := cs291.safe BA.lt hY
  have Z290 := Nat.le_trans Z0 E290.1
  have K290 := (Keep.refl h0 [b1, v1]).ext E290
  obtain ⟨ne_v1_b290, ne_v1_d290⟩ := nn290 _ y291_v1
  have f292 := (BE.ext E290)
  have ne_b1_b290 : b1 ≠ b290 := f292.ne A290 (by decide)
  have ne_b1_d290 : b1 ≠ d290 := f292.neArv V290 (hw _ (List.mem_of_getElem? (i := 19) rfl))
  have f293 := (JE.ext E290)
  have ne_j1_b290 : j1 ≠ b290 := f293.ne A290 (by decide)
  have ne_j1_d290 : j1 ≠ d290 := f293.neArv V290 (hw _ (List.mem_of_getElem? (i := 2) rfl))
  have f294 := (JD.ext E290)
  obtain ⟨T295, X295, e295, st295⟩ := getF X290 hx hZ hown (host := "") (Or.inl (hw _ (List.mem_of_getElem? (i := 163) rfl))) Via.refl e290 f294 (g := (mkF m 7 #[.val (.ref j1), .val (.ref x1)] [(.ref j1), (.ref b290), (.ref b1)])) rfl rfl (hb hby d26_7)
  have f296 := (BA.ext E290)
  have ltv := f296.lt
  have pre297 : ∀ t, Steps p.tables e below (T295.setTop (mkF m 10 #[.val (.ref j1), .val (.ref x1)] [(.int (Int32.ofNat dn)), (.ref b290), (.ref b1)])) t → Steps p.tables e below (T288.setTop (mkF m 4 #[.val (.ref j1), .val (.ref x1)] [(.ref b1)])) t := by
    intro t kt
    show Steps p.tables e below (T288.setTop (mkF m 4 #[.val (.ref j1), .val (.ref x1)] [(.ref b1)])) _
    refine st290 _ ?_
    show Steps p.tables e below (T290.setTop (mkF m 6 #[.val (.ref j1), .val (.ref x1)] [(.ref b290), (.ref b1)])) _
    refine XS.aloadN X290.here hx rfl (hb hby d26_6) rfl rfl ?_
    show Steps p.tables e below (T290.setTop (mkF m 7 #[.val (.ref j1), .val (.ref x1)] [(.ref j1), (.ref b290), (.ref b1)])) _
    refine st295 _ ?_
    exact kt
  obtain ⟨cq298, kq298, q298a, q298b, q298c⟩ := isOf hZ e295 A290
  obtain ⟨_, _, ⟨T298, L298, k298, n298⟩, -, X298, hs298, hg298, ⟨Lc298, hQ298, l298, y298, z298, crs298⟩, st298⟩ := X295.virtualBackS hx (y := (⟨"java/lang/String", "repeat", "(I)Ljava/lang/String;"⟩ : MethodName)) (z := (⟨"java/lang/String", "repeat", "(I)Ljava/lang/String;"⟩ : MethodName)) hown (mvT hZ (hw _ (List.mem_of_getElem? (i := 165) rfl))) (mvT hZ (hw _ (List.mem_of_getElem? (i := 166) rfl))) (notFace_of_selects (args := #[]) (mvT hZ (hw _ (List.mem_of_getElem? (i := 168) rfl)))) (mvT hZ (hw _ (List.mem_of_getElem? (i := 168) rfl))) (mvT hZ (hw _ (List.mem_of_getElem? (i := 167) rfl))) (by decide) (own_backS0 (s := s) (W := 1) (rmRep l Z a0 hw [] b290 d290 kb290 dn h290 n0 Z290 hEL A290 FV290 FC290 V290 hdn) hZ (hw _ (List.mem_of_getElem? (i := 169) rfl)) (hw _ (List.mem_of_getElem? (i := 5) rfl)) (by decide) (by decide) hEL cs291.1) q298a q298c (g := (mkF m 10 #[.val (.ref j1), .val (.ref x1)] [(.int (Int32.ofNat dn)), (.ref b290), (.ref b1)])) rfl (by rw [hml]; rfl) (Steps.refl _) (argsL := [(.int (Int32.ofNat dn))]) (rest := [(.ref b1)]) (lenOf pd__I_Ljava_lang_String_ rfl) rfl (by show 2 * 0 + _ ≤ _; exact Nat.le_of_eq rfl) (hb hby d26_10) (fun _ _ => ⟨rfl, e295, (by decide : 2 + 2 ≤ _), (by decide : 20 + 164 ≤ _)⟩)
  dsimp only [Pt.U, Pt.locs, Pt.cells, Pt.slots] at X298 l298 y298 z298 st298 hQ298 hs298 hg298 crs298
  subst l298 y298 z298
  obtain ⟨X298, hSi298, hZ, hown⟩ := rebS hSi290 (by rw [e295]; exact hk290) X298 hs298 hg298 hZ hown
  obtain ⟨xr, rfl, N298q, EX298, tr, kr, ⟨RE, RV, RC, RA⟩, hor⟩ := hQ298
  have N298 := Fr.app N0 N298q
  have cs299 := crs298
  have cr299 := cr291.trans cs299
  have y299_v1 := cs299.safe f296.lt y291_v1
  have Z298 := Nat.le_trans Z290 EX298.1
  have K298 := K290.ext EX298
  have ntr : tr ≠ v1 := by
    rcases hor with q | q | q
    · rw [q]; exact Ne.symm ne_v1_d290
    · exact Ne.symm (Nat.ne_of_lt (Nat.lt_of_lt_of_le ltv q))
    · exact Ne.symm (q _ y299_v1)
  obtain ⟨LL300, XL300, NL300⟩ : ∃ LL, Stand p l e ({ frames := 7, cells := 7, slots := 1096, locals := 190 } : Room) (s.setVm T298.vm) m #[(.ref j1), (.ref x1)] below meth c T298 LL 4 184 ∧ Fr n0 LL := ⟨_, X298, N298⟩
  have f301 := ((XA.ext E290).ext EX298)
  have ltt := f301.lt
  have f303 := (f292.ext EX298)
  have f304 := ((BV.ext E290).ext EX298)
  have f305 := ((BC.ext E290).ext EX298)
  have f306 := ((BN.ext E290).ext EX298)
  have f307 := (f296.ext EX298)
  have f308 := ((BX.ext E290).ext EX298)
  have f309 := ((OZ.ext E290).ext EX298)
  have f310 := (A290.ext EX298)
  have f311 := (V290.ext EX298)
  have f312 := (f293.ext EX298)
  have f313 := ((XE.ext E290).ext EX298)
  obtain ⟨cq314, kq314, q314a, q314b, q314c⟩ := isOf hZ rfl f303
  obtain ⟨_, _, ⟨T314, L314, k314, n314⟩, -, X314, ⟨Lc314, hQ314, l314, y314, z314⟩, st314⟩ := XL300.virtualBack hx (y := (⟨"java/lang/StringBuilder", "append", "(Ljava/lang/String;)Ljava/lang/StringBuilder;"⟩ : MethodName)) (z := (⟨"java/lang/StringBuilder", "append", "(Ljava/lang/String;)Ljava/lang/StringBuilder;"⟩ : MethodName)) hown (mvT hZ (hw _ (List.mem_of_getElem? (i := 39) rfl))) (mvT hZ (hw _ (List.mem_of_getElem? (i := 40) rfl))) (notFace_of_selects (args := #[]) (mvT hZ (hw _ (List.mem_of_getElem? (i := 42) rfl)))) (mvT hZ (hw _ (List.mem_of_getElem? (i := 42) rfl))) (mvT hZ (hw _ (List.mem_of_getElem? (i := 41) rfl))) (by decide) (backOf (W := 0) (rmSApS l Z a0 hw [] b1 v1 k1 (cp) (ct) vs xr tr kr (4 * dn) (List.replicate (4 * dn) (.int (32 : Int32))) zc T298.heap n0 Z298 f303 f304 f305 f306 f307 f308 hvl hcp g_b1 g_v1 RE RV RC RA (by simp) (by omega) ntr hct (hg1 : ct + 4 * dn ≤ cp ∨ max (ct + 4 * dn) (2 * (cp) + 2) ≤ 304) (by omega) f309 SC hzc) hZ (hw _ (List.mem_of_getElem? (i := 43) rfl)) (hw _ (List.mem_of_getElem? (i := 20) rfl)) (by decide) (by decide)) q314a q314c (g := (mkF m 13 #[.val (.ref j1), .val (.ref x1)] [(.ref xr), (.ref b1)])) rfl (by rw [hml]; rfl) (Steps.refl _) (argsL := [(.ref xr)]) (rest := []) (lenOf pd__Ljava_lang_String__Ljava_lang_StringBuilder_ rfl) rfl (by show 2 * 0 + _ ≤ _; exact Nat.le_of_eq rfl) (hb hby d26_13) (fun _ _ => ⟨rfl, rfl, (by decide : 4 + 1 ≤ _), (by decide : 184 + 304 ≤ _)⟩)
  dsimp only [Pt.U, Pt.locs, Pt.cells, Pt.slots] at X314 l314 y314 z314 st314 hQ314
  subst l314 y314 z314
  obtain ⟨rfl, N314q, KC314, v2_302, k2_302, wa_302, ⟨E302, V302, C302, N302, A302, X302⟩, l2_302, tk_302, g_v2_302, hv_302⟩ := hQ314
  have N314 := Fr.app NL300 N314q
  have cs315 := CHr.keep KC314 (allS (Safe.exa (EL := EL) hZ.alike f303 (by decide) (by decide)) (allS y299_v1 all0)) cs299.1
  have cr315 := cr299.trans cs315
  have y315_v1 := cs315.safe f307.lt y299_v1
  have hk315 := Nat.le_trans (Nat.le_refl _) cs315.2.1
  have Z314 := Nat.le_trans Z298 KC314.1
  have K314 := K298.trans KC314 (allS (Or.inl mem_b1) (allS (Or.inl mem_v1) all0))
  have wz_v2_302 : v2_302 ∈ [b1, v1] ∨ h0.size ≤ v2_302 := hv_302.elim (fun q => by rw [q]; exact Or.inl mem_v1) (fun q => Or.inr (Nat.le_trans K298.1 q))
  have KK1 := K298
  have ne_b290_v2_302 : b290 ≠ v2_302 := hv_302.elim (fun q => by rw [q]; exact (Ne.symm ne_v1_b290)) (fun q => Nat.ne_of_lt (Nat.lt_of_lt_of_le f310.lt q))
  have ne_d290_v2_302 : d290 ≠ v2_302 := hv_302.elim (fun q => by rw [q]; exact (Ne.symm ne_v1_d290)) (fun q => Nat.ne_of_lt (Nat.lt_of_lt_of_le f311.lt q))
  have ne_t1_v2_302 : t1 ≠ v2_302 := hv_302.elim (fun q => by rw [q]; exact ntv) (fun q => Nat.ne_of_lt (Nat.lt_of_lt_of_le f301.lt q))
  have ne_x1_v2_302 : x1 ≠ v2_302 := hv_302.elim (fun q => by rw [q]; exact ne_x1_v1) (fun q => Nat.ne_of_lt (Nat.lt_of_lt_of_le f313.lt q))
  have y_v2_302 := own_safeK KC314 (allS (Safe.exa (EL := EL) hZ.alike f303 (by decide) (by decide)) (allS y299_v1 all0)) cs299.1 hv_302 y299_v1
  have hgl_302 := @own_grle (cp) (ct + 4 * dn)
  have hgm_302 : own_gr (cp) (ct + 4 * dn) ≤ 1000 := own_grM hcp (by decide) (hg1 : ct + 4 * dn ≤ cp ∨ max (ct + 4 * dn) (2 * (cp) + 2) ≤ 304)
  have ne_b1_v2_302 : b1 ≠ v2_302 := E302.neArv A302 (hw _ (List.mem_of_getElem? (i := 19) rfl))
  have nt2 : t1 ≠ v2_302 := hv_302.elim (fun q => by rw [q]; exact ntv) (fun q => Nat.ne_of_lt (Nat.lt_of_lt_of_le ltt q))
  have f317 := (f313.keep KC314)
  have f318 := (((XV.ext E290).ext EX298).keep KC314 (ninS ne_x1_b1 (ninS ne_x1_v1 nin0)))
  have f319 := (((XC.ext E290).ext EX298).keep KC314 (ninS ne_x1_b1 (ninS ne_x1_v1 nin0)))
  have f320 := (f301.keep KC314 (ninS (Ne.symm ne_b1_t1) (ninS ntv nin0)))
  have f321 := (f309.keep KC314 (allS g_b1 (allS g_v1 all0)))
  have f322 := (f312.keep KC314)
  obtain ⟨cq323, kq323, q323a, q323b, q323c⟩ := isOf hZ rfl E302
  obtain ⟨_, _, ⟨T323, L323, k323, n323⟩, -, X323, ⟨Lc323, hQ323, l323, y323, z323⟩, st323⟩ := X314.virtualBack hx (y := (⟨"java/lang/StringBuilder", "append", "(Ljava/lang/String;)Ljava/lang/StringBuilder;"⟩ : MethodName)) (z := (⟨"java/lang/StringBuilder", "append", "(Ljava/lang/String;)Ljava/lang/StringBuilder;"⟩ : MethodName)) hown (mvT hZ (hw _ (List.mem_of_getElem? (i := 39) rfl))) (mvT hZ (hw _ (List.mem_of_getElem? (i := 40) rfl))) (notFace_of_selects (args := #[]) (mvT hZ (hw _ (List.mem_of_getElem? (i := 42) rfl)))) (mvT hZ (hw _ (List.mem_of_getElem? (i := 42) rfl))) (mvT hZ (hw _ (List.mem_of_getElem? (i := 41) rfl))) (by decide) (backOf (W := 0) (rmSApS l Z a0 hw [] b1 v2_302 k2_302 (own_gr (cp) (ct + 4 * dn)) (ct + 4 * dn) wa_302 x1 t1 kx (nx) xs zc T314.heap n0 Z314 E302 V302 C302 N302 A302 X302 l2_302 hgm_302 g_b1 g_v2_302 f317 f318 f319 f320 hxl hnx nt2 hgl_302.1 (hg2 : ct + 4 * dn + nx ≤ own_gr (cp) (ct + 4 * dn) ∨ max (ct + 4 * dn + nx) (2 * (own_gr (cp) (ct + 4 * dn)) + 2) ≤ 304) (by omega) f321 SC hzc) hZ (hw _ (List.mem_of_getElem? (i := 43) rfl)) (hw _ (List.mem_of_getElem? (i := 20) rfl)) (by decide) (by decide)) q323a q323c (g := (mkF m 17 #[.val (.ref j1), .val (.ref x1)] [(.ref x1), (.ref b1)])) rfl (by rw [hml]; rfl) (Steps.refl _) (argsL := [(.ref x1)]) (rest := []) (lenOf pd__Ljava_lang_String__Ljava_lang_StringBuilder_ rfl) rfl (by show 2 * 0 + _ ≤ _; exact Nat.le_of_eq rfl) (hb hby d26_17) (fun _ _ => ⟨rfl, rfl, (by decide : 5 + 1 ≤ _), (by decide : 488 + 304 ≤ _)⟩)
  dsimp only [Pt.U, Pt.locs, Pt.cells, Pt.slots] at X323 l323 y323 z323 st323 hQ323
  subst l323 y323 z323
  obtain ⟨rfl, N323q, KC323, v2_316, k2_316, wa_316, ⟨E316, V316, C316, N316, A316, X316⟩, l2_316, tk_316, g_v2_316, hv_316⟩ := hQ323
  have N323 := Fr.app N314 N323q
  have cs324 := CHr.keep KC323 (allS (Safe.exa (EL := EL) hZ.alike E302 (by decide) (by decide)) (allS y_v2_302 all0)) cs315.1
  have cr324 := cr315.trans cs324
  have y324_v2_302 := cs324.safe A302.lt y_v2_302
  have hk324 := Nat.le_trans hk315 cs324.2.1
  have Z323 := Nat.le_trans Z314 KC323.1
  have K323 := K314.trans KC323 (allS (Or.inl mem_b1) (allS (wz_v2_302) all0))
  have wz_v2_316 : v2_316 ∈ [b1, v1] ∨ h0.size ≤ v2_316 := hv_316.elim (fun q => by rw [q]; exact wz_v2_302) (fun q => Or.inr (Nat.le_trans K314.1 q))
  have KK2 := K314
  have ne_t1_v2_316 : t1 ≠ v2_316 := hv_316.elim (fun q => by rw [q]; exact nt2) (fun q => Nat.ne_of_lt (Nat.lt_of_lt_of_le f320.lt q))
  have ne_x1_v2_316 : x1 ≠ v2_316 := hv_316.elim (fun q => by rw [q]; exact ne_x1_v2_302) (fun q => Nat.ne_of_lt (Nat.lt_of_lt_of_le f317.lt q))
  have y_v2_316 := own_safeK KC323 (allS (Safe.exa (EL := EL) hZ.alike E302 (by decide) (by decide)) (allS y_v2_302 all0)) cs315.1 hv_316 y_v2_302
  have hgl_316 := @own_grle (own_gr (cp) (ct + 4 * dn)) (ct + 4 * dn + nx)
  have hgm_316 : own_gr (own_gr (cp) (ct + 4 * dn)) (ct + 4 * dn + nx) ≤ 1000 := own_grM hgm_302 (by decide) (hg2 : ct + 4 * dn + nx ≤ own_gr (cp) (ct + 4 * dn) ∨ max (ct + 4 * dn + nx) (2 * (own_gr (cp) (ct + 4 * dn)) + 2) ≤ 304)
  have ne_b1_v2_316 : b1 ≠ v2_316 := E316.neArv A316 (hw _ (List.mem_of_getElem? (i := 19) rfl))
  have f326 := (f321.keep KC323 (allS g_b1 (allS g_v2_302 all0)))
  have f327 := (f322.keep KC323)
  have f328 := (f320.keep KC323 (ninS (Ne.symm ne_b1_t1) (ninS nt2 nin0)))
  have f329 := (f317.keep KC323)
  obtain ⟨cq330, kq330, q330a, q330b, q330c⟩ := isOf hZ rfl E316
  obtain ⟨_, _, ⟨T330, L330, k330, n330⟩, -, X330, ⟨Lc330, hQ330, l330, y330, z330⟩, st330⟩ := X323.virtualBack hx (y := (⟨"java/lang/StringBuilder", "append", "(C)Ljava/lang/StringBuilder;"⟩ : MethodName)) (z := (⟨"java/lang/StringBuilder", "append", "(C)Ljava/lang/StringBuilder;"⟩ : MethodName)) hown (mvT hZ (hw _ (List.mem_of_getElem? (i := 171) rfl))) (mvT hZ (hw _ (List.mem_of_getElem? (i := 172) rfl))) (notFace_of_selects (args := #[]) (mvT hZ (hw _ (List.mem_of_getElem? (i := 174) rfl)))) (mvT hZ (hw _ (List.mem_of_getElem? (i := 174) rfl))) (mvT hZ (hw _ (List.mem_of_getElem? (i := 173) rfl))) (by decide) (backOf (W := 0) (rmSApC l Z a0 hw [] b1 v2_316 k2_316 (own_gr (own_gr (cp) (ct + 4 * dn)) (ct + 4 * dn + nx)) (ct + 4 * dn + nx) wa_316 (10 : Int32) zc T323.heap n0 Z323 E316 V316 C316 N316 A316 X316 l2_316 hgm_316 g_b1 g_v2_316 (by decide) hgl_316.1 (hg3 : ct + 4 * dn + nx + 1 ≤ own_gr (own_gr (cp) (ct + 4 * dn)) (ct + 4 * dn + nx) ∨ max (ct + 4 * dn + nx + 1) (2 * (own_gr (own_gr (cp) (ct + 4 * dn)) (ct + 4 * dn + nx)) + 2) ≤ 304) hn3 f326 SC hzc) hZ (hw _ (List.mem_of_getElem? (i := 175) rfl)) (hw _ (List.mem_of_getElem? (i := 20) rfl)) (by decide) (by decide)) q330a q330c (g := (mkF m 22 #[.val (.ref j1), .val (.ref x1)] [(.int (10 : Int32)), (.ref b1)])) rfl (by rw [hml]; rfl) (Steps.refl _) (argsL := [(.int (10 : Int32))]) (rest := []) (lenOf pd__C_Ljava_lang_StringBuilder_ rfl) rfl (by show 2 * 0 + _ ≤ _; exact Nat.le_of_eq rfl) (hb hby d26_22) (fun _ _ => ⟨rfl, rfl, (by decide : 6 + 1 ≤ _), (by decide : 792 + 304 ≤ _)⟩)
  dsimp only [Pt.U, Pt.locs, Pt.cells, Pt.slots] at X330 l330 y330 z330 st330 hQ330
  subst l330 y330 z330
  obtain ⟨rfl, N330q, KC330, v2_325, k2_325, wa_325, ⟨E325, V325, C325, N325, A325, X325⟩, l2_325, tk_325, g_v2_325, hv_325⟩ := hQ330
  have N330 := Fr.app N323 N330q
  have cs331 := CHr.keep KC330 (allS (Safe.exa (EL := EL) hZ.alike E316 (by decide) (by decide)) (allS y_v2_316 all0)) cs324.1
  have cr331 := cr324.trans cs331
  have y331_v2_316 := cs331.safe A316.lt y_v2_316
  have hk331 := Nat.le_trans hk324 cs331.2.1
  have Z330 := Nat.le_trans Z323 KC330.1
  have K330 := K323.trans KC330 (allS (Or.inl mem_b1) (allS (wz_v2_316) all0))
  have wz_v2_325 : v2_325 ∈ [b1, v1] ∨ h0.size ≤ v2_325 := hv_325.elim (fun q => by rw [q]; exact wz_v2_316) (fun q => Or.inr (Nat.le_trans K323.1 q))
  have KK3 := K323
  have ne_t1_v2_325 : t1 ≠ v2_325 := hv_325.elim (fun q => by rw [q]; exact ne_t1_v2_316) (fun q => Nat.ne_of_lt (Nat.lt_of_lt_of_le f328.lt q))
  have ne_x1_v2_325 : x1 ≠ v2_325 := hv_325.elim (fun q => by rw [q]; exact ne_x1_v2_316) (fun q => Nat.ne_of_lt (Nat.lt_of_lt_of_le f329.lt q))
  have y_v2_325 := own_safeK KC330 (allS (Safe.exa (EL := EL) hZ.alike E316 (by decide) (by decide)) (allS y_v2_316 all0)) cs324.1 hv_325 y_v2_316
  have hgl_325 := @own_grle (own_gr (own_gr (cp) (ct + 4 * dn)) (ct + 4 * dn + nx)) (ct + 4 * dn + nx + 1)
  have hgm_325 : own_gr (own_gr (own_gr (cp) (ct + 4 * dn)) (ct + 4 * dn + nx)) (ct + 4 * dn + nx + 1) ≤ 1000 := own_grM hgm_316 (by decide) (hg3 : ct + 4 * dn + nx + 1 ≤ own_gr (own_gr (cp) (ct + 4 * dn)) (ct + 4 * dn + nx) ∨ max (ct + 4 * dn + nx + 1) (2 * (own_gr (own_gr (cp) (ct + 4 * dn)) (ct + 4 * dn + nx)) + 2) ≤ 304)
  have ne_b1_v2_325 : b1 ≠ v2_325 := E325.neArv A325 (hw _ (List.mem_of_getElem? (i := 19) rfl))
  have fin : v2_325 = v1 ∨ h0.size ≤ v2_325 := by
    rcases hv_325 with q | q
    · rcases hv_316 with q' | q'
      · rcases hv_302 with q'' | q''
        · exact Or.inl (q.trans (q'.trans q''))
        · exact Or.inr (by rw [q, q']; exact Nat.le_trans KK1.1 q'')
      · exact Or.inr (by rw [q]; exact Nat.le_trans KK2.1 q')
    · exact Or.inr (Nat.le_trans KK3.1 q)
  have pre332 : ∀ t, Steps p.tables e below (T330.setTop (mkF m 27 #[.val (.ref j1), .val (.ref x1)] [(.ref j1)])) t → Steps p.tables e below (T295.setTop (mkF m 10 #[.val (.ref j1), .val (.ref x1)] [(.int (Int32.ofNat dn)), (.ref b290), (.ref b1)])) t := by
    intro t kt
    show Steps p.tables e below (T295.setTop (mkF m 10 #[.val (.ref j1), .val (.ref x1)] [(.int (Int32.ofNat dn)), (.ref b290), (.ref b1)])) _
    refine st298.trans ?_
    show Steps p.tables e below (T298.setTop (mkF m 13 #[.val (.ref j1), .val (.ref x1)] [(.ref xr), (.ref b1)])) _
    refine st314.trans ?_
    show Steps p.tables e below (T314.setTop (mkF m 16 #[.val (.ref j1), .val (.ref x1)] [(.ref b1)])) _
    refine XS.aloadN X314.here hx rfl (hb hby d26_16) rfl rfl ?_
    show Steps p.tables e below (T314.setTop (mkF m 17 #[.val (.ref j1), .val (.ref x1)] [(.ref x1), (.ref b1)])) _
    refine st323.trans ?_
    show Steps p.tables e below (T323.setTop (mkF m 20 #[.val (.ref j1), .val (.ref x1)] [(.ref b1)])) _
    refine XS.bipush X323.here hx rfl (hb hby d26_20) ?_
    show Steps p.tables e below (T323.setTop (mkF m 22 #[.val (.ref j1), .val (.ref x1)] [(.int (10 : Int32)), (.ref b1)])) _
    refine st330.trans ?_
    show Steps p.tables e below (T330.setTop (mkF m 25 #[.val (.ref j1), .val (.ref x1)] [(.ref b1)])) _
    refine XS.pop X330.here hx rfl (hb hby d26_25) rfl rfl ?_
    show Steps p.tables e below (T330.setTop (mkF m 26 #[.val (.ref j1), .val (.ref x1)] [])) _
    refine XS.aloadN X330.here hx rfl (hb hby d26_26) rfl rfl ?_
    exact kt
  have yf_v2_325 := (CHv.at X330 hZ hEL cs331.1).safe A325.lt y_v2_325
  obtain ⟨fs, hr, hrun, hended, e1, e2, e3, e4⟩ := X330.leaveW hSi298 hk331 (v := some (.ref j1)) (fun h => by rw [Bd.returns] at h; cases h)
  refine ⟨_, _, (pre0 _ (pre289 _ (pre297 _ (pre332 _ ?_)))), hrun, hended, _, _, rfl, ?_, ?_, ⟨e1, e2, e3, e4.mono (by decide) (by decide)⟩⟩
  · show Steps p.tables e below (T330.setTop (mkF m 27 #[.val (.ref j1), .val (.ref x1)] [(.ref j1)])) _
    exact retOut X330 hx (t := (.object "com/example/orbweaver/orbweaver/mapping/JavaSource")) Bd.returns rfl (Or.inr (Or.inr (Or.inr (Or.inr ⟨rfl, rfl, rfl⟩)))) (hb hby d26_27) hr
  · show QLine Z j1 b1 v1 k1 cp ct vs x1 t1 kx nx xs dn zc h0 n0 _ T330.heap _ T330.vm
    exact ⟨rfl, N330, K330, v2_325, k2_325, wa_325, ⟨E325, V325, C325, N325, A325, X325⟩, l2_325, by rw [tk_325, tk_316, tk_302], g_v2_325, fin, yf_v2_325⟩
  · have q := cr331.trans (CHv.at X330 hZ hEL cs331.1)
    show CHr Z EL s.vm s.heap T330.vm T330.heap
    rw [hh]
    exact q
theorem ef_Emp1 (m : MethodId) (x0 : Addr) : entryFrame m #[(.ref x0)] 1 = mkF m 0 #[.val (.ref x0)] [] := by (first | (simp [entryFrame, mkF, argsToLocals, Value.category]; done) | rfl)
def QEmp1 (Z : State) (x1 : Addr) (t1 : Addr) (kb : ClassId) (nb : Int32) (vb : List Value) (h0 : Heap) (n0 : Nat) (v : Option Value) (h : Heap) (L : List Loc) : Prop := v = some (.int (1 : Int32)) ∧ Fr n0 L ∧ h = h0
theorem d31_0 : decode jdk_42_method_55_code 0 = .ok (.aload_n 0, 1) := by decide +kernel
theorem d31_1 : decode jdk_42_method_55_code 1 = .ok (.getfield 9, 3) := by decide +kernel
theorem d31_4 : decode jdk_42_method_55_code 4 = .ok (.arraylength, 1) := by decide +kernel
theorem d31_5 : decode jdk_42_method_55_code 5 = .ok (.ifCond .ne 7, 3) := by decide +kernel
theorem d31_8 : decode jdk_42_method_55_code 8 = .ok (.iconst 1, 1) := by decide +kernel
theorem d31_9 : decode jdk_42_method_55_code 9 = .ok (.goto 4, 3) := by decide +kernel
theorem d31_13 : decode jdk_42_method_55_code 13 = .ok (.ireturn, 1) := by decide +kernel
set_option maxRecDepth 65536 in
set_option maxHeartbeats 40000000 in
theorem rmEmp1 (l : Launch) (Z : State) (a0 : Array Value) (hw : ∀ d ∈ tables_1, d.before a0 Z = true) (ws : List Jvm.Cond) (x1 : Addr) (t1 : Addr) (kb : ClassId) (nb : Int32) (vb : List Value) (h0 : Heap) (n0 : Nat) (Z0 : n0 ≤ h0.size) (FV : Fld Z h0 x1 "java/lang/String" "value" "[B" (.ref t1)) (KA : Arv Z h0 t1 kb .byte nb vb (.int (0 : Int32))) (hnb : nb = (0 : Int32)) :
    MetFree l (⟨"java/lang/String", "isEmpty", "()Z"⟩ : MethodName) (head1 (Jvm.Cond.code (⟨"java/lang/String", "isEmpty", "()Z"⟩ : MethodName) jdk_42_method_55_code 1 (some .boolean) :: ws) ({ frames := 0, cells := 0, slots := 0, locals := 0 } : Room)) (fun a U => a = #[(.ref x1)] ∧ Z.Warmed39 U.vm ∧ U.heap = h0) (fun _ _ _ _ _ => True) (fun _ U o U' => ∃ v L, o = .returned v ∧ QEmp1 Z x1 t1 kb nb vb h0 n0 v U'.heap L ∧ FrameEnd U o U' L ({ frames := 0, cells := 0, slots := 0, locals := 0 } : Room).cells ({ frames := 0, cells := 0, slots := 0, locals := 0 } : Room).slots) := by
  refine MetFree.of_bodySF (plainFor_of_name pn_java_lang_String) hisR ?_
  intro p e s m args below meth c s₁ Bd hml0 hP hK
  obtain ⟨rfl, hZ, hh⟩ := hP
  have hx := Bd.exec
  have hby := Bd.bytes
  have hml : c.maxLocals = 1 := hml0
  have hown : s.vm.findClass "java/lang/String" = some m.cls := findClass_of_methodNamed Bd.named
  have hnm := (name_of_methodNamed Bd.named Bd.method).1
  have X0 : Stand p l e ({ frames := 0, cells := 0, slots := 0, locals := 0 } : Room) s m #[(.ref x1)] below meth c s₁ [] 0 0 := Stand.of_body Bd
  have e0 : s₁.heap = h0 := by rw [← hh, Bd.state]; rfl
  have N0 := Fr.nil n0
  have pre0 : ∀ t, Steps p.tables e below (s₁.setTop (mkF m 0 #[.val (.ref x1)] [])) t → Steps p.tables e below (s₁.setTop (entryFrame m #[(.ref x1)] 1)) t := fun t k => castTop (ef_Emp1 m x1) k
  obtain ⟨T333, X333, e333, st333⟩ := getF X0 hx hZ hown (host := "") (Or.inl (hw _ (List.mem_of_getElem? (i := 54) rfl))) Via.refl e0 FV (g := (mkF m 1 #[.val (.ref x1)] [(.ref x1)])) rfl rfl (hb hby d31_1)
  obtain ⟨c334, Ar334, -, S334, M334, -, -⟩ := id KA
  have pre335 : ∀ t, Steps p.tables e below (T333.setTop (mkF m 13 #[.val (.ref x1)] [(.int (1 : Int32))])) t → Steps p.tables e below (s₁.setTop (mkF m 0 #[.val (.ref x1)] [])) t := by
    intro t kt
    show Steps p.tables e below (s₁.setTop (mkF m 0 #[.val (.ref x1)] [])) _
    refine XS.aloadN X0.here hx rfl (hb hby d31_0) rfl rfl ?_
    show Steps p.tables e below (s₁.setTop (mkF m 1 #[.val (.ref x1)] [(.ref x1)])) _
    refine st333 _ ?_
    show Steps p.tables e below (T333.setTop (mkF m 4 #[.val (.ref x1)] [(.ref t1)])) _
    refine X333.arraylength hx (by rw [e333]; exact Ar334.1) (State.isArrayOf_alike hZ.alike Ar334.2.1) (g := (mkF m 4 #[.val (.ref x1)] [(.ref t1)])) rfl rfl (hb hby d31_4) _ ?_
    rw [len_of S334 M334]
    show Steps p.tables e below (T333.setTop (mkF m 5 #[.val (.ref x1)] [(.int nb)])) _
    refine XS.ifNo X333.here hx rfl (hb hby d31_5) rfl ((if0 _ _).trans (teq (hnb : nb = (0 : Int32))).2) ?_
    show Steps p.tables e below (T333.setTop (mkF m 8 #[.val (.ref x1)] [])) _
    refine XS.iconst X333.here hx rfl (hb hby d31_8) ?_
    show Steps p.tables e below (T333.setTop (mkF m 9 #[.val (.ref x1)] [(.int (1 : Int32))])) _
    refine XS.goto X333.here hx rfl (pc0 := 9) (pc' := 13) rfl (hb hby d31_9) (by decide) (by decide) ?_
    exact kt
  obtain ⟨fs, hr, hrun, hended, hW, hsame⟩ := X333.leave (v := some (.int (1 : Int32))) (fun h => by rw [Bd.returns] at h; cases h)
  refine ⟨_, _, (pre0 _ (pre335 _ ?_)), hrun, hended, _, _, rfl, ?_, ⟨_, rfl⟩, hW, hsame.mono (by decide) (by decide)⟩
  · show Steps p.tables e below (T333.setTop (mkF m 13 #[.val (.ref x1)] [(.int (1 : Int32))])) _
    exact retN X333 hx (t := .boolean) Bd.returns (by simp) (hb hby d31_13) hr
  · show QEmp1 Z x1 t1 kb nb vb h0 n0 _ T333.heap _
    rw [e333]
    exact ⟨rfl, N0, rfl⟩
theorem ef_Ctor (m : MethodId) (x0 : Addr) (x1 : Addr) (x2 : Addr) : entryFrame m #[(.ref x0), (.ref x1), (.ref x2)] 3 = mkF m 0 #[.val (.ref x0), .val (.ref x1), .val (.ref x2)] [] := by (first | (simp [entryFrame, mkF, argsToLocals, Value.category]; done) | rfl)
def QCtor (Z : State) (j1 : Addr) (x1 : Addr) (t1 : Addr) (kx : ClassId) (xs : List Value) (y1 : Addr) (u1 : Addr) (ky : ClassId) (ys : List Value) (zc : Int32) (h0 : Heap) (n0 : Nat) (v : Option Value) (h : Heap) (L : List Loc) (vm : Vm) : Prop := v = none ∧ Fr n0 L ∧ Keep h0 h [j1] ∧ ∃ (b1 v1 : Addr) (k1 : ClassId) (vs : List Value), (Exa Z h j1 "com/example/orbweaver/orbweaver/mapping/JavaSource" ∧ Fld Z h j1 "com/example/orbweaver/orbweaver/mapping/JavaSource" "text" "Ljava/lang/StringBuilder;" (.ref b1) ∧ Fld Z h j1 "com/example/orbweaver/orbweaver/mapping/JavaSource" "depth" "I" (.int (0 : Int32))) ∧ (Exa Z h b1 "java/lang/StringBuilder" ∧ Fld Z h b1 "java/lang/AbstractStringBuilder" "value" "[B" (.ref v1) ∧ Fld Z h b1 "java/lang/AbstractStringBuilder" "coder" "B" (.int (0 : Int32)) ∧ Fld Z h b1 "java/lang/AbstractStringBuilder" "count" "I" (.int (Int32.ofNat 75)) ∧ Arv Z h v1 k1 .byte (Int32.ofNat 148) vs (.int (0 : Int32)) ∧ Exa Z h v1 "[B") ∧ vs.length = 148 ∧ h0.size ≤ b1 ∧ h0.size ≤ v1 ∧ Safe Z EL vm h v1
theorem d1_0 : decode prog_171_method_1_code 0 = .ok (.aload_n 0, 1) := by decide +kernel
theorem d1_1 : decode prog_171_method_1_code 1 = .ok (.invokespecial 1, 3) := by decide +kernel
theorem d1_4 : decode prog_171_method_1_code 4 = .ok (.aload_n 0, 1) := by decide +kernel
theorem d1_5 : decode prog_171_method_1_code 5 = .ok (.new 7, 3) := by decide +kernel
theorem d1_8 : decode prog_171_method_1_code 8 = .ok (.dup, 1) := by decide +kernel
theorem d1_9 : decode prog_171_method_1_code 9 = .ok (.invokespecial 9, 3) := by decide +kernel
theorem pd___V : parseMethodDescriptor "()V" = some ⟨[], none⟩ := by decide +kernel
theorem d1_12 : decode prog_171_method_1_code 12 = .ok (.putfield 10, 3) := by decide +kernel
theorem d1_15 : decode prog_171_method_1_code 15 = .ok (.aload_n 0, 1) := by decide +kernel
theorem d1_16 : decode prog_171_method_1_code 16 = .ok (.new 7, 3) := by decide +kernel
theorem d1_19 : decode prog_171_method_1_code 19 = .ok (.dup, 1) := by decide +kernel
theorem d1_20 : decode prog_171_method_1_code 20 = .ok (.invokespecial 9, 3) := by decide +kernel
theorem d1_23 : decode prog_171_method_1_code 23 = .ok (.ldc 16, 2) := by decide +kernel
theorem d1_25 : decode prog_171_method_1_code 25 = .ok (.invokevirtual 18, 3) := by decide +kernel
theorem d1_28 : decode prog_171_method_1_code 28 = .ok (.aload_n 1, 1) := by decide +kernel
theorem d1_29 : decode prog_171_method_1_code 29 = .ok (.invokevirtual 18, 3) := by decide +kernel
theorem d1_32 : decode prog_171_method_1_code 32 = .ok (.ldc 22, 2) := by decide +kernel
theorem d1_34 : decode prog_171_method_1_code 34 = .ok (.invokevirtual 18, 3) := by decide +kernel
theorem d1_37 : decode prog_171_method_1_code 37 = .ok (.invokevirtual 24, 3) := by decide +kernel
theorem d1_40 : decode prog_171_method_1_code 40 = .ok (.invokevirtual 28, 3) := by decide +kernel
theorem pd__Ljava_lang_String__Lcom_example_orbweaver_orbweaver_mapping_JavaSource_ : parseMethodDescriptor "(Ljava/lang/String;)Lcom/example/orbweaver/orbweaver/mapping/JavaSource;" = some ⟨[(.object "java/lang/String")], some (.object "com/example/orbweaver/orbweaver/mapping/JavaSource")⟩ := by decide +kernel
theorem d1_43 : decode prog_171_method_1_code 43 = .ok (.pop, 1) := by decide +kernel
theorem d1_44 : decode prog_171_method_1_code 44 = .ok (.aload_n 2, 1) := by decide +kernel
theorem d1_45 : decode prog_171_method_1_code 45 = .ok (.invokevirtual 32, 3) := by decide +kernel
theorem d1_48 : decode prog_171_method_1_code 48 = .ok (.ifCond .ne 37, 3) := by decide +kernel
theorem d1_85 : decode prog_171_method_1_code 85 = .ok (.aload_n 0, 1) := by decide +kernel
theorem d1_86 : decode prog_171_method_1_code 86 = .ok (.invokevirtual 38, 3) := by decide +kernel
theorem pd___Lcom_example_orbweaver_orbweaver_mapping_JavaSource_ : parseMethodDescriptor "()Lcom/example/orbweaver/orbweaver/mapping/JavaSource;" = some ⟨[], some (.object "com/example/orbweaver/orbweaver/mapping/JavaSource")⟩ := by decide +kernel
theorem d1_89 : decode prog_171_method_1_code 89 = .ok (.pop, 1) := by decide +kernel
theorem d1_90 : decode prog_171_method_1_code 90 = .ok (.return_, 1) := by decide +kernel
set_option maxRecDepth 65536 in
set_option maxHeartbeats 40000000 in
theorem rmCtor (l : Launch) (Z : State) (a0 : Array Value) (hw : ∀ d ∈ tables_1, d.before a0 Z = true) (ws : List Jvm.Cond) (j1 : Addr) (x1 : Addr) (t1 : Addr) (kx : ClassId) (xs : List Value) (y1 : Addr) (u1 : Addr) (ky : ClassId) (ys : List Value) (zc : Int32) (h0 : Heap) (n0 : Nat) (Z0 : n0 ≤ h0.size) (hEL : EW Z a0 EL) (JE : Exa Z h0 j1 "com/example/orbweaver/orbweaver/mapping/JavaSource") (JT0 : Fld Z h0 j1 "com/example/orbweaver/orbweaver/mapping/JavaSource" "text" "Ljava/lang/StringBuilder;" .null) (JD : Fld Z h0 j1 "com/example/orbweaver/orbweaver/mapping/JavaSource" "depth" "I" (.int (0 : Int32))) (g_j1 : n0 ≤ j1) (XE : Exa Z h0 x1 "java/lang/String") (XV : Fld Z h0 x1 "java/lang/String" "value" "[B" (.ref t1)) (XC : Fld Z h0 x1 "java/lang/String" "coder" "B" (.int (0 : Int32))) (XA : Arv Z h0 t1 kx .byte (Int32.ofNat 0) xs (.int (0 : Int32))) (hxl : xs.length = 0) (YE : Exa Z h0 y1 "java/lang/String") (YV : Fld Z h0 y1 "java/lang/String" "value" "[B" (.ref u1)) (YA : Arv Z h0 u1 ky .byte (Int32.ofNat 0) ys (.int (0 : Int32))) (OZ : Old Z n0 h0) (SC : Sta Z Z.heap "java/lang/String" "COMPACT_STRINGS" "Z" (.int zc)) (hzc : ¬ zc = (0 : Int32)) :
    MetFree l (⟨"com/example/orbweaver/orbweaver/mapping/JavaSource", "<init>", "(Ljava/lang/String;Ljava/lang/String;)V"⟩ : MethodName) (head1 (Jvm.Cond.code (⟨"com/example/orbweaver/orbweaver/mapping/JavaSource", "<init>", "(Ljava/lang/String;Ljava/lang/String;)V"⟩ : MethodName) prog_171_method_1_code 3 none :: ws) ({ frames := 8, cells := 22, slots := 3000, locals := 205 } : Room)) (fun a U => a = #[(.ref j1), (.ref x1), (.ref y1)] ∧ Z.Warmed39 U.vm ∧ U.heap = h0 ∧ CHv Z EL U.vm h0) (fun _ _ _ _ _ => True) (fun _ U o U' => ∃ v L, o = .returned v ∧ QCtor Z j1 x1 t1 kx xs y1 u1 ky ys zc h0 n0 v U'.heap L U'.vm ∧ CHr Z EL U.vm U.heap U'.vm U'.heap ∧ ReturnedEndW U o U' L ({ frames := 8, cells := 22, slots := 3000, locals := 205 } : Room).cells ({ frames := 8, cells := 22, slots := 3000, locals := 205 } : Room).slots) := by
  refine MetFree.of_bodySF (plainFor_of_name pn_com_example_orbweaver_orbweaver_mapping_JavaSource) hisR ?_
  intro p e s m args below meth c s₁ Bd hml0 hP hK
  obtain ⟨rfl, hZ, hh, hCH⟩ := hP
  have hx := Bd.exec
  have hby := Bd.bytes
  have hml : c.maxLocals = 3 := hml0
  have hown : s.vm.findClass "com/example/orbweaver/orbweaver/mapping/JavaSource" = some m.cls := findClass_of_methodNamed Bd.named
  have hnm := (name_of_methodNamed Bd.named Bd.method).1
  have X0 : Stand p l e ({ frames := 8, cells := 22, slots := 3000, locals := 205 } : Room) s m #[(.ref j1), (.ref x1), (.ref y1)] below meth c s₁ [] 0 0 := Stand.of_body Bd
  have e0 : s₁.heap = h0 := by rw [← hh, Bd.state]; rfl
  have N0 := Fr.nil n0
  have pre0 : ∀ t, Steps p.tables e below (s₁.setTop (mkF m 0 #[.val (.ref j1), .val (.ref x1), .val (.ref y1)] [])) t → Steps p.tables e below (s₁.setTop (entryFrame m #[(.ref j1), (.ref x1), (.ref y1)] 3)) t := fun t k => castTop (ef_Ctor m j1 x1 y1) k
  have X0 : Stand p l e ({ frames := 8, cells := 22, slots := 3000, locals := 205 } : Room) (s.setVm s.vm) m #[(.ref j1), (.ref x1), (.ref y1)] below meth c s₁ [] 0 0 := by rw [State.setVm_self]; exact X0
  have hZ : Z.Warmed39 (s.setVm s.vm).vm := hZ
  have hown : (s.setVm s.vm).vm.findClass "com/example/orbweaver/orbweaver/mapping/JavaSource" = some m.cls := hown
  have hSi0 : s.Since s.vm 0 := (State.WarmedH.refl s).since 0
  have mem_j1 : j1 ∈ [j1] := List.mem_of_getElem? (i := 0) rfl
  have ne_x1_j1 : x1 ≠ j1 := XE.ne JE (by decide)
  have ne_y1_j1 : y1 ≠ j1 := YE.ne JE (by decide)
  have ne_j1_t1 : j1 ≠ t1 := JE.neArv XA (hw _ (List.mem_of_getElem? (i := 2) rfl))
  have ne_j1_u1 : j1 ≠ u1 := JE.neArv YA (hw _ (List.mem_of_getElem? (i := 2) rfl))
  obtain ⟨T336, X336, e336, st336⟩ := initO X0 hx hZ hown (hw _ (List.mem_of_getElem? (i := 15) rfl)) (hw _ (List.mem_of_getElem? (i := 16) rfl)) (hw _ (List.mem_of_getElem? (i := 17) rfl)) e0 (g := (mkF m 1 #[.val (.ref j1), .val (.ref x1), .val (.ref y1)] [(.ref j1)])) rfl (by rw [hml]; rfl) rfl (hb hby d1_1) (by decide) (W := 0) (by show 2 * 0 + _ ≤ _; exact Nat.le_of_eq rfl) (by decide)
  obtain ⟨T337, h337, X337, e337, E337, A337, D337, -, st337⟩ := newO X336 hx hZ hown (hw _ (List.mem_of_getElem? (i := 18) rfl)) (hw _ (List.mem_of_getElem? (i := 19) rfl)) (hw _ (List.mem_of_getElem? (i := 20) rfl)) e336 (g := (mkF m 5 #[.val (.ref j1), .val (.ref x1), .val (.ref y1)] [(.ref j1)])) rfl (hb hby d1_5) (by decide) (by decide)
  obtain ⟨b337, g337⟩ : ∃ z, z = h0.size := ⟨_, rfl⟩
  rw [← g337] at A337 D337 st337
  have g_b337 : n0 ≤ b337 := Nat.le_trans Z0 (Nat.le_of_eq g337.symm)
  have sz_b337 : h0.size ≤ b337 := Nat.le_trans (Keep.refl h0 [j1]).1 (Nat.le_of_eq g337.symm)
  have ne_j1_b337 : j1 ≠ b337 := Nat.ne_of_lt (Nat.lt_of_lt_of_le JE.lt (Nat.le_of_eq g337.symm))
  have ne_y1_b337 : y1 ≠ b337 := Nat.ne_of_lt (Nat.lt_of_lt_of_le YE.lt (Nat.le_of_eq g337.symm))
  have ne_u1_b337 : u1 ≠ b337 := Nat.ne_of_lt (Nat.lt_of_lt_of_le YA.lt (Nat.le_of_eq g337.symm))
  have ne_x1_b337 : x1 ≠ b337 := Nat.ne_of_lt (Nat.lt_of_lt_of_le XE.lt (Nat.le_of_eq g337.symm))
  have ne_t1_b337 : t1 ≠ b337 := Nat.ne_of_lt (Nat.lt_of_lt_of_le XA.lt (Nat.le_of_eq g337.symm))
  have cs338 := CHr.ext E337 hCH
  have cr338 := (CHr.refl hCH).trans cs338
  have hk338 := Nat.le_trans (Nat.zero_le _) cs338.2.1
  have Z337 := Nat.le_trans Z0 E337.1
  have K337 := (Keep.refl h0 [j1]).ext E337
  have F337_value : Fld Z h337 b337 "java/lang/AbstractStringBuilder" "value" "[B" .null := D337 (Or.inl (hw _ (List.mem_of_getElem? (i := 33) rfl))) (ty := (.array .byte)) (by decide)
  have F337_coder : Fld Z h337 b337 "java/lang/AbstractStringBuilder" "coder" "B" (.int (0 : Int32)) := D337 (Or.inl (hw _ (List.mem_of_getElem? (i := 35) rfl))) (ty := .byte) (by decide)
  have F337_count : Fld Z h337 b337 "java/lang/AbstractStringBuilder" "count" "I" (.int (0 : Int32)) := D337 (Or.inl (hw _ (List.mem_of_getElem? (i := 63) rfl))) (ty := .int) (by decide)
  have f339 := (OZ.ext E337)
  have f341 := (JE.ext E337)
  have f342 := (XA.ext E337)
  have f343 := (YA.ext E337)
  have f344 := (XE.ext E337)
  have f345 := (YE.ext E337)
  obtain ⟨_, _, ⟨T340, L340, k340, n340⟩, -, X340, ⟨Lc340, hQ340, l340, y340, z340⟩, st340⟩ := X337.specialBack hx (y := (⟨"java/lang/StringBuilder", "<init>", "()V"⟩ : MethodName)) rfl hown (mvT hZ (hw _ (List.mem_of_getElem? (i := 21) rfl))) (mvT hZ (hw _ (List.mem_of_getElem? (i := 22) rfl))) (mvT hZ (hw _ (List.mem_of_getElem? (i := 23) rfl))) (by decide) (backOf (W := 2) (rmSInit l Z a0 hw [] b337 zc h337 n0 Z337 A337 F337_value F337_coder F337_count g_b337 f339 SC hzc) hZ (hw _ (List.mem_of_getElem? (i := 23) rfl)) (hw _ (List.mem_of_getElem? (i := 20) rfl)) (by decide) (by decide)) (g := (mkF m 9 #[.val (.ref j1), .val (.ref x1), .val (.ref y1)] [(.ref b337), (.ref b337), (.ref j1)])) rfl (by rw [hml]; rfl) (Steps.refl _) (a := b337) (argsL := []) (rest := [(.ref b337), (.ref j1)]) (lenOf pd___V rfl) rfl (by show 2 * 0 + _ ≤ _; exact Nat.le_of_eq rfl) (hb hby d1_9) (fun _ _ => ⟨rfl, e337, (by decide : 1 + 1 ≤ _), (by decide : 4 + 16 ≤ _)⟩)
  dsimp only [Pt.U, Pt.locs, Pt.cells, Pt.slots] at X340 l340 y340 z340 st340 hQ340
  subst l340 y340 z340
  obtain ⟨rfl, N340q, KC340, v_ta, k_ta, ⟨E_ta, V_ta, C_ta, N_ta, A_ta, X_ta⟩, le_ta⟩ := hQ340
  have N340 := Fr.app N0 N340q
  have g_v_ta : n0 ≤ v_ta := Nat.le_trans Z337 le_ta
  have sz_v_ta : h0.size ≤ v_ta := Nat.le_trans K337.1 le_ta
  have ne_b337_v_ta : b337 ≠ v_ta := Nat.ne_of_lt (Nat.lt_of_lt_of_le A337.lt le_ta)
  have ne_j1_v_ta : j1 ≠ v_ta := Nat.ne_of_lt (Nat.lt_of_lt_of_le f341.lt le_ta)
  have ne_t1_v_ta : t1 ≠ v_ta := Nat.ne_of_lt (Nat.lt_of_lt_of_le f342.lt le_ta)
  have ne_u1_v_ta : u1 ≠ v_ta := Nat.ne_of_lt (Nat.lt_of_lt_of_le f343.lt le_ta)
  have ne_x1_v_ta : x1 ≠ v_ta := Nat.ne_of_lt (Nat.lt_of_lt_of_le f344.lt le_ta)
  have ne_y1_v_ta : y1 ≠ v_ta := Nat.ne_of_lt (Nat.lt_of_lt_of_le f345.lt le_ta)
  have cs346 := CHr.keep KC340 (allS (Safe.exa (EL := EL) hZ.alike A337 (by decide) (by decide)) all0) cs338.1
  have cr346 := cr338.trans cs346
  have hk346 := Nat.le_trans hk338 cs346.2.1
  have Z340 := Nat.le_trans Z337 KC340.1
  have K340 := K337.trans KC340 (allS (Or.inr sz_b337) all0)
  have y_ta := own_safeK (y := b337) KC340 (allS (Safe.exa (EL := EL) hZ.alike A337 (by decide) (by decide)) all0) cs338.1 (Or.inr le_ta) (Safe.exa (EL := EL) hZ.alike A337 (by decide) (by decide))
  have ne_b337_v_ta : b337 ≠ v_ta := E_ta.neArv A_ta (hw _ (List.mem_of_getElem? (i := 19) rfl))
  have f347 := ((JT0.ext E337).keep KC340 (ninS ne_j1_b337 nin0))
  have f348 := (f341.keep KC340)
  obtain ⟨T349, h349, X349, e349, W349, st349⟩ := putF X340 hx hZ hown (host := "") (Or.inl (hw _ (List.mem_of_getElem? (i := 36) rfl))) Via.refl rfl f347 f348 (Or.inr ⟨(hw _ (List.mem_of_getElem? (i := 37) rfl)), rfl, hnm⟩) (hw _ (List.mem_of_getElem? (i := 2) rfl)) (ty := (.object "java/lang/StringBuilder")) (by decide) rfl rfl (g := (mkF m 12 #[.val (.ref j1), .val (.ref x1), .val (.ref y1)] [(.ref b337), (.ref j1)])) rfl rfl (hb hby d1_12)
  have cs350 := CHr.wr W349 (Safe.exa (EL := EL) hZ.alike f348 (by decide) (by decide)) cs346.1
  have cr350 := cr346.trans cs350
  have y350_v_ta := cs350.safe A_ta.lt y_ta
  have hk350 := Nat.le_trans hk346 cs350.2.1
  have N349 := Fr.snoc X349 N340 g_j1
  have Z349 := Nat.le_trans Z340 (Keep.of_wr W349).1
  have K349 := K340.wr W349 (Or.inl mem_j1)
  have Fw349 := f347.same W349
  obtain ⟨T351, h351, X351, e351, E351, A351, D351, -, st351⟩ := newO X349 hx hZ hown (hw _ (List.mem_of_getElem? (i := 18) rfl)) (hw _ (List.mem_of_getElem? (i := 19) rfl)) (hw _ (List.mem_of_getElem? (i := 20) rfl)) e349 (g := (mkF m 16 #[.val (.ref j1), .val (.ref x1), .val (.ref y1)] [(.ref j1)])) rfl (hb hby d1_16) (by decide) (by decide)
  obtain ⟨b351, g351⟩ : ∃ z, z = h349.size := ⟨_, rfl⟩
  rw [← g351] at A351 D351 st351
  have g_b351 : n0 ≤ b351 := Nat.le_trans Z349 (Nat.le_of_eq g351.symm)
  have sz_b351 : h0.size ≤ b351 := Nat.le_trans K349.1 (Nat.le_of_eq g351.symm)
  have f352 := (f348.wr W349)
  have ne_j1_b351 : j1 ≠ b351 := Nat.ne_of_lt (Nat.lt_of_lt_of_le f352.lt (Nat.le_of_eq g351.symm))
  have f353 := (A_ta.other W349 (Ne.symm ne_j1_v_ta))
  have ne_v_ta_b351 : v_ta ≠ b351 := Nat.ne_of_lt (Nat.lt_of_lt_of_le f353.lt (Nat.le_of_eq g351.symm))
  have f354 := ((f345.keep KC340).wr W349)
  have ne_y1_b351 : y1 ≠ b351 := Nat.ne_of_lt (Nat.lt_of_lt_of_le f354.lt (Nat.le_of_eq g351.symm))
  have f355 := ((f343.keep KC340 (ninS ne_u1_b337 nin0)).other W349 (Ne.symm ne_j1_u1))
  have ne_u1_b351 : u1 ≠ b351 := Nat.ne_of_lt (Nat.lt_of_lt_of_le f355.lt (Nat.le_of_eq g351.symm))
  have f356 := (E_ta.wr W349)
  have ne_b337_b351 : b337 ≠ b351 := Nat.ne_of_lt (Nat.lt_of_lt_of_le f356.lt (Nat.le_of_eq g351.symm))
  have f357 := ((f344.keep KC340).wr W349)
  have ne_x1_b351 : x1 ≠ b351 := Nat.ne_of_lt (Nat.lt_of_lt_of_le f357.lt (Nat.le_of_eq g351.symm))
  have f358 := ((f342.keep KC340 (ninS ne_t1_b337 nin0)).other W349 (Ne.symm ne_j1_t1))
  have ne_t1_b351 : t1 ≠ b351 := Nat.ne_of_lt (Nat.lt_of_lt_of_le f358.lt (Nat.le_of_eq g351.symm))
  have cs359 := CHr.ext E351 cs350.1
  have cr359 := cr350.trans cs359
  have y359_v_ta := cs359.safe f353.lt y350_v_ta
  have hk359 := Nat.le_trans hk350 cs359.2.1
  have Z351 := Nat.le_trans Z349 E351.1
  have K351 := K349.ext E351
  have F351_value : Fld Z h351 b351 "java/lang/AbstractStringBuilder" "value" "[B" .null := D351 (Or.inl (hw _ (List.mem_of_getElem? (i := 33) rfl))) (ty := (.array .byte)) (by decide)
  have F351_coder : Fld Z h351 b351 "java/lang/AbstractStringBuilder" "coder" "B" (.int (0 : Int32)) := D351 (Or.inl (hw _ (List.mem_of_getElem? (i := 35) rfl))) (ty := .byte) (by decide)
  have F351_count : Fld Z h351 b351 "java/lang/AbstractStringBuilder" "count" "I" (.int (0 : Int32)) := D351 (Or.inl (hw _ (List.mem_of_getElem? (i := 63) rfl))) (ty := .int) (by decide)
  have f360 := (((f339.keep KC340 (allS g_b337 all0)).wr W349 g_j1).ext E351)
  have f362 := (f356.ext E351)
  have f363 := (f352.ext E351)
  have f364 := (f358.ext E351)
  have f365 := (f355.ext E351)
  have f366 := (f353.ext E351)
  have f367 := (f357.ext E351)
  have f368 := (f354.ext E351)
  obtain ⟨_, _, ⟨T361, L361, k361, n361⟩, -, X361, ⟨Lc361, hQ361, l361, y361, z361⟩, st361⟩ := X351.specialBack hx (y := (⟨"java/lang/StringBuilder", "<init>", "()V"⟩ : MethodName)) rfl hown (mvT hZ (hw _ (List.mem_of_getElem? (i := 21) rfl))) (mvT hZ (hw _ (List.mem_of_getElem? (i := 22) rfl))) (mvT hZ (hw _ (List.mem_of_getElem? (i := 23) rfl))) (by decide) (backOf (W := 2) (rmSInit l Z a0 hw [] b351 zc h351 n0 Z351 A351 F351_value F351_coder F351_count g_b351 f360 SC hzc) hZ (hw _ (List.mem_of_getElem? (i := 23) rfl)) (hw _ (List.mem_of_getElem? (i := 20) rfl)) (by decide) (by decide)) (g := (mkF m 20 #[.val (.ref j1), .val (.ref x1), .val (.ref y1)] [(.ref b351), (.ref b351), (.ref j1)])) rfl (by rw [hml]; rfl) (Steps.refl _) (a := b351) (argsL := []) (rest := [(.ref b351), (.ref j1)]) (lenOf pd___V rfl) rfl (by show 2 * 0 + _ ≤ _; exact Nat.le_of_eq rfl) (hb hby d1_20) (fun _ _ => ⟨rfl, e351, (by decide : 3 + 1 ≤ _), (by decide : 24 + 16 ≤ _)⟩)
  dsimp only [Pt.U, Pt.locs, Pt.cells, Pt.slots] at X361 l361 y361 z361 st361 hQ361
  subst l361 y361 z361
  obtain ⟨rfl, N361q, KC361, v_pa, k_pa, ⟨E_pa, V_pa, C_pa, N_pa, A_pa, X_pa⟩, le_pa⟩ := hQ361
  have N361 := Fr.app N349 N361q
  have g_v_pa : n0 ≤ v_pa := Nat.le_trans Z351 le_pa
  have sz_v_pa : h0.size ≤ v_pa := Nat.le_trans K351.1 le_pa
  have ne_b337_v_pa : b337 ≠ v_pa := Nat.ne_of_lt (Nat.lt_of_lt_of_le f362.lt le_pa)
  have ne_b351_v_pa : b351 ≠ v_pa := Nat.ne_of_lt (Nat.lt_of_lt_of_le A351.lt le_pa)
  have ne_j1_v_pa : j1 ≠ v_pa := Nat.ne_of_lt (Nat.lt_of_lt_of_le f363.lt le_pa)
  have ne_t1_v_pa : t1 ≠ v_pa := Nat.ne_of_lt (Nat.lt_of_lt_of_le f364.lt le_pa)
  have ne_u1_v_pa : u1 ≠ v_pa := Nat.ne_of_lt (Nat.lt_of_lt_of_le f365.lt le_pa)
  have ne_v_ta_v_pa : v_ta ≠ v_pa := Nat.ne_of_lt (Nat.lt_of_lt_of_le f366.lt le_pa)
  have ne_x1_v_pa : x1 ≠ v_pa := Nat.ne_of_lt (Nat.lt_of_lt_of_le f367.lt le_pa)
  have ne_y1_v_pa : y1 ≠ v_pa := Nat.ne_of_lt (Nat.lt_of_lt_of_le f368.lt le_pa)
  have cs369 := CHr.keep KC361 (allS (Safe.exa (EL := EL) hZ.alike A351 (by decide) (by decide)) all0) cs359.1
  have cr369 := cr359.trans cs369
  have y369_v_ta := cs369.safe f366.lt y359_v_ta
  have hk369 := Nat.le_trans hk359 cs369.2.1
  have Z361 := Nat.le_trans Z351 KC361.1
  have K361 := K351.trans KC361 (allS (Or.inr sz_b351) all0)
  have y_pa := own_safeK (y := b351) KC361 (allS (Safe.exa (EL := EL) hZ.alike A351 (by decide) (by decide)) all0) cs359.1 (Or.inr le_pa) (Safe.exa (EL := EL) hZ.alike A351 (by decide) (by decide))
  have ne_b351_v_pa : b351 ≠ v_pa := E_pa.neArv A_pa (hw _ (List.mem_of_getElem? (i := 19) rfl))
  obtain ⟨LL370, XL370, NL370⟩ : ∃ LL, Stand p l e ({ frames := 8, cells := 22, slots := 3000, locals := 205 } : Room) (s.setVm s.vm) m #[(.ref j1), (.ref x1), (.ref y1)] below meth c T361 LL 4 40 ∧ Fr n0 LL := ⟨_, X361, N361⟩
  have pre371 : ∀ t, Steps p.tables e below (T361.setTop (mkF m 23 #[.val (.ref j1), .val (.ref x1), .val (.ref y1)] [(.ref b351), (.ref j1)])) t → Steps p.tables e below (s₁.setTop (mkF m 0 #[.val (.ref j1), .val (.ref x1), .val (.ref y1)] [])) t := by
    intro t kt
    show Steps p.tables e below (s₁.setTop (mkF m 0 #[.val (.ref j1), .val (.ref x1), .val (.ref y1)] [])) _
    refine XS.aloadN X0.here hx rfl (hb hby d1_0) rfl rfl ?_
    show Steps p.tables e below (s₁.setTop (mkF m 1 #[.val (.ref j1), .val (.ref x1), .val (.ref y1)] [(.ref j1)])) _
    refine st336 _ ?_
    show Steps p.tables e below (T336.setTop (mkF m 4 #[.val (.ref j1), .val (.ref x1), .val (.ref y1)] [])) _
    refine XS.aloadN X336.here hx rfl (hb hby d1_4) rfl rfl ?_
    show Steps p.tables e below (T336.setTop (mkF m 5 #[.val (.ref j1), .val (.ref x1), .val (.ref y1)] [(.ref j1)])) _
    refine st337 _ ?_
    show Steps p.tables e below (T337.setTop (mkF m 8 #[.val (.ref j1), .val (.ref x1), .val (.ref y1)] [(.ref b337), (.ref j1)])) _
    refine XS.dup X337.here hx rfl (hb hby d1_8) rfl rfl ?_
    show Steps p.tables e below (T337.setTop (mkF m 9 #[.val (.ref j1), .val (.ref x1), .val (.ref y1)] [(.ref b337), (.ref b337), (.ref j1)])) _
    refine st340.trans ?_
    show Steps p.tables e below (T340.setTop (mkF m 12 #[.val (.ref j1), .val (.ref x1), .val (.ref y1)] [(.ref b337), (.ref j1)])) _
    refine st349 _ ?_
    show Steps p.tables e below (T349.setTop (mkF m 15 #[.val (.ref j1), .val (.ref x1), .val (.ref y1)] [])) _
    refine XS.aloadN X349.here hx rfl (hb hby d1_15) rfl rfl ?_
    show Steps p.tables e below (T349.setTop (mkF m 16 #[.val (.ref j1), .val (.ref x1), .val (.ref y1)] [(.ref j1)])) _
    refine st351 _ ?_
    show Steps p.tables e below (T351.setTop (mkF m 19 #[.val (.ref j1), .val (.ref x1), .val (.ref y1)] [(.ref b351), (.ref j1)])) _
    refine XS.dup X351.here hx rfl (hb hby d1_19) rfl rfl ?_
    show Steps p.tables e below (T351.setTop (mkF m 20 #[.val (.ref j1), .val (.ref x1), .val (.ref y1)] [(.ref b351), (.ref b351), (.ref j1)])) _
    refine st361.trans ?_
    exact kt
  have wS372 : ∀ a ∈ Bundle.stringAtoms, a.before a0 Z = true := fun d hd => hw d ((by decide +kernel : ∀ d ∈ Bundle.stringAtoms, d ∈ tables_1) d hd)
  obtain ⟨b372, T372, h372, k372, d372, kb372, X372, e372, E372, hSi372, hk372, hZ, hown, A372, FC372, FV372, V372, -, -, crs372, Lt372, nn372, st372⟩ := ldcCH (s := s) (vm0 := s.vm) XL370 hx hZ hown (hw _ (List.mem_of_getElem? (i := 38) rfl)) wS372 rfl hSi0 hk369 hEL (by decide : ("com/example/orbweaver/orbweaver/mapping/JavaSource", 16) ∈ EL) cs369.1 (vs := [(.int (47 : Int32)), (.int (47 : Int32)), (.int (32 : Int32)), (.int (71 : Int32)), (.int (101 : Int32)), (.int (110 : Int32)), (.int (101 : Int32)), (.int (114 : Int32)), (.int (97 : Int32)), (.int (116 : Int32)), (.int (101 : Int32)), (.int (100 : Int32)), (.int (32 : Int32)), (.int (98 : Int32)), (.int (121 : Int32)), (.int (32 : Int32)), (.int (111 : Int32)), (.int (114 : Int32)), (.int (98 : Int32)), (.int (119 : Int32)), (.int (101 : Int32)), (.int (97 : Int32)), (.int (118 : Int32)), (.int (101 : Int32)), (.int (114 : Int32)), (.int (32 : Int32)), (.int (105 : Int32)), (.int (100 : Int32)), (.int (108 : Int32)), (.int (32 : Int32)), (.int (102 : Int32)), (.int (114 : Int32)), (.int (111 : Int32)), (.int (109 : Int32)), (.int (32 : Int32))]) (z := (35 : Int32)) ⟨by decide, rfl⟩ (by decide) (by decide) (g := (mkF m 23 #[.val (.ref j1), .val (.ref x1), .val (.ref y1)] [(.ref b351), (.ref j1)])) rfl (hb hby d1_23) (n := 140) (by decide) (by decide) (by decide) (by decide)
  have f374 := (f366.keep KC361 (ninS ne_v_ta_b351 nin0))
  have cs373 := crs372
  have cr373 := cr369.trans cs373
  have y373_v_ta := cs373.safe f374.lt y369_v_ta
  have y373_v_pa := cs373.safe A_pa.lt y_pa
  have Z372 := Nat.le_trans Z361 E372.1
  have K372 := K361.ext E372
  obtain ⟨ne_v_pa_b372, ne_v_pa_d372⟩ := nn372 _ y373_v_pa
  obtain ⟨ne_v_ta_b372, ne_v_ta_d372⟩ := nn372 _ y373_v_ta
  have f375 := ((f363.keep KC361).ext E372)
  have ne_j1_b372 : j1 ≠ b372 := f375.ne A372 (by decide)
  have ne_j1_d372 : j1 ≠ d372 := f375.neArv V372 (hw _ (List.mem_of_getElem? (i := 2) rfl))
  have f376 := ((f362.keep KC361).ext E372)
  have ne_b337_b372 : b337 ≠ b372 := f376.ne A372 (by decide)
  have ne_b337_d372 : b337 ≠ d372 := f376.neArv V372 (hw _ (List.mem_of_getElem? (i := 19) rfl))
  have f377 := (E_pa.ext E372)
  have ne_b351_b372 : b351 ≠ b372 := f377.ne A372 (by decide)
  have ne_b351_d372 : b351 ≠ d372 := f377.neArv V372 (hw _ (List.mem_of_getElem? (i := 19) rfl))
  have f379 := (V_pa.ext E372)
  have f380 := (C_pa.ext E372)
  have f381 := (N_pa.ext E372)
  have f382 := (A_pa.ext E372)
  have f383 := (X_pa.ext E372)
  have f384 := ((f360.keep KC361 (allS g_b351 all0)).ext E372)
  have f385 := ((f364.keep KC361 (ninS ne_t1_b351 nin0)).ext E372)
  have f386 := ((f365.keep KC361 (ninS ne_u1_b351 nin0)).ext E372)
  have f387 := (f374.ext E372)
  have f388 := ((f367.keep KC361).ext E372)
  have f389 := ((f368.keep KC361).ext E372)
  obtain ⟨cq390, kq390, q390a, q390b, q390c⟩ := isOf hZ e372 f377
  obtain ⟨_, _, ⟨T390, L390, k390, n390⟩, -, X390, ⟨Lc390, hQ390, l390, y390, z390⟩, st390⟩ := X372.virtualBack hx (y := (⟨"java/lang/StringBuilder", "append", "(Ljava/lang/String;)Ljava/lang/StringBuilder;"⟩ : MethodName)) (z := (⟨"java/lang/StringBuilder", "append", "(Ljava/lang/String;)Ljava/lang/StringBuilder;"⟩ : MethodName)) hown (mvT hZ (hw _ (List.mem_of_getElem? (i := 39) rfl))) (mvT hZ (hw _ (List.mem_of_getElem? (i := 40) rfl))) (notFace_of_selects (args := #[]) (mvT hZ (hw _ (List.mem_of_getElem? (i := 42) rfl)))) (mvT hZ (hw _ (List.mem_of_getElem? (i := 42) rfl))) (mvT hZ (hw _ (List.mem_of_getElem? (i := 41) rfl))) (by decide) (backOf (W := 1) (rmSApS l Z a0 hw [] b351 v_pa k_pa (16) (0) (List.replicate 16 (.int (0 : Int32))) b372 d372 kb372 (35) [(.int (47 : Int32)), (.int (47 : Int32)), (.int (32 : Int32)), (.int (71 : Int32)), (.int (101 : Int32)), (.int (110 : Int32)), (.int (101 : Int32)), (.int (114 : Int32)), (.int (97 : Int32)), (.int (116 : Int32)), (.int (101 : Int32)), (.int (100 : Int32)), (.int (32 : Int32)), (.int (98 : Int32)), (.int (121 : Int32)), (.int (32 : Int32)), (.int (111 : Int32)), (.int (114 : Int32)), (.int (98 : Int32)), (.int (119 : Int32)), (.int (101 : Int32)), (.int (97 : Int32)), (.int (118 : Int32)), (.int (101 : Int32)), (.int (114 : Int32)), (.int (32 : Int32)), (.int (105 : Int32)), (.int (100 : Int32)), (.int (108 : Int32)), (.int (32 : Int32)), (.int (102 : Int32)), (.int (114 : Int32)), (.int (111 : Int32)), (.int (109 : Int32)), (.int (32 : Int32))] zc h372 n0 Z372 f377 f379 f380 f381 f382 f383 (by simp) (by decide) g_b351 g_v_pa A372 FV372 FC372 V372 rfl (by decide) (Ne.symm ne_v_pa_d372) (by decide) ((by decide) : 0 + 35 ≤ 16 ∨ max (0 + 35) (2 * (16) + 2) ≤ 304) (by decide) f384 SC hzc) hZ (hw _ (List.mem_of_getElem? (i := 43) rfl)) (hw _ (List.mem_of_getElem? (i := 20) rfl)) (by decide) (by decide)) q390a q390c (g := (mkF m 25 #[.val (.ref j1), .val (.ref x1), .val (.ref y1)] [(.ref b372), (.ref b351), (.ref j1)])) rfl (by rw [hml]; rfl) (Steps.refl _) (argsL := [(.ref b372)]) (rest := [(.ref j1)]) (lenOf pd__Ljava_lang_String__Ljava_lang_StringBuilder_ rfl) rfl (by show 2 * 0 + _ ≤ _; exact Nat.le_of_eq rfl) (hb hby d1_25) (fun _ _ => ⟨rfl, e372, (by decide : 6 + 1 ≤ _), (by decide : 184 + 304 ≤ _)⟩)
  dsimp only [Pt.U, Pt.locs, Pt.cells, Pt.slots] at X390 l390 y390 z390 st390 hQ390
  subst l390 y390 z390
  obtain ⟨rfl, N390q, KC390, v2_378, k2_378, wa_378, ⟨E378, V378, C378, N378, A378, X378⟩, l2_378, tk_378, g_v2_378, hv_378⟩ := hQ390
  have N390 := Fr.app NL370 N390q
  have cs391 := CHr.keep KC390 (allS (Safe.exa (EL := EL) hZ.alike f377 (by decide) (by decide)) (allS y373_v_pa all0)) cs373.1
  have cr391 := cr373.trans cs391
  have y391_v_ta := cs391.safe f387.lt y373_v_ta
  have y391_v_pa := cs391.safe f382.lt y373_v_pa
  have hk391 := Nat.le_trans hk372 cs391.2.1
  have Z390 := Nat.le_trans Z372 KC390.1
  have K390 := K372.trans KC390 (allS (Or.inr sz_b351) (allS (Or.inr sz_v_pa) all0))
  have sz_v2_378 : h0.size ≤ v2_378 := hv_378.elim (fun q => by rw [q]; exact sz_v_pa) (fun q => Nat.le_trans K372.1 q)
  have ne_b337_v2_378 : b337 ≠ v2_378 := hv_378.elim (fun q => by rw [q]; exact ne_b337_v_pa) (fun q => Nat.ne_of_lt (Nat.lt_of_lt_of_le f376.lt q))
  have ne_b372_v2_378 : b372 ≠ v2_378 := hv_378.elim (fun q => by rw [q]; exact (Ne.symm ne_v_pa_b372)) (fun q => Nat.ne_of_lt (Nat.lt_of_lt_of_le A372.lt q))
  have ne_d372_v2_378 : d372 ≠ v2_378 := hv_378.elim (fun q => by rw [q]; exact (Ne.symm ne_v_pa_d372)) (fun q => Nat.ne_of_lt (Nat.lt_of_lt_of_le V372.lt q))
  have ne_j1_v2_378 : j1 ≠ v2_378 := hv_378.elim (fun q => by rw [q]; exact ne_j1_v_pa) (fun q => Nat.ne_of_lt (Nat.lt_of_lt_of_le f375.lt q))
  have ne_t1_v2_378 : t1 ≠ v2_378 := hv_378.elim (fun q => by rw [q]; exact ne_t1_v_pa) (fun q => Nat.ne_of_lt (Nat.lt_of_lt_of_le f385.lt q))
  have ne_u1_v2_378 : u1 ≠ v2_378 := hv_378.elim (fun q => by rw [q]; exact ne_u1_v_pa) (fun q => Nat.ne_of_lt (Nat.lt_of_lt_of_le f386.lt q))
  have ne_v_ta_v2_378 : v_ta ≠ v2_378 := hv_378.elim (fun q => by rw [q]; exact ne_v_ta_v_pa) (fun q => Nat.ne_of_lt (Nat.lt_of_lt_of_le f387.lt q))
  have ne_x1_v2_378 : x1 ≠ v2_378 := hv_378.elim (fun q => by rw [q]; exact ne_x1_v_pa) (fun q => Nat.ne_of_lt (Nat.lt_of_lt_of_le f388.lt q))
  have ne_y1_v2_378 : y1 ≠ v2_378 := hv_378.elim (fun q => by rw [q]; exact ne_y1_v_pa) (fun q => Nat.ne_of_lt (Nat.lt_of_lt_of_le f389.lt q))
  have y_v2_378 := own_safeK KC390 (allS (Safe.exa (EL := EL) hZ.alike f377 (by decide) (by decide)) (allS y373_v_pa all0)) cs373.1 hv_378 y373_v_pa
  have hgl_378 := @own_grle (16) (0 + 35)
  have hgm_378 : own_gr (16) (0 + 35) ≤ 1000 := own_grM (by decide) (by decide) ((by decide) : 0 + 35 ≤ 16 ∨ max (0 + 35) (2 * (16) + 2) ≤ 304)
  have ne_b351_v2_378 : b351 ≠ v2_378 := E378.neArv A378 (hw _ (List.mem_of_getElem? (i := 19) rfl))
  have nx2 : t1 ≠ v2_378 := Nat.ne_of_lt (Nat.lt_of_lt_of_le XA.lt sz_v2_378)
  have f393 := (f388.keep KC390)
  have f394 := (((((((XV.ext E337).keep KC340 (ninS ne_x1_b337 nin0)).other W349 (Or.inl ne_x1_j1)).ext E351).keep KC361 (ninS ne_x1_b351 nin0)).ext E372).keep KC390 (ninS ne_x1_b351 (ninS ne_x1_v_pa nin0)))
  have f395 := (((((((XC.ext E337).keep KC340 (ninS ne_x1_b337 nin0)).other W349 (Or.inl ne_x1_j1)).ext E351).keep KC361 (ninS ne_x1_b351 nin0)).ext E372).keep KC390 (ninS ne_x1_b351 (ninS ne_x1_v_pa nin0)))
  have f396 := (f385.keep KC390 (ninS ne_t1_b351 (ninS ne_t1_v_pa nin0)))
  have f397 := (f384.keep KC390 (allS g_b351 (allS g_v_pa all0)))
  have f398 := (f376.keep KC390)
  have f399 := (A372.keep KC390)
  have f400 := (V372.keep KC390 (ninS (Ne.symm ne_b351_d372) (ninS (Ne.symm ne_v_pa_d372) nin0)))
  have f401 := (f375.keep KC390)
  have f402 := (f386.keep KC390 (ninS ne_u1_b351 (ninS ne_u1_v_pa nin0)))
  have f403 := (f387.keep KC390 (ninS ne_v_ta_b351 (ninS ne_v_ta_v_pa nin0)))
  have f404 := (f389.keep KC390)
  obtain ⟨cq405, kq405, q405a, q405b, q405c⟩ := isOf hZ rfl E378
  obtain ⟨_, _, ⟨T405, L405, k405, n405⟩, -, X405, ⟨Lc405, hQ405, l405, y405, z405⟩, st405⟩ := X390.virtualBack hx (y := (⟨"java/lang/StringBuilder", "append", "(Ljava/lang/String;)Ljava/lang/StringBuilder;"⟩ : MethodName)) (z := (⟨"java/lang/StringBuilder", "append", "(Ljava/lang/String;)Ljava/lang/StringBuilder;"⟩ : MethodName)) hown (mvT hZ (hw _ (List.mem_of_getElem? (i := 39) rfl))) (mvT hZ (hw _ (List.mem_of_getElem? (i := 40) rfl))) (notFace_of_selects (args := #[]) (mvT hZ (hw _ (List.mem_of_getElem? (i := 42) rfl)))) (mvT hZ (hw _ (List.mem_of_getElem? (i := 42) rfl))) (mvT hZ (hw _ (List.mem_of_getElem? (i := 41) rfl))) (by decide) (backOf (W := 1) (rmSApS l Z a0 hw [] b351 v2_378 k2_378 (own_gr (16) (0 + 35)) (0 + 35) wa_378 x1 t1 kx (0) xs zc T390.heap n0 Z390 E378 V378 C378 N378 A378 X378 l2_378 hgm_378 g_b351 g_v2_378 f393 f394 f395 f396 hxl (by decide) nx2 hgl_378.1 ((by decide) : 0 + 35 + 0 ≤ own_gr (16) (0 + 35) ∨ max (0 + 35 + 0) (2 * (own_gr (16) (0 + 35)) + 2) ≤ 304) (by decide) f397 SC hzc) hZ (hw _ (List.mem_of_getElem? (i := 43) rfl)) (hw _ (List.mem_of_getElem? (i := 20) rfl)) (by decide) (by decide)) q405a q405c (g := (mkF m 29 #[.val (.ref j1), .val (.ref x1), .val (.ref y1)] [(.ref x1), (.ref b351), (.ref j1)])) rfl (by rw [hml]; rfl) (Steps.refl _) (argsL := [(.ref x1)]) (rest := [(.ref j1)]) (lenOf pd__Ljava_lang_String__Ljava_lang_StringBuilder_ rfl) rfl (by show 2 * 0 + _ ≤ _; exact Nat.le_of_eq rfl) (hb hby d1_29) (fun _ _ => ⟨rfl, rfl, (by decide : 7 + 1 ≤ _), (by decide : 488 + 304 ≤ _)⟩)
  dsimp only [Pt.U, Pt.locs, Pt.cells, Pt.slots] at X405 l405 y405 z405 st405 hQ405
  subst l405 y405 z405
  obtain ⟨rfl, N405q, KC405, v2_392, k2_392, wa_392, ⟨E392, V392, C392, N392, A392, X392⟩, l2_392, tk_392, g_v2_392, hv_392⟩ := hQ405
  have N405 := Fr.app N390 N405q
  have cs406 := CHr.keep KC405 (allS (Safe.exa (EL := EL) hZ.alike E378 (by decide) (by decide)) (allS y_v2_378 all0)) cs391.1
  have cr406 := cr391.trans cs406
  have y406_v_ta := cs406.safe f403.lt y391_v_ta
  have y406_v2_378 := cs406.safe A378.lt y_v2_378
  have hk406 := Nat.le_trans hk391 cs406.2.1
  have Z405 := Nat.le_trans Z390 KC405.1
  have K405 := K390.trans KC405 (allS (Or.inr sz_b351) (allS (Or.inr sz_v2_378) all0))
  have sz_v2_392 : h0.size ≤ v2_392 := hv_392.elim (fun q => by rw [q]; exact sz_v2_378) (fun q => Nat.le_trans K390.1 q)
  have ne_b337_v2_392 : b337 ≠ v2_392 := hv_392.elim (fun q => by rw [q]; exact ne_b337_v2_378) (fun q => Nat.ne_of_lt (Nat.lt_of_lt_of_le f398.lt q))
  have ne_b372_v2_392 : b372 ≠ v2_392 := hv_392.elim (fun q => by rw [q]; exact ne_b372_v2_378) (fun q => Nat.ne_of_lt (Nat.lt_of_lt_of_le f399.lt q))
  have ne_d372_v2_392 : d372 ≠ v2_392 := hv_392.elim (fun q => by rw [q]; exact ne_d372_v2_378) (fun q => Nat.ne_of_lt (Nat.lt_of_lt_of_le f400.lt q))
  have ne_j1_v2_392 : j1 ≠ v2_392 := hv_392.elim (fun q => by rw [q]; exact ne_j1_v2_378) (fun q => Nat.ne_of_lt (Nat.lt_of_lt_of_le f401.lt q))
  have ne_t1_v2_392 : t1 ≠ v2_392 := hv_392.elim (fun q => by rw [q]; exact ne_t1_v2_378) (fun q => Nat.ne_of_lt (Nat.lt_of_lt_of_le f396.lt q))
  have ne_u1_v2_392 : u1 ≠ v2_392 := hv_392.elim (fun q => by rw [q]; exact ne_u1_v2_378) (fun q => Nat.ne_of_lt (Nat.lt_of_lt_of_le f402.lt q))
  have ne_v_ta_v2_392 : v_ta ≠ v2_392 := hv_392.elim (fun q => by rw [q]; exact ne_v_ta_v2_378) (fun q => Nat.ne_of_lt (Nat.lt_of_lt_of_le f403.lt q))
  have ne_x1_v2_392 : x1 ≠ v2_392 := hv_392.elim (fun q => by rw [q]; exact ne_x1_v2_378) (fun q => Nat.ne_of_lt (Nat.lt_of_lt_of_le f393.lt q))
  have ne_y1_v2_392 : y1 ≠ v2_392 := hv_392.elim (fun q => by rw [q]; exact ne_y1_v2_378) (fun q => Nat.ne_of_lt (Nat.lt_of_lt_of_le f404.lt q))
  have y_v2_392 := own_safeK KC405 (allS (Safe.exa (EL := EL) hZ.alike E378 (by decide) (by decide)) (allS y_v2_378 all0)) cs391.1 hv_392 y_v2_378
  have hgl_392 := @own_grle (own_gr (16) (0 + 35)) (0 + 35 + 0)
  have hgm_392 : own_gr (own_gr (16) (0 + 35)) (0 + 35 + 0) ≤ 1000 := own_grM hgm_378 (by decide) ((by decide) : 0 + 35 + 0 ≤ own_gr (16) (0 + 35) ∨ max (0 + 35 + 0) (2 * (own_gr (16) (0 + 35)) + 2) ≤ 304)
  have ne_b351_v2_392 : b351 ≠ v2_392 := E392.neArv A392 (hw _ (List.mem_of_getElem? (i := 19) rfl))
  obtain ⟨LL407, XL407, NL407⟩ : ∃ LL, Stand p l e ({ frames := 8, cells := 22, slots := 3000, locals := 205 } : Room) (s.setVm T372.vm) m #[(.ref j1), (.ref x1), (.ref y1)] below meth c T405 LL 8 792 ∧ Fr n0 LL := ⟨_, X405, N405⟩
  have pre408 : ∀ t, Steps p.tables e below (T405.setTop (mkF m 32 #[.val (.ref j1), .val (.ref x1), .val (.ref y1)] [(.ref b351), (.ref j1)])) t → Steps p.tables e below (T361.setTop (mkF m 23 #[.val (.ref j1), .val (.ref x1), .val (.ref y1)] [(.ref b351), (.ref j1)])) t := by
    intro t kt
    show Steps p.tables e below (T361.setTop (mkF m 23 #[.val (.ref j1), .val (.ref x1), .val (.ref y1)] [(.ref b351), (.ref j1)])) _
    refine st372 _ ?_
    show Steps p.tables e below (T372.setTop (mkF m 25 #[.val (.ref j1), .val (.ref x1), .val (.ref y1)] [(.ref b372), (.ref b351), (.ref j1)])) _
    refine st390.trans ?_
    show Steps p.tables e below (T390.setTop (mkF m 28 #[.val (.ref j1), .val (.ref x1), .val (.ref y1)] [(.ref b351), (.ref j1)])) _
    refine XS.aloadN X390.here hx rfl (hb hby d1_28) rfl rfl ?_
    show Steps p.tables e below (T390.setTop (mkF m 29 #[.val (.ref j1), .val (.ref x1), .val (.ref y1)] [(.ref x1), (.ref b351), (.ref j1)])) _
    refine st405.trans ?_
    exact kt
  have wS409 : ∀ a ∈ Bundle.stringAtoms, a.before a0 Z = true := fun d hd => hw d ((by decide +kernel : ∀ d ∈ Bundle.stringAtoms, d ∈ tables_1) d hd)
  obtain ⟨b409, T409, h409, k409, d409, kb409, X409, e409, E409, hSi409, hk409, hZ, hown, A409, FC409, FV409, V409, -, -, crs409, Lt409, nn409, st409⟩ := ldcCH (s := s) (vm0 := T372.vm) XL407 hx hZ hown (hw _ (List.mem_of_getElem? (i := 112) rfl)) wS409 rfl hSi372 hk406 hEL (by decide : ("com/example/orbweaver/orbweaver/mapping/JavaSource", 22) ∈ EL) cs406.1 (vs := [(.int (46 : Int32)), (.int (32 : Int32)), (.int (67 : Int32)), (.int (104 : Int32)), (.int (97 : Int32)), (.int (110 : Int32)), (.int (103 : Int32)), (.int (101 : Int32)), (.int (115 : Int32)), (.int (32 : Int32)), (.int (97 : Int32)), (.int (114 : Int32)), (.int (101 : Int32)), (.int (32 : Int32)), (.int (108 : Int32)), (.int (111 : Int32)), (.int (115 : Int32)), (.int (116 : Int32)), (.int (32 : Int32)), (.int (119 : Int32)), (.int (104 : Int32)), (.int (101 : Int32)), (.int (110 : Int32)), (.int (32 : Int32)), (.int (105 : Int32)), (.int (116 : Int32)), (.int (32 : Int32)), (.int (114 : Int32)), (.int (117 : Int32)), (.int (110 : Int32)), (.int (115 : Int32)), (.int (32 : Int32)), (.int (97 : Int32)), (.int (103 : Int32)), (.int (97 : Int32)), (.int (105 : Int32)), (.int (110 : Int32)), (.int (46 : Int32))]) (z := (38 : Int32)) ⟨by decide, rfl⟩ (by decide) (by decide) (g := (mkF m 32 #[.val (.ref j1), .val (.ref x1), .val (.ref y1)] [(.ref b351), (.ref j1)])) rfl (hb hby d1_32) (n := 152) (by decide) (by decide) (by decide) (by decide)
  have f411 := (f403.keep KC405 (ninS ne_v_ta_b351 (ninS ne_v_ta_v2_378 nin0)))
  have cs410 := crs409
  have cr410 := cr406.trans cs410
  have y410_v_ta := cs410.safe f411.lt y406_v_ta
  have y410_v2_392 := cs410.safe A392.lt y_v2_392
  have Z409 := Nat.le_trans Z405 E409.1
  have K409 := K405.ext E409
  obtain ⟨ne_v2_392_b409, ne_v2_392_d409⟩ := nn409 _ y410_v2_392
  obtain ⟨ne_v_ta_b409, ne_v_ta_d409⟩ := nn409 _ y410_v_ta
  have f412 := ((f401.keep KC405).ext E409)
  have ne_j1_b409 : j1 ≠ b409 := f412.ne A409 (by decide)
  have ne_j1_d409 : j1 ≠ d409 := f412.neArv V409 (hw _ (List.mem_of_getElem? (i := 2) rfl))
  have f413 := ((f398.keep KC405).ext E409)
  have ne_b337_b409 : b337 ≠ b409 := f413.ne A409 (by decide)
  have ne_b337_d409 : b337 ≠ d409 := f413.neArv V409 (hw _ (List.mem_of_getElem? (i := 19) rfl))
  have f414 := (E392.ext E409)
  have ne_b351_b409 : b351 ≠ b409 := f414.ne A409 (by decide)
  have ne_b351_d409 : b351 ≠ d409 := f414.neArv V409 (hw _ (List.mem_of_getElem? (i := 19) rfl))
  have f416 := (V392.ext E409)
  have f417 := (C392.ext E409)
  have f418 := (N392.ext E409)
  have f419 := (A392.ext E409)
  have f420 := (X392.ext E409)
  have f421 := ((f397.keep KC405 (allS g_b351 (allS g_v2_378 all0))).ext E409)
  have f422 := ((f399.keep KC405).ext E409)
  have f423 := ((f400.keep KC405 (ninS (Ne.symm ne_b351_d372) (ninS ne_d372_v2_378 nin0))).ext E409)
  have f424 := ((f396.keep KC405 (ninS ne_t1_b351 (ninS ne_t1_v2_378 nin0))).ext E409)
  have f425 := ((f402.keep KC405 (ninS ne_u1_b351 (ninS ne_u1_v2_378 nin0))).ext E409)
  have f426 := (f411.ext E409)
  have f427 := ((f393.keep KC405).ext E409)
  have f428 := ((f404.keep KC405).ext E409)
  obtain ⟨cq429, kq429, q429a, q429b, q429c⟩ := isOf hZ e409 f414
  obtain ⟨_, _, ⟨T429, L429, k429, n429⟩, -, X429, ⟨Lc429, hQ429, l429, y429, z429⟩, st429⟩ := X409.virtualBack hx (y := (⟨"java/lang/StringBuilder", "append", "(Ljava/lang/String;)Ljava/lang/StringBuilder;"⟩ : MethodName)) (z := (⟨"java/lang/StringBuilder", "append", "(Ljava/lang/String;)Ljava/lang/StringBuilder;"⟩ : MethodName)) hown (mvT hZ (hw _ (List.mem_of_getElem? (i := 39) rfl))) (mvT hZ (hw _ (List.mem_of_getElem? (i := 40) rfl))) (notFace_of_selects (args := #[]) (mvT hZ (hw _ (List.mem_of_getElem? (i := 42) rfl)))) (mvT hZ (hw _ (List.mem_of_getElem? (i := 42) rfl))) (mvT hZ (hw _ (List.mem_of_getElem? (i := 41) rfl))) (by decide) (backOf (W := 1) (rmSApS l Z a0 hw [] b351 v2_392 k2_392 (own_gr (own_gr (16) (0 + 35)) (0 + 35 + 0)) (0 + 35 + 0) wa_392 b409 d409 kb409 (38) [(.int (46 : Int32)), (.int (32 : Int32)), (.int (67 : Int32)), (.int (104 : Int32)), (.int (97 : Int32)), (.int (110 : Int32)), (.int (103 : Int32)), (.int (101 : Int32)), (.int (115 : Int32)), (.int (32 : Int32)), (.int (97 : Int32)), (.int (114 : Int32)), (.int (101 : Int32)), (.int (32 : Int32)), (.int (108 : Int32)), (.int (111 : Int32)), (.int (115 : Int32)), (.int (116 : Int32)), (.int (32 : Int32)), (.int (119 : Int32)), (.int (104 : Int32)), (.int (101 : Int32)), (.int (110 : Int32)), (.int (32 : Int32)), (.int (105 : Int32)), (.int (116 : Int32)), (.int (32 : Int32)), (.int (114 : Int32)), (.int (117 : Int32)), (.int (110 : Int32)), (.int (115 : Int32)), (.int (32 : Int32)), (.int (97 : Int32)), (.int (103 : Int32)), (.int (97 : Int32)), (.int (105 : Int32)), (.int (110 : Int32)), (.int (46 : Int32))] zc h409 n0 Z409 f414 f416 f417 f418 f419 f420 l2_392 hgm_392 g_b351 g_v2_392 A409 FV409 FC409 V409 rfl (by decide) (Ne.symm ne_v2_392_d409) hgl_392.1 ((by decide) : 0 + 35 + 0 + 38 ≤ own_gr (own_gr (16) (0 + 35)) (0 + 35 + 0) ∨ max (0 + 35 + 0 + 38) (2 * (own_gr (own_gr (16) (0 + 35)) (0 + 35 + 0)) + 2) ≤ 304) (by decide) f421 SC hzc) hZ (hw _ (List.mem_of_getElem? (i := 43) rfl)) (hw _ (List.mem_of_getElem? (i := 20) rfl)) (by decide) (by decide)) q429a q429c (g := (mkF m 34 #[.val (.ref j1), .val (.ref x1), .val (.ref y1)] [(.ref b409), (.ref b351), (.ref j1)])) rfl (by rw [hml]; rfl) (Steps.refl _) (argsL := [(.ref b409)]) (rest := [(.ref j1)]) (lenOf pd__Ljava_lang_String__Ljava_lang_StringBuilder_ rfl) rfl (by show 2 * 0 + _ ≤ _; exact Nat.le_of_eq rfl) (hb hby d1_34) (fun _ _ => ⟨rfl, e409, (by decide : 10 + 1 ≤ _), (by decide : 948 + 304 ≤ _)⟩)
  dsimp only [Pt.U, Pt.locs, Pt.cells, Pt.slots] at X429 l429 y429 z429 st429 hQ429
  subst l429 y429 z429
  obtain ⟨rfl, N429q, KC429, v2_415, k2_415, wa_415, ⟨E415, V415, C415, N415, A415, X415⟩, l2_415, tk_415, g_v2_415, hv_415⟩ := hQ429
  have N429 := Fr.app NL407 N429q
  have cs430 := CHr.keep KC429 (allS (Safe.exa (EL := EL) hZ.alike f414 (by decide) (by decide)) (allS y410_v2_392 all0)) cs410.1
  have cr430 := cr410.trans cs430
  have y430_v_ta := cs430.safe f426.lt y410_v_ta
  have y430_v2_392 := cs430.safe f419.lt y410_v2_392
  have hk430 := Nat.le_trans hk409 cs430.2.1
  have Z429 := Nat.le_trans Z409 KC429.1
  have K429 := K409.trans KC429 (allS (Or.inr sz_b351) (allS (Or.inr sz_v2_392) all0))
  have sz_v2_415 : h0.size ≤ v2_415 := hv_415.elim (fun q => by rw [q]; exact sz_v2_392) (fun q => Nat.le_trans K409.1 q)
  have ne_b337_v2_415 : b337 ≠ v2_415 := hv_415.elim (fun q => by rw [q]; exact ne_b337_v2_392) (fun q => Nat.ne_of_lt (Nat.lt_of_lt_of_le f413.lt q))
  have ne_b372_v2_415 : b372 ≠ v2_415 := hv_415.elim (fun q => by rw [q]; exact ne_b372_v2_392) (fun q => Nat.ne_of_lt (Nat.lt_of_lt_of_le f422.lt q))
  have ne_b409_v2_415 : b409 ≠ v2_415 := hv_415.elim (fun q => by rw [q]; exact (Ne.symm ne_v2_392_b409)) (fun q => Nat.ne_of_lt (Nat.lt_of_lt_of_le A409.lt q))
  have ne_d372_v2_415 : d372 ≠ v2_415 := hv_415.elim (fun q => by rw [q]; exact ne_d372_v2_392) (fun q => Nat.ne_of_lt (Nat.lt_of_lt_of_le f423.lt q))
  have ne_d409_v2_415 : d409 ≠ v2_415 := hv_415.elim (fun q => by rw [q]; exact (Ne.symm ne_v2_392_d409)) (fun q => Nat.ne_of_lt (Nat.lt_of_lt_of_le V409.lt q))
  have ne_j1_v2_415 : j1 ≠ v2_415 := hv_415.elim (fun q => by rw [q]; exact ne_j1_v2_392) (fun q => Nat.ne_of_lt (Nat.lt_of_lt_of_le f412.lt q))
  have ne_t1_v2_415 : t1 ≠ v2_415 := hv_415.elim (fun q => by rw [q]; exact ne_t1_v2_392) (fun q => Nat.ne_of_lt (Nat.lt_of_lt_of_le f424.lt q))
  have ne_u1_v2_415 : u1 ≠ v2_415 := hv_415.elim (fun q => by rw [q]; exact ne_u1_v2_392) (fun q => Nat.ne_of_lt (Nat.lt_of_lt_of_le f425.lt q))
  have ne_v_ta_v2_415 : v_ta ≠ v2_415 := hv_415.elim (fun q => by rw [q]; exact ne_v_ta_v2_392) (fun q => Nat.ne_of_lt (Nat.lt_of_lt_of_le f426.lt q))
  have ne_x1_v2_415 : x1 ≠ v2_415 := hv_415.elim (fun q => by rw [q]; exact ne_x1_v2_392) (fun q => Nat.ne_of_lt (Nat.lt_of_lt_of_le f427.lt q))
  have ne_y1_v2_415 : y1 ≠ v2_415 := hv_415.elim (fun q => by rw [q]; exact ne_y1_v2_392) (fun q => Nat.ne_of_lt (Nat.lt_of_lt_of_le f428.lt q))
  have y_v2_415 := own_safeK KC429 (allS (Safe.exa (EL := EL) hZ.alike f414 (by decide) (by decide)) (allS y410_v2_392 all0)) cs410.1 hv_415 y410_v2_392
  have hgl_415 := @own_grle (own_gr (own_gr (16) (0 + 35)) (0 + 35 + 0)) (0 + 35 + 0 + 38)
  have hgm_415 : own_gr (own_gr (own_gr (16) (0 + 35)) (0 + 35 + 0)) (0 + 35 + 0 + 38) ≤ 1000 := own_grM hgm_392 (by decide) ((by decide) : 0 + 35 + 0 + 38 ≤ own_gr (own_gr (16) (0 + 35)) (0 + 35 + 0) ∨ max (0 + 35 + 0 + 38) (2 * (own_gr (own_gr (16) (0 + 35)) (0 + 35 + 0)) + 2) ≤ 304)
  have ne_b351_v2_415 : b351 ≠ v2_415 := E415.neArv A415 (hw _ (List.mem_of_getElem? (i := 19) rfl))
  have f431 := (f421.keep KC429 (allS g_b351 (allS g_v2_392 all0)))
  have f433 := (f413.keep KC429)
  have f434 := (f422.keep KC429)
  have f435 := (A409.keep KC429)
  have f436 := (f423.keep KC429 (ninS (Ne.symm ne_b351_d372) (ninS ne_d372_v2_392 nin0)))
  have f437 := (V409.keep KC429 (ninS (Ne.symm ne_b351_d409) (ninS (Ne.symm ne_v2_392_d409) nin0)))
  have f438 := (f412.keep KC429)
  have f439 := (f424.keep KC429 (ninS ne_t1_b351 (ninS ne_t1_v2_392 nin0)))
  have f440 := (f425.keep KC429 (ninS ne_u1_b351 (ninS ne_u1_v2_392 nin0)))
  have f441 := (f426.keep KC429 (ninS ne_v_ta_b351 (ninS ne_v_ta_v2_392 nin0)))
  have f442 := (f427.keep KC429)
  have f443 := (f428.keep KC429)
  obtain ⟨cq432, kq432, q432a, q432b, q432c⟩ := isOf hZ rfl E415
  obtain ⟨_, _, ⟨T432, L432, k432, n432⟩, -, X432, ⟨Lc432, hQ432, l432, y432, z432⟩, st432⟩ := X429.virtualBack hx (y := (⟨"java/lang/StringBuilder", "toString", "()Ljava/lang/String;"⟩ : MethodName)) (z := (⟨"java/lang/StringBuilder", "toString", "()Ljava/lang/String;"⟩ : MethodName)) hown (mvT hZ (hw _ (List.mem_of_getElem? (i := 113) rfl))) (mvT hZ (hw _ (List.mem_of_getElem? (i := 114) rfl))) (notFace_of_selects (args := #[]) (mvT hZ (hw _ (List.mem_of_getElem? (i := 116) rfl)))) (mvT hZ (hw _ (List.mem_of_getElem? (i := 116) rfl))) (mvT hZ (hw _ (List.mem_of_getElem? (i := 115) rfl))) (by decide) (backOf (W := 1) (rmToS l Z a0 hw [] b351 v2_415 k2_415 (own_gr (own_gr (own_gr (16) (0 + 35)) (0 + 35 + 0)) (0 + 35 + 0 + 38)) (0 + 35 + 0 + 38) wa_415 zc T429.heap n0 Z429 E415 V415 C415 N415 A415 X415 l2_415 hgm_415 g_b351 g_v2_415 hgl_415.1 (by decide) f431 SC hzc) hZ (hw _ (List.mem_of_getElem? (i := 117) rfl)) (hw _ (List.mem_of_getElem? (i := 20) rfl)) (by decide) (by decide)) q432a q432c (g := (mkF m 37 #[.val (.ref j1), .val (.ref x1), .val (.ref y1)] [(.ref b351), (.ref j1)])) rfl (by rw [hml]; rfl) (Steps.refl _) (argsL := []) (rest := [(.ref j1)]) (lenOf pd___Ljava_lang_String_ rfl) rfl (by show 2 * 0 + _ ≤ _; exact Nat.le_of_eq rfl) (hb hby d1_37) (fun _ _ => ⟨rfl, rfl, (by decide : 11 + 2 ≤ _), (by decide : 1252 + 260 ≤ _)⟩)
  dsimp only [Pt.U, Pt.locs, Pt.cells, Pt.slots] at X432 l432 y432 z432 st432 hQ432
  subst l432 y432 z432
  obtain ⟨x_m, rfl, N432q, EX432, le_m, t_m, k_m, ⟨E_m, V_m, C_m, A_m⟩, lt_m⟩ := hQ432
  have N432 := Fr.app N429 N432q
  have g_x_m : n0 ≤ x_m := Nat.le_trans Z429 le_m
  have sz_x_m : h0.size ≤ x_m := Nat.le_trans K429.1 le_m
  have ne_b337_x_m : b337 ≠ x_m := Nat.ne_of_lt (Nat.lt_of_lt_of_le f433.lt le_m)
  have ne_b351_x_m : b351 ≠ x_m := Nat.ne_of_lt (Nat.lt_of_lt_of_le E415.lt le_m)
  have ne_b372_x_m : b372 ≠ x_m := Nat.ne_of_lt (Nat.lt_of_lt_of_le f434.lt le_m)
  have ne_b409_x_m : b409 ≠ x_m := Nat.ne_of_lt (Nat.lt_of_lt_of_le f435.lt le_m)
  have ne_d372_x_m : d372 ≠ x_m := Nat.ne_of_lt (Nat.lt_of_lt_of_le f436.lt le_m)
  have ne_d409_x_m : d409 ≠ x_m := Nat.ne_of_lt (Nat.lt_of_lt_of_le f437.lt le_m)
  have ne_j1_x_m : j1 ≠ x_m := Nat.ne_of_lt (Nat.lt_of_lt_of_le f438.lt le_m)
  have ne_t1_x_m : t1 ≠ x_m := Nat.ne_of_lt (Nat.lt_of_lt_of_le f439.lt le_m)
  have ne_u1_x_m : u1 ≠ x_m := Nat.ne_of_lt (Nat.lt_of_lt_of_le f440.lt le_m)
  have ne_v2_415_x_m : v2_415 ≠ x_m := Nat.ne_of_lt (Nat.lt_of_lt_of_le A415.lt le_m)
  have ne_v_ta_x_m : v_ta ≠ x_m := Nat.ne_of_lt (Nat.lt_of_lt_of_le f441.lt le_m)
  have ne_x1_x_m : x1 ≠ x_m := Nat.ne_of_lt (Nat.lt_of_lt_of_le f442.lt le_m)
  have ne_y1_x_m : y1 ≠ x_m := Nat.ne_of_lt (Nat.lt_of_lt_of_le f443.lt le_m)
  have g_t_m : n0 ≤ t_m := Nat.le_trans Z429 lt_m
  have sz_t_m : h0.size ≤ t_m := Nat.le_trans K429.1 lt_m
  have ne_b337_t_m : b337 ≠ t_m := Nat.ne_of_lt (Nat.lt_of_lt_of_le f433.lt lt_m)
  have ne_b351_t_m : b351 ≠ t_m := Nat.ne_of_lt (Nat.lt_of_lt_of_le E415.lt lt_m)
  have ne_b372_t_m : b372 ≠ t_m := Nat.ne_of_lt (Nat.lt_of_lt_of_le f434.lt lt_m)
  have ne_b409_t_m : b409 ≠ t_m := Nat.ne_of_lt (Nat.lt_of_lt_of_le f435.lt lt_m)
  have ne_d372_t_m : d372 ≠ t_m := Nat.ne_of_lt (Nat.lt_of_lt_of_le f436.lt lt_m)
  have ne_d409_t_m : d409 ≠ t_m := Nat.ne_of_lt (Nat.lt_of_lt_of_le f437.lt lt_m)
  have ne_j1_t_m : j1 ≠ t_m := Nat.ne_of_lt (Nat.lt_of_lt_of_le f438.lt lt_m)
  have ne_t1_t_m : t1 ≠ t_m := Nat.ne_of_lt (Nat.lt_of_lt_of_le f439.lt lt_m)
  have ne_u1_t_m : u1 ≠ t_m := Nat.ne_of_lt (Nat.lt_of_lt_of_le f440.lt lt_m)
  have ne_v2_415_t_m : v2_415 ≠ t_m := Nat.ne_of_lt (Nat.lt_of_lt_of_le A415.lt lt_m)
  have ne_v_ta_t_m : v_ta ≠ t_m := Nat.ne_of_lt (Nat.lt_of_lt_of_le f441.lt lt_m)
  have ne_x1_t_m : x1 ≠ t_m := Nat.ne_of_lt (Nat.lt_of_lt_of_le f442.lt lt_m)
  have ne_y1_t_m : y1 ≠ t_m := Nat.ne_of_lt (Nat.lt_of_lt_of_le f443.lt lt_m)
  have cs444 := CHr.ext EX432 cs430.1
  have cr444 := cr430.trans cs444
  have y444_v_ta := cs444.safe f441.lt y430_v_ta
  have y444_v2_415 := cs444.safe A415.lt y_v2_415
  have hk444 := Nat.le_trans hk430 cs444.2.1
  have Z432 := Nat.le_trans Z429 EX432.1
  have K432 := K429.ext EX432
  obtain ⟨LL445, XL445, NL445⟩ : ∃ LL, Stand p l e ({ frames := 8, cells := 22, slots := 3000, locals := 205 } : Room) (s.setVm T409.vm) m #[(.ref j1), (.ref x1), (.ref y1)] below meth c T432 LL 13 1512 ∧ Fr n0 LL := ⟨_, X432, N432⟩
  have f446 := (f434.ext EX432)
  have f447 := (f435.ext EX432)
  have f448 := (f436.ext EX432)
  have f449 := (f437.ext EX432)
  have f450 := (f438.ext EX432)
  have f451 := (f439.ext EX432)
  have f452 := (f440.ext EX432)
  have f453 := (f442.ext EX432)
  have f454 := (f443.ext EX432)
  have f455 := ((((((((Fw349.ext E351).keep KC361 (ninS ne_j1_b351 nin0)).ext E372).keep KC390 (ninS ne_j1_b351 (ninS ne_j1_v_pa nin0))).keep KC405 (ninS ne_j1_b351 (ninS ne_j1_v2_378 nin0))).ext E409).keep KC429 (ninS ne_j1_b351 (ninS ne_j1_v2_392 nin0))).ext EX432)
  have f456 := (((((((((((JD.ext E337).keep KC340 (ninS ne_j1_b337 nin0)).other W349 (Or.inr (slot_ne (Or.inl (hw _ (List.mem_of_getElem? (i := 164) rfl))) (Or.inr (hw _ (List.mem_of_getElem? (i := 37) rfl))) (by decide) (t := .int) (t' := (.object "java/lang/StringBuilder")) (by decide) (by decide)))).ext E351).keep KC361 (ninS ne_j1_b351 nin0)).ext E372).keep KC390 (ninS ne_j1_b351 (ninS ne_j1_v_pa nin0))).keep KC405 (ninS ne_j1_b351 (ninS ne_j1_v2_378 nin0))).ext E409).keep KC429 (ninS ne_j1_b351 (ninS ne_j1_v2_392 nin0))).ext EX432)
  have f457 := (f433.ext EX432)
  have f458 := (((((((((V_ta.other W349 (Or.inl (Ne.symm ne_j1_b337))).ext E351).keep KC361 (ninS ne_b337_b351 nin0)).ext E372).keep KC390 (ninS ne_b337_b351 (ninS ne_b337_v_pa nin0))).keep KC405 (ninS ne_b337_b351 (ninS ne_b337_v2_378 nin0))).ext E409).keep KC429 (ninS ne_b337_b351 (ninS ne_b337_v2_392 nin0))).ext EX432)
  have f459 := (((((((((C_ta.other W349 (Or.inl (Ne.symm ne_j1_b337))).ext E351).keep KC361 (ninS ne_b337_b351 nin0)).ext E372).keep KC390 (ninS ne_b337_b351 (ninS ne_b337_v_pa nin0))).keep KC405 (ninS ne_b337_b351 (ninS ne_b337_v2_378 nin0))).ext E409).keep KC429 (ninS ne_b337_b351 (ninS ne_b337_v2_392 nin0))).ext EX432)
  have f460 := (((((((((N_ta.other W349 (Or.inl (Ne.symm ne_j1_b337))).ext E351).keep KC361 (ninS ne_b337_b351 nin0)).ext E372).keep KC390 (ninS ne_b337_b351 (ninS ne_b337_v_pa nin0))).keep KC405 (ninS ne_b337_b351 (ninS ne_b337_v2_378 nin0))).ext E409).keep KC429 (ninS ne_b337_b351 (ninS ne_b337_v2_392 nin0))).ext EX432)
  have f461 := (f441.ext EX432)
  have f462 := (((((((((X_ta.wr W349).ext E351).keep KC361).ext E372).keep KC390).keep KC405).ext E409).keep KC429).ext EX432)
  have f463 := (f431.ext EX432)
  have pre464 : ∀ t, Steps p.tables e below (T432.setTop (mkF m 40 #[.val (.ref j1), .val (.ref x1), .val (.ref y1)] [(.ref x_m), (.ref j1)])) t → Steps p.tables e below (T405.setTop (mkF m 32 #[.val (.ref j1), .val (.ref x1), .val (.ref y1)] [(.ref b351), (.ref j1)])) t := by
    intro t kt
    show Steps p.tables e below (T405.setTop (mkF m 32 #[.val (.ref j1), .val (.ref x1), .val (.ref y1)] [(.ref b351), (.ref j1)])) _
    refine st409 _ ?_
    show Steps p.tables e below (T409.setTop (mkF m 34 #[.val (.ref j1), .val (.ref x1), .val (.ref y1)] [(.ref b409), (.ref b351), (.ref j1)])) _
    refine st429.trans ?_
    show Steps p.tables e below (T429.setTop (mkF m 37 #[.val (.ref j1), .val (.ref x1), .val (.ref y1)] [(.ref b351), (.ref j1)])) _
    refine st432.trans ?_
    exact kt
  obtain ⟨cq465, kq465, q465a, q465b, q465c⟩ := isOf hZ rfl f450
  obtain ⟨_, _, ⟨T465, L465, k465, n465⟩, -, X465, hs465, hg465, ⟨Lc465, hQ465, l465, y465, z465, crs465⟩, st465⟩ := XL445.virtualBackS hx (y := (⟨"com/example/orbweaver/orbweaver/mapping/JavaSource", "line", "(Ljava/lang/String;)Lcom/example/orbweaver/orbweaver/mapping/JavaSource;"⟩ : MethodName)) (z := (⟨"com/example/orbweaver/orbweaver/mapping/JavaSource", "line", "(Ljava/lang/String;)Lcom/example/orbweaver/orbweaver/mapping/JavaSource;"⟩ : MethodName)) hown (mvT hZ (hw _ (List.mem_of_getElem? (i := 157) rfl))) (mvT hZ (hw _ (List.mem_of_getElem? (i := 158) rfl))) (notFace_of_selects (args := #[]) (mvT hZ (hw _ (List.mem_of_getElem? (i := 160) rfl)))) (mvT hZ (hw _ (List.mem_of_getElem? (i := 160) rfl))) (mvT hZ (hw _ (List.mem_of_getElem? (i := 159) rfl))) (by decide) (own_backS1 (s := s) (W := 0) (rmLine l Z a0 hw [] j1 b337 v_ta k_ta (16) (0) (List.replicate 16 (.int (0 : Int32))) x_m t_m k_m (0 + 35 + 0 + 38) (wa_415.take (0 + 35 + 0 + 38)) (0) zc T432.heap n0 Z432 hEL f450 f455 f456 f457 f458 f459 f460 f461 f462 (by simp) (by decide) g_b337 g_v_ta E_m V_m C_m A_m (by rw [List.length_take, l2_415]; decide) (by decide) (Ne.symm ne_v_ta_t_m) (by decide) (by decide) (by decide) (by decide) (by decide) (by decide) f463 SC hzc) hZ (hw _ (List.mem_of_getElem? (i := 161) rfl)) (hw _ (List.mem_of_getElem? (i := 3) rfl)) (by decide) (by decide) hEL cs444.1 f461.lt y444_v_ta) q465a q465c (g := (mkF m 40 #[.val (.ref j1), .val (.ref x1), .val (.ref y1)] [(.ref x_m), (.ref j1)])) rfl (by rw [hml]; rfl) (Steps.refl _) (argsL := [(.ref x_m)]) (rest := []) (lenOf pd__Ljava_lang_String__Lcom_example_orbweaver_orbweaver_mapping_JavaSource_ rfl) rfl (by show 2 * 0 + _ ≤ _; exact Nat.le_of_eq rfl) (hb hby d1_40) (fun _ _ => ⟨rfl, rfl, (by decide : 13 + 7 ≤ _), (by decide : 1512 + 1096 ≤ _)⟩)
  dsimp only [Pt.U, Pt.locs, Pt.cells, Pt.slots] at X465 l465 y465 z465 st465 hQ465 hs465 hg465 crs465
  subst l465 y465 z465
  obtain ⟨X465, hSi465, hZ, hown⟩ := rebS hSi409 (hk444) X465 hs465 hg465 hZ hown
  obtain ⟨rfl, N465q, KC465, v_tb, k_tb, ws_tb, ⟨E_tb, V_tb, C_tb, N_tb, A_tb, X_tb⟩, l_tb, tk_tb, g_v_tb, hv_tb, y_tb⟩ := hQ465
  have N465 := Fr.app NL445 N465q
  have cs466 := crs465
  have cr466 := cr444.trans cs466
  have y466_v_ta := cs466.safe f461.lt y444_v_ta
  have Z465 := Nat.le_trans Z432 KC465.1
  have K465 := K432.trans KC465 (allS (Or.inr sz_b337) (allS (Or.inr sz_v_ta) all0))
  have sz_v_tb : h0.size ≤ v_tb := hv_tb.elim (fun q => by rw [q]; exact sz_v_ta) (fun q => Nat.le_trans K432.1 q)
  have ne_b372_v_tb : b372 ≠ v_tb := hv_tb.elim (fun q => by rw [q]; exact (Ne.symm ne_v_ta_b372)) (fun q => Nat.ne_of_lt (Nat.lt_of_lt_of_le f446.lt q))
  have ne_b409_v_tb : b409 ≠ v_tb := hv_tb.elim (fun q => by rw [q]; exact (Ne.symm ne_v_ta_b409)) (fun q => Nat.ne_of_lt (Nat.lt_of_lt_of_le f447.lt q))
  have ne_d372_v_tb : d372 ≠ v_tb := hv_tb.elim (fun q => by rw [q]; exact (Ne.symm ne_v_ta_d372)) (fun q => Nat.ne_of_lt (Nat.lt_of_lt_of_le f448.lt q))
  have ne_d409_v_tb : d409 ≠ v_tb := hv_tb.elim (fun q => by rw [q]; exact (Ne.symm ne_v_ta_d409)) (fun q => Nat.ne_of_lt (Nat.lt_of_lt_of_le f449.lt q))
  have ne_j1_v_tb : j1 ≠ v_tb := hv_tb.elim (fun q => by rw [q]; exact ne_j1_v_ta) (fun q => Nat.ne_of_lt (Nat.lt_of_lt_of_le f450.lt q))
  have ne_t1_v_tb : t1 ≠ v_tb := hv_tb.elim (fun q => by rw [q]; exact ne_t1_v_ta) (fun q => Nat.ne_of_lt (Nat.lt_of_lt_of_le f451.lt q))
  have ne_t_m_v_tb : t_m ≠ v_tb := hv_tb.elim (fun q => by rw [q]; exact (Ne.symm ne_v_ta_t_m)) (fun q => Nat.ne_of_lt (Nat.lt_of_lt_of_le A_m.lt q))
  have ne_u1_v_tb : u1 ≠ v_tb := hv_tb.elim (fun q => by rw [q]; exact ne_u1_v_ta) (fun q => Nat.ne_of_lt (Nat.lt_of_lt_of_le f452.lt q))
  have ne_x1_v_tb : x1 ≠ v_tb := hv_tb.elim (fun q => by rw [q]; exact ne_x1_v_ta) (fun q => Nat.ne_of_lt (Nat.lt_of_lt_of_le f453.lt q))
  have ne_x_m_v_tb : x_m ≠ v_tb := hv_tb.elim (fun q => by rw [q]; exact (Ne.symm ne_v_ta_x_m)) (fun q => Nat.ne_of_lt (Nat.lt_of_lt_of_le E_m.lt q))
  have ne_y1_v_tb : y1 ≠ v_tb := hv_tb.elim (fun q => by rw [q]; exact ne_y1_v_ta) (fun q => Nat.ne_of_lt (Nat.lt_of_lt_of_le f454.lt q))
  have hcp_tb : own_gr (own_gr (own_gr (16) (0 + 4 * (0))) (0 + 4 * (0) + (0 + 35 + 0 + 38))) (0 + 4 * (0) + (0 + 35 + 0 + 38) + 1) ≤ 1000 := own_grM (own_grM (own_grM (by decide) (by decide) (by decide : 0 + 4 * (0) ≤ 16 ∨ max (0 + 4 * (0)) (2 * (16) + 2) ≤ 304)) (by decide) (by decide : 0 + 4 * (0) + (0 + 35 + 0 + 38) ≤ own_gr (16) (0 + 4 * (0)) ∨ max (0 + 4 * (0) + (0 + 35 + 0 + 38)) (2 * (own_gr (16) (0 + 4 * (0))) + 2) ≤ 304)) (by decide) (by decide : 0 + 4 * (0) + (0 + 35 + 0 + 38) + 1 ≤ own_gr (own_gr (16) (0 + 4 * (0))) (0 + 4 * (0) + (0 + 35 + 0 + 38)) ∨ max (0 + 4 * (0) + (0 + 35 + 0 + 38) + 1) (2 * (own_gr (own_gr (16) (0 + 4 * (0))) (0 + 4 * (0) + (0 + 35 + 0 + 38))) + 2) ≤ 304)
  have ne_b337_v_tb : b337 ≠ v_tb := E_tb.neArv A_tb (hw _ (List.mem_of_getElem? (i := 19) rfl))
  obtain ⟨LL467, XL467, NL467⟩ : ∃ LL, Stand p l e ({ frames := 8, cells := 22, slots := 3000, locals := 205 } : Room) (s.setVm T465.vm) m #[(.ref j1), (.ref x1), (.ref y1)] below meth c T465 LL 20 2608 ∧ Fr n0 LL := ⟨_, X465, N465⟩
  have f468 := ((((((((((((YV.ext E337).keep KC340 (ninS ne_y1_b337 nin0)).other W349 (Or.inl ne_y1_j1)).ext E351).keep KC361 (ninS ne_y1_b351 nin0)).ext E372).keep KC390 (ninS ne_y1_b351 (ninS ne_y1_v_pa nin0))).keep KC405 (ninS ne_y1_b351 (ninS ne_y1_v2_378 nin0))).ext E409).keep KC429 (ninS ne_y1_b351 (ninS ne_y1_v2_392 nin0))).ext EX432).keep KC465 (ninS ne_y1_b337 (ninS ne_y1_v_ta nin0)))
  have f469 := (f452.keep KC465 (ninS ne_u1_b337 (ninS ne_u1_v_ta nin0)))
  have f471 := (f454.keep KC465)
  obtain ⟨cq470, kq470, q470a, q470b, q470c⟩ := isOf hZ rfl f471
  obtain ⟨_, _, ⟨T470, L470, k470, n470⟩, -, X470, ⟨Lc470, hQ470, l470, y470, z470⟩, st470⟩ := XL467.virtualBack hx (y := (⟨"java/lang/String", "isEmpty", "()Z"⟩ : MethodName)) (z := (⟨"java/lang/String", "isEmpty", "()Z"⟩ : MethodName)) hown (mvT hZ (hw _ (List.mem_of_getElem? (i := 185) rfl))) (mvT hZ (hw _ (List.mem_of_getElem? (i := 186) rfl))) (notFace_of_selects (args := #[]) (mvT hZ (hw _ (List.mem_of_getElem? (i := 188) rfl)))) (mvT hZ (hw _ (List.mem_of_getElem? (i := 188) rfl))) (mvT hZ (hw _ (List.mem_of_getElem? (i := 187) rfl))) (by decide) (backOf (W := 0) (rmEmp1 l Z a0 hw [] y1 u1 ky (Int32.ofNat 0) ys T465.heap n0 Z465 f468 f469 rfl) hZ (hw _ (List.mem_of_getElem? (i := 189) rfl)) (hw _ (List.mem_of_getElem? (i := 5) rfl)) (by decide) (by decide)) q470a q470c (g := (mkF m 45 #[.val (.ref j1), .val (.ref x1), .val (.ref y1)] [(.ref y1)])) rfl (by rw [hml]; rfl) (Steps.refl _) (argsL := []) (rest := []) (lenOf pd___Z rfl) rfl (by show 2 * 0 + _ ≤ _; exact Nat.le_of_eq rfl) (hb hby d1_45) (fun _ _ => ⟨rfl, rfl, (by decide : 20 + 0 ≤ _), (by decide : 2608 + 0 ≤ _)⟩)
  dsimp only [Pt.U, Pt.locs, Pt.cells, Pt.slots] at X470 l470 y470 z470 st470 hQ470
  subst l470 y470 z470
  obtain ⟨rfl, N470q, EQ470⟩ := hQ470
  have N470 := Fr.app NL467 N470q
  have ch472 : CHv Z EL T465.vm T470.heap := by rw [EQ470]; exact cs466.1
  have cr472 : CHr Z EL s.vm h0 T465.vm T470.heap := by rw [EQ470]; exact cr466
  have y472_v_tb : Safe Z EL T465.vm T470.heap v_tb := by rw [EQ470]; exact y_tb
  have hk472 : T465.heap.size ≤ T470.heap.size := by rw [EQ470]; exact (Nat.le_refl _)
  have Z470 : n0 ≤ T470.heap.size := by rw [EQ470]; exact Z465
  have K470 := own_keq EQ470 K465
  have f473 := (EQ470 ▸ (f446.keep KC465))
  have f474 := (EQ470 ▸ (f447.keep KC465))
  have f475 := (EQ470 ▸ (f448.keep KC465 (ninS (Ne.symm ne_b337_d372) (ninS (Ne.symm ne_v_ta_d372) nin0))))
  have f476 := (EQ470 ▸ (f449.keep KC465 (ninS (Ne.symm ne_b337_d409) (ninS (Ne.symm ne_v_ta_d409) nin0))))
  have f477 := (EQ470 ▸ (f450.keep KC465))
  have f478 := (EQ470 ▸ (f451.keep KC465 (ninS ne_t1_b337 (ninS ne_t1_v_ta nin0))))
  have f479 := (EQ470 ▸ (A_m.keep KC465 (ninS (Ne.symm ne_b337_t_m) (ninS (Ne.symm ne_v_ta_t_m) nin0))))
  have f480 := (EQ470 ▸ f469)
  have f481 := (EQ470 ▸ (f453.keep KC465))
  have f482 := (EQ470 ▸ (E_m.keep KC465))
  have f483 := (EQ470 ▸ f471)
  have f484 := (EQ470 ▸ E_tb)
  have f485 := (EQ470 ▸ (f455.keep KC465 (ninS ne_j1_b337 (ninS ne_j1_v_ta nin0))))
  have f486 := (EQ470 ▸ V_tb)
  have f487 := (EQ470 ▸ C_tb)
  have f488 := (EQ470 ▸ N_tb)
  have f489 := (EQ470 ▸ A_tb)
  have f490 := (EQ470 ▸ X_tb)
  have f491 := (EQ470 ▸ (f463.keep KC465 (allS g_b337 (allS g_v_ta all0))))
  obtain ⟨cq492, kq492, q492a, q492b, q492c⟩ := isOf hZ rfl f477
  obtain ⟨_, _, ⟨T492, L492, k492, n492⟩, -, X492, ⟨Lc492, hQ492, l492, y492, z492⟩, st492⟩ := X470.virtualBack hx (y := (⟨"com/example/orbweaver/orbweaver/mapping/JavaSource", "blank", "()Lcom/example/orbweaver/orbweaver/mapping/JavaSource;"⟩ : MethodName)) (z := (⟨"com/example/orbweaver/orbweaver/mapping/JavaSource", "blank", "()Lcom/example/orbweaver/orbweaver/mapping/JavaSource;"⟩ : MethodName)) hown (mvT hZ (hw _ (List.mem_of_getElem? (i := 190) rfl))) (mvT hZ (hw _ (List.mem_of_getElem? (i := 191) rfl))) (notFace_of_selects (args := #[]) (mvT hZ (hw _ (List.mem_of_getElem? (i := 193) rfl)))) (mvT hZ (hw _ (List.mem_of_getElem? (i := 193) rfl))) (mvT hZ (hw _ (List.mem_of_getElem? (i := 192) rfl))) (by decide) (backOf (W := 0) (rmBlank l Z a0 hw [] j1 b337 v_tb k_tb (own_gr (own_gr (own_gr (16) (0 + 4 * (0))) (0 + 4 * (0) + (0 + 35 + 0 + 38))) (0 + 4 * (0) + (0 + 35 + 0 + 38) + 1)) (0 + 4 * (0) + (0 + 35 + 0 + 38) + 1) ws_tb zc T470.heap n0 Z470 f485 f484 f486 f487 f488 f489 f490 l_tb hcp_tb g_b337 g_v_tb own_grle.1 (by decide : 0 + 4 * (0) + (0 + 35 + 0 + 38) + 1 + 1 ≤ own_gr (own_gr (own_gr (16) (0 + 4 * (0))) (0 + 4 * (0) + (0 + 35 + 0 + 38))) (0 + 4 * (0) + (0 + 35 + 0 + 38) + 1) ∨ max (0 + 4 * (0) + (0 + 35 + 0 + 38) + 1 + 1) (2 * (own_gr (own_gr (own_gr (16) (0 + 4 * (0))) (0 + 4 * (0) + (0 + 35 + 0 + 38))) (0 + 4 * (0) + (0 + 35 + 0 + 38) + 1)) + 2) ≤ 304) (by decide) f491 SC hzc) hZ (hw _ (List.mem_of_getElem? (i := 194) rfl)) (hw _ (List.mem_of_getElem? (i := 3) rfl)) (by decide) (by decide)) q492a q492c (g := (mkF m 86 #[.val (.ref j1), .val (.ref x1), .val (.ref y1)] [(.ref j1)])) rfl (by rw [hml]; rfl) (Steps.refl _) (argsL := []) (rest := []) (lenOf pd___Lcom_example_orbweaver_orbweaver_mapping_JavaSource_ rfl) rfl (by show 2 * 0 + _ ≤ _; exact Nat.le_of_eq rfl) (hb hby d1_86) (fun _ _ => ⟨rfl, rfl, (by decide : 20 + 1 ≤ _), (by decide : 2608 + 304 ≤ _)⟩)
  dsimp only [Pt.U, Pt.locs, Pt.cells, Pt.slots] at X492 l492 y492 z492 st492 hQ492
  subst l492 y492 z492
  obtain ⟨rfl, N492q, KC492, v_tc, k_tc, ws_tc, ⟨E_tc, V_tc, C_tc, N_tc, A_tc, X_tc⟩, l_tc, tk_tc, g_v_tc, hv_tc⟩ := hQ492
  have N492 := Fr.app N470 N492q
  have cs493 := CHr.keep KC492 (allS (Safe.exa (EL := EL) hZ.alike f484 (by decide) (by decide)) (allS y472_v_tb all0)) ch472
  have cr493 := cr472.trans cs493
  have y493_v_tb := cs493.safe f489.lt y472_v_tb
  have hk493 := Nat.le_trans hk472 cs493.2.1
  have Z492 := Nat.le_trans Z470 KC492.1
  have K492 := K470.trans KC492 (allS (Or.inr sz_b337) (allS (Or.inr sz_v_tb) all0))
  have sz_v_tc : h0.size ≤ v_tc := hv_tc.elim (fun q => by rw [q]; exact sz_v_tb) (fun q => Nat.le_trans K470.1 q)
  have ne_b372_v_tc : b372 ≠ v_tc := hv_tc.elim (fun q => by rw [q]; exact ne_b372_v_tb) (fun q => Nat.ne_of_lt (Nat.lt_of_lt_of_le f473.lt q))
  have ne_b409_v_tc : b409 ≠ v_tc := hv_tc.elim (fun q => by rw [q]; exact ne_b409_v_tb) (fun q => Nat.ne_of_lt (Nat.lt_of_lt_of_le f474.lt q))
  have ne_d372_v_tc : d372 ≠ v_tc := hv_tc.elim (fun q => by rw [q]; exact ne_d372_v_tb) (fun q => Nat.ne_of_lt (Nat.lt_of_lt_of_le f475.lt q))
  have ne_d409_v_tc : d409 ≠ v_tc := hv_tc.elim (fun q => by rw [q]; exact ne_d409_v_tb) (fun q => Nat.ne_of_lt (Nat.lt_of_lt_of_le f476.lt q))
  have ne_j1_v_tc : j1 ≠ v_tc := hv_tc.elim (fun q => by rw [q]; exact ne_j1_v_tb) (fun q => Nat.ne_of_lt (Nat.lt_of_lt_of_le f477.lt q))
  have ne_t1_v_tc : t1 ≠ v_tc := hv_tc.elim (fun q => by rw [q]; exact ne_t1_v_tb) (fun q => Nat.ne_of_lt (Nat.lt_of_lt_of_le f478.lt q))
  have ne_t_m_v_tc : t_m ≠ v_tc := hv_tc.elim (fun q => by rw [q]; exact ne_t_m_v_tb) (fun q => Nat.ne_of_lt (Nat.lt_of_lt_of_le f479.lt q))
  have ne_u1_v_tc : u1 ≠ v_tc := hv_tc.elim (fun q => by rw [q]; exact ne_u1_v_tb) (fun q => Nat.ne_of_lt (Nat.lt_of_lt_of_le f480.lt q))
  have ne_x1_v_tc : x1 ≠ v_tc := hv_tc.elim (fun q => by rw [q]; exact ne_x1_v_tb) (fun q => Nat.ne_of_lt (Nat.lt_of_lt_of_le f481.lt q))
  have ne_x_m_v_tc : x_m ≠ v_tc := hv_tc.elim (fun q => by rw [q]; exact ne_x_m_v_tb) (fun q => Nat.ne_of_lt (Nat.lt_of_lt_of_le f482.lt q))
  have ne_y1_v_tc : y1 ≠ v_tc := hv_tc.elim (fun q => by rw [q]; exact ne_y1_v_tb) (fun q => Nat.ne_of_lt (Nat.lt_of_lt_of_le f483.lt q))
  have y_tc := own_safeK KC492 (allS (Safe.exa (EL := EL) hZ.alike f484 (by decide) (by decide)) (allS y472_v_tb all0)) ch472 hv_tc y472_v_tb
  have hcp_tc : own_gr (own_gr (own_gr (own_gr (16) (0 + 4 * (0))) (0 + 4 * (0) + (0 + 35 + 0 + 38))) (0 + 4 * (0) + (0 + 35 + 0 + 38) + 1)) (0 + 4 * (0) + (0 + 35 + 0 + 38) + 1 + 1) ≤ 1000 := own_grM hcp_tb (by decide) (by decide : 0 + 4 * (0) + (0 + 35 + 0 + 38) + 1 + 1 ≤ own_gr (own_gr (own_gr (16) (0 + 4 * (0))) (0 + 4 * (0) + (0 + 35 + 0 + 38))) (0 + 4 * (0) + (0 + 35 + 0 + 38) + 1) ∨ max (0 + 4 * (0) + (0 + 35 + 0 + 38) + 1 + 1) (2 * (own_gr (own_gr (own_gr (16) (0 + 4 * (0))) (0 + 4 * (0) + (0 + 35 + 0 + 38))) (0 + 4 * (0) + (0 + 35 + 0 + 38) + 1)) + 2) ≤ 304)
  have ne_b337_v_tc : b337 ≠ v_tc := E_tc.neArv A_tc (hw _ (List.mem_of_getElem? (i := 19) rfl))
  have ecp : own_gr (own_gr (own_gr (own_gr (16) (0 + 4 * (0))) (0 + 4 * (0) + (0 + 35 + 0 + 38))) (0 + 4 * (0) + (0 + 35 + 0 + 38) + 1)) (0 + 4 * (0) + (0 + 35 + 0 + 38) + 1 + 1) = 148 := by decide
  have ect : 0 + 4 * (0) + (0 + 35 + 0 + 38) + 1 + 1 = 75 := by decide
  have f494 := (f477.keep KC492)
  have f495 := (f485.keep KC492 (ninS ne_j1_b337 (ninS ne_j1_v_tb nin0)))
  have f496 := ((EQ470 ▸ (f456.keep KC465 (ninS ne_j1_b337 (ninS ne_j1_v_ta nin0)))).keep KC492 (ninS ne_j1_b337 (ninS ne_j1_v_tb nin0)))
  have pre497 : ∀ t, Steps p.tables e below (T492.setTop (mkF m 90 #[.val (.ref j1), .val (.ref x1), .val (.ref y1)] [])) t → Steps p.tables e below (T432.setTop (mkF m 40 #[.val (.ref j1), .val (.ref x1), .val (.ref y1)] [(.ref x_m), (.ref j1)])) t := by
    intro t kt
    show Steps p.tables e below (T432.setTop (mkF m 40 #[.val (.ref j1), .val (.ref x1), .val (.ref y1)] [(.ref x_m), (.ref j1)])) _
    refine st465.trans ?_
    show Steps p.tables e below (T465.setTop (mkF m 43 #[.val (.ref j1), .val (.ref x1), .val (.ref y1)] [(.ref j1)])) _
    refine XS.pop X465.here hx rfl (hb hby d1_43) rfl rfl ?_
    show Steps p.tables e below (T465.setTop (mkF m 44 #[.val (.ref j1), .val (.ref x1), .val (.ref y1)] [])) _
    refine XS.aloadN X465.here hx rfl (hb hby d1_44) rfl rfl ?_
    show Steps p.tables e below (T465.setTop (mkF m 45 #[.val (.ref j1), .val (.ref x1), .val (.ref y1)] [(.ref y1)])) _
    refine st470.trans ?_
    show Steps p.tables e below (T470.setTop (mkF m 48 #[.val (.ref j1), .val (.ref x1), .val (.ref y1)] [(.int (1 : Int32))])) _
    refine XS.ifYes X470.here hx rfl (pc0 := 48) (pc' := 85) rfl (hb hby d1_48) rfl ((if0 _ _).trans (feq (by decide : ¬ ((1 : Int32) = (0 : Int32)))).2) (by decide) (by decide) ?_
    show Steps p.tables e below (T470.setTop (mkF m 85 #[.val (.ref j1), .val (.ref x1), .val (.ref y1)] [])) _
    refine XS.aloadN X470.here hx rfl (hb hby d1_85) rfl rfl ?_
    show Steps p.tables e below (T470.setTop (mkF m 86 #[.val (.ref j1), .val (.ref x1), .val (.ref y1)] [(.ref j1)])) _
    refine st492.trans ?_
    show Steps p.tables e below (T492.setTop (mkF m 89 #[.val (.ref j1), .val (.ref x1), .val (.ref y1)] [(.ref j1)])) _
    refine XS.pop X492.here hx rfl (hb hby d1_89) rfl rfl ?_
    exact kt
  have yf_v_tc := (CHv.at X492 hZ hEL cs493.1).safe A_tc.lt y_tc
  obtain ⟨fs, hr, hrun, hended, e1, e2, e3, e4⟩ := X492.leaveW hSi465 hk493 (v := none) (fun _ => rfl)
  refine ⟨_, _, (pre0 _ (pre371 _ (pre408 _ (pre464 _ (pre497 _ ?_))))), hrun, hended, _, _, rfl, ?_, ?_, ⟨e1, e2, e3, e4.mono (by decide) (by decide)⟩⟩
  · show Steps p.tables e below (T492.setTop (mkF m 90 #[.val (.ref j1), .val (.ref x1), .val (.ref y1)] [])) _
    exact X492.returnOut hx Bd.returns (hb hby d1_90) hr
  · show QCtor Z j1 x1 t1 kx xs y1 u1 ky ys zc h0 n0 _ T492.heap _ T492.vm
    exact ⟨rfl, N492, K492, b337, v_tc, k_tc, ws_tc, ⟨f494, f495, f496⟩, (by have q := (⟨E_tc, V_tc, C_tc, N_tc, A_tc, X_tc⟩ : Exa Z T492.heap b337 "java/lang/StringBuilder" ∧ Fld Z T492.heap b337 "java/lang/AbstractStringBuilder" "value" "[B" (.ref v_tc) ∧ Fld Z T492.heap b337 "java/lang/AbstractStringBuilder" "coder" "B" (.int (0 : Int32)) ∧ Fld Z T492.heap b337 "java/lang/AbstractStringBuilder" "count" "I" (.int (Int32.ofNat (0 + 4 * (0) + (0 + 35 + 0 + 38) + 1 + 1))) ∧ Arv Z T492.heap v_tc k_tc .byte (Int32.ofNat (own_gr (own_gr (own_gr (own_gr (16) (0 + 4 * (0))) (0 + 4 * (0) + (0 + 35 + 0 + 38))) (0 + 4 * (0) + (0 + 35 + 0 + 38) + 1)) (0 + 4 * (0) + (0 + 35 + 0 + 38) + 1 + 1))) ws_tc (.int (0 : Int32)) ∧ Exa Z T492.heap v_tc "[B"); rw [ecp, ect] at q; exact q), by have q := l_tc; rw [ecp] at q; exact q, sz_b337, sz_v_tc, yf_v_tc⟩
  · have q := cr493.trans (CHv.at X492 hZ hEL cs493.1)
    show CHr Z EL s.vm s.heap T492.vm T492.heap
    rw [hh]
    exact q
theorem ef_IsL (m : MethodId) (x0 : Addr) : entryFrame m #[(.ref x0)] 1 = mkF m 0 #[.val (.ref x0)] [] := by (first | (simp [entryFrame, mkF, argsToLocals, Value.category]; done) | rfl)
def QIsL (Z : State) (x1 : Addr) (zc : Int32) (h0 : Heap) (n0 : Nat) (v : Option Value) (h : Heap) (L : List Loc) : Prop := v = some (.int (1 : Int32)) ∧ Fr n0 L ∧ h = h0
theorem d41_0 : decode jdk_42_method_154_code 0 = .ok (.getstatic 38, 3) := by decide +kernel
theorem d41_3 : decode jdk_42_method_154_code 3 = .ok (.ifCond .eq 14, 3) := by decide +kernel
theorem d41_6 : decode jdk_42_method_154_code 6 = .ok (.aload_n 0, 1) := by decide +kernel
theorem d41_7 : decode jdk_42_method_154_code 7 = .ok (.getfield 15, 3) := by decide +kernel
theorem d41_10 : decode jdk_42_method_154_code 10 = .ok (.ifCond .ne 7, 3) := by decide +kernel
theorem d41_13 : decode jdk_42_method_154_code 13 = .ok (.iconst 1, 1) := by decide +kernel
theorem d41_14 : decode jdk_42_method_154_code 14 = .ok (.goto 4, 3) := by decide +kernel
theorem d41_18 : decode jdk_42_method_154_code 18 = .ok (.ireturn, 1) := by decide +kernel
set_option maxRecDepth 65536 in
set_option maxHeartbeats 40000000 in
theorem rmIsL (l : Launch) (Z : State) (a0 : Array Value) (hw : ∀ d ∈ tables_1, d.before a0 Z = true) (ws : List Jvm.Cond) (x1 : Addr) (zc : Int32) (h0 : Heap) (n0 : Nat) (Z0 : n0 ≤ h0.size) (SC : Sta Z h0 "java/lang/String" "COMPACT_STRINGS" "Z" (.int zc)) (hzc : ¬ zc = (0 : Int32)) (FC : Fld Z h0 x1 "java/lang/String" "coder" "B" (.int (0 : Int32))) :
    MetFree l (⟨"java/lang/String", "isLatin1", "()Z"⟩ : MethodName) (head1 (Jvm.Cond.code (⟨"java/lang/String", "isLatin1", "()Z"⟩ : MethodName) jdk_42_method_154_code 1 (some .boolean) :: ws) ({ frames := 0, cells := 0, slots := 0, locals := 0 } : Room)) (fun a U => a = #[(.ref x1)] ∧ Z.Warmed39 U.vm ∧ U.heap = h0) (fun _ _ _ _ _ => True) (fun _ U o U' => ∃ v L, o = .returned v ∧ QIsL Z x1 zc h0 n0 v U'.heap L ∧ FrameEnd U o U' L ({ frames := 0, cells := 0, slots := 0, locals := 0 } : Room).cells ({ frames := 0, cells := 0, slots := 0, locals := 0 } : Room).slots) := by
  refine MetFree.of_bodySF (plainFor_of_name pn_java_lang_String) hisR ?_
  intro p e s m args below meth c s₁ Bd hml0 hP hK
  obtain ⟨rfl, hZ, hh⟩ := hP
  have hx := Bd.exec
  have hby := Bd.bytes
  have hml : c.maxLocals = 1 := hml0
  have hown : s.vm.findClass "java/lang/String" = some m.cls := findClass_of_methodNamed Bd.named
  have hnm := (name_of_methodNamed Bd.named Bd.method).1
  have X0 : Stand p l e ({ frames := 0, cells := 0, slots := 0, locals := 0 } : Room) s m #[(.ref x1)] below meth c s₁ [] 0 0 := Stand.of_body Bd
  have e0 : s₁.heap = h0 := by rw [← hh, Bd.state]; rfl
  have N0 := Fr.nil n0
  have pre0 : ∀ t, Steps p.tables e below (s₁.setTop (mkF m 0 #[.val (.ref x1)] [])) t → Steps p.tables e below (s₁.setTop (entryFrame m #[(.ref x1)] 1)) t := fun t k => castTop (ef_IsL m x1) k
  obtain ⟨T498, X498, e498, st498⟩ := getS2 X0 hx hZ hown (host := "") (Or.inl (hw _ (List.mem_of_getElem? (i := 60) rfl))) Via.refl e0 SC (g := (mkF m 0 #[.val (.ref x1)] [])) rfl (hb hby d41_0)
  obtain ⟨T499, X499, e499, st499⟩ := getF X498 hx hZ hown (host := "") (Or.inl (hw _ (List.mem_of_getElem? (i := 61) rfl))) Via.refl e498 FC (g := (mkF m 7 #[.val (.ref x1)] [(.ref x1)])) rfl rfl (hb hby d41_7)
  have pre500 : ∀ t, Steps p.tables e below (T499.setTop (mkF m 18 #[.val (.ref x1)] [(.int (1 : Int32))])) t → Steps p.tables e below (s₁.setTop (mkF m 0 #[.val (.ref x1)] [])) t := by
    intro t kt
    show Steps p.tables e below (s₁.setTop (mkF m 0 #[.val (.ref x1)] [])) _
    refine st498 _ ?_
    show Steps p.tables e below (T498.setTop (mkF m 3 #[.val (.ref x1)] [(.int zc)])) _
    refine XS.ifNo X498.here hx rfl (hb hby d41_3) rfl ((if0 _ _).trans (feq (hzc : ¬ (zc = (0 : Int32)))).1) ?_
    show Steps p.tables e below (T498.setTop (mkF m 6 #[.val (.ref x1)] [])) _
    refine XS.aloadN X498.here hx rfl (hb hby d41_6) rfl rfl ?_
    show Steps p.tables e below (T498.setTop (mkF m 7 #[.val (.ref x1)] [(.ref x1)])) _
    refine st499 _ ?_
    show Steps p.tables e below (T499.setTop (mkF m 10 #[.val (.ref x1)] [(.int (0 : Int32))])) _
    refine XS.ifNo X499.here hx rfl (hb hby d41_10) rfl ((if0 _ _).trans (teq (rfl : (0 : Int32) = (0 : Int32))).2) ?_
    show Steps p.tables e below (T499.setTop (mkF m 13 #[.val (.ref x1)] [])) _
    refine XS.iconst X499.here hx rfl (hb hby d41_13) ?_
    show Steps p.tables e below (T499.setTop (mkF m 14 #[.val (.ref x1)] [(.int (1 : Int32))])) _
    refine XS.goto X499.here hx rfl (pc0 := 14) (pc' := 18) rfl (hb hby d41_14) (by decide) (by decide) ?_
    exact kt
  obtain ⟨fs, hr, hrun, hended, hW, hsame⟩ := X499.leave (v := some (.int (1 : Int32))) (fun h => by rw [Bd.returns] at h; cases h)
  refine ⟨_, _, (pre0 _ (pre500 _ ?_)), hrun, hended, _, _, rfl, ?_, ⟨_, rfl⟩, hW, hsame.mono (by decide) (by decide)⟩
  · show Steps p.tables e below (T499.setTop (mkF m 18 #[.val (.ref x1)] [(.int (1 : Int32))])) _
    exact retN X499 hx (t := .boolean) Bd.returns (by simp) (hb hby d41_18) hr
  · show QIsL Z x1 zc h0 n0 _ T499.heap _
    rw [e499]
    exact ⟨rfl, N0, rfl⟩
theorem ef_PCk (m : MethodId) (x0 : Int32) (x1 : Int32) (x2 : Value) (hx2 : x2.isRef = true) : entryFrame m #[(.int x0), (.int x1), x2] 3 = mkF m 0 #[.val (.int x0), .val (.int x1), .val x2] [] := by rcases ref_cases hx2 with rfl | ⟨_, rfl⟩ <;> (first | (simp [entryFrame, mkF, argsToLocals, Value.category]; done) | rfl)
def QPCk (Z : State) (i1 : Int32) (i2 : Int32) (fm : Value) (h0 : Heap) (n0 : Nat) (v : Option Value) (h : Heap) (L : List Loc) : Prop := v = some (.int i1) ∧ Fr n0 L ∧ h = h0
theorem pn_jdk_internal_util_Preconditions : plainName "jdk/internal/util/Preconditions" = true := by first | (simp [plainName, overriddenIn]; done) | decide +kernel
theorem d44_0 : decode jdk_41_method_11_code 0 = .ok (.iload_n 0, 1) := by decide +kernel
theorem d44_1 : decode jdk_41_method_11_code 1 = .ok (.ifCond .lt 8, 3) := by decide +kernel
theorem d44_4 : decode jdk_41_method_11_code 4 = .ok (.iload_n 0, 1) := by decide +kernel
theorem d44_5 : decode jdk_41_method_11_code 5 = .ok (.iload_n 1, 1) := by decide +kernel
theorem d44_6 : decode jdk_41_method_11_code 6 = .ok (.if_icmp .lt 10, 3) := by decide +kernel
theorem d44_16 : decode jdk_41_method_11_code 16 = .ok (.iload_n 0, 1) := by decide +kernel
theorem d44_17 : decode jdk_41_method_11_code 17 = .ok (.ireturn, 1) := by decide +kernel
set_option maxRecDepth 65536 in
set_option maxHeartbeats 40000000 in
theorem rmPCk (l : Launch) (Z : State) (a0 : Array Value) (hw : ∀ d ∈ tables_1, d.before a0 Z = true) (ws : List Jvm.Cond) (i1 : Int32) (i2 : Int32) (fm : Value) (h0 : Heap) (n0 : Nat) (Z0 : n0 ≤ h0.size) (rf : fm.isRef = true) (hi0 : ¬ i1 < (0 : Int32)) (hi1 : i1 < i2) :
    MetFree l (⟨"jdk/internal/util/Preconditions", "checkIndex", "(IILjava/util/function/BiFunction;)I"⟩ : MethodName) (head1 (Jvm.Cond.code (⟨"jdk/internal/util/Preconditions", "checkIndex", "(IILjava/util/function/BiFunction;)I"⟩ : MethodName) jdk_41_method_11_code 3 (some .int) :: ws) ({ frames := 0, cells := 0, slots := 0, locals := 0 } : Room)) (fun a U => a = #[(.int i1), (.int i2), fm] ∧ Z.Warmed39 U.vm ∧ U.heap = h0) (fun _ _ _ _ _ => True) (fun _ U o U' => ∃ v L, o = .returned v ∧ QPCk Z i1 i2 fm h0 n0 v U'.heap L ∧ FrameEnd U o U' L ({ frames := 0, cells := 0, slots := 0, locals := 0 } : Room).cells ({ frames := 0, cells := 0, slots := 0, locals := 0 } : Room).slots) := by
  refine MetFree.of_bodySF (plainFor_of_name pn_jdk_internal_util_Preconditions) hisR ?_
  intro p e s m args below meth c s₁ Bd hml0 hP hK
  obtain ⟨rfl, hZ, hh⟩ := hP
  have hx := Bd.exec
  have hby := Bd.bytes
  have hml : c.maxLocals = 3 := hml0
  have hown : s.vm.findClass "jdk/internal/util/Preconditions" = some m.cls := findClass_of_methodNamed Bd.named
  have hnm := (name_of_methodNamed Bd.named Bd.method).1
  have X0 : Stand p l e ({ frames := 0, cells := 0, slots := 0, locals := 0 } : Room) s m #[(.int i1), (.int i2), fm] below meth c s₁ [] 0 0 := Stand.of_body Bd
  have e0 : s₁.heap = h0 := by rw [← hh, Bd.state]; rfl
  have N0 := Fr.nil n0
  have pre0 : ∀ t, Steps p.tables e below (s₁.setTop (mkF m 0 #[.val (.int i1), .val (.int i2), .val fm] [])) t → Steps p.tables e below (s₁.setTop (entryFrame m #[(.int i1), (.int i2), fm] 3)) t := fun t k => castTop (ef_PCk m i1 i2 fm rf) k
  have pre501 : ∀ t, Steps p.tables e below (s₁.setTop (mkF m 17 #[.val (.int i1), .val (.int i2), .val fm] [(.int i1)])) t → Steps p.tables e below (s₁.setTop (mkF m 0 #[.val (.int i1), .val (.int i2), .val fm] [])) t := by
    intro t kt
    show Steps p.tables e below (s₁.setTop (mkF m 0 #[.val (.int i1), .val (.int i2), .val fm] [])) _
    refine XS.iloadN X0.here hx rfl (hb hby d44_0) rfl ?_
    show Steps p.tables e below (s₁.setTop (mkF m 1 #[.val (.int i1), .val (.int i2), .val fm] [(.int i1)])) _
    refine XS.ifNo X0.here hx rfl (hb hby d44_1) rfl ((if0 _ _).trans (flt (hi0 : ¬ (i1 < (0 : Int32)))).1) ?_
    show Steps p.tables e below (s₁.setTop (mkF m 4 #[.val (.int i1), .val (.int i2), .val fm] [])) _
    refine XS.iloadN X0.here hx rfl (hb hby d44_4) rfl ?_
    show Steps p.tables e below (s₁.setTop (mkF m 5 #[.val (.int i1), .val (.int i2), .val fm] [(.int i1)])) _
    refine XS.iloadN X0.here hx rfl (hb hby d44_5) rfl ?_
    show Steps p.tables e below (s₁.setTop (mkF m 6 #[.val (.int i1), .val (.int i2), .val fm] [(.int i2), (.int i1)])) _
    refine XS.icmpYes X0.here hx rfl (pc0 := 6) (pc' := 16) rfl (hb hby d44_6) rfl (tlt (hi1 : i1 < i2)).1 (by decide) (by decide) ?_
    show Steps p.tables e below (s₁.setTop (mkF m 16 #[.val (.int i1), .val (.int i2), .val fm] [])) _
    refine XS.iloadN X0.here hx rfl (hb hby d44_16) rfl ?_
    exact kt
  obtain ⟨fs, hr, hrun, hended, hW, hsame⟩ := X0.leave (v := some (.int i1)) (fun h => by rw [Bd.returns] at h; cases h)
  refine ⟨_, _, (pre0 _ (pre501 _ ?_)), hrun, hended, _, _, rfl, ?_, ⟨_, rfl⟩, hW, hsame.mono (by decide) (by decide)⟩
  · show Steps p.tables e below (s₁.setTop (mkF m 17 #[.val (.int i1), .val (.int i2), .val fm] [(.int i1)])) _
    exact retOut X0 hx (t := .int) Bd.returns rfl (Or.inl ⟨rfl, Or.inl rfl, _, rfl⟩) (hb hby d44_17) hr
  · show QPCk Z i1 i2 fm h0 n0 _ s₁.heap _
    rw [e0]
    exact ⟨rfl, N0, rfl⟩
theorem ef_SCk (m : MethodId) (x0 : Int32) (x1 : Int32) : entryFrame m #[(.int x0), (.int x1)] 2 = mkF m 0 #[.val (.int x0), .val (.int x1)] [] := by (first | (simp [entryFrame, mkF, argsToLocals, Value.category]; done) | rfl)
def QSCk (Z : State) (i1 : Int32) (i2 : Int32) (fm : Value) (h0 : Heap) (n0 : Nat) (v : Option Value) (h : Heap) (L : List Loc) : Prop := v = none ∧ Fr n0 L ∧ h = h0
theorem d43_0 : decode jdk_42_method_155_code 0 = .ok (.iload_n 0, 1) := by decide +kernel
theorem d43_1 : decode jdk_42_method_155_code 1 = .ok (.iload_n 1, 1) := by decide +kernel
theorem d43_2 : decode jdk_42_method_155_code 2 = .ok (.getstatic 1053, 3) := by decide +kernel
theorem d43_5 : decode jdk_42_method_155_code 5 = .ok (.invokestatic 1059, 3) := by decide +kernel
theorem pd__IILjava_util_function_BiFunction__I : parseMethodDescriptor "(IILjava/util/function/BiFunction;)I" = some ⟨[.int, .int, (.object "java/util/function/BiFunction")], some .int⟩ := by decide +kernel
theorem d43_8 : decode jdk_42_method_155_code 8 = .ok (.pop, 1) := by decide +kernel
theorem d43_9 : decode jdk_42_method_155_code 9 = .ok (.return_, 1) := by decide +kernel
set_option maxRecDepth 65536 in
set_option maxHeartbeats 40000000 in
theorem rmSCk (l : Launch) (Z : State) (a0 : Array Value) (hw : ∀ d ∈ tables_1, d.before a0 Z = true) (ws : List Jvm.Cond) (i1 : Int32) (i2 : Int32) (fm : Value) (h0 : Heap) (n0 : Nat) (Z0 : n0 ≤ h0.size) (SFm : Sta Z h0 "jdk/internal/util/Preconditions" "SIOOBE_FORMATTER" "Ljava/util/function/BiFunction;" fm) (rf : fm.isRef = true) (hi0 : ¬ i1 < (0 : Int32)) (hi1 : i1 < i2) :
    MetFree l (⟨"java/lang/String", "checkIndex", "(II)V"⟩ : MethodName) (head1 (Jvm.Cond.code (⟨"java/lang/String", "checkIndex", "(II)V"⟩ : MethodName) jdk_42_method_155_code 2 none :: ws) ({ frames := 1, cells := 0, slots := 0, locals := 14 } : Room)) (fun a U => a = #[(.int i1), (.int i2)] ∧ Z.Warmed39 U.vm ∧ U.heap = h0) (fun _ _ _ _ _ => True) (fun _ U o U' => ∃ v L, o = .returned v ∧ QSCk Z i1 i2 fm h0 n0 v U'.heap L ∧ FrameEnd U o U' L ({ frames := 1, cells := 0, slots := 0, locals := 14 } : Room).cells ({ frames := 1, cells := 0, slots := 0, locals := 14 } : Room).slots) := by
  refine MetFree.of_bodySF (plainFor_of_name pn_java_lang_String) hisR ?_
  intro p e s m args below meth c s₁ Bd hml0 hP hK
  obtain ⟨rfl, hZ, hh⟩ := hP
  have hx := Bd.exec
  have hby := Bd.bytes
  have hml : c.maxLocals = 2 := hml0
  have hown : s.vm.findClass "java/lang/String" = some m.cls := findClass_of_methodNamed Bd.named
  have hnm := (name_of_methodNamed Bd.named Bd.method).1
  have X0 : Stand p l e ({ frames := 1, cells := 0, slots := 0, locals := 14 } : Room) s m #[(.int i1), (.int i2)] below meth c s₁ [] 0 0 := Stand.of_body Bd
  have e0 : s₁.heap = h0 := by rw [← hh, Bd.state]; rfl
  have N0 := Fr.nil n0
  have pre0 : ∀ t, Steps p.tables e below (s₁.setTop (mkF m 0 #[.val (.int i1), .val (.int i2)] [])) t → Steps p.tables e below (s₁.setTop (entryFrame m #[(.int i1), (.int i2)] 2)) t := fun t k => castTop (ef_SCk m i1 i2) k
  obtain ⟨T502, X502, e502, st502⟩ := getS2 X0 hx hZ hown (host := "") (Or.inl (hw _ (List.mem_of_getElem? (i := 243) rfl))) Via.refl e0 SFm (g := (mkF m 2 #[.val (.int i1), .val (.int i2)] [(.int i2), (.int i1)])) rfl (hb hby d43_2)
  obtain ⟨_, _, ⟨T503, L503, k503, n503⟩, -, X503, ⟨Lc503, hQ503, l503, y503, z503⟩, st503⟩ := Jvm.LawKit.callS X502 hx (y := (⟨"jdk/internal/util/Preconditions", "checkIndex", "(IILjava/util/function/BiFunction;)I"⟩ : MethodName)) hown (mvT hZ (hw _ (List.mem_of_getElem? (i := 245) rfl))) (mvT hZ (hw _ (List.mem_of_getElem? (i := 246) rfl))) (mvT hZ (hw _ (List.mem_of_getElem? (i := 244) rfl))) (mvT hZ (hw _ (List.mem_of_getElem? (i := 247) rfl))) (by decide) (backOf (W := 0) (rmPCk l Z a0 hw [] i1 i2 fm h0 n0 Z0 rf hi0 hi1) hZ (hw _ (List.mem_of_getElem? (i := 247) rfl)) (hw _ (List.mem_of_getElem? (i := 244) rfl)) (by decide) (by decide)) (g := (mkF m 5 #[.val (.int i1), .val (.int i2)] [fm, (.int i2), (.int i1)])) rfl (by rw [hml]; rfl) (argsL := [(.int i1), (.int i2), fm]) (rest := []) (lenOf pd__IILjava_util_function_BiFunction__I rfl) rfl (by show 2 * 0 + _ ≤ _; exact Nat.le_of_eq rfl) (hb hby d43_5) (fun _ _ => ⟨rfl, e502, (by decide : 0 + 0 ≤ _), (by decide : 0 + 0 ≤ _)⟩)
  dsimp only [Pt.U, Pt.locs, Pt.cells, Pt.slots] at X503 l503 y503 z503 st503 hQ503
  subst l503 y503 z503
  obtain ⟨rfl, N503q, EQ503⟩ := hQ503
  have N503 := Fr.app N0 N503q
  have Z503 : n0 ≤ T503.heap.size := by rw [EQ503]; exact Z0
  have K503 := own_keq EQ503 (Keep.refl h0 [])
  have pre504 : ∀ t, Steps p.tables e below (T503.setTop (mkF m 9 #[.val (.int i1), .val (.int i2)] [])) t → Steps p.tables e below (s₁.setTop (mkF m 0 #[.val (.int i1), .val (.int i2)] [])) t := by
    intro t kt
    show Steps p.tables e below (s₁.setTop (mkF m 0 #[.val (.int i1), .val (.int i2)] [])) _
    refine XS.iloadN X0.here hx rfl (hb hby d43_0) rfl ?_
    show Steps p.tables e below (s₁.setTop (mkF m 1 #[.val (.int i1), .val (.int i2)] [(.int i1)])) _
    refine XS.iloadN X0.here hx rfl (hb hby d43_1) rfl ?_
    show Steps p.tables e below (s₁.setTop (mkF m 2 #[.val (.int i1), .val (.int i2)] [(.int i2), (.int i1)])) _
    refine st502 _ ?_
    show Steps p.tables e below (T502.setTop (mkF m 5 #[.val (.int i1), .val (.int i2)] [fm, (.int i2), (.int i1)])) _
    refine st503 _ ?_
    show Steps p.tables e below (T503.setTop (mkF m 8 #[.val (.int i1), .val (.int i2)] [(.int i1)])) _
    refine XS.pop X503.here hx rfl (hb hby d43_8) rfl rfl ?_
    exact kt
  obtain ⟨fs, hr, hrun, hended, hW, hsame⟩ := X503.leave (v := none) (fun _ => rfl)
  refine ⟨_, _, (pre0 _ (pre504 _ ?_)), hrun, hended, _, _, rfl, ?_, ⟨_, rfl⟩, hW, hsame.mono (by decide) (by decide)⟩
  · show Steps p.tables e below (T503.setTop (mkF m 9 #[.val (.int i1), .val (.int i2)] [])) _
    exact X503.returnOut hx Bd.returns (hb hby d43_9) hr
  · show QSCk Z i1 i2 fm h0 n0 _ T503.heap _
    exact ⟨rfl, N503, by rw [EQ503]⟩
theorem ef_LCh (m : MethodId) (x0 : Addr) (x1 : Int32) : entryFrame m #[(.ref x0), (.int x1)] 2 = mkF m 0 #[.val (.ref x0), .val (.int x1)] [] := by (first | (simp [entryFrame, mkF, argsToLocals, Value.category]; done) | rfl)
def QLCh (Z : State) (t1 : Addr) (kb : ClassId) (nb : Int32) (vb : List Value) (i1 : Int32) (bt : Int32) (fm : Value) (h0 : Heap) (n0 : Nat) (v : Option Value) (h : Heap) (L : List Loc) : Prop := v = some (.int (nar .char ((bt &&& (255 : Int32)).toUInt32.toUInt16.toUInt32.toInt32))) ∧ Fr n0 L ∧ h = h0
theorem d42_0 : decode jdk_43_method_2_code 0 = .ok (.iload_n 1, 1) := by decide +kernel
theorem d42_1 : decode jdk_43_method_2_code 1 = .ok (.aload_n 0, 1) := by decide +kernel
theorem d42_2 : decode jdk_43_method_2_code 2 = .ok (.arraylength, 1) := by decide +kernel
theorem d42_3 : decode jdk_43_method_2_code 3 = .ok (.invokestatic 9, 3) := by decide +kernel
theorem d42_6 : decode jdk_43_method_2_code 6 = .ok (.aload_n 0, 1) := by decide +kernel
theorem d42_7 : decode jdk_43_method_2_code 7 = .ok (.iload_n 1, 1) := by decide +kernel
theorem d42_8 : decode jdk_43_method_2_code 8 = .ok (.baload, 1) := by decide +kernel
theorem d42_9 : decode jdk_43_method_2_code 9 = .ok (.sipush 255, 3) := by decide +kernel
theorem d42_12 : decode jdk_43_method_2_code 12 = .ok (.iand, 1) := by decide +kernel
theorem d42_13 : decode jdk_43_method_2_code 13 = .ok (.i2c, 1) := by decide +kernel
theorem d42_14 : decode jdk_43_method_2_code 14 = .ok (.ireturn, 1) := by decide +kernel
set_option maxRecDepth 65536 in
set_option maxHeartbeats 40000000 in
theorem rmLCh (l : Launch) (Z : State) (a0 : Array Value) (hw : ∀ d ∈ tables_1, d.before a0 Z = true) (ws : List Jvm.Cond) (t1 : Addr) (kb : ClassId) (nb : Int32) (vb : List Value) (i1 : Int32) (bt : Int32) (fm : Value) (h0 : Heap) (n0 : Nat) (Z0 : n0 ≤ h0.size) (SFm : Sta Z h0 "jdk/internal/util/Preconditions" "SIOOBE_FORMATTER" "Ljava/util/function/BiFunction;" fm) (rf : fm.isRef = true) (KA : Arv Z h0 t1 kb .byte nb vb (.int (0 : Int32))) (hi0 : ¬ i1 < (0 : Int32)) (hi1 : i1 < nb) (hbt : vb.getD i1.toNatClampNeg (.int (0 : Int32)) = .int bt) :
    MetFree l (⟨"java/lang/StringLatin1", "charAt", "([BI)C"⟩ : MethodName) (head1 (Jvm.Cond.code (⟨"java/lang/StringLatin1", "charAt", "([BI)C"⟩ : MethodName) jdk_43_method_2_code 2 (some .char) :: ws) ({ frames := 2, cells := 0, slots := 0, locals := 27 } : Room)) (fun a U => a = #[(.ref t1), (.int i1)] ∧ Z.Warmed39 U.vm ∧ U.heap = h0) (fun _ _ _ _ _ => True) (fun _ U o U' => ∃ v L, o = .returned v ∧ QLCh Z t1 kb nb vb i1 bt fm h0 n0 v U'.heap L ∧ FrameEnd U o U' L ({ frames := 2, cells := 0, slots := 0, locals := 27 } : Room).cells ({ frames := 2, cells := 0, slots := 0, locals := 27 } : Room).slots) := by
  refine MetFree.of_bodySF (plainFor_of_name pn_java_lang_StringLatin1) hisR ?_
  intro p e s m args below meth c s₁ Bd hml0 hP hK
  obtain ⟨rfl, hZ, hh⟩ := hP
  have hx := Bd.exec
  have hby := Bd.bytes
  have hml : c.maxLocals = 2 := hml0
  have hown : s.vm.findClass "java/lang/StringLatin1" = some m.cls := findClass_of_methodNamed Bd.named
  have hnm := (name_of_methodNamed Bd.named Bd.method).1
  have X0 : Stand p l e ({ frames := 2, cells := 0, slots := 0, locals := 27 } : Room) s m #[(.ref t1), (.int i1)] below meth c s₁ [] 0 0 := Stand.of_body Bd
  have e0 : s₁.heap = h0 := by rw [← hh, Bd.state]; rfl
  have N0 := Fr.nil n0
  have pre0 : ∀ t, Steps p.tables e below (s₁.setTop (mkF m 0 #[.val (.ref t1), .val (.int i1)] [])) t → Steps p.tables e below (s₁.setTop (entryFrame m #[(.ref t1), (.int i1)] 2)) t := fun t k => castTop (ef_LCh m t1 i1) k
  obtain ⟨c505, Ar505, -, S505, M505, -, -⟩ := id KA
  obtain ⟨_, _, ⟨T506, L506, k506, n506⟩, -, X506, ⟨Lc506, hQ506, l506, y506, z506⟩, st506⟩ := Jvm.LawKit.callS X0 hx (y := (⟨"java/lang/String", "checkIndex", "(II)V"⟩ : MethodName)) hown (mvT hZ (hw _ (List.mem_of_getElem? (i := 240) rfl))) (mvT hZ (hw _ (List.mem_of_getElem? (i := 241) rfl))) (mvT hZ (hw _ (List.mem_of_getElem? (i := 5) rfl))) (mvT hZ (hw _ (List.mem_of_getElem? (i := 242) rfl))) (by decide) (backOf (W := 0) (rmSCk l Z a0 hw [] i1 nb fm h0 n0 Z0 SFm rf hi0 hi1) hZ (hw _ (List.mem_of_getElem? (i := 242) rfl)) (hw _ (List.mem_of_getElem? (i := 5) rfl)) (by decide) (by decide)) (g := (mkF m 3 #[.val (.ref t1), .val (.int i1)] [(.int nb), (.int i1)])) rfl (by rw [hml]; rfl) (argsL := [(.int i1), (.int nb)]) (rest := []) (lenOf pd__II_V rfl) rfl (by show 2 * 0 + _ ≤ _; exact Nat.le_of_eq rfl) (hb hby d42_3) (fun _ _ => ⟨rfl, e0, (by decide : 0 + 0 ≤ _), (by decide : 0 + 0 ≤ _)⟩)
  dsimp only [Pt.U, Pt.locs, Pt.cells, Pt.slots] at X506 l506 y506 z506 st506 hQ506
  subst l506 y506 z506
  obtain ⟨rfl, N506q, EQ506⟩ := hQ506
  have N506 := Fr.app N0 N506q
  have Z506 : n0 ≤ T506.heap.size := by rw [EQ506]; exact Z0
  have K506 := own_keq EQ506 (Keep.refl h0 [])
  have f507 := (EQ506 ▸ KA)
  obtain ⟨c508, Ar508, q508, S508, M508, H508, G508⟩ := id f507
  have hin508 : ¬ (i1 < 0 ∨ c508.slots.size ≤ (i1).toNatClampNeg) := inb_of S508 ⟨hi0, hi1⟩
  have hat508 : c508.slots[(i1).toNatClampNeg]? = some (.int bt) := (H508 _ (Nat.lt_of_not_le fun y => hin508 (Or.inr y))).trans (congrArg some hbt)
  have pre509 : ∀ t, Steps p.tables e below (T506.setTop (mkF m 14 #[.val (.ref t1), .val (.int i1)] [(.int ((bt &&& (255 : Int32)).toUInt32.toUInt16.toUInt32.toInt32))])) t → Steps p.tables e below (s₁.setTop (mkF m 0 #[.val (.ref t1), .val (.int i1)] [])) t := by
    intro t kt
    show Steps p.tables e below (s₁.setTop (mkF m 0 #[.val (.ref t1), .val (.int i1)] [])) _
    refine XS.iloadN X0.here hx rfl (hb hby d42_0) rfl ?_
    show Steps p.tables e below (s₁.setTop (mkF m 1 #[.val (.ref t1), .val (.int i1)] [(.int i1)])) _
    refine XS.aloadN X0.here hx rfl (hb hby d42_1) rfl rfl ?_
    show Steps p.tables e below (s₁.setTop (mkF m 2 #[.val (.ref t1), .val (.int i1)] [(.ref t1), (.int i1)])) _
    refine X0.arraylength hx (by rw [e0]; exact Ar505.1) (State.isArrayOf_alike hZ.alike Ar505.2.1) (g := (mkF m 2 #[.val (.ref t1), .val (.int i1)] [(.ref t1), (.int i1)])) rfl rfl (hb hby d42_2) _ ?_
    rw [len_of S505 M505]
    show Steps p.tables e below (s₁.setTop (mkF m 3 #[.val (.ref t1), .val (.int i1)] [(.int nb), (.int i1)])) _
    refine st506 _ ?_
    show Steps p.tables e below (T506.setTop (mkF m 6 #[.val (.ref t1), .val (.int i1)] [])) _
    refine XS.aloadN X506.here hx rfl (hb hby d42_6) rfl rfl ?_
    show Steps p.tables e below (T506.setTop (mkF m 7 #[.val (.ref t1), .val (.int i1)] [(.ref t1)])) _
    refine XS.iloadN X506.here hx rfl (hb hby d42_7) rfl ?_
    show Steps p.tables e below (T506.setTop (mkF m 8 #[.val (.ref t1), .val (.int i1)] [(.int i1), (.ref t1)])) _
    refine X506.baloadBytes hx (j := i1) (v := (.int bt)) Ar508.1 (State.isArrayOf_alike hZ.alike Ar508.2.1) Ar508.2.2 hin508 hat508 (g := (mkF m 8 #[.val (.ref t1), .val (.int i1)] [(.int i1), (.ref t1)])) rfl rfl (hb hby d42_8) _ ?_
    show Steps p.tables e below (T506.setTop (mkF m 9 #[.val (.ref t1), .val (.int i1)] [(.int bt)])) _
    refine XS.sipush X506.here hx rfl (hb hby d42_9) ?_
    show Steps p.tables e below (T506.setTop (mkF m 12 #[.val (.ref t1), .val (.int i1)] [(.int (255 : Int32)), (.int bt)])) _
    refine XS.iand X506.here hx rfl (hb hby d42_12) rfl ?_
    show Steps p.tables e below (T506.setTop (mkF m 13 #[.val (.ref t1), .val (.int i1)] [(.int (bt &&& (255 : Int32)))])) _
    refine XS.i2c X506.here hx rfl (hb hby d42_13) rfl ?_
    exact kt
  obtain ⟨fs, hr, hrun, hended, hW, hsame⟩ := X506.leave (v := some (.int (nar .char ((bt &&& (255 : Int32)).toUInt32.toUInt16.toUInt32.toInt32)))) (fun h => by rw [Bd.returns] at h; cases h)
  refine ⟨_, _, (pre0 _ (pre509 _ ?_)), hrun, hended, _, _, rfl, ?_, ⟨_, rfl⟩, hW, hsame.mono (by decide) (by decide)⟩
  · show Steps p.tables e below (T506.setTop (mkF m 14 #[.val (.ref t1), .val (.int i1)] [(.int ((bt &&& (255 : Int32)).toUInt32.toUInt16.toUInt32.toInt32))])) _
    exact retN X506 hx (t := .char) Bd.returns (by simp) (hb hby d42_14) hr
  · show QLCh Z t1 kb nb vb i1 bt fm h0 n0 _ T506.heap _
    exact ⟨rfl, N506, by rw [EQ506]⟩
theorem ef_ChA (m : MethodId) (x0 : Addr) (x1 : Int32) : entryFrame m #[(.ref x0), (.int x1)] 2 = mkF m 0 #[.val (.ref x0), .val (.int x1)] [] := by (first | (simp [entryFrame, mkF, argsToLocals, Value.category]; done) | rfl)
def QChA (Z : State) (x1 : Addr) (t1 : Addr) (kb : ClassId) (nb : Int32) (vb : List Value) (i1 : Int32) (bt : Int32) (zc : Int32) (fm : Value) (h0 : Heap) (n0 : Nat) (v : Option Value) (h : Heap) (L : List Loc) : Prop := v = some (.int (nar .char (nar .char ((bt &&& (255 : Int32)).toUInt32.toUInt16.toUInt32.toInt32)))) ∧ Fr n0 L ∧ h = h0
theorem d40_0 : decode jdk_42_method_56_code 0 = .ok (.aload_n 0, 1) := by decide +kernel
theorem d40_1 : decode jdk_42_method_56_code 1 = .ok (.invokevirtual 492, 3) := by decide +kernel
theorem d40_4 : decode jdk_42_method_56_code 4 = .ok (.ifCond .eq 12, 3) := by decide +kernel
theorem d40_7 : decode jdk_42_method_56_code 7 = .ok (.aload_n 0, 1) := by decide +kernel
theorem d40_8 : decode jdk_42_method_56_code 8 = .ok (.getfield 9, 3) := by decide +kernel
theorem d40_11 : decode jdk_42_method_56_code 11 = .ok (.iload_n 1, 1) := by decide +kernel
theorem d40_12 : decode jdk_42_method_56_code 12 = .ok (.invokestatic 495, 3) := by decide +kernel
theorem pd___BI_C : parseMethodDescriptor "([BI)C" = some ⟨[(.array .byte), .int], some .char⟩ := by decide +kernel
theorem d40_15 : decode jdk_42_method_56_code 15 = .ok (.ireturn, 1) := by decide +kernel
set_option maxRecDepth 65536 in
set_option maxHeartbeats 40000000 in
theorem rmChA (l : Launch) (Z : State) (a0 : Array Value) (hw : ∀ d ∈ tables_1, d.before a0 Z = true) (ws : List Jvm.Cond) (x1 : Addr) (t1 : Addr) (kb : ClassId) (nb : Int32) (vb : List Value) (i1 : Int32) (bt : Int32) (zc : Int32) (fm : Value) (h0 : Heap) (n0 : Nat) (Z0 : n0 ≤ h0.size) (SC : Sta Z h0 "java/lang/String" "COMPACT_STRINGS" "Z" (.int zc)) (hzc : ¬ zc = (0 : Int32)) (SFm : Sta Z h0 "jdk/internal/util/Preconditions" "SIOOBE_FORMATTER" "Ljava/util/function/BiFunction;" fm) (rf : fm.isRef = true) (FC : Fld Z h0 x1 "java/lang/String" "coder" "B" (.int (0 : Int32))) (FV : Fld Z h0 x1 "java/lang/String" "value" "[B" (.ref t1)) (EX : Exa Z h0 x1 "java/lang/String") (KA : Arv Z h0 t1 kb .byte nb vb (.int (0 : Int32))) (hi0 : ¬ i1 < (0 : Int32)) (hi1 : i1 < nb) (hbt : vb.getD i1.toNatClampNeg (.int (0 : Int32)) = .int bt) :
    MetFree l (⟨"java/lang/String", "charAt", "(I)C"⟩ : MethodName) (head1 (Jvm.Cond.code (⟨"java/lang/String", "charAt", "(I)C"⟩ : MethodName) jdk_42_method_56_code 2 (some .char) :: ws) ({ frames := 3, cells := 0, slots := 0, locals := 40 } : Room)) (fun a U => a = #[(.ref x1), (.int i1)] ∧ Z.Warmed39 U.vm ∧ U.heap = h0) (fun _ _ _ _ _ => True) (fun _ U o U' => ∃ v L, o = .returned v ∧ QChA Z x1 t1 kb nb vb i1 bt zc fm h0 n0 v U'.heap L ∧ FrameEnd U o U' L ({ frames := 3, cells := 0, slots := 0, locals := 40 } : Room).cells ({ frames := 3, cells := 0, slots := 0, locals := 40 } : Room).slots) := by
  refine MetFree.of_bodySF (plainFor_of_name pn_java_lang_String) hisR ?_
  intro p e s m args below meth c s₁ Bd hml0 hP hK
  obtain ⟨rfl, hZ, hh⟩ := hP
  have hx := Bd.exec
  have hby := Bd.bytes
  have hml : c.maxLocals = 2 := hml0
  have hown : s.vm.findClass "java/lang/String" = some m.cls := findClass_of_methodNamed Bd.named
  have hnm := (name_of_methodNamed Bd.named Bd.method).1
  have X0 : Stand p l e ({ frames := 3, cells := 0, slots := 0, locals := 40 } : Room) s m #[(.ref x1), (.int i1)] below meth c s₁ [] 0 0 := Stand.of_body Bd
  have e0 : s₁.heap = h0 := by rw [← hh, Bd.state]; rfl
  have N0 := Fr.nil n0
  have pre0 : ∀ t, Steps p.tables e below (s₁.setTop (mkF m 0 #[.val (.ref x1), .val (.int i1)] [])) t → Steps p.tables e below (s₁.setTop (entryFrame m #[(.ref x1), (.int i1)] 2)) t := fun t k => castTop (ef_ChA m x1 i1) k
  obtain ⟨cq510, kq510, q510a, q510b, q510c⟩ := isOf hZ e0 EX
  obtain ⟨_, _, ⟨T510, L510, k510, n510⟩, -, X510, ⟨Lc510, hQ510, l510, y510, z510⟩, st510⟩ := X0.virtualBack hx (y := (⟨"java/lang/String", "isLatin1", "()Z"⟩ : MethodName)) (z := (⟨"java/lang/String", "isLatin1", "()Z"⟩ : MethodName)) hown (mvT hZ (hw _ (List.mem_of_getElem? (i := 232) rfl))) (mvT hZ (hw _ (List.mem_of_getElem? (i := 233) rfl))) (notFace_of_selects (args := #[]) (mvT hZ (hw _ (List.mem_of_getElem? (i := 235) rfl)))) (mvT hZ (hw _ (List.mem_of_getElem? (i := 235) rfl))) (mvT hZ (hw _ (List.mem_of_getElem? (i := 234) rfl))) (by decide) (backOf (W := 0) (rmIsL l Z a0 hw [] x1 zc h0 n0 Z0 SC hzc FC) hZ (hw _ (List.mem_of_getElem? (i := 236) rfl)) (hw _ (List.mem_of_getElem? (i := 5) rfl)) (by decide) (by decide)) q510a q510c (g := (mkF m 1 #[.val (.ref x1), .val (.int i1)] [(.ref x1)])) rfl (by rw [hml]; rfl) (Steps.refl _) (argsL := []) (rest := []) (lenOf pd___Z rfl) rfl (by show 2 * 0 + _ ≤ _; exact Nat.le_of_eq rfl) (hb hby d40_1) (fun _ _ => ⟨rfl, e0, (by decide : 0 + 0 ≤ _), (by decide : 0 + 0 ≤ _)⟩)
  dsimp only [Pt.U, Pt.locs, Pt.cells, Pt.slots] at X510 l510 y510 z510 st510 hQ510
  subst l510 y510 z510
  obtain ⟨rfl, N510q, EQ510⟩ := hQ510
  have N510 := Fr.app N0 N510q
  have Z510 : n0 ≤ T510.heap.size := by rw [EQ510]; exact Z0
  have K510 := own_keq EQ510 (Keep.refl h0 [])
  have f511 := (EQ510 ▸ FV)
  obtain ⟨T512, X512, e512, st512⟩ := getF X510 hx hZ hown (host := "") (Or.inl (hw _ (List.mem_of_getElem? (i := 54) rfl))) Via.refl rfl f511 (g := (mkF m 8 #[.val (.ref x1), .val (.int i1)] [(.ref x1)])) rfl rfl (hb hby d40_8)
  have f513 := (EQ510 ▸ SFm)
  have f514 := (EQ510 ▸ KA)
  obtain ⟨_, _, ⟨T515, L515, k515, n515⟩, -, X515, ⟨Lc515, hQ515, l515, y515, z515⟩, st515⟩ := Jvm.LawKit.callS X512 hx (y := (⟨"java/lang/StringLatin1", "charAt", "([BI)C"⟩ : MethodName)) hown (mvT hZ (hw _ (List.mem_of_getElem? (i := 237) rfl))) (mvT hZ (hw _ (List.mem_of_getElem? (i := 238) rfl))) (mvT hZ (hw _ (List.mem_of_getElem? (i := 183) rfl))) (mvT hZ (hw _ (List.mem_of_getElem? (i := 239) rfl))) (by decide) (backOf (W := 0) (rmLCh l Z a0 hw [] t1 kb nb vb i1 bt fm T510.heap n0 Z510 f513 rf f514 hi0 hi1 hbt) hZ (hw _ (List.mem_of_getElem? (i := 239) rfl)) (hw _ (List.mem_of_getElem? (i := 183) rfl)) (by decide) (by decide)) (g := (mkF m 12 #[.val (.ref x1), .val (.int i1)] [(.int i1), (.ref t1)])) rfl (by rw [hml]; rfl) (argsL := [(.ref t1), (.int i1)]) (rest := []) (lenOf pd___BI_C rfl) rfl (by show 2 * 0 + _ ≤ _; exact Nat.le_of_eq rfl) (hb hby d40_12) (fun _ _ => ⟨rfl, e512, (by decide : 0 + 0 ≤ _), (by decide : 0 + 0 ≤ _)⟩)
  dsimp only [Pt.U, Pt.locs, Pt.cells, Pt.slots] at X515 l515 y515 z515 st515 hQ515
  subst l515 y515 z515
  obtain ⟨rfl, N515q, EQ515⟩ := hQ515
  have N515 := Fr.app N510 N515q
  have Z515 : n0 ≤ T515.heap.size := by rw [EQ515]; exact Z510
  have K515 := own_keq EQ515 K510
  have pre516 : ∀ t, Steps p.tables e below (T515.setTop (mkF m 15 #[.val (.ref x1), .val (.int i1)] [(.int (nar .char ((bt &&& (255 : Int32)).toUInt32.toUInt16.toUInt32.toInt32)))])) t → Steps p.tables e below (s₁.setTop (mkF m 0 #[.val (.ref x1), .val (.int i1)] [])) t := by
    intro t kt
    show Steps p.tables e below (s₁.setTop (mkF m 0 #[.val (.ref x1), .val (.int i1)] [])) _
    refine XS.aloadN X0.here hx rfl (hb hby d40_0) rfl rfl ?_
    show Steps p.tables e below (s₁.setTop (mkF m 1 #[.val (.ref x1), .val (.int i1)] [(.ref x1)])) _
    refine st510.trans ?_
    show Steps p.tables e below (T510.setTop (mkF m 4 #[.val (.ref x1), .val (.int i1)] [(.int (1 : Int32))])) _
    refine XS.ifNo X510.here hx rfl (hb hby d40_4) rfl ((if0 _ _).trans (feq (by decide : ¬ ((1 : Int32) = (0 : Int32)))).1) ?_
    show Steps p.tables e below (T510.setTop (mkF m 7 #[.val (.ref x1), .val (.int i1)] [])) _
    refine XS.aloadN X510.here hx rfl (hb hby d40_7) rfl rfl ?_
    show Steps p.tables e below (T510.setTop (mkF m 8 #[.val (.ref x1), .val (.int i1)] [(.ref x1)])) _
    refine st512 _ ?_
    show Steps p.tables e below (T512.setTop (mkF m 11 #[.val (.ref x1), .val (.int i1)] [(.ref t1)])) _
    refine XS.iloadN X512.here hx rfl (hb hby d40_11) rfl ?_
    show Steps p.tables e below (T512.setTop (mkF m 12 #[.val (.ref x1), .val (.int i1)] [(.int i1), (.ref t1)])) _
    refine st515 _ ?_
    exact kt
  obtain ⟨fs, hr, hrun, hended, hW, hsame⟩ := X515.leave (v := some (.int (nar .char (nar .char ((bt &&& (255 : Int32)).toUInt32.toUInt16.toUInt32.toInt32))))) (fun h => by rw [Bd.returns] at h; cases h)
  refine ⟨_, _, (pre0 _ (pre516 _ ?_)), hrun, hended, _, _, rfl, ?_, ⟨_, rfl⟩, hW, hsame.mono (by decide) (by decide)⟩
  · show Steps p.tables e below (T515.setTop (mkF m 15 #[.val (.ref x1), .val (.int i1)] [(.int (nar .char ((bt &&& (255 : Int32)).toUInt32.toUInt16.toUInt32.toInt32)))])) _
    exact retN X515 hx (t := .char) Bd.returns (by simp) (hb hby d40_15) hr
  · show QChA Z x1 t1 kb nb vb i1 bt zc fm h0 n0 _ T515.heap _
    exact ⟨rfl, N515, by rw [EQ515, EQ510]⟩
theorem ef_0 (m : MethodId) (x0 : Int32) (x1 : Int32) : entryFrame m #[(.int x0), (.int x1)] maxLocals = mkF m 0 #[.val (.int x0), .val (.int x1), .unset, .unset, .unset, .unset, .unset, .unset, .unset, .unset, .unset] [] := by (first | (simp [entryFrame, mkF, argsToLocals, Value.category, maxLocals]; done) | rfl)
def Q0 (Z : State) (p1 : Int32) (p2 : Int32) (zc : Int32) (fm : Value) (h0 : Heap) (n0 : Nat) (v : Option Value) (h : Heap) (L : List Loc) (vm : Vm) : Prop := v = some (.int (1 : Int32)) ∧ Fr n0 L
theorem pn_com_example_orbweaver_orbweaver_mapping_JavaSourceShallowerPinLaw : plainName "com/example/orbweaver/orbweaver/mapping/JavaSourceShallowerPinLaw" = true := by first | (simp [plainName, overriddenIn]; done) | decide +kernel
theorem pd__Ljava_lang_String_Ljava_lang_String__V : parseMethodDescriptor "(Ljava/lang/String;Ljava/lang/String;)V" = some ⟨[(.object "java/lang/String"), (.object "java/lang/String")], none⟩ := by decide +kernel
theorem pd__I_Lcom_example_orbweaver_orbweaver_mapping_JavaSource_ : parseMethodDescriptor "(I)Lcom/example/orbweaver/orbweaver/mapping/JavaSource;" = some ⟨[.int], some (.object "com/example/orbweaver/orbweaver/mapping/JavaSource")⟩ := by decide +kernel
theorem pd__I_C : parseMethodDescriptor "(I)C" = some ⟨[.int], some .char⟩ := by decide +kernel
set_option maxRecDepth 65536 in
set_option maxHeartbeats 40000000 in
theorem rm0 (l : Launch) (Z : State) (a0 : Array Value) (hw : ∀ d ∈ tables_1, d.before a0 Z = true) (ws : List Jvm.Cond) (p1 : Int32) (p2 : Int32) (zc : Int32) (fm : Value) (h0 : Heap) (n0 : Nat) (Z0 : n0 ≤ h0.size) (hEL : EW Z a0 EL) (OZ : Old Z n0 h0) (SC : Sta Z Z.heap "java/lang/String" "COMPACT_STRINGS" "Z" (.int zc)) (hzc : ¬ zc = (0 : Int32)) (SFm : Sta Z Z.heap "jdk/internal/util/Preconditions" "SIOOBE_FORMATTER" "Ljava/util/function/BiFunction;" fm) (rf : fm.isRef = true) :
    MetFree l x (head1 (Jvm.Cond.code x code maxLocals ret :: ws) room_1) (fun a U => a = #[(.int p1), (.int p2)] ∧ Z.Warmed39 U.vm ∧ U.heap = h0 ∧ CHv Z EL U.vm h0) (fun _ _ _ _ _ => True) (fun _ U o U' => ∃ v L, o = .returned v ∧ Q0 Z p1 p2 zc fm h0 n0 v U'.heap L U'.vm ∧ CHr Z EL U.vm U.heap U'.vm U'.heap ∧ ReturnedEndW U o U' L room_1.cells room_1.slots) := by
  refine MetFree.of_bodySF (plainFor_of_name pn_com_example_orbweaver_orbweaver_mapping_JavaSourceShallowerPinLaw) hisR ?_
  intro p e s m args below meth c s₁ Bd hml0 hP hK
  obtain ⟨rfl, hZ, hh, hCH⟩ := hP
  have hx := Bd.exec
  have hby := Bd.bytes
  have hml : c.maxLocals = 11 := hml0
  have hown : s.vm.findClass "com/example/orbweaver/orbweaver/mapping/JavaSourceShallowerPinLaw" = some m.cls := findClass_of_methodNamed Bd.named
  have hnm := (name_of_methodNamed Bd.named Bd.method).1
  have X0 : Stand p l e room_1 s m #[(.int p1), (.int p2)] below meth c s₁ [] 0 0 := Stand.of_body Bd
  have e0 : s₁.heap = h0 := by rw [← hh, Bd.state]; rfl
  have N0 := Fr.nil n0
  have pre0 : ∀ t, Steps p.tables e below (s₁.setTop (mkF m 0 #[.val (.int p1), .val (.int p2), .unset, .unset, .unset, .unset, .unset, .unset, .unset, .unset, .unset] [])) t → Steps p.tables e below (s₁.setTop (entryFrame m #[(.int p1), (.int p2)] maxLocals)) t := fun t k => castTop (ef_0 m p1 p2) k
  have X0 : Stand p l e room_1 (s.setVm s.vm) m #[(.int p1), (.int p2)] below meth c s₁ [] 0 0 := by rw [State.setVm_self]; exact X0
  have hZ : Z.Warmed39 (s.setVm s.vm).vm := hZ
  have hown : (s.setVm s.vm).vm.findClass "com/example/orbweaver/orbweaver/mapping/JavaSourceShallowerPinLaw" = some m.cls := hown
  have hSi0 : s.Since s.vm 0 := (State.WarmedH.refl s).since 0
  obtain ⟨dm, hdm, hdm31⟩ := own_d p1
  obtain ⟨ki, dn, hki, hdn39, edn⟩ := own_kk p2 hdm31
  obtain ⟨T517, h517, X517, e517, E517, A517, D517, -, st517⟩ := newO X0 hx hZ hown (hw _ (List.mem_of_getElem? (i := 1) rfl)) (hw _ (List.mem_of_getElem? (i := 2) rfl)) (hw _ (List.mem_of_getElem? (i := 3) rfl)) e0 (g := (mkF m 18 #[.val (.int p1), .val (.int p2), .val (.int (Int32.ofNat dm)), .val (.int ki), .unset, .unset, .unset, .unset, .unset, .unset, .unset] [])) rfl (hb hby at_18) (by decide) (by decide)
  obtain ⟨b517, g517⟩ : ∃ z, z = h0.size := ⟨_, rfl⟩
  rw [← g517] at A517 D517 st517
  have g_b517 : n0 ≤ b517 := Nat.le_trans Z0 (Nat.le_of_eq g517.symm)
  have sz_b517 : h0.size ≤ b517 := Nat.le_trans (Keep.refl h0 []).1 (Nat.le_of_eq g517.symm)
  have cs518 := CHr.ext E517 hCH
  have cr518 := (CHr.refl hCH).trans cs518
  have hk518 := Nat.le_trans (Nat.zero_le _) cs518.2.1
  have Z517 := Nat.le_trans Z0 E517.1
  have K517 := (Keep.refl h0 []).ext E517
  have F517_text : Fld Z h517 b517 "com/example/orbweaver/orbweaver/mapping/JavaSource" "text" "Ljava/lang/StringBuilder;" .null := D517 (Or.inr (hw _ (List.mem_of_getElem? (i := 37) rfl))) (ty := (.object "java/lang/StringBuilder")) (by decide)
  have F517_depth : Fld Z h517 b517 "com/example/orbweaver/orbweaver/mapping/JavaSource" "depth" "I" (.int (0 : Int32)) := D517 (Or.inl (hw _ (List.mem_of_getElem? (i := 164) rfl))) (ty := .int) (by decide)
  have pre519 : ∀ t, Steps p.tables e below (T517.setTop (mkF m 22 #[.val (.int p1), .val (.int p2), .val (.int (Int32.ofNat dm)), .val (.int ki), .unset, .unset, .unset, .unset, .unset, .unset, .unset] [(.ref b517), (.ref b517)])) t → Steps p.tables e below (s₁.setTop (mkF m 0 #[.val (.int p1), .val (.int p2), .unset, .unset, .unset, .unset, .unset, .unset, .unset, .unset, .unset] [])) t := by
    intro t kt
    show Steps p.tables e below (s₁.setTop (mkF m 0 #[.val (.int p1), .val (.int p2), .unset, .unset, .unset, .unset, .unset, .unset, .unset, .unset, .unset] [])) _
    refine XS.iloadN X0.here hx rfl (hb hby at_0) rfl ?_
    show Steps p.tables e below (s₁.setTop (mkF m 1 #[.val (.int p1), .val (.int p2), .unset, .unset, .unset, .unset, .unset, .unset, .unset, .unset, .unset] [(.int p1)])) _
    refine XS.bipush X0.here hx rfl (hb hby at_1) ?_
    show Steps p.tables e below (s₁.setTop (mkF m 3 #[.val (.int p1), .val (.int p2), .unset, .unset, .unset, .unset, .unset, .unset, .unset, .unset, .unset] [(.int (31 : Int32)), (.int p1)])) _
    refine XS.iand X0.here hx rfl (hb hby at_3) rfl ?_
    show Steps p.tables e below (s₁.setTop (mkF m 4 #[.val (.int p1), .val (.int p2), .unset, .unset, .unset, .unset, .unset, .unset, .unset, .unset, .unset] [(.int (p1 &&& (31 : Int32)))])) _
    rw [hdm]
    show Steps p.tables e below (s₁.setTop (mkF m 4 #[.val (.int p1), .val (.int p2), .unset, .unset, .unset, .unset, .unset, .unset, .unset, .unset, .unset] [(.int (Int32.ofNat dm))])) _
    refine XS.istoreN X0.here hx rfl (hb hby at_4) rfl (l' := #[.val (.int p1), .val (.int p2), .val (.int (Int32.ofNat dm)), .unset, .unset, .unset, .unset, .unset, .unset, .unset, .unset]) rfl ?_
    show Steps p.tables e below (s₁.setTop (mkF m 5 #[.val (.int p1), .val (.int p2), .val (.int (Int32.ofNat dm)), .unset, .unset, .unset, .unset, .unset, .unset, .unset, .unset] [])) _
    refine XS.iloadN X0.here hx rfl (hb hby at_5) rfl ?_
    show Steps p.tables e below (s₁.setTop (mkF m 6 #[.val (.int p1), .val (.int p2), .val (.int (Int32.ofNat dm)), .unset, .unset, .unset, .unset, .unset, .unset, .unset, .unset] [(.int p2)])) _
    refine X0.ldcInt hx hown (mvT hZ (hw _ (List.mem_of_getElem? (i := 0) rfl))) (g := (mkF m 6 #[.val (.int p1), .val (.int p2), .val (.int (Int32.ofNat dm)), .unset, .unset, .unset, .unset, .unset, .unset, .unset, .unset] [(.int p2)])) rfl (hb hby at_6) _ ?_
    show Steps p.tables e below (s₁.setTop (mkF m 8 #[.val (.int p1), .val (.int p2), .val (.int (Int32.ofNat dm)), .unset, .unset, .unset, .unset, .unset, .unset, .unset, .unset] [(.int (2147483647 : Int32)), (.int p2)])) _
    refine XS.iand X0.here hx rfl (hb hby at_8) rfl ?_
    show Steps p.tables e below (s₁.setTop (mkF m 9 #[.val (.int p1), .val (.int p2), .val (.int (Int32.ofNat dm)), .unset, .unset, .unset, .unset, .unset, .unset, .unset, .unset] [(.int (p2 &&& (2147483647 : Int32)))])) _
    refine XS.iloadN X0.here hx rfl (hb hby at_9) rfl ?_
    show Steps p.tables e below (s₁.setTop (mkF m 10 #[.val (.int p1), .val (.int p2), .val (.int (Int32.ofNat dm)), .unset, .unset, .unset, .unset, .unset, .unset, .unset, .unset] [(.int (Int32.ofNat dm)), (.int (p2 &&& (2147483647 : Int32)))])) _
    refine XS.bipush X0.here hx rfl (hb hby at_10) ?_
    show Steps p.tables e below (s₁.setTop (mkF m 12 #[.val (.int p1), .val (.int p2), .val (.int (Int32.ofNat dm)), .unset, .unset, .unset, .unset, .unset, .unset, .unset, .unset] [(.int (9 : Int32)), (.int (Int32.ofNat dm)), (.int (p2 &&& (2147483647 : Int32)))])) _
    refine XS.iadd X0.here hx rfl (hb hby at_12) rfl ?_
    show Steps p.tables e below (s₁.setTop (mkF m 13 #[.val (.int p1), .val (.int p2), .val (.int (Int32.ofNat dm)), .unset, .unset, .unset, .unset, .unset, .unset, .unset, .unset] [(.int ((Int32.ofNat dm) + (9 : Int32))), (.int (p2 &&& (2147483647 : Int32)))])) _
    refine iremM X0 hx rfl (hb hby at_13) rfl (own_nine hdm31) ?_
    show Steps p.tables e below (s₁.setTop (mkF m 14 #[.val (.int p1), .val (.int p2), .val (.int (Int32.ofNat dm)), .unset, .unset, .unset, .unset, .unset, .unset, .unset, .unset] [(.int ((p2 &&& (2147483647 : Int32)) % ((Int32.ofNat dm) + (9 : Int32))))])) _
    refine XS.bipush X0.here hx rfl (hb hby at_14) ?_
    show Steps p.tables e below (s₁.setTop (mkF m 16 #[.val (.int p1), .val (.int p2), .val (.int (Int32.ofNat dm)), .unset, .unset, .unset, .unset, .unset, .unset, .unset, .unset] [(.int (8 : Int32)), (.int ((p2 &&& (2147483647 : Int32)) % ((Int32.ofNat dm) + (9 : Int32))))])) _
    refine XS.isub X0.here hx rfl (hb hby at_16) rfl ?_
    show Steps p.tables e below (s₁.setTop (mkF m 17 #[.val (.int p1), .val (.int p2), .val (.int (Int32.ofNat dm)), .unset, .unset, .unset, .unset, .unset, .unset, .unset, .unset] [(.int (((p2 &&& (2147483647 : Int32)) % ((Int32.ofNat dm) + (9 : Int32))) - (8 : Int32)))])) _
    rw [hki]
    show Steps p.tables e below (s₁.setTop (mkF m 17 #[.val (.int p1), .val (.int p2), .val (.int (Int32.ofNat dm)), .unset, .unset, .unset, .unset, .unset, .unset, .unset, .unset] [(.int ki)])) _
    refine XS.istoreN X0.here hx rfl (hb hby at_17) rfl (l' := #[.val (.int p1), .val (.int p2), .val (.int (Int32.ofNat dm)), .val (.int ki), .unset, .unset, .unset, .unset, .unset, .unset, .unset]) rfl ?_
    show Steps p.tables e below (s₁.setTop (mkF m 18 #[.val (.int p1), .val (.int p2), .val (.int (Int32.ofNat dm)), .val (.int ki), .unset, .unset, .unset, .unset, .unset, .unset, .unset] [])) _
    refine st517 _ ?_
    show Steps p.tables e below (T517.setTop (mkF m 21 #[.val (.int p1), .val (.int p2), .val (.int (Int32.ofNat dm)), .val (.int ki), .unset, .unset, .unset, .unset, .unset, .unset, .unset] [(.ref b517)])) _
    refine XS.dup X517.here hx rfl (hb hby at_21) rfl rfl ?_
    exact kt
  have wS520 : ∀ a ∈ Bundle.stringAtoms, a.before a0 Z = true := fun d hd => hw d ((by decide +kernel : ∀ d ∈ Bundle.stringAtoms, d ∈ tables_1) d hd)
  obtain ⟨b520, T520, h520, k520, d520, kb520, X520, e520, E520, hSi520, hk520, hZ, hown, A520, FC520, FV520, V520, -, -, crs520, Lt520, nn520, st520⟩ := ldcCH (s := s) (vm0 := s.vm) X517 hx hZ hown (hw _ (List.mem_of_getElem? (i := 4) rfl)) wS520 e517 hSi0 hk518 hEL (by decide : ("com/example/orbweaver/orbweaver/mapping/JavaSourceShallowerPinLaw", 10) ∈ EL) cs518.1 (vs := []) (z := (0 : Int32)) ⟨by decide, rfl⟩ (by decide) (by decide) (g := (mkF m 22 #[.val (.int p1), .val (.int p2), .val (.int (Int32.ofNat dm)), .val (.int ki), .unset, .unset, .unset, .unset, .unset, .unset, .unset] [(.ref b517), (.ref b517)])) rfl (hb hby at_22) (n := 0) (by decide) (by decide) (by decide) (by decide)
  have cs521 := crs520
  have cr521 := cr518.trans cs521
  have Z520 := Nat.le_trans Z517 E520.1
  have K520 := K517.ext E520
  have f522 := (A517.ext E520)
  have ne_b517_b520 : b517 ≠ b520 := f522.ne A520 (by decide)
  have ne_b517_d520 : b517 ≠ d520 := f522.neArv V520 (hw _ (List.mem_of_getElem? (i := 2) rfl))
  have pre523 : ∀ t, Steps p.tables e below (T520.setTop (mkF m 24 #[.val (.int p1), .val (.int p2), .val (.int (Int32.ofNat dm)), .val (.int ki), .unset, .unset, .unset, .unset, .unset, .unset, .unset] [(.ref b520), (.ref b517), (.ref b517)])) t → Steps p.tables e below (T517.setTop (mkF m 22 #[.val (.int p1), .val (.int p2), .val (.int (Int32.ofNat dm)), .val (.int ki), .unset, .unset, .unset, .unset, .unset, .unset, .unset] [(.ref b517), (.ref b517)])) t := by
    intro t kt
    show Steps p.tables e below (T517.setTop (mkF m 22 #[.val (.int p1), .val (.int p2), .val (.int (Int32.ofNat dm)), .val (.int ki), .unset, .unset, .unset, .unset, .unset, .unset, .unset] [(.ref b517), (.ref b517)])) _
    refine st520 _ ?_
    exact kt
  have wS524 : ∀ a ∈ Bundle.stringAtoms, a.before a0 Z = true := fun d hd => hw d ((by decide +kernel : ∀ d ∈ Bundle.stringAtoms, d ∈ tables_1) d hd)
  obtain ⟨b524, T524, h524, k524, d524, kb524, X524, e524, E524, hSi524, hk524, hZ, hown, A524, FC524, FV524, V524, -, -, crs524, Lt524, nn524, st524⟩ := ldcCH (s := s) (vm0 := T520.vm) X520 hx hZ hown (hw _ (List.mem_of_getElem? (i := 4) rfl)) wS524 e520 hSi520 hk520 hEL (by decide : ("com/example/orbweaver/orbweaver/mapping/JavaSourceShallowerPinLaw", 10) ∈ EL) cs521.1 (vs := []) (z := (0 : Int32)) ⟨by decide, rfl⟩ (by decide) (by decide) (g := (mkF m 24 #[.val (.int p1), .val (.int p2), .val (.int (Int32.ofNat dm)), .val (.int ki), .unset, .unset, .unset, .unset, .unset, .unset, .unset] [(.ref b520), (.ref b517), (.ref b517)])) rfl (hb hby at_24) (n := 0) (by decide) (by decide) (by decide) (by decide)
  have cs525 := crs524
  have cr525 := cr521.trans cs525
  have Z524 := Nat.le_trans Z520 E524.1
  have K524 := K520.ext E524
  have f526 := (f522.ext E524)
  have ne_b517_b524 : b517 ≠ b524 := f526.ne A524 (by decide)
  have ne_b517_d524 : b517 ≠ d524 := f526.neArv V524 (hw _ (List.mem_of_getElem? (i := 2) rfl))
  have f527 := ((F517_text.ext E520).ext E524)
  have f528 := ((F517_depth.ext E520).ext E524)
  have f529 := (A520.ext E524)
  have f530 := (FV520.ext E524)
  have f531 := (FC520.ext E524)
  have f532 := (V520.ext E524)
  have f533 := (((OZ.ext E517).ext E520).ext E524)
  have pre534 : ∀ t, Steps p.tables e below (T524.setTop (mkF m 26 #[.val (.int p1), .val (.int p2), .val (.int (Int32.ofNat dm)), .val (.int ki), .unset, .unset, .unset, .unset, .unset, .unset, .unset] [(.ref b524), (.ref b520), (.ref b517), (.ref b517)])) t → Steps p.tables e below (T520.setTop (mkF m 24 #[.val (.int p1), .val (.int p2), .val (.int (Int32.ofNat dm)), .val (.int ki), .unset, .unset, .unset, .unset, .unset, .unset, .unset] [(.ref b520), (.ref b517), (.ref b517)])) t := by
    intro t kt
    show Steps p.tables e below (T520.setTop (mkF m 24 #[.val (.int p1), .val (.int p2), .val (.int (Int32.ofNat dm)), .val (.int ki), .unset, .unset, .unset, .unset, .unset, .unset, .unset] [(.ref b520), (.ref b517), (.ref b517)])) _
    refine st524 _ ?_
    exact kt
  obtain ⟨_, _, ⟨T535, L535, k535, n535⟩, -, X535, hs535, hg535, ⟨Lc535, hQ535, l535, y535, z535, crs535⟩, st535⟩ := X524.specialBackS hx (y := (⟨"com/example/orbweaver/orbweaver/mapping/JavaSource", "<init>", "(Ljava/lang/String;Ljava/lang/String;)V"⟩ : MethodName)) rfl hown (mvT hZ (hw _ (List.mem_of_getElem? (i := 12) rfl))) (mvT hZ (hw _ (List.mem_of_getElem? (i := 13) rfl))) (mvT hZ (hw _ (List.mem_of_getElem? (i := 14) rfl))) (by decide) (own_backS0 (s := s) (W := 1) (rmCtor l Z a0 hw [] b517 b520 d520 kb520 [] b524 d524 kb524 [] zc h524 n0 Z524 hEL f526 f527 f528 g_b517 f529 f530 f531 f532 rfl A524 FV524 V524 f533 SC hzc) hZ (hw _ (List.mem_of_getElem? (i := 14) rfl)) (hw _ (List.mem_of_getElem? (i := 3) rfl)) (by decide) (by decide) hEL cs525.1) (g := (mkF m 26 #[.val (.int p1), .val (.int p2), .val (.int (Int32.ofNat dm)), .val (.int ki), .unset, .unset, .unset, .unset, .unset, .unset, .unset] [(.ref b524), (.ref b520), (.ref b517), (.ref b517)])) rfl (by rw [hml]; rfl) (Steps.refl _) (a := b517) (argsL := [(.ref b520), (.ref b524)]) (rest := [(.ref b517)]) (lenOf pd__Ljava_lang_String_Ljava_lang_String__V rfl) rfl (by show 2 * 0 + _ ≤ _; exact Nat.le_of_eq rfl) (hb hby at_26) (fun _ _ => ⟨rfl, e524, (by decide : 5 + 22 ≤ _), (by decide : 10 + 3000 ≤ _)⟩)
  dsimp only [Pt.U, Pt.locs, Pt.cells, Pt.slots] at X535 l535 y535 z535 st535 hQ535 hs535 hg535 crs535
  subst l535 y535 z535
  obtain ⟨X535, hSi535, hZ, hown⟩ := rebS hSi524 (by rw [e524]; exact hk524) X535 hs535 hg535 hZ hown
  obtain ⟨rfl, N535q, KC535, b1, v1, k1, vs, ⟨JE1, JT1, JD1⟩, ⟨BE1, BV1, BC1, BN1, BA1, BX1⟩, hvl, lb1, lv1, y_v1⟩ := hQ535
  have N535 := Fr.app N0 N535q
  have g_b1 : n0 ≤ b1 := Nat.le_trans Z524 lb1
  have sz_b1 : h0.size ≤ b1 := Nat.le_trans K524.1 lb1
  have ne_b517_b1 : b517 ≠ b1 := Nat.ne_of_lt (Nat.lt_of_lt_of_le f526.lt lb1)
  have ne_b520_b1 : b520 ≠ b1 := Nat.ne_of_lt (Nat.lt_of_lt_of_le f529.lt lb1)
  have ne_b524_b1 : b524 ≠ b1 := Nat.ne_of_lt (Nat.lt_of_lt_of_le A524.lt lb1)
  have ne_d520_b1 : d520 ≠ b1 := Nat.ne_of_lt (Nat.lt_of_lt_of_le f532.lt lb1)
  have ne_d524_b1 : d524 ≠ b1 := Nat.ne_of_lt (Nat.lt_of_lt_of_le V524.lt lb1)
  have g_v1 : n0 ≤ v1 := Nat.le_trans Z524 lv1
  have sz_v1 : h0.size ≤ v1 := Nat.le_trans K524.1 lv1
  have ne_b517_v1 : b517 ≠ v1 := Nat.ne_of_lt (Nat.lt_of_lt_of_le f526.lt lv1)
  have ne_b520_v1 : b520 ≠ v1 := Nat.ne_of_lt (Nat.lt_of_lt_of_le f529.lt lv1)
  have ne_b524_v1 : b524 ≠ v1 := Nat.ne_of_lt (Nat.lt_of_lt_of_le A524.lt lv1)
  have ne_d520_v1 : d520 ≠ v1 := Nat.ne_of_lt (Nat.lt_of_lt_of_le f532.lt lv1)
  have ne_d524_v1 : d524 ≠ v1 := Nat.ne_of_lt (Nat.lt_of_lt_of_le V524.lt lv1)
  have cs536 := crs535
  have cr536 := cr525.trans cs536
  have Z535 := Nat.le_trans Z524 KC535.1
  have K535 := K524.trans KC535 (allS (Or.inr sz_b517) all0)
  have ne_b1_v1 : b1 ≠ v1 := BE1.neArv BA1 (hw _ (List.mem_of_getElem? (i := 19) rfl))
  obtain ⟨LL537, XL537, NL537⟩ : ∃ LL, Stand p l e room_1 (s.setVm T535.vm) m #[(.int p1), (.int p2)] below meth c T535 LL 27 3010 ∧ Fr n0 LL := ⟨_, X535, N535⟩
  obtain ⟨cq538, kq538, q538a, q538b, q538c⟩ := isOf hZ rfl JE1
  obtain ⟨_, _, ⟨T538, L538, k538, n538⟩, -, X538, ⟨Lc538, hQ538, l538, y538, z538⟩, st538⟩ := XL537.virtualBack hx (y := (⟨"com/example/orbweaver/orbweaver/mapping/JavaSource", "deeper", "(I)Lcom/example/orbweaver/orbweaver/mapping/JavaSource;"⟩ : MethodName)) (z := (⟨"com/example/orbweaver/orbweaver/mapping/JavaSource", "deeper", "(I)Lcom/example/orbweaver/orbweaver/mapping/JavaSource;"⟩ : MethodName)) hown (mvT hZ (hw _ (List.mem_of_getElem? (i := 195) rfl))) (mvT hZ (hw _ (List.mem_of_getElem? (i := 196) rfl))) (notFace_of_selects (args := #[]) (mvT hZ (hw _ (List.mem_of_getElem? (i := 198) rfl)))) (mvT hZ (hw _ (List.mem_of_getElem? (i := 198) rfl))) (mvT hZ (hw _ (List.mem_of_getElem? (i := 197) rfl))) (by decide) (backOf (W := 0) (rmdeeper l Z a0 hw [] b517 b1 (0 : Int32) (Int32.ofNat dm) T535.heap n0 Z535 JE1 JT1 JD1 g_b517) hZ (hw _ (List.mem_of_getElem? (i := 199) rfl)) (hw _ (List.mem_of_getElem? (i := 3) rfl)) (by decide) (by decide)) q538a q538c (g := (mkF m 34 #[.val (.int p1), .val (.int p2), .val (.int (Int32.ofNat dm)), .val (.int ki), .val (.ref b517), .unset, .unset, .unset, .unset, .unset, .unset] [(.int (Int32.ofNat dm)), (.ref b517)])) rfl (by rw [hml]; rfl) (Steps.refl _) (argsL := [(.int (Int32.ofNat dm))]) (rest := []) (lenOf pd__I_Lcom_example_orbweaver_orbweaver_mapping_JavaSource_ rfl) rfl (by show 2 * 0 + _ ≤ _; exact Nat.le_of_eq rfl) (hb hby at_34) (fun _ _ => ⟨rfl, rfl, (by decide : 27 + 0 ≤ _), (by decide : 3010 + 0 ≤ _)⟩)
  dsimp only [Pt.U, Pt.locs, Pt.cells, Pt.slots] at X538 l538 y538 z538 st538 hQ538
  subst l538 y538 z538
  obtain ⟨rfl, N538q, KC538, JE2, JT2, JD2⟩ := hQ538
  have N538 := Fr.app NL537 N538q
  have cs539 := CHr.keep KC538 (allS (Safe.exa (EL := EL) hZ.alike JE1 (by decide) (by decide)) all0) cs536.1
  have cr539 := cr536.trans cs539
  have y539_v1 := cs539.safe BA1.lt y_v1
  have hk539 := Nat.le_trans (Nat.le_refl _) cs539.2.1
  have Z538 := Nat.le_trans Z535 KC538.1
  have K538 := K535.trans KC538 (allS (Or.inr sz_b517) all0)
  have f540 := (BE1.keep KC538)
  have f541 := (BV1.keep KC538 (ninS (Ne.symm ne_b517_b1) nin0))
  have f542 := (BC1.keep KC538 (ninS (Ne.symm ne_b517_b1) nin0))
  have f543 := (BN1.keep KC538 (ninS (Ne.symm ne_b517_b1) nin0))
  have f544 := (BA1.keep KC538 (ninS (Ne.symm ne_b517_v1) nin0))
  have f545 := (BX1.keep KC538)
  have f546 := ((f533.keep KC535 (allS g_b517 all0)).keep KC538 (allS g_b517 all0))
  obtain ⟨cq547, kq547, q547a, q547b, q547c⟩ := isOf hZ rfl JE2
  obtain ⟨_, _, ⟨T547, L547, k547, n547⟩, -, X547, ⟨Lc547, hQ547, l547, y547, z547⟩, st547⟩ := X538.virtualBack hx (y := (⟨"com/example/orbweaver/orbweaver/mapping/JavaSource", "toString", "()Ljava/lang/String;"⟩ : MethodName)) (z := (⟨"com/example/orbweaver/orbweaver/mapping/JavaSource", "toString", "()Ljava/lang/String;"⟩ : MethodName)) hown (mvT hZ (hw _ (List.mem_of_getElem? (i := 200) rfl))) (mvT hZ (hw _ (List.mem_of_getElem? (i := 201) rfl))) (notFace_of_selects (args := #[]) (mvT hZ (hw _ (List.mem_of_getElem? (i := 203) rfl)))) (mvT hZ (hw _ (List.mem_of_getElem? (i := 203) rfl))) (mvT hZ (hw _ (List.mem_of_getElem? (i := 202) rfl))) (by decide) (backOf (W := 0) (rmJToS l Z a0 hw [] b517 b1 v1 k1 (148) (75) vs zc T538.heap n0 Z538 JT2 f540 f541 f542 f543 f544 f545 hvl (by decide) g_b1 g_v1 (by decide) (by decide) f546 SC hzc) hZ (hw _ (List.mem_of_getElem? (i := 204) rfl)) (hw _ (List.mem_of_getElem? (i := 3) rfl)) (by decide) (by decide)) q547a q547c (g := (mkF m 40 #[.val (.int p1), .val (.int p2), .val (.int (Int32.ofNat dm)), .val (.int ki), .val (.ref b517), .unset, .unset, .unset, .unset, .unset, .unset] [(.ref b517)])) rfl (by rw [hml]; rfl) (Steps.refl _) (argsL := []) (rest := []) (lenOf pd___Ljava_lang_String_ rfl) rfl (by show 2 * 0 + _ ≤ _; exact Nat.le_of_eq rfl) (hb hby at_40) (fun _ _ => ⟨rfl, rfl, (by decide : 27 + 2 ≤ _), (by decide : 3010 + 260 ≤ _)⟩)
  dsimp only [Pt.U, Pt.locs, Pt.cells, Pt.slots] at X547 l547 y547 z547 st547 hQ547
  subst l547 y547 z547
  obtain ⟨x_a, rfl, N547q, EX547, le_a, t_a, k_a, ⟨E_a, V_a, C_a, A_a⟩, lt_a⟩ := hQ547
  have N547 := Fr.app N538 N547q
  have g_x_a : n0 ≤ x_a := Nat.le_trans Z538 le_a
  have sz_x_a : h0.size ≤ x_a := Nat.le_trans K538.1 le_a
  have ne_b1_x_a : b1 ≠ x_a := Nat.ne_of_lt (Nat.lt_of_lt_of_le f540.lt le_a)
  have ne_b517_x_a : b517 ≠ x_a := Nat.ne_of_lt (Nat.lt_of_lt_of_le JE2.lt le_a)
  have ne_v1_x_a : v1 ≠ x_a := Nat.ne_of_lt (Nat.lt_of_lt_of_le f544.lt le_a)
  have g_t_a : n0 ≤ t_a := Nat.le_trans Z538 lt_a
  have sz_t_a : h0.size ≤ t_a := Nat.le_trans K538.1 lt_a
  have ne_b1_t_a : b1 ≠ t_a := Nat.ne_of_lt (Nat.lt_of_lt_of_le f540.lt lt_a)
  have ne_b517_t_a : b517 ≠ t_a := Nat.ne_of_lt (Nat.lt_of_lt_of_le JE2.lt lt_a)
  have ne_v1_t_a : v1 ≠ t_a := Nat.ne_of_lt (Nat.lt_of_lt_of_le f544.lt lt_a)
  have cs548 := CHr.ext EX547 cs539.1
  have cr548 := cr539.trans cs548
  have y548_v1 := cs548.safe f544.lt y539_v1
  have hk548 := Nat.le_trans hk539 cs548.2.1
  have Z547 := Nat.le_trans Z538 EX547.1
  have K547 := K538.ext EX547
  have f549 := (f546.ext EX547)
  obtain ⟨cq550, kq550, q550a, q550b, q550c⟩ := isOf hZ rfl E_a
  obtain ⟨_, _, ⟨T550, L550, k550, n550⟩, -, X550, ⟨Lc550, hQ550, l550, y550, z550⟩, st550⟩ := X547.virtualBack hx (y := (⟨"java/lang/String", "length", "()I"⟩ : MethodName)) (z := (⟨"java/lang/String", "length", "()I"⟩ : MethodName)) hown (mvT hZ (hw _ (List.mem_of_getElem? (i := 211) rfl))) (mvT hZ (hw _ (List.mem_of_getElem? (i := 50) rfl))) (notFace_of_selects (args := #[]) (mvT hZ (hw _ (List.mem_of_getElem? (i := 52) rfl)))) (mvT hZ (hw _ (List.mem_of_getElem? (i := 52) rfl))) (mvT hZ (hw _ (List.mem_of_getElem? (i := 51) rfl))) (by decide) (backOf (W := 0) (rmLen l Z a0 hw [] x_a t_a k_a (Int32.ofNat (75)) (vs.take (75)) zc T547.heap n0 Z547 (SC.ext f549.2) hzc C_a V_a E_a A_a) hZ (hw _ (List.mem_of_getElem? (i := 53) rfl)) (hw _ (List.mem_of_getElem? (i := 5) rfl)) (by decide) (by decide)) q550a q550c (g := (mkF m 43 #[.val (.int p1), .val (.int p2), .val (.int (Int32.ofNat dm)), .val (.int ki), .val (.ref b517), .unset, .unset, .unset, .unset, .unset, .unset] [(.ref x_a)])) rfl (by rw [hml]; rfl) (Steps.refl _) (argsL := []) (rest := []) (lenOf pd___I rfl) rfl (by show 2 * 0 + _ ≤ _; exact Nat.le_of_eq rfl) (hb hby at_43) (fun _ _ => ⟨rfl, rfl, (by decide : 29 + 0 ≤ _), (by decide : 3270 + 0 ≤ _)⟩)
  dsimp only [Pt.U, Pt.locs, Pt.cells, Pt.slots] at X550 l550 y550 z550 st550 hQ550
  subst l550 y550 z550
  obtain ⟨rfl, N550q, EQ550⟩ := hQ550
  have N550 := Fr.app N547 N550q
  have f552 := (f544.ext EX547)
  have ch551 : CHv Z EL T535.vm T550.heap := by rw [EQ550]; exact cs548.1
  have cr551 : CHr Z EL s.vm h0 T535.vm T550.heap := by rw [EQ550]; exact cr548
  have y551_v1 : Safe Z EL T535.vm T550.heap v1 := by rw [EQ550]; exact y548_v1
  have hk551 : T535.heap.size ≤ T550.heap.size := by rw [EQ550]; exact hk548
  have Z550 : n0 ≤ T550.heap.size := by rw [EQ550]; exact Z547
  have K550 := own_keq EQ550 K547
  have f553 := (EQ550 ▸ (JE2.ext EX547))
  have f554 := (EQ550 ▸ (JT2.ext EX547))
  have f555 := (EQ550 ▸ (JD2.ext EX547))
  obtain ⟨cq556, kq556, q556a, q556b, q556c⟩ := isOf hZ rfl f553
  obtain ⟨_, _, ⟨T556, L556, k556, n556⟩, -, X556, ⟨Lc556, hQ556, l556, y556, z556⟩, st556⟩ := X550.virtualBack hx (y := (⟨"com/example/orbweaver/orbweaver/mapping/JavaSource", "shallower", "(I)Lcom/example/orbweaver/orbweaver/mapping/JavaSource;"⟩ : MethodName)) (z := (⟨"com/example/orbweaver/orbweaver/mapping/JavaSource", "shallower", "(I)Lcom/example/orbweaver/orbweaver/mapping/JavaSource;"⟩ : MethodName)) hown (mvT hZ (hw _ (List.mem_of_getElem? (i := 212) rfl))) (mvT hZ (hw _ (List.mem_of_getElem? (i := 213) rfl))) (notFace_of_selects (args := #[]) (mvT hZ (hw _ (List.mem_of_getElem? (i := 215) rfl)))) (mvT hZ (hw _ (List.mem_of_getElem? (i := 215) rfl))) (mvT hZ (hw _ (List.mem_of_getElem? (i := 214) rfl))) (by decide) (backOf (W := 0) (rmshallower l Z a0 hw [] b517 b1 ((0 : Int32) + (Int32.ofNat dm)) ki T550.heap n0 Z550 f553 f554 f555 g_b517) hZ (hw _ (List.mem_of_getElem? (i := 216) rfl)) (hw _ (List.mem_of_getElem? (i := 3) rfl)) (by decide) (by decide)) q556a q556c (g := (mkF m 51 #[.val (.int p1), .val (.int p2), .val (.int (Int32.ofNat dm)), .val (.int ki), .val (.ref b517), .val (.int (Int32.ofNat (75))), .unset, .unset, .unset, .unset, .unset] [(.int ki), (.ref b517)])) rfl (by rw [hml]; rfl) (Steps.refl _) (argsL := [(.int ki)]) (rest := []) (lenOf pd__I_Lcom_example_orbweaver_orbweaver_mapping_JavaSource_ rfl) rfl (by show 2 * 0 + _ ≤ _; exact Nat.le_of_eq rfl) (hb hby at_51) (fun _ _ => ⟨rfl, rfl, (by decide : 29 + 0 ≤ _), (by decide : 3270 + 0 ≤ _)⟩)
  dsimp only [Pt.U, Pt.locs, Pt.cells, Pt.slots] at X556 l556 y556 z556 st556 hQ556
  subst l556 y556 z556
  obtain ⟨rfl, N556q, KC556, JE3, JT3, JD3⟩ := hQ556
  have N556 := Fr.app N550 N556q
  have f558 := (EQ550 ▸ f552)
  have cs557 := CHr.keep KC556 (allS (Safe.exa (EL := EL) hZ.alike f553 (by decide) (by decide)) all0) ch551
  have cr557 := cr551.trans cs557
  have y557_v1 := cs557.safe f558.lt y551_v1
  have hk557 := Nat.le_trans hk551 cs557.2.1
  have Z556 := Nat.le_trans Z550 KC556.1
  have K556 := K550.trans KC556 (allS (Or.inr sz_b517) all0)
  have f559 := ((EQ550 ▸ (f540.ext EX547)).keep KC556)
  have f560 := ((EQ550 ▸ (f541.ext EX547)).keep KC556 (ninS (Ne.symm ne_b517_b1) nin0))
  have f561 := ((EQ550 ▸ (f542.ext EX547)).keep KC556 (ninS (Ne.symm ne_b517_b1) nin0))
  have f562 := ((EQ550 ▸ (f543.ext EX547)).keep KC556 (ninS (Ne.symm ne_b517_b1) nin0))
  have f563 := (f558.keep KC556 (ninS (Ne.symm ne_b517_v1) nin0))
  have f564 := ((EQ550 ▸ (f545.ext EX547)).keep KC556)
  have f565 := ((EQ550 ▸ f549).keep KC556 (allS g_b517 all0))
  obtain ⟨cq566, kq566, q566a, q566b, q566c⟩ := isOf hZ rfl JE3
  obtain ⟨_, _, ⟨T566, L566, k566, n566⟩, -, X566, ⟨Lc566, hQ566, l566, y566, z566⟩, st566⟩ := X556.virtualBack hx (y := (⟨"com/example/orbweaver/orbweaver/mapping/JavaSource", "toString", "()Ljava/lang/String;"⟩ : MethodName)) (z := (⟨"com/example/orbweaver/orbweaver/mapping/JavaSource", "toString", "()Ljava/lang/String;"⟩ : MethodName)) hown (mvT hZ (hw _ (List.mem_of_getElem? (i := 200) rfl))) (mvT hZ (hw _ (List.mem_of_getElem? (i := 201) rfl))) (notFace_of_selects (args := #[]) (mvT hZ (hw _ (List.mem_of_getElem? (i := 203) rfl)))) (mvT hZ (hw _ (List.mem_of_getElem? (i := 203) rfl))) (mvT hZ (hw _ (List.mem_of_getElem? (i := 202) rfl))) (by decide) (backOf (W := 0) (rmJToS l Z a0 hw [] b517 b1 v1 k1 (148) (75) vs zc T556.heap n0 Z556 JT3 f559 f560 f561 f562 f563 f564 hvl (by decide) g_b1 g_v1 (by decide) (by decide) f565 SC hzc) hZ (hw _ (List.mem_of_getElem? (i := 204) rfl)) (hw _ (List.mem_of_getElem? (i := 3) rfl)) (by decide) (by decide)) q566a q566c (g := (mkF m 58 #[.val (.int p1), .val (.int p2), .val (.int (Int32.ofNat dm)), .val (.int ki), .val (.ref b517), .val (.int (Int32.ofNat (75))), .val (.ref b517), .unset, .unset, .unset, .unset] [(.ref b517)])) rfl (by rw [hml]; rfl) (Steps.refl _) (argsL := []) (rest := []) (lenOf pd___Ljava_lang_String_ rfl) rfl (by show 2 * 0 + _ ≤ _; exact Nat.le_of_eq rfl) (hb hby at_58) (fun _ _ => ⟨rfl, rfl, (by decide : 29 + 2 ≤ _), (by decide : 3270 + 260 ≤ _)⟩)
  dsimp only [Pt.U, Pt.locs, Pt.cells, Pt.slots] at X566 l566 y566 z566 st566 hQ566
  subst l566 y566 z566
  obtain ⟨x_b, rfl, N566q, EX566, le_b, t_b, k_b, ⟨E_b, V_b, C_b, A_b⟩, lt_b⟩ := hQ566
  have N566 := Fr.app N556 N566q
  have g_x_b : n0 ≤ x_b := Nat.le_trans Z556 le_b
  have sz_x_b : h0.size ≤ x_b := Nat.le_trans K556.1 le_b
  have ne_b1_x_b : b1 ≠ x_b := Nat.ne_of_lt (Nat.lt_of_lt_of_le f559.lt le_b)
  have ne_b517_x_b : b517 ≠ x_b := Nat.ne_of_lt (Nat.lt_of_lt_of_le JE3.lt le_b)
  have ne_v1_x_b : v1 ≠ x_b := Nat.ne_of_lt (Nat.lt_of_lt_of_le f563.lt le_b)
  have g_t_b : n0 ≤ t_b := Nat.le_trans Z556 lt_b
  have sz_t_b : h0.size ≤ t_b := Nat.le_trans K556.1 lt_b
  have ne_b1_t_b : b1 ≠ t_b := Nat.ne_of_lt (Nat.lt_of_lt_of_le f559.lt lt_b)
  have ne_b517_t_b : b517 ≠ t_b := Nat.ne_of_lt (Nat.lt_of_lt_of_le JE3.lt lt_b)
  have ne_v1_t_b : v1 ≠ t_b := Nat.ne_of_lt (Nat.lt_of_lt_of_le f563.lt lt_b)
  have cs567 := CHr.ext EX566 cs557.1
  have cr567 := cr557.trans cs567
  have y567_v1 := cs567.safe f563.lt y557_v1
  have hk567 := Nat.le_trans hk557 cs567.2.1
  have Z566 := Nat.le_trans Z556 EX566.1
  have K566 := K556.ext EX566
  have f568 := (f565.ext EX566)
  obtain ⟨cq569, kq569, q569a, q569b, q569c⟩ := isOf hZ rfl E_b
  obtain ⟨_, _, ⟨T569, L569, k569, n569⟩, -, X569, ⟨Lc569, hQ569, l569, y569, z569⟩, st569⟩ := X566.virtualBack hx (y := (⟨"java/lang/String", "length", "()I"⟩ : MethodName)) (z := (⟨"java/lang/String", "length", "()I"⟩ : MethodName)) hown (mvT hZ (hw _ (List.mem_of_getElem? (i := 211) rfl))) (mvT hZ (hw _ (List.mem_of_getElem? (i := 50) rfl))) (notFace_of_selects (args := #[]) (mvT hZ (hw _ (List.mem_of_getElem? (i := 52) rfl)))) (mvT hZ (hw _ (List.mem_of_getElem? (i := 52) rfl))) (mvT hZ (hw _ (List.mem_of_getElem? (i := 51) rfl))) (by decide) (backOf (W := 0) (rmLen l Z a0 hw [] x_b t_b k_b (Int32.ofNat (75)) (vs.take (75)) zc T566.heap n0 Z566 (SC.ext f568.2) hzc C_b V_b E_b A_b) hZ (hw _ (List.mem_of_getElem? (i := 53) rfl)) (hw _ (List.mem_of_getElem? (i := 5) rfl)) (by decide) (by decide)) q569a q569c (g := (mkF m 61 #[.val (.int p1), .val (.int p2), .val (.int (Int32.ofNat dm)), .val (.int ki), .val (.ref b517), .val (.int (Int32.ofNat (75))), .val (.ref b517), .unset, .unset, .unset, .unset] [(.ref x_b)])) rfl (by rw [hml]; rfl) (Steps.refl _) (argsL := []) (rest := []) (lenOf pd___I rfl) rfl (by show 2 * 0 + _ ≤ _; exact Nat.le_of_eq rfl) (hb hby at_61) (fun _ _ => ⟨rfl, rfl, (by decide : 31 + 0 ≤ _), (by decide : 3530 + 0 ≤ _)⟩)
  dsimp only [Pt.U, Pt.locs, Pt.cells, Pt.slots] at X569 l569 y569 z569 st569 hQ569
  subst l569 y569 z569
  obtain ⟨rfl, N569q, EQ569⟩ := hQ569
  have N569 := Fr.app N566 N569q
  have f571 := (f563.ext EX566)
  have ch570 : CHv Z EL T535.vm T569.heap := by rw [EQ569]; exact cs567.1
  have cr570 : CHr Z EL s.vm h0 T535.vm T569.heap := by rw [EQ569]; exact cr567
  have y570_v1 : Safe Z EL T535.vm T569.heap v1 := by rw [EQ569]; exact y567_v1
  have hk570 : T535.heap.size ≤ T569.heap.size := by rw [EQ569]; exact hk567
  have Z569 : n0 ≤ T569.heap.size := by rw [EQ569]; exact Z566
  have K569 := own_keq EQ569 K566
  obtain ⟨LL572, XL572, NL572⟩ : ∃ LL, Stand p l e room_1 (s.setVm T535.vm) m #[(.int p1), (.int p2)] below meth c T569 LL 31 3530 ∧ Fr n0 LL := ⟨_, X569, N569⟩
  have ezd : ((0 : Int32) + Int32.ofNat dm) - ki = Int32.ofNat dn := by rw [Int32.zero_add]; exact edn
  have hcaps := own_caps hdn39
  obtain ⟨hcap1, hcap2, hcap3⟩ := hcaps
  have pre573 : ∀ t, Steps p.tables e below (T569.setTop (mkF m 68 #[.val (.int p1), .val (.int p2), .val (.int (Int32.ofNat dm)), .val (.int ki), .val (.ref b517), .val (.int (Int32.ofNat (75))), .val (.ref b517), .val (.int (Int32.ofNat (75))), .unset, .unset, .unset] [(.ref b517)])) t → Steps p.tables e below (T524.setTop (mkF m 26 #[.val (.int p1), .val (.int p2), .val (.int (Int32.ofNat dm)), .val (.int ki), .unset, .unset, .unset, .unset, .unset, .unset, .unset] [(.ref b524), (.ref b520), (.ref b517), (.ref b517)])) t := by
    intro t kt
    show Steps p.tables e below (T524.setTop (mkF m 26 #[.val (.int p1), .val (.int p2), .val (.int (Int32.ofNat dm)), .val (.int ki), .unset, .unset, .unset, .unset, .unset, .unset, .unset] [(.ref b524), (.ref b520), (.ref b517), (.ref b517)])) _
    refine st535.trans ?_
    show Steps p.tables e below (T535.setTop (mkF m 29 #[.val (.int p1), .val (.int p2), .val (.int (Int32.ofNat dm)), .val (.int ki), .unset, .unset, .unset, .unset, .unset, .unset, .unset] [(.ref b517)])) _
    refine XS.astore XL537.here hx rfl (hb hby at_29) rfl rfl (l' := #[.val (.int p1), .val (.int p2), .val (.int (Int32.ofNat dm)), .val (.int ki), .val (.ref b517), .unset, .unset, .unset, .unset, .unset, .unset]) rfl ?_
    show Steps p.tables e below (T535.setTop (mkF m 31 #[.val (.int p1), .val (.int p2), .val (.int (Int32.ofNat dm)), .val (.int ki), .val (.ref b517), .unset, .unset, .unset, .unset, .unset, .unset] [])) _
    refine XS.aload XL537.here hx rfl (hb hby at_31) rfl rfl ?_
    show Steps p.tables e below (T535.setTop (mkF m 33 #[.val (.int p1), .val (.int p2), .val (.int (Int32.ofNat dm)), .val (.int ki), .val (.ref b517), .unset, .unset, .unset, .unset, .unset, .unset] [(.ref b517)])) _
    refine XS.iloadN XL537.here hx rfl (hb hby at_33) rfl ?_
    show Steps p.tables e below (T535.setTop (mkF m 34 #[.val (.int p1), .val (.int p2), .val (.int (Int32.ofNat dm)), .val (.int ki), .val (.ref b517), .unset, .unset, .unset, .unset, .unset, .unset] [(.int (Int32.ofNat dm)), (.ref b517)])) _
    refine st538.trans ?_
    show Steps p.tables e below (T538.setTop (mkF m 37 #[.val (.int p1), .val (.int p2), .val (.int (Int32.ofNat dm)), .val (.int ki), .val (.ref b517), .unset, .unset, .unset, .unset, .unset, .unset] [(.ref b517)])) _
    refine XS.pop X538.here hx rfl (hb hby at_37) rfl rfl ?_
    show Steps p.tables e below (T538.setTop (mkF m 38 #[.val (.int p1), .val (.int p2), .val (.int (Int32.ofNat dm)), .val (.int ki), .val (.ref b517), .unset, .unset, .unset, .unset, .unset, .unset] [])) _
    refine XS.aload X538.here hx rfl (hb hby at_38) rfl rfl ?_
    show Steps p.tables e below (T538.setTop (mkF m 40 #[.val (.int p1), .val (.int p2), .val (.int (Int32.ofNat dm)), .val (.int ki), .val (.ref b517), .unset, .unset, .unset, .unset, .unset, .unset] [(.ref b517)])) _
    refine st547.trans ?_
    show Steps p.tables e below (T547.setTop (mkF m 43 #[.val (.int p1), .val (.int p2), .val (.int (Int32.ofNat dm)), .val (.int ki), .val (.ref b517), .unset, .unset, .unset, .unset, .unset, .unset] [(.ref x_a)])) _
    refine st550.trans ?_
    show Steps p.tables e below (T550.setTop (mkF m 46 #[.val (.int p1), .val (.int p2), .val (.int (Int32.ofNat dm)), .val (.int ki), .val (.ref b517), .unset, .unset, .unset, .unset, .unset, .unset] [(.int (Int32.ofNat (75)))])) _
    refine XS.istore X550.here hx rfl (hb hby at_46) rfl (l' := #[.val (.int p1), .val (.int p2), .val (.int (Int32.ofNat dm)), .val (.int ki), .val (.ref b517), .val (.int (Int32.ofNat (75))), .unset, .unset, .unset, .unset, .unset]) rfl ?_
    show Steps p.tables e below (T550.setTop (mkF m 48 #[.val (.int p1), .val (.int p2), .val (.int (Int32.ofNat dm)), .val (.int ki), .val (.ref b517), .val (.int (Int32.ofNat (75))), .unset, .unset, .unset, .unset, .unset] [])) _
    refine XS.aload X550.here hx rfl (hb hby at_48) rfl rfl ?_
    show Steps p.tables e below (T550.setTop (mkF m 50 #[.val (.int p1), .val (.int p2), .val (.int (Int32.ofNat dm)), .val (.int ki), .val (.ref b517), .val (.int (Int32.ofNat (75))), .unset, .unset, .unset, .unset, .unset] [(.ref b517)])) _
    refine XS.iloadN X550.here hx rfl (hb hby at_50) rfl ?_
    show Steps p.tables e below (T550.setTop (mkF m 51 #[.val (.int p1), .val (.int p2), .val (.int (Int32.ofNat dm)), .val (.int ki), .val (.ref b517), .val (.int (Int32.ofNat (75))), .unset, .unset, .unset, .unset, .unset] [(.int ki), (.ref b517)])) _
    refine st556.trans ?_
    show Steps p.tables e below (T556.setTop (mkF m 54 #[.val (.int p1), .val (.int p2), .val (.int (Int32.ofNat dm)), .val (.int ki), .val (.ref b517), .val (.int (Int32.ofNat (75))), .unset, .unset, .unset, .unset, .unset] [(.ref b517)])) _
    refine XS.astore X556.here hx rfl (hb hby at_54) rfl rfl (l' := #[.val (.int p1), .val (.int p2), .val (.int (Int32.ofNat dm)), .val (.int ki), .val (.ref b517), .val (.int (Int32.ofNat (75))), .val (.ref b517), .unset, .unset, .unset, .unset]) rfl ?_
    show Steps p.tables e below (T556.setTop (mkF m 56 #[.val (.int p1), .val (.int p2), .val (.int (Int32.ofNat dm)), .val (.int ki), .val (.ref b517), .val (.int (Int32.ofNat (75))), .val (.ref b517), .unset, .unset, .unset, .unset] [])) _
    refine XS.aload X556.here hx rfl (hb hby at_56) rfl rfl ?_
    show Steps p.tables e below (T556.setTop (mkF m 58 #[.val (.int p1), .val (.int p2), .val (.int (Int32.ofNat dm)), .val (.int ki), .val (.ref b517), .val (.int (Int32.ofNat (75))), .val (.ref b517), .unset, .unset, .unset, .unset] [(.ref b517)])) _
    refine st566.trans ?_
    show Steps p.tables e below (T566.setTop (mkF m 61 #[.val (.int p1), .val (.int p2), .val (.int (Int32.ofNat dm)), .val (.int ki), .val (.ref b517), .val (.int (Int32.ofNat (75))), .val (.ref b517), .unset, .unset, .unset, .unset] [(.ref x_b)])) _
    refine st569.trans ?_
    show Steps p.tables e below (T569.setTop (mkF m 64 #[.val (.int p1), .val (.int p2), .val (.int (Int32.ofNat dm)), .val (.int ki), .val (.ref b517), .val (.int (Int32.ofNat (75))), .val (.ref b517), .unset, .unset, .unset, .unset] [(.int (Int32.ofNat (75)))])) _
    refine XS.istore X569.here hx rfl (hb hby at_64) rfl (l' := #[.val (.int p1), .val (.int p2), .val (.int (Int32.ofNat dm)), .val (.int ki), .val (.ref b517), .val (.int (Int32.ofNat (75))), .val (.ref b517), .val (.int (Int32.ofNat (75))), .unset, .unset, .unset]) rfl ?_
    show Steps p.tables e below (T569.setTop (mkF m 66 #[.val (.int p1), .val (.int p2), .val (.int (Int32.ofNat dm)), .val (.int ki), .val (.ref b517), .val (.int (Int32.ofNat (75))), .val (.ref b517), .val (.int (Int32.ofNat (75))), .unset, .unset, .unset] [])) _
    refine XS.aload X569.here hx rfl (hb hby at_66) rfl rfl ?_
    exact kt
  have wS574 : ∀ a ∈ Bundle.stringAtoms, a.before a0 Z = true := fun d hd => hw d ((by decide +kernel : ∀ d ∈ Bundle.stringAtoms, d ∈ tables_1) d hd)
  obtain ⟨b574, T574, h574, k574, d574, kb574, X574, e574, E574, hSi574, hk574, hZ, hown, A574, FC574, FV574, V574, -, -, crs574, Lt574, nn574, st574⟩ := ldcCH (s := s) (vm0 := T535.vm) XL572 hx hZ hown (hw _ (List.mem_of_getElem? (i := 217) rfl)) wS574 rfl hSi535 hk570 hEL (by decide : ("com/example/orbweaver/orbweaver/mapping/JavaSourceShallowerPinLaw", 32) ∈ EL) ch570 (vs := [(.int (120 : Int32))]) (z := (1 : Int32)) ⟨by decide, rfl⟩ (by decide) (by decide) (g := (mkF m 68 #[.val (.int p1), .val (.int p2), .val (.int (Int32.ofNat dm)), .val (.int ki), .val (.ref b517), .val (.int (Int32.ofNat (75))), .val (.ref b517), .val (.int (Int32.ofNat (75))), .unset, .unset, .unset] [(.ref b517)])) rfl (hb hby at_68) (n := 4) (by decide) (by decide) (by decide) (by decide)
  have f576 := (EQ569 ▸ f571)
  have cs575 := crs574
  have cr575 := cr570.trans cs575
  have y575_v1 := cs575.safe f576.lt y570_v1
  have Z574 := Nat.le_trans Z569 E574.1
  have K574 := K569.ext E574
  obtain ⟨ne_v1_b574, ne_v1_d574⟩ := nn574 _ y575_v1
  have f577 := ((EQ569 ▸ (JE3.ext EX566)).ext E574)
  have ne_b517_b574 : b517 ≠ b574 := f577.ne A574 (by decide)
  have ne_b517_d574 : b517 ≠ d574 := f577.neArv V574 (hw _ (List.mem_of_getElem? (i := 2) rfl))
  have f578 := ((EQ569 ▸ (f559.ext EX566)).ext E574)
  have ne_b1_b574 : b1 ≠ b574 := f578.ne A574 (by decide)
  have ne_b1_d574 : b1 ≠ d574 := f578.neArv V574 (hw _ (List.mem_of_getElem? (i := 19) rfl))
  have f579 := ((EQ569 ▸ (JD3.ext EX566)).ext E574)
  have JDn : Fld Z h574 b517 "com/example/orbweaver/orbweaver/mapping/JavaSource" "depth" "I" (.int (Int32.ofNat (dn))) := by have q := f579; rw [ezd] at q; exact q
  have f580 := ((EQ569 ▸ (JT3.ext EX566)).ext E574)
  have f581 := ((EQ569 ▸ (f560.ext EX566)).ext E574)
  have f582 := ((EQ569 ▸ (f561.ext EX566)).ext E574)
  have f583 := ((EQ569 ▸ (f562.ext EX566)).ext E574)
  have f584 := (f576.ext E574)
  have f585 := ((EQ569 ▸ (f564.ext EX566)).ext E574)
  have f586 := ((EQ569 ▸ f568).ext E574)
  have pre587 : ∀ t, Steps p.tables e below (T574.setTop (mkF m 70 #[.val (.int p1), .val (.int p2), .val (.int (Int32.ofNat dm)), .val (.int ki), .val (.ref b517), .val (.int (Int32.ofNat (75))), .val (.ref b517), .val (.int (Int32.ofNat (75))), .unset, .unset, .unset] [(.ref b574), (.ref b517)])) t → Steps p.tables e below (T569.setTop (mkF m 68 #[.val (.int p1), .val (.int p2), .val (.int (Int32.ofNat dm)), .val (.int ki), .val (.ref b517), .val (.int (Int32.ofNat (75))), .val (.ref b517), .val (.int (Int32.ofNat (75))), .unset, .unset, .unset] [(.ref b517)])) t := by
    intro t kt
    show Steps p.tables e below (T569.setTop (mkF m 68 #[.val (.int p1), .val (.int p2), .val (.int (Int32.ofNat dm)), .val (.int ki), .val (.ref b517), .val (.int (Int32.ofNat (75))), .val (.ref b517), .val (.int (Int32.ofNat (75))), .unset, .unset, .unset] [(.ref b517)])) _
    refine st574 _ ?_
    exact kt
  obtain ⟨cq588, kq588, q588a, q588b, q588c⟩ := isOf hZ e574 f577
  obtain ⟨_, _, ⟨T588, L588, k588, n588⟩, -, X588, hs588, hg588, ⟨Lc588, hQ588, l588, y588, z588, crs588⟩, st588⟩ := X574.virtualBackS hx (y := (⟨"com/example/orbweaver/orbweaver/mapping/JavaSource", "line", "(Ljava/lang/String;)Lcom/example/orbweaver/orbweaver/mapping/JavaSource;"⟩ : MethodName)) (z := (⟨"com/example/orbweaver/orbweaver/mapping/JavaSource", "line", "(Ljava/lang/String;)Lcom/example/orbweaver/orbweaver/mapping/JavaSource;"⟩ : MethodName)) hown (mvT hZ (hw _ (List.mem_of_getElem? (i := 218) rfl))) (mvT hZ (hw _ (List.mem_of_getElem? (i := 158) rfl))) (notFace_of_selects (args := #[]) (mvT hZ (hw _ (List.mem_of_getElem? (i := 160) rfl)))) (mvT hZ (hw _ (List.mem_of_getElem? (i := 160) rfl))) (mvT hZ (hw _ (List.mem_of_getElem? (i := 159) rfl))) (by decide) (own_backS1 (s := s) (W := 0) (rmLine l Z a0 hw [] b517 b1 v1 k1 (148) (75) vs b574 d574 kb574 (1) [(.int (120 : Int32))] (dn) zc h574 n0 Z574 hEL f577 f580 JDn f578 f581 f582 f583 f584 f585 hvl (by decide) g_b1 g_v1 A574 FV574 FC574 V574 rfl (by decide) (Ne.symm ne_v1_d574) (by decide) (by omega) hcap1 hcap2 hcap3 (by omega) f586 SC hzc) hZ (hw _ (List.mem_of_getElem? (i := 161) rfl)) (hw _ (List.mem_of_getElem? (i := 3) rfl)) (by decide) (by decide) hEL cs575.1 f584.lt y575_v1) q588a q588c (g := (mkF m 70 #[.val (.int p1), .val (.int p2), .val (.int (Int32.ofNat dm)), .val (.int ki), .val (.ref b517), .val (.int (Int32.ofNat (75))), .val (.ref b517), .val (.int (Int32.ofNat (75))), .unset, .unset, .unset] [(.ref b574), (.ref b517)])) rfl (by rw [hml]; rfl) (Steps.refl _) (argsL := [(.ref b574)]) (rest := []) (lenOf pd__Ljava_lang_String__Lcom_example_orbweaver_orbweaver_mapping_JavaSource_ rfl) rfl (by show 2 * 0 + _ ≤ _; exact Nat.le_of_eq rfl) (hb hby at_70) (fun _ _ => ⟨rfl, e574, (by decide : 33 + 7 ≤ _), (by decide : 3538 + 1096 ≤ _)⟩)
  dsimp only [Pt.U, Pt.locs, Pt.cells, Pt.slots] at X588 l588 y588 z588 st588 hQ588 hs588 hg588 crs588
  subst l588 y588 z588
  obtain ⟨X588, hSi588, hZ, hown⟩ := rebS hSi574 (by rw [e574]; exact hk574) X588 hs588 hg588 hZ hown
  obtain ⟨rfl, N588q, KC588, v_c, k_c, ws_c, ⟨E_c, V_c, C_c, N_c, A_c, X_c⟩, l_c, tk_c, g_v_c, hv_c, y_c⟩ := hQ588
  have N588 := Fr.app NL572 N588q
  have cs589 := crs588
  have cr589 := cr575.trans cs589
  have y589_v1 := cs589.safe f584.lt y575_v1
  have Z588 := Nat.le_trans Z574 KC588.1
  have K588 := K574.trans KC588 (allS (Or.inr sz_b1) (allS (Or.inr sz_v1) all0))
  have sz_v_c : h0.size ≤ v_c := hv_c.elim (fun q => by rw [q]; exact sz_v1) (fun q => Nat.le_trans K574.1 q)
  have ne_b517_v_c : b517 ≠ v_c := hv_c.elim (fun q => by rw [q]; exact ne_b517_v1) (fun q => Nat.ne_of_lt (Nat.lt_of_lt_of_le f577.lt q))
  have ne_b574_v_c : b574 ≠ v_c := hv_c.elim (fun q => by rw [q]; exact (Ne.symm ne_v1_b574)) (fun q => Nat.ne_of_lt (Nat.lt_of_lt_of_le A574.lt q))
  have ne_d574_v_c : d574 ≠ v_c := hv_c.elim (fun q => by rw [q]; exact (Ne.symm ne_v1_d574)) (fun q => Nat.ne_of_lt (Nat.lt_of_lt_of_le V574.lt q))
  have hcp_c : own_gr (own_gr (own_gr (148) (75 + 4 * (dn))) (75 + 4 * (dn) + (1))) (75 + 4 * (dn) + (1) + 1) ≤ 1000 := own_grM (own_grM (own_grM (by decide) (by decide) hcap1) (by decide) hcap2) (by decide) hcap3
  have ne_b1_v_c : b1 ≠ v_c := E_c.neArv A_c (hw _ (List.mem_of_getElem? (i := 19) rfl))
  obtain ⟨LL590, XL590, NL590⟩ : ∃ LL, Stand p l e room_1 (s.setVm T588.vm) m #[(.int p1), (.int p2)] below meth c T588 LL 40 4634 ∧ Fr n0 LL := ⟨_, X588, N588⟩
  have f591 := (f580.keep KC588 (ninS ne_b517_b1 (ninS ne_b517_v1 nin0)))
  have f592 := (f586.keep KC588 (allS g_b1 (allS g_v1 all0)))
  have f594 := (f577.keep KC588)
  obtain ⟨cq593, kq593, q593a, q593b, q593c⟩ := isOf hZ rfl f594
  obtain ⟨_, _, ⟨T593, L593, k593, n593⟩, -, X593, ⟨Lc593, hQ593, l593, y593, z593⟩, st593⟩ := XL590.virtualBack hx (y := (⟨"com/example/orbweaver/orbweaver/mapping/JavaSource", "toString", "()Ljava/lang/String;"⟩ : MethodName)) (z := (⟨"com/example/orbweaver/orbweaver/mapping/JavaSource", "toString", "()Ljava/lang/String;"⟩ : MethodName)) hown (mvT hZ (hw _ (List.mem_of_getElem? (i := 200) rfl))) (mvT hZ (hw _ (List.mem_of_getElem? (i := 201) rfl))) (notFace_of_selects (args := #[]) (mvT hZ (hw _ (List.mem_of_getElem? (i := 203) rfl)))) (mvT hZ (hw _ (List.mem_of_getElem? (i := 203) rfl))) (mvT hZ (hw _ (List.mem_of_getElem? (i := 202) rfl))) (by decide) (backOf (W := 0) (rmJToS l Z a0 hw [] b517 b1 v_c k_c (own_gr (own_gr (own_gr (148) (75 + 4 * (dn))) (75 + 4 * (dn) + (1))) (75 + 4 * (dn) + (1) + 1)) (75 + 4 * (dn) + (1) + 1) ws_c zc T588.heap n0 Z588 f591 E_c V_c C_c N_c A_c X_c l_c hcp_c g_b1 g_v_c own_grle.1 (by omega) f592 SC hzc) hZ (hw _ (List.mem_of_getElem? (i := 204) rfl)) (hw _ (List.mem_of_getElem? (i := 3) rfl)) (by decide) (by decide)) q593a q593c (g := (mkF m 76 #[.val (.int p1), .val (.int p2), .val (.int (Int32.ofNat dm)), .val (.int ki), .val (.ref b517), .val (.int (Int32.ofNat (75))), .val (.ref b517), .val (.int (Int32.ofNat (75))), .unset, .unset, .unset] [(.ref b517)])) rfl (by rw [hml]; rfl) (Steps.refl _) (argsL := []) (rest := []) (lenOf pd___Ljava_lang_String_ rfl) rfl (by show 2 * 0 + _ ≤ _; exact Nat.le_of_eq rfl) (hb hby at_76) (fun _ _ => ⟨rfl, rfl, (by decide : 40 + 2 ≤ _), (by decide : 4634 + 260 ≤ _)⟩)
  dsimp only [Pt.U, Pt.locs, Pt.cells, Pt.slots] at X593 l593 y593 z593 st593 hQ593
  subst l593 y593 z593
  obtain ⟨x_d, rfl, N593q, EX593, le_d, t_d, k_d, ⟨E_d, V_d, C_d, A_d⟩, lt_d⟩ := hQ593
  have N593 := Fr.app NL590 N593q
  have g_x_d : n0 ≤ x_d := Nat.le_trans Z588 le_d
  have sz_x_d : h0.size ≤ x_d := Nat.le_trans K588.1 le_d
  have ne_b1_x_d : b1 ≠ x_d := Nat.ne_of_lt (Nat.lt_of_lt_of_le E_c.lt le_d)
  have ne_b517_x_d : b517 ≠ x_d := Nat.ne_of_lt (Nat.lt_of_lt_of_le f594.lt le_d)
  have ne_v_c_x_d : v_c ≠ x_d := Nat.ne_of_lt (Nat.lt_of_lt_of_le A_c.lt le_d)
  have g_t_d : n0 ≤ t_d := Nat.le_trans Z588 lt_d
  have sz_t_d : h0.size ≤ t_d := Nat.le_trans K588.1 lt_d
  have ne_b1_t_d : b1 ≠ t_d := Nat.ne_of_lt (Nat.lt_of_lt_of_le E_c.lt lt_d)
  have ne_b517_t_d : b517 ≠ t_d := Nat.ne_of_lt (Nat.lt_of_lt_of_le f594.lt lt_d)
  have ne_v_c_t_d : v_c ≠ t_d := Nat.ne_of_lt (Nat.lt_of_lt_of_le A_c.lt lt_d)
  have cs595 := CHr.ext EX593 cs589.1
  have cr595 := cr589.trans cs595
  have y595_v_c := cs595.safe A_c.lt y_c
  have hk595 := Nat.le_trans (Nat.le_refl _) cs595.2.1
  have Z593 := Nat.le_trans Z588 EX593.1
  have K593 := K588.ext EX593
  have f596 := (f592.ext EX593)
  obtain ⟨cq597, kq597, q597a, q597b, q597c⟩ := isOf hZ rfl E_d
  obtain ⟨_, _, ⟨T597, L597, k597, n597⟩, -, X597, ⟨Lc597, hQ597, l597, y597, z597⟩, st597⟩ := X593.virtualBack hx (y := (⟨"java/lang/String", "length", "()I"⟩ : MethodName)) (z := (⟨"java/lang/String", "length", "()I"⟩ : MethodName)) hown (mvT hZ (hw _ (List.mem_of_getElem? (i := 211) rfl))) (mvT hZ (hw _ (List.mem_of_getElem? (i := 50) rfl))) (notFace_of_selects (args := #[]) (mvT hZ (hw _ (List.mem_of_getElem? (i := 52) rfl)))) (mvT hZ (hw _ (List.mem_of_getElem? (i := 52) rfl))) (mvT hZ (hw _ (List.mem_of_getElem? (i := 51) rfl))) (by decide) (backOf (W := 0) (rmLen l Z a0 hw [] x_d t_d k_d (Int32.ofNat (75 + 4 * (dn) + (1) + 1)) (ws_c.take (75 + 4 * (dn) + (1) + 1)) zc T593.heap n0 Z593 (SC.ext f596.2) hzc C_d V_d E_d A_d) hZ (hw _ (List.mem_of_getElem? (i := 53) rfl)) (hw _ (List.mem_of_getElem? (i := 5) rfl)) (by decide) (by decide)) q597a q597c (g := (mkF m 115 #[.val (.int p1), .val (.int p2), .val (.int (Int32.ofNat dm)), .val (.int ki), .val (.ref b517), .val (.int (Int32.ofNat (75))), .val (.ref b517), .val (.int (Int32.ofNat (75))), .val (.ref x_d), .val (.int (Int32.ofNat dn)), .val (.int (Int32.ofNat (75 + 4 * dn)))] [(.ref x_d)])) rfl (by rw [hml]; rfl) (Steps.refl _) (argsL := []) (rest := []) (lenOf pd___I rfl) rfl (by show 2 * 0 + _ ≤ _; exact Nat.le_of_eq rfl) (hb hby at_115) (fun _ _ => ⟨rfl, rfl, (by decide : 42 + 0 ≤ _), (by decide : 4894 + 0 ≤ _)⟩)
  dsimp only [Pt.U, Pt.locs, Pt.cells, Pt.slots] at X597 l597 y597 z597 st597 hQ597
  subst l597 y597 z597
  obtain ⟨rfl, N597q, EQ597⟩ := hQ597
  have N597 := Fr.app N593 N597q
  have f599 := (A_c.ext EX593)
  have ch598 : CHv Z EL T588.vm T597.heap := by rw [EQ597]; exact cs595.1
  have cr598 : CHr Z EL s.vm h0 T588.vm T597.heap := by rw [EQ597]; exact cr595
  have y598_v_c : Safe Z EL T588.vm T597.heap v_c := by rw [EQ597]; exact y595_v_c
  have hk598 : T588.heap.size ≤ T597.heap.size := by rw [EQ597]; exact hk595
  have Z597 : n0 ≤ T597.heap.size := by rw [EQ597]; exact Z593
  have K597 := own_keq EQ597 K593
  have hA75 : (vs.take (75)).length = 75 := by rw [List.length_take, hvl]; decide
  have f600 := (EQ597 ▸ f596)
  have f601 := (EQ597 ▸ C_d)
  have f602 := (EQ597 ▸ V_d)
  have f603 := (EQ597 ▸ E_d)
  have f604 := (EQ597 ▸ A_d)
  obtain ⟨cq605, kq605, q605a, q605b, q605c⟩ := isOf hZ rfl f603
  obtain ⟨_, _, ⟨T605, L605, k605, n605⟩, -, X605, ⟨Lc605, hQ605, l605, y605, z605⟩, st605⟩ := X597.virtualBack hx (y := (⟨"java/lang/String", "charAt", "(I)C"⟩ : MethodName)) (z := (⟨"java/lang/String", "charAt", "(I)C"⟩ : MethodName)) hown (mvT hZ (hw _ (List.mem_of_getElem? (i := 227) rfl))) (mvT hZ (hw _ (List.mem_of_getElem? (i := 228) rfl))) (notFace_of_selects (args := #[]) (mvT hZ (hw _ (List.mem_of_getElem? (i := 230) rfl)))) (mvT hZ (hw _ (List.mem_of_getElem? (i := 230) rfl))) (mvT hZ (hw _ (List.mem_of_getElem? (i := 229) rfl))) (by decide) (backOf (W := 0) (rmChA l Z a0 hw [] x_d t_d k_d (Int32.ofNat (75 + 4 * (dn) + (1) + 1)) (ws_c.take (75 + 4 * (dn) + (1) + 1)) (Int32.ofNat (75 + 4 * dn)) (120 : Int32) zc fm T597.heap n0 Z597 (SC.ext f600.2) hzc (SFm.ext f600.2) rf f601 f602 f603 f604 (own_nn (by omega)) (by rw [own_lt (by omega) (by omega)]; omega) (by rw [own_nc (by omega), tk_c]; exact (own_get (A := vs.take (75)) (m := 4 * (dn)) (i := 0) hA75).1)) hZ (hw _ (List.mem_of_getElem? (i := 231) rfl)) (hw _ (List.mem_of_getElem? (i := 5) rfl)) (by decide) (by decide)) q605a q605c (g := (mkF m 131 #[.val (.int p1), .val (.int p2), .val (.int (Int32.ofNat dm)), .val (.int ki), .val (.ref b517), .val (.int (Int32.ofNat (75))), .val (.ref b517), .val (.int (Int32.ofNat (75))), .val (.ref x_d), .val (.int (Int32.ofNat dn)), .val (.int (Int32.ofNat (75 + 4 * dn)))] [(.int (Int32.ofNat (75 + 4 * dn))), (.ref x_d)])) rfl (by rw [hml]; rfl) (Steps.refl _) (argsL := [(.int (Int32.ofNat (75 + 4 * dn)))]) (rest := []) (lenOf pd__I_C rfl) rfl (by show 2 * 0 + _ ≤ _; exact Nat.le_of_eq rfl) (hb hby at_131) (fun _ _ => ⟨rfl, rfl, (by decide : 42 + 0 ≤ _), (by decide : 4894 + 0 ≤ _)⟩)
  dsimp only [Pt.U, Pt.locs, Pt.cells, Pt.slots] at X605 l605 y605 z605 st605 hQ605
  subst l605 y605 z605
  obtain ⟨rfl, N605q, EQ605⟩ := hQ605
  have N605 := Fr.app N597 N605q
  have f607 := (EQ597 ▸ f599)
  have ch606 : CHv Z EL T588.vm T605.heap := by rw [EQ605]; exact ch598
  have cr606 : CHr Z EL s.vm h0 T588.vm T605.heap := by rw [EQ605]; exact cr598
  have y606_v_c : Safe Z EL T588.vm T605.heap v_c := by rw [EQ605]; exact y598_v_c
  have hk606 : T588.heap.size ≤ T605.heap.size := by rw [EQ605]; exact hk598
  have Z605 : n0 ≤ T605.heap.size := by rw [EQ605]; exact Z597
  have K605 := own_keq EQ605 K597
  have f608 := (EQ605 ▸ f600)
  have f609 := (EQ605 ▸ f601)
  have f610 := (EQ605 ▸ f602)
  have f611 := (EQ605 ▸ f603)
  have f612 := (EQ605 ▸ f604)
  obtain ⟨cq613, kq613, q613a, q613b, q613c⟩ := isOf hZ rfl f611
  obtain ⟨_, _, ⟨T613, L613, k613, n613⟩, -, X613, ⟨Lc613, hQ613, l613, y613, z613⟩, st613⟩ := X605.virtualBack hx (y := (⟨"java/lang/String", "charAt", "(I)C"⟩ : MethodName)) (z := (⟨"java/lang/String", "charAt", "(I)C"⟩ : MethodName)) hown (mvT hZ (hw _ (List.mem_of_getElem? (i := 227) rfl))) (mvT hZ (hw _ (List.mem_of_getElem? (i := 228) rfl))) (notFace_of_selects (args := #[]) (mvT hZ (hw _ (List.mem_of_getElem? (i := 230) rfl)))) (mvT hZ (hw _ (List.mem_of_getElem? (i := 230) rfl))) (mvT hZ (hw _ (List.mem_of_getElem? (i := 229) rfl))) (by decide) (backOf (W := 0) (rmChA l Z a0 hw [] x_d t_d k_d (Int32.ofNat (75 + 4 * (dn) + (1) + 1)) (ws_c.take (75 + 4 * (dn) + (1) + 1)) (Int32.ofNat (75 + 4 * dn + 1)) (nar .byte ((10 : Int32).toInt8.toInt32)) zc fm T605.heap n0 Z605 (SC.ext f608.2) hzc (SFm.ext f608.2) rf f609 f610 f611 f612 (own_nn (by omega)) (by rw [own_lt (by omega) (by omega)]; omega) (by rw [own_nc (by omega), tk_c]; exact (own_get (A := vs.take (75)) (m := 4 * (dn)) (i := 0) hA75).2.1)) hZ (hw _ (List.mem_of_getElem? (i := 231) rfl)) (hw _ (List.mem_of_getElem? (i := 5) rfl)) (by decide) (by decide)) q613a q613c (g := (mkF m 147 #[.val (.int p1), .val (.int p2), .val (.int (Int32.ofNat dm)), .val (.int ki), .val (.ref b517), .val (.int (Int32.ofNat (75))), .val (.ref b517), .val (.int (Int32.ofNat (75))), .val (.ref x_d), .val (.int (Int32.ofNat dn)), .val (.int (Int32.ofNat (75 + 4 * dn)))] [(.int (Int32.ofNat (75 + 4 * dn + 1))), (.ref x_d)])) rfl (by rw [hml]; rfl) (Steps.refl _) (argsL := [(.int (Int32.ofNat (75 + 4 * dn + 1)))]) (rest := []) (lenOf pd__I_C rfl) rfl (by show 2 * 0 + _ ≤ _; exact Nat.le_of_eq rfl) (hb hby at_147) (fun _ _ => ⟨rfl, rfl, (by decide : 42 + 0 ≤ _), (by decide : 4894 + 0 ≤ _)⟩)
  dsimp only [Pt.U, Pt.locs, Pt.cells, Pt.slots] at X613 l613 y613 z613 st613 hQ613
  subst l613 y613 z613
  obtain ⟨rfl, N613q, EQ613⟩ := hQ613
  have N613 := Fr.app N605 N613q
  have f615 := (EQ605 ▸ f607)
  have ch614 : CHv Z EL T588.vm T613.heap := by rw [EQ613]; exact ch606
  have cr614 : CHr Z EL s.vm h0 T588.vm T613.heap := by rw [EQ613]; exact cr606
  have y614_v_c : Safe Z EL T588.vm T613.heap v_c := by rw [EQ613]; exact y606_v_c
  have hk614 : T588.heap.size ≤ T613.heap.size := by rw [EQ613]; exact hk606
  have Z613 : n0 ≤ T613.heap.size := by rw [EQ613]; exact Z605
  have K613 := own_keq EQ613 K605
  have pre616 : ∀ t, Steps p.tables e below (T613.setTop (mkF m 159 #[.val (.int p1), .val (.int p2), .val (.int (Int32.ofNat dm)), .val (.int ki), .val (.ref b517), .val (.int (Int32.ofNat (75))), .val (.ref b517), .val (.int (Int32.ofNat (75))), .val (.ref x_d), .val (.int (Int32.ofNat dn)), .val (.int (Int32.ofNat (75 + 4 * dn)))] [(.int (Int32.ofNat dn))])) t → Steps p.tables e below (T574.setTop (mkF m 70 #[.val (.int p1), .val (.int p2), .val (.int (Int32.ofNat dm)), .val (.int ki), .val (.ref b517), .val (.int (Int32.ofNat (75))), .val (.ref b517), .val (.int (Int32.ofNat (75))), .unset, .unset, .unset] [(.ref b574), (.ref b517)])) t := by
    intro t kt
    show Steps p.tables e below (T574.setTop (mkF m 70 #[.val (.int p1), .val (.int p2), .val (.int (Int32.ofNat dm)), .val (.int ki), .val (.ref b517), .val (.int (Int32.ofNat (75))), .val (.ref b517), .val (.int (Int32.ofNat (75))), .unset, .unset, .unset] [(.ref b574), (.ref b517)])) _
    refine st588.trans ?_
    show Steps p.tables e below (T588.setTop (mkF m 73 #[.val (.int p1), .val (.int p2), .val (.int (Int32.ofNat dm)), .val (.int ki), .val (.ref b517), .val (.int (Int32.ofNat (75))), .val (.ref b517), .val (.int (Int32.ofNat (75))), .unset, .unset, .unset] [(.ref b517)])) _
    refine XS.pop X588.here hx rfl (hb hby at_73) rfl rfl ?_
    show Steps p.tables e below (T588.setTop (mkF m 74 #[.val (.int p1), .val (.int p2), .val (.int (Int32.ofNat dm)), .val (.int ki), .val (.ref b517), .val (.int (Int32.ofNat (75))), .val (.ref b517), .val (.int (Int32.ofNat (75))), .unset, .unset, .unset] [])) _
    refine XS.aload X588.here hx rfl (hb hby at_74) rfl rfl ?_
    show Steps p.tables e below (T588.setTop (mkF m 76 #[.val (.int p1), .val (.int p2), .val (.int (Int32.ofNat dm)), .val (.int ki), .val (.ref b517), .val (.int (Int32.ofNat (75))), .val (.ref b517), .val (.int (Int32.ofNat (75))), .unset, .unset, .unset] [(.ref b517)])) _
    refine st593.trans ?_
    show Steps p.tables e below (T593.setTop (mkF m 79 #[.val (.int p1), .val (.int p2), .val (.int (Int32.ofNat dm)), .val (.int ki), .val (.ref b517), .val (.int (Int32.ofNat (75))), .val (.ref b517), .val (.int (Int32.ofNat (75))), .unset, .unset, .unset] [(.ref x_d)])) _
    refine XS.astore X593.here hx rfl (hb hby at_79) rfl rfl (l' := #[.val (.int p1), .val (.int p2), .val (.int (Int32.ofNat dm)), .val (.int ki), .val (.ref b517), .val (.int (Int32.ofNat (75))), .val (.ref b517), .val (.int (Int32.ofNat (75))), .val (.ref x_d), .unset, .unset]) rfl ?_
    show Steps p.tables e below (T593.setTop (mkF m 81 #[.val (.int p1), .val (.int p2), .val (.int (Int32.ofNat dm)), .val (.int ki), .val (.ref b517), .val (.int (Int32.ofNat (75))), .val (.ref b517), .val (.int (Int32.ofNat (75))), .val (.ref x_d), .unset, .unset] [])) _
    refine XS.iloadN X593.here hx rfl (hb hby at_81) rfl ?_
    show Steps p.tables e below (T593.setTop (mkF m 82 #[.val (.int p1), .val (.int p2), .val (.int (Int32.ofNat dm)), .val (.int ki), .val (.ref b517), .val (.int (Int32.ofNat (75))), .val (.ref b517), .val (.int (Int32.ofNat (75))), .val (.ref x_d), .unset, .unset] [(.int (Int32.ofNat dm))])) _
    refine XS.iloadN X593.here hx rfl (hb hby at_82) rfl ?_
    show Steps p.tables e below (T593.setTop (mkF m 83 #[.val (.int p1), .val (.int p2), .val (.int (Int32.ofNat dm)), .val (.int ki), .val (.ref b517), .val (.int (Int32.ofNat (75))), .val (.ref b517), .val (.int (Int32.ofNat (75))), .val (.ref x_d), .unset, .unset] [(.int ki), (.int (Int32.ofNat dm))])) _
    refine XS.isub X593.here hx rfl (hb hby at_83) rfl ?_
    show Steps p.tables e below (T593.setTop (mkF m 84 #[.val (.int p1), .val (.int p2), .val (.int (Int32.ofNat dm)), .val (.int ki), .val (.ref b517), .val (.int (Int32.ofNat (75))), .val (.ref b517), .val (.int (Int32.ofNat (75))), .val (.ref x_d), .unset, .unset] [(.int ((Int32.ofNat dm) - ki))])) _
    rw [edn]
    show Steps p.tables e below (T593.setTop (mkF m 84 #[.val (.int p1), .val (.int p2), .val (.int (Int32.ofNat dm)), .val (.int ki), .val (.ref b517), .val (.int (Int32.ofNat (75))), .val (.ref b517), .val (.int (Int32.ofNat (75))), .val (.ref x_d), .unset, .unset] [(.int (Int32.ofNat dn))])) _
    refine XS.istore X593.here hx rfl (hb hby at_84) rfl (l' := #[.val (.int p1), .val (.int p2), .val (.int (Int32.ofNat dm)), .val (.int ki), .val (.ref b517), .val (.int (Int32.ofNat (75))), .val (.ref b517), .val (.int (Int32.ofNat (75))), .val (.ref x_d), .val (.int (Int32.ofNat dn)), .unset]) rfl ?_
    show Steps p.tables e below (T593.setTop (mkF m 86 #[.val (.int p1), .val (.int p2), .val (.int (Int32.ofNat dm)), .val (.int ki), .val (.ref b517), .val (.int (Int32.ofNat (75))), .val (.ref b517), .val (.int (Int32.ofNat (75))), .val (.ref x_d), .val (.int (Int32.ofNat dn)), .unset] [])) _
    refine XS.iload X593.here hx rfl (hb hby at_86) rfl ?_
    show Steps p.tables e below (T593.setTop (mkF m 88 #[.val (.int p1), .val (.int p2), .val (.int (Int32.ofNat dm)), .val (.int ki), .val (.ref b517), .val (.int (Int32.ofNat (75))), .val (.ref b517), .val (.int (Int32.ofNat (75))), .val (.ref x_d), .val (.int (Int32.ofNat dn)), .unset] [(.int (Int32.ofNat (75)))])) _
    refine XS.iconst X593.here hx rfl (hb hby at_88) ?_
    show Steps p.tables e below (T593.setTop (mkF m 89 #[.val (.int p1), .val (.int p2), .val (.int (Int32.ofNat dm)), .val (.int ki), .val (.ref b517), .val (.int (Int32.ofNat (75))), .val (.ref b517), .val (.int (Int32.ofNat (75))), .val (.ref x_d), .val (.int (Int32.ofNat dn)), .unset] [(.int (4 : Int32)), (.int (Int32.ofNat (75)))])) _
    refine XS.iload X593.here hx rfl (hb hby at_89) rfl ?_
    show Steps p.tables e below (T593.setTop (mkF m 91 #[.val (.int p1), .val (.int p2), .val (.int (Int32.ofNat dm)), .val (.int ki), .val (.ref b517), .val (.int (Int32.ofNat (75))), .val (.ref b517), .val (.int (Int32.ofNat (75))), .val (.ref x_d), .val (.int (Int32.ofNat dn)), .unset] [(.int (Int32.ofNat dn)), (.int (4 : Int32)), (.int (Int32.ofNat (75)))])) _
    refine XS.imul X593.here hx rfl (hb hby at_91) rfl ?_
    show Steps p.tables e below (T593.setTop (mkF m 92 #[.val (.int p1), .val (.int p2), .val (.int (Int32.ofNat dm)), .val (.int ki), .val (.ref b517), .val (.int (Int32.ofNat (75))), .val (.ref b517), .val (.int (Int32.ofNat (75))), .val (.ref x_d), .val (.int (Int32.ofNat dn)), .unset] [(.int ((4 : Int32) * (Int32.ofNat dn))), (.int (Int32.ofNat (75)))])) _
    refine XS.iadd X593.here hx rfl (hb hby at_92) rfl ?_
    show Steps p.tables e below (T593.setTop (mkF m 93 #[.val (.int p1), .val (.int p2), .val (.int (Int32.ofNat dm)), .val (.int ki), .val (.ref b517), .val (.int (Int32.ofNat (75))), .val (.ref b517), .val (.int (Int32.ofNat (75))), .val (.ref x_d), .val (.int (Int32.ofNat dn)), .unset] [(.int ((Int32.ofNat (75)) + ((4 : Int32) * (Int32.ofNat dn))))])) _
    rw [show ((Int32.ofNat (75)) + ((4 : Int32) * (Int32.ofNat dn))) = Int32.ofNat (75 + 4 * dn) from by rw [show (4 : Int32) * Int32.ofNat dn = Int32.ofNat (4 * dn) from (Int32.ofNat_mul 4 dn).symm, own_add]]
    show Steps p.tables e below (T593.setTop (mkF m 93 #[.val (.int p1), .val (.int p2), .val (.int (Int32.ofNat dm)), .val (.int ki), .val (.ref b517), .val (.int (Int32.ofNat (75))), .val (.ref b517), .val (.int (Int32.ofNat (75))), .val (.ref x_d), .val (.int (Int32.ofNat dn)), .unset] [(.int (Int32.ofNat (75 + 4 * dn)))])) _
    refine XS.istore X593.here hx rfl (hb hby at_93) rfl (l' := #[.val (.int p1), .val (.int p2), .val (.int (Int32.ofNat dm)), .val (.int ki), .val (.ref b517), .val (.int (Int32.ofNat (75))), .val (.ref b517), .val (.int (Int32.ofNat (75))), .val (.ref x_d), .val (.int (Int32.ofNat dn)), .val (.int (Int32.ofNat (75 + 4 * dn)))]) rfl ?_
    show Steps p.tables e below (T593.setTop (mkF m 95 #[.val (.int p1), .val (.int p2), .val (.int (Int32.ofNat dm)), .val (.int ki), .val (.ref b517), .val (.int (Int32.ofNat (75))), .val (.ref b517), .val (.int (Int32.ofNat (75))), .val (.ref x_d), .val (.int (Int32.ofNat dn)), .val (.int (Int32.ofNat (75 + 4 * dn)))] [])) _
    refine XS.aload X593.here hx rfl (hb hby at_95) rfl rfl ?_
    show Steps p.tables e below (T593.setTop (mkF m 97 #[.val (.int p1), .val (.int p2), .val (.int (Int32.ofNat dm)), .val (.int ki), .val (.ref b517), .val (.int (Int32.ofNat (75))), .val (.ref b517), .val (.int (Int32.ofNat (75))), .val (.ref x_d), .val (.int (Int32.ofNat dn)), .val (.int (Int32.ofNat (75 + 4 * dn)))] [(.ref b517)])) _
    refine XS.aload X593.here hx rfl (hb hby at_97) rfl rfl ?_
    show Steps p.tables e below (T593.setTop (mkF m 99 #[.val (.int p1), .val (.int p2), .val (.int (Int32.ofNat dm)), .val (.int ki), .val (.ref b517), .val (.int (Int32.ofNat (75))), .val (.ref b517), .val (.int (Int32.ofNat (75))), .val (.ref x_d), .val (.int (Int32.ofNat dn)), .val (.int (Int32.ofNat (75 + 4 * dn)))] [(.ref b517), (.ref b517)])) _
    refine Jvm.RoadKit.acmp (g := (mkF m 99 #[.val (.int p1), .val (.int p2), .val (.int (Int32.ofNat dm)), .val (.int ki), .val (.ref b517), .val (.int (Int32.ofNat (75))), .val (.ref b517), .val (.int (Int32.ofNat (75))), .val (.ref x_d), .val (.int (Int32.ofNat dn)), .val (.int (Int32.ofNat (75 + 4 * dn)))] [(.ref b517), (.ref b517)])) X593 hx rfl rfl rfl (pc0 := 99) (pc' := 104) (same := true) rfl (hb hby at_99) rfl (decide_eq_true rfl) (by decide) (by decide) ?_
    show Steps p.tables e below (T593.setTop (mkF m 104 #[.val (.int p1), .val (.int p2), .val (.int (Int32.ofNat dm)), .val (.int ki), .val (.ref b517), .val (.int (Int32.ofNat (75))), .val (.ref b517), .val (.int (Int32.ofNat (75))), .val (.ref x_d), .val (.int (Int32.ofNat dn)), .val (.int (Int32.ofNat (75 + 4 * dn)))] [])) _
    refine XS.iload X593.here hx rfl (hb hby at_104) rfl ?_
    show Steps p.tables e below (T593.setTop (mkF m 106 #[.val (.int p1), .val (.int p2), .val (.int (Int32.ofNat dm)), .val (.int ki), .val (.ref b517), .val (.int (Int32.ofNat (75))), .val (.ref b517), .val (.int (Int32.ofNat (75))), .val (.ref x_d), .val (.int (Int32.ofNat dn)), .val (.int (Int32.ofNat (75 + 4 * dn)))] [(.int (Int32.ofNat (75)))])) _
    refine XS.iload X593.here hx rfl (hb hby at_106) rfl ?_
    show Steps p.tables e below (T593.setTop (mkF m 108 #[.val (.int p1), .val (.int p2), .val (.int (Int32.ofNat dm)), .val (.int ki), .val (.ref b517), .val (.int (Int32.ofNat (75))), .val (.ref b517), .val (.int (Int32.ofNat (75))), .val (.ref x_d), .val (.int (Int32.ofNat dn)), .val (.int (Int32.ofNat (75 + 4 * dn)))] [(.int (Int32.ofNat (75))), (.int (Int32.ofNat (75)))])) _
    refine XS.icmpYes X593.here hx rfl (pc0 := 108) (pc' := 113) rfl (hb hby at_108) rfl (teq (rfl : (Int32.ofNat (75)) = (Int32.ofNat (75)))).1 (by decide) (by decide) ?_
    show Steps p.tables e below (T593.setTop (mkF m 113 #[.val (.int p1), .val (.int p2), .val (.int (Int32.ofNat dm)), .val (.int ki), .val (.ref b517), .val (.int (Int32.ofNat (75))), .val (.ref b517), .val (.int (Int32.ofNat (75))), .val (.ref x_d), .val (.int (Int32.ofNat dn)), .val (.int (Int32.ofNat (75 + 4 * dn)))] [])) _
    refine XS.aload X593.here hx rfl (hb hby at_113) rfl rfl ?_
    show Steps p.tables e below (T593.setTop (mkF m 115 #[.val (.int p1), .val (.int p2), .val (.int (Int32.ofNat dm)), .val (.int ki), .val (.ref b517), .val (.int (Int32.ofNat (75))), .val (.ref b517), .val (.int (Int32.ofNat (75))), .val (.ref x_d), .val (.int (Int32.ofNat dn)), .val (.int (Int32.ofNat (75 + 4 * dn)))] [(.ref x_d)])) _
    refine st597.trans ?_
    show Steps p.tables e below (T597.setTop (mkF m 118 #[.val (.int p1), .val (.int p2), .val (.int (Int32.ofNat dm)), .val (.int ki), .val (.ref b517), .val (.int (Int32.ofNat (75))), .val (.ref b517), .val (.int (Int32.ofNat (75))), .val (.ref x_d), .val (.int (Int32.ofNat dn)), .val (.int (Int32.ofNat (75 + 4 * dn)))] [(.int (Int32.ofNat (75 + 4 * (dn) + (1) + 1)))])) _
    refine XS.iload X597.here hx rfl (hb hby at_118) rfl ?_
    show Steps p.tables e below (T597.setTop (mkF m 120 #[.val (.int p1), .val (.int p2), .val (.int (Int32.ofNat dm)), .val (.int ki), .val (.ref b517), .val (.int (Int32.ofNat (75))), .val (.ref b517), .val (.int (Int32.ofNat (75))), .val (.ref x_d), .val (.int (Int32.ofNat dn)), .val (.int (Int32.ofNat (75 + 4 * dn)))] [(.int (Int32.ofNat (75 + 4 * dn))), (.int (Int32.ofNat (75 + 4 * (dn) + (1) + 1)))])) _
    refine XS.iconst X597.here hx rfl (hb hby at_120) ?_
    show Steps p.tables e below (T597.setTop (mkF m 121 #[.val (.int p1), .val (.int p2), .val (.int (Int32.ofNat dm)), .val (.int ki), .val (.ref b517), .val (.int (Int32.ofNat (75))), .val (.ref b517), .val (.int (Int32.ofNat (75))), .val (.ref x_d), .val (.int (Int32.ofNat dn)), .val (.int (Int32.ofNat (75 + 4 * dn)))] [(.int (2 : Int32)), (.int (Int32.ofNat (75 + 4 * dn))), (.int (Int32.ofNat (75 + 4 * (dn) + (1) + 1)))])) _
    refine XS.iadd X597.here hx rfl (hb hby at_121) rfl ?_
    show Steps p.tables e below (T597.setTop (mkF m 122 #[.val (.int p1), .val (.int p2), .val (.int (Int32.ofNat dm)), .val (.int ki), .val (.ref b517), .val (.int (Int32.ofNat (75))), .val (.ref b517), .val (.int (Int32.ofNat (75))), .val (.ref x_d), .val (.int (Int32.ofNat dn)), .val (.int (Int32.ofNat (75 + 4 * dn)))] [(.int ((Int32.ofNat (75 + 4 * dn)) + (2 : Int32))), (.int (Int32.ofNat (75 + 4 * (dn) + (1) + 1)))])) _
    refine XS.icmpYes X597.here hx rfl (pc0 := 122) (pc' := 127) rfl (hb hby at_122) rfl (teq (by rw [show (2 : Int32) = Int32.ofNat 2 from rfl, own_add] : (Int32.ofNat (75 + 4 * (dn) + (1) + 1)) = ((Int32.ofNat (75 + 4 * dn)) + (2 : Int32)))).1 (by decide) (by decide) ?_
    show Steps p.tables e below (T597.setTop (mkF m 127 #[.val (.int p1), .val (.int p2), .val (.int (Int32.ofNat dm)), .val (.int ki), .val (.ref b517), .val (.int (Int32.ofNat (75))), .val (.ref b517), .val (.int (Int32.ofNat (75))), .val (.ref x_d), .val (.int (Int32.ofNat dn)), .val (.int (Int32.ofNat (75 + 4 * dn)))] [])) _
    refine XS.aload X597.here hx rfl (hb hby at_127) rfl rfl ?_
    show Steps p.tables e below (T597.setTop (mkF m 129 #[.val (.int p1), .val (.int p2), .val (.int (Int32.ofNat dm)), .val (.int ki), .val (.ref b517), .val (.int (Int32.ofNat (75))), .val (.ref b517), .val (.int (Int32.ofNat (75))), .val (.ref x_d), .val (.int (Int32.ofNat dn)), .val (.int (Int32.ofNat (75 + 4 * dn)))] [(.ref x_d)])) _
    refine XS.iload X597.here hx rfl (hb hby at_129) rfl ?_
    show Steps p.tables e below (T597.setTop (mkF m 131 #[.val (.int p1), .val (.int p2), .val (.int (Int32.ofNat dm)), .val (.int ki), .val (.ref b517), .val (.int (Int32.ofNat (75))), .val (.ref b517), .val (.int (Int32.ofNat (75))), .val (.ref x_d), .val (.int (Int32.ofNat dn)), .val (.int (Int32.ofNat (75 + 4 * dn)))] [(.int (Int32.ofNat (75 + 4 * dn))), (.ref x_d)])) _
    refine st605.trans ?_
    show Steps p.tables e below (T605.setTop (mkF m 134 #[.val (.int p1), .val (.int p2), .val (.int (Int32.ofNat dm)), .val (.int ki), .val (.ref b517), .val (.int (Int32.ofNat (75))), .val (.ref b517), .val (.int (Int32.ofNat (75))), .val (.ref x_d), .val (.int (Int32.ofNat dn)), .val (.int (Int32.ofNat (75 + 4 * dn)))] [(.int (nar .char (nar .char (((120 : Int32) &&& (255 : Int32)).toUInt32.toUInt16.toUInt32.toInt32))))])) _
    refine XS.bipush X605.here hx rfl (hb hby at_134) ?_
    show Steps p.tables e below (T605.setTop (mkF m 136 #[.val (.int p1), .val (.int p2), .val (.int (Int32.ofNat dm)), .val (.int ki), .val (.ref b517), .val (.int (Int32.ofNat (75))), .val (.ref b517), .val (.int (Int32.ofNat (75))), .val (.ref x_d), .val (.int (Int32.ofNat dn)), .val (.int (Int32.ofNat (75 + 4 * dn)))] [(.int (120 : Int32)), (.int (nar .char (nar .char (((120 : Int32) &&& (255 : Int32)).toUInt32.toUInt16.toUInt32.toInt32))))])) _
    refine XS.icmpYes X605.here hx rfl (pc0 := 136) (pc' := 141) rfl (hb hby at_136) rfl (teq (by decide : (nar .char (nar .char (((120 : Int32) &&& (255 : Int32)).toUInt32.toUInt16.toUInt32.toInt32))) = (120 : Int32))).1 (by decide) (by decide) ?_
    show Steps p.tables e below (T605.setTop (mkF m 141 #[.val (.int p1), .val (.int p2), .val (.int (Int32.ofNat dm)), .val (.int ki), .val (.ref b517), .val (.int (Int32.ofNat (75))), .val (.ref b517), .val (.int (Int32.ofNat (75))), .val (.ref x_d), .val (.int (Int32.ofNat dn)), .val (.int (Int32.ofNat (75 + 4 * dn)))] [])) _
    refine XS.aload X605.here hx rfl (hb hby at_141) rfl rfl ?_
    show Steps p.tables e below (T605.setTop (mkF m 143 #[.val (.int p1), .val (.int p2), .val (.int (Int32.ofNat dm)), .val (.int ki), .val (.ref b517), .val (.int (Int32.ofNat (75))), .val (.ref b517), .val (.int (Int32.ofNat (75))), .val (.ref x_d), .val (.int (Int32.ofNat dn)), .val (.int (Int32.ofNat (75 + 4 * dn)))] [(.ref x_d)])) _
    refine XS.iload X605.here hx rfl (hb hby at_143) rfl ?_
    show Steps p.tables e below (T605.setTop (mkF m 145 #[.val (.int p1), .val (.int p2), .val (.int (Int32.ofNat dm)), .val (.int ki), .val (.ref b517), .val (.int (Int32.ofNat (75))), .val (.ref b517), .val (.int (Int32.ofNat (75))), .val (.ref x_d), .val (.int (Int32.ofNat dn)), .val (.int (Int32.ofNat (75 + 4 * dn)))] [(.int (Int32.ofNat (75 + 4 * dn))), (.ref x_d)])) _
    refine XS.iconst X605.here hx rfl (hb hby at_145) ?_
    show Steps p.tables e below (T605.setTop (mkF m 146 #[.val (.int p1), .val (.int p2), .val (.int (Int32.ofNat dm)), .val (.int ki), .val (.ref b517), .val (.int (Int32.ofNat (75))), .val (.ref b517), .val (.int (Int32.ofNat (75))), .val (.ref x_d), .val (.int (Int32.ofNat dn)), .val (.int (Int32.ofNat (75 + 4 * dn)))] [(.int (1 : Int32)), (.int (Int32.ofNat (75 + 4 * dn))), (.ref x_d)])) _
    refine XS.iadd X605.here hx rfl (hb hby at_146) rfl ?_
    show Steps p.tables e below (T605.setTop (mkF m 147 #[.val (.int p1), .val (.int p2), .val (.int (Int32.ofNat dm)), .val (.int ki), .val (.ref b517), .val (.int (Int32.ofNat (75))), .val (.ref b517), .val (.int (Int32.ofNat (75))), .val (.ref x_d), .val (.int (Int32.ofNat dn)), .val (.int (Int32.ofNat (75 + 4 * dn)))] [(.int ((Int32.ofNat (75 + 4 * dn)) + (1 : Int32))), (.ref x_d)])) _
    rw [show ((Int32.ofNat (75 + 4 * dn)) + (1 : Int32)) = Int32.ofNat (75 + 4 * dn + 1) from own_add _ 1]
    show Steps p.tables e below (T605.setTop (mkF m 147 #[.val (.int p1), .val (.int p2), .val (.int (Int32.ofNat dm)), .val (.int ki), .val (.ref b517), .val (.int (Int32.ofNat (75))), .val (.ref b517), .val (.int (Int32.ofNat (75))), .val (.ref x_d), .val (.int (Int32.ofNat dn)), .val (.int (Int32.ofNat (75 + 4 * dn)))] [(.int (Int32.ofNat (75 + 4 * dn + 1))), (.ref x_d)])) _
    refine st613.trans ?_
    show Steps p.tables e below (T613.setTop (mkF m 150 #[.val (.int p1), .val (.int p2), .val (.int (Int32.ofNat dm)), .val (.int ki), .val (.ref b517), .val (.int (Int32.ofNat (75))), .val (.ref b517), .val (.int (Int32.ofNat (75))), .val (.ref x_d), .val (.int (Int32.ofNat dn)), .val (.int (Int32.ofNat (75 + 4 * dn)))] [(.int (nar .char (nar .char (((nar .byte ((10 : Int32).toInt8.toInt32)) &&& (255 : Int32)).toUInt32.toUInt16.toUInt32.toInt32))))])) _
    refine XS.bipush X613.here hx rfl (hb hby at_150) ?_
    show Steps p.tables e below (T613.setTop (mkF m 152 #[.val (.int p1), .val (.int p2), .val (.int (Int32.ofNat dm)), .val (.int ki), .val (.ref b517), .val (.int (Int32.ofNat (75))), .val (.ref b517), .val (.int (Int32.ofNat (75))), .val (.ref x_d), .val (.int (Int32.ofNat dn)), .val (.int (Int32.ofNat (75 + 4 * dn)))] [(.int (10 : Int32)), (.int (nar .char (nar .char (((nar .byte ((10 : Int32).toInt8.toInt32)) &&& (255 : Int32)).toUInt32.toUInt16.toUInt32.toInt32))))])) _
    refine XS.icmpYes X613.here hx rfl (pc0 := 152) (pc' := 157) rfl (hb hby at_152) rfl (teq (by decide : (nar .char (nar .char (((nar .byte ((10 : Int32).toInt8.toInt32)) &&& (255 : Int32)).toUInt32.toUInt16.toUInt32.toInt32))) = (10 : Int32))).1 (by decide) (by decide) ?_
    show Steps p.tables e below (T613.setTop (mkF m 157 #[.val (.int p1), .val (.int p2), .val (.int (Int32.ofNat dm)), .val (.int ki), .val (.ref b517), .val (.int (Int32.ofNat (75))), .val (.ref b517), .val (.int (Int32.ofNat (75))), .val (.ref x_d), .val (.int (Int32.ofNat dn)), .val (.int (Int32.ofNat (75 + 4 * dn)))] [])) _
    refine XS.iload X613.here hx rfl (hb hby at_157) rfl ?_
    exact kt
  by_cases cz : dn = 0
  · skip
    have pre617 : ∀ t, Steps p.tables e below (T613.setTop (mkF m 198 #[.val (.int p1), .val (.int p2), .val (.int (Int32.ofNat dm)), .val (.int ki), .val (.ref b517), .val (.int (Int32.ofNat (75))), .val (.ref b517), .val (.int (Int32.ofNat (75))), .val (.ref x_d), .val (.int (Int32.ofNat dn)), .val (.int (Int32.ofNat (75 + 4 * dn)))] [(.int (1 : Int32))])) t → Steps p.tables e below (T613.setTop (mkF m 159 #[.val (.int p1), .val (.int p2), .val (.int (Int32.ofNat dm)), .val (.int ki), .val (.ref b517), .val (.int (Int32.ofNat (75))), .val (.ref b517), .val (.int (Int32.ofNat (75))), .val (.ref x_d), .val (.int (Int32.ofNat dn)), .val (.int (Int32.ofNat (75 + 4 * dn)))] [(.int (Int32.ofNat dn))])) t := by
      intro t kt
      show Steps p.tables e below (T613.setTop (mkF m 159 #[.val (.int p1), .val (.int p2), .val (.int (Int32.ofNat dm)), .val (.int ki), .val (.ref b517), .val (.int (Int32.ofNat (75))), .val (.ref b517), .val (.int (Int32.ofNat (75))), .val (.ref x_d), .val (.int (Int32.ofNat dn)), .val (.int (Int32.ofNat (75 + 4 * dn)))] [(.int (Int32.ofNat dn))])) _
      refine XS.ifYes X613.here hx rfl (pc0 := 159) (pc' := 176) rfl (hb hby at_159) rfl ((if0 _ _).trans (flt (by rw [cz]; decide : ¬ ((0 : Int32) < (Int32.ofNat dn)))).2.2.2) (by decide) (by decide) ?_
      show Steps p.tables e below (T613.setTop (mkF m 176 #[.val (.int p1), .val (.int p2), .val (.int (Int32.ofNat dm)), .val (.int ki), .val (.ref b517), .val (.int (Int32.ofNat (75))), .val (.ref b517), .val (.int (Int32.ofNat (75))), .val (.ref x_d), .val (.int (Int32.ofNat dn)), .val (.int (Int32.ofNat (75 + 4 * dn)))] [])) _
      refine XS.iload X613.here hx rfl (hb hby at_176) rfl ?_
      show Steps p.tables e below (T613.setTop (mkF m 178 #[.val (.int p1), .val (.int p2), .val (.int (Int32.ofNat dm)), .val (.int ki), .val (.ref b517), .val (.int (Int32.ofNat (75))), .val (.ref b517), .val (.int (Int32.ofNat (75))), .val (.ref x_d), .val (.int (Int32.ofNat dn)), .val (.int (Int32.ofNat (75 + 4 * dn)))] [(.int (Int32.ofNat dn))])) _
      refine XS.ifYes X613.here hx rfl (pc0 := 178) (pc' := 197) rfl (hb hby at_178) rfl ((if0 _ _).trans (flt (by rw [cz]; decide : ¬ ((0 : Int32) < (Int32.ofNat dn)))).2.2.2) (by decide) (by decide) ?_
      show Steps p.tables e below (T613.setTop (mkF m 197 #[.val (.int p1), .val (.int p2), .val (.int (Int32.ofNat dm)), .val (.int ki), .val (.ref b517), .val (.int (Int32.ofNat (75))), .val (.ref b517), .val (.int (Int32.ofNat (75))), .val (.ref x_d), .val (.int (Int32.ofNat dn)), .val (.int (Int32.ofNat (75 + 4 * dn)))] [])) _
      refine XS.iconst X613.here hx rfl (hb hby at_197) ?_
      exact kt
    have f618 := (EQ613 ▸ f615)
    have yf_v_c := (CHv.at X613 hZ hEL ch614).safe f618.lt y614_v_c
    obtain ⟨fs, hr, hrun, hended, e1, e2, e3, e4⟩ := X613.leaveW hSi588 hk614 (v := some (.int (1 : Int32))) (fun h => by rw [Bd.returns] at h; cases h)
    refine ⟨_, _, (pre0 _ (pre519 _ (pre523 _ (pre534 _ (pre573 _ (pre587 _ (pre616 _ (pre617 _ ?_)))))))), hrun, hended, _, _, rfl, ?_, ?_, ⟨e1, e2, e3, e4.mono (by decide) (by decide)⟩⟩
    · show Steps p.tables e below (T613.setTop (mkF m 198 #[.val (.int p1), .val (.int p2), .val (.int (Int32.ofNat dm)), .val (.int ki), .val (.ref b517), .val (.int (Int32.ofNat (75))), .val (.ref b517), .val (.int (Int32.ofNat (75))), .val (.ref x_d), .val (.int (Int32.ofNat dn)), .val (.int (Int32.ofNat (75 + 4 * dn)))] [(.int (1 : Int32))])) _
      exact retN X613 hx (t := .boolean) Bd.returns (by simp) (hb hby at_198) hr
    · show Q0 Z p1 p2 zc fm h0 n0 _ T613.heap _ T613.vm
      exact ⟨rfl, N613⟩
    · have q := cr614.trans (CHv.at X613 hZ hEL ch614)
      show CHr Z EL s.vm s.heap T613.vm T613.heap
      rw [hh]
      exact q
  · skip
    have f619 := (EQ613 ▸ f608)
    have f620 := (EQ613 ▸ f609)
    have f621 := (EQ613 ▸ f610)
    have f622 := (EQ613 ▸ f611)
    have f623 := (EQ613 ▸ f612)
    obtain ⟨cq624, kq624, q624a, q624b, q624c⟩ := isOf hZ rfl f622
    obtain ⟨_, _, ⟨T624, L624, k624, n624⟩, -, X624, ⟨Lc624, hQ624, l624, y624, z624⟩, st624⟩ := X613.virtualBack hx (y := (⟨"java/lang/String", "charAt", "(I)C"⟩ : MethodName)) (z := (⟨"java/lang/String", "charAt", "(I)C"⟩ : MethodName)) hown (mvT hZ (hw _ (List.mem_of_getElem? (i := 227) rfl))) (mvT hZ (hw _ (List.mem_of_getElem? (i := 228) rfl))) (notFace_of_selects (args := #[]) (mvT hZ (hw _ (List.mem_of_getElem? (i := 230) rfl)))) (mvT hZ (hw _ (List.mem_of_getElem? (i := 230) rfl))) (mvT hZ (hw _ (List.mem_of_getElem? (i := 229) rfl))) (by decide) (backOf (W := 0) (rmChA l Z a0 hw [] x_d t_d k_d (Int32.ofNat (75 + 4 * (dn) + (1) + 1)) (ws_c.take (75 + 4 * (dn) + (1) + 1)) (Int32.ofNat (75)) (32 : Int32) zc fm T613.heap n0 Z613 (SC.ext f619.2) hzc (SFm.ext f619.2) rf f620 f621 f622 f623 (own_nn (by omega)) (by rw [own_lt (by omega) (by omega)]; omega) (by rw [own_nc (by omega), tk_c]; exact (own_get (A := vs.take (75)) (m := 4 * (dn)) (i := 0) hA75).2.2 (by omega))) hZ (hw _ (List.mem_of_getElem? (i := 231) rfl)) (hw _ (List.mem_of_getElem? (i := 5) rfl)) (by decide) (by decide)) q624a q624c (g := (mkF m 166 #[.val (.int p1), .val (.int p2), .val (.int (Int32.ofNat dm)), .val (.int ki), .val (.ref b517), .val (.int (Int32.ofNat (75))), .val (.ref b517), .val (.int (Int32.ofNat (75))), .val (.ref x_d), .val (.int (Int32.ofNat dn)), .val (.int (Int32.ofNat (75 + 4 * dn)))] [(.int (Int32.ofNat (75))), (.ref x_d)])) rfl (by rw [hml]; rfl) (Steps.refl _) (argsL := [(.int (Int32.ofNat (75)))]) (rest := []) (lenOf pd__I_C rfl) rfl (by show 2 * 0 + _ ≤ _; exact Nat.le_of_eq rfl) (hb hby at_166) (fun _ _ => ⟨rfl, rfl, (by decide : 42 + 0 ≤ _), (by decide : 4894 + 0 ≤ _)⟩)
    dsimp only [Pt.U, Pt.locs, Pt.cells, Pt.slots] at X624 l624 y624 z624 st624 hQ624
    subst l624 y624 z624
    obtain ⟨rfl, N624q, EQ624⟩ := hQ624
    have N624 := Fr.app N613 N624q
    have f626 := (EQ613 ▸ f615)
    have ch625 : CHv Z EL T588.vm T624.heap := by rw [EQ624]; exact ch614
    have cr625 : CHr Z EL s.vm h0 T588.vm T624.heap := by rw [EQ624]; exact cr614
    have y625_v_c : Safe Z EL T588.vm T624.heap v_c := by rw [EQ624]; exact y614_v_c
    have hk625 : T588.heap.size ≤ T624.heap.size := by rw [EQ624]; exact hk614
    have Z624 : n0 ≤ T624.heap.size := by rw [EQ624]; exact Z613
    have K624 := own_keq EQ624 K613
    have f627 := (EQ624 ▸ f619)
    have f628 := (EQ624 ▸ f620)
    have f629 := (EQ624 ▸ f621)
    have f630 := (EQ624 ▸ f622)
    have f631 := (EQ624 ▸ f623)
    obtain ⟨cq632, kq632, q632a, q632b, q632c⟩ := isOf hZ rfl f630
    obtain ⟨_, _, ⟨T632, L632, k632, n632⟩, -, X632, ⟨Lc632, hQ632, l632, y632, z632⟩, st632⟩ := X624.virtualBack hx (y := (⟨"java/lang/String", "charAt", "(I)C"⟩ : MethodName)) (z := (⟨"java/lang/String", "charAt", "(I)C"⟩ : MethodName)) hown (mvT hZ (hw _ (List.mem_of_getElem? (i := 227) rfl))) (mvT hZ (hw _ (List.mem_of_getElem? (i := 228) rfl))) (notFace_of_selects (args := #[]) (mvT hZ (hw _ (List.mem_of_getElem? (i := 230) rfl)))) (mvT hZ (hw _ (List.mem_of_getElem? (i := 230) rfl))) (mvT hZ (hw _ (List.mem_of_getElem? (i := 229) rfl))) (by decide) (backOf (W := 0) (rmChA l Z a0 hw [] x_d t_d k_d (Int32.ofNat (75 + 4 * (dn) + (1) + 1)) (ws_c.take (75 + 4 * (dn) + (1) + 1)) (Int32.ofNat (75 + (4 * dn - 1))) (32 : Int32) zc fm T624.heap n0 Z624 (SC.ext f627.2) hzc (SFm.ext f627.2) rf f628 f629 f630 f631 (own_nn (by omega)) (by rw [own_lt (by omega) (by omega)]; omega) (by rw [own_nc (by omega), tk_c]; exact (own_get (A := vs.take (75)) (m := 4 * (dn)) (i := 4 * dn - 1) hA75).2.2 (by omega))) hZ (hw _ (List.mem_of_getElem? (i := 231) rfl)) (hw _ (List.mem_of_getElem? (i := 5) rfl)) (by decide) (by decide)) q632a q632c (g := (mkF m 187 #[.val (.int p1), .val (.int p2), .val (.int (Int32.ofNat dm)), .val (.int ki), .val (.ref b517), .val (.int (Int32.ofNat (75))), .val (.ref b517), .val (.int (Int32.ofNat (75))), .val (.ref x_d), .val (.int (Int32.ofNat dn)), .val (.int (Int32.ofNat (75 + 4 * dn)))] [(.int (Int32.ofNat (75 + (4 * dn - 1)))), (.ref x_d)])) rfl (by rw [hml]; rfl) (Steps.refl _) (argsL := [(.int (Int32.ofNat (75 + (4 * dn - 1))))]) (rest := []) (lenOf pd__I_C rfl) rfl (by show 2 * 0 + _ ≤ _; exact Nat.le_of_eq rfl) (hb hby at_187) (fun _ _ => ⟨rfl, rfl, (by decide : 42 + 0 ≤ _), (by decide : 4894 + 0 ≤ _)⟩)
    dsimp only [Pt.U, Pt.locs, Pt.cells, Pt.slots] at X632 l632 y632 z632 st632 hQ632
    subst l632 y632 z632
    obtain ⟨rfl, N632q, EQ632⟩ := hQ632
    have N632 := Fr.app N624 N632q
    have f634 := (EQ624 ▸ f626)
    have ch633 : CHv Z EL T588.vm T632.heap := by rw [EQ632]; exact ch625
    have cr633 : CHr Z EL s.vm h0 T588.vm T632.heap := by rw [EQ632]; exact cr625
    have y633_v_c : Safe Z EL T588.vm T632.heap v_c := by rw [EQ632]; exact y625_v_c
    have hk633 : T588.heap.size ≤ T632.heap.size := by rw [EQ632]; exact hk625
    have Z632 : n0 ≤ T632.heap.size := by rw [EQ632]; exact Z624
    have K632 := own_keq EQ632 K624
    have pre635 : ∀ t, Steps p.tables e below (T632.setTop (mkF m 198 #[.val (.int p1), .val (.int p2), .val (.int (Int32.ofNat dm)), .val (.int ki), .val (.ref b517), .val (.int (Int32.ofNat (75))), .val (.ref b517), .val (.int (Int32.ofNat (75))), .val (.ref x_d), .val (.int (Int32.ofNat dn)), .val (.int (Int32.ofNat (75 + 4 * dn)))] [(.int (1 : Int32))])) t → Steps p.tables e below (T613.setTop (mkF m 159 #[.val (.int p1), .val (.int p2), .val (.int (Int32.ofNat dm)), .val (.int ki), .val (.ref b517), .val (.int (Int32.ofNat (75))), .val (.ref b517), .val (.int (Int32.ofNat (75))), .val (.ref x_d), .val (.int (Int32.ofNat dn)), .val (.int (Int32.ofNat (75 + 4 * dn)))] [(.int (Int32.ofNat dn))])) t := by
      intro t kt
      show Steps p.tables e below (T613.setTop (mkF m 159 #[.val (.int p1), .val (.int p2), .val (.int (Int32.ofNat dm)), .val (.int ki), .val (.ref b517), .val (.int (Int32.ofNat (75))), .val (.ref b517), .val (.int (Int32.ofNat (75))), .val (.ref x_d), .val (.int (Int32.ofNat dn)), .val (.int (Int32.ofNat (75 + 4 * dn)))] [(.int (Int32.ofNat dn))])) _
      refine XS.ifNo X613.here hx rfl (hb hby at_159) rfl ((if0 _ _).trans (tlt (by rw [show (0 : Int32) = Int32.ofNat 0 from rfl, own_lt (by omega) (by omega)]; omega : (0 : Int32) < (Int32.ofNat dn))).2.2.2) ?_
      show Steps p.tables e below (T613.setTop (mkF m 162 #[.val (.int p1), .val (.int p2), .val (.int (Int32.ofNat dm)), .val (.int ki), .val (.ref b517), .val (.int (Int32.ofNat (75))), .val (.ref b517), .val (.int (Int32.ofNat (75))), .val (.ref x_d), .val (.int (Int32.ofNat dn)), .val (.int (Int32.ofNat (75 + 4 * dn)))] [])) _
      refine XS.aload X613.here hx rfl (hb hby at_162) rfl rfl ?_
      show Steps p.tables e below (T613.setTop (mkF m 164 #[.val (.int p1), .val (.int p2), .val (.int (Int32.ofNat dm)), .val (.int ki), .val (.ref b517), .val (.int (Int32.ofNat (75))), .val (.ref b517), .val (.int (Int32.ofNat (75))), .val (.ref x_d), .val (.int (Int32.ofNat dn)), .val (.int (Int32.ofNat (75 + 4 * dn)))] [(.ref x_d)])) _
      refine XS.iload X613.here hx rfl (hb hby at_164) rfl ?_
      show Steps p.tables e below (T613.setTop (mkF m 166 #[.val (.int p1), .val (.int p2), .val (.int (Int32.ofNat dm)), .val (.int ki), .val (.ref b517), .val (.int (Int32.ofNat (75))), .val (.ref b517), .val (.int (Int32.ofNat (75))), .val (.ref x_d), .val (.int (Int32.ofNat dn)), .val (.int (Int32.ofNat (75 + 4 * dn)))] [(.int (Int32.ofNat (75))), (.ref x_d)])) _
      refine st624.trans ?_
      show Steps p.tables e below (T624.setTop (mkF m 169 #[.val (.int p1), .val (.int p2), .val (.int (Int32.ofNat dm)), .val (.int ki), .val (.ref b517), .val (.int (Int32.ofNat (75))), .val (.ref b517), .val (.int (Int32.ofNat (75))), .val (.ref x_d), .val (.int (Int32.ofNat dn)), .val (.int (Int32.ofNat (75 + 4 * dn)))] [(.int (nar .char (nar .char (((32 : Int32) &&& (255 : Int32)).toUInt32.toUInt16.toUInt32.toInt32))))])) _
      refine XS.bipush X624.here hx rfl (hb hby at_169) ?_
      show Steps p.tables e below (T624.setTop (mkF m 171 #[.val (.int p1), .val (.int p2), .val (.int (Int32.ofNat dm)), .val (.int ki), .val (.ref b517), .val (.int (Int32.ofNat (75))), .val (.ref b517), .val (.int (Int32.ofNat (75))), .val (.ref x_d), .val (.int (Int32.ofNat dn)), .val (.int (Int32.ofNat (75 + 4 * dn)))] [(.int (32 : Int32)), (.int (nar .char (nar .char (((32 : Int32) &&& (255 : Int32)).toUInt32.toUInt16.toUInt32.toInt32))))])) _
      refine XS.icmpYes X624.here hx rfl (pc0 := 171) (pc' := 176) rfl (hb hby at_171) rfl (teq (by decide : (nar .char (nar .char (((32 : Int32) &&& (255 : Int32)).toUInt32.toUInt16.toUInt32.toInt32))) = (32 : Int32))).1 (by decide) (by decide) ?_
      show Steps p.tables e below (T624.setTop (mkF m 176 #[.val (.int p1), .val (.int p2), .val (.int (Int32.ofNat dm)), .val (.int ki), .val (.ref b517), .val (.int (Int32.ofNat (75))), .val (.ref b517), .val (.int (Int32.ofNat (75))), .val (.ref x_d), .val (.int (Int32.ofNat dn)), .val (.int (Int32.ofNat (75 + 4 * dn)))] [])) _
      refine XS.iload X624.here hx rfl (hb hby at_176) rfl ?_
      show Steps p.tables e below (T624.setTop (mkF m 178 #[.val (.int p1), .val (.int p2), .val (.int (Int32.ofNat dm)), .val (.int ki), .val (.ref b517), .val (.int (Int32.ofNat (75))), .val (.ref b517), .val (.int (Int32.ofNat (75))), .val (.ref x_d), .val (.int (Int32.ofNat dn)), .val (.int (Int32.ofNat (75 + 4 * dn)))] [(.int (Int32.ofNat dn))])) _
      refine XS.ifNo X624.here hx rfl (hb hby at_178) rfl ((if0 _ _).trans (tlt (by rw [show (0 : Int32) = Int32.ofNat 0 from rfl, own_lt (by omega) (by omega)]; omega : (0 : Int32) < (Int32.ofNat dn))).2.2.2) ?_
      show Steps p.tables e below (T624.setTop (mkF m 181 #[.val (.int p1), .val (.int p2), .val (.int (Int32.ofNat dm)), .val (.int ki), .val (.ref b517), .val (.int (Int32.ofNat (75))), .val (.ref b517), .val (.int (Int32.ofNat (75))), .val (.ref x_d), .val (.int (Int32.ofNat dn)), .val (.int (Int32.ofNat (75 + 4 * dn)))] [])) _
      refine XS.aload X624.here hx rfl (hb hby at_181) rfl rfl ?_
      show Steps p.tables e below (T624.setTop (mkF m 183 #[.val (.int p1), .val (.int p2), .val (.int (Int32.ofNat dm)), .val (.int ki), .val (.ref b517), .val (.int (Int32.ofNat (75))), .val (.ref b517), .val (.int (Int32.ofNat (75))), .val (.ref x_d), .val (.int (Int32.ofNat dn)), .val (.int (Int32.ofNat (75 + 4 * dn)))] [(.ref x_d)])) _
      refine XS.iload X624.here hx rfl (hb hby at_183) rfl ?_
      show Steps p.tables e below (T624.setTop (mkF m 185 #[.val (.int p1), .val (.int p2), .val (.int (Int32.ofNat dm)), .val (.int ki), .val (.ref b517), .val (.int (Int32.ofNat (75))), .val (.ref b517), .val (.int (Int32.ofNat (75))), .val (.ref x_d), .val (.int (Int32.ofNat dn)), .val (.int (Int32.ofNat (75 + 4 * dn)))] [(.int (Int32.ofNat (75 + 4 * dn))), (.ref x_d)])) _
      refine XS.iconst X624.here hx rfl (hb hby at_185) ?_
      show Steps p.tables e below (T624.setTop (mkF m 186 #[.val (.int p1), .val (.int p2), .val (.int (Int32.ofNat dm)), .val (.int ki), .val (.ref b517), .val (.int (Int32.ofNat (75))), .val (.ref b517), .val (.int (Int32.ofNat (75))), .val (.ref x_d), .val (.int (Int32.ofNat dn)), .val (.int (Int32.ofNat (75 + 4 * dn)))] [(.int (1 : Int32)), (.int (Int32.ofNat (75 + 4 * dn))), (.ref x_d)])) _
      refine XS.isub X624.here hx rfl (hb hby at_186) rfl ?_
      show Steps p.tables e below (T624.setTop (mkF m 187 #[.val (.int p1), .val (.int p2), .val (.int (Int32.ofNat dm)), .val (.int ki), .val (.ref b517), .val (.int (Int32.ofNat (75))), .val (.ref b517), .val (.int (Int32.ofNat (75))), .val (.ref x_d), .val (.int (Int32.ofNat dn)), .val (.int (Int32.ofNat (75 + 4 * dn)))] [(.int ((Int32.ofNat (75 + 4 * dn)) - (1 : Int32))), (.ref x_d)])) _
      rw [show ((Int32.ofNat (75 + 4 * dn)) - (1 : Int32)) = Int32.ofNat (75 + (4 * dn - 1)) from by rw [show (1 : Int32) = Int32.ofNat 1 from rfl, own_sub (by omega) (by omega)]; congr 1; omega]
      show Steps p.tables e below (T624.setTop (mkF m 187 #[.val (.int p1), .val (.int p2), .val (.int (Int32.ofNat dm)), .val (.int ki), .val (.ref b517), .val (.int (Int32.ofNat (75))), .val (.ref b517), .val (.int (Int32.ofNat (75))), .val (.ref x_d), .val (.int (Int32.ofNat dn)), .val (.int (Int32.ofNat (75 + 4 * dn)))] [(.int (Int32.ofNat (75 + (4 * dn - 1)))), (.ref x_d)])) _
      refine st632.trans ?_
      show Steps p.tables e below (T632.setTop (mkF m 190 #[.val (.int p1), .val (.int p2), .val (.int (Int32.ofNat dm)), .val (.int ki), .val (.ref b517), .val (.int (Int32.ofNat (75))), .val (.ref b517), .val (.int (Int32.ofNat (75))), .val (.ref x_d), .val (.int (Int32.ofNat dn)), .val (.int (Int32.ofNat (75 + 4 * dn)))] [(.int (nar .char (nar .char (((32 : Int32) &&& (255 : Int32)).toUInt32.toUInt16.toUInt32.toInt32))))])) _
      refine XS.bipush X632.here hx rfl (hb hby at_190) ?_
      show Steps p.tables e below (T632.setTop (mkF m 192 #[.val (.int p1), .val (.int p2), .val (.int (Int32.ofNat dm)), .val (.int ki), .val (.ref b517), .val (.int (Int32.ofNat (75))), .val (.ref b517), .val (.int (Int32.ofNat (75))), .val (.ref x_d), .val (.int (Int32.ofNat dn)), .val (.int (Int32.ofNat (75 + 4 * dn)))] [(.int (32 : Int32)), (.int (nar .char (nar .char (((32 : Int32) &&& (255 : Int32)).toUInt32.toUInt16.toUInt32.toInt32))))])) _
      refine XS.icmpYes X632.here hx rfl (pc0 := 192) (pc' := 197) rfl (hb hby at_192) rfl (teq (by decide : (nar .char (nar .char (((32 : Int32) &&& (255 : Int32)).toUInt32.toUInt16.toUInt32.toInt32))) = (32 : Int32))).1 (by decide) (by decide) ?_
      show Steps p.tables e below (T632.setTop (mkF m 197 #[.val (.int p1), .val (.int p2), .val (.int (Int32.ofNat dm)), .val (.int ki), .val (.ref b517), .val (.int (Int32.ofNat (75))), .val (.ref b517), .val (.int (Int32.ofNat (75))), .val (.ref x_d), .val (.int (Int32.ofNat dn)), .val (.int (Int32.ofNat (75 + 4 * dn)))] [])) _
      refine XS.iconst X632.here hx rfl (hb hby at_197) ?_
      exact kt
    have f636 := (EQ632 ▸ f634)
    have yf_v_c := (CHv.at X632 hZ hEL ch633).safe f636.lt y633_v_c
    obtain ⟨fs, hr, hrun, hended, e1, e2, e3, e4⟩ := X632.leaveW hSi588 hk633 (v := some (.int (1 : Int32))) (fun h => by rw [Bd.returns] at h; cases h)
    refine ⟨_, _, (pre0 _ (pre519 _ (pre523 _ (pre534 _ (pre573 _ (pre587 _ (pre616 _ (pre635 _ ?_)))))))), hrun, hended, _, _, rfl, ?_, ?_, ⟨e1, e2, e3, e4.mono (by decide) (by decide)⟩⟩
    · show Steps p.tables e below (T632.setTop (mkF m 198 #[.val (.int p1), .val (.int p2), .val (.int (Int32.ofNat dm)), .val (.int ki), .val (.ref b517), .val (.int (Int32.ofNat (75))), .val (.ref b517), .val (.int (Int32.ofNat (75))), .val (.ref x_d), .val (.int (Int32.ofNat dn)), .val (.int (Int32.ofNat (75 + 4 * dn)))] [(.int (1 : Int32))])) _
      exact retN X632 hx (t := .boolean) Bd.returns (by simp) (hb hby at_198) hr
    · show Q0 Z p1 p2 zc fm h0 n0 _ T632.heap _ T632.vm
      exact ⟨rfl, N632⟩
    · have q := cr633.trans (CHv.at X632 hZ hEL ch633)
      show CHr Z EL s.vm s.heap T632.vm T632.heap
      rw [hh]
      exact q
set_option maxRecDepth 65536 in
set_option maxHeartbeats 40000000 in
theorem comes_1 {Post : Tables → Env → Array Value → State → Outcome → State → Prop} (hpost : ∀ tb e args s v u, (limb_1_1.after args s (.returned v) u = true ∧ limb_1_2.after args s (.returned v) u = true ∧ True) → ReturnedEndW s (.returned v) u (Jvm.fieldLocs frame_1_writes args s ++ Jvm.arrayLocs frame_1_arrays args s ++ Jvm.staticLocs frame_1_statics s) 64 8896 → Post tb e args s (.returned v) u) :
    ArmFor flags0 classFile x code maxLocals ret World_1 tables_1 room_1 Calls_1 rest_1 Pre_1 Post := by
  intro l hfl _ _ p e ha hc hk s m args below hf hA hF happ hP
  obtain ⟨hcalls, hrest, hpre⟩ := hP
  obtain ⟨-, -, -, hnamed, -, -, -, hat⟩ := (Spec.applies_iff hf).mp happ
  obtain ⟨hg, hn⟩ := and_e (Cond.before_iff.mp (show (Jvm.Cond.and given_1 narrow_1).before args s = true from hpre))
  obtain ⟨gc, g0⟩ := and_e hg
  obtain ⟨ga0, g1⟩ := and_e g0
  obtain ⟨w0, w1, rfl⟩ : ∃ w0 w1 : Value, args = #[w0, w1] := by
    have hs : args.size = 2 := by simpa [Cond.value, given_1] using gc
    obtain ⟨L⟩ := args
    match L, hs with
    | [w0, w1], _ => exact ⟨w0, w1, rfl⟩
  have hw := fun d (hd : d ∈ tables_1) => atoms_spec (ws := Jvm.Cond.code x code maxLocals ret :: tables_1) hat d (List.mem_cons_of_mem _ hd)
  have hfit : Fit s := fun {y c} hc i hi => by
    obtain ⟨ha, rfl⟩ := Array.getElem?_eq_some_iff.mp hc
    have q := List.all_eq_true.mp ((Array.all_eq_true_iff_forall_mem.mp hF) _ (Array.getElem_mem ha)) i (List.mem_range.mpr hi)
    simpa [Array.getElem?_eq_getElem hi] using q
  obtain ⟨i0, ei0⟩ := is_v ga0
  obtain rfl : w0 = (.int i0) := Option.some.inj ei0
  obtain ⟨i1, ei1⟩ := is_v g1
  obtain rfl : w1 = (.int i1) := Option.some.inj ei1
  obtain ⟨hsets, -⟩ := atoms_of _ (rest_1_c_eq ▸ (show rest_1_c.before _ s = true from hrest))
  obtain ⟨zc, vzc⟩ := is_v (Cond.before_iff.mp (hsets _ (List.mem_of_getElem? (i := 1) rfl)))
  have SC := Sta.start vzc (Or.inl (hsets _ (List.mem_of_getElem? (i := 0) rfl)))
  have hzc : ¬ zc = (0 : Int32) := fun q => by
      have h2 := not_v (Cond.before_iff.mp (hsets _ (List.mem_of_getElem? (i := 2) rfl)))
      have h3 := (eq_i vzc (Term.int_eval 0) (by rw [q])).symm.trans h2
      simp at h3
  obtain ⟨fm, vfm, rf⟩ := isR_v (Cond.before_iff.mp (hsets _ (List.mem_of_getElem? (i := 8) rfl)))
  have SFm := Sta.start vfm (Or.inl (hsets _ (List.mem_of_getElem? (i := 7) rfl)))
  have hcw : Jvm.Lit.compactW.before #[.int i0, .int i1] s = true := hsets _ (List.mem_of_getElem? (i := 2) rfl)
  have hEL : EW s #[.int i0, .int i1] EL := (EW.cons (hw _ (List.mem_of_getElem? (i := 38) rfl)) (by decide) (EW.cons (hw _ (List.mem_of_getElem? (i := 112) rfl)) (by decide) (EW.cons (hw _ (List.mem_of_getElem? (i := 162) rfl)) (by decide) (EW.cons (hw _ (List.mem_of_getElem? (i := 4) rfl)) (by decide) (EW.cons (hw _ (List.mem_of_getElem? (i := 217) rfl)) (by decide) (EW.cons (hw _ (List.mem_of_getElem? (i := 170) rfl)) (by decide) EW.nil))))))
  have hCH : CHv s EL s.vm s.heap := CHv.start hEL hcalls.1 hcw (hw _ (List.mem_of_getElem? (i := 7) rfl)) (hw _ (List.mem_of_getElem? (i := 6) rfl))
  obtain ⟨n, o, h1, h2, h3, _, L, rfl, ⟨rfl, N⟩, -, hq⟩ := rm0 l s _ hw tables_1 i0 i1 zc fm s.heap s.heap.size (Nat.le_refl _) hEL (Old.start s) SC hzc SFm rf p e ha hc hk s m _ below hf ((Spec.applies_iff_loose hf).mp happ).1 ⟨rfl, State.Warmed39.refl s, rfl, hCH⟩ trivial
  refine ⟨n, _, h1, h2, h3, hpost _ _ _ _ _ _ ⟨Cond.after_iff.mpr rfl, Cond.after_iff.mpr (eq_i res_at (Term.int_eval (1)) rfl), trivial⟩ ⟨hq.1, hq.2.1, hq.2.2.1, (hq.2.2.2.sift fun y hy => Or.inr (N y hy)).mono (by decide) (by decide)⟩⟩
theorem main_1_1 : Claimed_1_1 := comes_1 fun _ _ _ _ _ _ h hF => ⟨h.1, hF⟩
theorem main_1_2 : Claimed_1_2 := comes_1 fun _ _ _ _ _ _ h hF => ⟨h.2.1, hF⟩
end Jvm.Pilot.@@N@@
namespace Jvm.Pilot.@@N@@
open Jvm Jvm.ClassFile Sem Op Lib Jvm.Free Jvm.Stand Jvm.Pilot.@@N@@.Jvm.D
/-! MADE BY PROGRAM (witnessworld.py) out of the Statement's table words and the real class files: 23 classes; the members and pool entries that the words name. The judged class is class 1, her method 1. -/
namespace start1
open Jvm.ClassFile
def u (s : String) : CpInfo := .utf8 (stringToUtf16 s)
/-- a pool by its gaps: so many unusable entries, then the entry; so many at the end -/
def gap : Nat → List CpInfo → List CpInfo
  | 0, r => r
  | n + 1, r => .unusable :: gap n r
def poolList (es : List (Nat × CpInfo)) (last : Nat) : List CpInfo := es.foldr (fun e r => gap e.1 (e.2 :: r)) (gap last [])
def pool (es : List (Nat × CpInfo)) (last : Nat) : Array CpInfo := ⟨poolList es last⟩
def fileOf (pool : Array CpInfo) (this : Nat) (attrs : Array Attribute := #[]) (ms : Array MethodInfo := #[]) (fl : Nat := 33) (sup : Nat := 0) (ifs : Array Nat := #[]) (fds : Array FieldInfo := #[]) : ClassFile where
  minorVersion := 0
  majorVersion := 65
  constantPool := pool
  accessFlags := fl
  thisClass := this
  superClass := sup
  interfaces := ifs
  fields := fds
  methods := ms
  attributes := attrs
def plain (name : String) (sup : Option ClassId) : Class where
  name := name
  kind := .ordinary
  loader := none
  accessFlags := 33
  super := sup
  interfaces := #[]
  cf := none
  fields := #[]
  methods := #[]
  instanceTypes := #[]
  staticTypes := #[]
  resolved := #[]
  callSites := []
  init := .initialized
  statics := none
  mirror := none

def pool0 : Array CpInfo := pool [(5, u "<init>"), (0, u "()V"), (1, .class_ 10), (1, u "java/lang/Object"), (85, u "clone"), (0, u "()Ljava/lang/Object;")] 26

def k0c0 : Code := { maxStack := 0, maxLocals := 1, code := object_method_1_code, exceptionTable := #[], attributes := #[] }
def k0m0 : Method := { name := "<init>", desc := "()V", sig := { parameters := [], returnType := none }, accessFlags := 1, code := some k0c0 }
def k0m1 : Method := { name := "clone", desc := "()Ljava/lang/Object;", sig := { parameters := [], returnType := some (.object "java/lang/Object") }, accessFlags := 260, code := none }
/-- java/lang/Object -/
def k0 : Class := { plain "java/lang/Object" none with
  accessFlags := 33
  interfaces := #[]
  cf := some (fileOf pool0 8 #[] #[{ accessFlags := 1, nameIndex := 5, descriptorIndex := 6, attributes := #[] }, { accessFlags := 260, nameIndex := 96, descriptorIndex := 97, attributes := #[] }] 33 0 #[] #[])
  fields := #[]
  methods := #[k0m0, k0m1]
  instanceTypes := #[]
  staticTypes := #[]
  resolved := Array.replicate 124 none
  statics := none }

def pool1 : Array CpInfo := pool [(2, .class_ 4), (1, u "java/lang/Object"), (0, u "<init>"), (0, u "()V"), (0, .integer 2147483647), (0, .class_ 9), (0, u "com/example/orbweaver/orbweaver/mapping/JavaSource"), (0, .string 11), (0, u ""), (0, .methodref 8 13), (0, .nameAndType 5 14), (0, u "(Ljava/lang/String;Ljava/lang/String;)V"), (0, .methodref 8 16), (0, .nameAndType 17 18), (0, u "deeper"), (0, u "(I)Lcom/example/orbweaver/orbweaver/mapping/JavaSource;"), (0, .methodref 8 20), (0, .nameAndType 21 22), (0, u "toString"), (0, u "()Ljava/lang/String;"), (0, .methodref 24 25), (0, .class_ 26), (0, .nameAndType 27 28), (0, u "java/lang/String"), (0, u "length"), (0, u "()I"), (0, .methodref 8 30), (0, .nameAndType 31 18), (0, u "shallower"), (0, .string 33), (0, u "x"), (0, .methodref 8 35), (0, .nameAndType 36 37), (0, u "line"), (0, u "(Ljava/lang/String;)Lcom/example/orbweaver/orbweaver/mapping/JavaSource;"), (0, .methodref 24 39), (0, .nameAndType 40 41), (0, u "charAt"), (0, u "(I)C"), (0, .class_ 43), (0, u "com/example/orbweaver/orbweaver/mapping/JavaSourceShallowerPinLaw"), (2, u "law"), (0, u "(II)Z")] 3

def k1m0 : Method := { name := "<init>", desc := "()V", sig := { parameters := [], returnType := none }, accessFlags := 1, code := none }
def k1c1 : Code := { maxStack := 4, maxLocals := 11, code := code, exceptionTable := #[], attributes := #[] }
def k1m1 : Method := { name := "law", desc := "(II)Z", sig := { parameters := [.int, .int], returnType := some .boolean }, accessFlags := 9, code := some k1c1 }
/-- com/example/orbweaver/orbweaver/mapping/JavaSourceShallowerPinLaw -/
def k1 : Class := { plain "com/example/orbweaver/orbweaver/mapping/JavaSourceShallowerPinLaw" (some 0) with
  accessFlags := 49
  interfaces := #[]
  cf := some (fileOf pool1 42 #[] #[{ accessFlags := 1, nameIndex := 5, descriptorIndex := 6, attributes := #[] }, { accessFlags := 9, nameIndex := 46, descriptorIndex := 47, attributes := #[] }] 49 2 #[] #[])
  fields := #[]
  methods := #[k1m0, k1m1]
  instanceTypes := #[]
  staticTypes := #[]
  resolved := Array.replicate 51 none
  statics := none }

def pool2 : Array CpInfo := pool [(1, .methodref 2 3), (0, .class_ 4), (0, .nameAndType 5 6), (0, u "java/lang/Object"), (0, u "<init>"), (0, u "()V"), (0, .class_ 8), (0, u "java/lang/StringBuilder"), (0, .methodref 7 3), (0, .fieldref 11 12), (0, .class_ 13), (0, .nameAndType 14 15), (0, u "com/example/orbweaver/orbweaver/mapping/JavaSource"), (0, u "text"), (0, u "Ljava/lang/StringBuilder;"), (0, .string 17), (0, u "// Generated by orbweaver idl from "), (0, .methodref 7 19), (0, .nameAndType 20 21), (0, u "append"), (0, u "(Ljava/lang/String;)Ljava/lang/StringBuilder;"), (0, .string 23), (0, u ". Changes are lost when it runs again."), (0, .methodref 7 25), (0, .nameAndType 26 27), (0, u "toString"), (0, u "()Ljava/lang/String;"), (0, .methodref 11 29), (0, .nameAndType 30 31), (0, u "line"), (0, u "(Ljava/lang/String;)Lcom/example/orbweaver/orbweaver/mapping/JavaSource;"), (0, .methodref 33 34), (0, .class_ 35), (0, .nameAndType 36 37), (0, u "java/lang/String"), (0, u "isEmpty"), (0, u "()Z"), (0, .methodref 11 39), (0, .nameAndType 40 41), (0, u "blank"), (0, u "()Lcom/example/orbweaver/orbweaver/mapping/JavaSource;"), (4, .string 47), (0, u "    "), (0, .fieldref 11 49), (0, .nameAndType 50 51), (0, u "depth"), (0, u "I"), (0, .methodref 33 53), (0, .nameAndType 54 55), (0, u "repeat"), (0, u "(I)Ljava/lang/String;"), (0, .methodref 7 57), (0, .nameAndType 20 58), (0, u "(C)Ljava/lang/StringBuilder;"), (24, u "INDENT"), (0, u "Ljava/lang/String;"), (1, u "(Ljava/lang/String;Ljava/lang/String;)V"), (9, u "deeper"), (0, u "(I)Lcom/example/orbweaver/orbweaver/mapping/JavaSource;"), (0, u "shallower")] 2

def k2c0 : Code := { maxStack := 3, maxLocals := 3, code := prog_171_method_1_code, exceptionTable := #[], attributes := #[] }
def k2m0 : Method := { name := "<init>", desc := "(Ljava/lang/String;Ljava/lang/String;)V", sig := { parameters := [(.object "java/lang/String"), (.object "java/lang/String")], returnType := none }, accessFlags := 0, code := some k2c0 }
def k2c1 : Code := { maxStack := 3, maxLocals := 2, code := prog_171_method_2_code, exceptionTable := #[], attributes := #[] }
def k2m1 : Method := { name := "line", desc := "(Ljava/lang/String;)Lcom/example/orbweaver/orbweaver/mapping/JavaSource;", sig := { parameters := [(.object "java/lang/String")], returnType := some (.object "com/example/orbweaver/orbweaver/mapping/JavaSource") }, accessFlags := 0, code := some k2c1 }
def k2c2 : Code := { maxStack := 2, maxLocals := 1, code := prog_171_method_4_code, exceptionTable := #[], attributes := #[] }
def k2m2 : Method := { name := "blank", desc := "()Lcom/example/orbweaver/orbweaver/mapping/JavaSource;", sig := { parameters := [], returnType := some (.object "com/example/orbweaver/orbweaver/mapping/JavaSource") }, accessFlags := 0, code := some k2c2 }
def k2c3 : Code := { maxStack := 3, maxLocals := 2, code := prog_171_method_8_code, exceptionTable := #[], attributes := #[] }
def k2m3 : Method := { name := "deeper", desc := "(I)Lcom/example/orbweaver/orbweaver/mapping/JavaSource;", sig := { parameters := [.int], returnType := some (.object "com/example/orbweaver/orbweaver/mapping/JavaSource") }, accessFlags := 0, code := some k2c3 }
def k2c4 : Code := { maxStack := 3, maxLocals := 2, code := prog_171_method_9_code, exceptionTable := #[], attributes := #[] }
def k2m4 : Method := { name := "shallower", desc := "(I)Lcom/example/orbweaver/orbweaver/mapping/JavaSource;", sig := { parameters := [.int], returnType := some (.object "com/example/orbweaver/orbweaver/mapping/JavaSource") }, accessFlags := 0, code := some k2c4 }
def k2c5 : Code := { maxStack := 1, maxLocals := 1, code := prog_171_method_10_code, exceptionTable := #[], attributes := #[] }
def k2m5 : Method := { name := "toString", desc := "()Ljava/lang/String;", sig := { parameters := [], returnType := some (.object "java/lang/String") }, accessFlags := 1, code := some k2c5 }
/-- com/example/orbweaver/orbweaver/mapping/JavaSource -/
def k2 : Class := { plain "com/example/orbweaver/orbweaver/mapping/JavaSource" (some 0) with
  accessFlags := 48
  interfaces := #[]
  cf := some (fileOf pool2 11 #[] #[{ accessFlags := 0, nameIndex := 5, descriptorIndex := 86, attributes := #[] }, { accessFlags := 0, nameIndex := 30, descriptorIndex := 31, attributes := #[] }, { accessFlags := 0, nameIndex := 40, descriptorIndex := 41, attributes := #[] }, { accessFlags := 0, nameIndex := 96, descriptorIndex := 97, attributes := #[] }, { accessFlags := 0, nameIndex := 98, descriptorIndex := 97, attributes := #[] }, { accessFlags := 1, nameIndex := 26, descriptorIndex := 27, attributes := #[] }] 48 2 #[] #[{ accessFlags := 26, nameIndex := 83, descriptorIndex := 84, attributes := #[] }, { accessFlags := 18, nameIndex := 14, descriptorIndex := 15, attributes := #[] }, { accessFlags := 2, nameIndex := 50, descriptorIndex := 51, attributes := #[] }])
  fields := #[{ name := "INDENT", type := (.object "java/lang/String"), accessFlags := 26, slot := 0, constantValue := 0 }, { name := "text", type := (.object "java/lang/StringBuilder"), accessFlags := 18, slot := 0, constantValue := 0 }, { name := "depth", type := .int, accessFlags := 2, slot := 1, constantValue := 0 }]
  methods := #[k2m0, k2m1, k2m2, k2m3, k2m4, k2m5]
  instanceTypes := #[(.object "java/lang/StringBuilder"), .int]
  staticTypes := #[(.object "java/lang/String")]
  resolved := Array.replicate 101 none
  statics := none }

def pool3 : Array CpInfo := pool [(1, .class_ 2), (0, u "java/io/Serializable"), (0, .class_ 4), (0, u "java/lang/Object")] 2

/-- java/io/Serializable -/
def k3 : Class := { plain "java/io/Serializable" (some 0) with
  accessFlags := 1537
  interfaces := #[]
  cf := some (fileOf pool3 1 #[] #[] 1537 3 #[] #[])
  fields := #[]
  methods := #[]
  instanceTypes := #[]
  staticTypes := #[]
  resolved := Array.replicate 7 none
  statics := none }

def pool4 : Array CpInfo := pool [(1, .class_ 2), (0, u "java/lang/Comparable"), (0, .class_ 4), (0, u "java/lang/Object")] 7

/-- java/lang/Comparable -/
def k4 : Class := { plain "java/lang/Comparable" (some 0) with
  accessFlags := 1537
  interfaces := #[]
  cf := some (fileOf pool4 1 #[] #[] 1537 3 #[] #[])
  fields := #[]
  methods := #[]
  instanceTypes := #[]
  staticTypes := #[]
  resolved := Array.replicate 12 none
  statics := none }

def pool5 : Array CpInfo := pool [(2, .class_ 4), (1, u "java/lang/CharSequence"), (42, .class_ 48), (0, u "java/lang/CharSequence$1CodePointIterator"), (10, .class_ 60), (0, u "java/lang/CharSequence$1CharIterator"), (5, .class_ 67), (0, u "java/lang/Object")] 63

/-- java/lang/CharSequence -/
def k5 : Class := { plain "java/lang/CharSequence" (some 0) with
  accessFlags := 1537
  interfaces := #[]
  cf := some (fileOf pool5 2 #[.nestMembers #[47, 59]] #[] 1537 66 #[] #[])
  fields := #[]
  methods := #[]
  instanceTypes := #[]
  staticTypes := #[]
  resolved := Array.replicate 131 none
  statics := none }

def pool6 : Array CpInfo := pool [(1, .class_ 2), (0, u "java/lang/constant/Constable"), (0, .class_ 4), (0, u "java/lang/Object")] 6

/-- java/lang/constant/Constable -/
def k6 : Class := { plain "java/lang/constant/Constable" (some 0) with
  accessFlags := 1537
  interfaces := #[]
  cf := some (fileOf pool6 1 #[] #[] 1537 3 #[] #[])
  fields := #[]
  methods := #[]
  instanceTypes := #[]
  staticTypes := #[]
  resolved := Array.replicate 11 none
  statics := none }

def pool7 : Array CpInfo := pool [(1, .class_ 2), (0, u "java/lang/constant/ConstantDesc"), (0, .class_ 4), (0, u "java/lang/Object")] 32

/-- java/lang/constant/ConstantDesc -/
def k7 : Class := { plain "java/lang/constant/ConstantDesc" (some 0) with
  accessFlags := 1537
  interfaces := #[]
  cf := some (fileOf pool7 1 #[] #[] 1537 3 #[] #[])
  fields := #[]
  methods := #[]
  instanceTypes := #[]
  staticTypes := #[]
  resolved := Array.replicate 37 none
  statics := none }

def pool8 : Array CpInfo := pool [(1, .methodref 2 3), (0, .class_ 4), (0, .nameAndType 5 6), (0, u "java/lang/Object"), (0, u "<init>"), (0, u "()V"), (0, .string 8), (0, u ""), (0, .fieldref 10 11), (0, .class_ 12), (0, .nameAndType 13 14), (0, u "java/lang/String"), (0, u "value"), (0, u "[B"), (0, .fieldref 10 16), (0, .nameAndType 17 18), (0, u "coder"), (0, u "B"), (2, u "hash"), (0, u "I"), (2, u "hashIsZero"), (0, u "Z"), (11, .fieldref 10 39), (0, .nameAndType 40 26), (0, u "COMPACT_STRINGS"), (13, .methodref 55 56), (0, .class_ 57), (0, .nameAndType 58 59), (0, u "java/util/Arrays"), (0, u "copyOfRange"), (0, u "([BII)[B"), (10, u "([BIII)V"), (36, .class_ 109), (1, u "java/lang/StringLatin1"), (32, u "()Z"), (50, .class_ 195), (1, u "java/lang/System"), (13, .methodref 10 210), (0, .nameAndType 5 211), (0, u "([BB)V"), (0, .methodref 193 213), (0, .nameAndType 214 215), (0, u "arraycopy"), (0, u "(Ljava/lang/Object;ILjava/lang/Object;II)V"), (118, u "()I"), (0, .methodref 10 336), (0, .nameAndType 17 337), (0, u "()B"), (2, u "()[B"), (22, u "([BI)C"), (27, u "(II)V"), (35, u "(I)C"), (61, .methodref 10 490), (0, .nameAndType 5 491), (0, u "(Ljava/lang/AbstractStringBuilder;Ljava/lang/Void;)V"), (0, .methodref 10 493), (0, .nameAndType 494 142), (0, u "isLatin1"), (0, .methodref 107 496), (0, .nameAndType 497 363), (0, u "charAt"), (3, u "checkIndex"), (4, .nameAndType 507 334), (0, u "length"), (24, u "getBytes"), (16, .methodref 550 506), (0, .class_ 551), (0, u "java/lang/AbstractStringBuilder"), (0, .methodref 550 553), (0, .nameAndType 554 340), (0, u "getValue"), (20, .class_ 576), (0, u "java/lang/CharSequence"), (22, u "CASE_INSENSITIVE_ORDER"), (0, u "Ljava/util/Comparator;"), (91, u "isEmpty"), (128, u "([BIB)V"), (69, u "repeat"), (0, u "(I)Ljava/lang/String;"), (50, .integer 2147483647), (100, .methodref 10 1045), (0, .nameAndType 1046 70), (0, u "repeatCopyRest"), (0, .methodref 550 493), (5, .fieldref 1054 1055), (0, .class_ 1056), (0, .nameAndType 1057 1058), (0, u "jdk/internal/util/Preconditions"), (0, u "SIOOBE_FORMATTER"), (0, u "Ljava/util/function/BiFunction;"), (0, .methodref 1054 1060), (0, .nameAndType 501 1061), (0, u "(IILjava/util/function/BiFunction;)I"), (39, u "serialPersistentFields"), (0, u "[Ljava/io/ObjectStreamField;"), (0, .class_ 1104), (0, u "java/lang/String$CaseInsensitiveComparator"), (1, .class_ 1107), (0, u "java/io/Serializable"), (0, .class_ 1109), (0, u "java/lang/Comparable"), (0, .class_ 1111), (0, u "java/lang/constant/Constable"), (0, .class_ 1113), (0, u "java/lang/constant/ConstantDesc"), (2, u "serialVersionUID"), (0, u "J"), (3, u "REPL"), (0, u "C"), (2, u "LATIN1"), (1, u "UTF16"), (105, u "(Ljava/lang/StringBuilder;)V")] 217

def k8m0 : Method := { name := "<init>", desc := "()V", sig := { parameters := [], returnType := none }, accessFlags := 1, code := none }
def k8c1 : Code := { maxStack := 3, maxLocals := 2, code := jdk_42_method_53_code, exceptionTable := #[], attributes := #[] }
def k8m1 : Method := { name := "<init>", desc := "(Ljava/lang/StringBuilder;)V", sig := { parameters := [(.object "java/lang/StringBuilder")], returnType := none }, accessFlags := 1, code := some k8c1 }
def k8c2 : Code := { maxStack := 2, maxLocals := 1, code := jdk_42_method_54_code, exceptionTable := #[], attributes := #[] }
def k8m2 : Method := { name := "length", desc := "()I", sig := { parameters := [], returnType := some .int }, accessFlags := 1, code := some k8c2 }
def k8c3 : Code := { maxStack := 1, maxLocals := 1, code := jdk_42_method_55_code, exceptionTable := #[], attributes := #[] }
def k8m3 : Method := { name := "isEmpty", desc := "()Z", sig := { parameters := [], returnType := some .boolean }, accessFlags := 1, code := some k8c3 }
def k8c4 : Code := { maxStack := 2, maxLocals := 2, code := jdk_42_method_56_code, exceptionTable := #[], attributes := #[] }
def k8m4 : Method := { name := "charAt", desc := "(I)C", sig := { parameters := [.int], returnType := some .char }, accessFlags := 1, code := some k8c4 }
def k8c5 : Code := { maxStack := 5, maxLocals := 5, code := jdk_42_method_145_code, exceptionTable := #[], attributes := #[] }
def k8m5 : Method := { name := "repeat", desc := "(I)Ljava/lang/String;", sig := { parameters := [.int], returnType := some (.object "java/lang/String") }, accessFlags := 1, code := some k8c5 }
def k8c6 : Code := { maxStack := 6, maxLocals := 4, code := jdk_42_method_146_code, exceptionTable := #[], attributes := #[] }
def k8m6 : Method := { name := "repeatCopyRest", desc := "([BIII)V", sig := { parameters := [(.array .byte), .int, .int, .int], returnType := none }, accessFlags := 8, code := some k8c6 }
def k8c7 : Code := { maxStack := 5, maxLocals := 4, code := jdk_42_method_147_code, exceptionTable := #[], attributes := #[] }
def k8m7 : Method := { name := "getBytes", desc := "([BIB)V", sig := { parameters := [(.array .byte), .int, .byte], returnType := none }, accessFlags := 0, code := some k8c7 }
def k8c8 : Code := { maxStack := 5, maxLocals := 5, code := jdk_42_method_150_code, exceptionTable := #[], attributes := #[] }
def k8m8 : Method := { name := "<init>", desc := "(Ljava/lang/AbstractStringBuilder;Ljava/lang/Void;)V", sig := { parameters := [(.object "java/lang/AbstractStringBuilder"), (.object "java/lang/Void")], returnType := none }, accessFlags := 0, code := some k8c8 }
def k8c9 : Code := { maxStack := 2, maxLocals := 3, code := jdk_42_method_151_code, exceptionTable := #[], attributes := #[] }
def k8m9 : Method := { name := "<init>", desc := "([BB)V", sig := { parameters := [(.array .byte), .byte], returnType := none }, accessFlags := 0, code := some k8c9 }
def k8c10 : Code := { maxStack := 1, maxLocals := 1, code := jdk_42_method_152_code, exceptionTable := #[], attributes := #[] }
def k8m10 : Method := { name := "coder", desc := "()B", sig := { parameters := [], returnType := some .byte }, accessFlags := 0, code := some k8c10 }
def k8c11 : Code := { maxStack := 1, maxLocals := 1, code := jdk_42_method_154_code, exceptionTable := #[], attributes := #[] }
def k8m11 : Method := { name := "isLatin1", desc := "()Z", sig := { parameters := [], returnType := some .boolean }, accessFlags := 0, code := some k8c11 }
def k8c12 : Code := { maxStack := 3, maxLocals := 2, code := jdk_42_method_155_code, exceptionTable := #[], attributes := #[] }
def k8m12 : Method := { name := "checkIndex", desc := "(II)V", sig := { parameters := [.int, .int], returnType := none }, accessFlags := 8, code := some k8c12 }
/-- java/lang/String -/
def k8 : Class := { plain "java/lang/String" (some 0) with
  accessFlags := 49
  interfaces := #[3, 4, 5, 6, 7]
  cf := some (fileOf pool8 10 #[.nestMembers #[1103]] #[{ accessFlags := 1, nameIndex := 5, descriptorIndex := 6, attributes := #[] }, { accessFlags := 1, nameIndex := 5, descriptorIndex := 1233, attributes := #[] }, { accessFlags := 1, nameIndex := 507, descriptorIndex := 334, attributes := #[] }, { accessFlags := 1, nameIndex := 692, descriptorIndex := 142, attributes := #[] }, { accessFlags := 1, nameIndex := 497, descriptorIndex := 427, attributes := #[] }, { accessFlags := 1, nameIndex := 891, descriptorIndex := 892, attributes := #[] }, { accessFlags := 8, nameIndex := 1046, descriptorIndex := 70, attributes := #[] }, { accessFlags := 0, nameIndex := 532, descriptorIndex := 821, attributes := #[] }, { accessFlags := 0, nameIndex := 5, descriptorIndex := 491, attributes := #[] }, { accessFlags := 0, nameIndex := 5, descriptorIndex := 211, attributes := #[] }, { accessFlags := 0, nameIndex := 17, descriptorIndex := 337, attributes := #[] }, { accessFlags := 0, nameIndex := 494, descriptorIndex := 142, attributes := #[] }, { accessFlags := 8, nameIndex := 501, descriptorIndex := 391, attributes := #[] }] 49 2 #[1106, 1108, 575, 1110, 1112] #[{ accessFlags := 18, nameIndex := 13, descriptorIndex := 14, attributes := #[] }, { accessFlags := 18, nameIndex := 17, descriptorIndex := 18, attributes := #[] }, { accessFlags := 2, nameIndex := 21, descriptorIndex := 22, attributes := #[] }, { accessFlags := 2, nameIndex := 25, descriptorIndex := 26, attributes := #[] }, { accessFlags := 26, nameIndex := 1116, descriptorIndex := 1117, attributes := #[] }, { accessFlags := 24, nameIndex := 40, descriptorIndex := 26, attributes := #[] }, { accessFlags := 26, nameIndex := 1101, descriptorIndex := 1102, attributes := #[] }, { accessFlags := 26, nameIndex := 1121, descriptorIndex := 1122, attributes := #[] }, { accessFlags := 25, nameIndex := 599, descriptorIndex := 600, attributes := #[] }, { accessFlags := 24, nameIndex := 1125, descriptorIndex := 18, attributes := #[] }, { accessFlags := 24, nameIndex := 1127, descriptorIndex := 18, attributes := #[] }])
  fields := #[{ name := "value", type := (.array .byte), accessFlags := 18, slot := 0, constantValue := 0 }, { name := "coder", type := .byte, accessFlags := 18, slot := 1, constantValue := 0 }, { name := "hash", type := .int, accessFlags := 2, slot := 2, constantValue := 0 }, { name := "hashIsZero", type := .boolean, accessFlags := 2, slot := 3, constantValue := 0 }, { name := "serialVersionUID", type := .long, accessFlags := 26, slot := 0, constantValue := 0 }, { name := "COMPACT_STRINGS", type := .boolean, accessFlags := 24, slot := 1, constantValue := 0 }, { name := "serialPersistentFields", type := (.array (.object "java/io/ObjectStreamField")), accessFlags := 26, slot := 2, constantValue := 0 }, { name := "REPL", type := .char, accessFlags := 26, slot := 3, constantValue := 0 }, { name := "CASE_INSENSITIVE_ORDER", type := (.object "java/util/Comparator"), accessFlags := 25, slot := 4, constantValue := 0 }, { name := "LATIN1", type := .byte, accessFlags := 24, slot := 5, constantValue := 0 }, { name := "UTF16", type := .byte, accessFlags := 24, slot := 6, constantValue := 0 }]
  methods := #[k8m0, k8m1, k8m2, k8m3, k8m4, k8m5, k8m6, k8m7, k8m8, k8m9, k8m10, k8m11, k8m12]
  instanceTypes := #[(.array .byte), .byte, .int, .boolean]
  staticTypes := #[.long, .boolean, (.array (.object "java/io/ObjectStreamField")), .char, (.object "java/util/Comparator"), .byte, .byte]
  resolved := Array.replicate 1451 none
  statics := some 0 }

def pool9 : Array CpInfo := pool [(1, .class_ 2), (0, u "java/lang/Appendable"), (0, .class_ 4), (0, u "java/lang/Object")] 9

/-- java/lang/Appendable -/
def k9 : Class := { plain "java/lang/Appendable" (some 0) with
  accessFlags := 1537
  interfaces := #[]
  cf := some (fileOf pool9 1 #[] #[] 1537 3 #[] #[])
  fields := #[]
  methods := #[]
  instanceTypes := #[]
  staticTypes := #[]
  resolved := Array.replicate 14 none
  statics := none }

def pool10 : Array CpInfo := pool [(1, .class_ 2), (0, u "java/lang/String"), (0, .methodref 4 5), (0, .class_ 6), (0, .nameAndType 7 8), (0, u "java/lang/Object"), (0, u "<init>"), (0, u "()V"), (1, .class_ 12), (1, u "java/lang/AbstractStringBuilder"), (0, u "EMPTYVALUE"), (0, u "[B"), (0, .fieldref 10 16), (0, .nameAndType 17 14), (0, u "value"), (0, .fieldref 1 19), (0, .nameAndType 20 21), (0, u "COMPACT_STRINGS"), (0, u "Z"), (0, .fieldref 10 23), (0, .nameAndType 24 25), (0, u "coder"), (0, u "B"), (6, .methodref 1 33), (0, .nameAndType 34 35), (0, u "length"), (0, u "()I"), (3, .integer 2147483647), (0, .methodref 1 41), (0, .nameAndType 24 42), (0, u "()B"), (2, u "append"), (0, u "(Ljava/lang/String;)Ljava/lang/AbstractStringBuilder;"), (1, .class_ 49), (0, u "java/lang/CharSequence"), (19, u "(Ljava/lang/String;)V"), (5, u "maybeLatin1"), (3, .fieldref 10 80), (0, .nameAndType 81 82), (0, u "count"), (0, u "I"), (0, .methodref 10 84), (0, .nameAndType 85 86), (0, u "isLatin1"), (0, u "()Z"), (1, .class_ 90), (1, u "java/lang/StringLatin1"), (9, .methodref 10 101), (0, .nameAndType 102 103), (0, u "ensureCapacityInternal"), (0, u "(I)V"), (0, .methodref 10 105), (0, .nameAndType 106 107), (0, u "newCapacity"), (0, u "(I)I"), (0, .methodref 109 110), (0, .class_ 111), (0, .nameAndType 112 113), (0, u "java/util/Arrays"), (0, u "copyOf"), (0, u "([BI)[B"), (0, .methodref 115 116), (0, .class_ 117), (0, .nameAndType 118 119), (0, u "jdk/internal/util/ArraysSupport"), (0, u "newLength"), (0, u "(III)I"), (71, .methodref 88 192), (0, .nameAndType 193 194), (0, u "canEncode"), (0, u "(C)Z"), (13, .methodref 10 209), (0, .nameAndType 210 211), (0, u "putStringAt"), (0, u "(ILjava/lang/String;)V"), (5, u "inflateIfNeededFor"), (2, .nameAndType 221 222), (0, u "getBytes"), (0, u "([BIB)V"), (69, u "(C)Ljava/lang/AbstractStringBuilder;"), (104, .methodref 10 398), (0, .nameAndType 217 69), (0, .methodref 1 220), (3, u "()[B"), (40, .class_ 445), (0, u "java/lang/Appendable"), (106, u "getValue")] 56

def k10m0 : Method := { name := "<init>", desc := "()V", sig := { parameters := [], returnType := none }, accessFlags := 0, code := none }
def k10c1 : Code := { maxStack := 2, maxLocals := 2, code := jdk_68_method_2_code, exceptionTable := #[], attributes := #[] }
def k10m1 : Method := { name := "<init>", desc := "(I)V", sig := { parameters := [.int], returnType := none }, accessFlags := 0, code := some k10c1 }
def k10c2 : Code := { maxStack := 1, maxLocals := 1, code := jdk_68_method_6_code, exceptionTable := #[], attributes := #[] }
def k10m2 : Method := { name := "length", desc := "()I", sig := { parameters := [], returnType := some .int }, accessFlags := 1, code := some k10c2 }
def k10c3 : Code := { maxStack := 4, maxLocals := 3, code := jdk_68_method_9_code, exceptionTable := #[], attributes := #[] }
def k10m3 : Method := { name := "ensureCapacityInternal", desc := "(I)V", sig := { parameters := [.int], returnType := none }, accessFlags := 2, code := some k10c3 }
def k10c4 : Code := { maxStack := 5, maxLocals := 6, code := jdk_68_method_10_code, exceptionTable := #[], attributes := #[] }
def k10m4 : Method := { name := "newCapacity", desc := "(I)I", sig := { parameters := [.int], returnType := some .int }, accessFlags := 2, code := some k10c4 }
def k10c5 : Code := { maxStack := 3, maxLocals := 3, code := jdk_68_method_22_code, exceptionTable := #[], attributes := #[] }
def k10m5 : Method := { name := "append", desc := "(Ljava/lang/String;)Ljava/lang/AbstractStringBuilder;", sig := { parameters := [(.object "java/lang/String")], returnType := some (.object "java/lang/AbstractStringBuilder") }, accessFlags := 1, code := some k10c5 }
def k10c6 : Code := { maxStack := 5, maxLocals := 2, code := jdk_68_method_31_code, exceptionTable := #[], attributes := #[] }
def k10m6 : Method := { name := "append", desc := "(C)Ljava/lang/AbstractStringBuilder;", sig := { parameters := [.char], returnType := some (.object "java/lang/AbstractStringBuilder") }, accessFlags := 1, code := some k10c6 }
def k10c7 : Code := { maxStack := 1, maxLocals := 1, code := jdk_68_method_64_code, exceptionTable := #[], attributes := #[] }
def k10m7 : Method := { name := "getValue", desc := "()[B", sig := { parameters := [], returnType := some (.array .byte) }, accessFlags := 16, code := some k10c7 }
def k10c8 : Code := { maxStack := 1, maxLocals := 1, code := jdk_68_method_68_code, exceptionTable := #[], attributes := #[] }
def k10m8 : Method := { name := "isLatin1", desc := "()Z", sig := { parameters := [], returnType := some .boolean }, accessFlags := 16, code := some k10c8 }
def k10c9 : Code := { maxStack := 2, maxLocals := 2, code := jdk_68_method_71_code, exceptionTable := #[], attributes := #[] }
def k10m9 : Method := { name := "inflateIfNeededFor", desc := "(Ljava/lang/String;)V", sig := { parameters := [(.object "java/lang/String")], returnType := none }, accessFlags := 2, code := some k10c9 }
def k10c10 : Code := { maxStack := 4, maxLocals := 3, code := jdk_68_method_73_code, exceptionTable := #[], attributes := #[] }
def k10m10 : Method := { name := "putStringAt", desc := "(ILjava/lang/String;)V", sig := { parameters := [.int, (.object "java/lang/String")], returnType := none }, accessFlags := 2, code := some k10c10 }
/-- java/lang/AbstractStringBuilder -/
def k10 : Class := { plain "java/lang/AbstractStringBuilder" (some 0) with
  accessFlags := 1056
  interfaces := #[9, 5]
  cf := some (fileOf pool10 10 #[] #[{ accessFlags := 0, nameIndex := 7, descriptorIndex := 8, attributes := #[] }, { accessFlags := 0, nameIndex := 7, descriptorIndex := 103, attributes := #[] }, { accessFlags := 1, nameIndex := 34, descriptorIndex := 35, attributes := #[] }, { accessFlags := 2, nameIndex := 102, descriptorIndex := 103, attributes := #[] }, { accessFlags := 2, nameIndex := 106, descriptorIndex := 107, attributes := #[] }, { accessFlags := 1, nameIndex := 45, descriptorIndex := 46, attributes := #[] }, { accessFlags := 1, nameIndex := 45, descriptorIndex := 292, attributes := #[] }, { accessFlags := 16, nameIndex := 552, descriptorIndex := 403, attributes := #[] }, { accessFlags := 16, nameIndex := 85, descriptorIndex := 86, attributes := #[] }, { accessFlags := 2, nameIndex := 217, descriptorIndex := 69, attributes := #[] }, { accessFlags := 2, nameIndex := 210, descriptorIndex := 211, attributes := #[] }] 1056 4 #[444, 48] #[{ accessFlags := 0, nameIndex := 17, descriptorIndex := 14, attributes := #[] }, { accessFlags := 0, nameIndex := 24, descriptorIndex := 25, attributes := #[] }, { accessFlags := 0, nameIndex := 75, descriptorIndex := 21, attributes := #[] }, { accessFlags := 0, nameIndex := 81, descriptorIndex := 82, attributes := #[] }, { accessFlags := 26, nameIndex := 13, descriptorIndex := 14, attributes := #[] }])
  fields := #[{ name := "value", type := (.array .byte), accessFlags := 0, slot := 0, constantValue := 0 }, { name := "coder", type := .byte, accessFlags := 0, slot := 1, constantValue := 0 }, { name := "maybeLatin1", type := .boolean, accessFlags := 0, slot := 2, constantValue := 0 }, { name := "count", type := .int, accessFlags := 0, slot := 3, constantValue := 0 }, { name := "EMPTYVALUE", type := (.array .byte), accessFlags := 26, slot := 0, constantValue := 0 }]
  methods := #[k10m0, k10m1, k10m2, k10m3, k10m4, k10m5, k10m6, k10m7, k10m8, k10m9, k10m10]
  instanceTypes := #[(.array .byte), .byte, .boolean, .int]
  staticTypes := #[(.array .byte)]
  resolved := Array.replicate 609 none
  statics := none }

def pool11 : Array CpInfo := pool [(1, .methodref 2 3), (0, .class_ 4), (0, .nameAndType 5 6), (0, u "java/lang/AbstractStringBuilder"), (0, u "<init>"), (0, u "(I)V"), (11, .class_ 20), (1, u "java/lang/String"), (3, .class_ 26), (1, u "java/lang/StringBuilder"), (0, u "append"), (0, u "(Ljava/lang/String;)Ljava/lang/StringBuilder;"), (0, .methodref 2 30), (0, .nameAndType 27 31), (0, u "(Ljava/lang/String;)Ljava/lang/AbstractStringBuilder;"), (18, .methodref 2 51), (0, .nameAndType 27 52), (0, u "(C)Ljava/lang/AbstractStringBuilder;"), (84, .methodref 18 138), (0, .nameAndType 5 139), (0, u "(Ljava/lang/StringBuilder;)V"), (5, u "()V"), (10, u "()I"), (129, u "(C)Ljava/lang/StringBuilder;"), (56, .methodref 2 344), (0, .nameAndType 345 156), (0, u "length"), (3, .class_ 350), (0, u "java/lang/Appendable"), (0, .class_ 352), (0, u "java/io/Serializable"), (0, .class_ 354), (0, u "java/lang/Comparable"), (0, .class_ 356), (0, u "java/lang/CharSequence"), (0, u "serialVersionUID"), (0, u "J"), (40, u "toString"), (0, u "()Ljava/lang/String;")] 21

def k11c0 : Code := { maxStack := 2, maxLocals := 1, code := jdk_67_method_1_code, exceptionTable := #[], attributes := #[] }
def k11m0 : Method := { name := "<init>", desc := "()V", sig := { parameters := [], returnType := none }, accessFlags := 1, code := some k11c0 }
def k11c1 : Code := { maxStack := 2, maxLocals := 2, code := jdk_67_method_7_code, exceptionTable := #[], attributes := #[] }
def k11m1 : Method := { name := "append", desc := "(Ljava/lang/String;)Ljava/lang/StringBuilder;", sig := { parameters := [(.object "java/lang/String")], returnType := some (.object "java/lang/StringBuilder") }, accessFlags := 1, code := some k11c1 }
def k11c2 : Code := { maxStack := 2, maxLocals := 2, code := jdk_67_method_14_code, exceptionTable := #[], attributes := #[] }
def k11m2 : Method := { name := "append", desc := "(C)Ljava/lang/StringBuilder;", sig := { parameters := [.char], returnType := some (.object "java/lang/StringBuilder") }, accessFlags := 1, code := some k11c2 }
def k11c3 : Code := { maxStack := 3, maxLocals := 1, code := jdk_67_method_42_code, exceptionTable := #[], attributes := #[] }
def k11m3 : Method := { name := "toString", desc := "()Ljava/lang/String;", sig := { parameters := [], returnType := some (.object "java/lang/String") }, accessFlags := 1, code := some k11c3 }
def k11c4 : Code := { maxStack := 1, maxLocals := 1, code := jdk_67_method_93_code, exceptionTable := #[], attributes := #[] }
def k11m4 : Method := { name := "length", desc := "()I", sig := { parameters := [], returnType := some .int }, accessFlags := 4161, code := some k11c4 }
/-- java/lang/StringBuilder -/
def k11 : Class := { plain "java/lang/StringBuilder" (some 10) with
  accessFlags := 49
  interfaces := #[9, 3, 4, 5]
  cf := some (fileOf pool11 24 #[] #[{ accessFlags := 1, nameIndex := 5, descriptorIndex := 145, attributes := #[] }, { accessFlags := 1, nameIndex := 27, descriptorIndex := 28, attributes := #[] }, { accessFlags := 1, nameIndex := 27, descriptorIndex := 286, attributes := #[] }, { accessFlags := 1, nameIndex := 399, descriptorIndex := 400, attributes := #[] }, { accessFlags := 4161, nameIndex := 345, descriptorIndex := 156, attributes := #[] }] 49 2 #[349, 351, 353, 355] #[{ accessFlags := 24, nameIndex := 357, descriptorIndex := 358, attributes := #[] }])
  fields := #[{ name := "serialVersionUID", type := .long, accessFlags := 24, slot := 0, constantValue := 0 }]
  methods := #[k11m0, k11m1, k11m2, k11m3, k11m4]
  instanceTypes := #[(.array .byte), .byte, .boolean, .int]
  staticTypes := #[.long]
  resolved := Array.replicate 422 none
  statics := none }

def pool12 : Array CpInfo := pool [(9, u "<init>"), (6, .class_ 18), (1, u "java/lang/Object"), (0, u "()V"), (1, .class_ 23), (1, u "jdk/internal/util/ArraysSupport"), (0, u "LOG2_ARRAY_LONG_INDEX_SCALE"), (0, u "I"), (2, u "U"), (0, u "Ljdk/internal/misc/Unsafe;"), (8, u "BIG_ENDIAN"), (0, u "Z"), (8, u "LOG2_BYTE_BIT_SIZE"), (4, u "LOG2_ARRAY_INT_INDEX_SCALE"), (54, u "JLA"), (0, u "Ljdk/internal/access/JavaLangAccess;"), (11, u "LOG2_ARRAY_BOOLEAN_INDEX_SCALE"), (9, u "LOG2_ARRAY_BYTE_INDEX_SCALE"), (5, u "LOG2_ARRAY_CHAR_INDEX_SCALE"), (5, u "LOG2_ARRAY_SHORT_INDEX_SCALE"), (18, u "LOG2_ARRAY_FLOAT_INDEX_SCALE"), (24, u "LOG2_ARRAY_DOUBLE_INDEX_SCALE"), (6, .methodref 195 196), (0, .class_ 197), (0, .nameAndType 198 199), (0, u "java/lang/Math"), (0, u "max"), (0, u "(II)I"), (0, .integer 2147483639), (76, u "T_BOOLEAN"), (2, u "T_CHAR"), (1, u "T_FLOAT"), (1, u "T_DOUBLE"), (1, u "T_BYTE"), (1, u "T_SHORT"), (1, u "T_INT"), (1, u "T_LONG"), (1, u "SOFT_MAX_ARRAY_LENGTH"), (56, u "newLength"), (0, u "(III)I")] 25

def k12m0 : Method := { name := "<init>", desc := "()V", sig := { parameters := [], returnType := none }, accessFlags := 2, code := none }
def k12c1 : Code := { maxStack := 3, maxLocals := 4, code := jdk_48_method_27_code, exceptionTable := #[], attributes := #[] }
def k12m1 : Method := { name := "newLength", desc := "(III)I", sig := { parameters := [.int, .int, .int], returnType := some .int }, accessFlags := 9, code := some k12c1 }
/-- jdk/internal/util/ArraysSupport -/
def k12 : Class := { plain "jdk/internal/util/ArraysSupport" (some 0) with
  accessFlags := 33
  interfaces := #[]
  cf := some (fileOf pool12 21 #[] #[{ accessFlags := 2, nameIndex := 9, descriptorIndex := 19, attributes := #[] }, { accessFlags := 9, nameIndex := 351, descriptorIndex := 352, attributes := #[] }] 33 16 #[] #[{ accessFlags := 24, nameIndex := 28, descriptorIndex := 29, attributes := #[] }, { accessFlags := 26, nameIndex := 38, descriptorIndex := 39, attributes := #[] }, { accessFlags := 25, nameIndex := 121, descriptorIndex := 25, attributes := #[] }, { accessFlags := 25, nameIndex := 131, descriptorIndex := 25, attributes := #[] }, { accessFlags := 25, nameIndex := 137, descriptorIndex := 25, attributes := #[] }, { accessFlags := 25, nameIndex := 143, descriptorIndex := 25, attributes := #[] }, { accessFlags := 25, nameIndex := 53, descriptorIndex := 25, attributes := #[] }, { accessFlags := 25, nameIndex := 24, descriptorIndex := 25, attributes := #[] }, { accessFlags := 25, nameIndex := 162, descriptorIndex := 25, attributes := #[] }, { accessFlags := 25, nameIndex := 187, descriptorIndex := 25, attributes := #[] }, { accessFlags := 26, nameIndex := 48, descriptorIndex := 25, attributes := #[] }, { accessFlags := 25, nameIndex := 277, descriptorIndex := 25, attributes := #[] }, { accessFlags := 25, nameIndex := 280, descriptorIndex := 25, attributes := #[] }, { accessFlags := 25, nameIndex := 282, descriptorIndex := 25, attributes := #[] }, { accessFlags := 25, nameIndex := 284, descriptorIndex := 25, attributes := #[] }, { accessFlags := 25, nameIndex := 286, descriptorIndex := 25, attributes := #[] }, { accessFlags := 25, nameIndex := 288, descriptorIndex := 25, attributes := #[] }, { accessFlags := 25, nameIndex := 290, descriptorIndex := 25, attributes := #[] }, { accessFlags := 25, nameIndex := 292, descriptorIndex := 25, attributes := #[] }, { accessFlags := 26, nameIndex := 108, descriptorIndex := 109, attributes := #[] }, { accessFlags := 25, nameIndex := 294, descriptorIndex := 25, attributes := #[] }])
  fields := #[{ name := "U", type := (.object "jdk/internal/misc/Unsafe"), accessFlags := 24, slot := 0, constantValue := 0 }, { name := "BIG_ENDIAN", type := .boolean, accessFlags := 26, slot := 1, constantValue := 0 }, { name := "LOG2_ARRAY_BOOLEAN_INDEX_SCALE", type := .int, accessFlags := 25, slot := 2, constantValue := 0 }, { name := "LOG2_ARRAY_BYTE_INDEX_SCALE", type := .int, accessFlags := 25, slot := 3, constantValue := 0 }, { name := "LOG2_ARRAY_CHAR_INDEX_SCALE", type := .int, accessFlags := 25, slot := 4, constantValue := 0 }, { name := "LOG2_ARRAY_SHORT_INDEX_SCALE", type := .int, accessFlags := 25, slot := 5, constantValue := 0 }, { name := "LOG2_ARRAY_INT_INDEX_SCALE", type := .int, accessFlags := 25, slot := 6, constantValue := 0 }, { name := "LOG2_ARRAY_LONG_INDEX_SCALE", type := .int, accessFlags := 25, slot := 7, constantValue := 0 }, { name := "LOG2_ARRAY_FLOAT_INDEX_SCALE", type := .int, accessFlags := 25, slot := 8, constantValue := 0 }, { name := "LOG2_ARRAY_DOUBLE_INDEX_SCALE", type := .int, accessFlags := 25, slot := 9, constantValue := 0 }, { name := "LOG2_BYTE_BIT_SIZE", type := .int, accessFlags := 26, slot := 10, constantValue := 0 }, { name := "T_BOOLEAN", type := .int, accessFlags := 25, slot := 11, constantValue := 0 }, { name := "T_CHAR", type := .int, accessFlags := 25, slot := 12, constantValue := 0 }, { name := "T_FLOAT", type := .int, accessFlags := 25, slot := 13, constantValue := 0 }, { name := "T_DOUBLE", type := .int, accessFlags := 25, slot := 14, constantValue := 0 }, { name := "T_BYTE", type := .int, accessFlags := 25, slot := 15, constantValue := 0 }, { name := "T_SHORT", type := .int, accessFlags := 25, slot := 16, constantValue := 0 }, { name := "T_INT", type := .int, accessFlags := 25, slot := 17, constantValue := 0 }, { name := "T_LONG", type := .int, accessFlags := 25, slot := 18, constantValue := 0 }, { name := "JLA", type := (.object "jdk/internal/access/JavaLangAccess"), accessFlags := 26, slot := 19, constantValue := 0 }, { name := "SOFT_MAX_ARRAY_LENGTH", type := .int, accessFlags := 25, slot := 20, constantValue := 0 }]
  methods := #[k12m0, k12m1]
  instanceTypes := #[]
  staticTypes := #[(.object "jdk/internal/misc/Unsafe"), .boolean, .int, .int, .int, .int, .int, .int, .int, .int, .int, .int, .int, .int, .int, .int, .int, .int, .int, (.object "jdk/internal/access/JavaLangAccess"), .int]
  resolved := Array.replicate 378 none
  statics := none }

def pool13 : Array CpInfo := pool [(1, .class_ 2), (0, u "java/lang/Math"), (1, .class_ 6), (1, u "java/lang/Object"), (0, u "<init>"), (0, u "()V"), (89, .class_ 100), (1, u "java/lang/Math$RandomNumberGeneratorHolder"), (71, u "negativeZeroFloatBits"), (0, u "J"), (2, u "negativeZeroDoubleBits"), (21, u "max"), (2, u "min"), (43, u "$assertionsDisabled"), (0, u "Z"), (88, u "(II)I"), (2, u "twoToTheDoubleScaleDown"), (0, u "D"), (4, u "twoToTheDoubleScaleUp"), (9, u "E"), (3, u "PI"), (2, u "TAU"), (2, u "DEGREES_TO_RADIANS"), (0, u "RADIANS_TO_DEGREES")] 94

def k13m0 : Method := { name := "<init>", desc := "()V", sig := { parameters := [], returnType := none }, accessFlags := 2, code := none }
def k13c1 : Code := { maxStack := 2, maxLocals := 2, code := jdk_29_method_65_code, exceptionTable := #[], attributes := #[] }
def k13m1 : Method := { name := "max", desc := "(II)I", sig := { parameters := [.int, .int], returnType := some .int }, accessFlags := 9, code := some k13c1 }
def k13c2 : Code := { maxStack := 2, maxLocals := 2, code := jdk_29_method_69_code, exceptionTable := #[], attributes := #[] }
def k13m2 : Method := { name := "min", desc := "(II)I", sig := { parameters := [.int, .int], returnType := some .int }, accessFlags := 9, code := some k13c2 }
/-- java/lang/Math -/
def k13 : Class := { plain "java/lang/Math" (some 0) with
  accessFlags := 49
  interfaces := #[]
  cf := some (fileOf pool13 1 #[.nestMembers #[98]] #[{ accessFlags := 2, nameIndex := 7, descriptorIndex := 8, attributes := #[] }, { accessFlags := 9, nameIndex := 198, descriptorIndex := 335, attributes := #[] }, { accessFlags := 9, nameIndex := 201, descriptorIndex := 335, attributes := #[] }] 49 4 #[] #[{ accessFlags := 25, nameIndex := 354, descriptorIndex := 339, attributes := #[] }, { accessFlags := 25, nameIndex := 358, descriptorIndex := 339, attributes := #[] }, { accessFlags := 25, nameIndex := 361, descriptorIndex := 339, attributes := #[] }, { accessFlags := 26, nameIndex := 364, descriptorIndex := 339, attributes := #[] }, { accessFlags := 26, nameIndex := 365, descriptorIndex := 339, attributes := #[] }, { accessFlags := 26, nameIndex := 172, descriptorIndex := 173, attributes := #[] }, { accessFlags := 26, nameIndex := 176, descriptorIndex := 173, attributes := #[] }, { accessFlags := 8, nameIndex := 344, descriptorIndex := 339, attributes := #[] }, { accessFlags := 8, nameIndex := 338, descriptorIndex := 339, attributes := #[] }, { accessFlags := 4120, nameIndex := 245, descriptorIndex := 246, attributes := #[] }])
  fields := #[{ name := "E", type := .double, accessFlags := 25, slot := 0, constantValue := 0 }, { name := "PI", type := .double, accessFlags := 25, slot := 1, constantValue := 0 }, { name := "TAU", type := .double, accessFlags := 25, slot := 2, constantValue := 0 }, { name := "DEGREES_TO_RADIANS", type := .double, accessFlags := 26, slot := 3, constantValue := 0 }, { name := "RADIANS_TO_DEGREES", type := .double, accessFlags := 26, slot := 4, constantValue := 0 }, { name := "negativeZeroFloatBits", type := .long, accessFlags := 26, slot := 5, constantValue := 0 }, { name := "negativeZeroDoubleBits", type := .long, accessFlags := 26, slot := 6, constantValue := 0 }, { name := "twoToTheDoubleScaleUp", type := .double, accessFlags := 8, slot := 7, constantValue := 0 }, { name := "twoToTheDoubleScaleDown", type := .double, accessFlags := 8, slot := 8, constantValue := 0 }, { name := "$assertionsDisabled", type := .boolean, accessFlags := 4120, slot := 9, constantValue := 0 }]
  methods := #[k13m0, k13m1, k13m2]
  instanceTypes := #[]
  staticTypes := #[.double, .double, .double, .double, .double, .long, .long, .double, .double, .boolean]
  resolved := Array.replicate 460 none
  statics := none }

def pool14 : Array CpInfo := pool [(2, .class_ 4), (1, u "java/lang/Object"), (0, u "<init>"), (0, u "()V"), (7, .class_ 16), (1, u "java/util/Arrays"), (57, .class_ 76), (1, u "java/util/Arrays$NaturalOrder"), (32, u "()Ljava/lang/Object;"), (3, .class_ 115), (1, u "java/util/Arrays$LegacyMergeSort"), (1, u "Z"), (10, .nameAndType 129 109), (0, u "clone"), (9, u "copyOfRange"), (10, .methodref 151 152), (0, .class_ 153), (0, .nameAndType 154 155), (0, u "java/lang/System"), (0, u "arraycopy"), (0, u "(Ljava/lang/Object;ILjava/lang/Object;II)V"), (146, u "copyOf"), (1, .methodref 305 306), (0, .class_ 307), (0, .nameAndType 308 309), (0, u "java/lang/Math"), (0, u "min"), (0, u "(II)I"), (0, .methodref 311 128), (0, .class_ 312), (0, u "[B"), (26, .methodref 14 340), (0, .nameAndType 341 342), (0, u "copyOfRangeByte"), (0, u "([BII)[B"), (0, .methodref 14 344), (0, .nameAndType 345 346), (0, u "checkLength"), (0, u "(II)V"), (28, .class_ 376), (0, u "java/util/Arrays$ArrayList"), (68, u "$assertionsDisabled"), (269, u "MIN_ARRAY_SORT_GRAN"), (0, u "I"), (2, u "INSERTIONSORT_THRESHOLD"), (149, u "([BI)[B"), (105, .class_ 976), (0, u "java/util/Arrays$ArrayItr")] 52

def k14m0 : Method := { name := "<init>", desc := "()V", sig := { parameters := [], returnType := none }, accessFlags := 2, code := none }
def k14c1 : Code := { maxStack := 6, maxLocals := 3, code := jdk_65_method_121_code, exceptionTable := #[], attributes := #[] }
def k14m1 : Method := { name := "copyOf", desc := "([BI)[B", sig := { parameters := [(.array .byte), .int], returnType := some (.array .byte) }, accessFlags := 9, code := some k14c1 }
def k14c2 : Code := { maxStack := 4, maxLocals := 2, code := jdk_65_method_131_code, exceptionTable := #[], attributes := #[] }
def k14m2 : Method := { name := "checkLength", desc := "(II)V", sig := { parameters := [.int, .int], returnType := none }, accessFlags := 10, code := some k14c2 }
def k14c3 : Code := { maxStack := 3, maxLocals := 3, code := jdk_65_method_132_code, exceptionTable := #[], attributes := #[] }
def k14m3 : Method := { name := "copyOfRange", desc := "([BII)[B", sig := { parameters := [(.array .byte), .int, .int], returnType := some (.array .byte) }, accessFlags := 9, code := some k14c3 }
def k14c4 : Code := { maxStack := 6, maxLocals := 5, code := jdk_65_method_133_code, exceptionTable := #[], attributes := #[] }
def k14m4 : Method := { name := "copyOfRangeByte", desc := "([BII)[B", sig := { parameters := [(.array .byte), .int, .int], returnType := some (.array .byte) }, accessFlags := 10, code := some k14c4 }
/-- java/util/Arrays -/
def k14 : Class := { plain "java/util/Arrays" (some 0) with
  accessFlags := 49
  interfaces := #[]
  cf := some (fileOf pool14 14 #[.nestMembers #[975, 375, 113, 74]] #[{ accessFlags := 2, nameIndex := 5, descriptorIndex := 6, attributes := #[] }, { accessFlags := 9, nameIndex := 302, descriptorIndex := 869, attributes := #[] }, { accessFlags := 10, nameIndex := 345, descriptorIndex := 346, attributes := #[] }, { accessFlags := 9, nameIndex := 139, descriptorIndex := 342, attributes := #[] }, { accessFlags := 10, nameIndex := 341, descriptorIndex := 342, attributes := #[] }] 49 2 #[] #[{ accessFlags := 26, nameIndex := 715, descriptorIndex := 716, attributes := #[] }, { accessFlags := 26, nameIndex := 719, descriptorIndex := 716, attributes := #[] }, { accessFlags := 4120, nameIndex := 445, descriptorIndex := 117, attributes := #[] }])
  fields := #[{ name := "MIN_ARRAY_SORT_GRAN", type := .int, accessFlags := 26, slot := 0, constantValue := 0 }, { name := "INSERTIONSORT_THRESHOLD", type := .int, accessFlags := 26, slot := 1, constantValue := 0 }, { name := "$assertionsDisabled", type := .boolean, accessFlags := 4120, slot := 2, constantValue := 0 }]
  methods := #[k14m0, k14m1, k14m2, k14m3, k14m4]
  instanceTypes := #[]
  staticTypes := #[.int, .int, .boolean]
  resolved := Array.replicate 1029 none
  statics := none }

def pool15 : Array CpInfo := pool [(2, .class_ 4), (1, u "java/lang/Object"), (0, u "<init>"), (0, u "()V"), (1, .class_ 10), (1, u "java/lang/System"), (0, u "allowSecurityManager"), (0, u "I"), (16, u "cons"), (0, u "Ljava/io/Console;"), (77, .class_ 110), (1, u "java/lang/System$CallersHolder"), (43, u "initialErrStream"), (0, u "Ljava/io/PrintStream;"), (19, u "security"), (0, u "Ljava/lang/SecurityManager;"), (31, .class_ 209), (0, u "java/lang/System$1"), (7, u "props"), (0, u "Ljava/util/Properties;"), (2, u "lineSeparator"), (0, u "Ljava/lang/String;"), (96, .class_ 321), (1, u "java/lang/System$LoggerFinder"), (5, .class_ 328), (0, u "java/lang/System$Logger"), (67, u "err"), (2, u "out"), (91, u "notSupportedJnuEncoding"), (15, u "in"), (17, u "initialIn"), (0, u "Ljava/io/InputStream;"), (35, u "bootLayer"), (0, u "Ljava/lang/ModuleLayer;"), (99, .class_ 664), (0, u "java/lang/System$2"), (9, u "NEVER"), (2, u "MAYBE"), (49, u "arraycopy"), (0, u "(Ljava/lang/Object;ILjava/lang/Object;II)V"), (72, .class_ 802), (0, u "java/lang/System$Logger$Level")] 31

def k15m0 : Method := { name := "<init>", desc := "()V", sig := { parameters := [], returnType := none }, accessFlags := 2, code := none }
def k15m1 : Method := { name := "arraycopy", desc := "(Ljava/lang/Object;ILjava/lang/Object;II)V", sig := { parameters := [(.object "java/lang/Object"), .int, (.object "java/lang/Object"), .int, .int], returnType := none }, accessFlags := 265, code := none }
/-- java/lang/System -/
def k15 : Class := { plain "java/lang/System" (some 0) with
  accessFlags := 49
  interfaces := #[]
  cf := some (fileOf pool15 8 #[.nestMembers #[319, 327, 801, 108, 663, 208]] #[{ accessFlags := 2, nameIndex := 5, descriptorIndex := 6, attributes := #[] }, { accessFlags := 265, nameIndex := 727, descriptorIndex := 728, attributes := #[] }] 49 2 #[] #[{ accessFlags := 25, nameIndex := 507, descriptorIndex := 526, attributes := #[] }, { accessFlags := 25, nameIndex := 399, descriptorIndex := 155, attributes := #[] }, { accessFlags := 25, nameIndex := 396, descriptorIndex := 155, attributes := #[] }, { accessFlags := 10, nameIndex := 525, descriptorIndex := 526, attributes := #[] }, { accessFlags := 26, nameIndex := 674, descriptorIndex := 12, attributes := #[] }, { accessFlags := 26, nameIndex := 677, descriptorIndex := 12, attributes := #[] }, { accessFlags := 10, nameIndex := 11, descriptorIndex := 12, attributes := #[] }, { accessFlags := 74, nameIndex := 175, descriptorIndex := 176, attributes := #[] }, { accessFlags := 10, nameIndex := 491, descriptorIndex := 222, attributes := #[] }, { accessFlags := 74, nameIndex := 29, descriptorIndex := 30, attributes := #[] }, { accessFlags := 74, nameIndex := 154, descriptorIndex := 155, attributes := #[] }, { accessFlags := 10, nameIndex := 217, descriptorIndex := 218, attributes := #[] }, { accessFlags := 10, nameIndex := 221, descriptorIndex := 222, attributes := #[] }, { accessFlags := 8, nameIndex := 562, descriptorIndex := 563, attributes := #[] }])
  fields := #[{ name := "in", type := (.object "java/io/InputStream"), accessFlags := 25, slot := 0, constantValue := 0 }, { name := "out", type := (.object "java/io/PrintStream"), accessFlags := 25, slot := 1, constantValue := 0 }, { name := "err", type := (.object "java/io/PrintStream"), accessFlags := 25, slot := 2, constantValue := 0 }, { name := "initialIn", type := (.object "java/io/InputStream"), accessFlags := 10, slot := 3, constantValue := 0 }, { name := "NEVER", type := .int, accessFlags := 26, slot := 4, constantValue := 0 }, { name := "MAYBE", type := .int, accessFlags := 26, slot := 5, constantValue := 0 }, { name := "allowSecurityManager", type := .int, accessFlags := 10, slot := 6, constantValue := 0 }, { name := "security", type := (.object "java/lang/SecurityManager"), accessFlags := 74, slot := 7, constantValue := 0 }, { name := "notSupportedJnuEncoding", type := (.object "java/lang/String"), accessFlags := 10, slot := 8, constantValue := 0 }, { name := "cons", type := (.object "java/io/Console"), accessFlags := 74, slot := 9, constantValue := 0 }, { name := "initialErrStream", type := (.object "java/io/PrintStream"), accessFlags := 74, slot := 10, constantValue := 0 }, { name := "props", type := (.object "java/util/Properties"), accessFlags := 10, slot := 11, constantValue := 0 }, { name := "lineSeparator", type := (.object "java/lang/String"), accessFlags := 10, slot := 12, constantValue := 0 }, { name := "bootLayer", type := (.object "java/lang/ModuleLayer"), accessFlags := 8, slot := 13, constantValue := 0 }]
  methods := #[k15m0, k15m1]
  instanceTypes := #[]
  staticTypes := #[(.object "java/io/InputStream"), (.object "java/io/PrintStream"), (.object "java/io/PrintStream"), (.object "java/io/InputStream"), .int, .int, .int, (.object "java/lang/SecurityManager"), (.object "java/lang/String"), (.object "java/io/Console"), (.object "java/io/PrintStream"), (.object "java/util/Properties"), (.object "java/lang/String"), (.object "java/lang/ModuleLayer")]
  resolved := Array.replicate 834 none
  statics := none }

def pool16 : Array CpInfo := pool [(1, .class_ 2), (0, u "java/lang/Cloneable"), (0, .class_ 4), (0, u "java/lang/Object")] 2

/-- java/lang/Cloneable -/
def k16 : Class := { plain "java/lang/Cloneable" (some 0) with
  accessFlags := 1537
  interfaces := #[]
  cf := some (fileOf pool16 1 #[] #[] 1537 3 #[] #[])
  fields := #[]
  methods := #[]
  instanceTypes := #[]
  staticTypes := #[]
  resolved := Array.replicate 7 none
  statics := none }

def pool17 : Array CpInfo := pool [(1, .class_ 2), (0, u "java/lang/String"), (1, .class_ 6), (1, u "java/lang/Object"), (0, u "<init>"), (0, u "()V"), (0, .methodref 1 10), (0, .nameAndType 11 12), (0, u "checkIndex"), (0, u "(II)V"), (1, .class_ 16), (1, u "java/lang/StringLatin1"), (36, u "([BI)C"), (36, u "canEncode"), (14, u "(C)Z"), (15, u "$assertionsDisabled"), (0, u "Z"), (98, .class_ 223), (1, u "java/lang/StringLatin1$LinesSpliterator"), (28, u "charAt"), (137, .class_ 391), (0, u "java/lang/StringLatin1$CharsSpliterator")] 3

def k17m0 : Method := { name := "<init>", desc := "()V", sig := { parameters := [], returnType := none }, accessFlags := 0, code := none }
def k17c1 : Code := { maxStack := 2, maxLocals := 2, code := jdk_43_method_2_code, exceptionTable := #[], attributes := #[] }
def k17m1 : Method := { name := "charAt", desc := "([BI)C", sig := { parameters := [(.array .byte), .int], returnType := some .char }, accessFlags := 9, code := some k17c1 }
def k17c2 : Code := { maxStack := 2, maxLocals := 1, code := jdk_43_method_3_code, exceptionTable := #[], attributes := #[] }
def k17m2 : Method := { name := "canEncode", desc := "(C)Z", sig := { parameters := [.char], returnType := some .boolean }, accessFlags := 9, code := some k17c2 }
/-- java/lang/StringLatin1 -/
def k17 : Class := { plain "java/lang/StringLatin1" (some 0) with
  accessFlags := 48
  interfaces := #[]
  cf := some (fileOf pool17 14 #[.nestMembers #[390, 221]] #[{ accessFlags := 0, nameIndex := 7, descriptorIndex := 8, attributes := #[] }, { accessFlags := 9, nameIndex := 252, descriptorIndex := 53, attributes := #[] }, { accessFlags := 9, nameIndex := 90, descriptorIndex := 105, attributes := #[] }] 48 4 #[] #[{ accessFlags := 4120, nameIndex := 121, descriptorIndex := 122, attributes := #[] }])
  fields := #[{ name := "$assertionsDisabled", type := .boolean, accessFlags := 4120, slot := 0, constantValue := 0 }]
  methods := #[k17m0, k17m1, k17m2]
  instanceTypes := #[]
  staticTypes := #[.boolean]
  resolved := Array.replicate 395 none
  statics := none }

def pool18 : Array CpInfo := pool [(2, .class_ 4), (1, u "java/lang/Object"), (0, u "<init>"), (0, u "()V"), (17, .class_ 26), (1, u "jdk/internal/util/Preconditions"), (6, u "checkIndex"), (21, .class_ 56), (0, u "jdk/internal/util/Preconditions$4"), (57, .class_ 115), (0, u "jdk/internal/util/Preconditions$1"), (7, u "SIOOBE_FORMATTER"), (0, u "Ljava/util/function/BiFunction;"), (0, .class_ 126), (0, u "jdk/internal/util/Preconditions$2"), (3, u "AIOOBE_FORMATTER"), (0, .class_ 132), (0, u "jdk/internal/util/Preconditions$3"), (3, u "IOOBE_FORMATTER"), (41, u "(IILjava/util/function/BiFunction;)I")] 15

def k18m0 : Method := { name := "<init>", desc := "()V", sig := { parameters := [], returnType := none }, accessFlags := 1, code := none }
def k18c1 : Code := { maxStack := 3, maxLocals := 3, code := jdk_41_method_11_code, exceptionTable := #[], attributes := #[] }
def k18m1 : Method := { name := "checkIndex", desc := "(IILjava/util/function/BiFunction;)I", sig := { parameters := [.int, .int, (.object "java/util/function/BiFunction")], returnType := some .int }, accessFlags := 9, code := some k18c1 }
/-- jdk/internal/util/Preconditions -/
def k18 : Class := { plain "jdk/internal/util/Preconditions" (some 0) with
  accessFlags := 33
  interfaces := #[]
  cf := some (fileOf pool18 24 #[.nestMembers #[55, 131, 125, 114]] #[{ accessFlags := 1, nameIndex := 5, descriptorIndex := 6, attributes := #[] }, { accessFlags := 9, nameIndex := 33, descriptorIndex := 178, attributes := #[] }] 33 2 #[] #[{ accessFlags := 25, nameIndex := 123, descriptorIndex := 124, attributes := #[] }, { accessFlags := 25, nameIndex := 130, descriptorIndex := 124, attributes := #[] }, { accessFlags := 25, nameIndex := 136, descriptorIndex := 124, attributes := #[] }])
  fields := #[{ name := "SIOOBE_FORMATTER", type := (.object "java/util/function/BiFunction"), accessFlags := 25, slot := 0, constantValue := 0 }, { name := "AIOOBE_FORMATTER", type := (.object "java/util/function/BiFunction"), accessFlags := 25, slot := 1, constantValue := 0 }, { name := "IOOBE_FORMATTER", type := (.object "java/util/function/BiFunction"), accessFlags := 25, slot := 2, constantValue := 0 }]
  methods := #[k18m0, k18m1]
  instanceTypes := #[]
  staticTypes := #[(.object "java/util/function/BiFunction"), (.object "java/util/function/BiFunction"), (.object "java/util/function/BiFunction")]
  resolved := Array.replicate 194 none
  statics := some 1 }

/-- the primitive byte -/
def k19 : Class := { plain "byte" none with kind := .primitive 'B', accessFlags := 0x411 }
/-- [B -/
def k20 : Class := { plain "[B" (some 0) with kind := .array 19 .byte, interfaces := #[16, 3], accessFlags := 1041 }

/-- the primitive int -/
def k21 : Class := { plain "int" none with kind := .primitive 'I', accessFlags := 0x411 }
/-- [I -/
def k22 : Class := { plain "[I" (some 0) with kind := .array 21 .int, interfaces := #[16, 3], accessFlags := 1041 }

def heap : Heap := #[{ cls := 8, slots := #[.long 0, .int 1, .null, .int 0, .null, .int 0, .int 0], vm := .statics 8 },
  { cls := 18, slots := #[.null, .null, .null], vm := .statics 18 }]
def classes : Array Class := #[k0, k1, k2, k3, k4, k5, k6, k7, k8, k9, k10, k11, k12, k13, k14, k15, k16, k17, k18, k19, k20, k21, k22]
def interned : List (Array UInt16 × Addr) := []
def slotsUsed : Nat := 10
def theMethod : MethodId := ⟨1, 1⟩
def args0 : Array Value := #[.int 5, .int 300]
def aboutOver (below : List Frame) : State where
  vm := { classes := classes, interned := interned.toArray }
  heap := heap
  slotsUsed := slotsUsed
  threads := #[{ frames := .invoking theMethod args0 :: below }]
def below0 : List Frame := [.native { method := ⟨0, 0⟩, args := #[] }]
def about1 : State := aboutOver below0
def p0 : Program := .bare "" "" ""
def e0 : Env := launch0.env 0 0 0
theorem w_frames : about1.frames = Frame.invoking theMethod args0 :: below0 := rfl
set_option maxRecDepth 65536 in
theorem w_args : argsFit about1.vm theMethod args0 = true := by decide +kernel
set_option maxRecDepth 65536 in
theorem w_heap : heapFits about1 = true := by decide +kernel
set_option maxRecDepth 65536 in
theorem w_runnable : about1.curStatus? = some .runnable := by decide +kernel
set_option maxRecDepth 65536 in
theorem w_alone : about1.alone = true := by decide +kernel
set_option maxRecDepth 65536 in
theorem w_named : about1.methodNamed? x = some theMethod := by decide +kernel
set_option maxRecDepth 65536 in
theorem w_hears : about1.hears theMethod below0 = true := by decide +kernel
set_option maxRecDepth 65536 in
theorem w_ripe : about1.ripe theMethod args0 below0 = true := by decide +kernel
theorem w_running : about1.status = .running := rfl
set_option maxRecDepth 65536 in
theorem w_room : about1.hasRoom e0.platform room_1 = true :=
  launch0.hasRoom_least _ room_1 (by decide +kernel) (by decide +kernel) (by decide +kernel) (by decide +kernel) (by decide +kernel) (by decide +kernel)
theorem allAtoms_all (ts : List Jvm.Cond) (a : Array Jvm.Value) (st : Jvm.State) : (allAtoms ts).before a st = ts.all (fun c => c.before a st) := by
  induction ts with
  | nil => rfl
  | cons c t ih =>
    show (Jvm.Cond.and c (allAtoms t)).before a st = _
    rw [Jvm.Cond.before_and, ih, List.all_cons]
def words1 : List Jvm.Cond := Jvm.Cond.code x code maxLocals ret :: tables_1
/-- a 'code' word, met by the world's own term for the bytes: nothing is compared byte by byte -/
theorem code_word {y : MethodName} {bytes : ByteArray} {mx : Nat} {rt : Option FieldType} {a : Array Value} {s : State} {m : MethodId} {meth : Method} {c : Code} (h1 : s.methodNamed? y = some m) (h2 : s.vm.method? m = some meth) (h3 : meth.code = some c) (h4 : c.code = bytes)
    (h5 : (c.maxLocals == mx && c.exceptionTable.isEmpty && decide (c.maxStack ≤ mostOperands) && decide (meth.sig.returnType = rt) && !meth.locks && decide (parseMethodDescriptor y.desc = some meth.sig)) = true) : (Jvm.Cond.code y bytes mx rt).before a s = true := by
  simp only [Bool.and_eq_true, beq_iff_eq, Bool.not_eq_true', decide_eq_true_eq] at h5
  obtain ⟨⟨⟨⟨⟨g1, g2⟩, g3⟩, g4⟩, g5⟩, g6⟩ := h5
  simp [Cond.before, Cond.holds, Cond.value, h1, h2, h3, h4, g1, g2, g3, g4, g5, g6]
def isCode : Jvm.Cond → Bool
  | .code _ _ _ _ => true
  | _ => false
theorem all_split {L : List Jvm.Cond} {P : Jvm.Cond → Bool} (h1 : L.all (fun c => isCode c || P c) = true) (h2 : ∀ c ∈ L.filter isCode, P c = true) : L.all P = true := by
  refine List.all_eq_true.mpr fun c hc => ?_
  have h := List.all_eq_true.mp h1 c hc
  rcases Bool.eq_false_or_eq_true (isCode c) with hi | hi
  · exact h2 c (List.mem_filter.mpr ⟨hc, hi⟩)
  · simpa [hi] using h
set_option maxRecDepth 65536 in
theorem w_c0 : (Jvm.Cond.code x code maxLocals ret).before args0 about1 = true := code_word (m := ⟨1, 1⟩) (meth := k1m1) (c := k1c1) (by decide +kernel) rfl rfl rfl (by decide +kernel)
set_option maxRecDepth 65536 in
theorem w_c1 : (Jvm.Cond.code ({ cls := "com/example/orbweaver/orbweaver/mapping/JavaSource", name := "<init>", desc := "(Ljava/lang/String;Ljava/lang/String;)V" } : Jvm.MethodName) prog_171_method_1_code (3 : Nat) (Option.none : Option Jvm.ClassFile.FieldType)).before args0 about1 = true := code_word (m := ⟨2, 0⟩) (meth := k2m0) (c := k2c0) (by decide +kernel) rfl rfl rfl (by decide +kernel)
set_option maxRecDepth 65536 in
theorem w_c2 : (Jvm.Cond.code ({ cls := "java/lang/Object", name := "<init>", desc := "()V" } : Jvm.MethodName) object_method_1_code (1 : Nat) (Option.none : Option Jvm.ClassFile.FieldType)).before args0 about1 = true := code_word (m := ⟨0, 0⟩) (meth := k0m0) (c := k0c0) (by decide +kernel) rfl rfl rfl (by decide +kernel)
set_option maxRecDepth 65536 in
theorem w_c3 : (Jvm.Cond.code ({ cls := "java/lang/StringBuilder", name := "<init>", desc := "()V" } : Jvm.MethodName) jdk_67_method_1_code (1 : Nat) (Option.none : Option Jvm.ClassFile.FieldType)).before args0 about1 = true := code_word (m := ⟨11, 0⟩) (meth := k11m0) (c := k11c0) (by decide +kernel) rfl rfl rfl (by decide +kernel)
set_option maxRecDepth 65536 in
theorem w_c4 : (Jvm.Cond.code ({ cls := "java/lang/AbstractStringBuilder", name := "<init>", desc := "(I)V" } : Jvm.MethodName) jdk_68_method_2_code (2 : Nat) (Option.none : Option Jvm.ClassFile.FieldType)).before args0 about1 = true := code_word (m := ⟨10, 1⟩) (meth := k10m1) (c := k10c1) (by decide +kernel) rfl rfl rfl (by decide +kernel)
set_option maxRecDepth 65536 in
theorem w_c5 : (Jvm.Cond.code ({ cls := "java/lang/StringBuilder", name := "append", desc := "(Ljava/lang/String;)Ljava/lang/StringBuilder;" } : Jvm.MethodName) jdk_67_method_7_code (2 : Nat) (Option.some (Jvm.ClassFile.FieldType.object "java/lang/StringBuilder"))).before args0 about1 = true := code_word (m := ⟨11, 1⟩) (meth := k11m1) (c := k11c1) (by decide +kernel) rfl rfl rfl (by decide +kernel)
set_option maxRecDepth 65536 in
theorem w_c6 : (Jvm.Cond.code ({ cls := "java/lang/AbstractStringBuilder", name := "append", desc := "(Ljava/lang/String;)Ljava/lang/AbstractStringBuilder;" } : Jvm.MethodName) jdk_68_method_22_code (3 : Nat) (Option.some (Jvm.ClassFile.FieldType.object "java/lang/AbstractStringBuilder"))).before args0 about1 = true := code_word (m := ⟨10, 5⟩) (meth := k10m5) (c := k10c5) (by decide +kernel) rfl rfl rfl (by decide +kernel)
set_option maxRecDepth 65536 in
theorem w_c7 : (Jvm.Cond.code ({ cls := "java/lang/String", name := "length", desc := "()I" } : Jvm.MethodName) jdk_42_method_54_code (1 : Nat) (Option.some Jvm.ClassFile.FieldType.int)).before args0 about1 = true := code_word (m := ⟨8, 2⟩) (meth := k8m2) (c := k8c2) (by decide +kernel) rfl rfl rfl (by decide +kernel)
set_option maxRecDepth 65536 in
theorem w_c8 : (Jvm.Cond.code ({ cls := "java/lang/String", name := "coder", desc := "()B" } : Jvm.MethodName) jdk_42_method_152_code (1 : Nat) (Option.some Jvm.ClassFile.FieldType.byte)).before args0 about1 = true := code_word (m := ⟨8, 10⟩) (meth := k8m10) (c := k8c10) (by decide +kernel) rfl rfl rfl (by decide +kernel)
set_option maxRecDepth 65536 in
theorem w_c9 : (Jvm.Cond.code ({ cls := "java/lang/AbstractStringBuilder", name := "ensureCapacityInternal", desc := "(I)V" } : Jvm.MethodName) jdk_68_method_9_code (3 : Nat) (Option.none : Option Jvm.ClassFile.FieldType)).before args0 about1 = true := code_word (m := ⟨10, 3⟩) (meth := k10m3) (c := k10c3) (by decide +kernel) rfl rfl rfl (by decide +kernel)
set_option maxRecDepth 65536 in
theorem w_c10 : (Jvm.Cond.code ({ cls := "java/lang/AbstractStringBuilder", name := "newCapacity", desc := "(I)I" } : Jvm.MethodName) jdk_68_method_10_code (6 : Nat) (Option.some Jvm.ClassFile.FieldType.int)).before args0 about1 = true := code_word (m := ⟨10, 4⟩) (meth := k10m4) (c := k10c4) (by decide +kernel) rfl rfl rfl (by decide +kernel)
set_option maxRecDepth 65536 in
theorem w_c11 : (Jvm.Cond.code ({ cls := "jdk/internal/util/ArraysSupport", name := "newLength", desc := "(III)I" } : Jvm.MethodName) jdk_48_method_27_code (4 : Nat) (Option.some Jvm.ClassFile.FieldType.int)).before args0 about1 = true := code_word (m := ⟨12, 1⟩) (meth := k12m1) (c := k12c1) (by decide +kernel) rfl rfl rfl (by decide +kernel)
set_option maxRecDepth 65536 in
theorem w_c12 : (Jvm.Cond.code ({ cls := "java/lang/Math", name := "max", desc := "(II)I" } : Jvm.MethodName) jdk_29_method_65_code (2 : Nat) (Option.some Jvm.ClassFile.FieldType.int)).before args0 about1 = true := code_word (m := ⟨13, 1⟩) (meth := k13m1) (c := k13c1) (by decide +kernel) rfl rfl rfl (by decide +kernel)
set_option maxRecDepth 65536 in
theorem w_c13 : (Jvm.Cond.code ({ cls := "java/util/Arrays", name := "copyOf", desc := "([BI)[B" } : Jvm.MethodName) jdk_65_method_121_code (3 : Nat) (Option.some (Jvm.ClassFile.FieldType.array Jvm.ClassFile.FieldType.byte))).before args0 about1 = true := code_word (m := ⟨14, 1⟩) (meth := k14m1) (c := k14c1) (by decide +kernel) rfl rfl rfl (by decide +kernel)
set_option maxRecDepth 65536 in
theorem w_c14 : (Jvm.Cond.code ({ cls := "java/lang/Math", name := "min", desc := "(II)I" } : Jvm.MethodName) jdk_29_method_69_code (2 : Nat) (Option.some Jvm.ClassFile.FieldType.int)).before args0 about1 = true := code_word (m := ⟨13, 2⟩) (meth := k13m2) (c := k13c2) (by decide +kernel) rfl rfl rfl (by decide +kernel)
set_option maxRecDepth 65536 in
theorem w_c15 : (Jvm.Cond.code ({ cls := "java/lang/AbstractStringBuilder", name := "putStringAt", desc := "(ILjava/lang/String;)V" } : Jvm.MethodName) jdk_68_method_73_code (3 : Nat) (Option.none : Option Jvm.ClassFile.FieldType)).before args0 about1 = true := code_word (m := ⟨10, 10⟩) (meth := k10m10) (c := k10c10) (by decide +kernel) rfl rfl rfl (by decide +kernel)
set_option maxRecDepth 65536 in
theorem w_c16 : (Jvm.Cond.code ({ cls := "java/lang/AbstractStringBuilder", name := "inflateIfNeededFor", desc := "(Ljava/lang/String;)V" } : Jvm.MethodName) jdk_68_method_71_code (2 : Nat) (Option.none : Option Jvm.ClassFile.FieldType)).before args0 about1 = true := code_word (m := ⟨10, 9⟩) (meth := k10m9) (c := k10c9) (by decide +kernel) rfl rfl rfl (by decide +kernel)
set_option maxRecDepth 65536 in
theorem w_c17 : (Jvm.Cond.code ({ cls := "java/lang/String", name := "getBytes", desc := "([BIB)V" } : Jvm.MethodName) jdk_42_method_147_code (4 : Nat) (Option.none : Option Jvm.ClassFile.FieldType)).before args0 about1 = true := code_word (m := ⟨8, 7⟩) (meth := k8m7) (c := k8c7) (by decide +kernel) rfl rfl rfl (by decide +kernel)
set_option maxRecDepth 65536 in
theorem w_c18 : (Jvm.Cond.code ({ cls := "java/lang/StringBuilder", name := "toString", desc := "()Ljava/lang/String;" } : Jvm.MethodName) jdk_67_method_42_code (1 : Nat) (Option.some (Jvm.ClassFile.FieldType.object "java/lang/String"))).before args0 about1 = true := code_word (m := ⟨11, 3⟩) (meth := k11m3) (c := k11c3) (by decide +kernel) rfl rfl rfl (by decide +kernel)
set_option maxRecDepth 65536 in
theorem w_c19 : (Jvm.Cond.code ({ cls := "java/lang/String", name := "<init>", desc := "(Ljava/lang/StringBuilder;)V" } : Jvm.MethodName) jdk_42_method_53_code (2 : Nat) (Option.none : Option Jvm.ClassFile.FieldType)).before args0 about1 = true := code_word (m := ⟨8, 1⟩) (meth := k8m1) (c := k8c1) (by decide +kernel) rfl rfl rfl (by decide +kernel)
set_option maxRecDepth 65536 in
theorem w_c20 : (Jvm.Cond.code ({ cls := "java/lang/String", name := "<init>", desc := "(Ljava/lang/AbstractStringBuilder;Ljava/lang/Void;)V" } : Jvm.MethodName) jdk_42_method_150_code (5 : Nat) (Option.none : Option Jvm.ClassFile.FieldType)).before args0 about1 = true := code_word (m := ⟨8, 8⟩) (meth := k8m8) (c := k8c8) (by decide +kernel) rfl rfl rfl (by decide +kernel)
set_option maxRecDepth 65536 in
theorem w_c21 : (Jvm.Cond.code ({ cls := "java/lang/AbstractStringBuilder", name := "getValue", desc := "()[B" } : Jvm.MethodName) jdk_68_method_64_code (1 : Nat) (Option.some (Jvm.ClassFile.FieldType.array Jvm.ClassFile.FieldType.byte))).before args0 about1 = true := code_word (m := ⟨10, 7⟩) (meth := k10m7) (c := k10c7) (by decide +kernel) rfl rfl rfl (by decide +kernel)
set_option maxRecDepth 65536 in
theorem w_c22 : (Jvm.Cond.code ({ cls := "java/lang/StringBuilder", name := "length", desc := "()I" } : Jvm.MethodName) jdk_67_method_93_code (1 : Nat) (Option.some Jvm.ClassFile.FieldType.int)).before args0 about1 = true := code_word (m := ⟨11, 4⟩) (meth := k11m4) (c := k11c4) (by decide +kernel) rfl rfl rfl (by decide +kernel)
set_option maxRecDepth 65536 in
theorem w_c23 : (Jvm.Cond.code ({ cls := "java/lang/AbstractStringBuilder", name := "length", desc := "()I" } : Jvm.MethodName) jdk_68_method_6_code (1 : Nat) (Option.some Jvm.ClassFile.FieldType.int)).before args0 about1 = true := code_word (m := ⟨10, 2⟩) (meth := k10m2) (c := k10c2) (by decide +kernel) rfl rfl rfl (by decide +kernel)
set_option maxRecDepth 65536 in
theorem w_c24 : (Jvm.Cond.code ({ cls := "java/lang/AbstractStringBuilder", name := "isLatin1", desc := "()Z" } : Jvm.MethodName) jdk_68_method_68_code (1 : Nat) (Option.some Jvm.ClassFile.FieldType.boolean)).before args0 about1 = true := code_word (m := ⟨10, 8⟩) (meth := k10m8) (c := k10c8) (by decide +kernel) rfl rfl rfl (by decide +kernel)
set_option maxRecDepth 65536 in
theorem w_c25 : (Jvm.Cond.code ({ cls := "java/util/Arrays", name := "copyOfRange", desc := "([BII)[B" } : Jvm.MethodName) jdk_65_method_132_code (3 : Nat) (Option.some (Jvm.ClassFile.FieldType.array Jvm.ClassFile.FieldType.byte))).before args0 about1 = true := code_word (m := ⟨14, 3⟩) (meth := k14m3) (c := k14c3) (by decide +kernel) rfl rfl rfl (by decide +kernel)
set_option maxRecDepth 65536 in
theorem w_c26 : (Jvm.Cond.code ({ cls := "com/example/orbweaver/orbweaver/mapping/JavaSource", name := "line", desc := "(Ljava/lang/String;)Lcom/example/orbweaver/orbweaver/mapping/JavaSource;" } : Jvm.MethodName) prog_171_method_2_code (2 : Nat) (Option.some (Jvm.ClassFile.FieldType.object "com/example/orbweaver/orbweaver/mapping/JavaSource"))).before args0 about1 = true := code_word (m := ⟨2, 1⟩) (meth := k2m1) (c := k2c1) (by decide +kernel) rfl rfl rfl (by decide +kernel)
set_option maxRecDepth 65536 in
theorem w_c27 : (Jvm.Cond.code ({ cls := "java/lang/String", name := "repeat", desc := "(I)Ljava/lang/String;" } : Jvm.MethodName) jdk_42_method_145_code (5 : Nat) (Option.some (Jvm.ClassFile.FieldType.object "java/lang/String"))).before args0 about1 = true := code_word (m := ⟨8, 5⟩) (meth := k8m5) (c := k8c5) (by decide +kernel) rfl rfl rfl (by decide +kernel)
set_option maxRecDepth 65536 in
theorem w_c28 : (Jvm.Cond.code ({ cls := "java/lang/StringBuilder", name := "append", desc := "(C)Ljava/lang/StringBuilder;" } : Jvm.MethodName) jdk_67_method_14_code (2 : Nat) (Option.some (Jvm.ClassFile.FieldType.object "java/lang/StringBuilder"))).before args0 about1 = true := code_word (m := ⟨11, 2⟩) (meth := k11m2) (c := k11c2) (by decide +kernel) rfl rfl rfl (by decide +kernel)
set_option maxRecDepth 65536 in
theorem w_c29 : (Jvm.Cond.code ({ cls := "java/lang/AbstractStringBuilder", name := "append", desc := "(C)Ljava/lang/AbstractStringBuilder;" } : Jvm.MethodName) jdk_68_method_31_code (2 : Nat) (Option.some (Jvm.ClassFile.FieldType.object "java/lang/AbstractStringBuilder"))).before args0 about1 = true := code_word (m := ⟨10, 6⟩) (meth := k10m6) (c := k10c6) (by decide +kernel) rfl rfl rfl (by decide +kernel)
set_option maxRecDepth 65536 in
theorem w_c30 : (Jvm.Cond.code ({ cls := "java/lang/StringLatin1", name := "canEncode", desc := "(C)Z" } : Jvm.MethodName) jdk_43_method_3_code (1 : Nat) (Option.some Jvm.ClassFile.FieldType.boolean)).before args0 about1 = true := code_word (m := ⟨17, 2⟩) (meth := k17m2) (c := k17c2) (by decide +kernel) rfl rfl rfl (by decide +kernel)
set_option maxRecDepth 65536 in
theorem w_c31 : (Jvm.Cond.code ({ cls := "java/lang/String", name := "isEmpty", desc := "()Z" } : Jvm.MethodName) jdk_42_method_55_code (1 : Nat) (Option.some Jvm.ClassFile.FieldType.boolean)).before args0 about1 = true := code_word (m := ⟨8, 3⟩) (meth := k8m3) (c := k8c3) (by decide +kernel) rfl rfl rfl (by decide +kernel)
set_option maxRecDepth 65536 in
theorem w_c32 : (Jvm.Cond.code ({ cls := "com/example/orbweaver/orbweaver/mapping/JavaSource", name := "blank", desc := "()Lcom/example/orbweaver/orbweaver/mapping/JavaSource;" } : Jvm.MethodName) prog_171_method_4_code (1 : Nat) (Option.some (Jvm.ClassFile.FieldType.object "com/example/orbweaver/orbweaver/mapping/JavaSource"))).before args0 about1 = true := code_word (m := ⟨2, 2⟩) (meth := k2m2) (c := k2c2) (by decide +kernel) rfl rfl rfl (by decide +kernel)
set_option maxRecDepth 65536 in
theorem w_c33 : (Jvm.Cond.code ({ cls := "com/example/orbweaver/orbweaver/mapping/JavaSource", name := "deeper", desc := "(I)Lcom/example/orbweaver/orbweaver/mapping/JavaSource;" } : Jvm.MethodName) prog_171_method_8_code (2 : Nat) (Option.some (Jvm.ClassFile.FieldType.object "com/example/orbweaver/orbweaver/mapping/JavaSource"))).before args0 about1 = true := code_word (m := ⟨2, 3⟩) (meth := k2m3) (c := k2c3) (by decide +kernel) rfl rfl rfl (by decide +kernel)
set_option maxRecDepth 65536 in
theorem w_c34 : (Jvm.Cond.code ({ cls := "com/example/orbweaver/orbweaver/mapping/JavaSource", name := "toString", desc := "()Ljava/lang/String;" } : Jvm.MethodName) prog_171_method_10_code (1 : Nat) (Option.some (Jvm.ClassFile.FieldType.object "java/lang/String"))).before args0 about1 = true := code_word (m := ⟨2, 5⟩) (meth := k2m5) (c := k2c5) (by decide +kernel) rfl rfl rfl (by decide +kernel)
set_option maxRecDepth 65536 in
theorem w_c35 : (Jvm.Cond.code ({ cls := "java/util/Arrays", name := "copyOfRangeByte", desc := "([BII)[B" } : Jvm.MethodName) jdk_65_method_133_code (5 : Nat) (Option.some (Jvm.ClassFile.FieldType.array Jvm.ClassFile.FieldType.byte))).before args0 about1 = true := code_word (m := ⟨14, 4⟩) (meth := k14m4) (c := k14c4) (by decide +kernel) rfl rfl rfl (by decide +kernel)
set_option maxRecDepth 65536 in
theorem w_c36 : (Jvm.Cond.code ({ cls := "java/util/Arrays", name := "checkLength", desc := "(II)V" } : Jvm.MethodName) jdk_65_method_131_code (2 : Nat) (Option.none : Option Jvm.ClassFile.FieldType)).before args0 about1 = true := code_word (m := ⟨14, 2⟩) (meth := k14m2) (c := k14c2) (by decide +kernel) rfl rfl rfl (by decide +kernel)
set_option maxRecDepth 65536 in
theorem w_c37 : (Jvm.Cond.code ({ cls := "com/example/orbweaver/orbweaver/mapping/JavaSource", name := "shallower", desc := "(I)Lcom/example/orbweaver/orbweaver/mapping/JavaSource;" } : Jvm.MethodName) prog_171_method_9_code (2 : Nat) (Option.some (Jvm.ClassFile.FieldType.object "com/example/orbweaver/orbweaver/mapping/JavaSource"))).before args0 about1 = true := code_word (m := ⟨2, 4⟩) (meth := k2m4) (c := k2c4) (by decide +kernel) rfl rfl rfl (by decide +kernel)
set_option maxRecDepth 65536 in
theorem w_c38 : (Jvm.Cond.code ({ cls := "java/lang/String", name := "repeatCopyRest", desc := "([BIII)V" } : Jvm.MethodName) jdk_42_method_146_code (4 : Nat) (Option.none : Option Jvm.ClassFile.FieldType)).before args0 about1 = true := code_word (m := ⟨8, 6⟩) (meth := k8m6) (c := k8c6) (by decide +kernel) rfl rfl rfl (by decide +kernel)
set_option maxRecDepth 65536 in
theorem w_c39 : (Jvm.Cond.code ({ cls := "java/lang/String", name := "<init>", desc := "([BB)V" } : Jvm.MethodName) jdk_42_method_151_code (3 : Nat) (Option.none : Option Jvm.ClassFile.FieldType)).before args0 about1 = true := code_word (m := ⟨8, 9⟩) (meth := k8m9) (c := k8c9) (by decide +kernel) rfl rfl rfl (by decide +kernel)
set_option maxRecDepth 65536 in
theorem w_c40 : (Jvm.Cond.code ({ cls := "java/lang/String", name := "charAt", desc := "(I)C" } : Jvm.MethodName) jdk_42_method_56_code (2 : Nat) (Option.some Jvm.ClassFile.FieldType.char)).before args0 about1 = true := code_word (m := ⟨8, 4⟩) (meth := k8m4) (c := k8c4) (by decide +kernel) rfl rfl rfl (by decide +kernel)
set_option maxRecDepth 65536 in
theorem w_c41 : (Jvm.Cond.code ({ cls := "java/lang/String", name := "isLatin1", desc := "()Z" } : Jvm.MethodName) jdk_42_method_154_code (1 : Nat) (Option.some Jvm.ClassFile.FieldType.boolean)).before args0 about1 = true := code_word (m := ⟨8, 11⟩) (meth := k8m11) (c := k8c11) (by decide +kernel) rfl rfl rfl (by decide +kernel)
set_option maxRecDepth 65536 in
theorem w_c42 : (Jvm.Cond.code ({ cls := "java/lang/StringLatin1", name := "charAt", desc := "([BI)C" } : Jvm.MethodName) jdk_43_method_2_code (2 : Nat) (Option.some Jvm.ClassFile.FieldType.char)).before args0 about1 = true := code_word (m := ⟨17, 1⟩) (meth := k17m1) (c := k17c1) (by decide +kernel) rfl rfl rfl (by decide +kernel)
set_option maxRecDepth 65536 in
theorem w_c43 : (Jvm.Cond.code ({ cls := "java/lang/String", name := "checkIndex", desc := "(II)V" } : Jvm.MethodName) jdk_42_method_155_code (2 : Nat) (Option.none : Option Jvm.ClassFile.FieldType)).before args0 about1 = true := code_word (m := ⟨8, 12⟩) (meth := k8m12) (c := k8c12) (by decide +kernel) rfl rfl rfl (by decide +kernel)
set_option maxRecDepth 65536 in
theorem w_c44 : (Jvm.Cond.code ({ cls := "jdk/internal/util/Preconditions", name := "checkIndex", desc := "(IILjava/util/function/BiFunction;)I" } : Jvm.MethodName) jdk_41_method_11_code (3 : Nat) (Option.some Jvm.ClassFile.FieldType.int)).before args0 about1 = true := code_word (m := ⟨18, 1⟩) (meth := k18m1) (c := k18c1) (by decide +kernel) rfl rfl rfl (by decide +kernel)
def codes1 : List Jvm.Cond := [Jvm.Cond.code x code maxLocals ret, Jvm.Cond.code ({ cls := "com/example/orbweaver/orbweaver/mapping/JavaSource", name := "<init>", desc := "(Ljava/lang/String;Ljava/lang/String;)V" } : Jvm.MethodName) prog_171_method_1_code (3 : Nat) (Option.none : Option Jvm.ClassFile.FieldType), Jvm.Cond.code ({ cls := "java/lang/Object", name := "<init>", desc := "()V" } : Jvm.MethodName) object_method_1_code (1 : Nat) (Option.none : Option Jvm.ClassFile.FieldType), Jvm.Cond.code ({ cls := "java/lang/StringBuilder", name := "<init>", desc := "()V" } : Jvm.MethodName) jdk_67_method_1_code (1 : Nat) (Option.none : Option Jvm.ClassFile.FieldType), Jvm.Cond.code ({ cls := "java/lang/AbstractStringBuilder", name := "<init>", desc := "(I)V" } : Jvm.MethodName) jdk_68_method_2_code (2 : Nat) (Option.none : Option Jvm.ClassFile.FieldType), Jvm.Cond.code ({ cls := "java/lang/StringBuilder", name := "append", desc := "(Ljava/lang/String;)Ljava/lang/StringBuilder;" } : Jvm.MethodName) jdk_67_method_7_code (2 : Nat) (Option.some (Jvm.ClassFile.FieldType.object "java/lang/StringBuilder")), Jvm.Cond.code ({ cls := "java/lang/AbstractStringBuilder", name := "append", desc := "(Ljava/lang/String;)Ljava/lang/AbstractStringBuilder;" } : Jvm.MethodName) jdk_68_method_22_code (3 : Nat) (Option.some (Jvm.ClassFile.FieldType.object "java/lang/AbstractStringBuilder")), Jvm.Cond.code ({ cls := "java/lang/String", name := "length", desc := "()I" } : Jvm.MethodName) jdk_42_method_54_code (1 : Nat) (Option.some Jvm.ClassFile.FieldType.int), Jvm.Cond.code ({ cls := "java/lang/String", name := "coder", desc := "()B" } : Jvm.MethodName) jdk_42_method_152_code (1 : Nat) (Option.some Jvm.ClassFile.FieldType.byte), Jvm.Cond.code ({ cls := "java/lang/AbstractStringBuilder", name := "ensureCapacityInternal", desc := "(I)V" } : Jvm.MethodName) jdk_68_method_9_code (3 : Nat) (Option.none : Option Jvm.ClassFile.FieldType), Jvm.Cond.code ({ cls := "java/lang/AbstractStringBuilder", name := "newCapacity", desc := "(I)I" } : Jvm.MethodName) jdk_68_method_10_code (6 : Nat) (Option.some Jvm.ClassFile.FieldType.int), Jvm.Cond.code ({ cls := "jdk/internal/util/ArraysSupport", name := "newLength", desc := "(III)I" } : Jvm.MethodName) jdk_48_method_27_code (4 : Nat) (Option.some Jvm.ClassFile.FieldType.int), Jvm.Cond.code ({ cls := "java/lang/Math", name := "max", desc := "(II)I" } : Jvm.MethodName) jdk_29_method_65_code (2 : Nat) (Option.some Jvm.ClassFile.FieldType.int), Jvm.Cond.code ({ cls := "java/util/Arrays", name := "copyOf", desc := "([BI)[B" } : Jvm.MethodName) jdk_65_method_121_code (3 : Nat) (Option.some (Jvm.ClassFile.FieldType.array Jvm.ClassFile.FieldType.byte)), Jvm.Cond.code ({ cls := "java/lang/Math", name := "min", desc := "(II)I" } : Jvm.MethodName) jdk_29_method_69_code (2 : Nat) (Option.some Jvm.ClassFile.FieldType.int), Jvm.Cond.code ({ cls := "java/lang/AbstractStringBuilder", name := "putStringAt", desc := "(ILjava/lang/String;)V" } : Jvm.MethodName) jdk_68_method_73_code (3 : Nat) (Option.none : Option Jvm.ClassFile.FieldType), Jvm.Cond.code ({ cls := "java/lang/AbstractStringBuilder", name := "inflateIfNeededFor", desc := "(Ljava/lang/String;)V" } : Jvm.MethodName) jdk_68_method_71_code (2 : Nat) (Option.none : Option Jvm.ClassFile.FieldType), Jvm.Cond.code ({ cls := "java/lang/String", name := "getBytes", desc := "([BIB)V" } : Jvm.MethodName) jdk_42_method_147_code (4 : Nat) (Option.none : Option Jvm.ClassFile.FieldType), Jvm.Cond.code ({ cls := "java/lang/StringBuilder", name := "toString", desc := "()Ljava/lang/String;" } : Jvm.MethodName) jdk_67_method_42_code (1 : Nat) (Option.some (Jvm.ClassFile.FieldType.object "java/lang/String")), Jvm.Cond.code ({ cls := "java/lang/String", name := "<init>", desc := "(Ljava/lang/StringBuilder;)V" } : Jvm.MethodName) jdk_42_method_53_code (2 : Nat) (Option.none : Option Jvm.ClassFile.FieldType), Jvm.Cond.code ({ cls := "java/lang/String", name := "<init>", desc := "(Ljava/lang/AbstractStringBuilder;Ljava/lang/Void;)V" } : Jvm.MethodName) jdk_42_method_150_code (5 : Nat) (Option.none : Option Jvm.ClassFile.FieldType), Jvm.Cond.code ({ cls := "java/lang/AbstractStringBuilder", name := "getValue", desc := "()[B" } : Jvm.MethodName) jdk_68_method_64_code (1 : Nat) (Option.some (Jvm.ClassFile.FieldType.array Jvm.ClassFile.FieldType.byte)), Jvm.Cond.code ({ cls := "java/lang/StringBuilder", name := "length", desc := "()I" } : Jvm.MethodName) jdk_67_method_93_code (1 : Nat) (Option.some Jvm.ClassFile.FieldType.int), Jvm.Cond.code ({ cls := "java/lang/AbstractStringBuilder", name := "length", desc := "()I" } : Jvm.MethodName) jdk_68_method_6_code (1 : Nat) (Option.some Jvm.ClassFile.FieldType.int), Jvm.Cond.code ({ cls := "java/lang/AbstractStringBuilder", name := "isLatin1", desc := "()Z" } : Jvm.MethodName) jdk_68_method_68_code (1 : Nat) (Option.some Jvm.ClassFile.FieldType.boolean), Jvm.Cond.code ({ cls := "java/util/Arrays", name := "copyOfRange", desc := "([BII)[B" } : Jvm.MethodName) jdk_65_method_132_code (3 : Nat) (Option.some (Jvm.ClassFile.FieldType.array Jvm.ClassFile.FieldType.byte)), Jvm.Cond.code ({ cls := "com/example/orbweaver/orbweaver/mapping/JavaSource", name := "line", desc := "(Ljava/lang/String;)Lcom/example/orbweaver/orbweaver/mapping/JavaSource;" } : Jvm.MethodName) prog_171_method_2_code (2 : Nat) (Option.some (Jvm.ClassFile.FieldType.object "com/example/orbweaver/orbweaver/mapping/JavaSource")), Jvm.Cond.code ({ cls := "java/lang/String", name := "repeat", desc := "(I)Ljava/lang/String;" } : Jvm.MethodName) jdk_42_method_145_code (5 : Nat) (Option.some (Jvm.ClassFile.FieldType.object "java/lang/String")), Jvm.Cond.code ({ cls := "java/lang/StringBuilder", name := "append", desc := "(C)Ljava/lang/StringBuilder;" } : Jvm.MethodName) jdk_67_method_14_code (2 : Nat) (Option.some (Jvm.ClassFile.FieldType.object "java/lang/StringBuilder")), Jvm.Cond.code ({ cls := "java/lang/AbstractStringBuilder", name := "append", desc := "(C)Ljava/lang/AbstractStringBuilder;" } : Jvm.MethodName) jdk_68_method_31_code (2 : Nat) (Option.some (Jvm.ClassFile.FieldType.object "java/lang/AbstractStringBuilder")), Jvm.Cond.code ({ cls := "java/lang/StringLatin1", name := "canEncode", desc := "(C)Z" } : Jvm.MethodName) jdk_43_method_3_code (1 : Nat) (Option.some Jvm.ClassFile.FieldType.boolean), Jvm.Cond.code ({ cls := "java/lang/String", name := "isEmpty", desc := "()Z" } : Jvm.MethodName) jdk_42_method_55_code (1 : Nat) (Option.some Jvm.ClassFile.FieldType.boolean), Jvm.Cond.code ({ cls := "com/example/orbweaver/orbweaver/mapping/JavaSource", name := "blank", desc := "()Lcom/example/orbweaver/orbweaver/mapping/JavaSource;" } : Jvm.MethodName) prog_171_method_4_code (1 : Nat) (Option.some (Jvm.ClassFile.FieldType.object "com/example/orbweaver/orbweaver/mapping/JavaSource")), Jvm.Cond.code ({ cls := "com/example/orbweaver/orbweaver/mapping/JavaSource", name := "deeper", desc := "(I)Lcom/example/orbweaver/orbweaver/mapping/JavaSource;" } : Jvm.MethodName) prog_171_method_8_code (2 : Nat) (Option.some (Jvm.ClassFile.FieldType.object "com/example/orbweaver/orbweaver/mapping/JavaSource")), Jvm.Cond.code ({ cls := "com/example/orbweaver/orbweaver/mapping/JavaSource", name := "toString", desc := "()Ljava/lang/String;" } : Jvm.MethodName) prog_171_method_10_code (1 : Nat) (Option.some (Jvm.ClassFile.FieldType.object "java/lang/String")), Jvm.Cond.code ({ cls := "java/util/Arrays", name := "copyOfRangeByte", desc := "([BII)[B" } : Jvm.MethodName) jdk_65_method_133_code (5 : Nat) (Option.some (Jvm.ClassFile.FieldType.array Jvm.ClassFile.FieldType.byte)), Jvm.Cond.code ({ cls := "java/util/Arrays", name := "checkLength", desc := "(II)V" } : Jvm.MethodName) jdk_65_method_131_code (2 : Nat) (Option.none : Option Jvm.ClassFile.FieldType), Jvm.Cond.code ({ cls := "com/example/orbweaver/orbweaver/mapping/JavaSource", name := "shallower", desc := "(I)Lcom/example/orbweaver/orbweaver/mapping/JavaSource;" } : Jvm.MethodName) prog_171_method_9_code (2 : Nat) (Option.some (Jvm.ClassFile.FieldType.object "com/example/orbweaver/orbweaver/mapping/JavaSource")), Jvm.Cond.code ({ cls := "java/lang/String", name := "repeatCopyRest", desc := "([BIII)V" } : Jvm.MethodName) jdk_42_method_146_code (4 : Nat) (Option.none : Option Jvm.ClassFile.FieldType), Jvm.Cond.code ({ cls := "java/lang/String", name := "<init>", desc := "([BB)V" } : Jvm.MethodName) jdk_42_method_151_code (3 : Nat) (Option.none : Option Jvm.ClassFile.FieldType), Jvm.Cond.code ({ cls := "java/lang/String", name := "charAt", desc := "(I)C" } : Jvm.MethodName) jdk_42_method_56_code (2 : Nat) (Option.some Jvm.ClassFile.FieldType.char), Jvm.Cond.code ({ cls := "java/lang/String", name := "isLatin1", desc := "()Z" } : Jvm.MethodName) jdk_42_method_154_code (1 : Nat) (Option.some Jvm.ClassFile.FieldType.boolean), Jvm.Cond.code ({ cls := "java/lang/StringLatin1", name := "charAt", desc := "([BI)C" } : Jvm.MethodName) jdk_43_method_2_code (2 : Nat) (Option.some Jvm.ClassFile.FieldType.char), Jvm.Cond.code ({ cls := "java/lang/String", name := "checkIndex", desc := "(II)V" } : Jvm.MethodName) jdk_42_method_155_code (2 : Nat) (Option.none : Option Jvm.ClassFile.FieldType), Jvm.Cond.code ({ cls := "jdk/internal/util/Preconditions", name := "checkIndex", desc := "(IILjava/util/function/BiFunction;)I" } : Jvm.MethodName) jdk_41_method_11_code (3 : Nat) (Option.some Jvm.ClassFile.FieldType.int)]
set_option maxRecDepth 65536 in
theorem codes_eq : words1.filter isCode = codes1 := rfl
theorem w_codes : ∀ c ∈ words1.filter isCode, c.before args0 about1 = true := by
  rw [codes_eq]
  intro c hc
  simp only [codes1, List.mem_cons, List.not_mem_nil, or_false] at hc
  rcases hc with rfl | rfl | rfl | rfl | rfl | rfl | rfl | rfl | rfl | rfl | rfl | rfl | rfl | rfl | rfl | rfl | rfl | rfl | rfl | rfl | rfl | rfl | rfl | rfl | rfl | rfl | rfl | rfl | rfl | rfl | rfl | rfl | rfl | rfl | rfl | rfl | rfl | rfl | rfl | rfl | rfl | rfl | rfl | rfl | rfl
  · exact w_c0
  · exact w_c1
  · exact w_c2
  · exact w_c3
  · exact w_c4
  · exact w_c5
  · exact w_c6
  · exact w_c7
  · exact w_c8
  · exact w_c9
  · exact w_c10
  · exact w_c11
  · exact w_c12
  · exact w_c13
  · exact w_c14
  · exact w_c15
  · exact w_c16
  · exact w_c17
  · exact w_c18
  · exact w_c19
  · exact w_c20
  · exact w_c21
  · exact w_c22
  · exact w_c23
  · exact w_c24
  · exact w_c25
  · exact w_c26
  · exact w_c27
  · exact w_c28
  · exact w_c29
  · exact w_c30
  · exact w_c31
  · exact w_c32
  · exact w_c33
  · exact w_c34
  · exact w_c35
  · exact w_c36
  · exact w_c37
  · exact w_c38
  · exact w_c39
  · exact w_c40
  · exact w_c41
  · exact w_c42
  · exact w_c43
  · exact w_c44
set_option maxRecDepth 65536 in
theorem w_t1 : (words1.take 24).all (fun c => isCode c || c.before args0 about1) = true := by decide +kernel
set_option maxRecDepth 65536 in
theorem w_t2 : ((words1.drop 24).take 24).all (fun c => isCode c || c.before args0 about1) = true := by decide +kernel
set_option maxRecDepth 65536 in
theorem w_t3 : (((words1.drop 24).drop 24).take 24).all (fun c => isCode c || c.before args0 about1) = true := by decide +kernel
set_option maxRecDepth 65536 in
theorem w_t4 : ((((words1.drop 24).drop 24).drop 24).take 24).all (fun c => isCode c || c.before args0 about1) = true := by decide +kernel
set_option maxRecDepth 65536 in
theorem w_t5 : (((((words1.drop 24).drop 24).drop 24).drop 24).take 24).all (fun c => isCode c || c.before args0 about1) = true := by decide +kernel
set_option maxRecDepth 65536 in
theorem w_t6 : ((((((words1.drop 24).drop 24).drop 24).drop 24).drop 24).take 24).all (fun c => isCode c || c.before args0 about1) = true := by decide +kernel
set_option maxRecDepth 65536 in
theorem w_t7 : (((((((words1.drop 24).drop 24).drop 24).drop 24).drop 24).drop 24).take 24).all (fun c => isCode c || c.before args0 about1) = true := by decide +kernel
set_option maxRecDepth 65536 in
theorem w_t8 : ((((((((words1.drop 24).drop 24).drop 24).drop 24).drop 24).drop 24).drop 24).take 24).all (fun c => isCode c || c.before args0 about1) = true := by decide +kernel
set_option maxRecDepth 65536 in
theorem w_t9 : (((((((((words1.drop 24).drop 24).drop 24).drop 24).drop 24).drop 24).drop 24).drop 24).take 24).all (fun c => isCode c || c.before args0 about1) = true := by decide +kernel
set_option maxRecDepth 65536 in
theorem w_t10 : ((((((((((words1.drop 24).drop 24).drop 24).drop 24).drop 24).drop 24).drop 24).drop 24).drop 24).take 24).all (fun c => isCode c || c.before args0 about1) = true := by decide +kernel
set_option maxRecDepth 65536 in
theorem w_t11 : ((((((((((words1.drop 24).drop 24).drop 24).drop 24).drop 24).drop 24).drop 24).drop 24).drop 24).drop 24).all (fun c => isCode c || c.before args0 about1) = true := by decide +kernel
theorem w_tables : (allAtoms (Jvm.Cond.code x code maxLocals ret :: tables_1)).before args0 about1 = true := by
  rw [allAtoms_all]
  show words1.all (fun c => c.before args0 about1) = true
  refine all_split ?_ w_codes
  rw [← List.take_append_drop 24 words1, List.all_append, w_t1, ← List.take_append_drop 24 (words1.drop 24), List.all_append, w_t2, ← List.take_append_drop 24 ((words1.drop 24).drop 24), List.all_append, w_t3, ← List.take_append_drop 24 (((words1.drop 24).drop 24).drop 24), List.all_append, w_t4, ← List.take_append_drop 24 ((((words1.drop 24).drop 24).drop 24).drop 24), List.all_append, w_t5, ← List.take_append_drop 24 (((((words1.drop 24).drop 24).drop 24).drop 24).drop 24), List.all_append, w_t6, ← List.take_append_drop 24 ((((((words1.drop 24).drop 24).drop 24).drop 24).drop 24).drop 24), List.all_append, w_t7, ← List.take_append_drop 24 (((((((words1.drop 24).drop 24).drop 24).drop 24).drop 24).drop 24).drop 24), List.all_append, w_t8, ← List.take_append_drop 24 ((((((((words1.drop 24).drop 24).drop 24).drop 24).drop 24).drop 24).drop 24).drop 24), List.all_append, w_t9, ← List.take_append_drop 24 (((((((((words1.drop 24).drop 24).drop 24).drop 24).drop 24).drop 24).drop 24).drop 24).drop 24), List.all_append, w_t10, w_t11]
  rfl
set_option maxRecDepth 65536 in
theorem w_rest : rest_1_c.before args0 about1 = true := by decide +kernel
set_option maxRecDepth 65536 in
theorem w_case : (Jvm.Cond.and given_1 narrow_1).before args0 about1 = true := by decide +kernel
set_option maxRecDepth 65536 in
theorem w_consts : constsHeld consts_1 about1 := Jvm.Lit.constsHeldB_iff.mp (by decide +kernel)
theorem w_applies : (headSpec (Jvm.Cond.code x code maxLocals ret :: tables_1) room_1).applies x e0.platform about1 = true :=
  (Spec.applies_iff w_frames).mpr ⟨w_running, w_runnable, w_alone, w_named, w_hears, w_ripe, w_room, w_tables⟩
theorem atStart : AtStart classFile x code maxLocals ret World_1 tables_1 room_1 Calls_1 rest_1 Pre_1 launch0 p0 e0 about1 theMethod args0 below0 :=
  ⟨lists_1, trivial, launch0.admits_env _ _ _, launch0.least_env, fairChoices_fair.cas, fairChoices_fair.clock, w_frames, w_args, w_heap, w_applies, ⟨w_consts, trivial⟩, w_rest, w_case⟩
end start1
theorem witness_1 : WitnessClaimed_1 := ⟨start1.p0, start1.e0, start1.about1, start1.theMethod, start1.args0, start1.below0, start1.atStart⟩
end Jvm.Pilot.@@N@@
