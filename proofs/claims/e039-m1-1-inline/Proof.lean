import JvmDerived
import JvmDerived.Pilot.@@N@@Statement
import JvmDerived.Pilot.@@N@@Code
set_option linter.unusedVariables false
set_option linter.unusedSimpArgs false
namespace Jvm.Pilot.@@N@@
open Jvm Jvm.ClassFile Sem Op Lib Jvm.Free Jvm.Stand Jvm.LawKit Jvm.RoadKit Bundle Jvm.Pilot.@@N@@.Jvm.D
theorem tw {Z : State} {a0 : Array Value} (hw : ∀ d ∈ tables_1, d.before a0 Z = true) (i : Nat) {d : Jvm.Cond} (h : tables_1[i]? = some d) : d.before a0 Z = true := hw d (List.mem_of_getElem? h)
theorem own_keq {h0 h h' : Heap} {ws : List Addr} (e : h' = h) (K : Keep h0 h ws) : Keep h0 h' ws := e ▸ K

abbrev EL : List (String × Nat) := consts_1
theorem own_nf {args : Array Value} {s : State} {C : String} {y0 z y : MethodName} (h : (Cond.selects C y0 z).before args s = true) (e : z.cls = y.cls) : NotFace s y := fun r0 h0 => by
  obtain ⟨c2, r2, m2, q1, q2, q3, q4, kP, hkP, hkPi⟩ := Cond.selects_spec h
  have e1 := findClass_of_methodNamed q3
  have e2 := findClass_of_methodNamed h0
  rw [e, e2] at e1
  exact ⟨kP, (Option.some.inj e1) ▸ hkP, hkPi⟩
theorem own_same {args a1 : Array Value} {s : State} {y : MethodName} {C : String} {y0 z0 : MethodName} (hi : (Cond.instanceMethod y).before args s = true) (h : (Cond.selects C y0 z0).before a1 s = true) (e : z0.cls = y.cls) (hy : y.cls ≠ "java/lang/invoke/MethodHandle" ∧ y.cls ≠ "java/lang/invoke/VarHandle") : (Cond.sameMethod y.cls y.cls y.name y.desc).before args s = true := by
  obtain ⟨mk, methM, hnamed, hmethM, -, -⟩ := Cond.instanceMethod_spec hi
  obtain ⟨c2, r2, m2, q1, q2, q3, q4, kP, hkP, hkPi⟩ := Cond.selects_spec h
  have hfound : s.methodFound? y.cls y.name y.desc = some mk := State.methodFound?_of_named hnamed hy
  have hc := findClass_of_methodNamed hnamed
  have e1 := findClass_of_methodNamed q3
  rw [e, hc] at e1
  have e2 : mk.cls = m2.cls := Option.some.inj e1
  have hn' : s.methodNamed? ⟨y.cls, y.name, y.desc⟩ = some mk := hnamed
  simp [Cond.before, Cond.holds, Cond.value, hc, hfound, hn', e2, hkP, hkPi]
theorem own_selP {args : Array Value} {s : State} {C : String} {y : MethodName} (h : (Cond.selects C y y).before args s = true) (hp : s.PrivateAt y) (hi : (Cond.instanceMethod y).before args s = true) (hy : y.cls ≠ "java/lang/invoke/MethodHandle" ∧ y.cls ≠ "java/lang/invoke/VarHandle") : (Cond.selects y.cls y y).before args s = true := by
  obtain ⟨c2, r2, m2, q1, q2, q3, q4, kP, hkP, hkPi⟩ := Cond.selects_spec h
  exact selects_self_of_private (findClass_of_methodNamed q3) hkP hkPi hp hi hy
theorem own_n {n : Nat} (h : n < 2147483648) : (Int32.ofNat n).toInt = n := Int32.toInt_ofNat_of_lt h
theorem own_nc {n : Nat} (h : n < 2147483648) : (Int32.ofNat n).toNatClampNeg = n := by simp only [Int32.toNatClampNeg, own_n h]; omega
theorem own_z : (0 : Int32).toInt = 0 := by decide
theorem own_39 : (2147483639 : Int32).toInt = 2147483639 := by decide
theorem own_47 : (2147483647 : Int32).toInt = 2147483647 := by decide
theorem own_nn {n : Nat} (h : n < 2147483648) : ¬ Int32.ofNat n < 0 := by rw [Int32.lt_iff_toInt_lt, own_n h, own_z]; omega
theorem own_lt {a b : Nat} (ha : a < 2147483648) (hb : b < 2147483648) : Int32.ofNat a < Int32.ofNat b ↔ a < b := by rw [Int32.lt_iff_toInt_lt, own_n ha, own_n hb]; omega
theorem own_eq {a b : Nat} (ha : a < 2147483648) (hb : b < 2147483648) : Int32.ofNat a = Int32.ofNat b ↔ a = b := by
  rw [← Int32.toInt_inj, own_n ha, own_n hb]; omega
theorem own_add (a b : Nat) : Int32.ofNat a + Int32.ofNat b = Int32.ofNat (a + b) := (Int32.ofNat_add a b).symm
theorem own_sub {a b : Nat} (h : b ≤ a) (ha : a < 2147483648) : Int32.ofNat a - Int32.ofNat b = Int32.ofNat (a - b) := by
  have q := c_isub (Int32.ofNat a) (Int32.ofNat b)
  have r := rng32 (Int32.ofNat a - Int32.ofNat b)
  refine Int32.toInt_inj.mp ?_
  rw [own_n ha, own_n (by omega)] at q
  rw [own_n (by omega)]; omega
theorem own_shr0 (x : Int32) : (x >>> ((0 : Int32) &&& 31)) = x := by
  have := c_ishr x 0 0 (by decide); exact Int32.toInt_inj.mp (by rw [this]; simp)
theorem own_shl0 (x : Int32) : (x <<< ((0 : Int32) &&& 31)) = x := by
  have q := c_ishl x 0 0 (by decide)
  have r := rng32 x
  have r' := rng32 (x <<< ((0 : Int32) &&& 31))
  refine Int32.toInt_inj.mp ?_
  simp only [Nat.pow_zero, Int.natCast_one, Int.mul_one] at q
  omega
def own_max (a b : Int32) : Int32 := if a < b then b else a
def own_min (a b : Int32) : Int32 := if b < a then b else a
theorem own_maxn {a b : Nat} (ha : a < 2147483648) (hb : b < 2147483648) : own_max (Int32.ofNat a) (Int32.ofNat b) = Int32.ofNat (max a b) := by
  unfold own_max; split
  · rename_i z; rw [own_lt ha hb] at z; rw [Nat.max_eq_right (by omega)]
  · rename_i z; rw [own_lt ha hb] at z; rw [Nat.max_eq_left (by omega)]
theorem own_minn {a b : Nat} (ha : a < 2147483648) (hb : b < 2147483648) : own_min (Int32.ofNat a) (Int32.ofNat b) = Int32.ofNat (min a b) := by
  unfold own_min; split
  · rename_i z; rw [own_lt hb ha] at z; rw [Nat.min_eq_right (by omega)]
  · rename_i z; rw [own_lt hb ha] at z; rw [Nat.min_eq_left (by omega)]
/-- what a builder's capacity becomes -/
def own_gr (cp nd : Nat) : Nat := if nd ≤ cp then cp else max nd (2 * cp + 2)
theorem own_ext {h h' : Heap} (K : Keep h h' []) : Ext h h' := ⟨K.1, fun a c q => K.2.1 a c q nin0⟩
theorem own_keep {h h' : Heap} {ws : List Addr} (E : Ext h h') : Keep h h' ws := (Keep.refl h ws).ext E
theorem own_us (vs : List Value) (sp nn : Nat) (h : sp + nn ≤ vs.length) : (List.range nn).map (fun i => vs.getD (sp + i) (.int 0)) = (vs.drop sp).take nn := by
  apply List.ext_getElem
  · simp; omega
  · intro i h1 h2
    simp at h1
    have h3 : sp + i < vs.length := by omega
    simp [List.getD_eq_getElem?_getD, h3]
theorem own_cp {p : Program} {l : Launch} {e : Env} {R : Room} {s : State} {m : MethodId} {args : Array Value} {below : List Frame} {meth : Method} {c : Code} {T : State} {locs : List Loc} {cells slots : Nat} {Z : State} {a0 : Array Value} {h : Heap} {a b : Addr}
    (X : Stand p l e R s m args below meth c T locs cells slots) (hx : p.tables.exec = Jvm.exec) (hZ : Z.Warmed39 s.vm) {own : String} {index : Nat} (hown : s.vm.findClass own = some m.cls)
    (w1 : (Cond.methodLink own index Jvm.Stand.acN).before a0 Z = true) (w2 : (Cond.native Jvm.Stand.acN).before a0 Z = true) (w3 : (Cond.static Jvm.Stand.acN).before a0 Z = true) (w4 : (Cond.initialized "java/lang/System").before a0 Z = true) (eT : T.heap = h)
    {k k' : ClassId} (z z' sp dp nn : Nat) {vs vd : List Value} (A : Arv Z h a k .byte (Int32.ofNat z) vs (.int 0)) (B : Arv Z h b k' .byte (Int32.ofNat z') vd (.int 0)) (hA : vs.length = z) (hB : vd.length = z') (hz : z < 2147483648) (hz' : z' < 2147483648) (h4 : sp + nn ≤ z) (h5 : dp + nn ≤ z')
    {n0 : Nat} (N : Fr n0 locs) (ge : n0 ≤ b) {g : JFrame} (hg : g.method = m) (hsize : g.locals.size = c.maxLocals) {rest : List Value} (hs : g.stack = .int (Int32.ofNat nn) :: .int (Int32.ofNat dp) :: .ref b :: .int (Int32.ofNat sp) :: .ref a :: rest) (hd : decode c.code g.pc = .ok (.invokestatic index, 3))
    (hf : 1 ≤ R.frames) {W : Nat} (hW : 2 * g.monitorRoom + (rest.map fun v => v.category).sum ≤ W) (hlo : W + (nativeFrameWords "java/lang/System" "arraycopy" 5 + 11) ≤ R.locals) :
    ∃ T' h' L, Stand p l e R s m args below meth c T' L cells slots ∧ T'.heap = h' ∧ Fr n0 L ∧ Keep h h' [b] ∧ Arv Z h' b k' .byte (Int32.ofNat z') (vd.take dp ++ (vs.drop sp).take nn ++ vd.drop (dp + nn)) (.int 0) ∧
      ∀ target, Steps p.tables e below (T'.setTop { g with pc := g.pc + 3, stack := rest }) target → Steps p.tables e below (T.setTop g) target := by
  have e1 := own_nc (n := sp) (by omega)
  have e2 := own_nc (n := dp) (by omega)
  have e3 := own_nc (n := nn) (by omega)
  have e4 := own_nc hz
  have e5 := own_nc hz'
  obtain ⟨T', h', L, X', e', N', K', V', st⟩ := cpA X hx hZ hown w1 w2 w3 w4 eT A B (Or.inl ⟨rfl, rfl⟩) (own_nn (n := sp) (by omega)) (own_nn (n := dp) (by omega)) (own_nn (n := nn) (by omega)) (by rw [e1, e3, e4]; exact h4) (by rw [e2, e3, e5]; exact h5) rfl (by rw [e2, e3]; omega) N ge hg hsize hs hd hf hW hlo
  rw [e1, e2, e3, own_us vs sp nn (by omega)] at V'
  exact ⟨T', h', L, X', e', N', K', V', st⟩
theorem own_all {vs : List Value} {n : Nat} (h : vs.length = n) : (vs.drop 0).take n = vs := by simp [← h]
theorem own_acat {z : Value} {n : Nat} : ((List.replicate n z).take 0 : List Value) = [] := by simp
theorem own_grle {cp nd : Nat} : nd ≤ own_gr cp nd ∧ cp ≤ own_gr cp nd := by unfold own_gr; split <;> omega
theorem own_grM {cp nd M : Nat} (hc : cp ≤ 1000) (hM : M ≤ 1000) (h : nd ≤ cp ∨ max nd (2 * cp + 2) ≤ M) : own_gr cp nd ≤ 1000 := by unfold own_gr; split <;> omega
theorem own_app {vs ws xs : List Value} {cp ct nx : Nat} (h1 : ws.take cp = vs) (h2 : ct ≤ cp) (h3 : xs.length = nx) (h4 : ct + nx ≤ ws.length) : (ws.take ct ++ xs ++ ws.drop (ct + nx)).take (ct + nx) = vs.take ct ++ xs ∧ (ws.take ct ++ xs ++ ws.drop (ct + nx)).length = ws.length := by
  have e : vs.take ct = ws.take ct := by rw [← h1, List.take_take, Nat.min_eq_left h2]
  have l1 : (ws.take ct ++ xs).length = ct + nx := by simp [h3]; omega
  refine ⟨?_, ?_⟩
  · rw [e, List.take_append_of_le_length (by omega), List.take_of_length_le (by omega)]
  · simp [h3]; omega
theorem own_set {vs ws : List Value} {cp ct : Nat} {x : Value} (h1 : ws.take cp = vs) (h2 : ct ≤ cp) (h4 : ct + 1 ≤ ws.length) : (ws.set ct x).take (ct + 1) = vs.take ct ++ [x] ∧ (ws.set ct x).length = ws.length := by
  have e : vs.take ct = ws.take ct := by rw [← h1, List.take_take, Nat.min_eq_left h2]
  refine ⟨?_, by simp⟩
  rw [e]
  apply List.ext_getElem?
  intro i
  by_cases hi : i < ct
  · rw [List.getElem?_take_of_lt (by omega), List.getElem?_set_ne (by omega), List.getElem?_append_left (by simp; omega), List.getElem?_take_of_lt hi]
  · by_cases hj : i = ct
    · subst hj
      rw [List.getElem?_take_of_lt (by omega), List.getElem?_set_self (by omega), List.getElem?_append_right (by simp; omega)]
      have : i - (ws.take i).length = 0 := by simp; omega
      rw [this]; rfl
    · rw [List.getElem?_eq_none (by simp; omega), List.getElem?_eq_none (by simp; omega)]
theorem own_dbl {lm c : Nat} {a b : Value} (h : c + c ≤ lm) : ((List.replicate c a ++ List.replicate (lm - c) b).take c ++ ((List.replicate c a ++ List.replicate (lm - c) b).drop 0).take c ++ (List.replicate c a ++ List.replicate (lm - c) b).drop (c + c)) = List.replicate (c + c) a ++ List.replicate (lm - (c + c)) b := by
  have e1 : (List.replicate c a ++ List.replicate (lm - c) b).take c = List.replicate c a := by rw [List.take_append_of_le_length (by simp)]; simp
  have e2 : (List.replicate c a ++ List.replicate (lm - c) b).drop (c + c) = List.replicate (lm - (c + c)) b := by
    rw [List.drop_append]; simp <;> omega
  rw [List.drop_zero, e1, e2, List.replicate_append_replicate]
theorem own_fill {lm c : Nat} {a b : Value} (h : c ≤ lm) (h2 : lm - c ≤ c) : ((List.replicate c a ++ List.replicate (lm - c) b).take c ++ ((List.replicate c a ++ List.replicate (lm - c) b).drop 0).take (lm - c) ++ (List.replicate c a ++ List.replicate (lm - c) b).drop (c + (lm - c))) = List.replicate lm a := by
  have e1 : (List.replicate c a ++ List.replicate (lm - c) b).take c = List.replicate c a := by rw [List.take_append_of_le_length (by simp)]; simp
  have e3 : (List.replicate c a ++ List.replicate (lm - c) b).take (lm - c) = List.replicate (lm - c) a := by rw [List.take_append_of_le_length (by simp; omega), List.take_replicate, Nat.min_eq_left h2]
  have e2 : (List.replicate c a ++ List.replicate (lm - c) b).drop (c + (lm - c)) = [] := List.drop_eq_nil_of_le (by simp <;> omega)
  rw [List.drop_zero, e1, e2, e3, List.append_nil, List.replicate_append_replicate]; congr 1; omega
theorem own_div {pn : Nat} (h : 2 ≤ pn) (h2 : pn ≤ 1000) : ¬ ((2147483647 : Int32) / Int32.ofNat pn < Int32.ofNat 4) := by
  have e : (2147483647 : Int32).toInt = 2147483647 := by decide
  have m1 : (-1 : Int32).toInt = -1 := by decide
  have q := (c_idiv 2147483647 (Int32.ofNat pn) pn (own_n (by omega)) (fun z => by have q := congrArg Int32.toInt z; rw [own_n (by omega), m1] at q; omega)).1 (by rw [e]; omega)
  rw [Int32.lt_iff_toInt_lt, q, own_n (by omega), e]
  have : (4 : Int) ≤ 2147483647 / (pn : Int) := (Int.le_ediv_iff_mul_le (by omega)).mpr (by omega)
  omega
theorem own_backS0 {p : Program} {l : Launch} {e : Env} {R : Room} {s : State} {args : Array Value} {below : List Frame} {Z : State} {a0 : Array Value} {EL : List (String × Nat)} {h : Heap} {vm0 : Vm} {y : MethodName} {bytes : ByteArray} {maxL : Nat} {ret : Option FieldType} {rm : Room} {len W : Nat} {as' : Array Value} {Q : Option Value → Heap → List Loc → Vm → Prop}
    (hM : MetFree l y (head1 [Cond.code y bytes maxL ret] rm) (fun a U => a = as' ∧ Z.Warmed39 U.vm ∧ U.heap = h ∧ CHv Z EL U.vm h) (fun _ _ _ _ _ => True) (fun _ U o U' => ∃ v L, o = .returned v ∧ Q v U'.heap L U'.vm ∧ CHr Z EL U.vm U.heap U'.vm U'.heap ∧ ReturnedEndW U o U' L rm.cells rm.slots))
    (hZ : Z.Warmed39 vm0) (wc : (Cond.code y bytes maxL ret).before a0 Z = true) (wz : (Cond.initialized y.cls).before a0 Z = true) (hf : rm.frames + 1 ≤ R.frames) (hl : W + (maxL + 11) + rm.locals ≤ R.locals) (hEL : EW Z a0 EL) (H : CHv Z EL vm0 h) :
    BackS l R p e below (s.setVm vm0) args y len W (fun A a => a = as' ∧ A.U.heap = h ∧ A.cells + rm.cells ≤ R.cells ∧ A.slots + rm.slots ≤ R.slots)
      (fun A _ v B => ∃ L, Q v B.U.heap L B.U.vm ∧ B.locs = A.locs ++ L ∧ B.cells = A.cells + rm.cells ∧ B.slots = A.slots + rm.slots ∧ CHr Z EL vm0 h B.U.vm B.U.heap) := by
  refine BackS.of_freeW (bytes := bytes) (maxL := maxL) (ret := ret) (E := fun _ first o t L k n => k = rm.cells ∧ n = rm.slots ∧ (∃ v, o = .returned v ∧ Q v t.heap L t.vm) ∧ CHr Z EL first.vm first.heap t.vm t.heap) hM hf hl ?_ ?_ (fun _ _ _ _ _ _ _ _ _ => trivial) ?_ ?_
  · intro m meth c A a Y hp
    have hU : Z.Warmed39 A.U.vm := wtrans (s := s.setVm vm0) hZ Y.warmed
    refine ⟨?_, mv hU wc, mv hU wz, hp.2.2.1, hp.2.2.2⟩
    show (Cond.and _ .tt).before a A.U = true
    rw [Cond.before_and, mv hU wc]; rfl
  · intro m meth c A a g mk Y hp
    have q := CHv.at Y hZ hEL H
    exact ⟨hp.1, wtrans (s := s.setVm vm0) hZ Y.warmed, hp.2.1, q.1⟩
  · intro _ _ _ _ hq
    obtain ⟨v, L, h1, h2, h3, h4⟩ := hq
    exact ⟨L, _, _, h4, rfl, rfl, ⟨v, h1, h2⟩, h3⟩
  · intro m meth c A a g mk v t L k n Y hp _ _ hq
    obtain ⟨e1, e2, ⟨v', e3, e4⟩, e5⟩ := hq
    cases e3; subst e1 e2
    refine ⟨L, e4, rfl, rfl, rfl, (CHv.at Y hZ hEL H).trans ?_⟩
    rw [← hp.2.1]; exact e5
theorem own_backS1 {p : Program} {l : Launch} {e : Env} {R : Room} {s : State} {args : Array Value} {below : List Frame} {Z : State} {a0 : Array Value} {EL : List (String × Nat)} {h : Heap} {vm0 : Vm} {y : MethodName} {bytes : ByteArray} {maxL : Nat} {ret : Option FieldType} {rm : Room} {len W : Nat} {as' : Array Value} {Q : Option Value → Heap → List Loc → Vm → Prop} {y1 : Addr}
    (hM : MetFree l y (head1 [Cond.code y bytes maxL ret] rm) (fun a U => a = as' ∧ Z.Warmed39 U.vm ∧ U.heap = h ∧ CHv Z EL U.vm h ∧ Safe Z EL U.vm h y1) (fun _ _ _ _ _ => True) (fun _ U o U' => ∃ v L, o = .returned v ∧ Q v U'.heap L U'.vm ∧ CHr Z EL U.vm U.heap U'.vm U'.heap ∧ ReturnedEndW U o U' L rm.cells rm.slots))
    (hZ : Z.Warmed39 vm0) (wc : (Cond.code y bytes maxL ret).before a0 Z = true) (wz : (Cond.initialized y.cls).before a0 Z = true) (hf : rm.frames + 1 ≤ R.frames) (hl : W + (maxL + 11) + rm.locals ≤ R.locals) (hEL : EW Z a0 EL) (H : CHv Z EL vm0 h) (hy : y1 < h.size) (S : Safe Z EL vm0 h y1) :
    BackS l R p e below (s.setVm vm0) args y len W (fun A a => a = as' ∧ A.U.heap = h ∧ A.cells + rm.cells ≤ R.cells ∧ A.slots + rm.slots ≤ R.slots)
      (fun A _ v B => ∃ L, Q v B.U.heap L B.U.vm ∧ B.locs = A.locs ++ L ∧ B.cells = A.cells + rm.cells ∧ B.slots = A.slots + rm.slots ∧ CHr Z EL vm0 h B.U.vm B.U.heap) := by
  refine BackS.of_freeW (bytes := bytes) (maxL := maxL) (ret := ret) (E := fun _ first o t L k n => k = rm.cells ∧ n = rm.slots ∧ (∃ v, o = .returned v ∧ Q v t.heap L t.vm) ∧ CHr Z EL first.vm first.heap t.vm t.heap) hM hf hl ?_ ?_ (fun _ _ _ _ _ _ _ _ _ => trivial) ?_ ?_
  · intro m meth c A a Y hp
    have hU : Z.Warmed39 A.U.vm := wtrans (s := s.setVm vm0) hZ Y.warmed
    refine ⟨?_, mv hU wc, mv hU wz, hp.2.2.1, hp.2.2.2⟩
    show (Cond.and _ .tt).before a A.U = true
    rw [Cond.before_and, mv hU wc]; rfl
  · intro m meth c A a g mk Y hp
    have q := CHv.at Y hZ hEL H
    exact ⟨hp.1, wtrans (s := s.setVm vm0) hZ Y.warmed, hp.2.1, q.1, q.safe hy S⟩
  · intro _ _ _ _ hq
    obtain ⟨v, L, h1, h2, h3, h4⟩ := hq
    exact ⟨L, _, _, h4, rfl, rfl, ⟨v, h1, h2⟩, h3⟩
  · intro m meth c A a g mk v t L k n Y hp _ _ hq
    obtain ⟨e1, e2, ⟨v', e3, e4⟩, e5⟩ := hq
    cases e3; subst e1 e2
    refine ⟨L, e4, rfl, rfl, rfl, (CHv.at Y hZ hEL H).trans ?_⟩
    rw [← hp.2.1]; exact e5
theorem own_three (n : Nat) : n = 0 ∨ n = 1 ∨ 2 ≤ n := by omega
theorem own_safeK {Z : State} {EL : List (String × Nat)} {vm : Vm} {h h' : Heap} {ws : List Addr} {x y : Addr} (K : Keep h h' ws) (hs : ∀ x ∈ ws, Safe Z EL vm h x) (H : CHv Z EL vm h) (hx : x = y ∨ h.size ≤ x) (S : Safe Z EL vm h y) : Safe Z EL vm h' x := fun B => by
  have B0 := (H.keepStep K hs).2 _ B
  rcases hx with e | q
  · rw [e] at B0; exact S B0
  · exact Safe.new q B0
theorem own_safeE {Z : State} {EL : List (String × Nat)} {vm : Vm} {h h' : Heap} {x : Addr} (E : Ext h h') (H : CHv Z EL vm h) (hx : h.size ≤ x) : Safe Z EL vm h' x := fun B => Safe.new hx ((H.step fun _ _ _ q => E.2 _ _ q).2 _ B)
theorem own_caps1 {ct dn nx : Nat} (h : ct + 4 * dn + nx + 1 ≤ 150) : (ct + 4 * (dn) ≤ 150 ∨ max (ct + 4 * (dn)) (2 * (150) + 2) ≤ 160) ∧ (ct + 4 * (dn) + (nx) ≤ own_gr (150) (ct + 4 * (dn)) ∨ max (ct + 4 * (dn) + (nx)) (2 * (own_gr (150) (ct + 4 * (dn))) + 2) ≤ 160) ∧ (ct + 4 * (dn) + (nx) + 1 ≤ own_gr (own_gr (150) (ct + 4 * (dn))) (ct + 4 * (dn) + (nx)) ∨ max (ct + 4 * (dn) + (nx) + 1) (2 * (own_gr (own_gr (150) (ct + 4 * (dn))) (ct + 4 * (dn) + (nx))) + 2) ≤ 160) ∧ own_gr (own_gr (own_gr (150) (ct + 4 * (dn))) (ct + 4 * (dn) + (nx))) (ct + 4 * (dn) + (nx) + 1) = 150 := by
  have e1 : own_gr 150 (ct + 4 * dn) = 150 := if_pos (by omega)
  have e2 : own_gr 150 (ct + 4 * dn + nx) = 150 := if_pos (by omega)
  have e3 : own_gr 150 (ct + 4 * dn + nx + 1) = 150 := if_pos (by omega)
  rw [e1, e2, e3]; omega
theorem ef_max (m : MethodId) (x0 : Int32) (x1 : Int32) : entryFrame m #[(.int x0), (.int x1)] 2 = mkF m 0 #[.val (.int x0), .val (.int x1)] [] := by (first | (simp [entryFrame, mkF, argsToLocals, Value.category]; done) | rfl)
def Qmax (Z : State) (p1 : Int32) (p2 : Int32) (h0 : Heap) (n0 : Nat) (v : Option Value) (h : Heap) (L : List Loc) : Prop := v = some (.int (own_max p1 p2)) ∧ Fr n0 L ∧ h = h0
theorem d16_0 : decode jdk_29_method_65_code 0 = .ok (.iload_n 0, 1) := by decide +kernel
theorem d16_1 : decode jdk_29_method_65_code 1 = .ok (.iload_n 1, 1) := by decide +kernel
theorem d16_2 : decode jdk_29_method_65_code 2 = .ok (.if_icmp .lt 7, 3) := by decide +kernel
theorem d16_9 : decode jdk_29_method_65_code 9 = .ok (.iload_n 1, 1) := by decide +kernel
theorem d16_10 : decode jdk_29_method_65_code 10 = .ok (.ireturn, 1) := by decide +kernel
theorem d16_5 : decode jdk_29_method_65_code 5 = .ok (.iload_n 0, 1) := by decide +kernel
theorem d16_6 : decode jdk_29_method_65_code 6 = .ok (.goto 4, 3) := by decide +kernel
set_option maxRecDepth 65536 in
set_option maxHeartbeats 40000000 in
theorem rmmax (l : Launch) (Z : State) (a0 : Array Value) (hw : ∀ d ∈ tables_1, d.before a0 Z = true) (ws : List Jvm.Cond) (p1 : Int32) (p2 : Int32) (h0 : Heap) (n0 : Nat) (Z0 : n0 ≤ h0.size)  :
    MetFree l (⟨"java/lang/Math", "max", "(II)I"⟩ : MethodName) (head1 (Jvm.Cond.code (⟨"java/lang/Math", "max", "(II)I"⟩ : MethodName) jdk_29_method_65_code 2 (some .int) :: ws) ({ frames := 0, cells := 0, slots := 0, locals := 0 } : Room)) (fun a U => a = #[(.int p1), (.int p2)] ∧ Z.Warmed39 U.vm ∧ U.heap = h0) (fun _ _ _ _ _ => True) (fun _ U o U' => ∃ v L, o = .returned v ∧ Qmax Z p1 p2 h0 n0 v U'.heap L ∧ FrameEnd U o U' L ({ frames := 0, cells := 0, slots := 0, locals := 0 } : Room).cells ({ frames := 0, cells := 0, slots := 0, locals := 0 } : Room).slots) := by
  refine MetFree.of_bodySF (Jvm.Free.JP.mathPlain rfl (by decide +kernel)) hisR ?_
  intro p e s m args below meth c s₁ Bd hml0 hP hK
  obtain ⟨rfl, hZ, hh⟩ := hP
  have hx := Bd.exec
  have hby := Bd.bytes
  have hml : c.maxLocals = 2 := hml0
  have hown : s.vm.findClass "java/lang/Math" = some m.cls := findClass_of_methodNamed Bd.named
  have hnm := (name_of_methodNamed Bd.named Bd.method).1
  have X0 : Stand p l e ({ frames := 0, cells := 0, slots := 0, locals := 0 } : Room) s m #[(.int p1), (.int p2)] below meth c s₁ [] 0 0 := Stand.of_body Bd
  have e0 : s₁.heap = h0 := by rw [← hh, Bd.state]; rfl
  have N0 := Fr.nil n0
  have pre0 : ∀ t, Steps p.tables e below (s₁.setTop (mkF m 0 #[.val (.int p1), .val (.int p2)] [])) t → Steps p.tables e below (s₁.setTop (entryFrame m #[(.int p1), (.int p2)] 2)) t := fun t k => castTop (ef_max m p1 p2) k
  have pre1 : ∀ t, Steps p.tables e below (s₁.setTop (mkF m 2 #[.val (.int p1), .val (.int p2)] [(.int p2), (.int p1)])) t → Steps p.tables e below (s₁.setTop (mkF m 0 #[.val (.int p1), .val (.int p2)] [])) t := by
    intro t kt
    show Steps p.tables e below (s₁.setTop (mkF m 0 #[.val (.int p1), .val (.int p2)] [])) _
    refine XS.iloadN X0.here hx rfl (hb hby d16_0) rfl ?_
    refine XS.iloadN X0.here hx rfl (hb hby d16_1) rfl ?_
    exact kt
  by_cases c2 : p1 < p2
  · skip
    have pre2 : ∀ t, Steps p.tables e below (s₁.setTop (mkF m 10 #[.val (.int p1), .val (.int p2)] [(.int p2)])) t → Steps p.tables e below (s₁.setTop (mkF m 2 #[.val (.int p1), .val (.int p2)] [(.int p2), (.int p1)])) t := by
      intro t kt
      refine XS.icmpYes X0.here hx rfl (pc0 := 2) (pc' := 9) rfl (hb hby d16_2) rfl (tlt (c2 : p1 < p2)).1 (by decide) (by decide) ?_
      show Steps p.tables e below (s₁.setTop (mkF m 9 #[.val (.int p1), .val (.int p2)] [])) _
      refine XS.iloadN X0.here hx rfl (hb hby d16_9) rfl ?_
      exact kt
    obtain ⟨fs, hr, hrun, hended, hW, hsame⟩ := X0.leave (v := some (.int p2)) (fun h => by rw [Bd.returns] at h; cases h)
    refine ⟨_, _, (pre0 _ (pre1 _ (pre2 _ ?_))), hrun, hended, _, _, rfl, ?_, ⟨_, rfl⟩, hW, hsame.mono (by decide) (by decide)⟩
    · show Steps p.tables e below (s₁.setTop (mkF m 10 #[.val (.int p1), .val (.int p2)] [(.int p2)])) _
      exact retOut X0 hx (t := .int) Bd.returns rfl (Or.inl ⟨rfl, Or.inl rfl, _, rfl⟩) (hb hby d16_10) hr
    · show Qmax Z p1 p2 h0 n0 _ s₁.heap _
      rw [e0]
      exact ⟨by rw [show own_max p1 p2 = p2 from if_pos c2], N0, rfl⟩
  · skip
    have pre3 : ∀ t, Steps p.tables e below (s₁.setTop (mkF m 10 #[.val (.int p1), .val (.int p2)] [(.int p1)])) t → Steps p.tables e below (s₁.setTop (mkF m 2 #[.val (.int p1), .val (.int p2)] [(.int p2), (.int p1)])) t := by
      intro t kt
      refine XS.icmpNo X0.here hx rfl (hb hby d16_2) rfl (flt (c2 : ¬ (p1 < p2))).1 ?_
      show Steps p.tables e below (s₁.setTop (mkF m 5 #[.val (.int p1), .val (.int p2)] [])) _
      refine XS.iloadN X0.here hx rfl (hb hby d16_5) rfl ?_
      refine XS.goto X0.here hx rfl (pc0 := 6) (pc' := 10) rfl (hb hby d16_6) (by decide) (by decide) ?_
      exact kt
    obtain ⟨fs, hr, hrun, hended, hW, hsame⟩ := X0.leave (v := some (.int p1)) (fun h => by rw [Bd.returns] at h; cases h)
    refine ⟨_, _, (pre0 _ (pre1 _ (pre3 _ ?_))), hrun, hended, _, _, rfl, ?_, ⟨_, rfl⟩, hW, hsame.mono (by decide) (by decide)⟩
    · show Steps p.tables e below (s₁.setTop (mkF m 10 #[.val (.int p1), .val (.int p2)] [(.int p1)])) _
      exact retOut X0 hx (t := .int) Bd.returns rfl (Or.inl ⟨rfl, Or.inl rfl, _, rfl⟩) (hb hby d16_10) hr
    · show Qmax Z p1 p2 h0 n0 _ s₁.heap _
      rw [e0]
      exact ⟨by rw [show own_max p1 p2 = p1 from if_neg c2], N0, rfl⟩
theorem ef_min (m : MethodId) (x0 : Int32) (x1 : Int32) : entryFrame m #[(.int x0), (.int x1)] 2 = mkF m 0 #[.val (.int x0), .val (.int x1)] [] := by (first | (simp [entryFrame, mkF, argsToLocals, Value.category]; done) | rfl)
def Qmin (Z : State) (p1 : Int32) (p2 : Int32) (h0 : Heap) (n0 : Nat) (v : Option Value) (h : Heap) (L : List Loc) : Prop := v = some (.int (own_min p1 p2)) ∧ Fr n0 L ∧ h = h0
theorem d18_0 : decode jdk_29_method_69_code 0 = .ok (.iload_n 0, 1) := by decide +kernel
theorem d18_1 : decode jdk_29_method_69_code 1 = .ok (.iload_n 1, 1) := by decide +kernel
theorem d18_2 : decode jdk_29_method_69_code 2 = .ok (.if_icmp .gt 7, 3) := by decide +kernel
theorem d18_9 : decode jdk_29_method_69_code 9 = .ok (.iload_n 1, 1) := by decide +kernel
theorem d18_10 : decode jdk_29_method_69_code 10 = .ok (.ireturn, 1) := by decide +kernel
theorem d18_5 : decode jdk_29_method_69_code 5 = .ok (.iload_n 0, 1) := by decide +kernel
theorem d18_6 : decode jdk_29_method_69_code 6 = .ok (.goto 4, 3) := by decide +kernel
set_option maxRecDepth 65536 in
set_option maxHeartbeats 40000000 in
theorem rmmin (l : Launch) (Z : State) (a0 : Array Value) (hw : ∀ d ∈ tables_1, d.before a0 Z = true) (ws : List Jvm.Cond) (p1 : Int32) (p2 : Int32) (h0 : Heap) (n0 : Nat) (Z0 : n0 ≤ h0.size)  :
    MetFree l (⟨"java/lang/Math", "min", "(II)I"⟩ : MethodName) (head1 (Jvm.Cond.code (⟨"java/lang/Math", "min", "(II)I"⟩ : MethodName) jdk_29_method_69_code 2 (some .int) :: ws) ({ frames := 0, cells := 0, slots := 0, locals := 0 } : Room)) (fun a U => a = #[(.int p1), (.int p2)] ∧ Z.Warmed39 U.vm ∧ U.heap = h0) (fun _ _ _ _ _ => True) (fun _ U o U' => ∃ v L, o = .returned v ∧ Qmin Z p1 p2 h0 n0 v U'.heap L ∧ FrameEnd U o U' L ({ frames := 0, cells := 0, slots := 0, locals := 0 } : Room).cells ({ frames := 0, cells := 0, slots := 0, locals := 0 } : Room).slots) := by
  refine MetFree.of_bodySF (Jvm.Free.JP.mathPlain rfl (by decide +kernel)) hisR ?_
  intro p e s m args below meth c s₁ Bd hml0 hP hK
  obtain ⟨rfl, hZ, hh⟩ := hP
  have hx := Bd.exec
  have hby := Bd.bytes
  have hml : c.maxLocals = 2 := hml0
  have hown : s.vm.findClass "java/lang/Math" = some m.cls := findClass_of_methodNamed Bd.named
  have hnm := (name_of_methodNamed Bd.named Bd.method).1
  have X0 : Stand p l e ({ frames := 0, cells := 0, slots := 0, locals := 0 } : Room) s m #[(.int p1), (.int p2)] below meth c s₁ [] 0 0 := Stand.of_body Bd
  have e0 : s₁.heap = h0 := by rw [← hh, Bd.state]; rfl
  have N0 := Fr.nil n0
  have pre0 : ∀ t, Steps p.tables e below (s₁.setTop (mkF m 0 #[.val (.int p1), .val (.int p2)] [])) t → Steps p.tables e below (s₁.setTop (entryFrame m #[(.int p1), (.int p2)] 2)) t := fun t k => castTop (ef_min m p1 p2) k
  have pre4 : ∀ t, Steps p.tables e below (s₁.setTop (mkF m 2 #[.val (.int p1), .val (.int p2)] [(.int p2), (.int p1)])) t → Steps p.tables e below (s₁.setTop (mkF m 0 #[.val (.int p1), .val (.int p2)] [])) t := by
    intro t kt
    show Steps p.tables e below (s₁.setTop (mkF m 0 #[.val (.int p1), .val (.int p2)] [])) _
    refine XS.iloadN X0.here hx rfl (hb hby d18_0) rfl ?_
    refine XS.iloadN X0.here hx rfl (hb hby d18_1) rfl ?_
    exact kt
  by_cases c2 : p2 < p1
  · skip
    have pre5 : ∀ t, Steps p.tables e below (s₁.setTop (mkF m 10 #[.val (.int p1), .val (.int p2)] [(.int p2)])) t → Steps p.tables e below (s₁.setTop (mkF m 2 #[.val (.int p1), .val (.int p2)] [(.int p2), (.int p1)])) t := by
      intro t kt
      refine XS.icmpYes X0.here hx rfl (pc0 := 2) (pc' := 9) rfl (hb hby d18_2) rfl (tlt (c2 : p2 < p1)).2.2.1 (by decide) (by decide) ?_
      show Steps p.tables e below (s₁.setTop (mkF m 9 #[.val (.int p1), .val (.int p2)] [])) _
      refine XS.iloadN X0.here hx rfl (hb hby d18_9) rfl ?_
      exact kt
    obtain ⟨fs, hr, hrun, hended, hW, hsame⟩ := X0.leave (v := some (.int p2)) (fun h => by rw [Bd.returns] at h; cases h)
    refine ⟨_, _, (pre0 _ (pre4 _ (pre5 _ ?_))), hrun, hended, _, _, rfl, ?_, ⟨_, rfl⟩, hW, hsame.mono (by decide) (by decide)⟩
    · show Steps p.tables e below (s₁.setTop (mkF m 10 #[.val (.int p1), .val (.int p2)] [(.int p2)])) _
      exact retOut X0 hx (t := .int) Bd.returns rfl (Or.inl ⟨rfl, Or.inl rfl, _, rfl⟩) (hb hby d18_10) hr
    · show Qmin Z p1 p2 h0 n0 _ s₁.heap _
      rw [e0]
      exact ⟨by rw [show own_min p1 p2 = p2 from if_pos c2], N0, rfl⟩
  · skip
    have pre6 : ∀ t, Steps p.tables e below (s₁.setTop (mkF m 10 #[.val (.int p1), .val (.int p2)] [(.int p1)])) t → Steps p.tables e below (s₁.setTop (mkF m 2 #[.val (.int p1), .val (.int p2)] [(.int p2), (.int p1)])) t := by
      intro t kt
      refine XS.icmpNo X0.here hx rfl (hb hby d18_2) rfl (flt (c2 : ¬ (p2 < p1))).2.2.1 ?_
      show Steps p.tables e below (s₁.setTop (mkF m 5 #[.val (.int p1), .val (.int p2)] [])) _
      refine XS.iloadN X0.here hx rfl (hb hby d18_5) rfl ?_
      refine XS.goto X0.here hx rfl (pc0 := 6) (pc' := 10) rfl (hb hby d18_6) (by decide) (by decide) ?_
      exact kt
    obtain ⟨fs, hr, hrun, hended, hW, hsame⟩ := X0.leave (v := some (.int p1)) (fun h => by rw [Bd.returns] at h; cases h)
    refine ⟨_, _, (pre0 _ (pre4 _ (pre6 _ ?_))), hrun, hended, _, _, rfl, ?_, ⟨_, rfl⟩, hW, hsame.mono (by decide) (by decide)⟩
    · show Steps p.tables e below (s₁.setTop (mkF m 10 #[.val (.int p1), .val (.int p2)] [(.int p1)])) _
      exact retOut X0 hx (t := .int) Bd.returns rfl (Or.inl ⟨rfl, Or.inl rfl, _, rfl⟩) (hb hby d18_10) hr
    · show Qmin Z p1 p2 h0 n0 _ s₁.heap _
      rw [e0]
      exact ⟨by rw [show own_min p1 p2 = p1 from if_neg c2], N0, rfl⟩
theorem ef_NewL (m : MethodId) (x0 : Int32) (x1 : Int32) (x2 : Int32) : entryFrame m #[(.int x0), (.int x1), (.int x2)] 4 = mkF m 0 #[.val (.int x0), .val (.int x1), .val (.int x2), .unset] [] := by (first | (simp [entryFrame, mkF, argsToLocals, Value.category]; done) | rfl)
def QNewL (Z : State) (o1 : Int32) (g1 : Int32) (f1 : Int32) (h0 : Heap) (n0 : Nat) (v : Option Value) (h : Heap) (L : List Loc) : Prop := v = some (.int (o1 + own_max g1 f1)) ∧ Fr n0 L ∧ h = h0
theorem pn_jdk_internal_util_ArraysSupport : plainName "jdk/internal/util/ArraysSupport" = true := by first | (simp [plainName, overriddenIn]; done) | decide +kernel
theorem d15_0 : decode jdk_48_method_27_code 0 = .ok (.iload_n 0, 1) := by decide +kernel
theorem d15_1 : decode jdk_48_method_27_code 1 = .ok (.iload_n 1, 1) := by decide +kernel
theorem d15_2 : decode jdk_48_method_27_code 2 = .ok (.iload_n 2, 1) := by decide +kernel
theorem d15_3 : decode jdk_48_method_27_code 3 = .ok (.invokestatic 194, 3) := by decide +kernel
theorem pd__II_I : parseMethodDescriptor "(II)I" = some ⟨[.int, .int], some .int⟩ := by decide +kernel
theorem d15_6 : decode jdk_48_method_27_code 6 = .ok (.iadd, 1) := by decide +kernel
theorem d15_7 : decode jdk_48_method_27_code 7 = .ok (.istore_n 3, 1) := by decide +kernel
theorem d15_8 : decode jdk_48_method_27_code 8 = .ok (.iconst 0, 1) := by decide +kernel
theorem d15_9 : decode jdk_48_method_27_code 9 = .ok (.iload_n 3, 1) := by decide +kernel
theorem d15_10 : decode jdk_48_method_27_code 10 = .ok (.if_icmp .ge 11, 3) := by decide +kernel
theorem d15_13 : decode jdk_48_method_27_code 13 = .ok (.iload_n 3, 1) := by decide +kernel
theorem d15_14 : decode jdk_48_method_27_code 14 = .ok (.ldc 200, 2) := by decide +kernel
theorem d15_16 : decode jdk_48_method_27_code 16 = .ok (.if_icmp .gt 5, 3) := by decide +kernel
theorem d15_19 : decode jdk_48_method_27_code 19 = .ok (.iload_n 3, 1) := by decide +kernel
theorem d15_20 : decode jdk_48_method_27_code 20 = .ok (.ireturn, 1) := by decide +kernel
set_option maxRecDepth 65536 in
set_option maxHeartbeats 40000000 in
theorem rmNewL (l : Launch) (Z : State) (a0 : Array Value) (hw : ∀ d ∈ tables_1, d.before a0 Z = true) (ws : List Jvm.Cond) (o1 : Int32) (g1 : Int32) (f1 : Int32) (h0 : Heap) (n0 : Nat) (Z0 : n0 ≤ h0.size) (hpos : (0 : Int32) < (o1 + own_max g1 f1)) (hle : ¬ ((2147483639 : Int32) < (o1 + own_max g1 f1))) :
    MetFree l (⟨"jdk/internal/util/ArraysSupport", "newLength", "(III)I"⟩ : MethodName) (head1 (Jvm.Cond.code (⟨"jdk/internal/util/ArraysSupport", "newLength", "(III)I"⟩ : MethodName) jdk_48_method_27_code 4 (some .int) :: ws) ({ frames := 1, cells := 0, slots := 0, locals := 14 } : Room)) (fun a U => a = #[(.int o1), (.int g1), (.int f1)] ∧ Z.Warmed39 U.vm ∧ U.heap = h0) (fun _ _ _ _ _ => True) (fun _ U o U' => ∃ v L, o = .returned v ∧ QNewL Z o1 g1 f1 h0 n0 v U'.heap L ∧ FrameEnd U o U' L ({ frames := 1, cells := 0, slots := 0, locals := 14 } : Room).cells ({ frames := 1, cells := 0, slots := 0, locals := 14 } : Room).slots) := by
  refine MetFree.of_bodySF (plainFor_of_name pn_jdk_internal_util_ArraysSupport) hisR ?_
  intro p e s m args below meth c s₁ Bd hml0 hP hK
  obtain ⟨rfl, hZ, hh⟩ := hP
  have hx := Bd.exec
  have hby := Bd.bytes
  have hml : c.maxLocals = 4 := hml0
  have hown : s.vm.findClass "jdk/internal/util/ArraysSupport" = some m.cls := findClass_of_methodNamed Bd.named
  have hnm := (name_of_methodNamed Bd.named Bd.method).1
  have X0 : Stand p l e ({ frames := 1, cells := 0, slots := 0, locals := 14 } : Room) s m #[(.int o1), (.int g1), (.int f1)] below meth c s₁ [] 0 0 := Stand.of_body Bd
  have e0 : s₁.heap = h0 := by rw [← hh, Bd.state]; rfl
  have N0 := Fr.nil n0
  have pre0 : ∀ t, Steps p.tables e below (s₁.setTop (mkF m 0 #[.val (.int o1), .val (.int g1), .val (.int f1), .unset] [])) t → Steps p.tables e below (s₁.setTop (entryFrame m #[(.int o1), (.int g1), (.int f1)] 4)) t := fun t k => castTop (ef_NewL m o1 g1 f1) k
  obtain ⟨_, _, ⟨T7, L7, k7, n7⟩, -, X7, ⟨Lc7, hQ7, l7, y7, z7⟩, st7⟩ := Jvm.LawKit.callS X0 hx (y := (⟨"java/lang/Math", "max", "(II)I"⟩ : MethodName)) hown (mvT hZ (tw hw 93 rfl)) (mvT hZ (tw hw 94 rfl)) (mvT hZ (tw hw 95 rfl)) (mvT hZ (tw hw 96 rfl)) (by decide) (backOf (W := 1) (rmmax l Z a0 hw [] g1 f1 h0 n0 Z0) hZ (tw hw 96 rfl) (tw hw 95 rfl) (by decide) (by decide)) (g := (mkF m 3 #[.val (.int o1), .val (.int g1), .val (.int f1), .unset] [(.int f1), (.int g1), (.int o1)])) rfl (by rw [hml]; rfl) (argsL := [(.int g1), (.int f1)]) (rest := [(.int o1)]) (lenOf pd__II_I rfl) rfl (by show 2 * 0 + _ ≤ _; exact Nat.le_of_eq rfl) (hb hby d15_3) (fun _ _ => ⟨rfl, e0, (by decide : 0 + 0 ≤ _), (by decide : 0 + 0 ≤ _)⟩)
  dsimp only [Pt.U, Pt.locs, Pt.cells, Pt.slots] at X7 l7 y7 z7 st7 hQ7
  subst l7 y7 z7
  obtain ⟨rfl, N7q, EQ7⟩ := hQ7
  have N7 := Fr.app N0 N7q
  have pre8 : ∀ t, Steps p.tables e below (T7.setTop (mkF m 20 #[.val (.int o1), .val (.int g1), .val (.int f1), .val (.int (o1 + (own_max g1 f1)))] [(.int (o1 + (own_max g1 f1)))])) t → Steps p.tables e below (s₁.setTop (mkF m 0 #[.val (.int o1), .val (.int g1), .val (.int f1), .unset] [])) t := by
    intro t kt
    show Steps p.tables e below (s₁.setTop (mkF m 0 #[.val (.int o1), .val (.int g1), .val (.int f1), .unset] [])) _
    refine XS.iloadN X0.here hx rfl (hb hby d15_0) rfl ?_
    refine XS.iloadN X0.here hx rfl (hb hby d15_1) rfl ?_
    refine XS.iloadN X0.here hx rfl (hb hby d15_2) rfl ?_
    refine st7 _ ?_
    show Steps p.tables e below (T7.setTop (mkF m 6 #[.val (.int o1), .val (.int g1), .val (.int f1), .unset] [(.int (own_max g1 f1)), (.int o1)])) _
    refine XS.iadd X7.here hx rfl (hb hby d15_6) rfl ?_
    refine XS.istoreN X7.here hx rfl (hb hby d15_7) rfl (l' := #[.val (.int o1), .val (.int g1), .val (.int f1), .val (.int (o1 + (own_max g1 f1)))]) rfl ?_
    refine XS.iconst X7.here hx rfl (hb hby d15_8) ?_
    refine XS.iloadN X7.here hx rfl (hb hby d15_9) rfl ?_
    refine XS.icmpNo X7.here hx rfl (hb hby d15_10) rfl (tlt (hpos : (0 : Int32) < (o1 + (own_max g1 f1)))).2.1 ?_
    show Steps p.tables e below (T7.setTop (mkF m 13 #[.val (.int o1), .val (.int g1), .val (.int f1), .val (.int (o1 + (own_max g1 f1)))] [])) _
    refine XS.iloadN X7.here hx rfl (hb hby d15_13) rfl ?_
    refine X7.ldcInt hx hown (mvT hZ (tw hw 97 rfl)) (g := (mkF m 14 #[.val (.int o1), .val (.int g1), .val (.int f1), .val (.int (o1 + (own_max g1 f1)))] [(.int (o1 + (own_max g1 f1)))])) rfl (hb hby d15_14) _ ?_
    refine XS.icmpNo X7.here hx rfl (hb hby d15_16) rfl (flt (hle : ¬ ((2147483639 : Int32) < (o1 + (own_max g1 f1))))).2.2.1 ?_
    show Steps p.tables e below (T7.setTop (mkF m 19 #[.val (.int o1), .val (.int g1), .val (.int f1), .val (.int (o1 + (own_max g1 f1)))] [])) _
    refine XS.iloadN X7.here hx rfl (hb hby d15_19) rfl ?_
    exact kt
  obtain ⟨fs, hr, hrun, hended, hW, hsame⟩ := X7.leave (v := some (.int (o1 + (own_max g1 f1)))) (fun h => by rw [Bd.returns] at h; cases h)
  refine ⟨_, _, (pre0 _ (pre8 _ ?_)), hrun, hended, _, _, rfl, ?_, ⟨_, rfl⟩, hW, hsame.mono (by decide) (by decide)⟩
  · show Steps p.tables e below (T7.setTop (mkF m 20 #[.val (.int o1), .val (.int g1), .val (.int f1), .val (.int (o1 + (own_max g1 f1)))] [(.int (o1 + (own_max g1 f1)))])) _
    exact retOut X7 hx (t := .int) Bd.returns rfl (Or.inl ⟨rfl, Or.inl rfl, _, rfl⟩) (hb hby d15_20) hr
  · show QNewL Z o1 g1 f1 h0 n0 _ T7.heap _
    exact ⟨rfl, N7, by rw [EQ7]⟩
theorem own_ncap {cp nd : Nat} (h : cp < nd) (h1 : nd ≤ 1000) : Int32.ofNat cp + own_max (Int32.ofNat nd - Int32.ofNat cp) (Int32.ofNat cp + (2 : Int32)) = Int32.ofNat (max nd (2 * cp + 2)) := by
  rw [own_sub (by omega) (by omega), show Int32.ofNat cp + (2 : Int32) = Int32.ofNat (cp + 2) from own_add cp 2, own_maxn (by omega) (by omega), own_add]
  congr 1; omega
theorem ef_NewC (m : MethodId) (x0 : Addr) (x1 : Int32) : entryFrame m #[(.ref x0), (.int x1)] 6 = mkF m 0 #[.val (.ref x0), .val (.int x1), .unset, .unset, .unset, .unset] [] := by (first | (simp [entryFrame, mkF, argsToLocals, Value.category]; done) | rfl)
def QNewC (Z : State) (b1 : Addr) (v1 : Addr) (k1 : ClassId) (cp : Nat) (ct : Nat) (vs : List Value) (nd : Nat) (h0 : Heap) (n0 : Nat) (v : Option Value) (h : Heap) (L : List Loc) : Prop := v = some (.int (Int32.ofNat (max nd (2 * cp + 2)))) ∧ Fr n0 L ∧ h = h0
theorem pn_java_lang_AbstractStringBuilder : plainName "java/lang/AbstractStringBuilder" = true := by first | (simp [plainName, overriddenIn]; done) | decide +kernel
theorem d14_0 : decode jdk_68_method_10_code 0 = .ok (.aload_n 0, 1) := by decide +kernel
theorem d14_1 : decode jdk_68_method_10_code 1 = .ok (.getfield 15, 3) := by decide +kernel
theorem d14_4 : decode jdk_68_method_10_code 4 = .ok (.arraylength, 1) := by decide +kernel
theorem d14_5 : decode jdk_68_method_10_code 5 = .ok (.istore_n 2, 1) := by decide +kernel
theorem d14_6 : decode jdk_68_method_10_code 6 = .ok (.iload_n 1, 1) := by decide +kernel
theorem d14_7 : decode jdk_68_method_10_code 7 = .ok (.aload_n 0, 1) := by decide +kernel
theorem d14_8 : decode jdk_68_method_10_code 8 = .ok (.getfield 22, 3) := by decide +kernel
theorem d14_11 : decode jdk_68_method_10_code 11 = .ok (.ishl, 1) := by decide +kernel
theorem d14_12 : decode jdk_68_method_10_code 12 = .ok (.istore_n 3, 1) := by decide +kernel
theorem d14_13 : decode jdk_68_method_10_code 13 = .ok (.iload_n 3, 1) := by decide +kernel
theorem d14_14 : decode jdk_68_method_10_code 14 = .ok (.iload_n 2, 1) := by decide +kernel
theorem d14_15 : decode jdk_68_method_10_code 15 = .ok (.isub, 1) := by decide +kernel
theorem d14_16 : decode jdk_68_method_10_code 16 = .ok (.istore 4, 2) := by decide +kernel
theorem d14_18 : decode jdk_68_method_10_code 18 = .ok (.iload_n 2, 1) := by decide +kernel
theorem d14_19 : decode jdk_68_method_10_code 19 = .ok (.iload 4, 2) := by decide +kernel
theorem d14_21 : decode jdk_68_method_10_code 21 = .ok (.iload_n 2, 1) := by decide +kernel
theorem d14_22 : decode jdk_68_method_10_code 22 = .ok (.iconst 2, 1) := by decide +kernel
theorem d14_23 : decode jdk_68_method_10_code 23 = .ok (.aload_n 0, 1) := by decide +kernel
theorem d14_24 : decode jdk_68_method_10_code 24 = .ok (.getfield 22, 3) := by decide +kernel
theorem d14_27 : decode jdk_68_method_10_code 27 = .ok (.ishl, 1) := by decide +kernel
theorem d14_28 : decode jdk_68_method_10_code 28 = .ok (.iadd, 1) := by decide +kernel
theorem d14_29 : decode jdk_68_method_10_code 29 = .ok (.invokestatic 114, 3) := by decide +kernel
theorem pd__III_I : parseMethodDescriptor "(III)I" = some ⟨[.int, .int, .int], some .int⟩ := by decide +kernel
theorem d14_32 : decode jdk_68_method_10_code 32 = .ok (.istore 5, 2) := by decide +kernel
theorem d14_34 : decode jdk_68_method_10_code 34 = .ok (.iload 5, 2) := by decide +kernel
theorem d14_36 : decode jdk_68_method_10_code 36 = .ok (.ldc 39, 2) := by decide +kernel
theorem d14_38 : decode jdk_68_method_10_code 38 = .ok (.if_icmp .ne 13, 3) := by decide +kernel
theorem d14_51 : decode jdk_68_method_10_code 51 = .ok (.iload 5, 2) := by decide +kernel
theorem d14_53 : decode jdk_68_method_10_code 53 = .ok (.aload_n 0, 1) := by decide +kernel
theorem d14_54 : decode jdk_68_method_10_code 54 = .ok (.getfield 22, 3) := by decide +kernel
theorem d14_57 : decode jdk_68_method_10_code 57 = .ok (.ishr, 1) := by decide +kernel
theorem d14_58 : decode jdk_68_method_10_code 58 = .ok (.ireturn, 1) := by decide +kernel
set_option maxRecDepth 65536 in
set_option maxHeartbeats 40000000 in
theorem rmNewC (l : Launch) (Z : State) (a0 : Array Value) (hw : ∀ d ∈ tables_1, d.before a0 Z = true) (ws : List Jvm.Cond) (b1 : Addr) (v1 : Addr) (k1 : ClassId) (cp : Nat) (ct : Nat) (vs : List Value) (nd : Nat) (h0 : Heap) (n0 : Nat) (Z0 : n0 ≤ h0.size) (BE : Exa Z h0 b1 "java/lang/StringBuilder") (BV : Fld Z h0 b1 "java/lang/AbstractStringBuilder" "value" "[B" (.ref v1)) (BC : Fld Z h0 b1 "java/lang/AbstractStringBuilder" "coder" "B" (.int (0 : Int32))) (BN : Fld Z h0 b1 "java/lang/AbstractStringBuilder" "count" "I" (.int (Int32.ofNat ct))) (BA : Arv Z h0 v1 k1 .byte (Int32.ofNat cp) vs (.int (0 : Int32))) (BX : Exa Z h0 v1 "[B") (hvl : vs.length = cp) (hcp : cp ≤ 1000) (g_b1 : n0 ≤ b1) (g_v1 : n0 ≤ v1) (hnd : cp < nd) (hnM : nd ≤ 1000) :
    MetFree l (⟨"java/lang/AbstractStringBuilder", "newCapacity", "(I)I"⟩ : MethodName) (head1 (Jvm.Cond.code (⟨"java/lang/AbstractStringBuilder", "newCapacity", "(I)I"⟩ : MethodName) jdk_68_method_10_code 6 (some .int) :: ws) ({ frames := 2, cells := 0, slots := 0, locals := 40 } : Room)) (fun a U => a = #[(.ref b1), (.int (Int32.ofNat nd))] ∧ Z.Warmed39 U.vm ∧ U.heap = h0) (fun _ _ _ _ _ => True) (fun _ U o U' => ∃ v L, o = .returned v ∧ QNewC Z b1 v1 k1 cp ct vs nd h0 n0 v U'.heap L ∧ FrameEnd U o U' L ({ frames := 2, cells := 0, slots := 0, locals := 40 } : Room).cells ({ frames := 2, cells := 0, slots := 0, locals := 40 } : Room).slots) := by
  refine MetFree.of_bodySF (plainFor_of_name pn_java_lang_AbstractStringBuilder) hisR ?_
  intro p e s m args below meth c s₁ Bd hml0 hP hK
  obtain ⟨rfl, hZ, hh⟩ := hP
  have hx := Bd.exec
  have hby := Bd.bytes
  have hml : c.maxLocals = 6 := hml0
  have hown : s.vm.findClass "java/lang/AbstractStringBuilder" = some m.cls := findClass_of_methodNamed Bd.named
  have hnm := (name_of_methodNamed Bd.named Bd.method).1
  have X0 : Stand p l e ({ frames := 2, cells := 0, slots := 0, locals := 40 } : Room) s m #[(.ref b1), (.int (Int32.ofNat nd))] below meth c s₁ [] 0 0 := Stand.of_body Bd
  have e0 : s₁.heap = h0 := by rw [← hh, Bd.state]; rfl
  have N0 := Fr.nil n0
  have pre0 : ∀ t, Steps p.tables e below (s₁.setTop (mkF m 0 #[.val (.ref b1), .val (.int (Int32.ofNat nd)), .unset, .unset, .unset, .unset] [])) t → Steps p.tables e below (s₁.setTop (entryFrame m #[(.ref b1), (.int (Int32.ofNat nd))] 6)) t := fun t k => castTop (ef_NewC m b1 (Int32.ofNat nd)) k
  obtain ⟨T9, X9, e9, st9⟩ := getF X0 hx hZ hown (host := "") (Or.inl (tw hw 50 rfl)) Via.refl e0 BV (g := (mkF m 1 #[.val (.ref b1), .val (.int (Int32.ofNat nd)), .unset, .unset, .unset, .unset] [(.ref b1)])) rfl rfl (hb hby d14_1)
  obtain ⟨c10, Ar10, -, S10, M10, -, -⟩ := id BA
  obtain ⟨T11, X11, e11, st11⟩ := getF X9 hx hZ hown (host := "") (Or.inl (tw hw 52 rfl)) Via.refl e9 BC (g := (mkF m 8 #[.val (.ref b1), .val (.int (Int32.ofNat nd)), .val (.int (Int32.ofNat cp)), .unset, .unset, .unset] [(.ref b1), (.int (Int32.ofNat nd))])) rfl rfl (hb hby d14_8)
  obtain ⟨T12, X12, e12, st12⟩ := getF X11 hx hZ hown (host := "") (Or.inl (tw hw 52 rfl)) Via.refl e11 BC (g := (mkF m 24 #[.val (.ref b1), .val (.int (Int32.ofNat nd)), .val (.int (Int32.ofNat cp)), .val (.int (Int32.ofNat nd)), .val (.int ((Int32.ofNat nd) - (Int32.ofNat cp))), .unset] [(.ref b1), (.int (2 : Int32)), (.int (Int32.ofNat cp)), (.int ((Int32.ofNat nd) - (Int32.ofNat cp))), (.int (Int32.ofNat cp))])) rfl rfl (hb hby d14_24)
  have ec := own_ncap hnd hnM
  have hmx : max nd (2 * cp + 2) < 2147483000 := by omega
  obtain ⟨_, _, ⟨T13, L13, k13, n13⟩, -, X13, ⟨Lc13, hQ13, l13, y13, z13⟩, st13⟩ := Jvm.LawKit.callS X12 hx (y := (⟨"jdk/internal/util/ArraysSupport", "newLength", "(III)I"⟩ : MethodName)) hown (mvT hZ (tw hw 89 rfl)) (mvT hZ (tw hw 90 rfl)) (mvT hZ (tw hw 91 rfl)) (mvT hZ (tw hw 92 rfl)) (by decide) (backOf (W := 0) (rmNewL l Z a0 hw [] (Int32.ofNat cp) (Int32.ofNat nd - Int32.ofNat cp) (Int32.ofNat cp + (2 : Int32)) h0 n0 Z0 (by rw [ec, Int32.lt_iff_toInt_lt, own_n (by omega), own_z]; omega) (by rw [ec, Int32.lt_iff_toInt_lt, own_n (by omega), own_39]; omega)) hZ (tw hw 92 rfl) (tw hw 91 rfl) (by decide) (by decide)) (g := (mkF m 29 #[.val (.ref b1), .val (.int (Int32.ofNat nd)), .val (.int (Int32.ofNat cp)), .val (.int (Int32.ofNat nd)), .val (.int ((Int32.ofNat nd) - (Int32.ofNat cp))), .unset] [(.int ((Int32.ofNat cp) + (2 : Int32))), (.int ((Int32.ofNat nd) - (Int32.ofNat cp))), (.int (Int32.ofNat cp))])) rfl (by rw [hml]; rfl) (argsL := [(.int (Int32.ofNat cp)), (.int ((Int32.ofNat nd) - (Int32.ofNat cp))), (.int ((Int32.ofNat cp) + (2 : Int32)))]) (rest := []) (lenOf pd__III_I rfl) rfl (by show 2 * 0 + _ ≤ _; exact Nat.le_of_eq rfl) (hb hby d14_29) (fun _ _ => ⟨rfl, e12, (by decide : 0 + 0 ≤ _), (by decide : 0 + 0 ≤ _)⟩)
  dsimp only [Pt.U, Pt.locs, Pt.cells, Pt.slots] at X13 l13 y13 z13 st13 hQ13
  subst l13 y13 z13
  obtain ⟨rfl, N13q, EQ13⟩ := hQ13
  have N13 := Fr.app N0 N13q
  have f14 := (EQ13 ▸ BC)
  obtain ⟨T15, X15, e15, st15⟩ := getF X13 hx hZ hown (host := "") (Or.inl (tw hw 52 rfl)) Via.refl rfl f14 (g := (mkF m 54 #[.val (.ref b1), .val (.int (Int32.ofNat nd)), .val (.int (Int32.ofNat cp)), .val (.int (Int32.ofNat nd)), .val (.int ((Int32.ofNat nd) - (Int32.ofNat cp))), .val (.int (Int32.ofNat (max nd (2 * cp + 2))))] [(.ref b1), (.int (Int32.ofNat (max nd (2 * cp + 2))))])) rfl rfl (hb hby d14_54)
  have pre16 : ∀ t, Steps p.tables e below (T15.setTop (mkF m 58 #[.val (.ref b1), .val (.int (Int32.ofNat nd)), .val (.int (Int32.ofNat cp)), .val (.int (Int32.ofNat nd)), .val (.int ((Int32.ofNat nd) - (Int32.ofNat cp))), .val (.int (Int32.ofNat (max nd (2 * cp + 2))))] [(.int ((Int32.ofNat (max nd (2 * cp + 2))) >>> ((0 : Int32) &&& 31)))])) t → Steps p.tables e below (s₁.setTop (mkF m 0 #[.val (.ref b1), .val (.int (Int32.ofNat nd)), .unset, .unset, .unset, .unset] [])) t := by
    intro t kt
    show Steps p.tables e below (s₁.setTop (mkF m 0 #[.val (.ref b1), .val (.int (Int32.ofNat nd)), .unset, .unset, .unset, .unset] [])) _
    refine XS.aloadN X0.here hx rfl (hb hby d14_0) rfl rfl ?_
    refine st9 _ ?_
    refine X9.arraylength hx (by rw [e9]; exact Ar10.1) (State.isArrayOf_alike hZ.alike Ar10.2.1) (g := (mkF m 4 #[.val (.ref b1), .val (.int (Int32.ofNat nd)), .unset, .unset, .unset, .unset] [(.ref v1)])) rfl rfl (hb hby d14_4) _ ?_
    rw [len_of S10 M10]
    show Steps p.tables e below (T9.setTop (mkF m 5 #[.val (.ref b1), .val (.int (Int32.ofNat nd)), .unset, .unset, .unset, .unset] [(.int (Int32.ofNat cp))])) _
    refine XS.istoreN X9.here hx rfl (hb hby d14_5) rfl (l' := #[.val (.ref b1), .val (.int (Int32.ofNat nd)), .val (.int (Int32.ofNat cp)), .unset, .unset, .unset]) rfl ?_
    refine XS.iloadN X9.here hx rfl (hb hby d14_6) rfl ?_
    refine XS.aloadN X9.here hx rfl (hb hby d14_7) rfl rfl ?_
    refine st11 _ ?_
    show Steps p.tables e below (T11.setTop (mkF m 11 #[.val (.ref b1), .val (.int (Int32.ofNat nd)), .val (.int (Int32.ofNat cp)), .unset, .unset, .unset] [(.int (0 : Int32)), (.int (Int32.ofNat nd))])) _
    refine XS.ishl X11.here hx rfl (hb hby d14_11) rfl ?_
    show Steps p.tables e below (T11.setTop (mkF m 12 #[.val (.ref b1), .val (.int (Int32.ofNat nd)), .val (.int (Int32.ofNat cp)), .unset, .unset, .unset] [(.int ((Int32.ofNat nd) <<< ((0 : Int32) &&& 31)))])) _
    rw [own_shl0]
    show Steps p.tables e below (T11.setTop (mkF m 12 #[.val (.ref b1), .val (.int (Int32.ofNat nd)), .val (.int (Int32.ofNat cp)), .unset, .unset, .unset] [(.int (Int32.ofNat nd))])) _
    refine XS.istoreN X11.here hx rfl (hb hby d14_12) rfl (l' := #[.val (.ref b1), .val (.int (Int32.ofNat nd)), .val (.int (Int32.ofNat cp)), .val (.int (Int32.ofNat nd)), .unset, .unset]) rfl ?_
    refine XS.iloadN X11.here hx rfl (hb hby d14_13) rfl ?_
    refine XS.iloadN X11.here hx rfl (hb hby d14_14) rfl ?_
    refine XS.isub X11.here hx rfl (hb hby d14_15) rfl ?_
    refine XS.istore X11.here hx rfl (hb hby d14_16) rfl (l' := #[.val (.ref b1), .val (.int (Int32.ofNat nd)), .val (.int (Int32.ofNat cp)), .val (.int (Int32.ofNat nd)), .val (.int ((Int32.ofNat nd) - (Int32.ofNat cp))), .unset]) rfl ?_
    refine XS.iloadN X11.here hx rfl (hb hby d14_18) rfl ?_
    refine XS.iload X11.here hx rfl (hb hby d14_19) rfl ?_
    refine XS.iloadN X11.here hx rfl (hb hby d14_21) rfl ?_
    refine XS.iconst X11.here hx rfl (hb hby d14_22) ?_
    refine XS.aloadN X11.here hx rfl (hb hby d14_23) rfl rfl ?_
    refine st12 _ ?_
    show Steps p.tables e below (T12.setTop (mkF m 27 #[.val (.ref b1), .val (.int (Int32.ofNat nd)), .val (.int (Int32.ofNat cp)), .val (.int (Int32.ofNat nd)), .val (.int ((Int32.ofNat nd) - (Int32.ofNat cp))), .unset] [(.int (0 : Int32)), (.int (2 : Int32)), (.int (Int32.ofNat cp)), (.int ((Int32.ofNat nd) - (Int32.ofNat cp))), (.int (Int32.ofNat cp))])) _
    refine XS.ishl X12.here hx rfl (hb hby d14_27) rfl ?_
    show Steps p.tables e below (T12.setTop (mkF m 28 #[.val (.ref b1), .val (.int (Int32.ofNat nd)), .val (.int (Int32.ofNat cp)), .val (.int (Int32.ofNat nd)), .val (.int ((Int32.ofNat nd) - (Int32.ofNat cp))), .unset] [(.int ((2 : Int32) <<< ((0 : Int32) &&& 31))), (.int (Int32.ofNat cp)), (.int ((Int32.ofNat nd) - (Int32.ofNat cp))), (.int (Int32.ofNat cp))])) _
    rw [own_shl0]
    show Steps p.tables e below (T12.setTop (mkF m 28 #[.val (.ref b1), .val (.int (Int32.ofNat nd)), .val (.int (Int32.ofNat cp)), .val (.int (Int32.ofNat nd)), .val (.int ((Int32.ofNat nd) - (Int32.ofNat cp))), .unset] [(.int (2 : Int32)), (.int (Int32.ofNat cp)), (.int ((Int32.ofNat nd) - (Int32.ofNat cp))), (.int (Int32.ofNat cp))])) _
    refine XS.iadd X12.here hx rfl (hb hby d14_28) rfl ?_
    refine st13 _ ?_
    show Steps p.tables e below (T13.setTop (mkF m 32 #[.val (.ref b1), .val (.int (Int32.ofNat nd)), .val (.int (Int32.ofNat cp)), .val (.int (Int32.ofNat nd)), .val (.int ((Int32.ofNat nd) - (Int32.ofNat cp))), .unset] [(.int (Int32.ofNat cp + own_max (Int32.ofNat nd - Int32.ofNat cp) (Int32.ofNat cp + (2 : Int32))))])) _
    rw [ec]
    show Steps p.tables e below (T13.setTop (mkF m 32 #[.val (.ref b1), .val (.int (Int32.ofNat nd)), .val (.int (Int32.ofNat cp)), .val (.int (Int32.ofNat nd)), .val (.int ((Int32.ofNat nd) - (Int32.ofNat cp))), .unset] [(.int (Int32.ofNat (max nd (2 * cp + 2))))])) _
    refine XS.istore X13.here hx rfl (hb hby d14_32) rfl (l' := #[.val (.ref b1), .val (.int (Int32.ofNat nd)), .val (.int (Int32.ofNat cp)), .val (.int (Int32.ofNat nd)), .val (.int ((Int32.ofNat nd) - (Int32.ofNat cp))), .val (.int (Int32.ofNat (max nd (2 * cp + 2))))]) rfl ?_
    refine XS.iload X13.here hx rfl (hb hby d14_34) rfl ?_
    refine X13.ldcInt hx hown (mvT hZ (tw hw 98 rfl)) (g := (mkF m 36 #[.val (.ref b1), .val (.int (Int32.ofNat nd)), .val (.int (Int32.ofNat cp)), .val (.int (Int32.ofNat nd)), .val (.int ((Int32.ofNat nd) - (Int32.ofNat cp))), .val (.int (Int32.ofNat (max nd (2 * cp + 2))))] [(.int (Int32.ofNat (max nd (2 * cp + 2))))])) rfl (hb hby d14_36) _ ?_
    refine XS.icmpYes X13.here hx rfl (pc0 := 38) (pc' := 51) rfl (hb hby d14_38) rfl (feq (fun q => by have h1 := congrArg Int32.toInt q; rw [own_n (by omega), own_47] at h1; omega : ¬ ((Int32.ofNat (max nd (2 * cp + 2))) = (2147483647 : Int32)))).2 (by decide) (by decide) ?_
    show Steps p.tables e below (T13.setTop (mkF m 51 #[.val (.ref b1), .val (.int (Int32.ofNat nd)), .val (.int (Int32.ofNat cp)), .val (.int (Int32.ofNat nd)), .val (.int ((Int32.ofNat nd) - (Int32.ofNat cp))), .val (.int (Int32.ofNat (max nd (2 * cp + 2))))] [])) _
    refine XS.iload X13.here hx rfl (hb hby d14_51) rfl ?_
    refine XS.aloadN X13.here hx rfl (hb hby d14_53) rfl rfl ?_
    refine st15 _ ?_
    show Steps p.tables e below (T15.setTop (mkF m 57 #[.val (.ref b1), .val (.int (Int32.ofNat nd)), .val (.int (Int32.ofNat cp)), .val (.int (Int32.ofNat nd)), .val (.int ((Int32.ofNat nd) - (Int32.ofNat cp))), .val (.int (Int32.ofNat (max nd (2 * cp + 2))))] [(.int (0 : Int32)), (.int (Int32.ofNat (max nd (2 * cp + 2))))])) _
    refine XS.ishr X15.here hx rfl (hb hby d14_57) rfl ?_
    exact kt
  obtain ⟨fs, hr, hrun, hended, hW, hsame⟩ := X15.leave (v := some (.int ((Int32.ofNat (max nd (2 * cp + 2))) >>> ((0 : Int32) &&& 31)))) (fun h => by rw [Bd.returns] at h; cases h)
  refine ⟨_, _, (pre0 _ (pre16 _ ?_)), hrun, hended, _, _, rfl, ?_, ⟨_, rfl⟩, hW, hsame.mono (by decide) (by decide)⟩
  · show Steps p.tables e below (T15.setTop (mkF m 58 #[.val (.ref b1), .val (.int (Int32.ofNat nd)), .val (.int (Int32.ofNat cp)), .val (.int (Int32.ofNat nd)), .val (.int ((Int32.ofNat nd) - (Int32.ofNat cp))), .val (.int (Int32.ofNat (max nd (2 * cp + 2))))] [(.int ((Int32.ofNat (max nd (2 * cp + 2))) >>> ((0 : Int32) &&& 31)))])) _
    exact retOut X15 hx (t := .int) Bd.returns rfl (Or.inl ⟨rfl, Or.inl rfl, _, rfl⟩) (hb hby d14_58) hr
  · show QNewC Z b1 v1 k1 cp ct vs nd h0 n0 _ T15.heap _
    rw [e15]
    exact ⟨by rw [own_shr0], N13, by rw [EQ13]⟩
theorem ef_CpO (m : MethodId) (x0 : Addr) (x1 : Int32) : entryFrame m #[(.ref x0), (.int x1)] 3 = mkF m 0 #[.val (.ref x0), .val (.int x1), .unset] [] := by (first | (simp [entryFrame, mkF, argsToLocals, Value.category]; done) | rfl)
def QCpO (Z : State) (v1 : Addr) (k1 : ClassId) (cp : Nat) (vs : List Value) (md : Nat) (h0 : Heap) (n0 : Nat) (v : Option Value) (h : Heap) (L : List Loc) : Prop := ∃ x2, v = some (.ref x2) ∧ Fr n0 L ∧ Ext h0 h ∧ h0.size ≤ x2 ∧ ∃ k2, Arv Z h x2 k2 .byte (Int32.ofNat md) (vs ++ List.replicate (md - cp) (.int (0 : Int32))) (.int (0 : Int32)) ∧ Exa Z h x2 "[B"
theorem pn_java_util_Arrays : plainName "java/util/Arrays" = true := by first | (simp [plainName, overriddenIn]; done) | decide +kernel
theorem d17_0 : decode jdk_65_method_121_code 0 = .ok (.iload_n 1, 1) := by decide +kernel
theorem d17_1 : decode jdk_65_method_121_code 1 = .ok (.aload_n 0, 1) := by decide +kernel
theorem d17_2 : decode jdk_65_method_121_code 2 = .ok (.arraylength, 1) := by decide +kernel
theorem d17_3 : decode jdk_65_method_121_code 3 = .ok (.if_icmp .ne 11, 3) := by decide +kernel
theorem d17_14 : decode jdk_65_method_121_code 14 = .ok (.iload_n 1, 1) := by decide +kernel
theorem d17_15 : decode jdk_65_method_121_code 15 = .ok (.newarray .byte, 2) := by decide +kernel
theorem d17_17 : decode jdk_65_method_121_code 17 = .ok (.astore_n 2, 1) := by decide +kernel
theorem d17_18 : decode jdk_65_method_121_code 18 = .ok (.aload_n 0, 1) := by decide +kernel
theorem d17_19 : decode jdk_65_method_121_code 19 = .ok (.iconst 0, 1) := by decide +kernel
theorem d17_20 : decode jdk_65_method_121_code 20 = .ok (.aload_n 2, 1) := by decide +kernel
theorem d17_21 : decode jdk_65_method_121_code 21 = .ok (.iconst 0, 1) := by decide +kernel
theorem d17_22 : decode jdk_65_method_121_code 22 = .ok (.aload_n 0, 1) := by decide +kernel
theorem d17_23 : decode jdk_65_method_121_code 23 = .ok (.arraylength, 1) := by decide +kernel
theorem d17_24 : decode jdk_65_method_121_code 24 = .ok (.iload_n 1, 1) := by decide +kernel
theorem d17_25 : decode jdk_65_method_121_code 25 = .ok (.invokestatic 304, 3) := by decide +kernel
theorem d17_28 : decode jdk_65_method_121_code 28 = .ok (.invokestatic 150, 3) := by decide +kernel
theorem d17_31 : decode jdk_65_method_121_code 31 = .ok (.aload_n 2, 1) := by decide +kernel
theorem d17_32 : decode jdk_65_method_121_code 32 = .ok (.areturn, 1) := by decide +kernel
set_option maxRecDepth 65536 in
set_option maxHeartbeats 40000000 in
theorem rmCpO (l : Launch) (Z : State) (a0 : Array Value) (hw : ∀ d ∈ tables_1, d.before a0 Z = true) (ws : List Jvm.Cond) (v1 : Addr) (k1 : ClassId) (cp : Nat) (vs : List Value) (md : Nat) (h0 : Heap) (n0 : Nat) (Z0 : n0 ≤ h0.size) (BA : Arv Z h0 v1 k1 .byte (Int32.ofNat cp) vs (.int (0 : Int32))) (hvl : vs.length = cp) (hcp : cp ≤ 1000) (hlt : cp < md) (hmd : md ≤ 160) :
    MetFree l (⟨"java/util/Arrays", "copyOf", "([BI)[B"⟩ : MethodName) (head1 (Jvm.Cond.code (⟨"java/util/Arrays", "copyOf", "([BI)[B"⟩ : MethodName) jdk_65_method_121_code 3 (some (.array .byte)) :: ws) ({ frames := 1, cells := 1, slots := 160, locals := 40 } : Room)) (fun a U => a = #[(.ref v1), (.int (Int32.ofNat md))] ∧ Z.Warmed39 U.vm ∧ U.heap = h0) (fun _ _ _ _ _ => True) (fun _ U o U' => ∃ v L, o = .returned v ∧ QCpO Z v1 k1 cp vs md h0 n0 v U'.heap L ∧ FrameEnd U o U' L ({ frames := 1, cells := 1, slots := 160, locals := 40 } : Room).cells ({ frames := 1, cells := 1, slots := 160, locals := 40 } : Room).slots) := by
  refine MetFree.of_bodySF (plainFor_of_name pn_java_util_Arrays) hisR ?_
  intro p e s m args below meth c s₁ Bd hml0 hP hK
  obtain ⟨rfl, hZ, hh⟩ := hP
  have hx := Bd.exec
  have hby := Bd.bytes
  have hml : c.maxLocals = 3 := hml0
  have hown : s.vm.findClass "java/util/Arrays" = some m.cls := findClass_of_methodNamed Bd.named
  have hnm := (name_of_methodNamed Bd.named Bd.method).1
  have X0 : Stand p l e ({ frames := 1, cells := 1, slots := 160, locals := 40 } : Room) s m #[(.ref v1), (.int (Int32.ofNat md))] below meth c s₁ [] 0 0 := Stand.of_body Bd
  have e0 : s₁.heap = h0 := by rw [← hh, Bd.state]; rfl
  have N0 := Fr.nil n0
  have pre0 : ∀ t, Steps p.tables e below (s₁.setTop (mkF m 0 #[.val (.ref v1), .val (.int (Int32.ofNat md)), .unset] [])) t → Steps p.tables e below (s₁.setTop (entryFrame m #[(.ref v1), (.int (Int32.ofNat md))] 3)) t := fun t k => castTop (ef_CpO m v1 (Int32.ofNat md)) k
  obtain ⟨c17, Ar17, -, S17, M17, -, -⟩ := id BA
  obtain ⟨T18, h18, k18, X18, e18, E18, A18, B18, st18⟩ := newPE X0 hx hZ (tw hw 3 rfl) e0 (g := (mkF m 15 #[.val (.ref v1), .val (.int (Int32.ofNat md)), .unset] [(.int (Int32.ofNat md))])) rfl (hb hby d17_15) rfl (own_nn (by omega)) (cap := 160) (by rw [own_nc (by omega)]; exact hmd) (by decide) (by decide) (by decide) (ad := "[B") rfl
  obtain ⟨b18, g18⟩ : ∃ z, z = h0.size := ⟨_, rfl⟩
  rw [← g18] at A18 B18 st18
  have g_b18 : n0 ≤ b18 := Nat.le_trans Z0 (Nat.le_of_eq g18.symm)
  have sz_b18 : h0.size ≤ b18 := Nat.le_trans (Keep.refl h0 []).1 (Nat.le_of_eq g18.symm)
  have Z18 := Nat.le_trans Z0 E18.1
  have K18 := (Keep.refl h0 []).ext E18
  have V18 := Arv.new A18 (own_nn (by omega))
  have VP : Arv Z h18 b18 k18 .byte (Int32.ofNat md) (List.replicate md (.int (0 : Int32))) (.int (0 : Int32)) := V18.pad (pad_rep [] (.int (0 : Int32)) md)
  have f19 := (BA.ext E18)
  obtain ⟨c20, Ar20, -, S20, M20, -, -⟩ := id f19
  obtain ⟨_, _, ⟨T21, L21, k21, n21⟩, -, X21, ⟨Lc21, hQ21, l21, y21, z21⟩, st21⟩ := Jvm.LawKit.callS X18 hx (y := (⟨"java/lang/Math", "min", "(II)I"⟩ : MethodName)) hown (mvT hZ (tw hw 103 rfl)) (mvT hZ (tw hw 104 rfl)) (mvT hZ (tw hw 95 rfl)) (mvT hZ (tw hw 105 rfl)) (by decide) (backOf (W := 4) (rmmin l Z a0 hw [] (Int32.ofNat cp) (Int32.ofNat md) h18 n0 Z18) hZ (tw hw 105 rfl) (tw hw 95 rfl) (by decide) (by decide)) (g := (mkF m 25 #[.val (.ref v1), .val (.int (Int32.ofNat md)), .val (.ref b18)] [(.int (Int32.ofNat md)), (.int (Int32.ofNat cp)), (.int (0 : Int32)), (.ref b18), (.int (0 : Int32)), (.ref v1)])) rfl (by rw [hml]; rfl) (argsL := [(.int (Int32.ofNat cp)), (.int (Int32.ofNat md))]) (rest := [(.int (0 : Int32)), (.ref b18), (.int (0 : Int32)), (.ref v1)]) (lenOf pd__II_I rfl) rfl (by show 2 * 0 + _ ≤ _; exact Nat.le_of_eq rfl) (hb hby d17_25) (fun _ _ => ⟨rfl, e18, (by decide : 1 + 0 ≤ _), (by decide : 160 + 0 ≤ _)⟩)
  dsimp only [Pt.U, Pt.locs, Pt.cells, Pt.slots] at X21 l21 y21 z21 st21 hQ21
  subst l21 y21 z21
  obtain ⟨rfl, N21q, EQ21⟩ := hQ21
  have N21 := Fr.app N0 N21q
  have K21 := own_keq EQ21 K18
  have em : own_min (Int32.ofNat cp) (Int32.ofNat md) = Int32.ofNat cp := by rw [own_minn (by omega) (by omega), Nat.min_eq_left (by omega)]
  have f22 := (EQ21 ▸ f19)
  have f23 := (EQ21 ▸ VP)
  obtain ⟨T24, h24, L24, X24, e24, N24, KC24, V24, st24⟩ := own_cp X21 hx hZ hown (tw hw 106 rfl) (tw hw 109 rfl) (tw hw 107 rfl) (tw hw 108 rfl) rfl (cp) (md) (0) (0) (cp) f22 f23 hvl (by simp) (by omega) (by omega) (by omega) (by omega) N21 g_b18 (g := (mkF m 28 #[.val (.ref v1), .val (.int (Int32.ofNat md)), .val (.ref b18)] [(.int (Int32.ofNat cp)), (.int (0 : Int32)), (.ref b18), (.int (0 : Int32)), (.ref v1)])) rfl (by rw [hml]; rfl) rfl (hb hby d17_28) (by decide) (W := 0) (by show 2 * 0 + _ ≤ _; exact Nat.le_of_eq rfl) (by decide)
  have K24 := K21.trans KC24 (allS (Or.inr sz_b18) all0)
  have VV : Arv Z h24 b18 k18 .byte (Int32.ofNat md) (vs ++ List.replicate (md - cp) (.int (0 : Int32))) (.int (0 : Int32)) := by have q := V24; rw [own_all hvl] at q; simpa using q
  have f25 := ((EQ21 ▸ B18).keep KC24)
  have pre26 : ∀ t, Steps p.tables e below (T24.setTop (mkF m 32 #[.val (.ref v1), .val (.int (Int32.ofNat md)), .val (.ref b18)] [(.ref b18)])) t → Steps p.tables e below (s₁.setTop (mkF m 0 #[.val (.ref v1), .val (.int (Int32.ofNat md)), .unset] [])) t := by
    intro t kt
    show Steps p.tables e below (s₁.setTop (mkF m 0 #[.val (.ref v1), .val (.int (Int32.ofNat md)), .unset] [])) _
    refine XS.iloadN X0.here hx rfl (hb hby d17_0) rfl ?_
    refine XS.aloadN X0.here hx rfl (hb hby d17_1) rfl rfl ?_
    refine X0.arraylength hx (by rw [e0]; exact Ar17.1) (State.isArrayOf_alike hZ.alike Ar17.2.1) (g := (mkF m 2 #[.val (.ref v1), .val (.int (Int32.ofNat md)), .unset] [(.ref v1), (.int (Int32.ofNat md))])) rfl rfl (hb hby d17_2) _ ?_
    rw [len_of S17 M17]
    refine XS.icmpYes X0.here hx rfl (pc0 := 3) (pc' := 14) rfl (hb hby d17_3) rfl (feq (fun q => by rw [own_eq (by omega) (by omega)] at q; omega : ¬ ((Int32.ofNat md) = (Int32.ofNat cp)))).2 (by decide) (by decide) ?_
    show Steps p.tables e below (s₁.setTop (mkF m 14 #[.val (.ref v1), .val (.int (Int32.ofNat md)), .unset] [])) _
    refine XS.iloadN X0.here hx rfl (hb hby d17_14) rfl ?_
    show Steps p.tables e below (s₁.setTop (mkF m 15 #[.val (.ref v1), .val (.int (Int32.ofNat md)), .unset] [(.int (Int32.ofNat md))])) _
    refine st18 _ ?_
    show Steps p.tables e below (T18.setTop (mkF m 17 #[.val (.ref v1), .val (.int (Int32.ofNat md)), .unset] [(.ref b18)])) _
    refine XS.astoreN X18.here hx rfl (hb hby d17_17) rfl rfl (l' := #[.val (.ref v1), .val (.int (Int32.ofNat md)), .val (.ref b18)]) rfl ?_
    refine XS.aloadN X18.here hx rfl (hb hby d17_18) rfl rfl ?_
    refine XS.iconst X18.here hx rfl (hb hby d17_19) ?_
    refine XS.aloadN X18.here hx rfl (hb hby d17_20) rfl rfl ?_
    refine XS.iconst X18.here hx rfl (hb hby d17_21) ?_
    refine XS.aloadN X18.here hx rfl (hb hby d17_22) rfl rfl ?_
    refine X18.arraylength hx (by rw [e18]; exact Ar20.1) (State.isArrayOf_alike hZ.alike Ar20.2.1) (g := (mkF m 23 #[.val (.ref v1), .val (.int (Int32.ofNat md)), .val (.ref b18)] [(.ref v1), (.int (0 : Int32)), (.ref b18), (.int (0 : Int32)), (.ref v1)])) rfl rfl (hb hby d17_23) _ ?_
    rw [len_of S20 M20]
    show Steps p.tables e below (T18.setTop (mkF m 24 #[.val (.ref v1), .val (.int (Int32.ofNat md)), .val (.ref b18)] [(.int (Int32.ofNat cp)), (.int (0 : Int32)), (.ref b18), (.int (0 : Int32)), (.ref v1)])) _
    refine XS.iloadN X18.here hx rfl (hb hby d17_24) rfl ?_
    refine st21 _ ?_
    show Steps p.tables e below (T21.setTop (mkF m 28 #[.val (.ref v1), .val (.int (Int32.ofNat md)), .val (.ref b18)] [(.int (own_min (Int32.ofNat cp) (Int32.ofNat md))), (.int (0 : Int32)), (.ref b18), (.int (0 : Int32)), (.ref v1)])) _
    rw [em]
    show Steps p.tables e below (T21.setTop (mkF m 28 #[.val (.ref v1), .val (.int (Int32.ofNat md)), .val (.ref b18)] [(.int (Int32.ofNat cp)), (.int (0 : Int32)), (.ref b18), (.int (0 : Int32)), (.ref v1)])) _
    refine st24 _ ?_
    show Steps p.tables e below (T24.setTop (mkF m 31 #[.val (.ref v1), .val (.int (Int32.ofNat md)), .val (.ref b18)] [])) _
    refine XS.aloadN X24.here hx rfl (hb hby d17_31) rfl rfl ?_
    exact kt
  obtain ⟨fs, hr, hrun, hended, hW, hsame⟩ := X24.leave (v := some (.ref b18)) (fun h => by rw [Bd.returns] at h; cases h)
  refine ⟨_, _, (pre0 _ (pre26 _ ?_)), hrun, hended, _, _, rfl, ?_, ⟨_, rfl⟩, hW, hsame.mono (by decide) (by decide)⟩
  · show Steps p.tables e below (T24.setTop (mkF m 32 #[.val (.ref v1), .val (.int (Int32.ofNat md)), .val (.ref b18)] [(.ref b18)])) _
    exact retOut X24 hx (t := (.array .byte)) Bd.returns rfl (Or.inr (Or.inr (Or.inr (Or.inr ⟨rfl, rfl, rfl⟩)))) (hb hby d17_32) hr
  · show QCpO Z v1 k1 cp vs md h0 n0 _ T24.heap _
    rw [e24]
    exact ⟨b18, rfl, N24, own_ext K24, sz_b18, k18, VV, f25⟩
theorem ef_Ens (m : MethodId) (x0 : Addr) (x1 : Int32) : entryFrame m #[(.ref x0), (.int x1)] 3 = mkF m 0 #[.val (.ref x0), .val (.int x1), .unset] [] := by (first | (simp [entryFrame, mkF, argsToLocals, Value.category]; done) | rfl)
def QEns (Z : State) (b1 : Addr) (v1 : Addr) (k1 : ClassId) (cp : Nat) (ct : Nat) (vs : List Value) (nd : Nat) (h0 : Heap) (n0 : Nat) (v : Option Value) (h : Heap) (L : List Loc) : Prop := v = none ∧ Fr n0 L ∧ Keep h0 h [b1] ∧ ∃ (v2 : Addr) (k2 : ClassId) (ws2 : List Value), (Exa Z h b1 "java/lang/StringBuilder" ∧ Fld Z h b1 "java/lang/AbstractStringBuilder" "value" "[B" (.ref v2) ∧ Fld Z h b1 "java/lang/AbstractStringBuilder" "coder" "B" (.int (0 : Int32)) ∧ Fld Z h b1 "java/lang/AbstractStringBuilder" "count" "I" (.int (Int32.ofNat ct)) ∧ Arv Z h v2 k2 .byte (Int32.ofNat (own_gr cp nd)) ws2 (.int (0 : Int32)) ∧ Exa Z h v2 "[B") ∧ ws2.length = own_gr cp nd ∧ ws2.take cp = vs ∧ n0 ≤ v2 ∧ (v2 = v1 ∨ h0.size ≤ v2)
theorem d13_0 : decode jdk_68_method_9_code 0 = .ok (.aload_n 0, 1) := by decide +kernel
theorem d13_1 : decode jdk_68_method_9_code 1 = .ok (.getfield 15, 3) := by decide +kernel
theorem d13_4 : decode jdk_68_method_9_code 4 = .ok (.arraylength, 1) := by decide +kernel
theorem d13_5 : decode jdk_68_method_9_code 5 = .ok (.aload_n 0, 1) := by decide +kernel
theorem d13_6 : decode jdk_68_method_9_code 6 = .ok (.getfield 22, 3) := by decide +kernel
theorem d13_9 : decode jdk_68_method_9_code 9 = .ok (.ishr, 1) := by decide +kernel
theorem d13_10 : decode jdk_68_method_9_code 10 = .ok (.istore_n 2, 1) := by decide +kernel
theorem d13_11 : decode jdk_68_method_9_code 11 = .ok (.iload_n 1, 1) := by decide +kernel
theorem d13_12 : decode jdk_68_method_9_code 12 = .ok (.iload_n 2, 1) := by decide +kernel
theorem d13_13 : decode jdk_68_method_9_code 13 = .ok (.isub, 1) := by decide +kernel
theorem d13_14 : decode jdk_68_method_9_code 14 = .ok (.ifCond .le 24, 3) := by decide +kernel
theorem d13_38 : decode jdk_68_method_9_code 38 = .ok (.return_, 1) := by decide +kernel
theorem d13_17 : decode jdk_68_method_9_code 17 = .ok (.aload_n 0, 1) := by decide +kernel
theorem d13_18 : decode jdk_68_method_9_code 18 = .ok (.aload_n 0, 1) := by decide +kernel
theorem d13_19 : decode jdk_68_method_9_code 19 = .ok (.getfield 15, 3) := by decide +kernel
theorem d13_22 : decode jdk_68_method_9_code 22 = .ok (.aload_n 0, 1) := by decide +kernel
theorem d13_23 : decode jdk_68_method_9_code 23 = .ok (.iload_n 1, 1) := by decide +kernel
theorem d13_24 : decode jdk_68_method_9_code 24 = .ok (.invokevirtual 104, 3) := by decide +kernel
theorem pd__I_I : parseMethodDescriptor "(I)I" = some ⟨[.int], some .int⟩ := by decide +kernel
theorem d13_27 : decode jdk_68_method_9_code 27 = .ok (.aload_n 0, 1) := by decide +kernel
theorem d13_28 : decode jdk_68_method_9_code 28 = .ok (.getfield 22, 3) := by decide +kernel
theorem d13_31 : decode jdk_68_method_9_code 31 = .ok (.ishl, 1) := by decide +kernel
theorem d13_32 : decode jdk_68_method_9_code 32 = .ok (.invokestatic 108, 3) := by decide +kernel
theorem pd___BI__B : parseMethodDescriptor "([BI)[B" = some ⟨[(.array .byte), .int], some (.array .byte)⟩ := by decide +kernel
theorem d13_35 : decode jdk_68_method_9_code 35 = .ok (.putfield 15, 3) := by decide +kernel
set_option maxRecDepth 65536 in
set_option maxHeartbeats 40000000 in
theorem rmEns (l : Launch) (Z : State) (a0 : Array Value) (hw : ∀ d ∈ tables_1, d.before a0 Z = true) (ws : List Jvm.Cond) (b1 : Addr) (v1 : Addr) (k1 : ClassId) (cp : Nat) (ct : Nat) (vs : List Value) (nd : Nat) (h0 : Heap) (n0 : Nat) (Z0 : n0 ≤ h0.size) (BE : Exa Z h0 b1 "java/lang/StringBuilder") (BV : Fld Z h0 b1 "java/lang/AbstractStringBuilder" "value" "[B" (.ref v1)) (BC : Fld Z h0 b1 "java/lang/AbstractStringBuilder" "coder" "B" (.int (0 : Int32))) (BN : Fld Z h0 b1 "java/lang/AbstractStringBuilder" "count" "I" (.int (Int32.ofNat ct))) (BA : Arv Z h0 v1 k1 .byte (Int32.ofNat cp) vs (.int (0 : Int32))) (BX : Exa Z h0 v1 "[B") (hvl : vs.length = cp) (hcp : cp ≤ 1000) (g_b1 : n0 ≤ b1) (g_v1 : n0 ≤ v1) (hnM : nd ≤ 1000) (hgM : nd ≤ cp ∨ max nd (2 * cp + 2) ≤ 160) :
    MetFree l (⟨"java/lang/AbstractStringBuilder", "ensureCapacityInternal", "(I)V"⟩ : MethodName) (head1 (Jvm.Cond.code (⟨"java/lang/AbstractStringBuilder", "ensureCapacityInternal", "(I)V"⟩ : MethodName) jdk_68_method_9_code 3 none :: ws) ({ frames := 3, cells := 1, slots := 160, locals := 80 } : Room)) (fun a U => a = #[(.ref b1), (.int (Int32.ofNat nd))] ∧ Z.Warmed39 U.vm ∧ U.heap = h0) (fun _ _ _ _ _ => True) (fun _ U o U' => ∃ v L, o = .returned v ∧ QEns Z b1 v1 k1 cp ct vs nd h0 n0 v U'.heap L ∧ FrameEnd U o U' L ({ frames := 3, cells := 1, slots := 160, locals := 80 } : Room).cells ({ frames := 3, cells := 1, slots := 160, locals := 80 } : Room).slots) := by
  refine MetFree.of_bodySF (plainFor_of_name pn_java_lang_AbstractStringBuilder) hisR ?_
  intro p e s m args below meth c s₁ Bd hml0 hP hK
  obtain ⟨rfl, hZ, hh⟩ := hP
  have hx := Bd.exec
  have hby := Bd.bytes
  have hml : c.maxLocals = 3 := hml0
  have hown : s.vm.findClass "java/lang/AbstractStringBuilder" = some m.cls := findClass_of_methodNamed Bd.named
  have hnm := (name_of_methodNamed Bd.named Bd.method).1
  have X0 : Stand p l e ({ frames := 3, cells := 1, slots := 160, locals := 80 } : Room) s m #[(.ref b1), (.int (Int32.ofNat nd))] below meth c s₁ [] 0 0 := Stand.of_body Bd
  have e0 : s₁.heap = h0 := by rw [← hh, Bd.state]; rfl
  have N0 := Fr.nil n0
  have pre0 : ∀ t, Steps p.tables e below (s₁.setTop (mkF m 0 #[.val (.ref b1), .val (.int (Int32.ofNat nd)), .unset] [])) t → Steps p.tables e below (s₁.setTop (entryFrame m #[(.ref b1), (.int (Int32.ofNat nd))] 3)) t := fun t k => castTop (ef_Ens m b1 (Int32.ofNat nd)) k
  have mem_b1 : b1 ∈ [b1] := List.mem_of_getElem? (i := 0) rfl
  obtain ⟨T27, X27, e27, st27⟩ := getF X0 hx hZ hown (host := "") (Or.inl (tw hw 50 rfl)) Via.refl e0 BV (g := (mkF m 1 #[.val (.ref b1), .val (.int (Int32.ofNat nd)), .unset] [(.ref b1)])) rfl rfl (hb hby d13_1)
  obtain ⟨c28, Ar28, -, S28, M28, -, -⟩ := id BA
  obtain ⟨T29, X29, e29, st29⟩ := getF X27 hx hZ hown (host := "") (Or.inl (tw hw 52 rfl)) Via.refl e27 BC (g := (mkF m 6 #[.val (.ref b1), .val (.int (Int32.ofNat nd)), .unset] [(.ref b1), (.int (Int32.ofNat cp))])) rfl rfl (hb hby d13_6)
  have pre30 : ∀ t, Steps p.tables e below (T29.setTop (mkF m 14 #[.val (.ref b1), .val (.int (Int32.ofNat nd)), .val (.int (Int32.ofNat cp))] [(.int ((Int32.ofNat nd) - (Int32.ofNat cp)))])) t → Steps p.tables e below (s₁.setTop (mkF m 0 #[.val (.ref b1), .val (.int (Int32.ofNat nd)), .unset] [])) t := by
    intro t kt
    show Steps p.tables e below (s₁.setTop (mkF m 0 #[.val (.ref b1), .val (.int (Int32.ofNat nd)), .unset] [])) _
    refine XS.aloadN X0.here hx rfl (hb hby d13_0) rfl rfl ?_
    refine st27 _ ?_
    refine X27.arraylength hx (by rw [e27]; exact Ar28.1) (State.isArrayOf_alike hZ.alike Ar28.2.1) (g := (mkF m 4 #[.val (.ref b1), .val (.int (Int32.ofNat nd)), .unset] [(.ref v1)])) rfl rfl (hb hby d13_4) _ ?_
    rw [len_of S28 M28]
    show Steps p.tables e below (T27.setTop (mkF m 5 #[.val (.ref b1), .val (.int (Int32.ofNat nd)), .unset] [(.int (Int32.ofNat cp))])) _
    refine XS.aloadN X27.here hx rfl (hb hby d13_5) rfl rfl ?_
    refine st29 _ ?_
    show Steps p.tables e below (T29.setTop (mkF m 9 #[.val (.ref b1), .val (.int (Int32.ofNat nd)), .unset] [(.int (0 : Int32)), (.int (Int32.ofNat cp))])) _
    refine XS.ishr X29.here hx rfl (hb hby d13_9) rfl ?_
    show Steps p.tables e below (T29.setTop (mkF m 10 #[.val (.ref b1), .val (.int (Int32.ofNat nd)), .unset] [(.int ((Int32.ofNat cp) >>> ((0 : Int32) &&& 31)))])) _
    rw [own_shr0]
    show Steps p.tables e below (T29.setTop (mkF m 10 #[.val (.ref b1), .val (.int (Int32.ofNat nd)), .unset] [(.int (Int32.ofNat cp))])) _
    refine XS.istoreN X29.here hx rfl (hb hby d13_10) rfl (l' := #[.val (.ref b1), .val (.int (Int32.ofNat nd)), .val (.int (Int32.ofNat cp))]) rfl ?_
    refine XS.iloadN X29.here hx rfl (hb hby d13_11) rfl ?_
    refine XS.iloadN X29.here hx rfl (hb hby d13_12) rfl ?_
    refine XS.isub X29.here hx rfl (hb hby d13_13) rfl ?_
    exact kt
  by_cases cg : nd ≤ cp
  · skip
    have eg : own_gr cp nd = cp := if_pos cg
    have pre31 : ∀ t, Steps p.tables e below (T29.setTop (mkF m 38 #[.val (.ref b1), .val (.int (Int32.ofNat nd)), .val (.int (Int32.ofNat cp))] [])) t → Steps p.tables e below (T29.setTop (mkF m 14 #[.val (.ref b1), .val (.int (Int32.ofNat nd)), .val (.int (Int32.ofNat cp))] [(.int ((Int32.ofNat nd) - (Int32.ofNat cp)))])) t := by
      intro t kt
      refine XS.ifYes X29.here hx rfl (pc0 := 14) (pc' := 38) rfl (hb hby d13_14) rfl ((if0 _ _).trans (flt (by have q := c_isub (Int32.ofNat nd) (Int32.ofNat cp); have r := rng32 (Int32.ofNat nd - Int32.ofNat cp); rw [own_n (by omega), own_n (by omega)] at q; rw [Int32.lt_iff_toInt_lt, own_z]; omega : ¬ ((0 : Int32) < ((Int32.ofNat nd) - (Int32.ofNat cp))))).2.2.2) (by decide) (by decide) ?_
      exact kt
    obtain ⟨fs, hr, hrun, hended, hW, hsame⟩ := X29.leave (v := none) (fun _ => rfl)
    refine ⟨_, _, (pre0 _ (pre30 _ (pre31 _ ?_))), hrun, hended, _, _, rfl, ?_, ⟨_, rfl⟩, hW, hsame.mono (by decide) (by decide)⟩
    · show Steps p.tables e below (T29.setTop (mkF m 38 #[.val (.ref b1), .val (.int (Int32.ofNat nd)), .val (.int (Int32.ofNat cp))] [])) _
      exact X29.returnOut hx Bd.returns (hb hby d13_38) hr
    · show QEns Z b1 v1 k1 cp ct vs nd h0 n0 _ T29.heap _
      rw [e29]
      exact ⟨rfl, N0, (Keep.refl h0 [b1]), v1, k1, vs, ⟨BE, BV, BC, BN, by rw [eg]; exact BA, BX⟩, by rw [eg]; exact hvl, by rw [← hvl]; exact List.take_length, g_v1, Or.inl rfl⟩
  · skip
    obtain ⟨T32, X32, e32, st32⟩ := getF X29 hx hZ hown (host := "") (Or.inl (tw hw 50 rfl)) Via.refl e29 BV (g := (mkF m 19 #[.val (.ref b1), .val (.int (Int32.ofNat nd)), .val (.int (Int32.ofNat cp))] [(.ref b1), (.ref b1)])) rfl rfl (hb hby d13_19)
    obtain ⟨cq33, q33, q33'⟩ := BE.cell
    obtain ⟨_, _, ⟨T33, L33, k33, n33⟩, -, X33, ⟨Lc33, hQ33, l33, y33, z33⟩, st33⟩ := X32.privateBack hx (y := (⟨"java/lang/AbstractStringBuilder", "newCapacity", "(I)I"⟩ : MethodName)) hown (mvT hZ (tw hw 84 rfl)) (mvT hZ (tw hw 85 rfl)) (own_selP (mvT hZ (tw hw 87 rfl)) (Cond.privateMethod_at (mvP hZ (tw hw 86 rfl) (args := #[]))) (mvT hZ (tw hw 85 rfl)) (by decide)) (Cond.privateMethod_at (mvP hZ (tw hw 86 rfl) (args := #[]))) (mvT hZ (tw hw 88 rfl)) (by decide) (backOf (W := 2) (rmNewC l Z a0 hw [] b1 v1 k1 cp ct vs nd h0 n0 Z0 BE BV BC BN BA BX hvl hcp g_b1 g_v1 (by omega) hnM) hZ (tw hw 88 rfl) (tw hw 46 rfl) (by decide) (by decide)) (g := (mkF m 24 #[.val (.ref b1), .val (.int (Int32.ofNat nd)), .val (.int (Int32.ofNat cp))] [(.int (Int32.ofNat nd)), (.ref b1), (.ref v1), (.ref b1)])) rfl (by rw [hml]; rfl) (Steps.refl _) (a := b1) (by rw [e32]; exact q33) q33' (argsL := [(.int (Int32.ofNat nd))]) (rest := [(.ref v1), (.ref b1)]) (lenOf pd__I_I rfl) rfl (by show 2 * 0 + _ ≤ _; exact Nat.le_of_eq rfl) (hb hby d13_24) (fun _ _ => ⟨rfl, e32, (by decide : 0 + 0 ≤ _), (by decide : 0 + 0 ≤ _)⟩)
    dsimp only [Pt.U, Pt.locs, Pt.cells, Pt.slots] at X33 l33 y33 z33 st33 hQ33
    subst l33 y33 z33
    obtain ⟨rfl, N33q, EQ33⟩ := hQ33
    have N33 := Fr.app N0 N33q
    have Z33 : n0 ≤ T33.heap.size := by rw [EQ33]; exact Z0
    have K33 := own_keq EQ33 (Keep.refl h0 [b1])
    have f34 := (EQ33 ▸ BC)
    obtain ⟨T35, X35, e35, st35⟩ := getF X33 hx hZ hown (host := "") (Or.inl (tw hw 52 rfl)) Via.refl rfl f34 (g := (mkF m 28 #[.val (.ref b1), .val (.int (Int32.ofNat nd)), .val (.int (Int32.ofNat cp))] [(.ref b1), (.int (Int32.ofNat (max nd (2 * cp + 2)))), (.ref v1), (.ref b1)])) rfl rfl (hb hby d13_28)
    have hgx : max nd (2 * cp + 2) ≤ 160 := hgM.resolve_left cg
    have f36 := (EQ33 ▸ BA)
    have f38 := (EQ33 ▸ BE)
    obtain ⟨_, _, ⟨T37, L37, k37, n37⟩, -, X37, ⟨Lc37, hQ37, l37, y37, z37⟩, st37⟩ := Jvm.LawKit.callS X35 hx (y := (⟨"java/util/Arrays", "copyOf", "([BI)[B"⟩ : MethodName)) hown (mvT hZ (tw hw 99 rfl)) (mvT hZ (tw hw 100 rfl)) (mvT hZ (tw hw 101 rfl)) (mvT hZ (tw hw 102 rfl)) (by decide) (backOf (W := 1) (rmCpO l Z a0 hw [] v1 k1 cp vs (max nd (2 * cp + 2)) T33.heap n0 Z33 f36 hvl hcp (by omega) hgx) hZ (tw hw 102 rfl) (tw hw 101 rfl) (by decide) (by decide)) (g := (mkF m 32 #[.val (.ref b1), .val (.int (Int32.ofNat nd)), .val (.int (Int32.ofNat cp))] [(.int (Int32.ofNat (max nd (2 * cp + 2)))), (.ref v1), (.ref b1)])) rfl (by rw [hml]; rfl) (argsL := [(.ref v1), (.int (Int32.ofNat (max nd (2 * cp + 2))))]) (rest := [(.ref b1)]) (lenOf pd___BI__B rfl) rfl (by show 2 * 0 + _ ≤ _; exact Nat.le_of_eq rfl) (hb hby d13_32) (fun _ _ => ⟨rfl, e35, (by decide : 0 + 1 ≤ _), (by decide : 0 + 160 ≤ _)⟩)
    dsimp only [Pt.U, Pt.locs, Pt.cells, Pt.slots] at X37 l37 y37 z37 st37 hQ37
    subst l37 y37 z37
    obtain ⟨v2, rfl, N37q, EX37, le37, k2, V2, X2⟩ := hQ37
    have N37 := Fr.app N33 N37q
    have g_v2 : n0 ≤ v2 := Nat.le_trans Z33 le37
    have sz_v2 : h0.size ≤ v2 := Nat.le_trans K33.1 le37
    have ne_b1_v2 : b1 ≠ v2 := Nat.ne_of_lt (Nat.lt_of_lt_of_le f38.lt le37)
    have K37 := K33.ext EX37
    have f39 := ((EQ33 ▸ BV).ext EX37)
    have f40 := (f38.ext EX37)
    obtain ⟨T41, h41, X41, e41, W41, st41⟩ := putF X37 hx hZ hown (host := "") (Or.inl (tw hw 50 rfl)) Via.refl rfl f39 f40 (Or.inl (tw hw 51 rfl)) (tw hw 37 rfl) (ty := (.array .byte)) (by decide) rfl rfl (g := (mkF m 35 #[.val (.ref b1), .val (.int (Int32.ofNat nd)), .val (.int (Int32.ofNat cp))] [(.ref v2), (.ref b1)])) rfl rfl (hb hby d13_35)
    have N41 := Fr.snoc X41 N37 g_b1
    have K41 := K37.wr W41 (Or.inl mem_b1)
    have Fw41 := f39.same W41
    have eg : own_gr cp nd = max nd (2 * cp + 2) := if_neg cg
    have f42 := (f40.wr W41)
    have f43 := ((f34.ext EX37).other W41 (Or.inr (slot_ne (Or.inl (tw hw 53 rfl)) (Or.inl (tw hw 51 rfl)) (by decide) (t := .byte) (t' := (.array .byte)) (by decide) (by decide))))
    have f44 := (((EQ33 ▸ BN).ext EX37).other W41 (Or.inr (slot_ne (Or.inl (tw hw 78 rfl)) (Or.inl (tw hw 51 rfl)) (by decide) (t := .int) (t' := (.array .byte)) (by decide) (by decide))))
    have f45 := (V2.other W41 (Ne.symm ne_b1_v2))
    have f46 := (X2.wr W41)
    have pre47 : ∀ t, Steps p.tables e below (T41.setTop (mkF m 38 #[.val (.ref b1), .val (.int (Int32.ofNat nd)), .val (.int (Int32.ofNat cp))] [])) t → Steps p.tables e below (T29.setTop (mkF m 14 #[.val (.ref b1), .val (.int (Int32.ofNat nd)), .val (.int (Int32.ofNat cp))] [(.int ((Int32.ofNat nd) - (Int32.ofNat cp)))])) t := by
      intro t kt
      refine XS.ifNo X29.here hx rfl (hb hby d13_14) rfl ((if0 _ _).trans (tlt (by rw [own_sub (by omega) (by omega), Int32.lt_iff_toInt_lt, own_n (by omega), own_z]; omega : (0 : Int32) < ((Int32.ofNat nd) - (Int32.ofNat cp)))).2.2.2) ?_
      show Steps p.tables e below (T29.setTop (mkF m 17 #[.val (.ref b1), .val (.int (Int32.ofNat nd)), .val (.int (Int32.ofNat cp))] [])) _
      refine XS.aloadN X29.here hx rfl (hb hby d13_17) rfl rfl ?_
      refine XS.aloadN X29.here hx rfl (hb hby d13_18) rfl rfl ?_
      refine st32 _ ?_
      show Steps p.tables e below (T32.setTop (mkF m 22 #[.val (.ref b1), .val (.int (Int32.ofNat nd)), .val (.int (Int32.ofNat cp))] [(.ref v1), (.ref b1)])) _
      refine XS.aloadN X32.here hx rfl (hb hby d13_22) rfl rfl ?_
      refine XS.iloadN X32.here hx rfl (hb hby d13_23) rfl ?_
      refine st33.trans ?_
      show Steps p.tables e below (T33.setTop (mkF m 27 #[.val (.ref b1), .val (.int (Int32.ofNat nd)), .val (.int (Int32.ofNat cp))] [(.int (Int32.ofNat (max nd (2 * cp + 2)))), (.ref v1), (.ref b1)])) _
      refine XS.aloadN X33.here hx rfl (hb hby d13_27) rfl rfl ?_
      refine st35 _ ?_
      show Steps p.tables e below (T35.setTop (mkF m 31 #[.val (.ref b1), .val (.int (Int32.ofNat nd)), .val (.int (Int32.ofNat cp))] [(.int (0 : Int32)), (.int (Int32.ofNat (max nd (2 * cp + 2)))), (.ref v1), (.ref b1)])) _
      refine XS.ishl X35.here hx rfl (hb hby d13_31) rfl ?_
      show Steps p.tables e below (T35.setTop (mkF m 32 #[.val (.ref b1), .val (.int (Int32.ofNat nd)), .val (.int (Int32.ofNat cp))] [(.int ((Int32.ofNat (max nd (2 * cp + 2))) <<< ((0 : Int32) &&& 31))), (.ref v1), (.ref b1)])) _
      rw [own_shl0]
      refine st37 _ ?_
      refine st41 _ ?_
      exact kt
    obtain ⟨fs, hr, hrun, hended, hW, hsame⟩ := X41.leave (v := none) (fun _ => rfl)
    refine ⟨_, _, (pre0 _ (pre30 _ (pre47 _ ?_))), hrun, hended, _, _, rfl, ?_, ⟨_, rfl⟩, hW, hsame.mono (by decide) (by decide)⟩
    · show Steps p.tables e below (T41.setTop (mkF m 38 #[.val (.ref b1), .val (.int (Int32.ofNat nd)), .val (.int (Int32.ofNat cp))] [])) _
      exact X41.returnOut hx Bd.returns (hb hby d13_38) hr
    · show QEns Z b1 v1 k1 cp ct vs nd h0 n0 _ T41.heap _
      rw [e41]
      exact ⟨rfl, N41, K41, v2, k2, _, ⟨f42, Fw41, f43, f44, by rw [eg]; exact f45, f46⟩, by rw [eg]; simp [hvl]; omega, by rw [← hvl]; simp, g_v2, Or.inr sz_v2⟩
theorem ef_Cod (m : MethodId) (x0 : Addr) : entryFrame m #[(.ref x0)] 1 = mkF m 0 #[.val (.ref x0)] [] := by (first | (simp [entryFrame, mkF, argsToLocals, Value.category]; done) | rfl)
def QCod (Z : State) (x1 : Addr) (zc : Int32) (h0 : Heap) (n0 : Nat) (v : Option Value) (h : Heap) (L : List Loc) : Prop := v = some (.int (0 : Int32)) ∧ Fr n0 L ∧ h = h0
theorem pn_java_lang_String : plainName "java/lang/String" = true := by first | (simp [plainName, overriddenIn]; done) | decide +kernel
theorem d12_0 : decode jdk_42_method_152_code 0 = .ok (.getstatic 38, 3) := by decide +kernel
theorem d12_3 : decode jdk_42_method_152_code 3 = .ok (.ifCond .eq 10, 3) := by decide +kernel
theorem d12_6 : decode jdk_42_method_152_code 6 = .ok (.aload_n 0, 1) := by decide +kernel
theorem d12_7 : decode jdk_42_method_152_code 7 = .ok (.getfield 15, 3) := by decide +kernel
theorem d12_10 : decode jdk_42_method_152_code 10 = .ok (.goto 4, 3) := by decide +kernel
theorem d12_14 : decode jdk_42_method_152_code 14 = .ok (.ireturn, 1) := by decide +kernel
set_option maxRecDepth 65536 in
set_option maxHeartbeats 40000000 in
theorem rmCod (l : Launch) (Z : State) (a0 : Array Value) (hw : ∀ d ∈ tables_1, d.before a0 Z = true) (ws : List Jvm.Cond) (x1 : Addr) (zc : Int32) (h0 : Heap) (n0 : Nat) (Z0 : n0 ≤ h0.size) (SC : Sta Z h0 "java/lang/String" "COMPACT_STRINGS" "Z" (.int zc)) (hzc : ¬ zc = (0 : Int32)) (FC : Fld Z h0 x1 "java/lang/String" "coder" "B" (.int (0 : Int32))) :
    MetFree l (⟨"java/lang/String", "coder", "()B"⟩ : MethodName) (head1 (Jvm.Cond.code (⟨"java/lang/String", "coder", "()B"⟩ : MethodName) jdk_42_method_152_code 1 (some .byte) :: ws) ({ frames := 0, cells := 0, slots := 0, locals := 0 } : Room)) (fun a U => a = #[(.ref x1)] ∧ Z.Warmed39 U.vm ∧ U.heap = h0) (fun _ _ _ _ _ => True) (fun _ U o U' => ∃ v L, o = .returned v ∧ QCod Z x1 zc h0 n0 v U'.heap L ∧ FrameEnd U o U' L ({ frames := 0, cells := 0, slots := 0, locals := 0 } : Room).cells ({ frames := 0, cells := 0, slots := 0, locals := 0 } : Room).slots) := by
  refine MetFree.of_bodySF (plainFor_of_name pn_java_lang_String) hisR ?_
  intro p e s m args below meth c s₁ Bd hml0 hP hK
  obtain ⟨rfl, hZ, hh⟩ := hP
  have hx := Bd.exec
  have hby := Bd.bytes
  have hml : c.maxLocals = 1 := hml0
  have hown : s.vm.findClass "java/lang/String" = some m.cls := findClass_of_methodNamed Bd.named
  have hnm := (name_of_methodNamed Bd.named Bd.method).1
  have X0 : Stand p l e ({ frames := 0, cells := 0, slots := 0, locals := 0 } : Room) s m #[(.ref x1)] below meth c s₁ [] 0 0 := Stand.of_body Bd
  have e0 : s₁.heap = h0 := by rw [← hh, Bd.state]; rfl
  have N0 := Fr.nil n0
  have pre0 : ∀ t, Steps p.tables e below (s₁.setTop (mkF m 0 #[.val (.ref x1)] [])) t → Steps p.tables e below (s₁.setTop (entryFrame m #[(.ref x1)] 1)) t := fun t k => castTop (ef_Cod m x1) k
  obtain ⟨T48, X48, e48, st48⟩ := getS2 X0 hx hZ hown (host := "") (Or.inl (tw hw 14 rfl)) Via.refl e0 SC (g := (mkF m 0 #[.val (.ref x1)] [])) rfl (hb hby d12_0)
  obtain ⟨T49, X49, e49, st49⟩ := getF X48 hx hZ hown (host := "") (Or.inl (tw hw 31 rfl)) Via.refl e48 FC (g := (mkF m 7 #[.val (.ref x1)] [(.ref x1)])) rfl rfl (hb hby d12_7)
  have pre50 : ∀ t, Steps p.tables e below (T49.setTop (mkF m 14 #[.val (.ref x1)] [(.int (0 : Int32))])) t → Steps p.tables e below (s₁.setTop (mkF m 0 #[.val (.ref x1)] [])) t := by
    intro t kt
    refine st48 _ ?_
    refine XS.ifNo X48.here hx rfl (hb hby d12_3) rfl ((if0 _ _).trans (feq (hzc : ¬ (zc = (0 : Int32)))).1) ?_
    show Steps p.tables e below (T48.setTop (mkF m 6 #[.val (.ref x1)] [])) _
    refine XS.aloadN X48.here hx rfl (hb hby d12_6) rfl rfl ?_
    refine st49 _ ?_
    show Steps p.tables e below (T49.setTop (mkF m 10 #[.val (.ref x1)] [(.int (0 : Int32))])) _
    refine XS.goto X49.here hx rfl (pc0 := 10) (pc' := 14) rfl (hb hby d12_10) (by decide) (by decide) ?_
    exact kt
  obtain ⟨fs, hr, hrun, hended, hW, hsame⟩ := X49.leave (v := some (.int (0 : Int32))) (fun h => by rw [Bd.returns] at h; cases h)
  refine ⟨_, _, (pre0 _ (pre50 _ ?_)), hrun, hended, _, _, rfl, ?_, ⟨_, rfl⟩, hW, hsame.mono (by decide) (by decide)⟩
  · show Steps p.tables e below (T49.setTop (mkF m 14 #[.val (.ref x1)] [(.int (0 : Int32))])) _
    exact retN X49 hx (t := .byte) Bd.returns (by simp) (hb hby d12_14) hr
  · show QCod Z x1 zc h0 n0 _ T49.heap _
    rw [e49]
    exact ⟨rfl, N0, rfl⟩
theorem ef_Len (m : MethodId) (x0 : Addr) : entryFrame m #[(.ref x0)] 1 = mkF m 0 #[.val (.ref x0)] [] := by (first | (simp [entryFrame, mkF, argsToLocals, Value.category]; done) | rfl)
def QLen (Z : State) (x1 : Addr) (t1 : Addr) (kb : ClassId) (nb : Int32) (vb : List Value) (zc : Int32) (h0 : Heap) (n0 : Nat) (v : Option Value) (h : Heap) (L : List Loc) : Prop := v = some (.int nb) ∧ Fr n0 L ∧ h = h0
theorem d11_0 : decode jdk_42_method_54_code 0 = .ok (.aload_n 0, 1) := by decide +kernel
theorem d11_1 : decode jdk_42_method_54_code 1 = .ok (.getfield 9, 3) := by decide +kernel
theorem d11_4 : decode jdk_42_method_54_code 4 = .ok (.arraylength, 1) := by decide +kernel
theorem d11_5 : decode jdk_42_method_54_code 5 = .ok (.aload_n 0, 1) := by decide +kernel
theorem d11_6 : decode jdk_42_method_54_code 6 = .ok (.invokevirtual 335, 3) := by decide +kernel
theorem pd___B : parseMethodDescriptor "()B" = some ⟨[], some .byte⟩ := by decide +kernel
theorem d11_9 : decode jdk_42_method_54_code 9 = .ok (.ishr, 1) := by decide +kernel
theorem d11_10 : decode jdk_42_method_54_code 10 = .ok (.ireturn, 1) := by decide +kernel
set_option maxRecDepth 65536 in
set_option maxHeartbeats 40000000 in
theorem rmLen (l : Launch) (Z : State) (a0 : Array Value) (hw : ∀ d ∈ tables_1, d.before a0 Z = true) (ws : List Jvm.Cond) (x1 : Addr) (t1 : Addr) (kb : ClassId) (nb : Int32) (vb : List Value) (zc : Int32) (h0 : Heap) (n0 : Nat) (Z0 : n0 ≤ h0.size) (SC : Sta Z h0 "java/lang/String" "COMPACT_STRINGS" "Z" (.int zc)) (hzc : ¬ zc = (0 : Int32)) (FC : Fld Z h0 x1 "java/lang/String" "coder" "B" (.int (0 : Int32))) (FV : Fld Z h0 x1 "java/lang/String" "value" "[B" (.ref t1)) (EX : Exa Z h0 x1 "java/lang/String") (KA : Arv Z h0 t1 kb .byte nb vb (.int (0 : Int32))) :
    MetFree l (⟨"java/lang/String", "length", "()I"⟩ : MethodName) (head1 (Jvm.Cond.code (⟨"java/lang/String", "length", "()I"⟩ : MethodName) jdk_42_method_54_code 1 (some .int) :: ws) ({ frames := 1, cells := 0, slots := 0, locals := 13 } : Room)) (fun a U => a = #[(.ref x1)] ∧ Z.Warmed39 U.vm ∧ U.heap = h0) (fun _ _ _ _ _ => True) (fun _ U o U' => ∃ v L, o = .returned v ∧ QLen Z x1 t1 kb nb vb zc h0 n0 v U'.heap L ∧ FrameEnd U o U' L ({ frames := 1, cells := 0, slots := 0, locals := 13 } : Room).cells ({ frames := 1, cells := 0, slots := 0, locals := 13 } : Room).slots) := by
  refine MetFree.of_bodySF (plainFor_of_name pn_java_lang_String) hisR ?_
  intro p e s m args below meth c s₁ Bd hml0 hP hK
  obtain ⟨rfl, hZ, hh⟩ := hP
  have hx := Bd.exec
  have hby := Bd.bytes
  have hml : c.maxLocals = 1 := hml0
  have hown : s.vm.findClass "java/lang/String" = some m.cls := findClass_of_methodNamed Bd.named
  have hnm := (name_of_methodNamed Bd.named Bd.method).1
  have X0 : Stand p l e ({ frames := 1, cells := 0, slots := 0, locals := 13 } : Room) s m #[(.ref x1)] below meth c s₁ [] 0 0 := Stand.of_body Bd
  have e0 : s₁.heap = h0 := by rw [← hh, Bd.state]; rfl
  have N0 := Fr.nil n0
  have pre0 : ∀ t, Steps p.tables e below (s₁.setTop (mkF m 0 #[.val (.ref x1)] [])) t → Steps p.tables e below (s₁.setTop (entryFrame m #[(.ref x1)] 1)) t := fun t k => castTop (ef_Len m x1) k
  obtain ⟨T51, X51, e51, st51⟩ := getF X0 hx hZ hown (host := "") (Or.inl (tw hw 30 rfl)) Via.refl e0 FV (g := (mkF m 1 #[.val (.ref x1)] [(.ref x1)])) rfl rfl (hb hby d11_1)
  obtain ⟨c52, Ar52, -, S52, M52, -, -⟩ := id KA
  obtain ⟨cq53, kq53, q53a, q53b, q53c⟩ := isOf hZ e51 EX
  obtain ⟨_, _, ⟨T53, L53, k53, n53⟩, -, X53, ⟨Lc53, hQ53, l53, y53, z53⟩, st53⟩ := X51.virtualBack hx (y := (⟨"java/lang/String", "coder", "()B"⟩ : MethodName)) (z := (⟨"java/lang/String", "coder", "()B"⟩ : MethodName)) hown (mvT hZ (tw hw 72 rfl)) (mvT hZ (tw hw 73 rfl)) (notFace_of_selects (args := #[]) (mvT hZ (tw hw 75 rfl))) (mvT hZ (tw hw 75 rfl)) (mvT hZ (tw hw 74 rfl)) (by decide) (backOf (W := 1) (rmCod l Z a0 hw [] x1 zc h0 n0 Z0 SC hzc FC) hZ (tw hw 76 rfl) (tw hw 1 rfl) (by decide) (by decide)) q53a q53c (g := (mkF m 6 #[.val (.ref x1)] [(.ref x1), (.int nb)])) rfl (by rw [hml]; rfl) (Steps.refl _) (argsL := []) (rest := [(.int nb)]) (lenOf pd___B rfl) rfl (by show 2 * 0 + _ ≤ _; exact Nat.le_of_eq rfl) (hb hby d11_6) (fun _ _ => ⟨rfl, e51, (by decide : 0 + 0 ≤ _), (by decide : 0 + 0 ≤ _)⟩)
  dsimp only [Pt.U, Pt.locs, Pt.cells, Pt.slots] at X53 l53 y53 z53 st53 hQ53
  subst l53 y53 z53
  obtain ⟨rfl, N53q, EQ53⟩ := hQ53
  have N53 := Fr.app N0 N53q
  have pre54 : ∀ t, Steps p.tables e below (T53.setTop (mkF m 10 #[.val (.ref x1)] [(.int (nb >>> ((0 : Int32) &&& 31)))])) t → Steps p.tables e below (s₁.setTop (mkF m 0 #[.val (.ref x1)] [])) t := by
    intro t kt
    show Steps p.tables e below (s₁.setTop (mkF m 0 #[.val (.ref x1)] [])) _
    refine XS.aloadN X0.here hx rfl (hb hby d11_0) rfl rfl ?_
    refine st51 _ ?_
    refine X51.arraylength hx (by rw [e51]; exact Ar52.1) (State.isArrayOf_alike hZ.alike Ar52.2.1) (g := (mkF m 4 #[.val (.ref x1)] [(.ref t1)])) rfl rfl (hb hby d11_4) _ ?_
    rw [len_of S52 M52]
    show Steps p.tables e below (T51.setTop (mkF m 5 #[.val (.ref x1)] [(.int nb)])) _
    refine XS.aloadN X51.here hx rfl (hb hby d11_5) rfl rfl ?_
    refine st53.trans ?_
    show Steps p.tables e below (T53.setTop (mkF m 9 #[.val (.ref x1)] [(.int (0 : Int32)), (.int nb)])) _
    refine XS.ishr X53.here hx rfl (hb hby d11_9) rfl ?_
    exact kt
  obtain ⟨fs, hr, hrun, hended, hW, hsame⟩ := X53.leave (v := some (.int (nb >>> ((0 : Int32) &&& 31)))) (fun h => by rw [Bd.returns] at h; cases h)
  refine ⟨_, _, (pre0 _ (pre54 _ ?_)), hrun, hended, _, _, rfl, ?_, ⟨_, rfl⟩, hW, hsame.mono (by decide) (by decide)⟩
  · show Steps p.tables e below (T53.setTop (mkF m 10 #[.val (.ref x1)] [(.int (nb >>> ((0 : Int32) &&& 31)))])) _
    exact retOut X53 hx (t := .int) Bd.returns rfl (Or.inl ⟨rfl, Or.inl rfl, _, rfl⟩) (hb hby d11_10) hr
  · show QLen Z x1 t1 kb nb vb zc h0 n0 _ T53.heap _
    exact ⟨by rw [own_shr0], N53, by rw [EQ53]⟩
theorem ef_Inf (m : MethodId) (x0 : Addr) (x1 : Addr) : entryFrame m #[(.ref x0), (.ref x1)] 2 = mkF m 0 #[.val (.ref x0), .val (.ref x1)] [] := by (first | (simp [entryFrame, mkF, argsToLocals, Value.category]; done) | rfl)
def QInf (Z : State) (b1 : Addr) (v1 : Addr) (k1 : ClassId) (cp : Nat) (ct : Nat) (vs : List Value) (x1 : Addr) (t1 : Addr) (kx : ClassId) (nx : Nat) (xs : List Value) (zc : Int32) (h0 : Heap) (n0 : Nat) (v : Option Value) (h : Heap) (L : List Loc) : Prop := v = none ∧ Fr n0 L ∧ h = h0
theorem d20_0 : decode jdk_68_method_71_code 0 = .ok (.getstatic 18, 3) := by decide +kernel
theorem d20_3 : decode jdk_68_method_71_code 3 = .ok (.ifCond .eq 18, 3) := by decide +kernel
theorem d20_6 : decode jdk_68_method_71_code 6 = .ok (.aload_n 0, 1) := by decide +kernel
theorem d20_7 : decode jdk_68_method_71_code 7 = .ok (.getfield 22, 3) := by decide +kernel
theorem d20_10 : decode jdk_68_method_71_code 10 = .ok (.aload_n 1, 1) := by decide +kernel
theorem d20_11 : decode jdk_68_method_71_code 11 = .ok (.invokevirtual 40, 3) := by decide +kernel
theorem d20_14 : decode jdk_68_method_71_code 14 = .ok (.if_icmp .eq 7, 3) := by decide +kernel
theorem d20_21 : decode jdk_68_method_71_code 21 = .ok (.return_, 1) := by decide +kernel
set_option maxRecDepth 65536 in
set_option maxHeartbeats 40000000 in
theorem rmInf (l : Launch) (Z : State) (a0 : Array Value) (hw : ∀ d ∈ tables_1, d.before a0 Z = true) (ws : List Jvm.Cond) (b1 : Addr) (v1 : Addr) (k1 : ClassId) (cp : Nat) (ct : Nat) (vs : List Value) (x1 : Addr) (t1 : Addr) (kx : ClassId) (nx : Nat) (xs : List Value) (zc : Int32) (h0 : Heap) (n0 : Nat) (Z0 : n0 ≤ h0.size) (BE : Exa Z h0 b1 "java/lang/StringBuilder") (BV : Fld Z h0 b1 "java/lang/AbstractStringBuilder" "value" "[B" (.ref v1)) (BC : Fld Z h0 b1 "java/lang/AbstractStringBuilder" "coder" "B" (.int (0 : Int32))) (BN : Fld Z h0 b1 "java/lang/AbstractStringBuilder" "count" "I" (.int (Int32.ofNat ct))) (BA : Arv Z h0 v1 k1 .byte (Int32.ofNat cp) vs (.int (0 : Int32))) (BX : Exa Z h0 v1 "[B") (hvl : vs.length = cp) (hcp : cp ≤ 1000) (g_b1 : n0 ≤ b1) (g_v1 : n0 ≤ v1) (XE : Exa Z h0 x1 "java/lang/String") (XV : Fld Z h0 x1 "java/lang/String" "value" "[B" (.ref t1)) (XC : Fld Z h0 x1 "java/lang/String" "coder" "B" (.int (0 : Int32))) (XA : Arv Z h0 t1 kx .byte (Int32.ofNat nx) xs (.int (0 : Int32))) (hxl : xs.length = nx) (hnx : nx ≤ 1000) (OZ : Old Z n0 h0) (SC : Sta Z Z.heap "java/lang/String" "COMPACT_STRINGS" "Z" (.int zc)) (hzc : ¬ zc = (0 : Int32)) :
    MetFree l (⟨"java/lang/AbstractStringBuilder", "inflateIfNeededFor", "(Ljava/lang/String;)V"⟩ : MethodName) (head1 (Jvm.Cond.code (⟨"java/lang/AbstractStringBuilder", "inflateIfNeededFor", "(Ljava/lang/String;)V"⟩ : MethodName) jdk_68_method_71_code 2 none :: ws) ({ frames := 1, cells := 0, slots := 0, locals := 16 } : Room)) (fun a U => a = #[(.ref b1), (.ref x1)] ∧ Z.Warmed39 U.vm ∧ U.heap = h0) (fun _ _ _ _ _ => True) (fun _ U o U' => ∃ v L, o = .returned v ∧ QInf Z b1 v1 k1 cp ct vs x1 t1 kx nx xs zc h0 n0 v U'.heap L ∧ FrameEnd U o U' L ({ frames := 1, cells := 0, slots := 0, locals := 16 } : Room).cells ({ frames := 1, cells := 0, slots := 0, locals := 16 } : Room).slots) := by
  refine MetFree.of_bodySF (plainFor_of_name pn_java_lang_AbstractStringBuilder) hisR ?_
  intro p e s m args below meth c s₁ Bd hml0 hP hK
  obtain ⟨rfl, hZ, hh⟩ := hP
  have hx := Bd.exec
  have hby := Bd.bytes
  have hml : c.maxLocals = 2 := hml0
  have hown : s.vm.findClass "java/lang/AbstractStringBuilder" = some m.cls := findClass_of_methodNamed Bd.named
  have hnm := (name_of_methodNamed Bd.named Bd.method).1
  have X0 : Stand p l e ({ frames := 1, cells := 0, slots := 0, locals := 16 } : Room) s m #[(.ref b1), (.ref x1)] below meth c s₁ [] 0 0 := Stand.of_body Bd
  have e0 : s₁.heap = h0 := by rw [← hh, Bd.state]; rfl
  have N0 := Fr.nil n0
  have pre0 : ∀ t, Steps p.tables e below (s₁.setTop (mkF m 0 #[.val (.ref b1), .val (.ref x1)] [])) t → Steps p.tables e below (s₁.setTop (entryFrame m #[(.ref b1), (.ref x1)] 2)) t := fun t k => castTop (ef_Inf m b1 x1) k
  obtain ⟨T55, X55, e55, st55⟩ := getS2 X0 hx hZ hown (host := "") (Or.inl (tw hw 49 rfl)) Via.refl e0 (SC.ext OZ.2) (g := (mkF m 0 #[.val (.ref b1), .val (.ref x1)] [])) rfl (hb hby d20_0)
  obtain ⟨T56, X56, e56, st56⟩ := getF X55 hx hZ hown (host := "") (Or.inl (tw hw 52 rfl)) Via.refl e55 BC (g := (mkF m 7 #[.val (.ref b1), .val (.ref x1)] [(.ref b1)])) rfl rfl (hb hby d20_7)
  obtain ⟨cq57, kq57, q57a, q57b, q57c⟩ := isOf hZ e56 XE
  obtain ⟨_, _, ⟨T57, L57, k57, n57⟩, -, X57, ⟨Lc57, hQ57, l57, y57, z57⟩, st57⟩ := X56.virtualBack hx (y := (⟨"java/lang/String", "coder", "()B"⟩ : MethodName)) (z := (⟨"java/lang/String", "coder", "()B"⟩ : MethodName)) hown (mvT hZ (tw hw 120 rfl)) (mvT hZ (tw hw 73 rfl)) (notFace_of_selects (args := #[]) (mvT hZ (tw hw 75 rfl))) (mvT hZ (tw hw 75 rfl)) (mvT hZ (tw hw 74 rfl)) (by decide) (backOf (W := 1) (rmCod l Z a0 hw [] x1 zc h0 n0 Z0 (SC.ext OZ.2) hzc XC) hZ (tw hw 76 rfl) (tw hw 1 rfl) (by decide) (by decide)) q57a q57c (g := (mkF m 11 #[.val (.ref b1), .val (.ref x1)] [(.ref x1), (.int (0 : Int32))])) rfl (by rw [hml]; rfl) (Steps.refl _) (argsL := []) (rest := [(.int (0 : Int32))]) (lenOf pd___B rfl) rfl (by show 2 * 0 + _ ≤ _; exact Nat.le_of_eq rfl) (hb hby d20_11) (fun _ _ => ⟨rfl, e56, (by decide : 0 + 0 ≤ _), (by decide : 0 + 0 ≤ _)⟩)
  dsimp only [Pt.U, Pt.locs, Pt.cells, Pt.slots] at X57 l57 y57 z57 st57 hQ57
  subst l57 y57 z57
  obtain ⟨rfl, N57q, EQ57⟩ := hQ57
  have N57 := Fr.app N0 N57q
  have pre58 : ∀ t, Steps p.tables e below (T57.setTop (mkF m 21 #[.val (.ref b1), .val (.ref x1)] [])) t → Steps p.tables e below (s₁.setTop (mkF m 0 #[.val (.ref b1), .val (.ref x1)] [])) t := by
    intro t kt
    refine st55 _ ?_
    refine XS.ifNo X55.here hx rfl (hb hby d20_3) rfl ((if0 _ _).trans (feq (hzc : ¬ (zc = (0 : Int32)))).1) ?_
    show Steps p.tables e below (T55.setTop (mkF m 6 #[.val (.ref b1), .val (.ref x1)] [])) _
    refine XS.aloadN X55.here hx rfl (hb hby d20_6) rfl rfl ?_
    refine st56 _ ?_
    show Steps p.tables e below (T56.setTop (mkF m 10 #[.val (.ref b1), .val (.ref x1)] [(.int (0 : Int32))])) _
    refine XS.aloadN X56.here hx rfl (hb hby d20_10) rfl rfl ?_
    refine st57.trans ?_
    refine XS.icmpYes X57.here hx rfl (pc0 := 14) (pc' := 21) rfl (hb hby d20_14) rfl (teq (rfl : (0 : Int32) = (0 : Int32))).1 (by decide) (by decide) ?_
    exact kt
  obtain ⟨fs, hr, hrun, hended, hW, hsame⟩ := X57.leave (v := none) (fun _ => rfl)
  refine ⟨_, _, (pre0 _ (pre58 _ ?_)), hrun, hended, _, _, rfl, ?_, ⟨_, rfl⟩, hW, hsame.mono (by decide) (by decide)⟩
  · show Steps p.tables e below (T57.setTop (mkF m 21 #[.val (.ref b1), .val (.ref x1)] [])) _
    exact X57.returnOut hx Bd.returns (hb hby d20_21) hr
  · show QInf Z b1 v1 k1 cp ct vs x1 t1 kx nx xs zc h0 n0 _ T57.heap _
    exact ⟨rfl, N57, by rw [EQ57]⟩
theorem ef_GetB (m : MethodId) (x0 : Addr) (x1 : Addr) (x2 : Int32) (x3 : Int32) : entryFrame m #[(.ref x0), (.ref x1), (.int x2), (.int x3)] 4 = mkF m 0 #[.val (.ref x0), .val (.ref x1), .val (.int x2), .val (.int x3)] [] := by (first | (simp [entryFrame, mkF, argsToLocals, Value.category]; done) | rfl)
def QGetB (Z : State) (x1 : Addr) (t1 : Addr) (kx : ClassId) (nx : Nat) (xs : List Value) (v1 : Addr) (k1 : ClassId) (cp : Nat) (ct : Nat) (vs : List Value) (zc : Int32) (h0 : Heap) (n0 : Nat) (v : Option Value) (h : Heap) (L : List Loc) : Prop := v = none ∧ Fr n0 L ∧ Keep h0 h [v1] ∧ Arv Z h v1 k1 .byte (Int32.ofNat cp) (vs.take ct ++ xs ++ vs.drop (ct + nx)) (.int (0 : Int32))
theorem d21_0 : decode jdk_42_method_147_code 0 = .ok (.aload_n 0, 1) := by decide +kernel
theorem d21_1 : decode jdk_42_method_147_code 1 = .ok (.invokevirtual 335, 3) := by decide +kernel
theorem d21_4 : decode jdk_42_method_147_code 4 = .ok (.iload_n 3, 1) := by decide +kernel
theorem d21_5 : decode jdk_42_method_147_code 5 = .ok (.if_icmp .ne 23, 3) := by decide +kernel
theorem d21_8 : decode jdk_42_method_147_code 8 = .ok (.aload_n 0, 1) := by decide +kernel
theorem d21_9 : decode jdk_42_method_147_code 9 = .ok (.getfield 9, 3) := by decide +kernel
theorem d21_12 : decode jdk_42_method_147_code 12 = .ok (.iconst 0, 1) := by decide +kernel
theorem d21_13 : decode jdk_42_method_147_code 13 = .ok (.aload_n 1, 1) := by decide +kernel
theorem d21_14 : decode jdk_42_method_147_code 14 = .ok (.iload_n 2, 1) := by decide +kernel
theorem d21_15 : decode jdk_42_method_147_code 15 = .ok (.iload_n 3, 1) := by decide +kernel
theorem d21_16 : decode jdk_42_method_147_code 16 = .ok (.ishl, 1) := by decide +kernel
theorem d21_17 : decode jdk_42_method_147_code 17 = .ok (.aload_n 0, 1) := by decide +kernel
theorem d21_18 : decode jdk_42_method_147_code 18 = .ok (.getfield 9, 3) := by decide +kernel
theorem d21_21 : decode jdk_42_method_147_code 21 = .ok (.arraylength, 1) := by decide +kernel
theorem d21_22 : decode jdk_42_method_147_code 22 = .ok (.invokestatic 212, 3) := by decide +kernel
theorem d21_25 : decode jdk_42_method_147_code 25 = .ok (.goto 18, 3) := by decide +kernel
theorem d21_43 : decode jdk_42_method_147_code 43 = .ok (.return_, 1) := by decide +kernel
set_option maxRecDepth 65536 in
set_option maxHeartbeats 40000000 in
theorem rmGetB (l : Launch) (Z : State) (a0 : Array Value) (hw : ∀ d ∈ tables_1, d.before a0 Z = true) (ws : List Jvm.Cond) (x1 : Addr) (t1 : Addr) (kx : ClassId) (nx : Nat) (xs : List Value) (v1 : Addr) (k1 : ClassId) (cp : Nat) (ct : Nat) (vs : List Value) (zc : Int32) (h0 : Heap) (n0 : Nat) (Z0 : n0 ≤ h0.size) (XE : Exa Z h0 x1 "java/lang/String") (XV : Fld Z h0 x1 "java/lang/String" "value" "[B" (.ref t1)) (XC : Fld Z h0 x1 "java/lang/String" "coder" "B" (.int (0 : Int32))) (XA : Arv Z h0 t1 kx .byte (Int32.ofNat nx) xs (.int (0 : Int32))) (hxl : xs.length = nx) (hnx : nx ≤ 1000) (BA : Arv Z h0 v1 k1 .byte (Int32.ofNat cp) vs (.int (0 : Int32))) (hvl : vs.length = cp) (hcp : cp ≤ 1000) (g_v1 : n0 ≤ v1) (hfit : ct + nx ≤ cp) (OZ : Old Z n0 h0) (SC : Sta Z Z.heap "java/lang/String" "COMPACT_STRINGS" "Z" (.int zc)) (hzc : ¬ zc = (0 : Int32)) :
    MetFree l (⟨"java/lang/String", "getBytes", "([BIB)V"⟩ : MethodName) (head1 (Jvm.Cond.code (⟨"java/lang/String", "getBytes", "([BIB)V"⟩ : MethodName) jdk_42_method_147_code 4 none :: ws) ({ frames := 1, cells := 0, slots := 0, locals := 40 } : Room)) (fun a U => a = #[(.ref x1), (.ref v1), (.int (Int32.ofNat ct)), (.int (0 : Int32))] ∧ Z.Warmed39 U.vm ∧ U.heap = h0) (fun _ _ _ _ _ => True) (fun _ U o U' => ∃ v L, o = .returned v ∧ QGetB Z x1 t1 kx nx xs v1 k1 cp ct vs zc h0 n0 v U'.heap L ∧ FrameEnd U o U' L ({ frames := 1, cells := 0, slots := 0, locals := 40 } : Room).cells ({ frames := 1, cells := 0, slots := 0, locals := 40 } : Room).slots) := by
  refine MetFree.of_bodySF (plainFor_of_name pn_java_lang_String) hisR ?_
  intro p e s m args below meth c s₁ Bd hml0 hP hK
  obtain ⟨rfl, hZ, hh⟩ := hP
  have hx := Bd.exec
  have hby := Bd.bytes
  have hml : c.maxLocals = 4 := hml0
  have hown : s.vm.findClass "java/lang/String" = some m.cls := findClass_of_methodNamed Bd.named
  have hnm := (name_of_methodNamed Bd.named Bd.method).1
  have X0 : Stand p l e ({ frames := 1, cells := 0, slots := 0, locals := 40 } : Room) s m #[(.ref x1), (.ref v1), (.int (Int32.ofNat ct)), (.int (0 : Int32))] below meth c s₁ [] 0 0 := Stand.of_body Bd
  have e0 : s₁.heap = h0 := by rw [← hh, Bd.state]; rfl
  have N0 := Fr.nil n0
  have pre0 : ∀ t, Steps p.tables e below (s₁.setTop (mkF m 0 #[.val (.ref x1), .val (.ref v1), .val (.int (Int32.ofNat ct)), .val (.int (0 : Int32))] [])) t → Steps p.tables e below (s₁.setTop (entryFrame m #[(.ref x1), (.ref v1), (.int (Int32.ofNat ct)), (.int (0 : Int32))] 4)) t := fun t k => castTop (ef_GetB m x1 v1 (Int32.ofNat ct) (0 : Int32)) k
  have mem_v1 : v1 ∈ [v1] := List.mem_of_getElem? (i := 0) rfl
  obtain ⟨cq59, kq59, q59a, q59b, q59c⟩ := isOf hZ e0 XE
  obtain ⟨_, _, ⟨T59, L59, k59, n59⟩, -, X59, ⟨Lc59, hQ59, l59, y59, z59⟩, st59⟩ := X0.virtualBack hx (y := (⟨"java/lang/String", "coder", "()B"⟩ : MethodName)) (z := (⟨"java/lang/String", "coder", "()B"⟩ : MethodName)) hown (mvT hZ (tw hw 72 rfl)) (mvT hZ (tw hw 73 rfl)) (notFace_of_selects (args := #[]) (mvT hZ (tw hw 75 rfl))) (mvT hZ (tw hw 75 rfl)) (mvT hZ (tw hw 74 rfl)) (by decide) (backOf (W := 0) (rmCod l Z a0 hw [] x1 zc h0 n0 Z0 (SC.ext OZ.2) hzc XC) hZ (tw hw 76 rfl) (tw hw 1 rfl) (by decide) (by decide)) q59a q59c (g := (mkF m 1 #[.val (.ref x1), .val (.ref v1), .val (.int (Int32.ofNat ct)), .val (.int (0 : Int32))] [(.ref x1)])) rfl (by rw [hml]; rfl) (Steps.refl _) (argsL := []) (rest := []) (lenOf pd___B rfl) rfl (by show 2 * 0 + _ ≤ _; exact Nat.le_of_eq rfl) (hb hby d21_1) (fun _ _ => ⟨rfl, e0, (by decide : 0 + 0 ≤ _), (by decide : 0 + 0 ≤ _)⟩)
  dsimp only [Pt.U, Pt.locs, Pt.cells, Pt.slots] at X59 l59 y59 z59 st59 hQ59
  subst l59 y59 z59
  obtain ⟨rfl, N59q, EQ59⟩ := hQ59
  have N59 := Fr.app N0 N59q
  have K59 := own_keq EQ59 (Keep.refl h0 [v1])
  have f60 := (EQ59 ▸ XV)
  obtain ⟨T61, X61, e61, st61⟩ := getF X59 hx hZ hown (host := "") (Or.inl (tw hw 30 rfl)) Via.refl rfl f60 (g := (mkF m 9 #[.val (.ref x1), .val (.ref v1), .val (.int (Int32.ofNat ct)), .val (.int (0 : Int32))] [(.ref x1)])) rfl rfl (hb hby d21_9)
  obtain ⟨T62, X62, e62, st62⟩ := getF X61 hx hZ hown (host := "") (Or.inl (tw hw 30 rfl)) Via.refl e61 f60 (g := (mkF m 18 #[.val (.ref x1), .val (.ref v1), .val (.int (Int32.ofNat ct)), .val (.int (0 : Int32))] [(.ref x1), (.int (Int32.ofNat ct)), (.ref v1), (.int (0 : Int32)), (.ref t1)])) rfl rfl (hb hby d21_18)
  have f63 := (EQ59 ▸ XA)
  obtain ⟨c64, Ar64, -, S64, M64, -, -⟩ := id f63
  have f65 := (EQ59 ▸ BA)
  obtain ⟨T66, h66, L66, X66, e66, N66, KC66, V66, st66⟩ := own_cp X62 hx hZ hown (tw hw 126 rfl) (tw hw 109 rfl) (tw hw 107 rfl) (tw hw 108 rfl) e62 (nx) (cp) (0) (ct) (nx) f63 f65 hxl hvl (by omega) (by omega) (by omega) hfit N59 g_v1 (g := (mkF m 22 #[.val (.ref x1), .val (.ref v1), .val (.int (Int32.ofNat ct)), .val (.int (0 : Int32))] [(.int (Int32.ofNat nx)), (.int (Int32.ofNat ct)), (.ref v1), (.int (0 : Int32)), (.ref t1)])) rfl (by rw [hml]; rfl) rfl (hb hby d21_22) (by decide) (W := 0) (by show 2 * 0 + _ ≤ _; exact Nat.le_of_eq rfl) (by decide)
  have K66 := K59.trans KC66 (allS (Or.inl mem_v1) all0)
  have pre67 : ∀ t, Steps p.tables e below (T66.setTop (mkF m 43 #[.val (.ref x1), .val (.ref v1), .val (.int (Int32.ofNat ct)), .val (.int (0 : Int32))] [])) t → Steps p.tables e below (s₁.setTop (mkF m 0 #[.val (.ref x1), .val (.ref v1), .val (.int (Int32.ofNat ct)), .val (.int (0 : Int32))] [])) t := by
    intro t kt
    show Steps p.tables e below (s₁.setTop (mkF m 0 #[.val (.ref x1), .val (.ref v1), .val (.int (Int32.ofNat ct)), .val (.int (0 : Int32))] [])) _
    refine XS.aloadN X0.here hx rfl (hb hby d21_0) rfl rfl ?_
    refine st59.trans ?_
    show Steps p.tables e below (T59.setTop (mkF m 4 #[.val (.ref x1), .val (.ref v1), .val (.int (Int32.ofNat ct)), .val (.int (0 : Int32))] [(.int (0 : Int32))])) _
    refine XS.iloadN X59.here hx rfl (hb hby d21_4) rfl ?_
    refine XS.icmpNo X59.here hx rfl (hb hby d21_5) rfl (teq (rfl : (0 : Int32) = (0 : Int32))).2 ?_
    show Steps p.tables e below (T59.setTop (mkF m 8 #[.val (.ref x1), .val (.ref v1), .val (.int (Int32.ofNat ct)), .val (.int (0 : Int32))] [])) _
    refine XS.aloadN X59.here hx rfl (hb hby d21_8) rfl rfl ?_
    refine st61 _ ?_
    show Steps p.tables e below (T61.setTop (mkF m 12 #[.val (.ref x1), .val (.ref v1), .val (.int (Int32.ofNat ct)), .val (.int (0 : Int32))] [(.ref t1)])) _
    refine XS.iconst X61.here hx rfl (hb hby d21_12) ?_
    refine XS.aloadN X61.here hx rfl (hb hby d21_13) rfl rfl ?_
    refine XS.iloadN X61.here hx rfl (hb hby d21_14) rfl ?_
    refine XS.iloadN X61.here hx rfl (hb hby d21_15) rfl ?_
    refine XS.ishl X61.here hx rfl (hb hby d21_16) rfl ?_
    show Steps p.tables e below (T61.setTop (mkF m 17 #[.val (.ref x1), .val (.ref v1), .val (.int (Int32.ofNat ct)), .val (.int (0 : Int32))] [(.int ((Int32.ofNat ct) <<< ((0 : Int32) &&& 31))), (.ref v1), (.int (0 : Int32)), (.ref t1)])) _
    rw [own_shl0]
    show Steps p.tables e below (T61.setTop (mkF m 17 #[.val (.ref x1), .val (.ref v1), .val (.int (Int32.ofNat ct)), .val (.int (0 : Int32))] [(.int (Int32.ofNat ct)), (.ref v1), (.int (0 : Int32)), (.ref t1)])) _
    refine XS.aloadN X61.here hx rfl (hb hby d21_17) rfl rfl ?_
    refine st62 _ ?_
    refine X62.arraylength hx (by rw [e62]; exact Ar64.1) (State.isArrayOf_alike hZ.alike Ar64.2.1) (g := (mkF m 21 #[.val (.ref x1), .val (.ref v1), .val (.int (Int32.ofNat ct)), .val (.int (0 : Int32))] [(.ref t1), (.int (Int32.ofNat ct)), (.ref v1), (.int (0 : Int32)), (.ref t1)])) rfl rfl (hb hby d21_21) _ ?_
    rw [len_of S64 M64]
    show Steps p.tables e below (T62.setTop (mkF m 22 #[.val (.ref x1), .val (.ref v1), .val (.int (Int32.ofNat ct)), .val (.int (0 : Int32))] [(.int (Int32.ofNat nx)), (.int (Int32.ofNat ct)), (.ref v1), (.int (0 : Int32)), (.ref t1)])) _
    refine st66 _ ?_
    show Steps p.tables e below (T66.setTop (mkF m 25 #[.val (.ref x1), .val (.ref v1), .val (.int (Int32.ofNat ct)), .val (.int (0 : Int32))] [])) _
    refine XS.goto X66.here hx rfl (pc0 := 25) (pc' := 43) rfl (hb hby d21_25) (by decide) (by decide) ?_
    exact kt
  obtain ⟨fs, hr, hrun, hended, hW, hsame⟩ := X66.leave (v := none) (fun _ => rfl)
  refine ⟨_, _, (pre0 _ (pre67 _ ?_)), hrun, hended, _, _, rfl, ?_, ⟨_, rfl⟩, hW, hsame.mono (by decide) (by decide)⟩
  · show Steps p.tables e below (T66.setTop (mkF m 43 #[.val (.ref x1), .val (.ref v1), .val (.int (Int32.ofNat ct)), .val (.int (0 : Int32))] [])) _
    exact X66.returnOut hx Bd.returns (hb hby d21_43) hr
  · show QGetB Z x1 t1 kx nx xs v1 k1 cp ct vs zc h0 n0 _ T66.heap _
    rw [e66]
    exact ⟨rfl, N66, K66, by have q := V66; rw [own_all hxl] at q; exact q⟩
theorem ef_PutS (m : MethodId) (x0 : Addr) (x1 : Int32) (x2 : Addr) : entryFrame m #[(.ref x0), (.int x1), (.ref x2)] 3 = mkF m 0 #[.val (.ref x0), .val (.int x1), .val (.ref x2)] [] := by (first | (simp [entryFrame, mkF, argsToLocals, Value.category]; done) | rfl)
def QPutS (Z : State) (b1 : Addr) (v1 : Addr) (k1 : ClassId) (cp : Nat) (ct : Nat) (vs : List Value) (x1 : Addr) (t1 : Addr) (kx : ClassId) (nx : Nat) (xs : List Value) (zc : Int32) (h0 : Heap) (n0 : Nat) (v : Option Value) (h : Heap) (L : List Loc) : Prop := v = none ∧ Fr n0 L ∧ Keep h0 h [v1] ∧ Arv Z h v1 k1 .byte (Int32.ofNat cp) (vs.take ct ++ xs ++ vs.drop (ct + nx)) (.int (0 : Int32))
theorem d19_0 : decode jdk_68_method_73_code 0 = .ok (.aload_n 0, 1) := by decide +kernel
theorem d19_1 : decode jdk_68_method_73_code 1 = .ok (.aload_n 2, 1) := by decide +kernel
theorem d19_2 : decode jdk_68_method_73_code 2 = .ok (.invokevirtual 397, 3) := by decide +kernel
theorem pd__Ljava_lang_String__V : parseMethodDescriptor "(Ljava/lang/String;)V" = some ⟨[(.object "java/lang/String")], none⟩ := by decide +kernel
theorem d19_5 : decode jdk_68_method_73_code 5 = .ok (.aload_n 2, 1) := by decide +kernel
theorem d19_6 : decode jdk_68_method_73_code 6 = .ok (.aload_n 0, 1) := by decide +kernel
theorem d19_7 : decode jdk_68_method_73_code 7 = .ok (.getfield 15, 3) := by decide +kernel
theorem d19_10 : decode jdk_68_method_73_code 10 = .ok (.iload_n 1, 1) := by decide +kernel
theorem d19_11 : decode jdk_68_method_73_code 11 = .ok (.aload_n 0, 1) := by decide +kernel
theorem d19_12 : decode jdk_68_method_73_code 12 = .ok (.getfield 22, 3) := by decide +kernel
theorem d19_15 : decode jdk_68_method_73_code 15 = .ok (.invokevirtual 399, 3) := by decide +kernel
theorem pd___BIB_V : parseMethodDescriptor "([BIB)V" = some ⟨[(.array .byte), .int, .byte], none⟩ := by decide +kernel
theorem d19_18 : decode jdk_68_method_73_code 18 = .ok (.return_, 1) := by decide +kernel
set_option maxRecDepth 65536 in
set_option maxHeartbeats 40000000 in
theorem rmPutS (l : Launch) (Z : State) (a0 : Array Value) (hw : ∀ d ∈ tables_1, d.before a0 Z = true) (ws : List Jvm.Cond) (b1 : Addr) (v1 : Addr) (k1 : ClassId) (cp : Nat) (ct : Nat) (vs : List Value) (x1 : Addr) (t1 : Addr) (kx : ClassId) (nx : Nat) (xs : List Value) (zc : Int32) (h0 : Heap) (n0 : Nat) (Z0 : n0 ≤ h0.size) (BE : Exa Z h0 b1 "java/lang/StringBuilder") (BV : Fld Z h0 b1 "java/lang/AbstractStringBuilder" "value" "[B" (.ref v1)) (BC : Fld Z h0 b1 "java/lang/AbstractStringBuilder" "coder" "B" (.int (0 : Int32))) (BN : Fld Z h0 b1 "java/lang/AbstractStringBuilder" "count" "I" (.int (Int32.ofNat ct))) (BA : Arv Z h0 v1 k1 .byte (Int32.ofNat cp) vs (.int (0 : Int32))) (BX : Exa Z h0 v1 "[B") (hvl : vs.length = cp) (hcp : cp ≤ 1000) (g_b1 : n0 ≤ b1) (g_v1 : n0 ≤ v1) (XE : Exa Z h0 x1 "java/lang/String") (XV : Fld Z h0 x1 "java/lang/String" "value" "[B" (.ref t1)) (XC : Fld Z h0 x1 "java/lang/String" "coder" "B" (.int (0 : Int32))) (XA : Arv Z h0 t1 kx .byte (Int32.ofNat nx) xs (.int (0 : Int32))) (hxl : xs.length = nx) (hnx : nx ≤ 1000) (hfit : ct + nx ≤ cp) (OZ : Old Z n0 h0) (SC : Sta Z Z.heap "java/lang/String" "COMPACT_STRINGS" "Z" (.int zc)) (hzc : ¬ zc = (0 : Int32)) :
    MetFree l (⟨"java/lang/AbstractStringBuilder", "putStringAt", "(ILjava/lang/String;)V"⟩ : MethodName) (head1 (Jvm.Cond.code (⟨"java/lang/AbstractStringBuilder", "putStringAt", "(ILjava/lang/String;)V"⟩ : MethodName) jdk_68_method_73_code 3 none :: ws) ({ frames := 2, cells := 0, slots := 0, locals := 64 } : Room)) (fun a U => a = #[(.ref b1), (.int (Int32.ofNat ct)), (.ref x1)] ∧ Z.Warmed39 U.vm ∧ U.heap = h0) (fun _ _ _ _ _ => True) (fun _ U o U' => ∃ v L, o = .returned v ∧ QPutS Z b1 v1 k1 cp ct vs x1 t1 kx nx xs zc h0 n0 v U'.heap L ∧ FrameEnd U o U' L ({ frames := 2, cells := 0, slots := 0, locals := 64 } : Room).cells ({ frames := 2, cells := 0, slots := 0, locals := 64 } : Room).slots) := by
  refine MetFree.of_bodySF (plainFor_of_name pn_java_lang_AbstractStringBuilder) hisR ?_
  intro p e s m args below meth c s₁ Bd hml0 hP hK
  obtain ⟨rfl, hZ, hh⟩ := hP
  have hx := Bd.exec
  have hby := Bd.bytes
  have hml : c.maxLocals = 3 := hml0
  have hown : s.vm.findClass "java/lang/AbstractStringBuilder" = some m.cls := findClass_of_methodNamed Bd.named
  have hnm := (name_of_methodNamed Bd.named Bd.method).1
  have X0 : Stand p l e ({ frames := 2, cells := 0, slots := 0, locals := 64 } : Room) s m #[(.ref b1), (.int (Int32.ofNat ct)), (.ref x1)] below meth c s₁ [] 0 0 := Stand.of_body Bd
  have e0 : s₁.heap = h0 := by rw [← hh, Bd.state]; rfl
  have N0 := Fr.nil n0
  have pre0 : ∀ t, Steps p.tables e below (s₁.setTop (mkF m 0 #[.val (.ref b1), .val (.int (Int32.ofNat ct)), .val (.ref x1)] [])) t → Steps p.tables e below (s₁.setTop (entryFrame m #[(.ref b1), (.int (Int32.ofNat ct)), (.ref x1)] 3)) t := fun t k => castTop (ef_PutS m b1 (Int32.ofNat ct) x1) k
  have mem_v1 : v1 ∈ [v1] := List.mem_of_getElem? (i := 0) rfl
  obtain ⟨cq68, q68, q68'⟩ := BE.cell
  obtain ⟨_, _, ⟨T68, L68, k68, n68⟩, -, X68, ⟨Lc68, hQ68, l68, y68, z68⟩, st68⟩ := X0.privateBack hx (y := (⟨"java/lang/AbstractStringBuilder", "inflateIfNeededFor", "(Ljava/lang/String;)V"⟩ : MethodName)) hown (mvT hZ (tw hw 115 rfl)) (mvT hZ (tw hw 116 rfl)) (own_selP (mvT hZ (tw hw 118 rfl)) (Cond.privateMethod_at (mvP hZ (tw hw 117 rfl) (args := #[]))) (mvT hZ (tw hw 116 rfl)) (by decide)) (Cond.privateMethod_at (mvP hZ (tw hw 117 rfl) (args := #[]))) (mvT hZ (tw hw 119 rfl)) (by decide) (backOf (W := 0) (rmInf l Z a0 hw [] b1 v1 k1 cp ct vs x1 t1 kx nx xs zc h0 n0 Z0 BE BV BC BN BA BX hvl hcp g_b1 g_v1 XE XV XC XA hxl hnx OZ SC hzc) hZ (tw hw 119 rfl) (tw hw 46 rfl) (by decide) (by decide)) (g := (mkF m 2 #[.val (.ref b1), .val (.int (Int32.ofNat ct)), .val (.ref x1)] [(.ref x1), (.ref b1)])) rfl (by rw [hml]; rfl) (Steps.refl _) (a := b1) (by rw [e0]; exact q68) q68' (argsL := [(.ref x1)]) (rest := []) (lenOf pd__Ljava_lang_String__V rfl) rfl (by show 2 * 0 + _ ≤ _; exact Nat.le_of_eq rfl) (hb hby d19_2) (fun _ _ => ⟨rfl, e0, (by decide : 0 + 0 ≤ _), (by decide : 0 + 0 ≤ _)⟩)
  dsimp only [Pt.U, Pt.locs, Pt.cells, Pt.slots] at X68 l68 y68 z68 st68 hQ68
  subst l68 y68 z68
  obtain ⟨rfl, N68q, EQ68⟩ := hQ68
  have N68 := Fr.app N0 N68q
  have Z68 : n0 ≤ T68.heap.size := by rw [EQ68]; exact Z0
  have K68 := own_keq EQ68 (Keep.refl h0 [v1])
  have f69 := (EQ68 ▸ BV)
  obtain ⟨T70, X70, e70, st70⟩ := getF X68 hx hZ hown (host := "") (Or.inl (tw hw 50 rfl)) Via.refl rfl f69 (g := (mkF m 7 #[.val (.ref b1), .val (.int (Int32.ofNat ct)), .val (.ref x1)] [(.ref b1), (.ref x1)])) rfl rfl (hb hby d19_7)
  have f71 := (EQ68 ▸ BC)
  obtain ⟨T72, X72, e72, st72⟩ := getF X70 hx hZ hown (host := "") (Or.inl (tw hw 52 rfl)) Via.refl e70 f71 (g := (mkF m 12 #[.val (.ref b1), .val (.int (Int32.ofNat ct)), .val (.ref x1)] [(.ref b1), (.int (Int32.ofNat ct)), (.ref v1), (.ref x1)])) rfl rfl (hb hby d19_12)
  have f73 := (EQ68 ▸ XE)
  have f74 := (EQ68 ▸ XV)
  have f75 := (EQ68 ▸ XC)
  have f76 := (EQ68 ▸ XA)
  have f77 := (EQ68 ▸ BA)
  have f78 := (EQ68 ▸ OZ)
  obtain ⟨cq79, kq79, q79a, q79b, q79c⟩ := isOf hZ e72 f73
  obtain ⟨_, _, ⟨T79, L79, k79, n79⟩, -, X79, ⟨Lc79, hQ79, l79, y79, z79⟩, st79⟩ := X72.virtualBack hx (y := (⟨"java/lang/String", "getBytes", "([BIB)V"⟩ : MethodName)) (z := (⟨"java/lang/String", "getBytes", "([BIB)V"⟩ : MethodName)) hown (mvT hZ (tw hw 121 rfl)) (mvT hZ (tw hw 122 rfl)) (notFace_of_selects (args := #[]) (mvT hZ (tw hw 124 rfl))) (mvT hZ (tw hw 124 rfl)) (mvT hZ (tw hw 123 rfl)) (by decide) (backOf (W := 0) (rmGetB l Z a0 hw [] x1 t1 kx nx xs v1 k1 cp ct vs zc T68.heap n0 Z68 f73 f74 f75 f76 hxl hnx f77 hvl hcp g_v1 hfit f78 SC hzc) hZ (tw hw 125 rfl) (tw hw 1 rfl) (by decide) (by decide)) q79a q79c (g := (mkF m 15 #[.val (.ref b1), .val (.int (Int32.ofNat ct)), .val (.ref x1)] [(.int (0 : Int32)), (.int (Int32.ofNat ct)), (.ref v1), (.ref x1)])) rfl (by rw [hml]; rfl) (Steps.refl _) (argsL := [(.ref v1), (.int (Int32.ofNat ct)), (.int (0 : Int32))]) (rest := []) (lenOf pd___BIB_V rfl) rfl (by show 2 * 0 + _ ≤ _; exact Nat.le_of_eq rfl) (hb hby d19_15) (fun _ _ => ⟨rfl, e72, (by decide : 0 + 0 ≤ _), (by decide : 0 + 0 ≤ _)⟩)
  dsimp only [Pt.U, Pt.locs, Pt.cells, Pt.slots] at X79 l79 y79 z79 st79 hQ79
  subst l79 y79 z79
  obtain ⟨rfl, N79q, KC79, V2⟩ := hQ79
  have N79 := Fr.app N68 N79q
  have K79 := K68.trans KC79 (allS (Or.inl mem_v1) all0)
  have pre80 : ∀ t, Steps p.tables e below (T79.setTop (mkF m 18 #[.val (.ref b1), .val (.int (Int32.ofNat ct)), .val (.ref x1)] [])) t → Steps p.tables e below (s₁.setTop (mkF m 0 #[.val (.ref b1), .val (.int (Int32.ofNat ct)), .val (.ref x1)] [])) t := by
    intro t kt
    show Steps p.tables e below (s₁.setTop (mkF m 0 #[.val (.ref b1), .val (.int (Int32.ofNat ct)), .val (.ref x1)] [])) _
    refine XS.aloadN X0.here hx rfl (hb hby d19_0) rfl rfl ?_
    refine XS.aloadN X0.here hx rfl (hb hby d19_1) rfl rfl ?_
    refine st68.trans ?_
    show Steps p.tables e below (T68.setTop (mkF m 5 #[.val (.ref b1), .val (.int (Int32.ofNat ct)), .val (.ref x1)] [])) _
    refine XS.aloadN X68.here hx rfl (hb hby d19_5) rfl rfl ?_
    refine XS.aloadN X68.here hx rfl (hb hby d19_6) rfl rfl ?_
    refine st70 _ ?_
    show Steps p.tables e below (T70.setTop (mkF m 10 #[.val (.ref b1), .val (.int (Int32.ofNat ct)), .val (.ref x1)] [(.ref v1), (.ref x1)])) _
    refine XS.iloadN X70.here hx rfl (hb hby d19_10) rfl ?_
    refine XS.aloadN X70.here hx rfl (hb hby d19_11) rfl rfl ?_
    refine st72 _ ?_
    refine st79.trans ?_
    exact kt
  obtain ⟨fs, hr, hrun, hended, hW, hsame⟩ := X79.leave (v := none) (fun _ => rfl)
  refine ⟨_, _, (pre0 _ (pre80 _ ?_)), hrun, hended, _, _, rfl, ?_, ⟨_, rfl⟩, hW, hsame.mono (by decide) (by decide)⟩
  · show Steps p.tables e below (T79.setTop (mkF m 18 #[.val (.ref b1), .val (.int (Int32.ofNat ct)), .val (.ref x1)] [])) _
    exact X79.returnOut hx Bd.returns (hb hby d19_18) hr
  · show QPutS Z b1 v1 k1 cp ct vs x1 t1 kx nx xs zc h0 n0 _ T79.heap _
    exact ⟨rfl, N79, K79, V2⟩
theorem ef_AApS (m : MethodId) (x0 : Addr) (x1 : Addr) : entryFrame m #[(.ref x0), (.ref x1)] 3 = mkF m 0 #[.val (.ref x0), .val (.ref x1), .unset] [] := by (first | (simp [entryFrame, mkF, argsToLocals, Value.category]; done) | rfl)
def QAApS (Z : State) (b1 : Addr) (v1 : Addr) (k1 : ClassId) (cp : Nat) (ct : Nat) (vs : List Value) (x1 : Addr) (t1 : Addr) (kx : ClassId) (nx : Nat) (xs : List Value) (zc : Int32) (h0 : Heap) (n0 : Nat) (v : Option Value) (h : Heap) (L : List Loc) : Prop := v = some (.ref b1) ∧ Fr n0 L ∧ Keep h0 h [b1, v1] ∧ ∃ (v2 : Addr) (k2 : ClassId) (ws2 : List Value), (Exa Z h b1 "java/lang/StringBuilder" ∧ Fld Z h b1 "java/lang/AbstractStringBuilder" "value" "[B" (.ref v2) ∧ Fld Z h b1 "java/lang/AbstractStringBuilder" "coder" "B" (.int (0 : Int32)) ∧ Fld Z h b1 "java/lang/AbstractStringBuilder" "count" "I" (.int (Int32.ofNat (ct + nx))) ∧ Arv Z h v2 k2 .byte (Int32.ofNat (own_gr cp (ct + nx))) ws2 (.int (0 : Int32)) ∧ Exa Z h v2 "[B") ∧ ws2.length = own_gr cp (ct + nx) ∧ ws2.take (ct + nx) = vs.take ct ++ xs ∧ n0 ≤ v2 ∧ (v2 = v1 ∨ h0.size ≤ v2)
theorem d10_0 : decode jdk_68_method_22_code 0 = .ok (.aload_n 1, 1) := by decide +kernel
theorem d10_1 : decode jdk_68_method_22_code 1 = .ok (.ifnonnull 8, 3) := by decide +kernel
theorem d10_9 : decode jdk_68_method_22_code 9 = .ok (.aload_n 1, 1) := by decide +kernel
theorem d10_10 : decode jdk_68_method_22_code 10 = .ok (.invokevirtual 32, 3) := by decide +kernel
theorem pd___I : parseMethodDescriptor "()I" = some ⟨[], some .int⟩ := by decide +kernel
theorem d10_13 : decode jdk_68_method_22_code 13 = .ok (.istore_n 2, 1) := by decide +kernel
theorem d10_14 : decode jdk_68_method_22_code 14 = .ok (.aload_n 0, 1) := by decide +kernel
theorem d10_15 : decode jdk_68_method_22_code 15 = .ok (.aload_n 0, 1) := by decide +kernel
theorem d10_16 : decode jdk_68_method_22_code 16 = .ok (.getfield 79, 3) := by decide +kernel
theorem d10_19 : decode jdk_68_method_22_code 19 = .ok (.iload_n 2, 1) := by decide +kernel
theorem d10_20 : decode jdk_68_method_22_code 20 = .ok (.iadd, 1) := by decide +kernel
theorem d10_21 : decode jdk_68_method_22_code 21 = .ok (.invokevirtual 100, 3) := by decide +kernel
theorem pd__I_V : parseMethodDescriptor "(I)V" = some ⟨[.int], none⟩ := by decide +kernel
theorem d10_24 : decode jdk_68_method_22_code 24 = .ok (.aload_n 0, 1) := by decide +kernel
theorem d10_25 : decode jdk_68_method_22_code 25 = .ok (.aload_n 0, 1) := by decide +kernel
theorem d10_26 : decode jdk_68_method_22_code 26 = .ok (.getfield 79, 3) := by decide +kernel
theorem d10_29 : decode jdk_68_method_22_code 29 = .ok (.aload_n 1, 1) := by decide +kernel
theorem d10_30 : decode jdk_68_method_22_code 30 = .ok (.invokevirtual 208, 3) := by decide +kernel
theorem pd__ILjava_lang_String__V : parseMethodDescriptor "(ILjava/lang/String;)V" = some ⟨[.int, (.object "java/lang/String")], none⟩ := by decide +kernel
theorem d10_33 : decode jdk_68_method_22_code 33 = .ok (.aload_n 0, 1) := by decide +kernel
theorem d10_34 : decode jdk_68_method_22_code 34 = .ok (.dup, 1) := by decide +kernel
theorem d10_35 : decode jdk_68_method_22_code 35 = .ok (.getfield 79, 3) := by decide +kernel
theorem d10_38 : decode jdk_68_method_22_code 38 = .ok (.iload_n 2, 1) := by decide +kernel
theorem d10_39 : decode jdk_68_method_22_code 39 = .ok (.iadd, 1) := by decide +kernel
theorem d10_40 : decode jdk_68_method_22_code 40 = .ok (.putfield 79, 3) := by decide +kernel
theorem d10_43 : decode jdk_68_method_22_code 43 = .ok (.aload_n 0, 1) := by decide +kernel
theorem d10_44 : decode jdk_68_method_22_code 44 = .ok (.areturn, 1) := by decide +kernel
set_option maxRecDepth 65536 in
set_option maxHeartbeats 40000000 in
theorem rmAApS (l : Launch) (Z : State) (a0 : Array Value) (hw : ∀ d ∈ tables_1, d.before a0 Z = true) (ws : List Jvm.Cond) (b1 : Addr) (v1 : Addr) (k1 : ClassId) (cp : Nat) (ct : Nat) (vs : List Value) (x1 : Addr) (t1 : Addr) (kx : ClassId) (nx : Nat) (xs : List Value) (zc : Int32) (h0 : Heap) (n0 : Nat) (Z0 : n0 ≤ h0.size) (BE : Exa Z h0 b1 "java/lang/StringBuilder") (BV : Fld Z h0 b1 "java/lang/AbstractStringBuilder" "value" "[B" (.ref v1)) (BC : Fld Z h0 b1 "java/lang/AbstractStringBuilder" "coder" "B" (.int (0 : Int32))) (BN : Fld Z h0 b1 "java/lang/AbstractStringBuilder" "count" "I" (.int (Int32.ofNat ct))) (BA : Arv Z h0 v1 k1 .byte (Int32.ofNat cp) vs (.int (0 : Int32))) (BX : Exa Z h0 v1 "[B") (hvl : vs.length = cp) (hcp : cp ≤ 1000) (g_b1 : n0 ≤ b1) (g_v1 : n0 ≤ v1) (XE : Exa Z h0 x1 "java/lang/String") (XV : Fld Z h0 x1 "java/lang/String" "value" "[B" (.ref t1)) (XC : Fld Z h0 x1 "java/lang/String" "coder" "B" (.int (0 : Int32))) (XA : Arv Z h0 t1 kx .byte (Int32.ofNat nx) xs (.int (0 : Int32))) (hxl : xs.length = nx) (hnx : nx ≤ 1000) (ntv : t1 ≠ v1) (hct : ct ≤ cp) (hgM : ct + nx ≤ cp ∨ max (ct + nx) (2 * cp + 2) ≤ 160) (hnM : ct + nx ≤ 1000) (OZ : Old Z n0 h0) (SC : Sta Z Z.heap "java/lang/String" "COMPACT_STRINGS" "Z" (.int zc)) (hzc : ¬ zc = (0 : Int32)) :
    MetFree l (⟨"java/lang/AbstractStringBuilder", "append", "(Ljava/lang/String;)Ljava/lang/AbstractStringBuilder;"⟩ : MethodName) (head1 (Jvm.Cond.code (⟨"java/lang/AbstractStringBuilder", "append", "(Ljava/lang/String;)Ljava/lang/AbstractStringBuilder;"⟩ : MethodName) jdk_68_method_22_code 3 (some (.object "java/lang/AbstractStringBuilder")) :: ws) ({ frames := 4, cells := 1, slots := 160, locals := 110 } : Room)) (fun a U => a = #[(.ref b1), (.ref x1)] ∧ Z.Warmed39 U.vm ∧ U.heap = h0) (fun _ _ _ _ _ => True) (fun _ U o U' => ∃ v L, o = .returned v ∧ QAApS Z b1 v1 k1 cp ct vs x1 t1 kx nx xs zc h0 n0 v U'.heap L ∧ FrameEnd U o U' L ({ frames := 4, cells := 1, slots := 160, locals := 110 } : Room).cells ({ frames := 4, cells := 1, slots := 160, locals := 110 } : Room).slots) := by
  refine MetFree.of_bodySF (plainFor_of_name pn_java_lang_AbstractStringBuilder) hisR ?_
  intro p e s m args below meth c s₁ Bd hml0 hP hK
  obtain ⟨rfl, hZ, hh⟩ := hP
  have hx := Bd.exec
  have hby := Bd.bytes
  have hml : c.maxLocals = 3 := hml0
  have hown : s.vm.findClass "java/lang/AbstractStringBuilder" = some m.cls := findClass_of_methodNamed Bd.named
  have hnm := (name_of_methodNamed Bd.named Bd.method).1
  have X0 : Stand p l e ({ frames := 4, cells := 1, slots := 160, locals := 110 } : Room) s m #[(.ref b1), (.ref x1)] below meth c s₁ [] 0 0 := Stand.of_body Bd
  have e0 : s₁.heap = h0 := by rw [← hh, Bd.state]; rfl
  have N0 := Fr.nil n0
  have pre0 : ∀ t, Steps p.tables e below (s₁.setTop (mkF m 0 #[.val (.ref b1), .val (.ref x1), .unset] [])) t → Steps p.tables e below (s₁.setTop (entryFrame m #[(.ref b1), (.ref x1)] 3)) t := fun t k => castTop (ef_AApS m b1 x1) k
  have ne_x1_b1 : x1 ≠ b1 := XE.ne BE (by decide)
  have ne_b1_t1 : b1 ≠ t1 := BE.neArv XA (tw hw 37 rfl)
  have mem_b1 : b1 ∈ [b1, v1] := List.mem_of_getElem? (i := 0) rfl
  have mem_v1 : v1 ∈ [b1, v1] := List.mem_of_getElem? (i := 1) rfl
  obtain ⟨cq81, kq81, q81a, q81b, q81c⟩ := isOf hZ e0 XE
  obtain ⟨_, _, ⟨T81, L81, k81, n81⟩, -, X81, ⟨Lc81, hQ81, l81, y81, z81⟩, st81⟩ := X0.virtualBack hx (y := (⟨"java/lang/String", "length", "()I"⟩ : MethodName)) (z := (⟨"java/lang/String", "length", "()I"⟩ : MethodName)) hown (mvT hZ (tw hw 67 rfl)) (mvT hZ (tw hw 68 rfl)) (notFace_of_selects (args := #[]) (mvT hZ (tw hw 70 rfl))) (mvT hZ (tw hw 70 rfl)) (mvT hZ (tw hw 69 rfl)) (by decide) (backOf (W := 0) (rmLen l Z a0 hw [] x1 t1 kx (Int32.ofNat nx) xs zc h0 n0 Z0 (SC.ext OZ.2) hzc XC XV XE XA) hZ (tw hw 71 rfl) (tw hw 1 rfl) (by decide) (by decide)) q81a q81c (g := (mkF m 10 #[.val (.ref b1), .val (.ref x1), .unset] [(.ref x1)])) rfl (by rw [hml]; rfl) (Steps.refl _) (argsL := []) (rest := []) (lenOf pd___I rfl) rfl (by show 2 * 0 + _ ≤ _; exact Nat.le_of_eq rfl) (hb hby d10_10) (fun _ _ => ⟨rfl, e0, (by decide : 0 + 0 ≤ _), (by decide : 0 + 0 ≤ _)⟩)
  dsimp only [Pt.U, Pt.locs, Pt.cells, Pt.slots] at X81 l81 y81 z81 st81 hQ81
  subst l81 y81 z81
  obtain ⟨rfl, N81q, EQ81⟩ := hQ81
  have N81 := Fr.app N0 N81q
  have Z81 : n0 ≤ T81.heap.size := by rw [EQ81]; exact Z0
  have K81 := own_keq EQ81 (Keep.refl h0 [b1, v1])
  have f82 := (EQ81 ▸ BN)
  obtain ⟨T83, X83, e83, st83⟩ := getF X81 hx hZ hown (host := "") (Or.inl (tw hw 77 rfl)) Via.refl rfl f82 (g := (mkF m 16 #[.val (.ref b1), .val (.ref x1), .val (.int (Int32.ofNat nx))] [(.ref b1), (.ref b1)])) rfl rfl (hb hby d10_16)
  have f84 := (EQ81 ▸ XA)
  have ltt : t1 < T81.heap.size := f84.lt
  have hsz := K81.1
  have f85 := (EQ81 ▸ BE)
  have f86 := (EQ81 ▸ BV)
  have f87 := (EQ81 ▸ BC)
  have f88 := (EQ81 ▸ BA)
  have f89 := (EQ81 ▸ BX)
  obtain ⟨cq90, q90, q90'⟩ := f85.cell
  obtain ⟨_, _, ⟨T90, L90, k90, n90⟩, -, X90, ⟨Lc90, hQ90, l90, y90, z90⟩, st90⟩ := X83.privateBack hx (y := (⟨"java/lang/AbstractStringBuilder", "ensureCapacityInternal", "(I)V"⟩ : MethodName)) hown (mvT hZ (tw hw 79 rfl)) (mvT hZ (tw hw 80 rfl)) (own_selP (mvT hZ (tw hw 82 rfl)) (Cond.privateMethod_at (mvP hZ (tw hw 81 rfl) (args := #[]))) (mvT hZ (tw hw 80 rfl)) (by decide)) (Cond.privateMethod_at (mvP hZ (tw hw 81 rfl) (args := #[]))) (mvT hZ (tw hw 83 rfl)) (by decide) (backOf (W := 0) (rmEns l Z a0 hw [] b1 v1 k1 cp ct vs (ct + nx) T81.heap n0 Z81 f85 f86 f87 f82 f88 f89 hvl hcp g_b1 g_v1 (by omega) hgM) hZ (tw hw 83 rfl) (tw hw 46 rfl) (by decide) (by decide)) (g := (mkF m 21 #[.val (.ref b1), .val (.ref x1), .val (.int (Int32.ofNat nx))] [(.int (Int32.ofNat (ct + nx))), (.ref b1)])) rfl (by rw [hml]; rfl) (Steps.refl _) (a := b1) (by rw [e83]; exact q90) q90' (argsL := [(.int (Int32.ofNat (ct + nx)))]) (rest := []) (lenOf pd__I_V rfl) rfl (by show 2 * 0 + _ ≤ _; exact Nat.le_of_eq rfl) (hb hby d10_21) (fun _ _ => ⟨rfl, e83, (by decide : 0 + 1 ≤ _), (by decide : 0 + 160 ≤ _)⟩)
  dsimp only [Pt.U, Pt.locs, Pt.cells, Pt.slots] at X90 l90 y90 z90 st90 hQ90
  subst l90 y90 z90
  obtain ⟨rfl, N90q, KC90, v2, k2, wa, ⟨E2, V2, C2, N2, A2, X2⟩, l2, tk2, g_v2, hv2⟩ := hQ90
  have N90 := Fr.app N81 N90q
  have Z90 := Nat.le_trans Z81 KC90.1
  have K90 := K81.trans KC90 (allS (Or.inl mem_b1) all0)
  have ne_b1_v2 : b1 ≠ v2 := E2.neArv A2 (tw hw 37 rfl)
  have hgl := @own_grle cp (ct + nx)
  have hgm : own_gr cp (ct + nx) ≤ 1000 := own_grM hcp (by decide) hgM
  have f91 := ((EQ81 ▸ XE).keep KC90)
  obtain ⟨T92, X92, e92, st92⟩ := getF X90 hx hZ hown (host := "") (Or.inl (tw hw 77 rfl)) Via.refl rfl N2 (g := (mkF m 26 #[.val (.ref b1), .val (.ref x1), .val (.int (Int32.ofNat nx))] [(.ref b1), (.ref b1)])) rfl rfl (hb hby d10_26)
  have f93 := ((EQ81 ▸ XV).keep KC90 (ninS ne_x1_b1 nin0))
  have f94 := ((EQ81 ▸ XC).keep KC90 (ninS ne_x1_b1 nin0))
  have f95 := (f84.keep KC90 (ninS (Ne.symm ne_b1_t1) nin0))
  have f96 := ((EQ81 ▸ OZ).keep KC90 (allS g_b1 all0))
  obtain ⟨cq97, q97, q97'⟩ := E2.cell
  obtain ⟨_, _, ⟨T97, L97, k97, n97⟩, -, X97, ⟨Lc97, hQ97, l97, y97, z97⟩, st97⟩ := X92.privateBack hx (y := (⟨"java/lang/AbstractStringBuilder", "putStringAt", "(ILjava/lang/String;)V"⟩ : MethodName)) hown (mvT hZ (tw hw 110 rfl)) (mvT hZ (tw hw 111 rfl)) (own_selP (mvT hZ (tw hw 113 rfl)) (Cond.privateMethod_at (mvP hZ (tw hw 112 rfl) (args := #[]))) (mvT hZ (tw hw 111 rfl)) (by decide)) (Cond.privateMethod_at (mvP hZ (tw hw 112 rfl) (args := #[]))) (mvT hZ (tw hw 114 rfl)) (by decide) (backOf (W := 0) (rmPutS l Z a0 hw [] b1 v2 k2 (own_gr cp (ct + nx)) ct wa x1 t1 kx nx xs zc T90.heap n0 Z90 E2 V2 C2 N2 A2 X2 l2 hgm g_b1 g_v2 f91 f93 f94 f95 hxl hnx (by omega) f96 SC hzc) hZ (tw hw 114 rfl) (tw hw 46 rfl) (by decide) (by decide)) (g := (mkF m 30 #[.val (.ref b1), .val (.ref x1), .val (.int (Int32.ofNat nx))] [(.ref x1), (.int (Int32.ofNat ct)), (.ref b1)])) rfl (by rw [hml]; rfl) (Steps.refl _) (a := b1) (by rw [e92]; exact q97) q97' (argsL := [(.int (Int32.ofNat ct)), (.ref x1)]) (rest := []) (lenOf pd__ILjava_lang_String__V rfl) rfl (by show 2 * 0 + _ ≤ _; exact Nat.le_of_eq rfl) (hb hby d10_30) (fun _ _ => ⟨rfl, e92, (by decide : 1 + 0 ≤ _), (by decide : 160 + 0 ≤ _)⟩)
  dsimp only [Pt.U, Pt.locs, Pt.cells, Pt.slots] at X97 l97 y97 z97 st97 hQ97
  subst l97 y97 z97
  obtain ⟨rfl, N97q, KC97, A3⟩ := hQ97
  have N97 := Fr.app N90 N97q
  have K97 := K90.trans KC97 (allS (hv2.imp (fun q => by rw [q]; exact mem_v1) (fun q => Nat.le_trans hsz q)) all0)
  have f98 := (N2.keep KC97 (ninS ne_b1_v2 nin0))
  obtain ⟨T99, X99, e99, st99⟩ := getF X97 hx hZ hown (host := "") (Or.inl (tw hw 77 rfl)) Via.refl rfl f98 (g := (mkF m 35 #[.val (.ref b1), .val (.ref x1), .val (.int (Int32.ofNat nx))] [(.ref b1), (.ref b1)])) rfl rfl (hb hby d10_35)
  have f100 := (E2.keep KC97)
  obtain ⟨T101, h101, X101, e101, W101, st101⟩ := putF X99 hx hZ hown (host := "") (Or.inl (tw hw 77 rfl)) Via.refl e99 f98 f100 (Or.inl (tw hw 78 rfl)) (tw hw 37 rfl) (ty := .int) (by decide) rfl rfl (g := (mkF m 40 #[.val (.ref b1), .val (.ref x1), .val (.int (Int32.ofNat nx))] [(.int (Int32.ofNat (ct + nx))), (.ref b1)])) rfl rfl (hb hby d10_40)
  have N101 := Fr.snoc X101 N97 g_b1
  have K101 := K97.wr W101 (Or.inl mem_b1)
  have Fw101 := f98.same W101
  have ap := own_app (xs := xs) (nx := nx) tk2 hct hxl (by omega)
  have f102 := (f100.wr W101)
  have f103 := ((V2.keep KC97 (ninS ne_b1_v2 nin0)).other W101 (Or.inr (slot_ne (Or.inl (tw hw 51 rfl)) (Or.inl (tw hw 78 rfl)) (by decide) (t := (.array .byte)) (t' := .int) (by decide) (by decide))))
  have f104 := ((C2.keep KC97 (ninS ne_b1_v2 nin0)).other W101 (Or.inr (slot_ne (Or.inl (tw hw 53 rfl)) (Or.inl (tw hw 78 rfl)) (by decide) (t := .byte) (t' := .int) (by decide) (by decide))))
  have f105 := (A3.other W101 (Ne.symm ne_b1_v2))
  have f106 := ((X2.keep KC97).wr W101)
  have pre107 : ∀ t, Steps p.tables e below (T101.setTop (mkF m 44 #[.val (.ref b1), .val (.ref x1), .val (.int (Int32.ofNat nx))] [(.ref b1)])) t → Steps p.tables e below (s₁.setTop (mkF m 0 #[.val (.ref b1), .val (.ref x1), .unset] [])) t := by
    intro t kt
    show Steps p.tables e below (s₁.setTop (mkF m 0 #[.val (.ref b1), .val (.ref x1), .unset] [])) _
    refine XS.aloadN X0.here hx rfl (hb hby d10_0) rfl rfl ?_
    refine XS.ifnonnullYes X0.here hx rfl (pc0 := 1) (pc' := 9) rfl (hb hby d10_1) rfl (by decide) (by decide) ?_
    show Steps p.tables e below (s₁.setTop (mkF m 9 #[.val (.ref b1), .val (.ref x1), .unset] [])) _
    refine XS.aloadN X0.here hx rfl (hb hby d10_9) rfl rfl ?_
    refine st81.trans ?_
    show Steps p.tables e below (T81.setTop (mkF m 13 #[.val (.ref b1), .val (.ref x1), .unset] [(.int (Int32.ofNat nx))])) _
    refine XS.istoreN X81.here hx rfl (hb hby d10_13) rfl (l' := #[.val (.ref b1), .val (.ref x1), .val (.int (Int32.ofNat nx))]) rfl ?_
    refine XS.aloadN X81.here hx rfl (hb hby d10_14) rfl rfl ?_
    refine XS.aloadN X81.here hx rfl (hb hby d10_15) rfl rfl ?_
    refine st83 _ ?_
    show Steps p.tables e below (T83.setTop (mkF m 19 #[.val (.ref b1), .val (.ref x1), .val (.int (Int32.ofNat nx))] [(.int (Int32.ofNat ct)), (.ref b1)])) _
    refine XS.iloadN X83.here hx rfl (hb hby d10_19) rfl ?_
    refine XS.iadd X83.here hx rfl (hb hby d10_20) rfl ?_
    show Steps p.tables e below (T83.setTop (mkF m 21 #[.val (.ref b1), .val (.ref x1), .val (.int (Int32.ofNat nx))] [(.int ((Int32.ofNat ct) + (Int32.ofNat nx))), (.ref b1)])) _
    rw [own_add]
    refine st90.trans ?_
    show Steps p.tables e below (T90.setTop (mkF m 24 #[.val (.ref b1), .val (.ref x1), .val (.int (Int32.ofNat nx))] [])) _
    refine XS.aloadN X90.here hx rfl (hb hby d10_24) rfl rfl ?_
    refine XS.aloadN X90.here hx rfl (hb hby d10_25) rfl rfl ?_
    refine st92 _ ?_
    show Steps p.tables e below (T92.setTop (mkF m 29 #[.val (.ref b1), .val (.ref x1), .val (.int (Int32.ofNat nx))] [(.int (Int32.ofNat ct)), (.ref b1)])) _
    refine XS.aloadN X92.here hx rfl (hb hby d10_29) rfl rfl ?_
    refine st97.trans ?_
    show Steps p.tables e below (T97.setTop (mkF m 33 #[.val (.ref b1), .val (.ref x1), .val (.int (Int32.ofNat nx))] [])) _
    refine XS.aloadN X97.here hx rfl (hb hby d10_33) rfl rfl ?_
    refine XS.dup X97.here hx rfl (hb hby d10_34) rfl rfl ?_
    refine st99 _ ?_
    show Steps p.tables e below (T99.setTop (mkF m 38 #[.val (.ref b1), .val (.ref x1), .val (.int (Int32.ofNat nx))] [(.int (Int32.ofNat ct)), (.ref b1)])) _
    refine XS.iloadN X99.here hx rfl (hb hby d10_38) rfl ?_
    refine XS.iadd X99.here hx rfl (hb hby d10_39) rfl ?_
    show Steps p.tables e below (T99.setTop (mkF m 40 #[.val (.ref b1), .val (.ref x1), .val (.int (Int32.ofNat nx))] [(.int ((Int32.ofNat ct) + (Int32.ofNat nx))), (.ref b1)])) _
    rw [own_add]
    refine st101 _ ?_
    show Steps p.tables e below (T101.setTop (mkF m 43 #[.val (.ref b1), .val (.ref x1), .val (.int (Int32.ofNat nx))] [])) _
    refine XS.aloadN X101.here hx rfl (hb hby d10_43) rfl rfl ?_
    exact kt
  obtain ⟨fs, hr, hrun, hended, hW, hsame⟩ := X101.leave (v := some (.ref b1)) (fun h => by rw [Bd.returns] at h; cases h)
  refine ⟨_, _, (pre0 _ (pre107 _ ?_)), hrun, hended, _, _, rfl, ?_, ⟨_, rfl⟩, hW, hsame.mono (by decide) (by decide)⟩
  · show Steps p.tables e below (T101.setTop (mkF m 44 #[.val (.ref b1), .val (.ref x1), .val (.int (Int32.ofNat nx))] [(.ref b1)])) _
    exact retOut X101 hx (t := (.object "java/lang/AbstractStringBuilder")) Bd.returns rfl (Or.inr (Or.inr (Or.inr (Or.inr ⟨rfl, rfl, rfl⟩)))) (hb hby d10_44) hr
  · show QAApS Z b1 v1 k1 cp ct vs x1 t1 kx nx xs zc h0 n0 _ T101.heap _
    rw [e101]
    exact ⟨rfl, N101, K101, v2, k2, _, ⟨f102, f103, f104, Fw101, f105, f106⟩, ap.2.trans l2, ap.1, g_v2, hv2.imp id (fun q => Nat.le_trans hsz q)⟩
theorem ef_SApS (m : MethodId) (x0 : Addr) (x1 : Addr) : entryFrame m #[(.ref x0), (.ref x1)] 2 = mkF m 0 #[.val (.ref x0), .val (.ref x1)] [] := by (first | (simp [entryFrame, mkF, argsToLocals, Value.category]; done) | rfl)
def QSApS (Z : State) (b1 : Addr) (v1 : Addr) (k1 : ClassId) (cp : Nat) (ct : Nat) (vs : List Value) (x1 : Addr) (t1 : Addr) (kx : ClassId) (nx : Nat) (xs : List Value) (zc : Int32) (h0 : Heap) (n0 : Nat) (v : Option Value) (h : Heap) (L : List Loc) : Prop := v = some (.ref b1) ∧ Fr n0 L ∧ Keep h0 h [b1, v1] ∧ ∃ (v2 : Addr) (k2 : ClassId) (ws2 : List Value), (Exa Z h b1 "java/lang/StringBuilder" ∧ Fld Z h b1 "java/lang/AbstractStringBuilder" "value" "[B" (.ref v2) ∧ Fld Z h b1 "java/lang/AbstractStringBuilder" "coder" "B" (.int (0 : Int32)) ∧ Fld Z h b1 "java/lang/AbstractStringBuilder" "count" "I" (.int (Int32.ofNat (ct + nx))) ∧ Arv Z h v2 k2 .byte (Int32.ofNat (own_gr cp (ct + nx))) ws2 (.int (0 : Int32)) ∧ Exa Z h v2 "[B") ∧ ws2.length = own_gr cp (ct + nx) ∧ ws2.take (ct + nx) = vs.take ct ++ xs ∧ n0 ≤ v2 ∧ (v2 = v1 ∨ h0.size ≤ v2)
theorem pn_java_lang_StringBuilder : plainName "java/lang/StringBuilder" = true := by first | (simp [plainName, overriddenIn]; done) | decide +kernel
theorem d9_0 : decode jdk_67_method_7_code 0 = .ok (.aload_n 0, 1) := by decide +kernel
theorem d9_1 : decode jdk_67_method_7_code 1 = .ok (.aload_n 1, 1) := by decide +kernel
theorem d9_2 : decode jdk_67_method_7_code 2 = .ok (.invokespecial 29, 3) := by decide +kernel
theorem pd__Ljava_lang_String__Ljava_lang_AbstractStringBuilder_ : parseMethodDescriptor "(Ljava/lang/String;)Ljava/lang/AbstractStringBuilder;" = some ⟨[(.object "java/lang/String")], some (.object "java/lang/AbstractStringBuilder")⟩ := by decide +kernel
theorem d9_5 : decode jdk_67_method_7_code 5 = .ok (.pop, 1) := by decide +kernel
theorem d9_6 : decode jdk_67_method_7_code 6 = .ok (.aload_n 0, 1) := by decide +kernel
theorem d9_7 : decode jdk_67_method_7_code 7 = .ok (.areturn, 1) := by decide +kernel
set_option maxRecDepth 65536 in
set_option maxHeartbeats 40000000 in
theorem rmSApS (l : Launch) (Z : State) (a0 : Array Value) (hw : ∀ d ∈ tables_1, d.before a0 Z = true) (ws : List Jvm.Cond) (b1 : Addr) (v1 : Addr) (k1 : ClassId) (cp : Nat) (ct : Nat) (vs : List Value) (x1 : Addr) (t1 : Addr) (kx : ClassId) (nx : Nat) (xs : List Value) (zc : Int32) (h0 : Heap) (n0 : Nat) (Z0 : n0 ≤ h0.size) (BE : Exa Z h0 b1 "java/lang/StringBuilder") (BV : Fld Z h0 b1 "java/lang/AbstractStringBuilder" "value" "[B" (.ref v1)) (BC : Fld Z h0 b1 "java/lang/AbstractStringBuilder" "coder" "B" (.int (0 : Int32))) (BN : Fld Z h0 b1 "java/lang/AbstractStringBuilder" "count" "I" (.int (Int32.ofNat ct))) (BA : Arv Z h0 v1 k1 .byte (Int32.ofNat cp) vs (.int (0 : Int32))) (BX : Exa Z h0 v1 "[B") (hvl : vs.length = cp) (hcp : cp ≤ 1000) (g_b1 : n0 ≤ b1) (g_v1 : n0 ≤ v1) (XE : Exa Z h0 x1 "java/lang/String") (XV : Fld Z h0 x1 "java/lang/String" "value" "[B" (.ref t1)) (XC : Fld Z h0 x1 "java/lang/String" "coder" "B" (.int (0 : Int32))) (XA : Arv Z h0 t1 kx .byte (Int32.ofNat nx) xs (.int (0 : Int32))) (hxl : xs.length = nx) (hnx : nx ≤ 1000) (ntv : t1 ≠ v1) (hct : ct ≤ cp) (hgM : ct + nx ≤ cp ∨ max (ct + nx) (2 * cp + 2) ≤ 160) (hnM : ct + nx ≤ 1000) (OZ : Old Z n0 h0) (SC : Sta Z Z.heap "java/lang/String" "COMPACT_STRINGS" "Z" (.int zc)) (hzc : ¬ zc = (0 : Int32)) :
    MetFree l (⟨"java/lang/StringBuilder", "append", "(Ljava/lang/String;)Ljava/lang/StringBuilder;"⟩ : MethodName) (head1 (Jvm.Cond.code (⟨"java/lang/StringBuilder", "append", "(Ljava/lang/String;)Ljava/lang/StringBuilder;"⟩ : MethodName) jdk_67_method_7_code 2 (some (.object "java/lang/StringBuilder")) :: ws) ({ frames := 5, cells := 1, slots := 160, locals := 130 } : Room)) (fun a U => a = #[(.ref b1), (.ref x1)] ∧ Z.Warmed39 U.vm ∧ U.heap = h0) (fun _ _ _ _ _ => True) (fun _ U o U' => ∃ v L, o = .returned v ∧ QSApS Z b1 v1 k1 cp ct vs x1 t1 kx nx xs zc h0 n0 v U'.heap L ∧ FrameEnd U o U' L ({ frames := 5, cells := 1, slots := 160, locals := 130 } : Room).cells ({ frames := 5, cells := 1, slots := 160, locals := 130 } : Room).slots) := by
  refine MetFree.of_bodySF (plainFor_of_name pn_java_lang_StringBuilder) hisR ?_
  intro p e s m args below meth c s₁ Bd hml0 hP hK
  obtain ⟨rfl, hZ, hh⟩ := hP
  have hx := Bd.exec
  have hby := Bd.bytes
  have hml : c.maxLocals = 2 := hml0
  have hown : s.vm.findClass "java/lang/StringBuilder" = some m.cls := findClass_of_methodNamed Bd.named
  have hnm := (name_of_methodNamed Bd.named Bd.method).1
  have X0 : Stand p l e ({ frames := 5, cells := 1, slots := 160, locals := 130 } : Room) s m #[(.ref b1), (.ref x1)] below meth c s₁ [] 0 0 := Stand.of_body Bd
  have e0 : s₁.heap = h0 := by rw [← hh, Bd.state]; rfl
  have N0 := Fr.nil n0
  have pre0 : ∀ t, Steps p.tables e below (s₁.setTop (mkF m 0 #[.val (.ref b1), .val (.ref x1)] [])) t → Steps p.tables e below (s₁.setTop (entryFrame m #[(.ref b1), (.ref x1)] 2)) t := fun t k => castTop (ef_SApS m b1 x1) k
  have mem_b1 : b1 ∈ [b1, v1] := List.mem_of_getElem? (i := 0) rfl
  have mem_v1 : v1 ∈ [b1, v1] := List.mem_of_getElem? (i := 1) rfl
  obtain ⟨_, _, ⟨T108, L108, k108, n108⟩, -, X108, ⟨Lc108, hQ108, l108, y108, z108⟩, st108⟩ := superBack X0 hx hZ (y := (⟨"java/lang/AbstractStringBuilder", "append", "(Ljava/lang/String;)Ljava/lang/AbstractStringBuilder;"⟩ : MethodName)) hown (tw hw 62 rfl) (own_same (y := (⟨"java/lang/AbstractStringBuilder", "append", "(Ljava/lang/String;)Ljava/lang/AbstractStringBuilder;"⟩ : MethodName)) (tw hw 63 rfl) (tw hw 82 rfl) rfl (by decide)) (tw hw 63 rfl) (tw hw 64 rfl) (by decide) (backOf (W := 0) (rmAApS l Z a0 hw [] b1 v1 k1 cp ct vs x1 t1 kx nx xs zc h0 n0 Z0 BE BV BC BN BA BX hvl hcp g_b1 g_v1 XE XV XC XA hxl hnx ntv hct hgM hnM OZ SC hzc) hZ (tw hw 66 rfl) (tw hw 46 rfl) (by decide) (by decide)) e0 (Ins.self BE) (g := (mkF m 2 #[.val (.ref b1), .val (.ref x1)] [(.ref x1), (.ref b1)])) rfl (by rw [hml]; rfl) (tw hw 66 rfl) (argsL := [(.ref x1)]) (rest := []) (lenOf pd__Ljava_lang_String__Ljava_lang_AbstractStringBuilder_ rfl) rfl (by show 2 * 0 + _ ≤ _; exact Nat.le_of_eq rfl) (hb hby d9_2) (fun _ _ => ⟨rfl, e0, (by decide : 0 + 1 ≤ _), (by decide : 0 + 160 ≤ _)⟩)
  dsimp only [Pt.U, Pt.locs, Pt.cells, Pt.slots] at X108 l108 y108 z108 st108 hQ108
  subst l108 y108 z108
  obtain ⟨rfl, N108q, KC108, RR⟩ := hQ108
  have N108 := Fr.app N0 N108q
  have K108 := (Keep.refl h0 [b1, v1]).trans KC108 (allS (Or.inl mem_b1) (allS (Or.inl mem_v1) all0))
  have pre109 : ∀ t, Steps p.tables e below (T108.setTop (mkF m 7 #[.val (.ref b1), .val (.ref x1)] [(.ref b1)])) t → Steps p.tables e below (s₁.setTop (mkF m 0 #[.val (.ref b1), .val (.ref x1)] [])) t := by
    intro t kt
    show Steps p.tables e below (s₁.setTop (mkF m 0 #[.val (.ref b1), .val (.ref x1)] [])) _
    refine XS.aloadN X0.here hx rfl (hb hby d9_0) rfl rfl ?_
    refine XS.aloadN X0.here hx rfl (hb hby d9_1) rfl rfl ?_
    refine st108.trans ?_
    show Steps p.tables e below (T108.setTop (mkF m 5 #[.val (.ref b1), .val (.ref x1)] [(.ref b1)])) _
    refine XS.pop X108.here hx rfl (hb hby d9_5) rfl rfl ?_
    refine XS.aloadN X108.here hx rfl (hb hby d9_6) rfl rfl ?_
    exact kt
  obtain ⟨fs, hr, hrun, hended, hW, hsame⟩ := X108.leave (v := some (.ref b1)) (fun h => by rw [Bd.returns] at h; cases h)
  refine ⟨_, _, (pre0 _ (pre109 _ ?_)), hrun, hended, _, _, rfl, ?_, ⟨_, rfl⟩, hW, hsame.mono (by decide) (by decide)⟩
  · show Steps p.tables e below (T108.setTop (mkF m 7 #[.val (.ref b1), .val (.ref x1)] [(.ref b1)])) _
    exact retOut X108 hx (t := (.object "java/lang/StringBuilder")) Bd.returns rfl (Or.inr (Or.inr (Or.inr (Or.inr ⟨rfl, rfl, rfl⟩)))) (hb hby d9_7) hr
  · show QSApS Z b1 v1 k1 cp ct vs x1 t1 kx nx xs zc h0 n0 _ T108.heap _
    exact ⟨rfl, N108, K108, RR⟩
theorem ef_BLat (m : MethodId) (x0 : Addr) : entryFrame m #[(.ref x0)] 1 = mkF m 0 #[.val (.ref x0)] [] := by (first | (simp [entryFrame, mkF, argsToLocals, Value.category]; done) | rfl)
def QBLat (Z : State) (b1 : Addr) (zc : Int32) (h0 : Heap) (n0 : Nat) (v : Option Value) (h : Heap) (L : List Loc) : Prop := v = some (.int (1 : Int32)) ∧ Fr n0 L ∧ h = h0
theorem d28_0 : decode jdk_68_method_68_code 0 = .ok (.getstatic 18, 3) := by decide +kernel
theorem d28_3 : decode jdk_68_method_68_code 3 = .ok (.ifCond .eq 14, 3) := by decide +kernel
theorem d28_6 : decode jdk_68_method_68_code 6 = .ok (.aload_n 0, 1) := by decide +kernel
theorem d28_7 : decode jdk_68_method_68_code 7 = .ok (.getfield 22, 3) := by decide +kernel
theorem d28_10 : decode jdk_68_method_68_code 10 = .ok (.ifCond .ne 7, 3) := by decide +kernel
theorem d28_13 : decode jdk_68_method_68_code 13 = .ok (.iconst 1, 1) := by decide +kernel
theorem d28_14 : decode jdk_68_method_68_code 14 = .ok (.goto 4, 3) := by decide +kernel
theorem d28_18 : decode jdk_68_method_68_code 18 = .ok (.ireturn, 1) := by decide +kernel
set_option maxRecDepth 65536 in
set_option maxHeartbeats 40000000 in
theorem rmBLat (l : Launch) (Z : State) (a0 : Array Value) (hw : ∀ d ∈ tables_1, d.before a0 Z = true) (ws : List Jvm.Cond) (b1 : Addr) (zc : Int32) (h0 : Heap) (n0 : Nat) (Z0 : n0 ≤ h0.size) (BC : Fld Z h0 b1 "java/lang/AbstractStringBuilder" "coder" "B" (.int (0 : Int32))) (SC : Sta Z h0 "java/lang/String" "COMPACT_STRINGS" "Z" (.int zc)) (hzc : ¬ zc = (0 : Int32)) :
    MetFree l (⟨"java/lang/AbstractStringBuilder", "isLatin1", "()Z"⟩ : MethodName) (head1 (Jvm.Cond.code (⟨"java/lang/AbstractStringBuilder", "isLatin1", "()Z"⟩ : MethodName) jdk_68_method_68_code 1 (some .boolean) :: ws) ({ frames := 0, cells := 0, slots := 0, locals := 0 } : Room)) (fun a U => a = #[(.ref b1)] ∧ Z.Warmed39 U.vm ∧ U.heap = h0) (fun _ _ _ _ _ => True) (fun _ U o U' => ∃ v L, o = .returned v ∧ QBLat Z b1 zc h0 n0 v U'.heap L ∧ FrameEnd U o U' L ({ frames := 0, cells := 0, slots := 0, locals := 0 } : Room).cells ({ frames := 0, cells := 0, slots := 0, locals := 0 } : Room).slots) := by
  refine MetFree.of_bodySF (plainFor_of_name pn_java_lang_AbstractStringBuilder) hisR ?_
  intro p e s m args below meth c s₁ Bd hml0 hP hK
  obtain ⟨rfl, hZ, hh⟩ := hP
  have hx := Bd.exec
  have hby := Bd.bytes
  have hml : c.maxLocals = 1 := hml0
  have hown : s.vm.findClass "java/lang/AbstractStringBuilder" = some m.cls := findClass_of_methodNamed Bd.named
  have hnm := (name_of_methodNamed Bd.named Bd.method).1
  have X0 : Stand p l e ({ frames := 0, cells := 0, slots := 0, locals := 0 } : Room) s m #[(.ref b1)] below meth c s₁ [] 0 0 := Stand.of_body Bd
  have e0 : s₁.heap = h0 := by rw [← hh, Bd.state]; rfl
  have N0 := Fr.nil n0
  have pre0 : ∀ t, Steps p.tables e below (s₁.setTop (mkF m 0 #[.val (.ref b1)] [])) t → Steps p.tables e below (s₁.setTop (entryFrame m #[(.ref b1)] 1)) t := fun t k => castTop (ef_BLat m b1) k
  obtain ⟨T110, X110, e110, st110⟩ := getS2 X0 hx hZ hown (host := "") (Or.inl (tw hw 49 rfl)) Via.refl e0 SC (g := (mkF m 0 #[.val (.ref b1)] [])) rfl (hb hby d28_0)
  obtain ⟨T111, X111, e111, st111⟩ := getF X110 hx hZ hown (host := "") (Or.inl (tw hw 52 rfl)) Via.refl e110 BC (g := (mkF m 7 #[.val (.ref b1)] [(.ref b1)])) rfl rfl (hb hby d28_7)
  have pre112 : ∀ t, Steps p.tables e below (T111.setTop (mkF m 18 #[.val (.ref b1)] [(.int (1 : Int32))])) t → Steps p.tables e below (s₁.setTop (mkF m 0 #[.val (.ref b1)] [])) t := by
    intro t kt
    refine st110 _ ?_
    refine XS.ifNo X110.here hx rfl (hb hby d28_3) rfl ((if0 _ _).trans (feq (hzc : ¬ (zc = (0 : Int32)))).1) ?_
    show Steps p.tables e below (T110.setTop (mkF m 6 #[.val (.ref b1)] [])) _
    refine XS.aloadN X110.here hx rfl (hb hby d28_6) rfl rfl ?_
    refine st111 _ ?_
    refine XS.ifNo X111.here hx rfl (hb hby d28_10) rfl ((if0 _ _).trans (teq (rfl : (0 : Int32) = (0 : Int32))).2) ?_
    show Steps p.tables e below (T111.setTop (mkF m 13 #[.val (.ref b1)] [])) _
    refine XS.iconst X111.here hx rfl (hb hby d28_13) ?_
    refine XS.goto X111.here hx rfl (pc0 := 14) (pc' := 18) rfl (hb hby d28_14) (by decide) (by decide) ?_
    exact kt
  obtain ⟨fs, hr, hrun, hended, hW, hsame⟩ := X111.leave (v := some (.int (1 : Int32))) (fun h => by rw [Bd.returns] at h; cases h)
  refine ⟨_, _, (pre0 _ (pre112 _ ?_)), hrun, hended, _, _, rfl, ?_, ⟨_, rfl⟩, hW, hsame.mono (by decide) (by decide)⟩
  · show Steps p.tables e below (T111.setTop (mkF m 18 #[.val (.ref b1)] [(.int (1 : Int32))])) _
    exact retN X111 hx (t := .boolean) Bd.returns (by simp) (hb hby d28_18) hr
  · show QBLat Z b1 zc h0 n0 _ T111.heap _
    rw [e111]
    exact ⟨rfl, N0, rfl⟩
theorem ef_CanE (m : MethodId) (x0 : Int32) : entryFrame m #[(.int x0)] 1 = mkF m 0 #[.val (.int x0)] [] := by (first | (simp [entryFrame, mkF, argsToLocals, Value.category]; done) | rfl)
def QCanE (Z : State) (p1 : Int32) (h0 : Heap) (n0 : Nat) (v : Option Value) (h : Heap) (L : List Loc) : Prop := v = some (.int (1 : Int32)) ∧ Fr n0 L ∧ h = h0
theorem pn_java_lang_StringLatin1 : plainName "java/lang/StringLatin1" = true := by first | (simp [plainName, overriddenIn]; done) | decide +kernel
theorem d2_0 : decode jdk_43_method_3_code 0 = .ok (.iload_n 0, 1) := by decide +kernel
theorem d2_1 : decode jdk_43_method_3_code 1 = .ok (.sipush 255, 3) := by decide +kernel
theorem d2_4 : decode jdk_43_method_3_code 4 = .ok (.if_icmp .gt 7, 3) := by decide +kernel
theorem d2_7 : decode jdk_43_method_3_code 7 = .ok (.iconst 1, 1) := by decide +kernel
theorem d2_8 : decode jdk_43_method_3_code 8 = .ok (.goto 4, 3) := by decide +kernel
theorem d2_12 : decode jdk_43_method_3_code 12 = .ok (.ireturn, 1) := by decide +kernel
set_option maxRecDepth 65536 in
set_option maxHeartbeats 40000000 in
theorem rmCanE (l : Launch) (Z : State) (a0 : Array Value) (hw : ∀ d ∈ tables_1, d.before a0 Z = true) (ws : List Jvm.Cond) (p1 : Int32) (h0 : Heap) (n0 : Nat) (Z0 : n0 ≤ h0.size) (hp : ¬ ((255 : Int32) < p1)) :
    MetFree l (⟨"java/lang/StringLatin1", "canEncode", "(C)Z"⟩ : MethodName) (head1 (Jvm.Cond.code (⟨"java/lang/StringLatin1", "canEncode", "(C)Z"⟩ : MethodName) jdk_43_method_3_code 1 (some .boolean) :: ws) ({ frames := 0, cells := 0, slots := 0, locals := 0 } : Room)) (fun a U => a = #[(.int p1)] ∧ Z.Warmed39 U.vm ∧ U.heap = h0) (fun _ _ _ _ _ => True) (fun _ U o U' => ∃ v L, o = .returned v ∧ QCanE Z p1 h0 n0 v U'.heap L ∧ FrameEnd U o U' L ({ frames := 0, cells := 0, slots := 0, locals := 0 } : Room).cells ({ frames := 0, cells := 0, slots := 0, locals := 0 } : Room).slots) := by
  refine MetFree.of_bodySF (plainFor_of_name pn_java_lang_StringLatin1) hisR ?_
  intro p e s m args below meth c s₁ Bd hml0 hP hK
  obtain ⟨rfl, hZ, hh⟩ := hP
  have hx := Bd.exec
  have hby := Bd.bytes
  have hml : c.maxLocals = 1 := hml0
  have hown : s.vm.findClass "java/lang/StringLatin1" = some m.cls := findClass_of_methodNamed Bd.named
  have hnm := (name_of_methodNamed Bd.named Bd.method).1
  have X0 : Stand p l e ({ frames := 0, cells := 0, slots := 0, locals := 0 } : Room) s m #[(.int p1)] below meth c s₁ [] 0 0 := Stand.of_body Bd
  have e0 : s₁.heap = h0 := by rw [← hh, Bd.state]; rfl
  have N0 := Fr.nil n0
  have pre0 : ∀ t, Steps p.tables e below (s₁.setTop (mkF m 0 #[.val (.int p1)] [])) t → Steps p.tables e below (s₁.setTop (entryFrame m #[(.int p1)] 1)) t := fun t k => castTop (ef_CanE m p1) k
  have pre113 : ∀ t, Steps p.tables e below (s₁.setTop (mkF m 12 #[.val (.int p1)] [(.int (1 : Int32))])) t → Steps p.tables e below (s₁.setTop (mkF m 0 #[.val (.int p1)] [])) t := by
    intro t kt
    show Steps p.tables e below (s₁.setTop (mkF m 0 #[.val (.int p1)] [])) _
    refine XS.iloadN X0.here hx rfl (hb hby d2_0) rfl ?_
    refine XS.sipush X0.here hx rfl (hb hby d2_1) ?_
    refine XS.icmpNo X0.here hx rfl (hb hby d2_4) rfl (flt (hp : ¬ ((255 : Int32) < p1))).2.2.1 ?_
    show Steps p.tables e below (s₁.setTop (mkF m 7 #[.val (.int p1)] [])) _
    refine XS.iconst X0.here hx rfl (hb hby d2_7) ?_
    refine XS.goto X0.here hx rfl (pc0 := 8) (pc' := 12) rfl (hb hby d2_8) (by decide) (by decide) ?_
    exact kt
  obtain ⟨fs, hr, hrun, hended, hW, hsame⟩ := X0.leave (v := some (.int (1 : Int32))) (fun h => by rw [Bd.returns] at h; cases h)
  refine ⟨_, _, (pre0 _ (pre113 _ ?_)), hrun, hended, _, _, rfl, ?_, ⟨_, rfl⟩, hW, hsame.mono (by decide) (by decide)⟩
  · show Steps p.tables e below (s₁.setTop (mkF m 12 #[.val (.int p1)] [(.int (1 : Int32))])) _
    exact retN X0 hx (t := .boolean) Bd.returns (by simp) (hb hby d2_12) hr
  · show QCanE Z p1 h0 n0 _ s₁.heap _
    rw [e0]
    exact ⟨rfl, N0, rfl⟩
theorem ef_AApC (m : MethodId) (x0 : Addr) (x1 : Int32) : entryFrame m #[(.ref x0), (.int x1)] 2 = mkF m 0 #[.val (.ref x0), .val (.int x1)] [] := by (first | (simp [entryFrame, mkF, argsToLocals, Value.category]; done) | rfl)
def QAApC (Z : State) (b1 : Addr) (v1 : Addr) (k1 : ClassId) (cp : Nat) (ct : Nat) (vs : List Value) (p1 : Int32) (zc : Int32) (h0 : Heap) (n0 : Nat) (v : Option Value) (h : Heap) (L : List Loc) : Prop := v = some (.ref b1) ∧ Fr n0 L ∧ Keep h0 h [b1, v1] ∧ ∃ (v2 : Addr) (k2 : ClassId) (ws2 : List Value), (Exa Z h b1 "java/lang/StringBuilder" ∧ Fld Z h b1 "java/lang/AbstractStringBuilder" "value" "[B" (.ref v2) ∧ Fld Z h b1 "java/lang/AbstractStringBuilder" "coder" "B" (.int (0 : Int32)) ∧ Fld Z h b1 "java/lang/AbstractStringBuilder" "count" "I" (.int (Int32.ofNat (ct + 1))) ∧ Arv Z h v2 k2 .byte (Int32.ofNat (own_gr cp (ct + 1))) ws2 (.int (0 : Int32)) ∧ Exa Z h v2 "[B") ∧ ws2.length = own_gr cp (ct + 1) ∧ ws2.take (ct + 1) = vs.take ct ++ [.int (nar .byte (p1.toInt8.toInt32))] ∧ n0 ≤ v2 ∧ (v2 = v1 ∨ h0.size ≤ v2)
theorem d35_0 : decode jdk_68_method_31_code 0 = .ok (.aload_n 0, 1) := by decide +kernel
theorem d35_1 : decode jdk_68_method_31_code 1 = .ok (.aload_n 0, 1) := by decide +kernel
theorem d35_2 : decode jdk_68_method_31_code 2 = .ok (.getfield 79, 3) := by decide +kernel
theorem d35_5 : decode jdk_68_method_31_code 5 = .ok (.iconst 1, 1) := by decide +kernel
theorem d35_6 : decode jdk_68_method_31_code 6 = .ok (.iadd, 1) := by decide +kernel
theorem d35_7 : decode jdk_68_method_31_code 7 = .ok (.invokevirtual 100, 3) := by decide +kernel
theorem d35_10 : decode jdk_68_method_31_code 10 = .ok (.aload_n 0, 1) := by decide +kernel
theorem d35_11 : decode jdk_68_method_31_code 11 = .ok (.invokevirtual 83, 3) := by decide +kernel
theorem pd___Z : parseMethodDescriptor "()Z" = some ⟨[], some .boolean⟩ := by decide +kernel
theorem d35_14 : decode jdk_68_method_31_code 14 = .ok (.ifCond .eq 31, 3) := by decide +kernel
theorem d35_17 : decode jdk_68_method_31_code 17 = .ok (.iload_n 1, 1) := by decide +kernel
theorem d35_18 : decode jdk_68_method_31_code 18 = .ok (.invokestatic 191, 3) := by decide +kernel
theorem pd__C_Z : parseMethodDescriptor "(C)Z" = some ⟨[.char], some .boolean⟩ := by decide +kernel
theorem d35_21 : decode jdk_68_method_31_code 21 = .ok (.ifCond .eq 24, 3) := by decide +kernel
theorem d35_24 : decode jdk_68_method_31_code 24 = .ok (.aload_n 0, 1) := by decide +kernel
theorem d35_25 : decode jdk_68_method_31_code 25 = .ok (.getfield 15, 3) := by decide +kernel
theorem d35_28 : decode jdk_68_method_31_code 28 = .ok (.aload_n 0, 1) := by decide +kernel
theorem d35_29 : decode jdk_68_method_31_code 29 = .ok (.dup, 1) := by decide +kernel
theorem d35_30 : decode jdk_68_method_31_code 30 = .ok (.getfield 79, 3) := by decide +kernel
theorem d35_33 : decode jdk_68_method_31_code 33 = .ok (.dup_x1, 1) := by decide +kernel
theorem d35_34 : decode jdk_68_method_31_code 34 = .ok (.iconst 1, 1) := by decide +kernel
theorem d35_35 : decode jdk_68_method_31_code 35 = .ok (.iadd, 1) := by decide +kernel
theorem d35_36 : decode jdk_68_method_31_code 36 = .ok (.putfield 79, 3) := by decide +kernel
theorem d35_39 : decode jdk_68_method_31_code 39 = .ok (.iload_n 1, 1) := by decide +kernel
theorem d35_40 : decode jdk_68_method_31_code 40 = .ok (.i2b, 1) := by decide +kernel
theorem d35_41 : decode jdk_68_method_31_code 41 = .ok (.bastore, 1) := by decide +kernel
theorem d35_42 : decode jdk_68_method_31_code 42 = .ok (.goto 33, 3) := by decide +kernel
theorem d35_75 : decode jdk_68_method_31_code 75 = .ok (.aload_n 0, 1) := by decide +kernel
theorem d35_76 : decode jdk_68_method_31_code 76 = .ok (.areturn, 1) := by decide +kernel
set_option maxRecDepth 65536 in
set_option maxHeartbeats 40000000 in
theorem rmAApC (l : Launch) (Z : State) (a0 : Array Value) (hw : ∀ d ∈ tables_1, d.before a0 Z = true) (ws : List Jvm.Cond) (b1 : Addr) (v1 : Addr) (k1 : ClassId) (cp : Nat) (ct : Nat) (vs : List Value) (p1 : Int32) (zc : Int32) (h0 : Heap) (n0 : Nat) (Z0 : n0 ≤ h0.size) (BE : Exa Z h0 b1 "java/lang/StringBuilder") (BV : Fld Z h0 b1 "java/lang/AbstractStringBuilder" "value" "[B" (.ref v1)) (BC : Fld Z h0 b1 "java/lang/AbstractStringBuilder" "coder" "B" (.int (0 : Int32))) (BN : Fld Z h0 b1 "java/lang/AbstractStringBuilder" "count" "I" (.int (Int32.ofNat ct))) (BA : Arv Z h0 v1 k1 .byte (Int32.ofNat cp) vs (.int (0 : Int32))) (BX : Exa Z h0 v1 "[B") (hvl : vs.length = cp) (hcp : cp ≤ 1000) (g_b1 : n0 ≤ b1) (g_v1 : n0 ≤ v1) (hp : ¬ ((255 : Int32) < p1)) (hct : ct ≤ cp) (hgM : ct + 1 ≤ cp ∨ max (ct + 1) (2 * cp + 2) ≤ 160) (hnM : ct + 1 ≤ 1000) (OZ : Old Z n0 h0) (SC : Sta Z Z.heap "java/lang/String" "COMPACT_STRINGS" "Z" (.int zc)) (hzc : ¬ zc = (0 : Int32)) :
    MetFree l (⟨"java/lang/AbstractStringBuilder", "append", "(C)Ljava/lang/AbstractStringBuilder;"⟩ : MethodName) (head1 (Jvm.Cond.code (⟨"java/lang/AbstractStringBuilder", "append", "(C)Ljava/lang/AbstractStringBuilder;"⟩ : MethodName) jdk_68_method_31_code 2 (some (.object "java/lang/AbstractStringBuilder")) :: ws) ({ frames := 4, cells := 1, slots := 160, locals := 110 } : Room)) (fun a U => a = #[(.ref b1), (.int p1)] ∧ Z.Warmed39 U.vm ∧ U.heap = h0) (fun _ _ _ _ _ => True) (fun _ U o U' => ∃ v L, o = .returned v ∧ QAApC Z b1 v1 k1 cp ct vs p1 zc h0 n0 v U'.heap L ∧ FrameEnd U o U' L ({ frames := 4, cells := 1, slots := 160, locals := 110 } : Room).cells ({ frames := 4, cells := 1, slots := 160, locals := 110 } : Room).slots) := by
  refine MetFree.of_bodySF (plainFor_of_name pn_java_lang_AbstractStringBuilder) hisR ?_
  intro p e s m args below meth c s₁ Bd hml0 hP hK
  obtain ⟨rfl, hZ, hh⟩ := hP
  have hx := Bd.exec
  have hby := Bd.bytes
  have hml : c.maxLocals = 2 := hml0
  have hown : s.vm.findClass "java/lang/AbstractStringBuilder" = some m.cls := findClass_of_methodNamed Bd.named
  have hnm := (name_of_methodNamed Bd.named Bd.method).1
  have X0 : Stand p l e ({ frames := 4, cells := 1, slots := 160, locals := 110 } : Room) s m #[(.ref b1), (.int p1)] below meth c s₁ [] 0 0 := Stand.of_body Bd
  have e0 : s₁.heap = h0 := by rw [← hh, Bd.state]; rfl
  have N0 := Fr.nil n0
  have pre0 : ∀ t, Steps p.tables e below (s₁.setTop (mkF m 0 #[.val (.ref b1), .val (.int p1)] [])) t → Steps p.tables e below (s₁.setTop (entryFrame m #[(.ref b1), (.int p1)] 2)) t := fun t k => castTop (ef_AApC m b1 p1) k
  have mem_b1 : b1 ∈ [b1, v1] := List.mem_of_getElem? (i := 0) rfl
  have mem_v1 : v1 ∈ [b1, v1] := List.mem_of_getElem? (i := 1) rfl
  obtain ⟨T114, X114, e114, st114⟩ := getF X0 hx hZ hown (host := "") (Or.inl (tw hw 77 rfl)) Via.refl e0 BN (g := (mkF m 2 #[.val (.ref b1), .val (.int p1)] [(.ref b1), (.ref b1)])) rfl rfl (hb hby d35_2)
  have hsz := (Keep.refl h0 [b1, v1]).1
  obtain ⟨cq115, q115, q115'⟩ := BE.cell
  obtain ⟨_, _, ⟨T115, L115, k115, n115⟩, -, X115, ⟨Lc115, hQ115, l115, y115, z115⟩, st115⟩ := X114.privateBack hx (y := (⟨"java/lang/AbstractStringBuilder", "ensureCapacityInternal", "(I)V"⟩ : MethodName)) hown (mvT hZ (tw hw 79 rfl)) (mvT hZ (tw hw 80 rfl)) (own_selP (mvT hZ (tw hw 82 rfl)) (Cond.privateMethod_at (mvP hZ (tw hw 81 rfl) (args := #[]))) (mvT hZ (tw hw 80 rfl)) (by decide)) (Cond.privateMethod_at (mvP hZ (tw hw 81 rfl) (args := #[]))) (mvT hZ (tw hw 83 rfl)) (by decide) (backOf (W := 0) (rmEns l Z a0 hw [] b1 v1 k1 cp ct vs (ct + 1) h0 n0 Z0 BE BV BC BN BA BX hvl hcp g_b1 g_v1 (by omega) hgM) hZ (tw hw 83 rfl) (tw hw 46 rfl) (by decide) (by decide)) (g := (mkF m 7 #[.val (.ref b1), .val (.int p1)] [(.int (Int32.ofNat (ct + 1))), (.ref b1)])) rfl (by rw [hml]; rfl) (Steps.refl _) (a := b1) (by rw [e114]; exact q115) q115' (argsL := [(.int (Int32.ofNat (ct + 1)))]) (rest := []) (lenOf pd__I_V rfl) rfl (by show 2 * 0 + _ ≤ _; exact Nat.le_of_eq rfl) (hb hby d35_7) (fun _ _ => ⟨rfl, e114, (by decide : 0 + 1 ≤ _), (by decide : 0 + 160 ≤ _)⟩)
  dsimp only [Pt.U, Pt.locs, Pt.cells, Pt.slots] at X115 l115 y115 z115 st115 hQ115
  subst l115 y115 z115
  obtain ⟨rfl, N115q, KC115, v2, k2, wa, ⟨E2, V2, C2, N2, A2, X2⟩, l2, tk2, g_v2, hv2⟩ := hQ115
  have N115 := Fr.app N0 N115q
  have Z115 := Nat.le_trans Z0 KC115.1
  have K115 := (Keep.refl h0 [b1, v1]).trans KC115 (allS (Or.inl mem_b1) all0)
  have ne_b1_v2 : b1 ≠ v2 := E2.neArv A2 (tw hw 37 rfl)
  have hgl := @own_grle cp (ct + 1)
  have hgm : own_gr cp (ct + 1) ≤ 1000 := own_grM hcp (by decide) hgM
  have f116 := (OZ.keep KC115 (allS g_b1 all0))
  obtain ⟨cq117, kq117, q117a, q117b, q117c⟩ := isOf hZ rfl E2
  obtain ⟨_, _, ⟨T117, L117, k117, n117⟩, -, X117, ⟨Lc117, hQ117, l117, y117, z117⟩, st117⟩ := X115.virtualBack hx (y := (⟨"java/lang/AbstractStringBuilder", "isLatin1", "()Z"⟩ : MethodName)) (z := (⟨"java/lang/AbstractStringBuilder", "isLatin1", "()Z"⟩ : MethodName)) hown (mvT hZ (tw hw 190 rfl)) (mvT hZ (tw hw 154 rfl)) (notFace_of_selects (args := #[]) (mvT hZ (tw hw 156 rfl))) (mvT hZ (tw hw 156 rfl)) (mvT hZ (tw hw 155 rfl)) (by decide) (backOf (W := 0) (rmBLat l Z a0 hw [] b1 zc T115.heap n0 Z115 C2 (SC.ext f116.2) hzc) hZ (tw hw 157 rfl) (tw hw 46 rfl) (by decide) (by decide)) q117a q117c (g := (mkF m 11 #[.val (.ref b1), .val (.int p1)] [(.ref b1)])) rfl (by rw [hml]; rfl) (Steps.refl _) (argsL := []) (rest := []) (lenOf pd___Z rfl) rfl (by show 2 * 0 + _ ≤ _; exact Nat.le_of_eq rfl) (hb hby d35_11) (fun _ _ => ⟨rfl, rfl, (by decide : 1 + 0 ≤ _), (by decide : 160 + 0 ≤ _)⟩)
  dsimp only [Pt.U, Pt.locs, Pt.cells, Pt.slots] at X117 l117 y117 z117 st117 hQ117
  subst l117 y117 z117
  obtain ⟨rfl, N117q, EQ117⟩ := hQ117
  have N117 := Fr.app N115 N117q
  have Z117 : n0 ≤ T117.heap.size := by rw [EQ117]; exact Z115
  have K117 := own_keq EQ117 K115
  obtain ⟨_, _, ⟨T118, L118, k118, n118⟩, -, X118, ⟨Lc118, hQ118, l118, y118, z118⟩, st118⟩ := Jvm.LawKit.callS X117 hx (y := (⟨"java/lang/StringLatin1", "canEncode", "(C)Z"⟩ : MethodName)) hown (mvT hZ (tw hw 191 rfl)) (mvT hZ (tw hw 16 rfl)) (mvT hZ (tw hw 17 rfl)) (mvT hZ (tw hw 18 rfl)) (by decide) (backOf (W := 0) (rmCanE l Z a0 hw [] p1 T117.heap n0 Z117 hp) hZ (tw hw 18 rfl) (tw hw 17 rfl) (by decide) (by decide)) (g := (mkF m 18 #[.val (.ref b1), .val (.int p1)] [(.int p1)])) rfl (by rw [hml]; rfl) (argsL := [(.int p1)]) (rest := []) (lenOf pd__C_Z rfl) rfl (by show 2 * 0 + _ ≤ _; exact Nat.le_of_eq rfl) (hb hby d35_18) (fun _ _ => ⟨rfl, rfl, (by decide : 1 + 0 ≤ _), (by decide : 160 + 0 ≤ _)⟩)
  dsimp only [Pt.U, Pt.locs, Pt.cells, Pt.slots] at X118 l118 y118 z118 st118 hQ118
  subst l118 y118 z118
  obtain ⟨rfl, N118q, EQ118⟩ := hQ118
  have N118 := Fr.app N117 N118q
  have K118 := own_keq EQ118 K117
  have f119 := (EQ118 ▸ (EQ117 ▸ V2))
  obtain ⟨T120, X120, e120, st120⟩ := getF X118 hx hZ hown (host := "") (Or.inl (tw hw 50 rfl)) Via.refl rfl f119 (g := (mkF m 25 #[.val (.ref b1), .val (.int p1)] [(.ref b1)])) rfl rfl (hb hby d35_25)
  have f121 := (EQ118 ▸ (EQ117 ▸ N2))
  obtain ⟨T122, X122, e122, st122⟩ := getF X120 hx hZ hown (host := "") (Or.inl (tw hw 77 rfl)) Via.refl e120 f121 (g := (mkF m 30 #[.val (.ref b1), .val (.int p1)] [(.ref b1), (.ref b1), (.ref v2)])) rfl rfl (hb hby d35_30)
  have f123 := (EQ118 ▸ (EQ117 ▸ E2))
  obtain ⟨T124, h124, X124, e124, W124, st124⟩ := putF X122 hx hZ hown (host := "") (Or.inl (tw hw 77 rfl)) Via.refl e122 f121 f123 (Or.inl (tw hw 78 rfl)) (tw hw 37 rfl) (ty := .int) (by decide) rfl rfl (g := (mkF m 36 #[.val (.ref b1), .val (.int p1)] [(.int (Int32.ofNat (ct + 1))), (.ref b1), (.int (Int32.ofNat ct)), (.ref v2)])) rfl rfl (hb hby d35_36)
  have N124 := Fr.snoc X124 N118 g_b1
  have K124 := K118.wr W124 (Or.inl mem_b1)
  have Fw124 := f121.same W124
  have f125 := ((EQ118 ▸ (EQ117 ▸ A2)).other W124 (Ne.symm ne_b1_v2))
  obtain ⟨c126, Ar126, q126, S126, M126, H126, G126⟩ := id f125
  have hin126 : ¬ ((Int32.ofNat ct) < 0 ∨ c126.slots.size ≤ ((Int32.ofNat ct)).toNatClampNeg) := inb_of S126 ⟨own_nn (by omega), by rw [own_lt (by omega) (by omega)]; omega⟩
  obtain ⟨T127, h127, X127, e127, W127, st127⟩ := stB X124 hx hZ e124 Ar126 (j := (Int32.ofNat ct)) hin126 (g := (mkF m 41 #[.val (.ref b1), .val (.int p1)] [(.int (p1.toInt8.toInt32)), (.int (Int32.ofNat ct)), (.ref v2)])) rfl rfl (hb hby d35_41)
  have N127 := Fr.snoc X127 N124 g_v2
  have K127 := K124.wr W127 (hv2.imp (fun q => by rw [q]; exact mem_v1) (fun q => Nat.le_trans hsz q))
  have V127 := Arv.set Ar126 q126 S126 M126 H126 G126 (fits_nar_byte _) W127 ct (own_nc (by omega)) (by omega)
  have ap := own_set (x := .int (nar .byte (p1.toInt8.toInt32))) tk2 hct (by omega)
  have f128 := ((f123.wr W124).wr W127)
  have f129 := ((f119.other W124 (Or.inr (slot_ne (Or.inl (tw hw 51 rfl)) (Or.inl (tw hw 78 rfl)) (by decide) (t := (.array .byte)) (t' := .int) (by decide) (by decide)))).other W127 (Or.inl ne_b1_v2))
  have f130 := (((EQ118 ▸ (EQ117 ▸ C2)).other W124 (Or.inr (slot_ne (Or.inl (tw hw 53 rfl)) (Or.inl (tw hw 78 rfl)) (by decide) (t := .byte) (t' := .int) (by decide) (by decide)))).other W127 (Or.inl ne_b1_v2))
  have f131 := (Fw124.other W127 (Or.inl ne_b1_v2))
  have f132 := (((EQ118 ▸ (EQ117 ▸ X2)).wr W124).wr W127)
  have pre133 : ∀ t, Steps p.tables e below (T127.setTop (mkF m 76 #[.val (.ref b1), .val (.int p1)] [(.ref b1)])) t → Steps p.tables e below (s₁.setTop (mkF m 0 #[.val (.ref b1), .val (.int p1)] [])) t := by
    intro t kt
    show Steps p.tables e below (s₁.setTop (mkF m 0 #[.val (.ref b1), .val (.int p1)] [])) _
    refine XS.aloadN X0.here hx rfl (hb hby d35_0) rfl rfl ?_
    refine XS.aloadN X0.here hx rfl (hb hby d35_1) rfl rfl ?_
    refine st114 _ ?_
    show Steps p.tables e below (T114.setTop (mkF m 5 #[.val (.ref b1), .val (.int p1)] [(.int (Int32.ofNat ct)), (.ref b1)])) _
    refine XS.iconst X114.here hx rfl (hb hby d35_5) ?_
    refine XS.iadd X114.here hx rfl (hb hby d35_6) rfl ?_
    show Steps p.tables e below (T114.setTop (mkF m 7 #[.val (.ref b1), .val (.int p1)] [(.int ((Int32.ofNat ct) + (1 : Int32))), (.ref b1)])) _
    rw [show Int32.ofNat ct + (1 : Int32) = Int32.ofNat (ct + 1) from own_add ct 1]
    refine st115.trans ?_
    show Steps p.tables e below (T115.setTop (mkF m 10 #[.val (.ref b1), .val (.int p1)] [])) _
    refine XS.aloadN X115.here hx rfl (hb hby d35_10) rfl rfl ?_
    refine st117.trans ?_
    refine XS.ifNo X117.here hx rfl (hb hby d35_14) rfl ((if0 _ _).trans (feq (by decide : ¬ ((1 : Int32) = (0 : Int32)))).1) ?_
    show Steps p.tables e below (T117.setTop (mkF m 17 #[.val (.ref b1), .val (.int p1)] [])) _
    refine XS.iloadN X117.here hx rfl (hb hby d35_17) rfl ?_
    refine st118 _ ?_
    refine XS.ifNo X118.here hx rfl (hb hby d35_21) rfl ((if0 _ _).trans (feq (by decide : ¬ ((1 : Int32) = (0 : Int32)))).1) ?_
    show Steps p.tables e below (T118.setTop (mkF m 24 #[.val (.ref b1), .val (.int p1)] [])) _
    refine XS.aloadN X118.here hx rfl (hb hby d35_24) rfl rfl ?_
    refine st120 _ ?_
    show Steps p.tables e below (T120.setTop (mkF m 28 #[.val (.ref b1), .val (.int p1)] [(.ref v2)])) _
    refine XS.aloadN X120.here hx rfl (hb hby d35_28) rfl rfl ?_
    refine XS.dup X120.here hx rfl (hb hby d35_29) rfl rfl ?_
    refine st122 _ ?_
    show Steps p.tables e below (T122.setTop (mkF m 33 #[.val (.ref b1), .val (.int p1)] [(.int (Int32.ofNat ct)), (.ref b1), (.ref v2)])) _
    refine XS.dupX1 X122.here hx rfl (hb hby d35_33) rfl rfl rfl ?_
    refine XS.iconst X122.here hx rfl (hb hby d35_34) ?_
    refine XS.iadd X122.here hx rfl (hb hby d35_35) rfl ?_
    show Steps p.tables e below (T122.setTop (mkF m 36 #[.val (.ref b1), .val (.int p1)] [(.int ((Int32.ofNat ct) + (1 : Int32))), (.ref b1), (.int (Int32.ofNat ct)), (.ref v2)])) _
    rw [show Int32.ofNat ct + (1 : Int32) = Int32.ofNat (ct + 1) from own_add ct 1]
    refine st124 _ ?_
    show Steps p.tables e below (T124.setTop (mkF m 39 #[.val (.ref b1), .val (.int p1)] [(.int (Int32.ofNat ct)), (.ref v2)])) _
    refine XS.iloadN X124.here hx rfl (hb hby d35_39) rfl ?_
    refine XS.i2b X124.here hx rfl (hb hby d35_40) rfl ?_
    show Steps p.tables e below (T124.setTop (mkF m 41 #[.val (.ref b1), .val (.int p1)] [(.int (p1.toInt8.toInt32)), (.int (Int32.ofNat ct)), (.ref v2)])) _
    refine st127 _ ?_
    show Steps p.tables e below (T127.setTop (mkF m 42 #[.val (.ref b1), .val (.int p1)] [])) _
    refine XS.goto X127.here hx rfl (pc0 := 42) (pc' := 75) rfl (hb hby d35_42) (by decide) (by decide) ?_
    refine XS.aloadN X127.here hx rfl (hb hby d35_75) rfl rfl ?_
    exact kt
  obtain ⟨fs, hr, hrun, hended, hW, hsame⟩ := X127.leave (v := some (.ref b1)) (fun h => by rw [Bd.returns] at h; cases h)
  refine ⟨_, _, (pre0 _ (pre133 _ ?_)), hrun, hended, _, _, rfl, ?_, ⟨_, rfl⟩, hW, hsame.mono (by decide) (by decide)⟩
  · show Steps p.tables e below (T127.setTop (mkF m 76 #[.val (.ref b1), .val (.int p1)] [(.ref b1)])) _
    exact retOut X127 hx (t := (.object "java/lang/AbstractStringBuilder")) Bd.returns rfl (Or.inr (Or.inr (Or.inr (Or.inr ⟨rfl, rfl, rfl⟩)))) (hb hby d35_76) hr
  · show QAApC Z b1 v1 k1 cp ct vs p1 zc h0 n0 _ T127.heap _
    rw [e127]
    exact ⟨rfl, N127, K127, v2, k2, _, ⟨f128, f129, f130, f131, V127, f132⟩, ap.2.trans l2, ap.1, g_v2, hv2.imp id (fun q => Nat.le_trans hsz q)⟩
theorem ef_SApC (m : MethodId) (x0 : Addr) (x1 : Int32) : entryFrame m #[(.ref x0), (.int x1)] 2 = mkF m 0 #[.val (.ref x0), .val (.int x1)] [] := by (first | (simp [entryFrame, mkF, argsToLocals, Value.category]; done) | rfl)
def QSApC (Z : State) (b1 : Addr) (v1 : Addr) (k1 : ClassId) (cp : Nat) (ct : Nat) (vs : List Value) (p1 : Int32) (zc : Int32) (h0 : Heap) (n0 : Nat) (v : Option Value) (h : Heap) (L : List Loc) : Prop := v = some (.ref b1) ∧ Fr n0 L ∧ Keep h0 h [b1, v1] ∧ ∃ (v2 : Addr) (k2 : ClassId) (ws2 : List Value), (Exa Z h b1 "java/lang/StringBuilder" ∧ Fld Z h b1 "java/lang/AbstractStringBuilder" "value" "[B" (.ref v2) ∧ Fld Z h b1 "java/lang/AbstractStringBuilder" "coder" "B" (.int (0 : Int32)) ∧ Fld Z h b1 "java/lang/AbstractStringBuilder" "count" "I" (.int (Int32.ofNat (ct + 1))) ∧ Arv Z h v2 k2 .byte (Int32.ofNat (own_gr cp (ct + 1))) ws2 (.int (0 : Int32)) ∧ Exa Z h v2 "[B") ∧ ws2.length = own_gr cp (ct + 1) ∧ ws2.take (ct + 1) = vs.take ct ++ [.int (nar .byte (p1.toInt8.toInt32))] ∧ n0 ≤ v2 ∧ (v2 = v1 ∨ h0.size ≤ v2)
theorem d34_0 : decode jdk_67_method_14_code 0 = .ok (.aload_n 0, 1) := by decide +kernel
theorem d34_1 : decode jdk_67_method_14_code 1 = .ok (.iload_n 1, 1) := by decide +kernel
theorem d34_2 : decode jdk_67_method_14_code 2 = .ok (.invokespecial 50, 3) := by decide +kernel
theorem pd__C_Ljava_lang_AbstractStringBuilder_ : parseMethodDescriptor "(C)Ljava/lang/AbstractStringBuilder;" = some ⟨[.char], some (.object "java/lang/AbstractStringBuilder")⟩ := by decide +kernel
theorem d34_5 : decode jdk_67_method_14_code 5 = .ok (.pop, 1) := by decide +kernel
theorem d34_6 : decode jdk_67_method_14_code 6 = .ok (.aload_n 0, 1) := by decide +kernel
theorem d34_7 : decode jdk_67_method_14_code 7 = .ok (.areturn, 1) := by decide +kernel
set_option maxRecDepth 65536 in
set_option maxHeartbeats 40000000 in
theorem rmSApC (l : Launch) (Z : State) (a0 : Array Value) (hw : ∀ d ∈ tables_1, d.before a0 Z = true) (ws : List Jvm.Cond) (b1 : Addr) (v1 : Addr) (k1 : ClassId) (cp : Nat) (ct : Nat) (vs : List Value) (p1 : Int32) (zc : Int32) (h0 : Heap) (n0 : Nat) (Z0 : n0 ≤ h0.size) (BE : Exa Z h0 b1 "java/lang/StringBuilder") (BV : Fld Z h0 b1 "java/lang/AbstractStringBuilder" "value" "[B" (.ref v1)) (BC : Fld Z h0 b1 "java/lang/AbstractStringBuilder" "coder" "B" (.int (0 : Int32))) (BN : Fld Z h0 b1 "java/lang/AbstractStringBuilder" "count" "I" (.int (Int32.ofNat ct))) (BA : Arv Z h0 v1 k1 .byte (Int32.ofNat cp) vs (.int (0 : Int32))) (BX : Exa Z h0 v1 "[B") (hvl : vs.length = cp) (hcp : cp ≤ 1000) (g_b1 : n0 ≤ b1) (g_v1 : n0 ≤ v1) (hp : ¬ ((255 : Int32) < p1)) (hct : ct ≤ cp) (hgM : ct + 1 ≤ cp ∨ max (ct + 1) (2 * cp + 2) ≤ 160) (hnM : ct + 1 ≤ 1000) (OZ : Old Z n0 h0) (SC : Sta Z Z.heap "java/lang/String" "COMPACT_STRINGS" "Z" (.int zc)) (hzc : ¬ zc = (0 : Int32)) :
    MetFree l (⟨"java/lang/StringBuilder", "append", "(C)Ljava/lang/StringBuilder;"⟩ : MethodName) (head1 (Jvm.Cond.code (⟨"java/lang/StringBuilder", "append", "(C)Ljava/lang/StringBuilder;"⟩ : MethodName) jdk_67_method_14_code 2 (some (.object "java/lang/StringBuilder")) :: ws) ({ frames := 5, cells := 1, slots := 160, locals := 130 } : Room)) (fun a U => a = #[(.ref b1), (.int p1)] ∧ Z.Warmed39 U.vm ∧ U.heap = h0) (fun _ _ _ _ _ => True) (fun _ U o U' => ∃ v L, o = .returned v ∧ QSApC Z b1 v1 k1 cp ct vs p1 zc h0 n0 v U'.heap L ∧ FrameEnd U o U' L ({ frames := 5, cells := 1, slots := 160, locals := 130 } : Room).cells ({ frames := 5, cells := 1, slots := 160, locals := 130 } : Room).slots) := by
  refine MetFree.of_bodySF (plainFor_of_name pn_java_lang_StringBuilder) hisR ?_
  intro p e s m args below meth c s₁ Bd hml0 hP hK
  obtain ⟨rfl, hZ, hh⟩ := hP
  have hx := Bd.exec
  have hby := Bd.bytes
  have hml : c.maxLocals = 2 := hml0
  have hown : s.vm.findClass "java/lang/StringBuilder" = some m.cls := findClass_of_methodNamed Bd.named
  have hnm := (name_of_methodNamed Bd.named Bd.method).1
  have X0 : Stand p l e ({ frames := 5, cells := 1, slots := 160, locals := 130 } : Room) s m #[(.ref b1), (.int p1)] below meth c s₁ [] 0 0 := Stand.of_body Bd
  have e0 : s₁.heap = h0 := by rw [← hh, Bd.state]; rfl
  have N0 := Fr.nil n0
  have pre0 : ∀ t, Steps p.tables e below (s₁.setTop (mkF m 0 #[.val (.ref b1), .val (.int p1)] [])) t → Steps p.tables e below (s₁.setTop (entryFrame m #[(.ref b1), (.int p1)] 2)) t := fun t k => castTop (ef_SApC m b1 p1) k
  have mem_b1 : b1 ∈ [b1, v1] := List.mem_of_getElem? (i := 0) rfl
  have mem_v1 : v1 ∈ [b1, v1] := List.mem_of_getElem? (i := 1) rfl
  obtain ⟨_, _, ⟨T134, L134, k134, n134⟩, -, X134, ⟨Lc134, hQ134, l134, y134, z134⟩, st134⟩ := superBack X0 hx hZ (y := (⟨"java/lang/AbstractStringBuilder", "append", "(C)Ljava/lang/AbstractStringBuilder;"⟩ : MethodName)) hown (tw hw 186 rfl) (own_same (y := (⟨"java/lang/AbstractStringBuilder", "append", "(C)Ljava/lang/AbstractStringBuilder;"⟩ : MethodName)) (tw hw 187 rfl) (tw hw 82 rfl) rfl (by decide)) (tw hw 187 rfl) (tw hw 64 rfl) (by decide) (backOf (W := 0) (rmAApC l Z a0 hw [] b1 v1 k1 cp ct vs p1 zc h0 n0 Z0 BE BV BC BN BA BX hvl hcp g_b1 g_v1 hp hct hgM hnM OZ SC hzc) hZ (tw hw 189 rfl) (tw hw 46 rfl) (by decide) (by decide)) e0 (Ins.self BE) (g := (mkF m 2 #[.val (.ref b1), .val (.int p1)] [(.int p1), (.ref b1)])) rfl (by rw [hml]; rfl) (tw hw 189 rfl) (argsL := [(.int p1)]) (rest := []) (lenOf pd__C_Ljava_lang_AbstractStringBuilder_ rfl) rfl (by show 2 * 0 + _ ≤ _; exact Nat.le_of_eq rfl) (hb hby d34_2) (fun _ _ => ⟨rfl, e0, (by decide : 0 + 1 ≤ _), (by decide : 0 + 160 ≤ _)⟩)
  dsimp only [Pt.U, Pt.locs, Pt.cells, Pt.slots] at X134 l134 y134 z134 st134 hQ134
  subst l134 y134 z134
  obtain ⟨rfl, N134q, KC134, RR⟩ := hQ134
  have N134 := Fr.app N0 N134q
  have K134 := (Keep.refl h0 [b1, v1]).trans KC134 (allS (Or.inl mem_b1) (allS (Or.inl mem_v1) all0))
  have pre135 : ∀ t, Steps p.tables e below (T134.setTop (mkF m 7 #[.val (.ref b1), .val (.int p1)] [(.ref b1)])) t → Steps p.tables e below (s₁.setTop (mkF m 0 #[.val (.ref b1), .val (.int p1)] [])) t := by
    intro t kt
    show Steps p.tables e below (s₁.setTop (mkF m 0 #[.val (.ref b1), .val (.int p1)] [])) _
    refine XS.aloadN X0.here hx rfl (hb hby d34_0) rfl rfl ?_
    refine XS.iloadN X0.here hx rfl (hb hby d34_1) rfl ?_
    refine st134.trans ?_
    show Steps p.tables e below (T134.setTop (mkF m 5 #[.val (.ref b1), .val (.int p1)] [(.ref b1)])) _
    refine XS.pop X134.here hx rfl (hb hby d34_5) rfl rfl ?_
    refine XS.aloadN X134.here hx rfl (hb hby d34_6) rfl rfl ?_
    exact kt
  obtain ⟨fs, hr, hrun, hended, hW, hsame⟩ := X134.leave (v := some (.ref b1)) (fun h => by rw [Bd.returns] at h; cases h)
  refine ⟨_, _, (pre0 _ (pre135 _ ?_)), hrun, hended, _, _, rfl, ?_, ⟨_, rfl⟩, hW, hsame.mono (by decide) (by decide)⟩
  · show Steps p.tables e below (T134.setTop (mkF m 7 #[.val (.ref b1), .val (.int p1)] [(.ref b1)])) _
    exact retOut X134 hx (t := (.object "java/lang/StringBuilder")) Bd.returns rfl (Or.inr (Or.inr (Or.inr (Or.inr ⟨rfl, rfl, rfl⟩)))) (hb hby d34_7) hr
  · show QSApC Z b1 v1 k1 cp ct vs p1 zc h0 n0 _ T134.heap _
    exact ⟨rfl, N134, K134, RR⟩
theorem ef_AInit (m : MethodId) (x0 : Addr) (x1 : Int32) : entryFrame m #[(.ref x0), (.int x1)] 2 = mkF m 0 #[.val (.ref x0), .val (.int x1)] [] := by (first | (simp [entryFrame, mkF, argsToLocals, Value.category]; done) | rfl)
def QAInit (Z : State) (b1 : Addr) (zc : Int32) (h0 : Heap) (n0 : Nat) (v : Option Value) (h : Heap) (L : List Loc) : Prop := v = none ∧ Fr n0 L ∧ Keep h0 h [b1] ∧ ∃ (v2 : Addr) (k2 : ClassId), (Exa Z h b1 "java/lang/StringBuilder" ∧ Fld Z h b1 "java/lang/AbstractStringBuilder" "value" "[B" (.ref v2) ∧ Fld Z h b1 "java/lang/AbstractStringBuilder" "coder" "B" (.int (0 : Int32)) ∧ Fld Z h b1 "java/lang/AbstractStringBuilder" "count" "I" (.int (Int32.ofNat 0)) ∧ Arv Z h v2 k2 .byte (Int32.ofNat 16) (List.replicate 16 (.int (0 : Int32))) (.int (0 : Int32)) ∧ Exa Z h v2 "[B") ∧ h0.size ≤ v2
theorem d8_0 : decode jdk_68_method_2_code 0 = .ok (.aload_n 0, 1) := by decide +kernel
theorem d8_1 : decode jdk_68_method_2_code 1 = .ok (.invokespecial 3, 3) := by decide +kernel
theorem d8_4 : decode jdk_68_method_2_code 4 = .ok (.getstatic 18, 3) := by decide +kernel
theorem d8_7 : decode jdk_68_method_2_code 7 = .ok (.ifCond .eq 18, 3) := by decide +kernel
theorem d8_10 : decode jdk_68_method_2_code 10 = .ok (.aload_n 0, 1) := by decide +kernel
theorem d8_11 : decode jdk_68_method_2_code 11 = .ok (.iload_n 1, 1) := by decide +kernel
theorem d8_12 : decode jdk_68_method_2_code 12 = .ok (.newarray .byte, 2) := by decide +kernel
theorem d8_14 : decode jdk_68_method_2_code 14 = .ok (.putfield 15, 3) := by decide +kernel
theorem d8_17 : decode jdk_68_method_2_code 17 = .ok (.aload_n 0, 1) := by decide +kernel
theorem d8_18 : decode jdk_68_method_2_code 18 = .ok (.iconst 0, 1) := by decide +kernel
theorem d8_19 : decode jdk_68_method_2_code 19 = .ok (.putfield 22, 3) := by decide +kernel
theorem d8_22 : decode jdk_68_method_2_code 22 = .ok (.goto 16, 3) := by decide +kernel
theorem d8_38 : decode jdk_68_method_2_code 38 = .ok (.return_, 1) := by decide +kernel
set_option maxRecDepth 65536 in
set_option maxHeartbeats 40000000 in
theorem rmAInit (l : Launch) (Z : State) (a0 : Array Value) (hw : ∀ d ∈ tables_1, d.before a0 Z = true) (ws : List Jvm.Cond) (b1 : Addr) (zc : Int32) (h0 : Heap) (n0 : Nat) (Z0 : n0 ≤ h0.size) (BE : Exa Z h0 b1 "java/lang/StringBuilder") (FV0 : Fld Z h0 b1 "java/lang/AbstractStringBuilder" "value" "[B" .null) (FC0 : Fld Z h0 b1 "java/lang/AbstractStringBuilder" "coder" "B" (.int (0 : Int32))) (FN0 : Fld Z h0 b1 "java/lang/AbstractStringBuilder" "count" "I" (.int (0 : Int32))) (g_b1 : n0 ≤ b1) (OZ : Old Z n0 h0) (SC : Sta Z Z.heap "java/lang/String" "COMPACT_STRINGS" "Z" (.int zc)) (hzc : ¬ zc = (0 : Int32)) :
    MetFree l (⟨"java/lang/AbstractStringBuilder", "<init>", "(I)V"⟩ : MethodName) (head1 (Jvm.Cond.code (⟨"java/lang/AbstractStringBuilder", "<init>", "(I)V"⟩ : MethodName) jdk_68_method_2_code 2 none :: ws) ({ frames := 1, cells := 1, slots := 16, locals := 14 } : Room)) (fun a U => a = #[(.ref b1), (.int (16 : Int32))] ∧ Z.Warmed39 U.vm ∧ U.heap = h0) (fun _ _ _ _ _ => True) (fun _ U o U' => ∃ v L, o = .returned v ∧ QAInit Z b1 zc h0 n0 v U'.heap L ∧ FrameEnd U o U' L ({ frames := 1, cells := 1, slots := 16, locals := 14 } : Room).cells ({ frames := 1, cells := 1, slots := 16, locals := 14 } : Room).slots) := by
  refine MetFree.of_bodySF (plainFor_of_name pn_java_lang_AbstractStringBuilder) hisR ?_
  intro p e s m args below meth c s₁ Bd hml0 hP hK
  obtain ⟨rfl, hZ, hh⟩ := hP
  have hx := Bd.exec
  have hby := Bd.bytes
  have hml : c.maxLocals = 2 := hml0
  have hown : s.vm.findClass "java/lang/AbstractStringBuilder" = some m.cls := findClass_of_methodNamed Bd.named
  have hnm := (name_of_methodNamed Bd.named Bd.method).1
  have X0 : Stand p l e ({ frames := 1, cells := 1, slots := 16, locals := 14 } : Room) s m #[(.ref b1), (.int (16 : Int32))] below meth c s₁ [] 0 0 := Stand.of_body Bd
  have e0 : s₁.heap = h0 := by rw [← hh, Bd.state]; rfl
  have N0 := Fr.nil n0
  have pre0 : ∀ t, Steps p.tables e below (s₁.setTop (mkF m 0 #[.val (.ref b1), .val (.int (16 : Int32))] [])) t → Steps p.tables e below (s₁.setTop (entryFrame m #[(.ref b1), (.int (16 : Int32))] 2)) t := fun t k => castTop (ef_AInit m b1 (16 : Int32)) k
  have mem_b1 : b1 ∈ [b1] := List.mem_of_getElem? (i := 0) rfl
  obtain ⟨T136, X136, e136, st136⟩ := initO X0 hx hZ hown (tw hw 48 rfl) (tw hw 28 rfl) (tw hw 29 rfl) e0 (g := (mkF m 1 #[.val (.ref b1), .val (.int (16 : Int32))] [(.ref b1)])) rfl (by rw [hml]; rfl) rfl (hb hby d8_1) (by decide) (W := 0) (by show 2 * 0 + _ ≤ _; exact Nat.le_of_eq rfl) (by decide)
  obtain ⟨T137, X137, e137, st137⟩ := getS2 X136 hx hZ hown (host := "") (Or.inl (tw hw 49 rfl)) Via.refl e136 (SC.ext OZ.2) (g := (mkF m 4 #[.val (.ref b1), .val (.int (16 : Int32))] [])) rfl (hb hby d8_4)
  obtain ⟨T138, h138, k138, X138, e138, E138, A138, B138, st138⟩ := newPE X137 hx hZ (tw hw 3 rfl) e137 (g := (mkF m 12 #[.val (.ref b1), .val (.int (16 : Int32))] [(.int (16 : Int32)), (.ref b1)])) rfl (hb hby d8_12) rfl (by decide) (cap := 16) (by decide) (by decide) (by decide) (by decide) (ad := "[B") rfl
  obtain ⟨b138, g138⟩ : ∃ z, z = h0.size := ⟨_, rfl⟩
  rw [← g138] at A138 B138 st138
  have sz_b138 : h0.size ≤ b138 := Nat.le_trans (Keep.refl h0 [b1]).1 (Nat.le_of_eq g138.symm)
  have ne_b1_b138 : b1 ≠ b138 := Nat.ne_of_lt (Nat.lt_of_lt_of_le BE.lt (Nat.le_of_eq g138.symm))
  have K138 := (Keep.refl h0 [b1]).ext E138
  have V138 := Arv.new A138 (by decide)
  have VP : Arv Z h138 b138 k138 .byte (Int32.ofNat 16) (List.replicate 16 (.int (0 : Int32))) (.int (0 : Int32)) := V138.pad (pad_rep [] (.int (0 : Int32)) 16)
  have f139 := (FV0.ext E138)
  have f140 := (BE.ext E138)
  obtain ⟨T141, h141, X141, e141, W141, st141⟩ := putF X138 hx hZ hown (host := "") (Or.inl (tw hw 50 rfl)) Via.refl e138 f139 f140 (Or.inl (tw hw 51 rfl)) (tw hw 37 rfl) (ty := (.array .byte)) (by decide) rfl rfl (g := (mkF m 14 #[.val (.ref b1), .val (.int (16 : Int32))] [(.ref b138), (.ref b1)])) rfl rfl (hb hby d8_14)
  have N141 := Fr.snoc X141 N0 g_b1
  have K141 := K138.wr W141 (Or.inl mem_b1)
  have Fw141 := f139.same W141
  have f142 := ((FC0.ext E138).other W141 (Or.inr (slot_ne (Or.inl (tw hw 53 rfl)) (Or.inl (tw hw 51 rfl)) (by decide) (t := .byte) (t' := (.array .byte)) (by decide) (by decide))))
  have f143 := (f140.wr W141)
  obtain ⟨T144, h144, X144, e144, W144, st144⟩ := putFN X141 hx hZ hown (tw hw 52 rfl) Via.refl e141 f142 f143 (Or.inl (tw hw 53 rfl)) (tw hw 37 rfl) (ty := .byte) (v' := (.int (0 : Int32))) (by decide) rfl rfl (g := (mkF m 19 #[.val (.ref b1), .val (.int (16 : Int32))] [(.int (0 : Int32)), (.ref b1)])) rfl rfl (hb hby d8_19)
  have N144 := Fr.snoc X144 N141 g_b1
  have K144 := K141.wr W144 (Or.inl mem_b1)
  have Fw144 := f142.same W144
  have f145 := (f143.wr W144)
  have f146 := (Fw141.other W144 (Or.inr (slot_ne (Or.inl (tw hw 51 rfl)) (Or.inl (tw hw 53 rfl)) (by decide) (t := (.array .byte)) (t' := .byte) (by decide) (by decide))))
  have f147 := (((FN0.ext E138).other W141 (Or.inr (slot_ne (Or.inl (tw hw 78 rfl)) (Or.inl (tw hw 51 rfl)) (by decide) (t := .int) (t' := (.array .byte)) (by decide) (by decide)))).other W144 (Or.inr (slot_ne (Or.inl (tw hw 78 rfl)) (Or.inl (tw hw 53 rfl)) (by decide) (t := .int) (t' := .byte) (by decide) (by decide))))
  have f148 := ((VP.other W141 (Ne.symm ne_b1_b138)).other W144 (Ne.symm ne_b1_b138))
  have f149 := ((B138.wr W141).wr W144)
  have pre150 : ∀ t, Steps p.tables e below (T144.setTop (mkF m 38 #[.val (.ref b1), .val (.int (16 : Int32))] [])) t → Steps p.tables e below (s₁.setTop (mkF m 0 #[.val (.ref b1), .val (.int (16 : Int32))] [])) t := by
    intro t kt
    show Steps p.tables e below (s₁.setTop (mkF m 0 #[.val (.ref b1), .val (.int (16 : Int32))] [])) _
    refine XS.aloadN X0.here hx rfl (hb hby d8_0) rfl rfl ?_
    show Steps p.tables e below (s₁.setTop (mkF m 1 #[.val (.ref b1), .val (.int (16 : Int32))] [(.ref b1)])) _
    refine st136 _ ?_
    refine st137 _ ?_
    refine XS.ifNo X137.here hx rfl (hb hby d8_7) rfl ((if0 _ _).trans (feq (hzc : ¬ (zc = (0 : Int32)))).1) ?_
    show Steps p.tables e below (T137.setTop (mkF m 10 #[.val (.ref b1), .val (.int (16 : Int32))] [])) _
    refine XS.aloadN X137.here hx rfl (hb hby d8_10) rfl rfl ?_
    refine XS.iloadN X137.here hx rfl (hb hby d8_11) rfl ?_
    show Steps p.tables e below (T137.setTop (mkF m 12 #[.val (.ref b1), .val (.int (16 : Int32))] [(.int (16 : Int32)), (.ref b1)])) _
    refine st138 _ ?_
    refine st141 _ ?_
    show Steps p.tables e below (T141.setTop (mkF m 17 #[.val (.ref b1), .val (.int (16 : Int32))] [])) _
    refine XS.aloadN X141.here hx rfl (hb hby d8_17) rfl rfl ?_
    refine XS.iconst X141.here hx rfl (hb hby d8_18) ?_
    refine st144 _ ?_
    show Steps p.tables e below (T144.setTop (mkF m 22 #[.val (.ref b1), .val (.int (16 : Int32))] [])) _
    refine XS.goto X144.here hx rfl (pc0 := 22) (pc' := 38) rfl (hb hby d8_22) (by decide) (by decide) ?_
    exact kt
  obtain ⟨fs, hr, hrun, hended, hW, hsame⟩ := X144.leave (v := none) (fun _ => rfl)
  refine ⟨_, _, (pre0 _ (pre150 _ ?_)), hrun, hended, _, _, rfl, ?_, ⟨_, rfl⟩, hW, hsame.mono (by decide) (by decide)⟩
  · show Steps p.tables e below (T144.setTop (mkF m 38 #[.val (.ref b1), .val (.int (16 : Int32))] [])) _
    exact X144.returnOut hx Bd.returns (hb hby d8_38) hr
  · show QAInit Z b1 zc h0 n0 _ T144.heap _
    rw [e144]
    exact ⟨rfl, N144, K144, b138, k138, ⟨f145, f146, Fw144, f147, f148, f149⟩, sz_b138⟩
theorem ef_SInit (m : MethodId) (x0 : Addr) : entryFrame m #[(.ref x0)] 1 = mkF m 0 #[.val (.ref x0)] [] := by (first | (simp [entryFrame, mkF, argsToLocals, Value.category]; done) | rfl)
def QSInit (Z : State) (b1 : Addr) (zc : Int32) (h0 : Heap) (n0 : Nat) (v : Option Value) (h : Heap) (L : List Loc) : Prop := v = none ∧ Fr n0 L ∧ Keep h0 h [b1] ∧ ∃ (v2 : Addr) (k2 : ClassId), (Exa Z h b1 "java/lang/StringBuilder" ∧ Fld Z h b1 "java/lang/AbstractStringBuilder" "value" "[B" (.ref v2) ∧ Fld Z h b1 "java/lang/AbstractStringBuilder" "coder" "B" (.int (0 : Int32)) ∧ Fld Z h b1 "java/lang/AbstractStringBuilder" "count" "I" (.int (Int32.ofNat 0)) ∧ Arv Z h v2 k2 .byte (Int32.ofNat 16) (List.replicate 16 (.int (0 : Int32))) (.int (0 : Int32)) ∧ Exa Z h v2 "[B") ∧ h0.size ≤ v2
theorem d7_0 : decode jdk_67_method_1_code 0 = .ok (.aload_n 0, 1) := by decide +kernel
theorem d7_1 : decode jdk_67_method_1_code 1 = .ok (.bipush 16, 2) := by decide +kernel
theorem d7_3 : decode jdk_67_method_1_code 3 = .ok (.invokespecial 1, 3) := by decide +kernel
theorem d7_6 : decode jdk_67_method_1_code 6 = .ok (.return_, 1) := by decide +kernel
set_option maxRecDepth 65536 in
set_option maxHeartbeats 40000000 in
theorem rmSInit (l : Launch) (Z : State) (a0 : Array Value) (hw : ∀ d ∈ tables_1, d.before a0 Z = true) (ws : List Jvm.Cond) (b1 : Addr) (zc : Int32) (h0 : Heap) (n0 : Nat) (Z0 : n0 ≤ h0.size) (BE : Exa Z h0 b1 "java/lang/StringBuilder") (FV0 : Fld Z h0 b1 "java/lang/AbstractStringBuilder" "value" "[B" .null) (FC0 : Fld Z h0 b1 "java/lang/AbstractStringBuilder" "coder" "B" (.int (0 : Int32))) (FN0 : Fld Z h0 b1 "java/lang/AbstractStringBuilder" "count" "I" (.int (0 : Int32))) (g_b1 : n0 ≤ b1) (OZ : Old Z n0 h0) (SC : Sta Z Z.heap "java/lang/String" "COMPACT_STRINGS" "Z" (.int zc)) (hzc : ¬ zc = (0 : Int32)) :
    MetFree l (⟨"java/lang/StringBuilder", "<init>", "()V"⟩ : MethodName) (head1 (Jvm.Cond.code (⟨"java/lang/StringBuilder", "<init>", "()V"⟩ : MethodName) jdk_67_method_1_code 1 none :: ws) ({ frames := 2, cells := 1, slots := 16, locals := 40 } : Room)) (fun a U => a = #[(.ref b1)] ∧ Z.Warmed39 U.vm ∧ U.heap = h0) (fun _ _ _ _ _ => True) (fun _ U o U' => ∃ v L, o = .returned v ∧ QSInit Z b1 zc h0 n0 v U'.heap L ∧ FrameEnd U o U' L ({ frames := 2, cells := 1, slots := 16, locals := 40 } : Room).cells ({ frames := 2, cells := 1, slots := 16, locals := 40 } : Room).slots) := by
  refine MetFree.of_bodySF (plainFor_of_name pn_java_lang_StringBuilder) hisR ?_
  intro p e s m args below meth c s₁ Bd hml0 hP hK
  obtain ⟨rfl, hZ, hh⟩ := hP
  have hx := Bd.exec
  have hby := Bd.bytes
  have hml : c.maxLocals = 1 := hml0
  have hown : s.vm.findClass "java/lang/StringBuilder" = some m.cls := findClass_of_methodNamed Bd.named
  have hnm := (name_of_methodNamed Bd.named Bd.method).1
  have X0 : Stand p l e ({ frames := 2, cells := 1, slots := 16, locals := 40 } : Room) s m #[(.ref b1)] below meth c s₁ [] 0 0 := Stand.of_body Bd
  have e0 : s₁.heap = h0 := by rw [← hh, Bd.state]; rfl
  have N0 := Fr.nil n0
  have pre0 : ∀ t, Steps p.tables e below (s₁.setTop (mkF m 0 #[.val (.ref b1)] [])) t → Steps p.tables e below (s₁.setTop (entryFrame m #[(.ref b1)] 1)) t := fun t k => castTop (ef_SInit m b1) k
  have mem_b1 : b1 ∈ [b1] := List.mem_of_getElem? (i := 0) rfl
  obtain ⟨_, _, ⟨T151, L151, k151, n151⟩, -, X151, ⟨Lc151, hQ151, l151, y151, z151⟩, st151⟩ := X0.specialBack hx (y := (⟨"java/lang/AbstractStringBuilder", "<init>", "(I)V"⟩ : MethodName)) rfl hown (mvT hZ (tw hw 42 rfl)) (mvT hZ (tw hw 43 rfl)) (mvT hZ (tw hw 47 rfl)) (by decide) (backOf (W := 0) (rmAInit l Z a0 hw [] b1 zc h0 n0 Z0 BE FV0 FC0 FN0 g_b1 OZ SC hzc) hZ (tw hw 47 rfl) (tw hw 46 rfl) (by decide) (by decide)) (g := (mkF m 3 #[.val (.ref b1)] [(.int (16 : Int32)), (.ref b1)])) rfl (by rw [hml]; rfl) (Steps.refl _) (a := b1) (argsL := [(.int (16 : Int32))]) (rest := []) (lenOf pd__I_V rfl) rfl (by show 2 * 0 + _ ≤ _; exact Nat.le_of_eq rfl) (hb hby d7_3) (fun _ _ => ⟨rfl, e0, (by decide : 0 + 1 ≤ _), (by decide : 0 + 16 ≤ _)⟩)
  dsimp only [Pt.U, Pt.locs, Pt.cells, Pt.slots] at X151 l151 y151 z151 st151 hQ151
  subst l151 y151 z151
  obtain ⟨rfl, N151q, KC151, RR⟩ := hQ151
  have N151 := Fr.app N0 N151q
  have K151 := (Keep.refl h0 [b1]).trans KC151 (allS (Or.inl mem_b1) all0)
  have pre152 : ∀ t, Steps p.tables e below (T151.setTop (mkF m 6 #[.val (.ref b1)] [])) t → Steps p.tables e below (s₁.setTop (mkF m 0 #[.val (.ref b1)] [])) t := by
    intro t kt
    show Steps p.tables e below (s₁.setTop (mkF m 0 #[.val (.ref b1)] [])) _
    refine XS.aloadN X0.here hx rfl (hb hby d7_0) rfl rfl ?_
    refine XS.bipush X0.here hx rfl (hb hby d7_1) ?_
    refine st151.trans ?_
    exact kt
  obtain ⟨fs, hr, hrun, hended, hW, hsame⟩ := X151.leave (v := none) (fun _ => rfl)
  refine ⟨_, _, (pre0 _ (pre152 _ ?_)), hrun, hended, _, _, rfl, ?_, ⟨_, rfl⟩, hW, hsame.mono (by decide) (by decide)⟩
  · show Steps p.tables e below (T151.setTop (mkF m 6 #[.val (.ref b1)] [])) _
    exact X151.returnOut hx Bd.returns (hb hby d7_6) hr
  · show QSInit Z b1 zc h0 n0 _ T151.heap _
    exact ⟨rfl, N151, K151, RR⟩
theorem ef_ChkL (m : MethodId) (x0 : Int32) (x1 : Int32) : entryFrame m #[(.int x0), (.int x1)] 2 = mkF m 0 #[.val (.int x0), .val (.int x1)] [] := by (first | (simp [entryFrame, mkF, argsToLocals, Value.category]; done) | rfl)
def QChkL (Z : State) (p1 : Int32) (h0 : Heap) (n0 : Nat) (v : Option Value) (h : Heap) (L : List Loc) : Prop := v = none ∧ Fr n0 L ∧ h = h0
theorem d31_0 : decode jdk_65_method_131_code 0 = .ok (.iload_n 1, 1) := by decide +kernel
theorem d31_1 : decode jdk_65_method_131_code 1 = .ok (.iload_n 0, 1) := by decide +kernel
theorem d31_2 : decode jdk_65_method_131_code 2 = .ok (.if_icmp .ge 35, 3) := by decide +kernel
theorem d31_37 : decode jdk_65_method_131_code 37 = .ok (.return_, 1) := by decide +kernel
set_option maxRecDepth 65536 in
set_option maxHeartbeats 40000000 in
theorem rmChkL (l : Launch) (Z : State) (a0 : Array Value) (hw : ∀ d ∈ tables_1, d.before a0 Z = true) (ws : List Jvm.Cond) (p1 : Int32) (h0 : Heap) (n0 : Nat) (Z0 : n0 ≤ h0.size) (hp : ¬ (p1 < (0 : Int32))) :
    MetFree l (⟨"java/util/Arrays", "checkLength", "(II)V"⟩ : MethodName) (head1 (Jvm.Cond.code (⟨"java/util/Arrays", "checkLength", "(II)V"⟩ : MethodName) jdk_65_method_131_code 2 none :: ws) ({ frames := 0, cells := 0, slots := 0, locals := 0 } : Room)) (fun a U => a = #[(.int (0 : Int32)), (.int p1)] ∧ Z.Warmed39 U.vm ∧ U.heap = h0) (fun _ _ _ _ _ => True) (fun _ U o U' => ∃ v L, o = .returned v ∧ QChkL Z p1 h0 n0 v U'.heap L ∧ FrameEnd U o U' L ({ frames := 0, cells := 0, slots := 0, locals := 0 } : Room).cells ({ frames := 0, cells := 0, slots := 0, locals := 0 } : Room).slots) := by
  refine MetFree.of_bodySF (plainFor_of_name pn_java_util_Arrays) hisR ?_
  intro p e s m args below meth c s₁ Bd hml0 hP hK
  obtain ⟨rfl, hZ, hh⟩ := hP
  have hx := Bd.exec
  have hby := Bd.bytes
  have hml : c.maxLocals = 2 := hml0
  have hown : s.vm.findClass "java/util/Arrays" = some m.cls := findClass_of_methodNamed Bd.named
  have hnm := (name_of_methodNamed Bd.named Bd.method).1
  have X0 : Stand p l e ({ frames := 0, cells := 0, slots := 0, locals := 0 } : Room) s m #[(.int (0 : Int32)), (.int p1)] below meth c s₁ [] 0 0 := Stand.of_body Bd
  have e0 : s₁.heap = h0 := by rw [← hh, Bd.state]; rfl
  have N0 := Fr.nil n0
  have pre0 : ∀ t, Steps p.tables e below (s₁.setTop (mkF m 0 #[.val (.int (0 : Int32)), .val (.int p1)] [])) t → Steps p.tables e below (s₁.setTop (entryFrame m #[(.int (0 : Int32)), (.int p1)] 2)) t := fun t k => castTop (ef_ChkL m (0 : Int32) p1) k
  have pre153 : ∀ t, Steps p.tables e below (s₁.setTop (mkF m 37 #[.val (.int (0 : Int32)), .val (.int p1)] [])) t → Steps p.tables e below (s₁.setTop (mkF m 0 #[.val (.int (0 : Int32)), .val (.int p1)] [])) t := by
    intro t kt
    show Steps p.tables e below (s₁.setTop (mkF m 0 #[.val (.int (0 : Int32)), .val (.int p1)] [])) _
    refine XS.iloadN X0.here hx rfl (hb hby d31_0) rfl ?_
    refine XS.iloadN X0.here hx rfl (hb hby d31_1) rfl ?_
    refine XS.icmpYes X0.here hx rfl (pc0 := 2) (pc' := 37) rfl (hb hby d31_2) rfl (flt (hp : ¬ (p1 < (0 : Int32)))).2.1 (by decide) (by decide) ?_
    exact kt
  obtain ⟨fs, hr, hrun, hended, hW, hsame⟩ := X0.leave (v := none) (fun _ => rfl)
  refine ⟨_, _, (pre0 _ (pre153 _ ?_)), hrun, hended, _, _, rfl, ?_, ⟨_, rfl⟩, hW, hsame.mono (by decide) (by decide)⟩
  · show Steps p.tables e below (s₁.setTop (mkF m 37 #[.val (.int (0 : Int32)), .val (.int p1)] [])) _
    exact X0.returnOut hx Bd.returns (hb hby d31_37) hr
  · show QChkL Z p1 h0 n0 _ s₁.heap _
    rw [e0]
    exact ⟨rfl, N0, rfl⟩
theorem ef_CRB (m : MethodId) (x0 : Addr) (x1 : Int32) (x2 : Int32) : entryFrame m #[(.ref x0), (.int x1), (.int x2)] 5 = mkF m 0 #[.val (.ref x0), .val (.int x1), .val (.int x2), .unset, .unset] [] := by (first | (simp [entryFrame, mkF, argsToLocals, Value.category]; done) | rfl)
def QCRB (Z : State) (v1 : Addr) (k1 : ClassId) (cp : Nat) (ct : Nat) (vs : List Value) (h0 : Heap) (n0 : Nat) (v : Option Value) (h : Heap) (L : List Loc) : Prop := ∃ x2, v = some (.ref x2) ∧ Fr n0 L ∧ Ext h0 h ∧ h0.size ≤ x2 ∧ ∃ k2, Arv Z h x2 k2 .byte (Int32.ofNat ct) (vs.take ct) (.int (0 : Int32))
theorem d30_0 : decode jdk_65_method_133_code 0 = .ok (.iload_n 1, 1) := by decide +kernel
theorem d30_1 : decode jdk_65_method_133_code 1 = .ok (.iload_n 2, 1) := by decide +kernel
theorem d30_2 : decode jdk_65_method_133_code 2 = .ok (.invokestatic 343, 3) := by decide +kernel
theorem pd__II_V : parseMethodDescriptor "(II)V" = some ⟨[.int, .int], none⟩ := by decide +kernel
theorem d30_5 : decode jdk_65_method_133_code 5 = .ok (.iload_n 2, 1) := by decide +kernel
theorem d30_6 : decode jdk_65_method_133_code 6 = .ok (.iload_n 1, 1) := by decide +kernel
theorem d30_7 : decode jdk_65_method_133_code 7 = .ok (.isub, 1) := by decide +kernel
theorem d30_8 : decode jdk_65_method_133_code 8 = .ok (.istore_n 3, 1) := by decide +kernel
theorem d30_9 : decode jdk_65_method_133_code 9 = .ok (.iload_n 3, 1) := by decide +kernel
theorem d30_10 : decode jdk_65_method_133_code 10 = .ok (.newarray .byte, 2) := by decide +kernel
theorem d30_12 : decode jdk_65_method_133_code 12 = .ok (.astore 4, 2) := by decide +kernel
theorem d30_14 : decode jdk_65_method_133_code 14 = .ok (.aload_n 0, 1) := by decide +kernel
theorem d30_15 : decode jdk_65_method_133_code 15 = .ok (.iload_n 1, 1) := by decide +kernel
theorem d30_16 : decode jdk_65_method_133_code 16 = .ok (.aload 4, 2) := by decide +kernel
theorem d30_18 : decode jdk_65_method_133_code 18 = .ok (.iconst 0, 1) := by decide +kernel
theorem d30_19 : decode jdk_65_method_133_code 19 = .ok (.aload_n 0, 1) := by decide +kernel
theorem d30_20 : decode jdk_65_method_133_code 20 = .ok (.arraylength, 1) := by decide +kernel
theorem d30_21 : decode jdk_65_method_133_code 21 = .ok (.iload_n 1, 1) := by decide +kernel
theorem d30_22 : decode jdk_65_method_133_code 22 = .ok (.isub, 1) := by decide +kernel
theorem d30_23 : decode jdk_65_method_133_code 23 = .ok (.iload_n 3, 1) := by decide +kernel
theorem d30_24 : decode jdk_65_method_133_code 24 = .ok (.invokestatic 304, 3) := by decide +kernel
theorem d30_27 : decode jdk_65_method_133_code 27 = .ok (.invokestatic 150, 3) := by decide +kernel
theorem d30_30 : decode jdk_65_method_133_code 30 = .ok (.aload 4, 2) := by decide +kernel
theorem d30_32 : decode jdk_65_method_133_code 32 = .ok (.areturn, 1) := by decide +kernel
set_option maxRecDepth 65536 in
set_option maxHeartbeats 40000000 in
theorem rmCRB (l : Launch) (Z : State) (a0 : Array Value) (hw : ∀ d ∈ tables_1, d.before a0 Z = true) (ws : List Jvm.Cond) (v1 : Addr) (k1 : ClassId) (cp : Nat) (ct : Nat) (vs : List Value) (h0 : Heap) (n0 : Nat) (Z0 : n0 ≤ h0.size) (BA : Arv Z h0 v1 k1 .byte (Int32.ofNat cp) vs (.int (0 : Int32))) (BX : Exa Z h0 v1 "[B") (hvl : vs.length = cp) (hcp : cp ≤ 1000) (hct : ct ≤ cp) (hcT : ct ≤ 128 ∧ ct ≠ cp) :
    MetFree l (⟨"java/util/Arrays", "copyOfRangeByte", "([BII)[B"⟩ : MethodName) (head1 (Jvm.Cond.code (⟨"java/util/Arrays", "copyOfRangeByte", "([BII)[B"⟩ : MethodName) jdk_65_method_133_code 5 (some (.array .byte)) :: ws) ({ frames := 1, cells := 1, slots := 128, locals := 44 } : Room)) (fun a U => a = #[(.ref v1), (.int (0 : Int32)), (.int (Int32.ofNat ct))] ∧ Z.Warmed39 U.vm ∧ U.heap = h0) (fun _ _ _ _ _ => True) (fun _ U o U' => ∃ v L, o = .returned v ∧ QCRB Z v1 k1 cp ct vs h0 n0 v U'.heap L ∧ FrameEnd U o U' L ({ frames := 1, cells := 1, slots := 128, locals := 44 } : Room).cells ({ frames := 1, cells := 1, slots := 128, locals := 44 } : Room).slots) := by
  refine MetFree.of_bodySF (plainFor_of_name pn_java_util_Arrays) hisR ?_
  intro p e s m args below meth c s₁ Bd hml0 hP hK
  obtain ⟨rfl, hZ, hh⟩ := hP
  have hx := Bd.exec
  have hby := Bd.bytes
  have hml : c.maxLocals = 5 := hml0
  have hown : s.vm.findClass "java/util/Arrays" = some m.cls := findClass_of_methodNamed Bd.named
  have hnm := (name_of_methodNamed Bd.named Bd.method).1
  have X0 : Stand p l e ({ frames := 1, cells := 1, slots := 128, locals := 44 } : Room) s m #[(.ref v1), (.int (0 : Int32)), (.int (Int32.ofNat ct))] below meth c s₁ [] 0 0 := Stand.of_body Bd
  have e0 : s₁.heap = h0 := by rw [← hh, Bd.state]; rfl
  have N0 := Fr.nil n0
  have pre0 : ∀ t, Steps p.tables e below (s₁.setTop (mkF m 0 #[.val (.ref v1), .val (.int (0 : Int32)), .val (.int (Int32.ofNat ct)), .unset, .unset] [])) t → Steps p.tables e below (s₁.setTop (entryFrame m #[(.ref v1), (.int (0 : Int32)), (.int (Int32.ofNat ct))] 5)) t := fun t k => castTop (ef_CRB m v1 (0 : Int32) (Int32.ofNat ct)) k
  obtain ⟨_, _, ⟨T154, L154, k154, n154⟩, -, X154, ⟨Lc154, hQ154, l154, y154, z154⟩, st154⟩ := Jvm.LawKit.callS X0 hx (y := (⟨"java/util/Arrays", "checkLength", "(II)V"⟩ : MethodName)) hown (mvT hZ (tw hw 164 rfl)) (mvT hZ (tw hw 165 rfl)) (mvT hZ (tw hw 101 rfl)) (mvT hZ (tw hw 166 rfl)) (by decide) (backOf (W := 0) (rmChkL l Z a0 hw [] (Int32.ofNat ct) h0 n0 Z0 (own_nn (by omega))) hZ (tw hw 166 rfl) (tw hw 101 rfl) (by decide) (by decide)) (g := (mkF m 2 #[.val (.ref v1), .val (.int (0 : Int32)), .val (.int (Int32.ofNat ct)), .unset, .unset] [(.int (Int32.ofNat ct)), (.int (0 : Int32))])) rfl (by rw [hml]; rfl) (argsL := [(.int (0 : Int32)), (.int (Int32.ofNat ct))]) (rest := []) (lenOf pd__II_V rfl) rfl (by show 2 * 0 + _ ≤ _; exact Nat.le_of_eq rfl) (hb hby d30_2) (fun _ _ => ⟨rfl, e0, (by decide : 0 + 0 ≤ _), (by decide : 0 + 0 ≤ _)⟩)
  dsimp only [Pt.U, Pt.locs, Pt.cells, Pt.slots] at X154 l154 y154 z154 st154 hQ154
  subst l154 y154 z154
  obtain ⟨rfl, N154q, EQ154⟩ := hQ154
  have N154 := Fr.app N0 N154q
  have Z154 : n0 ≤ T154.heap.size := by rw [EQ154]; exact Z0
  have K154 := own_keq EQ154 (Keep.refl h0 [])
  obtain ⟨T155, h155, k155, X155, e155, E155, A155, st155⟩ := newP X154 hx hZ (tw hw 3 rfl) rfl (g := (mkF m 10 #[.val (.ref v1), .val (.int (0 : Int32)), .val (.int (Int32.ofNat ct)), .val (.int (Int32.ofNat ct)), .unset] [(.int (Int32.ofNat ct))])) rfl (hb hby d30_10) rfl (own_nn (by omega)) (cap := 128) (by rw [own_nc (by omega)]; exact hcT.1) (by decide) (by decide) (by decide)
  obtain ⟨b155, g155⟩ : ∃ z, z = T154.heap.size := ⟨_, rfl⟩
  rw [← g155] at A155 st155
  have g_b155 : n0 ≤ b155 := Nat.le_trans Z154 (Nat.le_of_eq g155.symm)
  have sz_b155 : h0.size ≤ b155 := Nat.le_trans K154.1 (Nat.le_of_eq g155.symm)
  have f156 := (EQ154 ▸ BA)
  have Z155 := Nat.le_trans Z154 E155.1
  have K155 := K154.ext E155
  have V155 := Arv.new A155 (own_nn (by omega))
  have VP : Arv Z h155 b155 k155 .byte (Int32.ofNat ct) (List.replicate ct (.int (0 : Int32))) (.int (0 : Int32)) := V155.pad (pad_rep [] (.int (0 : Int32)) ct)
  have f157 := (f156.ext E155)
  obtain ⟨c158, Ar158, -, S158, M158, -, -⟩ := id f157
  obtain ⟨_, _, ⟨T159, L159, k159, n159⟩, -, X159, ⟨Lc159, hQ159, l159, y159, z159⟩, st159⟩ := Jvm.LawKit.callS X155 hx (y := (⟨"java/lang/Math", "min", "(II)I"⟩ : MethodName)) hown (mvT hZ (tw hw 103 rfl)) (mvT hZ (tw hw 104 rfl)) (mvT hZ (tw hw 95 rfl)) (mvT hZ (tw hw 105 rfl)) (by decide) (backOf (W := 4) (rmmin l Z a0 hw [] (Int32.ofNat cp) (Int32.ofNat ct) h155 n0 Z155) hZ (tw hw 105 rfl) (tw hw 95 rfl) (by decide) (by decide)) (g := (mkF m 24 #[.val (.ref v1), .val (.int (0 : Int32)), .val (.int (Int32.ofNat ct)), .val (.int (Int32.ofNat ct)), .val (.ref b155)] [(.int (Int32.ofNat ct)), (.int (Int32.ofNat cp)), (.int (0 : Int32)), (.ref b155), (.int (0 : Int32)), (.ref v1)])) rfl (by rw [hml]; rfl) (argsL := [(.int (Int32.ofNat cp)), (.int (Int32.ofNat ct))]) (rest := [(.int (0 : Int32)), (.ref b155), (.int (0 : Int32)), (.ref v1)]) (lenOf pd__II_I rfl) rfl (by show 2 * 0 + _ ≤ _; exact Nat.le_of_eq rfl) (hb hby d30_24) (fun _ _ => ⟨rfl, e155, (by decide : 1 + 0 ≤ _), (by decide : 128 + 0 ≤ _)⟩)
  dsimp only [Pt.U, Pt.locs, Pt.cells, Pt.slots] at X159 l159 y159 z159 st159 hQ159
  subst l159 y159 z159
  obtain ⟨rfl, N159q, EQ159⟩ := hQ159
  have N159 := Fr.app N154 N159q
  have K159 := own_keq EQ159 K155
  have em : own_min (Int32.ofNat cp) (Int32.ofNat ct) = Int32.ofNat ct := by rw [own_minn (by omega) (by omega), Nat.min_eq_right (by omega)]
  have f160 := (EQ159 ▸ f157)
  have f161 := (EQ159 ▸ VP)
  obtain ⟨T162, h162, L162, X162, e162, N162, KC162, V162, st162⟩ := own_cp X159 hx hZ hown (tw hw 106 rfl) (tw hw 109 rfl) (tw hw 107 rfl) (tw hw 108 rfl) rfl (cp) (ct) (0) (0) (ct) f160 f161 hvl (by simp) (by omega) (by omega) (by omega) (by omega) N159 g_b155 (g := (mkF m 27 #[.val (.ref v1), .val (.int (0 : Int32)), .val (.int (Int32.ofNat ct)), .val (.int (Int32.ofNat ct)), .val (.ref b155)] [(.int (Int32.ofNat ct)), (.int (0 : Int32)), (.ref b155), (.int (0 : Int32)), (.ref v1)])) rfl (by rw [hml]; rfl) rfl (hb hby d30_27) (by decide) (W := 0) (by show 2 * 0 + _ ≤ _; exact Nat.le_of_eq rfl) (by decide)
  have K162 := K159.trans KC162 (allS (Or.inr sz_b155) all0)
  have VV : Arv Z h162 b155 k155 .byte (Int32.ofNat ct) (vs.take ct) (.int (0 : Int32)) := by have q := V162; simpa using q
  have pre163 : ∀ t, Steps p.tables e below (T162.setTop (mkF m 32 #[.val (.ref v1), .val (.int (0 : Int32)), .val (.int (Int32.ofNat ct)), .val (.int (Int32.ofNat ct)), .val (.ref b155)] [(.ref b155)])) t → Steps p.tables e below (s₁.setTop (mkF m 0 #[.val (.ref v1), .val (.int (0 : Int32)), .val (.int (Int32.ofNat ct)), .unset, .unset] [])) t := by
    intro t kt
    show Steps p.tables e below (s₁.setTop (mkF m 0 #[.val (.ref v1), .val (.int (0 : Int32)), .val (.int (Int32.ofNat ct)), .unset, .unset] [])) _
    refine XS.iloadN X0.here hx rfl (hb hby d30_0) rfl ?_
    refine XS.iloadN X0.here hx rfl (hb hby d30_1) rfl ?_
    refine st154 _ ?_
    show Steps p.tables e below (T154.setTop (mkF m 5 #[.val (.ref v1), .val (.int (0 : Int32)), .val (.int (Int32.ofNat ct)), .unset, .unset] [])) _
    refine XS.iloadN X154.here hx rfl (hb hby d30_5) rfl ?_
    refine XS.iloadN X154.here hx rfl (hb hby d30_6) rfl ?_
    refine XS.isub X154.here hx rfl (hb hby d30_7) rfl ?_
    show Steps p.tables e below (T154.setTop (mkF m 8 #[.val (.ref v1), .val (.int (0 : Int32)), .val (.int (Int32.ofNat ct)), .unset, .unset] [(.int ((Int32.ofNat ct) - (0 : Int32)))])) _
    rw [Int32.sub_zero]
    show Steps p.tables e below (T154.setTop (mkF m 8 #[.val (.ref v1), .val (.int (0 : Int32)), .val (.int (Int32.ofNat ct)), .unset, .unset] [(.int (Int32.ofNat ct))])) _
    refine XS.istoreN X154.here hx rfl (hb hby d30_8) rfl (l' := #[.val (.ref v1), .val (.int (0 : Int32)), .val (.int (Int32.ofNat ct)), .val (.int (Int32.ofNat ct)), .unset]) rfl ?_
    refine XS.iloadN X154.here hx rfl (hb hby d30_9) rfl ?_
    show Steps p.tables e below (T154.setTop (mkF m 10 #[.val (.ref v1), .val (.int (0 : Int32)), .val (.int (Int32.ofNat ct)), .val (.int (Int32.ofNat ct)), .unset] [(.int (Int32.ofNat ct))])) _
    refine st155 _ ?_
    show Steps p.tables e below (T155.setTop (mkF m 12 #[.val (.ref v1), .val (.int (0 : Int32)), .val (.int (Int32.ofNat ct)), .val (.int (Int32.ofNat ct)), .unset] [(.ref b155)])) _
    refine XS.astore X155.here hx rfl (hb hby d30_12) rfl rfl (l' := #[.val (.ref v1), .val (.int (0 : Int32)), .val (.int (Int32.ofNat ct)), .val (.int (Int32.ofNat ct)), .val (.ref b155)]) rfl ?_
    refine XS.aloadN X155.here hx rfl (hb hby d30_14) rfl rfl ?_
    refine XS.iloadN X155.here hx rfl (hb hby d30_15) rfl ?_
    refine XS.aload X155.here hx rfl (hb hby d30_16) rfl rfl ?_
    refine XS.iconst X155.here hx rfl (hb hby d30_18) ?_
    refine XS.aloadN X155.here hx rfl (hb hby d30_19) rfl rfl ?_
    refine X155.arraylength hx (by rw [e155]; exact Ar158.1) (State.isArrayOf_alike hZ.alike Ar158.2.1) (g := (mkF m 20 #[.val (.ref v1), .val (.int (0 : Int32)), .val (.int (Int32.ofNat ct)), .val (.int (Int32.ofNat ct)), .val (.ref b155)] [(.ref v1), (.int (0 : Int32)), (.ref b155), (.int (0 : Int32)), (.ref v1)])) rfl rfl (hb hby d30_20) _ ?_
    rw [len_of S158 M158]
    show Steps p.tables e below (T155.setTop (mkF m 21 #[.val (.ref v1), .val (.int (0 : Int32)), .val (.int (Int32.ofNat ct)), .val (.int (Int32.ofNat ct)), .val (.ref b155)] [(.int (Int32.ofNat cp)), (.int (0 : Int32)), (.ref b155), (.int (0 : Int32)), (.ref v1)])) _
    refine XS.iloadN X155.here hx rfl (hb hby d30_21) rfl ?_
    refine XS.isub X155.here hx rfl (hb hby d30_22) rfl ?_
    show Steps p.tables e below (T155.setTop (mkF m 23 #[.val (.ref v1), .val (.int (0 : Int32)), .val (.int (Int32.ofNat ct)), .val (.int (Int32.ofNat ct)), .val (.ref b155)] [(.int ((Int32.ofNat cp) - (0 : Int32))), (.int (0 : Int32)), (.ref b155), (.int (0 : Int32)), (.ref v1)])) _
    rw [Int32.sub_zero]
    show Steps p.tables e below (T155.setTop (mkF m 23 #[.val (.ref v1), .val (.int (0 : Int32)), .val (.int (Int32.ofNat ct)), .val (.int (Int32.ofNat ct)), .val (.ref b155)] [(.int (Int32.ofNat cp)), (.int (0 : Int32)), (.ref b155), (.int (0 : Int32)), (.ref v1)])) _
    refine XS.iloadN X155.here hx rfl (hb hby d30_23) rfl ?_
    refine st159 _ ?_
    show Steps p.tables e below (T159.setTop (mkF m 27 #[.val (.ref v1), .val (.int (0 : Int32)), .val (.int (Int32.ofNat ct)), .val (.int (Int32.ofNat ct)), .val (.ref b155)] [(.int (own_min (Int32.ofNat cp) (Int32.ofNat ct))), (.int (0 : Int32)), (.ref b155), (.int (0 : Int32)), (.ref v1)])) _
    rw [em]
    show Steps p.tables e below (T159.setTop (mkF m 27 #[.val (.ref v1), .val (.int (0 : Int32)), .val (.int (Int32.ofNat ct)), .val (.int (Int32.ofNat ct)), .val (.ref b155)] [(.int (Int32.ofNat ct)), (.int (0 : Int32)), (.ref b155), (.int (0 : Int32)), (.ref v1)])) _
    refine st162 _ ?_
    show Steps p.tables e below (T162.setTop (mkF m 30 #[.val (.ref v1), .val (.int (0 : Int32)), .val (.int (Int32.ofNat ct)), .val (.int (Int32.ofNat ct)), .val (.ref b155)] [])) _
    refine XS.aload X162.here hx rfl (hb hby d30_30) rfl rfl ?_
    exact kt
  obtain ⟨fs, hr, hrun, hended, hW, hsame⟩ := X162.leave (v := some (.ref b155)) (fun h => by rw [Bd.returns] at h; cases h)
  refine ⟨_, _, (pre0 _ (pre163 _ ?_)), hrun, hended, _, _, rfl, ?_, ⟨_, rfl⟩, hW, hsame.mono (by decide) (by decide)⟩
  · show Steps p.tables e below (T162.setTop (mkF m 32 #[.val (.ref v1), .val (.int (0 : Int32)), .val (.int (Int32.ofNat ct)), .val (.int (Int32.ofNat ct)), .val (.ref b155)] [(.ref b155)])) _
    exact retOut X162 hx (t := (.array .byte)) Bd.returns rfl (Or.inr (Or.inr (Or.inr (Or.inr ⟨rfl, rfl, rfl⟩)))) (hb hby d30_32) hr
  · show QCRB Z v1 k1 cp ct vs h0 n0 _ T162.heap _
    rw [e162]
    exact ⟨b155, rfl, N162, own_ext K162, sz_b155, k155, VV⟩
theorem ef_CpR (m : MethodId) (x0 : Addr) (x1 : Int32) (x2 : Int32) : entryFrame m #[(.ref x0), (.int x1), (.int x2)] 3 = mkF m 0 #[.val (.ref x0), .val (.int x1), .val (.int x2)] [] := by (first | (simp [entryFrame, mkF, argsToLocals, Value.category]; done) | rfl)
def QCpR (Z : State) (v1 : Addr) (k1 : ClassId) (cp : Nat) (ct : Nat) (vs : List Value) (h0 : Heap) (n0 : Nat) (v : Option Value) (h : Heap) (L : List Loc) : Prop := ∃ x2, v = some (.ref x2) ∧ Fr n0 L ∧ Ext h0 h ∧ h0.size ≤ x2 ∧ ∃ k2, Arv Z h x2 k2 .byte (Int32.ofNat ct) (vs.take ct) (.int (0 : Int32))
theorem d29_0 : decode jdk_65_method_132_code 0 = .ok (.iload_n 1, 1) := by decide +kernel
theorem d29_1 : decode jdk_65_method_132_code 1 = .ok (.ifCond .ne 9, 3) := by decide +kernel
theorem d29_4 : decode jdk_65_method_132_code 4 = .ok (.iload_n 2, 1) := by decide +kernel
theorem d29_5 : decode jdk_65_method_132_code 5 = .ok (.aload_n 0, 1) := by decide +kernel
theorem d29_6 : decode jdk_65_method_132_code 6 = .ok (.arraylength, 1) := by decide +kernel
theorem d29_7 : decode jdk_65_method_132_code 7 = .ok (.if_icmp .eq 10, 3) := by decide +kernel
theorem d29_10 : decode jdk_65_method_132_code 10 = .ok (.aload_n 0, 1) := by decide +kernel
theorem d29_11 : decode jdk_65_method_132_code 11 = .ok (.iload_n 1, 1) := by decide +kernel
theorem d29_12 : decode jdk_65_method_132_code 12 = .ok (.iload_n 2, 1) := by decide +kernel
theorem d29_13 : decode jdk_65_method_132_code 13 = .ok (.invokestatic 339, 3) := by decide +kernel
theorem pd___BII__B : parseMethodDescriptor "([BII)[B" = some ⟨[(.array .byte), .int, .int], some (.array .byte)⟩ := by decide +kernel
theorem d29_16 : decode jdk_65_method_132_code 16 = .ok (.areturn, 1) := by decide +kernel
set_option maxRecDepth 65536 in
set_option maxHeartbeats 40000000 in
theorem rmCpR (l : Launch) (Z : State) (a0 : Array Value) (hw : ∀ d ∈ tables_1, d.before a0 Z = true) (ws : List Jvm.Cond) (v1 : Addr) (k1 : ClassId) (cp : Nat) (ct : Nat) (vs : List Value) (h0 : Heap) (n0 : Nat) (Z0 : n0 ≤ h0.size) (BA : Arv Z h0 v1 k1 .byte (Int32.ofNat cp) vs (.int (0 : Int32))) (BX : Exa Z h0 v1 "[B") (hvl : vs.length = cp) (hcp : cp ≤ 1000) (hct : ct ≤ cp) (hcT : ct ≤ 128 ∧ ct ≠ cp) :
    MetFree l (⟨"java/util/Arrays", "copyOfRange", "([BII)[B"⟩ : MethodName) (head1 (Jvm.Cond.code (⟨"java/util/Arrays", "copyOfRange", "([BII)[B"⟩ : MethodName) jdk_65_method_132_code 3 (some (.array .byte)) :: ws) ({ frames := 2, cells := 1, slots := 128, locals := 70 } : Room)) (fun a U => a = #[(.ref v1), (.int (0 : Int32)), (.int (Int32.ofNat ct))] ∧ Z.Warmed39 U.vm ∧ U.heap = h0) (fun _ _ _ _ _ => True) (fun _ U o U' => ∃ v L, o = .returned v ∧ QCpR Z v1 k1 cp ct vs h0 n0 v U'.heap L ∧ FrameEnd U o U' L ({ frames := 2, cells := 1, slots := 128, locals := 70 } : Room).cells ({ frames := 2, cells := 1, slots := 128, locals := 70 } : Room).slots) := by
  refine MetFree.of_bodySF (plainFor_of_name pn_java_util_Arrays) hisR ?_
  intro p e s m args below meth c s₁ Bd hml0 hP hK
  obtain ⟨rfl, hZ, hh⟩ := hP
  have hx := Bd.exec
  have hby := Bd.bytes
  have hml : c.maxLocals = 3 := hml0
  have hown : s.vm.findClass "java/util/Arrays" = some m.cls := findClass_of_methodNamed Bd.named
  have hnm := (name_of_methodNamed Bd.named Bd.method).1
  have X0 : Stand p l e ({ frames := 2, cells := 1, slots := 128, locals := 70 } : Room) s m #[(.ref v1), (.int (0 : Int32)), (.int (Int32.ofNat ct))] below meth c s₁ [] 0 0 := Stand.of_body Bd
  have e0 : s₁.heap = h0 := by rw [← hh, Bd.state]; rfl
  have N0 := Fr.nil n0
  have pre0 : ∀ t, Steps p.tables e below (s₁.setTop (mkF m 0 #[.val (.ref v1), .val (.int (0 : Int32)), .val (.int (Int32.ofNat ct))] [])) t → Steps p.tables e below (s₁.setTop (entryFrame m #[(.ref v1), (.int (0 : Int32)), (.int (Int32.ofNat ct))] 3)) t := fun t k => castTop (ef_CpR m v1 (0 : Int32) (Int32.ofNat ct)) k
  obtain ⟨c164, Ar164, -, S164, M164, -, -⟩ := id BA
  have pre165 : ∀ t, Steps p.tables e below (s₁.setTop (mkF m 7 #[.val (.ref v1), .val (.int (0 : Int32)), .val (.int (Int32.ofNat ct))] [(.int (Int32.ofNat cp)), (.int (Int32.ofNat ct))])) t → Steps p.tables e below (s₁.setTop (mkF m 0 #[.val (.ref v1), .val (.int (0 : Int32)), .val (.int (Int32.ofNat ct))] [])) t := by
    intro t kt
    show Steps p.tables e below (s₁.setTop (mkF m 0 #[.val (.ref v1), .val (.int (0 : Int32)), .val (.int (Int32.ofNat ct))] [])) _
    refine XS.iloadN X0.here hx rfl (hb hby d29_0) rfl ?_
    refine XS.ifNo X0.here hx rfl (hb hby d29_1) rfl ((if0 _ _).trans (teq (rfl : (0 : Int32) = (0 : Int32))).2) ?_
    show Steps p.tables e below (s₁.setTop (mkF m 4 #[.val (.ref v1), .val (.int (0 : Int32)), .val (.int (Int32.ofNat ct))] [])) _
    refine XS.iloadN X0.here hx rfl (hb hby d29_4) rfl ?_
    refine XS.aloadN X0.here hx rfl (hb hby d29_5) rfl rfl ?_
    refine X0.arraylength hx (by rw [e0]; exact Ar164.1) (State.isArrayOf_alike hZ.alike Ar164.2.1) (g := (mkF m 6 #[.val (.ref v1), .val (.int (0 : Int32)), .val (.int (Int32.ofNat ct))] [(.ref v1), (.int (Int32.ofNat ct))])) rfl rfl (hb hby d29_6) _ ?_
    rw [len_of S164 M164]
    exact kt
  by_cases cc : ct = cp
  · skip
    exact absurd cc hcT.2
  · skip
    obtain ⟨_, _, ⟨T166, L166, k166, n166⟩, -, X166, ⟨Lc166, hQ166, l166, y166, z166⟩, st166⟩ := Jvm.LawKit.callS X0 hx (y := (⟨"java/util/Arrays", "copyOfRangeByte", "([BII)[B"⟩ : MethodName)) hown (mvT hZ (tw hw 161 rfl)) (mvT hZ (tw hw 162 rfl)) (mvT hZ (tw hw 101 rfl)) (mvT hZ (tw hw 163 rfl)) (by decide) (backOf (W := 0) (rmCRB l Z a0 hw [] v1 k1 cp ct vs h0 n0 Z0 BA BX hvl hcp hct hcT) hZ (tw hw 163 rfl) (tw hw 101 rfl) (by decide) (by decide)) (g := (mkF m 13 #[.val (.ref v1), .val (.int (0 : Int32)), .val (.int (Int32.ofNat ct))] [(.int (Int32.ofNat ct)), (.int (0 : Int32)), (.ref v1)])) rfl (by rw [hml]; rfl) (argsL := [(.ref v1), (.int (0 : Int32)), (.int (Int32.ofNat ct))]) (rest := []) (lenOf pd___BII__B rfl) rfl (by show 2 * 0 + _ ≤ _; exact Nat.le_of_eq rfl) (hb hby d29_13) (fun _ _ => ⟨rfl, e0, (by decide : 0 + 1 ≤ _), (by decide : 0 + 128 ≤ _)⟩)
    dsimp only [Pt.U, Pt.locs, Pt.cells, Pt.slots] at X166 l166 y166 z166 st166 hQ166
    subst l166 y166 z166
    obtain ⟨x2, rfl, N166q, EX166, le166, RR166⟩ := hQ166
    have N166 := Fr.app N0 N166q
    have pre167 : ∀ t, Steps p.tables e below (T166.setTop (mkF m 16 #[.val (.ref v1), .val (.int (0 : Int32)), .val (.int (Int32.ofNat ct))] [(.ref x2)])) t → Steps p.tables e below (s₁.setTop (mkF m 7 #[.val (.ref v1), .val (.int (0 : Int32)), .val (.int (Int32.ofNat ct))] [(.int (Int32.ofNat cp)), (.int (Int32.ofNat ct))])) t := by
      intro t kt
      refine XS.icmpNo X0.here hx rfl (hb hby d29_7) rfl (feq (fun q => cc ((own_eq (by omega) (by omega)).mp q) : ¬ ((Int32.ofNat ct) = (Int32.ofNat cp)))).1 ?_
      show Steps p.tables e below (s₁.setTop (mkF m 10 #[.val (.ref v1), .val (.int (0 : Int32)), .val (.int (Int32.ofNat ct))] [])) _
      refine XS.aloadN X0.here hx rfl (hb hby d29_10) rfl rfl ?_
      refine XS.iloadN X0.here hx rfl (hb hby d29_11) rfl ?_
      refine XS.iloadN X0.here hx rfl (hb hby d29_12) rfl ?_
      refine st166 _ ?_
      exact kt
    obtain ⟨fs, hr, hrun, hended, hW, hsame⟩ := X166.leave (v := some (.ref x2)) (fun h => by rw [Bd.returns] at h; cases h)
    refine ⟨_, _, (pre0 _ (pre165 _ (pre167 _ ?_))), hrun, hended, _, _, rfl, ?_, ⟨_, rfl⟩, hW, hsame.mono (by decide) (by decide)⟩
    · show Steps p.tables e below (T166.setTop (mkF m 16 #[.val (.ref v1), .val (.int (0 : Int32)), .val (.int (Int32.ofNat ct))] [(.ref x2)])) _
      exact retOut X166 hx (t := (.array .byte)) Bd.returns rfl (Or.inr (Or.inr (Or.inr (Or.inr ⟨rfl, rfl, rfl⟩)))) (hb hby d29_16) hr
    · show QCpR Z v1 k1 cp ct vs h0 n0 _ T166.heap _
      exact ⟨x2, rfl, N166, EX166, le166, RR166⟩
theorem ef_GetV (m : MethodId) (x0 : Addr) : entryFrame m #[(.ref x0)] 1 = mkF m 0 #[.val (.ref x0)] [] := by (first | (simp [entryFrame, mkF, argsToLocals, Value.category]; done) | rfl)
def QGetV (Z : State) (b1 : Addr) (v1 : Addr) (h0 : Heap) (n0 : Nat) (v : Option Value) (h : Heap) (L : List Loc) : Prop := v = some (.ref v1) ∧ Fr n0 L ∧ h = h0
theorem d25_0 : decode jdk_68_method_64_code 0 = .ok (.aload_n 0, 1) := by decide +kernel
theorem d25_1 : decode jdk_68_method_64_code 1 = .ok (.getfield 15, 3) := by decide +kernel
theorem d25_4 : decode jdk_68_method_64_code 4 = .ok (.areturn, 1) := by decide +kernel
set_option maxRecDepth 65536 in
set_option maxHeartbeats 40000000 in
theorem rmGetV (l : Launch) (Z : State) (a0 : Array Value) (hw : ∀ d ∈ tables_1, d.before a0 Z = true) (ws : List Jvm.Cond) (b1 : Addr) (v1 : Addr) (h0 : Heap) (n0 : Nat) (Z0 : n0 ≤ h0.size) (BV : Fld Z h0 b1 "java/lang/AbstractStringBuilder" "value" "[B" (.ref v1)) :
    MetFree l (⟨"java/lang/AbstractStringBuilder", "getValue", "()[B"⟩ : MethodName) (head1 (Jvm.Cond.code (⟨"java/lang/AbstractStringBuilder", "getValue", "()[B"⟩ : MethodName) jdk_68_method_64_code 1 (some (.array .byte)) :: ws) ({ frames := 0, cells := 0, slots := 0, locals := 0 } : Room)) (fun a U => a = #[(.ref b1)] ∧ Z.Warmed39 U.vm ∧ U.heap = h0) (fun _ _ _ _ _ => True) (fun _ U o U' => ∃ v L, o = .returned v ∧ QGetV Z b1 v1 h0 n0 v U'.heap L ∧ FrameEnd U o U' L ({ frames := 0, cells := 0, slots := 0, locals := 0 } : Room).cells ({ frames := 0, cells := 0, slots := 0, locals := 0 } : Room).slots) := by
  refine MetFree.of_bodySF (plainFor_of_name pn_java_lang_AbstractStringBuilder) hisR ?_
  intro p e s m args below meth c s₁ Bd hml0 hP hK
  obtain ⟨rfl, hZ, hh⟩ := hP
  have hx := Bd.exec
  have hby := Bd.bytes
  have hml : c.maxLocals = 1 := hml0
  have hown : s.vm.findClass "java/lang/AbstractStringBuilder" = some m.cls := findClass_of_methodNamed Bd.named
  have hnm := (name_of_methodNamed Bd.named Bd.method).1
  have X0 : Stand p l e ({ frames := 0, cells := 0, slots := 0, locals := 0 } : Room) s m #[(.ref b1)] below meth c s₁ [] 0 0 := Stand.of_body Bd
  have e0 : s₁.heap = h0 := by rw [← hh, Bd.state]; rfl
  have N0 := Fr.nil n0
  have pre0 : ∀ t, Steps p.tables e below (s₁.setTop (mkF m 0 #[.val (.ref b1)] [])) t → Steps p.tables e below (s₁.setTop (entryFrame m #[(.ref b1)] 1)) t := fun t k => castTop (ef_GetV m b1) k
  obtain ⟨T168, X168, e168, st168⟩ := getF X0 hx hZ hown (host := "") (Or.inl (tw hw 50 rfl)) Via.refl e0 BV (g := (mkF m 1 #[.val (.ref b1)] [(.ref b1)])) rfl rfl (hb hby d25_1)
  have pre169 : ∀ t, Steps p.tables e below (T168.setTop (mkF m 4 #[.val (.ref b1)] [(.ref v1)])) t → Steps p.tables e below (s₁.setTop (mkF m 0 #[.val (.ref b1)] [])) t := by
    intro t kt
    show Steps p.tables e below (s₁.setTop (mkF m 0 #[.val (.ref b1)] [])) _
    refine XS.aloadN X0.here hx rfl (hb hby d25_0) rfl rfl ?_
    refine st168 _ ?_
    exact kt
  obtain ⟨fs, hr, hrun, hended, hW, hsame⟩ := X168.leave (v := some (.ref v1)) (fun h => by rw [Bd.returns] at h; cases h)
  refine ⟨_, _, (pre0 _ (pre169 _ ?_)), hrun, hended, _, _, rfl, ?_, ⟨_, rfl⟩, hW, hsame.mono (by decide) (by decide)⟩
  · show Steps p.tables e below (T168.setTop (mkF m 4 #[.val (.ref b1)] [(.ref v1)])) _
    exact retOut X168 hx (t := (.array .byte)) Bd.returns rfl (Or.inr (Or.inr (Or.inr (Or.inr ⟨rfl, rfl, rfl⟩)))) (hb hby d25_4) hr
  · show QGetV Z b1 v1 h0 n0 _ T168.heap _
    rw [e168]
    exact ⟨rfl, N0, rfl⟩
theorem ef_ALen (m : MethodId) (x0 : Addr) : entryFrame m #[(.ref x0)] 1 = mkF m 0 #[.val (.ref x0)] [] := by (first | (simp [entryFrame, mkF, argsToLocals, Value.category]; done) | rfl)
def QALen (Z : State) (b1 : Addr) (ct : Nat) (h0 : Heap) (n0 : Nat) (v : Option Value) (h : Heap) (L : List Loc) : Prop := v = some (.int (Int32.ofNat ct)) ∧ Fr n0 L ∧ h = h0
theorem d27_0 : decode jdk_68_method_6_code 0 = .ok (.aload_n 0, 1) := by decide +kernel
theorem d27_1 : decode jdk_68_method_6_code 1 = .ok (.getfield 79, 3) := by decide +kernel
theorem d27_4 : decode jdk_68_method_6_code 4 = .ok (.ireturn, 1) := by decide +kernel
set_option maxRecDepth 65536 in
set_option maxHeartbeats 40000000 in
theorem rmALen (l : Launch) (Z : State) (a0 : Array Value) (hw : ∀ d ∈ tables_1, d.before a0 Z = true) (ws : List Jvm.Cond) (b1 : Addr) (ct : Nat) (h0 : Heap) (n0 : Nat) (Z0 : n0 ≤ h0.size) (BE : Exa Z h0 b1 "java/lang/StringBuilder") (BN : Fld Z h0 b1 "java/lang/AbstractStringBuilder" "count" "I" (.int (Int32.ofNat ct))) :
    MetFree l (⟨"java/lang/AbstractStringBuilder", "length", "()I"⟩ : MethodName) (head1 (Jvm.Cond.code (⟨"java/lang/AbstractStringBuilder", "length", "()I"⟩ : MethodName) jdk_68_method_6_code 1 (some .int) :: ws) ({ frames := 0, cells := 0, slots := 0, locals := 0 } : Room)) (fun a U => a = #[(.ref b1)] ∧ Z.Warmed39 U.vm ∧ U.heap = h0) (fun _ _ _ _ _ => True) (fun _ U o U' => ∃ v L, o = .returned v ∧ QALen Z b1 ct h0 n0 v U'.heap L ∧ FrameEnd U o U' L ({ frames := 0, cells := 0, slots := 0, locals := 0 } : Room).cells ({ frames := 0, cells := 0, slots := 0, locals := 0 } : Room).slots) := by
  refine MetFree.of_bodySF (plainFor_of_name pn_java_lang_AbstractStringBuilder) hisR ?_
  intro p e s m args below meth c s₁ Bd hml0 hP hK
  obtain ⟨rfl, hZ, hh⟩ := hP
  have hx := Bd.exec
  have hby := Bd.bytes
  have hml : c.maxLocals = 1 := hml0
  have hown : s.vm.findClass "java/lang/AbstractStringBuilder" = some m.cls := findClass_of_methodNamed Bd.named
  have hnm := (name_of_methodNamed Bd.named Bd.method).1
  have X0 : Stand p l e ({ frames := 0, cells := 0, slots := 0, locals := 0 } : Room) s m #[(.ref b1)] below meth c s₁ [] 0 0 := Stand.of_body Bd
  have e0 : s₁.heap = h0 := by rw [← hh, Bd.state]; rfl
  have N0 := Fr.nil n0
  have pre0 : ∀ t, Steps p.tables e below (s₁.setTop (mkF m 0 #[.val (.ref b1)] [])) t → Steps p.tables e below (s₁.setTop (entryFrame m #[(.ref b1)] 1)) t := fun t k => castTop (ef_ALen m b1) k
  obtain ⟨T170, X170, e170, st170⟩ := getF X0 hx hZ hown (host := "") (Or.inl (tw hw 77 rfl)) Via.refl e0 BN (g := (mkF m 1 #[.val (.ref b1)] [(.ref b1)])) rfl rfl (hb hby d27_1)
  have pre171 : ∀ t, Steps p.tables e below (T170.setTop (mkF m 4 #[.val (.ref b1)] [(.int (Int32.ofNat ct))])) t → Steps p.tables e below (s₁.setTop (mkF m 0 #[.val (.ref b1)] [])) t := by
    intro t kt
    show Steps p.tables e below (s₁.setTop (mkF m 0 #[.val (.ref b1)] [])) _
    refine XS.aloadN X0.here hx rfl (hb hby d27_0) rfl rfl ?_
    refine st170 _ ?_
    exact kt
  obtain ⟨fs, hr, hrun, hended, hW, hsame⟩ := X170.leave (v := some (.int (Int32.ofNat ct))) (fun h => by rw [Bd.returns] at h; cases h)
  refine ⟨_, _, (pre0 _ (pre171 _ ?_)), hrun, hended, _, _, rfl, ?_, ⟨_, rfl⟩, hW, hsame.mono (by decide) (by decide)⟩
  · show Steps p.tables e below (T170.setTop (mkF m 4 #[.val (.ref b1)] [(.int (Int32.ofNat ct))])) _
    exact retOut X170 hx (t := .int) Bd.returns rfl (Or.inl ⟨rfl, Or.inl rfl, _, rfl⟩) (hb hby d27_4) hr
  · show QALen Z b1 ct h0 n0 _ T170.heap _
    rw [e170]
    exact ⟨rfl, N0, rfl⟩
theorem ef_SLen (m : MethodId) (x0 : Addr) : entryFrame m #[(.ref x0)] 1 = mkF m 0 #[.val (.ref x0)] [] := by (first | (simp [entryFrame, mkF, argsToLocals, Value.category]; done) | rfl)
def QSLen (Z : State) (b1 : Addr) (ct : Nat) (h0 : Heap) (n0 : Nat) (v : Option Value) (h : Heap) (L : List Loc) : Prop := v = some (.int (Int32.ofNat ct)) ∧ Fr n0 L ∧ h = h0
theorem d26_0 : decode jdk_67_method_93_code 0 = .ok (.aload_n 0, 1) := by decide +kernel
theorem d26_1 : decode jdk_67_method_93_code 1 = .ok (.invokespecial 343, 3) := by decide +kernel
theorem d26_4 : decode jdk_67_method_93_code 4 = .ok (.ireturn, 1) := by decide +kernel
set_option maxRecDepth 65536 in
set_option maxHeartbeats 40000000 in
theorem rmSLen (l : Launch) (Z : State) (a0 : Array Value) (hw : ∀ d ∈ tables_1, d.before a0 Z = true) (ws : List Jvm.Cond) (b1 : Addr) (ct : Nat) (h0 : Heap) (n0 : Nat) (Z0 : n0 ≤ h0.size) (BE : Exa Z h0 b1 "java/lang/StringBuilder") (BN : Fld Z h0 b1 "java/lang/AbstractStringBuilder" "count" "I" (.int (Int32.ofNat ct))) :
    MetFree l (⟨"java/lang/StringBuilder", "length", "()I"⟩ : MethodName) (head1 (Jvm.Cond.code (⟨"java/lang/StringBuilder", "length", "()I"⟩ : MethodName) jdk_67_method_93_code 1 (some .int) :: ws) ({ frames := 1, cells := 0, slots := 0, locals := 14 } : Room)) (fun a U => a = #[(.ref b1)] ∧ Z.Warmed39 U.vm ∧ U.heap = h0) (fun _ _ _ _ _ => True) (fun _ U o U' => ∃ v L, o = .returned v ∧ QSLen Z b1 ct h0 n0 v U'.heap L ∧ FrameEnd U o U' L ({ frames := 1, cells := 0, slots := 0, locals := 14 } : Room).cells ({ frames := 1, cells := 0, slots := 0, locals := 14 } : Room).slots) := by
  refine MetFree.of_bodySF (plainFor_of_name pn_java_lang_StringBuilder) hisR ?_
  intro p e s m args below meth c s₁ Bd hml0 hP hK
  obtain ⟨rfl, hZ, hh⟩ := hP
  have hx := Bd.exec
  have hby := Bd.bytes
  have hml : c.maxLocals = 1 := hml0
  have hown : s.vm.findClass "java/lang/StringBuilder" = some m.cls := findClass_of_methodNamed Bd.named
  have hnm := (name_of_methodNamed Bd.named Bd.method).1
  have X0 : Stand p l e ({ frames := 1, cells := 0, slots := 0, locals := 14 } : Room) s m #[(.ref b1)] below meth c s₁ [] 0 0 := Stand.of_body Bd
  have e0 : s₁.heap = h0 := by rw [← hh, Bd.state]; rfl
  have N0 := Fr.nil n0
  have pre0 : ∀ t, Steps p.tables e below (s₁.setTop (mkF m 0 #[.val (.ref b1)] [])) t → Steps p.tables e below (s₁.setTop (entryFrame m #[(.ref b1)] 1)) t := fun t k => castTop (ef_SLen m b1) k
  obtain ⟨_, _, ⟨T172, L172, k172, n172⟩, -, X172, ⟨Lc172, hQ172, l172, y172, z172⟩, st172⟩ := superBack X0 hx hZ (y := (⟨"java/lang/AbstractStringBuilder", "length", "()I"⟩ : MethodName)) hown (tw hw 151 rfl) (own_same (y := (⟨"java/lang/AbstractStringBuilder", "length", "()I"⟩ : MethodName)) (tw hw 147 rfl) (tw hw 82 rfl) rfl (by decide)) (tw hw 147 rfl) (tw hw 64 rfl) (by decide) (backOf (W := 0) (rmALen l Z a0 hw [] b1 ct h0 n0 Z0 BE BN) hZ (tw hw 152 rfl) (tw hw 46 rfl) (by decide) (by decide)) e0 (Ins.self BE) (g := (mkF m 1 #[.val (.ref b1)] [(.ref b1)])) rfl (by rw [hml]; rfl) (tw hw 152 rfl) (argsL := []) (rest := []) (lenOf pd___I rfl) rfl (by show 2 * 0 + _ ≤ _; exact Nat.le_of_eq rfl) (hb hby d26_1) (fun _ _ => ⟨rfl, e0, (by decide : 0 + 0 ≤ _), (by decide : 0 + 0 ≤ _)⟩)
  dsimp only [Pt.U, Pt.locs, Pt.cells, Pt.slots] at X172 l172 y172 z172 st172 hQ172
  subst l172 y172 z172
  obtain ⟨rfl, N172q, EQ172⟩ := hQ172
  have N172 := Fr.app N0 N172q
  have pre173 : ∀ t, Steps p.tables e below (T172.setTop (mkF m 4 #[.val (.ref b1)] [(.int (Int32.ofNat ct))])) t → Steps p.tables e below (s₁.setTop (mkF m 0 #[.val (.ref b1)] [])) t := by
    intro t kt
    show Steps p.tables e below (s₁.setTop (mkF m 0 #[.val (.ref b1)] [])) _
    refine XS.aloadN X0.here hx rfl (hb hby d26_0) rfl rfl ?_
    refine st172.trans ?_
    exact kt
  obtain ⟨fs, hr, hrun, hended, hW, hsame⟩ := X172.leave (v := some (.int (Int32.ofNat ct))) (fun h => by rw [Bd.returns] at h; cases h)
  refine ⟨_, _, (pre0 _ (pre173 _ ?_)), hrun, hended, _, _, rfl, ?_, ⟨_, rfl⟩, hW, hsame.mono (by decide) (by decide)⟩
  · show Steps p.tables e below (T172.setTop (mkF m 4 #[.val (.ref b1)] [(.int (Int32.ofNat ct))])) _
    exact retOut X172 hx (t := .int) Bd.returns rfl (Or.inl ⟨rfl, Or.inl rfl, _, rfl⟩) (hb hby d26_4) hr
  · show QSLen Z b1 ct h0 n0 _ T172.heap _
    exact ⟨rfl, N172, by rw [EQ172]⟩
theorem ef_SIA (m : MethodId) (x0 : Addr) (x1 : Addr) : entryFrame m #[(.ref x0), (.ref x1), .null] 5 = mkF m 0 #[.val (.ref x0), .val (.ref x1), .val .null, .unset, .unset] [] := by (first | (simp [entryFrame, mkF, argsToLocals, Value.category]; done) | rfl)
def QSIA (Z : State) (x1 : Addr) (b1 : Addr) (v1 : Addr) (k1 : ClassId) (cp : Nat) (ct : Nat) (vs : List Value) (zc : Int32) (h0 : Heap) (n0 : Nat) (v : Option Value) (h : Heap) (L : List Loc) : Prop := v = none ∧ Fr n0 L ∧ Keep h0 h [x1] ∧ ∃ (t2 : Addr) (k2 : ClassId), (Exa Z h x1 "java/lang/String" ∧ Fld Z h x1 "java/lang/String" "value" "[B" (.ref t2) ∧ Fld Z h x1 "java/lang/String" "coder" "B" (.int (0 : Int32)) ∧ Arv Z h t2 k2 .byte (Int32.ofNat ct) (vs.take ct) (.int (0 : Int32))) ∧ h0.size ≤ t2
theorem d24_0 : decode jdk_42_method_150_code 0 = .ok (.aload_n 0, 1) := by decide +kernel
theorem d24_1 : decode jdk_42_method_150_code 1 = .ok (.invokespecial 1, 3) := by decide +kernel
theorem d24_4 : decode jdk_42_method_150_code 4 = .ok (.aload_n 1, 1) := by decide +kernel
theorem d24_5 : decode jdk_42_method_150_code 5 = .ok (.invokevirtual 552, 3) := by decide +kernel
theorem pd____B : parseMethodDescriptor "()[B" = some ⟨[], some (.array .byte)⟩ := by decide +kernel
theorem d24_8 : decode jdk_42_method_150_code 8 = .ok (.astore_n 3, 1) := by decide +kernel
theorem d24_9 : decode jdk_42_method_150_code 9 = .ok (.aload_n 1, 1) := by decide +kernel
theorem d24_10 : decode jdk_42_method_150_code 10 = .ok (.invokevirtual 549, 3) := by decide +kernel
theorem d24_13 : decode jdk_42_method_150_code 13 = .ok (.istore 4, 2) := by decide +kernel
theorem d24_15 : decode jdk_42_method_150_code 15 = .ok (.aload_n 1, 1) := by decide +kernel
theorem d24_16 : decode jdk_42_method_150_code 16 = .ok (.invokevirtual 1047, 3) := by decide +kernel
theorem d24_19 : decode jdk_42_method_150_code 19 = .ok (.ifCond .eq 22, 3) := by decide +kernel
theorem d24_22 : decode jdk_42_method_150_code 22 = .ok (.aload_n 0, 1) := by decide +kernel
theorem d24_23 : decode jdk_42_method_150_code 23 = .ok (.iconst 0, 1) := by decide +kernel
theorem d24_24 : decode jdk_42_method_150_code 24 = .ok (.putfield 15, 3) := by decide +kernel
theorem d24_27 : decode jdk_42_method_150_code 27 = .ok (.aload_n 0, 1) := by decide +kernel
theorem d24_28 : decode jdk_42_method_150_code 28 = .ok (.aload_n 3, 1) := by decide +kernel
theorem d24_29 : decode jdk_42_method_150_code 29 = .ok (.iconst 0, 1) := by decide +kernel
theorem d24_30 : decode jdk_42_method_150_code 30 = .ok (.iload 4, 2) := by decide +kernel
theorem d24_32 : decode jdk_42_method_150_code 32 = .ok (.invokestatic 54, 3) := by decide +kernel
theorem d24_35 : decode jdk_42_method_150_code 35 = .ok (.putfield 9, 3) := by decide +kernel
theorem d24_38 : decode jdk_42_method_150_code 38 = .ok (.goto 59, 3) := by decide +kernel
theorem d24_97 : decode jdk_42_method_150_code 97 = .ok (.return_, 1) := by decide +kernel
set_option maxRecDepth 65536 in
set_option maxHeartbeats 40000000 in
theorem rmSIA (l : Launch) (Z : State) (a0 : Array Value) (hw : ∀ d ∈ tables_1, d.before a0 Z = true) (ws : List Jvm.Cond) (x1 : Addr) (b1 : Addr) (v1 : Addr) (k1 : ClassId) (cp : Nat) (ct : Nat) (vs : List Value) (zc : Int32) (h0 : Heap) (n0 : Nat) (Z0 : n0 ≤ h0.size) (XE : Exa Z h0 x1 "java/lang/String") (XV0 : Fld Z h0 x1 "java/lang/String" "value" "[B" .null) (XC0 : Fld Z h0 x1 "java/lang/String" "coder" "B" (.int (0 : Int32))) (g_x1 : n0 ≤ x1) (BE : Exa Z h0 b1 "java/lang/StringBuilder") (BV : Fld Z h0 b1 "java/lang/AbstractStringBuilder" "value" "[B" (.ref v1)) (BC : Fld Z h0 b1 "java/lang/AbstractStringBuilder" "coder" "B" (.int (0 : Int32))) (BN : Fld Z h0 b1 "java/lang/AbstractStringBuilder" "count" "I" (.int (Int32.ofNat ct))) (BA : Arv Z h0 v1 k1 .byte (Int32.ofNat cp) vs (.int (0 : Int32))) (BX : Exa Z h0 v1 "[B") (hvl : vs.length = cp) (hcp : cp ≤ 1000) (g_b1 : n0 ≤ b1) (g_v1 : n0 ≤ v1) (hct : ct ≤ cp) (hcT : ct ≤ 128 ∧ ct ≠ cp) (OZ : Old Z n0 h0) (SC : Sta Z Z.heap "java/lang/String" "COMPACT_STRINGS" "Z" (.int zc)) (hzc : ¬ zc = (0 : Int32)) :
    MetFree l (⟨"java/lang/String", "<init>", "(Ljava/lang/AbstractStringBuilder;Ljava/lang/Void;)V"⟩ : MethodName) (head1 (Jvm.Cond.code (⟨"java/lang/String", "<init>", "(Ljava/lang/AbstractStringBuilder;Ljava/lang/Void;)V"⟩ : MethodName) jdk_42_method_150_code 5 none :: ws) ({ frames := 3, cells := 1, slots := 128, locals := 100 } : Room)) (fun a U => a = #[(.ref x1), (.ref b1), .null] ∧ Z.Warmed39 U.vm ∧ U.heap = h0) (fun _ _ _ _ _ => True) (fun _ U o U' => ∃ v L, o = .returned v ∧ QSIA Z x1 b1 v1 k1 cp ct vs zc h0 n0 v U'.heap L ∧ FrameEnd U o U' L ({ frames := 3, cells := 1, slots := 128, locals := 100 } : Room).cells ({ frames := 3, cells := 1, slots := 128, locals := 100 } : Room).slots) := by
  refine MetFree.of_bodySF (plainFor_of_name pn_java_lang_String) hisR ?_
  intro p e s m args below meth c s₁ Bd hml0 hP hK
  obtain ⟨rfl, hZ, hh⟩ := hP
  have hx := Bd.exec
  have hby := Bd.bytes
  have hml : c.maxLocals = 5 := hml0
  have hown : s.vm.findClass "java/lang/String" = some m.cls := findClass_of_methodNamed Bd.named
  have hnm := (name_of_methodNamed Bd.named Bd.method).1
  have X0 : Stand p l e ({ frames := 3, cells := 1, slots := 128, locals := 100 } : Room) s m #[(.ref x1), (.ref b1), .null] below meth c s₁ [] 0 0 := Stand.of_body Bd
  have e0 : s₁.heap = h0 := by rw [← hh, Bd.state]; rfl
  have N0 := Fr.nil n0
  have pre0 : ∀ t, Steps p.tables e below (s₁.setTop (mkF m 0 #[.val (.ref x1), .val (.ref b1), .val .null, .unset, .unset] [])) t → Steps p.tables e below (s₁.setTop (entryFrame m #[(.ref x1), (.ref b1), .null] 5)) t := fun t k => castTop (ef_SIA m x1 b1) k
  have mem_x1 : x1 ∈ [x1] := List.mem_of_getElem? (i := 0) rfl
  have ne_x1_v1 : x1 ≠ v1 := XE.ne BX (by decide)
  obtain ⟨T174, X174, e174, st174⟩ := initO X0 hx hZ hown (tw hw 27 rfl) (tw hw 28 rfl) (tw hw 29 rfl) e0 (g := (mkF m 1 #[.val (.ref x1), .val (.ref b1), .val .null, .unset, .unset] [(.ref x1)])) rfl (by rw [hml]; rfl) rfl (hb hby d24_1) (by decide) (W := 0) (by show 2 * 0 + _ ≤ _; exact Nat.le_of_eq rfl) (by decide)
  obtain ⟨cq175, kq175, q175a, q175b, q175c⟩ := isOf hZ e174 BE
  obtain ⟨_, _, ⟨T175, L175, k175, n175⟩, -, X175, ⟨Lc175, hQ175, l175, y175, z175⟩, st175⟩ := X174.virtualBack hx (y := (⟨"java/lang/AbstractStringBuilder", "getValue", "()[B"⟩ : MethodName)) (z := (⟨"java/lang/AbstractStringBuilder", "getValue", "()[B"⟩ : MethodName)) hown (mvT hZ (tw hw 140 rfl)) (mvT hZ (tw hw 141 rfl)) (notFace_of_selects (args := #[]) (mvT hZ (tw hw 143 rfl))) (mvT hZ (tw hw 143 rfl)) (mvT hZ (tw hw 142 rfl)) (by decide) (backOf (W := 0) (rmGetV l Z a0 hw [] b1 v1 h0 n0 Z0 BV) hZ (tw hw 144 rfl) (tw hw 46 rfl) (by decide) (by decide)) q175a q175c (g := (mkF m 5 #[.val (.ref x1), .val (.ref b1), .val .null, .unset, .unset] [(.ref b1)])) rfl (by rw [hml]; rfl) (Steps.refl _) (argsL := []) (rest := []) (lenOf pd____B rfl) rfl (by show 2 * 0 + _ ≤ _; exact Nat.le_of_eq rfl) (hb hby d24_5) (fun _ _ => ⟨rfl, e174, (by decide : 0 + 0 ≤ _), (by decide : 0 + 0 ≤ _)⟩)
  dsimp only [Pt.U, Pt.locs, Pt.cells, Pt.slots] at X175 l175 y175 z175 st175 hQ175
  subst l175 y175 z175
  obtain ⟨rfl, N175q, EQ175⟩ := hQ175
  have N175 := Fr.app N0 N175q
  have Z175 : n0 ≤ T175.heap.size := by rw [EQ175]; exact Z0
  have K175 := own_keq EQ175 (Keep.refl h0 [x1])
  have f176 := (EQ175 ▸ BE)
  have f177 := (EQ175 ▸ BN)
  obtain ⟨cq178, kq178, q178a, q178b, q178c⟩ := isOf hZ rfl f176
  obtain ⟨_, _, ⟨T178, L178, k178, n178⟩, -, X178, ⟨Lc178, hQ178, l178, y178, z178⟩, st178⟩ := X175.virtualBack hx (y := (⟨"java/lang/AbstractStringBuilder", "length", "()I"⟩ : MethodName)) (z := (⟨"java/lang/StringBuilder", "length", "()I"⟩ : MethodName)) hown (mvT hZ (tw hw 145 rfl)) (mvT hZ (tw hw 146 rfl)) (own_nf (args := #[]) (mvT hZ (tw hw 82 rfl)) rfl) (mvT hZ (tw hw 148 rfl)) (mvT hZ (tw hw 149 rfl)) (by decide) (backOf (W := 0) (rmSLen l Z a0 hw [] b1 ct T175.heap n0 Z175 f176 f177) hZ (tw hw 150 rfl) (tw hw 38 rfl) (by decide) (by decide)) q178a q178c (g := (mkF m 10 #[.val (.ref x1), .val (.ref b1), .val .null, .val (.ref v1), .unset] [(.ref b1)])) rfl (by rw [hml]; rfl) (Steps.refl _) (argsL := []) (rest := []) (lenOf pd___I rfl) rfl (by show 2 * 0 + _ ≤ _; exact Nat.le_of_eq rfl) (hb hby d24_10) (fun _ _ => ⟨rfl, rfl, (by decide : 0 + 0 ≤ _), (by decide : 0 + 0 ≤ _)⟩)
  dsimp only [Pt.U, Pt.locs, Pt.cells, Pt.slots] at X178 l178 y178 z178 st178 hQ178
  subst l178 y178 z178
  obtain ⟨rfl, N178q, EQ178⟩ := hQ178
  have N178 := Fr.app N175 N178q
  have Z178 : n0 ≤ T178.heap.size := by rw [EQ178]; exact Z175
  have K178 := own_keq EQ178 K175
  have f179 := (EQ178 ▸ (EQ175 ▸ BC))
  have f180 := (EQ178 ▸ (EQ175 ▸ OZ))
  have f182 := (EQ178 ▸ f176)
  obtain ⟨cq181, kq181, q181a, q181b, q181c⟩ := isOf hZ rfl f182
  obtain ⟨_, _, ⟨T181, L181, k181, n181⟩, -, X181, ⟨Lc181, hQ181, l181, y181, z181⟩, st181⟩ := X178.virtualBack hx (y := (⟨"java/lang/AbstractStringBuilder", "isLatin1", "()Z"⟩ : MethodName)) (z := (⟨"java/lang/AbstractStringBuilder", "isLatin1", "()Z"⟩ : MethodName)) hown (mvT hZ (tw hw 153 rfl)) (mvT hZ (tw hw 154 rfl)) (notFace_of_selects (args := #[]) (mvT hZ (tw hw 156 rfl))) (mvT hZ (tw hw 156 rfl)) (mvT hZ (tw hw 155 rfl)) (by decide) (backOf (W := 0) (rmBLat l Z a0 hw [] b1 zc T178.heap n0 Z178 f179 (SC.ext f180.2) hzc) hZ (tw hw 157 rfl) (tw hw 46 rfl) (by decide) (by decide)) q181a q181c (g := (mkF m 16 #[.val (.ref x1), .val (.ref b1), .val .null, .val (.ref v1), .val (.int (Int32.ofNat ct))] [(.ref b1)])) rfl (by rw [hml]; rfl) (Steps.refl _) (argsL := []) (rest := []) (lenOf pd___Z rfl) rfl (by show 2 * 0 + _ ≤ _; exact Nat.le_of_eq rfl) (hb hby d24_16) (fun _ _ => ⟨rfl, rfl, (by decide : 0 + 0 ≤ _), (by decide : 0 + 0 ≤ _)⟩)
  dsimp only [Pt.U, Pt.locs, Pt.cells, Pt.slots] at X181 l181 y181 z181 st181 hQ181
  subst l181 y181 z181
  obtain ⟨rfl, N181q, EQ181⟩ := hQ181
  have N181 := Fr.app N178 N181q
  have Z181 : n0 ≤ T181.heap.size := by rw [EQ181]; exact Z178
  have K181 := own_keq EQ181 K178
  have f183 := (EQ181 ▸ (EQ178 ▸ (EQ175 ▸ XC0)))
  have f184 := (EQ181 ▸ (EQ178 ▸ (EQ175 ▸ XE)))
  obtain ⟨T185, h185, X185, e185, W185, st185⟩ := putFN X181 hx hZ hown (tw hw 31 rfl) Via.refl rfl f183 f184 (Or.inr ⟨(tw hw 5 rfl), rfl, hnm⟩) (tw hw 2 rfl) (ty := .byte) (v' := (.int (0 : Int32))) (by decide) rfl rfl (g := (mkF m 24 #[.val (.ref x1), .val (.ref b1), .val .null, .val (.ref v1), .val (.int (Int32.ofNat ct))] [(.int (0 : Int32)), (.ref x1)])) rfl rfl (hb hby d24_24)
  have N185 := Fr.snoc X185 N181 g_x1
  have Z185 := Nat.le_trans Z181 (Keep.of_wr W185).1
  have K185 := K181.wr W185 (Or.inl mem_x1)
  have Fw185 := f183.same W185
  have f186 := ((EQ181 ▸ (EQ178 ▸ (EQ175 ▸ BA))).other W185 (Ne.symm ne_x1_v1))
  have f187 := ((EQ181 ▸ (EQ178 ▸ (EQ175 ▸ BX))).wr W185)
  have f190 := (f184.wr W185)
  obtain ⟨_, _, ⟨T188, L188, k188, n188⟩, -, X188, ⟨Lc188, hQ188, l188, y188, z188⟩, st188⟩ := Jvm.LawKit.callS X185 hx (y := (⟨"java/util/Arrays", "copyOfRange", "([BII)[B"⟩ : MethodName)) hown (mvT hZ (tw hw 158 rfl)) (mvT hZ (tw hw 159 rfl)) (mvT hZ (tw hw 101 rfl)) (mvT hZ (tw hw 160 rfl)) (by decide) (backOf (W := 1) (rmCpR l Z a0 hw [] v1 k1 cp ct vs h185 n0 Z185 f186 f187 hvl hcp hct hcT) hZ (tw hw 160 rfl) (tw hw 101 rfl) (by decide) (by decide)) (g := (mkF m 32 #[.val (.ref x1), .val (.ref b1), .val .null, .val (.ref v1), .val (.int (Int32.ofNat ct))] [(.int (Int32.ofNat ct)), (.int (0 : Int32)), (.ref v1), (.ref x1)])) rfl (by rw [hml]; rfl) (argsL := [(.ref v1), (.int (0 : Int32)), (.int (Int32.ofNat ct))]) (rest := [(.ref x1)]) (lenOf pd___BII__B rfl) rfl (by show 2 * 0 + _ ≤ _; exact Nat.le_of_eq rfl) (hb hby d24_32) (fun _ _ => ⟨rfl, e185, (by decide : 0 + 1 ≤ _), (by decide : 0 + 128 ≤ _)⟩)
  dsimp only [Pt.U, Pt.locs, Pt.cells, Pt.slots] at X188 l188 y188 z188 st188 hQ188
  subst l188 y188 z188
  obtain ⟨t2, rfl, N188q, EX188, le188, k2, V2⟩ := hQ188
  have N188 := Fr.app N185 N188q
  have sz_t2 : h0.size ≤ t2 := Nat.le_trans K185.1 le188
  have ne_x1_t2 : x1 ≠ t2 := Nat.ne_of_lt (Nat.lt_of_lt_of_le f190.lt le188)
  have K188 := K185.ext EX188
  have f191 := (((EQ181 ▸ (EQ178 ▸ (EQ175 ▸ XV0))).other W185 (Or.inr (slot_ne (Or.inr (tw hw 4 rfl)) (Or.inr (tw hw 5 rfl)) (by decide) (t := (.array .byte)) (t' := .byte) (by decide) (by decide)))).ext EX188)
  have f192 := (f190.ext EX188)
  obtain ⟨T193, h193, X193, e193, W193, st193⟩ := putF X188 hx hZ hown (host := "") (Or.inl (tw hw 30 rfl)) Via.refl rfl f191 f192 (Or.inr ⟨(tw hw 4 rfl), rfl, hnm⟩) (tw hw 2 rfl) (ty := (.array .byte)) (by decide) rfl rfl (g := (mkF m 35 #[.val (.ref x1), .val (.ref b1), .val .null, .val (.ref v1), .val (.int (Int32.ofNat ct))] [(.ref t2), (.ref x1)])) rfl rfl (hb hby d24_35)
  have N193 := Fr.snoc X193 N188 g_x1
  have K193 := K188.wr W193 (Or.inl mem_x1)
  have Fw193 := f191.same W193
  have f194 := (f192.wr W193)
  have f195 := ((Fw185.ext EX188).other W193 (Or.inr (slot_ne (Or.inr (tw hw 5 rfl)) (Or.inr (tw hw 4 rfl)) (by decide) (t := .byte) (t' := (.array .byte)) (by decide) (by decide))))
  have f196 := (V2.other W193 (Ne.symm ne_x1_t2))
  have pre197 : ∀ t, Steps p.tables e below (T193.setTop (mkF m 97 #[.val (.ref x1), .val (.ref b1), .val .null, .val (.ref v1), .val (.int (Int32.ofNat ct))] [])) t → Steps p.tables e below (s₁.setTop (mkF m 0 #[.val (.ref x1), .val (.ref b1), .val .null, .unset, .unset] [])) t := by
    intro t kt
    show Steps p.tables e below (s₁.setTop (mkF m 0 #[.val (.ref x1), .val (.ref b1), .val .null, .unset, .unset] [])) _
    refine XS.aloadN X0.here hx rfl (hb hby d24_0) rfl rfl ?_
    show Steps p.tables e below (s₁.setTop (mkF m 1 #[.val (.ref x1), .val (.ref b1), .val .null, .unset, .unset] [(.ref x1)])) _
    refine st174 _ ?_
    show Steps p.tables e below (T174.setTop (mkF m 4 #[.val (.ref x1), .val (.ref b1), .val .null, .unset, .unset] [])) _
    refine XS.aloadN X174.here hx rfl (hb hby d24_4) rfl rfl ?_
    refine st175.trans ?_
    show Steps p.tables e below (T175.setTop (mkF m 8 #[.val (.ref x1), .val (.ref b1), .val .null, .unset, .unset] [(.ref v1)])) _
    refine XS.astoreN X175.here hx rfl (hb hby d24_8) rfl rfl (l' := #[.val (.ref x1), .val (.ref b1), .val .null, .val (.ref v1), .unset]) rfl ?_
    refine XS.aloadN X175.here hx rfl (hb hby d24_9) rfl rfl ?_
    refine st178.trans ?_
    show Steps p.tables e below (T178.setTop (mkF m 13 #[.val (.ref x1), .val (.ref b1), .val .null, .val (.ref v1), .unset] [(.int (Int32.ofNat ct))])) _
    refine XS.istore X178.here hx rfl (hb hby d24_13) rfl (l' := #[.val (.ref x1), .val (.ref b1), .val .null, .val (.ref v1), .val (.int (Int32.ofNat ct))]) rfl ?_
    refine XS.aloadN X178.here hx rfl (hb hby d24_15) rfl rfl ?_
    refine st181.trans ?_
    refine XS.ifNo X181.here hx rfl (hb hby d24_19) rfl ((if0 _ _).trans (feq (by decide : ¬ ((1 : Int32) = (0 : Int32)))).1) ?_
    show Steps p.tables e below (T181.setTop (mkF m 22 #[.val (.ref x1), .val (.ref b1), .val .null, .val (.ref v1), .val (.int (Int32.ofNat ct))] [])) _
    refine XS.aloadN X181.here hx rfl (hb hby d24_22) rfl rfl ?_
    refine XS.iconst X181.here hx rfl (hb hby d24_23) ?_
    refine st185 _ ?_
    show Steps p.tables e below (T185.setTop (mkF m 27 #[.val (.ref x1), .val (.ref b1), .val .null, .val (.ref v1), .val (.int (Int32.ofNat ct))] [])) _
    refine XS.aloadN X185.here hx rfl (hb hby d24_27) rfl rfl ?_
    refine XS.aloadN X185.here hx rfl (hb hby d24_28) rfl rfl ?_
    refine XS.iconst X185.here hx rfl (hb hby d24_29) ?_
    refine XS.iload X185.here hx rfl (hb hby d24_30) rfl ?_
    refine st188 _ ?_
    refine st193 _ ?_
    show Steps p.tables e below (T193.setTop (mkF m 38 #[.val (.ref x1), .val (.ref b1), .val .null, .val (.ref v1), .val (.int (Int32.ofNat ct))] [])) _
    refine XS.goto X193.here hx rfl (pc0 := 38) (pc' := 97) rfl (hb hby d24_38) (by decide) (by decide) ?_
    exact kt
  obtain ⟨fs, hr, hrun, hended, hW, hsame⟩ := X193.leave (v := none) (fun _ => rfl)
  refine ⟨_, _, (pre0 _ (pre197 _ ?_)), hrun, hended, _, _, rfl, ?_, ⟨_, rfl⟩, hW, hsame.mono (by decide) (by decide)⟩
  · show Steps p.tables e below (T193.setTop (mkF m 97 #[.val (.ref x1), .val (.ref b1), .val .null, .val (.ref v1), .val (.int (Int32.ofNat ct))] [])) _
    exact X193.returnOut hx Bd.returns (hb hby d24_97) hr
  · show QSIA Z x1 b1 v1 k1 cp ct vs zc h0 n0 _ T193.heap _
    rw [e193]
    exact ⟨rfl, N193, K193, t2, k2, ⟨f194, Fw193, f195, f196⟩, sz_t2⟩
theorem ef_SIB (m : MethodId) (x0 : Addr) (x1 : Addr) : entryFrame m #[(.ref x0), (.ref x1)] 2 = mkF m 0 #[.val (.ref x0), .val (.ref x1)] [] := by (first | (simp [entryFrame, mkF, argsToLocals, Value.category]; done) | rfl)
def QSIB (Z : State) (x1 : Addr) (b1 : Addr) (v1 : Addr) (k1 : ClassId) (cp : Nat) (ct : Nat) (vs : List Value) (zc : Int32) (h0 : Heap) (n0 : Nat) (v : Option Value) (h : Heap) (L : List Loc) : Prop := v = none ∧ Fr n0 L ∧ Keep h0 h [x1] ∧ ∃ (t2 : Addr) (k2 : ClassId), (Exa Z h x1 "java/lang/String" ∧ Fld Z h x1 "java/lang/String" "value" "[B" (.ref t2) ∧ Fld Z h x1 "java/lang/String" "coder" "B" (.int (0 : Int32)) ∧ Arv Z h t2 k2 .byte (Int32.ofNat ct) (vs.take ct) (.int (0 : Int32))) ∧ h0.size ≤ t2
theorem d23_0 : decode jdk_42_method_53_code 0 = .ok (.aload_n 0, 1) := by decide +kernel
theorem d23_1 : decode jdk_42_method_53_code 1 = .ok (.aload_n 1, 1) := by decide +kernel
theorem d23_2 : decode jdk_42_method_53_code 2 = .ok (.aconst_null, 1) := by decide +kernel
theorem d23_3 : decode jdk_42_method_53_code 3 = .ok (.invokespecial 489, 3) := by decide +kernel
theorem pd__Ljava_lang_AbstractStringBuilder_Ljava_lang_Void__V : parseMethodDescriptor "(Ljava/lang/AbstractStringBuilder;Ljava/lang/Void;)V" = some ⟨[(.object "java/lang/AbstractStringBuilder"), (.object "java/lang/Void")], none⟩ := by decide +kernel
theorem d23_6 : decode jdk_42_method_53_code 6 = .ok (.return_, 1) := by decide +kernel
set_option maxRecDepth 65536 in
set_option maxHeartbeats 40000000 in
theorem rmSIB (l : Launch) (Z : State) (a0 : Array Value) (hw : ∀ d ∈ tables_1, d.before a0 Z = true) (ws : List Jvm.Cond) (x1 : Addr) (b1 : Addr) (v1 : Addr) (k1 : ClassId) (cp : Nat) (ct : Nat) (vs : List Value) (zc : Int32) (h0 : Heap) (n0 : Nat) (Z0 : n0 ≤ h0.size) (XE : Exa Z h0 x1 "java/lang/String") (XV0 : Fld Z h0 x1 "java/lang/String" "value" "[B" .null) (XC0 : Fld Z h0 x1 "java/lang/String" "coder" "B" (.int (0 : Int32))) (g_x1 : n0 ≤ x1) (BE : Exa Z h0 b1 "java/lang/StringBuilder") (BV : Fld Z h0 b1 "java/lang/AbstractStringBuilder" "value" "[B" (.ref v1)) (BC : Fld Z h0 b1 "java/lang/AbstractStringBuilder" "coder" "B" (.int (0 : Int32))) (BN : Fld Z h0 b1 "java/lang/AbstractStringBuilder" "count" "I" (.int (Int32.ofNat ct))) (BA : Arv Z h0 v1 k1 .byte (Int32.ofNat cp) vs (.int (0 : Int32))) (BX : Exa Z h0 v1 "[B") (hvl : vs.length = cp) (hcp : cp ≤ 1000) (g_b1 : n0 ≤ b1) (g_v1 : n0 ≤ v1) (hct : ct ≤ cp) (hcT : ct ≤ 128 ∧ ct ≠ cp) (OZ : Old Z n0 h0) (SC : Sta Z Z.heap "java/lang/String" "COMPACT_STRINGS" "Z" (.int zc)) (hzc : ¬ zc = (0 : Int32)) :
    MetFree l (⟨"java/lang/String", "<init>", "(Ljava/lang/StringBuilder;)V"⟩ : MethodName) (head1 (Jvm.Cond.code (⟨"java/lang/String", "<init>", "(Ljava/lang/StringBuilder;)V"⟩ : MethodName) jdk_42_method_53_code 2 none :: ws) ({ frames := 4, cells := 1, slots := 128, locals := 120 } : Room)) (fun a U => a = #[(.ref x1), (.ref b1)] ∧ Z.Warmed39 U.vm ∧ U.heap = h0) (fun _ _ _ _ _ => True) (fun _ U o U' => ∃ v L, o = .returned v ∧ QSIB Z x1 b1 v1 k1 cp ct vs zc h0 n0 v U'.heap L ∧ FrameEnd U o U' L ({ frames := 4, cells := 1, slots := 128, locals := 120 } : Room).cells ({ frames := 4, cells := 1, slots := 128, locals := 120 } : Room).slots) := by
  refine MetFree.of_bodySF (plainFor_of_name pn_java_lang_String) hisR ?_
  intro p e s m args below meth c s₁ Bd hml0 hP hK
  obtain ⟨rfl, hZ, hh⟩ := hP
  have hx := Bd.exec
  have hby := Bd.bytes
  have hml : c.maxLocals = 2 := hml0
  have hown : s.vm.findClass "java/lang/String" = some m.cls := findClass_of_methodNamed Bd.named
  have hnm := (name_of_methodNamed Bd.named Bd.method).1
  have X0 : Stand p l e ({ frames := 4, cells := 1, slots := 128, locals := 120 } : Room) s m #[(.ref x1), (.ref b1)] below meth c s₁ [] 0 0 := Stand.of_body Bd
  have e0 : s₁.heap = h0 := by rw [← hh, Bd.state]; rfl
  have N0 := Fr.nil n0
  have pre0 : ∀ t, Steps p.tables e below (s₁.setTop (mkF m 0 #[.val (.ref x1), .val (.ref b1)] [])) t → Steps p.tables e below (s₁.setTop (entryFrame m #[(.ref x1), (.ref b1)] 2)) t := fun t k => castTop (ef_SIB m x1 b1) k
  have mem_x1 : x1 ∈ [x1] := List.mem_of_getElem? (i := 0) rfl
  obtain ⟨_, _, ⟨T198, L198, k198, n198⟩, -, X198, ⟨Lc198, hQ198, l198, y198, z198⟩, st198⟩ := X0.specialBack hx (y := (⟨"java/lang/String", "<init>", "(Ljava/lang/AbstractStringBuilder;Ljava/lang/Void;)V"⟩ : MethodName)) rfl hown (mvT hZ (tw hw 137 rfl)) (mvT hZ (tw hw 138 rfl)) (mvT hZ (tw hw 139 rfl)) (by decide) (backOf (W := 0) (rmSIA l Z a0 hw [] x1 b1 v1 k1 cp ct vs zc h0 n0 Z0 XE XV0 XC0 g_x1 BE BV BC BN BA BX hvl hcp g_b1 g_v1 hct hcT OZ SC hzc) hZ (tw hw 139 rfl) (tw hw 1 rfl) (by decide) (by decide)) (g := (mkF m 3 #[.val (.ref x1), .val (.ref b1)] [.null, (.ref b1), (.ref x1)])) rfl (by rw [hml]; rfl) (Steps.refl _) (a := x1) (argsL := [(.ref b1), .null]) (rest := []) (lenOf pd__Ljava_lang_AbstractStringBuilder_Ljava_lang_Void__V rfl) rfl (by show 2 * 0 + _ ≤ _; exact Nat.le_of_eq rfl) (hb hby d23_3) (fun _ _ => ⟨rfl, e0, (by decide : 0 + 1 ≤ _), (by decide : 0 + 128 ≤ _)⟩)
  dsimp only [Pt.U, Pt.locs, Pt.cells, Pt.slots] at X198 l198 y198 z198 st198 hQ198
  subst l198 y198 z198
  obtain ⟨rfl, N198q, KC198, RR⟩ := hQ198
  have N198 := Fr.app N0 N198q
  have K198 := (Keep.refl h0 [x1]).trans KC198 (allS (Or.inl mem_x1) all0)
  have pre199 : ∀ t, Steps p.tables e below (T198.setTop (mkF m 6 #[.val (.ref x1), .val (.ref b1)] [])) t → Steps p.tables e below (s₁.setTop (mkF m 0 #[.val (.ref x1), .val (.ref b1)] [])) t := by
    intro t kt
    show Steps p.tables e below (s₁.setTop (mkF m 0 #[.val (.ref x1), .val (.ref b1)] [])) _
    refine XS.aloadN X0.here hx rfl (hb hby d23_0) rfl rfl ?_
    refine XS.aloadN X0.here hx rfl (hb hby d23_1) rfl rfl ?_
    refine XS.aconstNull X0.here hx rfl (hb hby d23_2) ?_
    refine st198.trans ?_
    exact kt
  obtain ⟨fs, hr, hrun, hended, hW, hsame⟩ := X198.leave (v := none) (fun _ => rfl)
  refine ⟨_, _, (pre0 _ (pre199 _ ?_)), hrun, hended, _, _, rfl, ?_, ⟨_, rfl⟩, hW, hsame.mono (by decide) (by decide)⟩
  · show Steps p.tables e below (T198.setTop (mkF m 6 #[.val (.ref x1), .val (.ref b1)] [])) _
    exact X198.returnOut hx Bd.returns (hb hby d23_6) hr
  · show QSIB Z x1 b1 v1 k1 cp ct vs zc h0 n0 _ T198.heap _
    exact ⟨rfl, N198, K198, RR⟩
theorem ef_ToS (m : MethodId) (x0 : Addr) : entryFrame m #[(.ref x0)] 1 = mkF m 0 #[.val (.ref x0)] [] := by (first | (simp [entryFrame, mkF, argsToLocals, Value.category]; done) | rfl)
def QToS (Z : State) (b1 : Addr) (v1 : Addr) (k1 : ClassId) (cp : Nat) (ct : Nat) (vs : List Value) (zc : Int32) (h0 : Heap) (n0 : Nat) (v : Option Value) (h : Heap) (L : List Loc) : Prop := ∃ x2, v = some (.ref x2) ∧ Fr n0 L ∧ Ext h0 h ∧ h0.size ≤ x2 ∧ ∃ (t2 : Addr) (k2 : ClassId), (Exa Z h x2 "java/lang/String" ∧ Fld Z h x2 "java/lang/String" "value" "[B" (.ref t2) ∧ Fld Z h x2 "java/lang/String" "coder" "B" (.int (0 : Int32)) ∧ Arv Z h t2 k2 .byte (Int32.ofNat ct) (vs.take ct) (.int (0 : Int32))) ∧ h0.size ≤ t2
theorem d22_0 : decode jdk_67_method_42_code 0 = .ok (.new 18, 3) := by decide +kernel
theorem d22_3 : decode jdk_67_method_42_code 3 = .ok (.dup, 1) := by decide +kernel
theorem d22_4 : decode jdk_67_method_42_code 4 = .ok (.aload_n 0, 1) := by decide +kernel
theorem d22_5 : decode jdk_67_method_42_code 5 = .ok (.invokespecial 137, 3) := by decide +kernel
theorem pd__Ljava_lang_StringBuilder__V : parseMethodDescriptor "(Ljava/lang/StringBuilder;)V" = some ⟨[(.object "java/lang/StringBuilder")], none⟩ := by decide +kernel
theorem d22_8 : decode jdk_67_method_42_code 8 = .ok (.areturn, 1) := by decide +kernel
set_option maxRecDepth 65536 in
set_option maxHeartbeats 40000000 in
theorem rmToS (l : Launch) (Z : State) (a0 : Array Value) (hw : ∀ d ∈ tables_1, d.before a0 Z = true) (ws : List Jvm.Cond) (b1 : Addr) (v1 : Addr) (k1 : ClassId) (cp : Nat) (ct : Nat) (vs : List Value) (zc : Int32) (h0 : Heap) (n0 : Nat) (Z0 : n0 ≤ h0.size) (BE : Exa Z h0 b1 "java/lang/StringBuilder") (BV : Fld Z h0 b1 "java/lang/AbstractStringBuilder" "value" "[B" (.ref v1)) (BC : Fld Z h0 b1 "java/lang/AbstractStringBuilder" "coder" "B" (.int (0 : Int32))) (BN : Fld Z h0 b1 "java/lang/AbstractStringBuilder" "count" "I" (.int (Int32.ofNat ct))) (BA : Arv Z h0 v1 k1 .byte (Int32.ofNat cp) vs (.int (0 : Int32))) (BX : Exa Z h0 v1 "[B") (hvl : vs.length = cp) (hcp : cp ≤ 1000) (g_b1 : n0 ≤ b1) (g_v1 : n0 ≤ v1) (hct : ct ≤ cp) (hcT : ct ≤ 128 ∧ ct ≠ cp) (OZ : Old Z n0 h0) (SC : Sta Z Z.heap "java/lang/String" "COMPACT_STRINGS" "Z" (.int zc)) (hzc : ¬ zc = (0 : Int32)) :
    MetFree l (⟨"java/lang/StringBuilder", "toString", "()Ljava/lang/String;"⟩ : MethodName) (head1 (Jvm.Cond.code (⟨"java/lang/StringBuilder", "toString", "()Ljava/lang/String;"⟩ : MethodName) jdk_67_method_42_code 1 (some (.object "java/lang/String")) :: ws) ({ frames := 5, cells := 2, slots := 132, locals := 140 } : Room)) (fun a U => a = #[(.ref b1)] ∧ Z.Warmed39 U.vm ∧ U.heap = h0) (fun _ _ _ _ _ => True) (fun _ U o U' => ∃ v L, o = .returned v ∧ QToS Z b1 v1 k1 cp ct vs zc h0 n0 v U'.heap L ∧ FrameEnd U o U' L ({ frames := 5, cells := 2, slots := 132, locals := 140 } : Room).cells ({ frames := 5, cells := 2, slots := 132, locals := 140 } : Room).slots) := by
  refine MetFree.of_bodySF (plainFor_of_name pn_java_lang_StringBuilder) hisR ?_
  intro p e s m args below meth c s₁ Bd hml0 hP hK
  obtain ⟨rfl, hZ, hh⟩ := hP
  have hx := Bd.exec
  have hby := Bd.bytes
  have hml : c.maxLocals = 1 := hml0
  have hown : s.vm.findClass "java/lang/StringBuilder" = some m.cls := findClass_of_methodNamed Bd.named
  have hnm := (name_of_methodNamed Bd.named Bd.method).1
  have X0 : Stand p l e ({ frames := 5, cells := 2, slots := 132, locals := 140 } : Room) s m #[(.ref b1)] below meth c s₁ [] 0 0 := Stand.of_body Bd
  have e0 : s₁.heap = h0 := by rw [← hh, Bd.state]; rfl
  have N0 := Fr.nil n0
  have pre0 : ∀ t, Steps p.tables e below (s₁.setTop (mkF m 0 #[.val (.ref b1)] [])) t → Steps p.tables e below (s₁.setTop (entryFrame m #[(.ref b1)] 1)) t := fun t k => castTop (ef_ToS m b1) k
  obtain ⟨T200, h200, X200, e200, E200, A200, D200, -, st200⟩ := newO X0 hx hZ hown (tw hw 133 rfl) (tw hw 2 rfl) (tw hw 1 rfl) e0 (g := (mkF m 0 #[.val (.ref b1)] [])) rfl (hb hby d22_0) (by decide) (by decide)
  obtain ⟨b200, g200⟩ : ∃ z, z = h0.size := ⟨_, rfl⟩
  rw [← g200] at A200 D200 st200
  have g_b200 : n0 ≤ b200 := Nat.le_trans Z0 (Nat.le_of_eq g200.symm)
  have sz_b200 : h0.size ≤ b200 := Nat.le_trans (Keep.refl h0 []).1 (Nat.le_of_eq g200.symm)
  have Z200 := Nat.le_trans Z0 E200.1
  have K200 := (Keep.refl h0 []).ext E200
  have F200_value : Fld Z h200 b200 "java/lang/String" "value" "[B" .null := D200 (Or.inr (tw hw 4 rfl)) (ty := (.array .byte)) (by decide)
  have F200_coder : Fld Z h200 b200 "java/lang/String" "coder" "B" (.int (0 : Int32)) := D200 (Or.inr (tw hw 5 rfl)) (ty := .byte) (by decide)
  have f201 := (BE.ext E200)
  have f202 := (BV.ext E200)
  have f203 := (BC.ext E200)
  have f204 := (BN.ext E200)
  have f205 := (BA.ext E200)
  have f206 := (BX.ext E200)
  have f207 := (OZ.ext E200)
  obtain ⟨_, _, ⟨T208, L208, k208, n208⟩, -, X208, ⟨Lc208, hQ208, l208, y208, z208⟩, st208⟩ := X200.specialBack hx (y := (⟨"java/lang/String", "<init>", "(Ljava/lang/StringBuilder;)V"⟩ : MethodName)) rfl hown (mvT hZ (tw hw 134 rfl)) (mvT hZ (tw hw 135 rfl)) (mvT hZ (tw hw 136 rfl)) (by decide) (backOf (W := 1) (rmSIB l Z a0 hw [] b200 b1 v1 k1 cp ct vs zc h200 n0 Z200 A200 F200_value F200_coder g_b200 f201 f202 f203 f204 f205 f206 hvl hcp g_b1 g_v1 hct hcT f207 SC hzc) hZ (tw hw 136 rfl) (tw hw 1 rfl) (by decide) (by decide)) (g := (mkF m 5 #[.val (.ref b1)] [(.ref b1), (.ref b200), (.ref b200)])) rfl (by rw [hml]; rfl) (Steps.refl _) (a := b200) (argsL := [(.ref b1)]) (rest := [(.ref b200)]) (lenOf pd__Ljava_lang_StringBuilder__V rfl) rfl (by show 2 * 0 + _ ≤ _; exact Nat.le_of_eq rfl) (hb hby d22_5) (fun _ _ => ⟨rfl, e200, (by decide : 1 + 1 ≤ _), (by decide : 4 + 128 ≤ _)⟩)
  dsimp only [Pt.U, Pt.locs, Pt.cells, Pt.slots] at X208 l208 y208 z208 st208 hQ208
  subst l208 y208 z208
  obtain ⟨rfl, N208q, KC208, t2, k2, XX, le2⟩ := hQ208
  have N208 := Fr.app N0 N208q
  have K208 := K200.trans KC208 (allS (Or.inr sz_b200) all0)
  have pre209 : ∀ t, Steps p.tables e below (T208.setTop (mkF m 8 #[.val (.ref b1)] [(.ref b200)])) t → Steps p.tables e below (s₁.setTop (mkF m 0 #[.val (.ref b1)] [])) t := by
    intro t kt
    show Steps p.tables e below (s₁.setTop (mkF m 0 #[.val (.ref b1)] [])) _
    refine st200 _ ?_
    show Steps p.tables e below (T200.setTop (mkF m 3 #[.val (.ref b1)] [(.ref b200)])) _
    refine XS.dup X200.here hx rfl (hb hby d22_3) rfl rfl ?_
    refine XS.aloadN X200.here hx rfl (hb hby d22_4) rfl rfl ?_
    refine st208.trans ?_
    exact kt
  obtain ⟨fs, hr, hrun, hended, hW, hsame⟩ := X208.leave (v := some (.ref b200)) (fun h => by rw [Bd.returns] at h; cases h)
  refine ⟨_, _, (pre0 _ (pre209 _ ?_)), hrun, hended, _, _, rfl, ?_, ⟨_, rfl⟩, hW, hsame.mono (by decide) (by decide)⟩
  · show Steps p.tables e below (T208.setTop (mkF m 8 #[.val (.ref b1)] [(.ref b200)])) _
    exact retOut X208 hx (t := (.object "java/lang/String")) Bd.returns rfl (Or.inr (Or.inr (Or.inr (Or.inr ⟨rfl, rfl, rfl⟩)))) (hb hby d22_8) hr
  · show QToS Z b1 v1 k1 cp ct vs zc h0 n0 _ T208.heap _
    exact ⟨b200, rfl, N208, own_ext K208, sz_b200, t2, k2, XX, by have := E200.1; omega⟩
theorem ef_SBB (m : MethodId) (x0 : Addr) (x1 : Addr) (x2 : Int32) : entryFrame m #[(.ref x0), (.ref x1), (.int x2)] 3 = mkF m 0 #[.val (.ref x0), .val (.ref x1), .val (.int x2)] [] := by (first | (simp [entryFrame, mkF, argsToLocals, Value.category]; done) | rfl)
def QSBB (Z : State) (x1 : Addr) (t1 : Addr) (h0 : Heap) (n0 : Nat) (v : Option Value) (h : Heap) (L : List Loc) : Prop := v = none ∧ Fr n0 L ∧ Keep h0 h [x1] ∧ Exa Z h x1 "java/lang/String" ∧ Fld Z h x1 "java/lang/String" "value" "[B" (.ref t1) ∧ Fld Z h x1 "java/lang/String" "coder" "B" (.int (0 : Int32))
theorem d4_0 : decode jdk_42_method_151_code 0 = .ok (.aload_n 0, 1) := by decide +kernel
theorem d4_1 : decode jdk_42_method_151_code 1 = .ok (.invokespecial 1, 3) := by decide +kernel
theorem d4_4 : decode jdk_42_method_151_code 4 = .ok (.aload_n 0, 1) := by decide +kernel
theorem d4_5 : decode jdk_42_method_151_code 5 = .ok (.aload_n 1, 1) := by decide +kernel
theorem d4_6 : decode jdk_42_method_151_code 6 = .ok (.putfield 9, 3) := by decide +kernel
theorem d4_9 : decode jdk_42_method_151_code 9 = .ok (.aload_n 0, 1) := by decide +kernel
theorem d4_10 : decode jdk_42_method_151_code 10 = .ok (.iload_n 2, 1) := by decide +kernel
theorem d4_11 : decode jdk_42_method_151_code 11 = .ok (.putfield 15, 3) := by decide +kernel
theorem d4_14 : decode jdk_42_method_151_code 14 = .ok (.return_, 1) := by decide +kernel
set_option maxRecDepth 65536 in
set_option maxHeartbeats 40000000 in
theorem rmSBB (l : Launch) (Z : State) (a0 : Array Value) (hw : ∀ d ∈ tables_1, d.before a0 Z = true) (ws : List Jvm.Cond) (x1 : Addr) (t1 : Addr) (h0 : Heap) (n0 : Nat) (Z0 : n0 ≤ h0.size) (XE : Exa Z h0 x1 "java/lang/String") (XV0 : Fld Z h0 x1 "java/lang/String" "value" "[B" .null) (XC0 : Fld Z h0 x1 "java/lang/String" "coder" "B" (.int (0 : Int32))) (g_x1 : n0 ≤ x1) :
    MetFree l (⟨"java/lang/String", "<init>", "([BB)V"⟩ : MethodName) (head1 (Jvm.Cond.code (⟨"java/lang/String", "<init>", "([BB)V"⟩ : MethodName) jdk_42_method_151_code 3 none :: ws) ({ frames := 1, cells := 0, slots := 0, locals := 12 } : Room)) (fun a U => a = #[(.ref x1), (.ref t1), (.int (0 : Int32))] ∧ Z.Warmed39 U.vm ∧ U.heap = h0) (fun _ _ _ _ _ => True) (fun _ U o U' => ∃ v L, o = .returned v ∧ QSBB Z x1 t1 h0 n0 v U'.heap L ∧ FrameEnd U o U' L ({ frames := 1, cells := 0, slots := 0, locals := 12 } : Room).cells ({ frames := 1, cells := 0, slots := 0, locals := 12 } : Room).slots) := by
  refine MetFree.of_bodySF (plainFor_of_name pn_java_lang_String) hisR ?_
  intro p e s m args below meth c s₁ Bd hml0 hP hK
  obtain ⟨rfl, hZ, hh⟩ := hP
  have hx := Bd.exec
  have hby := Bd.bytes
  have hml : c.maxLocals = 3 := hml0
  have hown : s.vm.findClass "java/lang/String" = some m.cls := findClass_of_methodNamed Bd.named
  have hnm := (name_of_methodNamed Bd.named Bd.method).1
  have X0 : Stand p l e ({ frames := 1, cells := 0, slots := 0, locals := 12 } : Room) s m #[(.ref x1), (.ref t1), (.int (0 : Int32))] below meth c s₁ [] 0 0 := Stand.of_body Bd
  have e0 : s₁.heap = h0 := by rw [← hh, Bd.state]; rfl
  have N0 := Fr.nil n0
  have pre0 : ∀ t, Steps p.tables e below (s₁.setTop (mkF m 0 #[.val (.ref x1), .val (.ref t1), .val (.int (0 : Int32))] [])) t → Steps p.tables e below (s₁.setTop (entryFrame m #[(.ref x1), (.ref t1), (.int (0 : Int32))] 3)) t := fun t k => castTop (ef_SBB m x1 t1 (0 : Int32)) k
  have mem_x1 : x1 ∈ [x1] := List.mem_of_getElem? (i := 0) rfl
  obtain ⟨T210, X210, e210, st210⟩ := initO X0 hx hZ hown (tw hw 27 rfl) (tw hw 28 rfl) (tw hw 29 rfl) e0 (g := (mkF m 1 #[.val (.ref x1), .val (.ref t1), .val (.int (0 : Int32))] [(.ref x1)])) rfl (by rw [hml]; rfl) rfl (hb hby d4_1) (by decide) (W := 0) (by show 2 * 0 + _ ≤ _; exact Nat.le_of_eq rfl) (by decide)
  obtain ⟨T211, h211, X211, e211, W211, st211⟩ := putF X210 hx hZ hown (host := "") (Or.inl (tw hw 30 rfl)) Via.refl e210 XV0 XE (Or.inr ⟨(tw hw 4 rfl), rfl, hnm⟩) (tw hw 2 rfl) (ty := (.array .byte)) (by decide) rfl rfl (g := (mkF m 6 #[.val (.ref x1), .val (.ref t1), .val (.int (0 : Int32))] [(.ref t1), (.ref x1)])) rfl rfl (hb hby d4_6)
  have N211 := Fr.snoc X211 N0 g_x1
  have K211 := (Keep.refl h0 [x1]).wr W211 (Or.inl mem_x1)
  have Fw211 := XV0.same W211
  have f212 := (XC0.other W211 (Or.inr (slot_ne (Or.inr (tw hw 5 rfl)) (Or.inr (tw hw 4 rfl)) (by decide) (t := .byte) (t' := (.array .byte)) (by decide) (by decide))))
  have f213 := (XE.wr W211)
  obtain ⟨T214, h214, X214, e214, W214, st214⟩ := putFN X211 hx hZ hown (tw hw 31 rfl) Via.refl e211 f212 f213 (Or.inr ⟨(tw hw 5 rfl), rfl, hnm⟩) (tw hw 2 rfl) (ty := .byte) (v' := (.int (0 : Int32))) (by decide) rfl rfl (g := (mkF m 11 #[.val (.ref x1), .val (.ref t1), .val (.int (0 : Int32))] [(.int (0 : Int32)), (.ref x1)])) rfl rfl (hb hby d4_11)
  have N214 := Fr.snoc X214 N211 g_x1
  have K214 := K211.wr W214 (Or.inl mem_x1)
  have Fw214 := f212.same W214
  have f215 := (f213.wr W214)
  have f216 := (Fw211.other W214 (Or.inr (slot_ne (Or.inr (tw hw 4 rfl)) (Or.inr (tw hw 5 rfl)) (by decide) (t := (.array .byte)) (t' := .byte) (by decide) (by decide))))
  have pre217 : ∀ t, Steps p.tables e below (T214.setTop (mkF m 14 #[.val (.ref x1), .val (.ref t1), .val (.int (0 : Int32))] [])) t → Steps p.tables e below (s₁.setTop (mkF m 0 #[.val (.ref x1), .val (.ref t1), .val (.int (0 : Int32))] [])) t := by
    intro t kt
    show Steps p.tables e below (s₁.setTop (mkF m 0 #[.val (.ref x1), .val (.ref t1), .val (.int (0 : Int32))] [])) _
    refine XS.aloadN X0.here hx rfl (hb hby d4_0) rfl rfl ?_
    show Steps p.tables e below (s₁.setTop (mkF m 1 #[.val (.ref x1), .val (.ref t1), .val (.int (0 : Int32))] [(.ref x1)])) _
    refine st210 _ ?_
    show Steps p.tables e below (T210.setTop (mkF m 4 #[.val (.ref x1), .val (.ref t1), .val (.int (0 : Int32))] [])) _
    refine XS.aloadN X210.here hx rfl (hb hby d4_4) rfl rfl ?_
    refine XS.aloadN X210.here hx rfl (hb hby d4_5) rfl rfl ?_
    refine st211 _ ?_
    show Steps p.tables e below (T211.setTop (mkF m 9 #[.val (.ref x1), .val (.ref t1), .val (.int (0 : Int32))] [])) _
    refine XS.aloadN X211.here hx rfl (hb hby d4_9) rfl rfl ?_
    refine XS.iloadN X211.here hx rfl (hb hby d4_10) rfl ?_
    refine st214 _ ?_
    exact kt
  obtain ⟨fs, hr, hrun, hended, hW, hsame⟩ := X214.leave (v := none) (fun _ => rfl)
  refine ⟨_, _, (pre0 _ (pre217 _ ?_)), hrun, hended, _, _, rfl, ?_, ⟨_, rfl⟩, hW, hsame.mono (by decide) (by decide)⟩
  · show Steps p.tables e below (T214.setTop (mkF m 14 #[.val (.ref x1), .val (.ref t1), .val (.int (0 : Int32))] [])) _
    exact X214.returnOut hx Bd.returns (hb hby d4_14) hr
  · show QSBB Z x1 t1 h0 n0 _ T214.heap _
    rw [e214]
    exact ⟨rfl, N214, K214, f215, f216, Fw214⟩
theorem ef_RCR (m : MethodId) (x0 : Addr) (x1 : Int32) (x2 : Int32) (x3 : Int32) : entryFrame m #[(.ref x0), (.int x1), (.int x2), (.int x3)] 4 = mkF m 0 #[.val (.ref x0), .val (.int x1), .val (.int x2), .val (.int x3)] [] := by (first | (simp [entryFrame, mkF, argsToLocals, Value.category]; done) | rfl)
def QRCR (Z : State) (v1 : Addr) (k1 : ClassId) (lm : Nat) (h0 : Heap) (n0 : Nat) (v : Option Value) (h : Heap) (L : List Loc) : Prop := v = none ∧ Fr n0 L ∧ Keep h0 h [v1] ∧ Arv Z h v1 k1 .byte (Int32.ofNat lm) (List.replicate (lm) (.int (32 : Int32))) (.int (0 : Int32))
theorem d42_0 : decode jdk_42_method_146_code 0 = .ok (.iload_n 3, 1) := by decide +kernel
theorem d42_1 : decode jdk_42_method_146_code 1 = .ok (.iload_n 2, 1) := by decide +kernel
theorem d42_2 : decode jdk_42_method_146_code 2 = .ok (.iload_n 3, 1) := by decide +kernel
theorem d42_3 : decode jdk_42_method_146_code 3 = .ok (.isub, 1) := by decide +kernel
theorem d42_4 : decode jdk_42_method_146_code 4 = .ok (.if_icmp .ge 20, 3) := by decide +kernel
theorem d42_24 : decode jdk_42_method_146_code 24 = .ok (.aload_n 0, 1) := by decide +kernel
theorem d42_25 : decode jdk_42_method_146_code 25 = .ok (.iload_n 1, 1) := by decide +kernel
theorem d42_26 : decode jdk_42_method_146_code 26 = .ok (.aload_n 0, 1) := by decide +kernel
theorem d42_27 : decode jdk_42_method_146_code 27 = .ok (.iload_n 1, 1) := by decide +kernel
theorem d42_28 : decode jdk_42_method_146_code 28 = .ok (.iload_n 3, 1) := by decide +kernel
theorem d42_29 : decode jdk_42_method_146_code 29 = .ok (.iadd, 1) := by decide +kernel
theorem d42_30 : decode jdk_42_method_146_code 30 = .ok (.iload_n 2, 1) := by decide +kernel
theorem d42_31 : decode jdk_42_method_146_code 31 = .ok (.iload_n 3, 1) := by decide +kernel
theorem d42_32 : decode jdk_42_method_146_code 32 = .ok (.isub, 1) := by decide +kernel
theorem d42_33 : decode jdk_42_method_146_code 33 = .ok (.invokestatic 212, 3) := by decide +kernel
theorem d42_36 : decode jdk_42_method_146_code 36 = .ok (.return_, 1) := by decide +kernel
theorem d42_7 : decode jdk_42_method_146_code 7 = .ok (.aload_n 0, 1) := by decide +kernel
theorem d42_8 : decode jdk_42_method_146_code 8 = .ok (.iload_n 1, 1) := by decide +kernel
theorem d42_9 : decode jdk_42_method_146_code 9 = .ok (.aload_n 0, 1) := by decide +kernel
theorem d42_10 : decode jdk_42_method_146_code 10 = .ok (.iload_n 1, 1) := by decide +kernel
theorem d42_11 : decode jdk_42_method_146_code 11 = .ok (.iload_n 3, 1) := by decide +kernel
theorem d42_12 : decode jdk_42_method_146_code 12 = .ok (.iadd, 1) := by decide +kernel
theorem d42_13 : decode jdk_42_method_146_code 13 = .ok (.iload_n 3, 1) := by decide +kernel
theorem d42_14 : decode jdk_42_method_146_code 14 = .ok (.invokestatic 212, 3) := by decide +kernel
theorem d42_17 : decode jdk_42_method_146_code 17 = .ok (.iload_n 3, 1) := by decide +kernel
theorem d42_18 : decode jdk_42_method_146_code 18 = .ok (.iconst 1, 1) := by decide +kernel
theorem d42_19 : decode jdk_42_method_146_code 19 = .ok (.ishl, 1) := by decide +kernel
theorem d42_20 : decode jdk_42_method_146_code 20 = .ok (.istore_n 3, 1) := by decide +kernel
theorem d42_21 : decode jdk_42_method_146_code 21 = .ok (.goto (-21), 3) := by decide +kernel
set_option maxRecDepth 65536 in
set_option maxHeartbeats 40000000 in
theorem rmRCR (l : Launch) (Z : State) (a0 : Array Value) (hw : ∀ d ∈ tables_1, d.before a0 Z = true) (ws : List Jvm.Cond) (v1 : Addr) (k1 : ClassId) (lm : Nat) (h0 : Heap) (n0 : Nat) (Z0 : n0 ≤ h0.size) (BA : Arv Z h0 v1 k1 .byte (Int32.ofNat lm) (List.replicate 4 (.int (32 : Int32)) ++ List.replicate (lm - 4) (.int (0 : Int32))) (.int (0 : Int32))) (g_v1 : n0 ≤ v1) (hl8 : 8 ≤ lm) (hlM : lm ≤ 16) :
    MetFree l (⟨"java/lang/String", "repeatCopyRest", "([BIII)V"⟩ : MethodName) (head1 (Jvm.Cond.code (⟨"java/lang/String", "repeatCopyRest", "([BIII)V"⟩ : MethodName) jdk_42_method_146_code 4 none :: ws) ({ frames := 1, cells := 0, slots := 0, locals := 40 } : Room)) (fun a U => a = #[(.ref v1), (.int (0 : Int32)), (.int (Int32.ofNat lm)), (.int (4 : Int32))] ∧ Z.Warmed39 U.vm ∧ U.heap = h0) (fun _ _ _ _ _ => True) (fun _ U o U' => ∃ v L, o = .returned v ∧ QRCR Z v1 k1 lm h0 n0 v U'.heap L ∧ FrameEnd U o U' L ({ frames := 1, cells := 0, slots := 0, locals := 40 } : Room).cells ({ frames := 1, cells := 0, slots := 0, locals := 40 } : Room).slots) := by
  refine MetFree.of_bodySF (plainFor_of_name pn_java_lang_String) hisR ?_
  intro p e s m args below meth c s₁ Bd hml0 hP hK
  obtain ⟨rfl, hZ, hh⟩ := hP
  have hx := Bd.exec
  have hby := Bd.bytes
  have hml : c.maxLocals = 4 := hml0
  have hown : s.vm.findClass "java/lang/String" = some m.cls := findClass_of_methodNamed Bd.named
  have hnm := (name_of_methodNamed Bd.named Bd.method).1
  have X0 : Stand p l e ({ frames := 1, cells := 0, slots := 0, locals := 40 } : Room) s m #[(.ref v1), (.int (0 : Int32)), (.int (Int32.ofNat lm)), (.int (4 : Int32))] below meth c s₁ [] 0 0 := Stand.of_body Bd
  have e0 : s₁.heap = h0 := by rw [← hh, Bd.state]; rfl
  have N0 := Fr.nil n0
  have pre0 : ∀ t, Steps p.tables e below (s₁.setTop (mkF m 0 #[.val (.ref v1), .val (.int (0 : Int32)), .val (.int (Int32.ofNat lm)), .val (.int (4 : Int32))] [])) t → Steps p.tables e below (s₁.setTop (entryFrame m #[(.ref v1), (.int (0 : Int32)), (.int (Int32.ofNat lm)), (.int (4 : Int32))] 4)) t := fun t k => castTop (ef_RCR m v1 (0 : Int32) (Int32.ofNat lm) (4 : Int32)) k
  have mem_v1 : v1 ∈ [v1] := List.mem_of_getElem? (i := 0) rfl
  have pre218 : ∀ t, Steps p.tables e below (s₁.setTop (mkF m 4 #[.val (.ref v1), .val (.int (0 : Int32)), .val (.int (Int32.ofNat lm)), .val (.int (4 : Int32))] [(.int (Int32.ofNat (lm - 4))), (.int (4 : Int32))])) t → Steps p.tables e below (s₁.setTop (mkF m 0 #[.val (.ref v1), .val (.int (0 : Int32)), .val (.int (Int32.ofNat lm)), .val (.int (4 : Int32))] [])) t := by
    intro t kt
    show Steps p.tables e below (s₁.setTop (mkF m 0 #[.val (.ref v1), .val (.int (0 : Int32)), .val (.int (Int32.ofNat lm)), .val (.int (4 : Int32))] [])) _
    refine XS.iloadN X0.here hx rfl (hb hby d42_0) rfl ?_
    refine XS.iloadN X0.here hx rfl (hb hby d42_1) rfl ?_
    refine XS.iloadN X0.here hx rfl (hb hby d42_2) rfl ?_
    refine XS.isub X0.here hx rfl (hb hby d42_3) rfl ?_
    show Steps p.tables e below (s₁.setTop (mkF m 4 #[.val (.ref v1), .val (.int (0 : Int32)), .val (.int (Int32.ofNat lm)), .val (.int (4 : Int32))] [(.int ((Int32.ofNat lm) - (4 : Int32))), (.int (4 : Int32))])) _
    rw [show Int32.ofNat lm - (4 : Int32) = Int32.ofNat (lm - 4) from own_sub (b := 4) (by omega) (by omega)]
    exact kt
  by_cases cc4 : 4 < lm - 4
  · skip
    obtain ⟨T221, h221, L221, X221, e221, N221, KC221, V221, st221⟩ := own_cp X0 hx hZ hown (tw hw 126 rfl) (tw hw 109 rfl) (tw hw 107 rfl) (tw hw 108 rfl) e0 (lm) (lm) (0) (4) (4) BA BA (by simp; omega) (by simp; omega) (by omega) (by omega) (by omega) (by omega) N0 g_v1 (g := (mkF m 14 #[.val (.ref v1), .val (.int (0 : Int32)), .val (.int (Int32.ofNat lm)), .val (.int (4 : Int32))] [(.int (4 : Int32)), (.int (4 : Int32)), (.ref v1), (.int (0 : Int32)), (.ref v1)])) rfl (by rw [hml]; rfl) rfl (hb hby d42_14) (by decide) (W := 0) (by show 2 * 0 + _ ≤ _; exact Nat.le_of_eq rfl) (by decide)
    have K221 := (Keep.refl h0 [v1]).trans KC221 (allS (Or.inl mem_v1) all0)
    have VR4 : Arv Z h221 v1 k1 .byte (Int32.ofNat lm) (List.replicate 8 (.int (32 : Int32)) ++ List.replicate (lm - 8) (.int (0 : Int32))) (.int (0 : Int32)) := by have q := V221; rw [own_dbl (by omega)] at q; exact q
    obtain ⟨T222, h222, L222, X222, e222, N222, KC222, V222, st222⟩ := own_cp X221 hx hZ hown (tw hw 126 rfl) (tw hw 109 rfl) (tw hw 107 rfl) (tw hw 108 rfl) e221 (lm) (lm) (0) (8) (lm - 8) VR4 VR4 (by simp; omega) (by simp; omega) (by omega) (by omega) (by omega) (by omega) N221 g_v1 (g := (mkF m 33 #[.val (.ref v1), .val (.int (0 : Int32)), .val (.int (Int32.ofNat lm)), .val (.int (8 : Int32))] [(.int (Int32.ofNat (lm - 8))), (.int (8 : Int32)), (.ref v1), (.int (0 : Int32)), (.ref v1)])) rfl (by rw [hml]; rfl) rfl (hb hby d42_33) (by decide) (W := 0) (by show 2 * 0 + _ ≤ _; exact Nat.le_of_eq rfl) (by decide)
    have K222 := K221.trans KC222 (allS (Or.inl mem_v1) all0)
    have pre223 : ∀ t, Steps p.tables e below (T222.setTop (mkF m 36 #[.val (.ref v1), .val (.int (0 : Int32)), .val (.int (Int32.ofNat lm)), .val (.int (8 : Int32))] [])) t → Steps p.tables e below (s₁.setTop (mkF m 4 #[.val (.ref v1), .val (.int (0 : Int32)), .val (.int (Int32.ofNat lm)), .val (.int (4 : Int32))] [(.int (Int32.ofNat (lm - 4))), (.int (4 : Int32))])) t := by
      intro t kt
      refine XS.icmpNo X0.here hx rfl (hb hby d42_4) rfl (tlt (by rw [show (4 : Int32) = Int32.ofNat 4 from rfl, own_lt (by omega) (by omega)]; omega : (4 : Int32) < (Int32.ofNat (lm - 4)))).2.1 ?_
      show Steps p.tables e below (s₁.setTop (mkF m 7 #[.val (.ref v1), .val (.int (0 : Int32)), .val (.int (Int32.ofNat lm)), .val (.int (4 : Int32))] [])) _
      refine XS.aloadN X0.here hx rfl (hb hby d42_7) rfl rfl ?_
      refine XS.iloadN X0.here hx rfl (hb hby d42_8) rfl ?_
      refine XS.aloadN X0.here hx rfl (hb hby d42_9) rfl rfl ?_
      refine XS.iloadN X0.here hx rfl (hb hby d42_10) rfl ?_
      refine XS.iloadN X0.here hx rfl (hb hby d42_11) rfl ?_
      refine XS.iadd X0.here hx rfl (hb hby d42_12) rfl ?_
      refine XS.iloadN X0.here hx rfl (hb hby d42_13) rfl ?_
      show Steps p.tables e below (s₁.setTop (mkF m 14 #[.val (.ref v1), .val (.int (0 : Int32)), .val (.int (Int32.ofNat lm)), .val (.int (4 : Int32))] [(.int (4 : Int32)), (.int ((0 : Int32) + (4 : Int32))), (.ref v1), (.int (0 : Int32)), (.ref v1)])) _
      rw [show (0 : Int32) + (4 : Int32) = (4 : Int32) from by decide]
      show Steps p.tables e below (s₁.setTop (mkF m 14 #[.val (.ref v1), .val (.int (0 : Int32)), .val (.int (Int32.ofNat lm)), .val (.int (4 : Int32))] [(.int (4 : Int32)), (.int (4 : Int32)), (.ref v1), (.int (0 : Int32)), (.ref v1)])) _
      refine st221 _ ?_
      show Steps p.tables e below (T221.setTop (mkF m 17 #[.val (.ref v1), .val (.int (0 : Int32)), .val (.int (Int32.ofNat lm)), .val (.int (4 : Int32))] [])) _
      refine XS.iloadN X221.here hx rfl (hb hby d42_17) rfl ?_
      refine XS.iconst X221.here hx rfl (hb hby d42_18) ?_
      refine XS.ishl X221.here hx rfl (hb hby d42_19) rfl ?_
      show Steps p.tables e below (T221.setTop (mkF m 20 #[.val (.ref v1), .val (.int (0 : Int32)), .val (.int (Int32.ofNat lm)), .val (.int (4 : Int32))] [(.int ((4 : Int32) <<< ((1 : Int32) &&& 31)))])) _
      rw [show ((4 : Int32) <<< ((1 : Int32) &&& 31)) = (8 : Int32) from by decide]
      show Steps p.tables e below (T221.setTop (mkF m 20 #[.val (.ref v1), .val (.int (0 : Int32)), .val (.int (Int32.ofNat lm)), .val (.int (4 : Int32))] [(.int (8 : Int32))])) _
      refine XS.istoreN X221.here hx rfl (hb hby d42_20) rfl (l' := #[.val (.ref v1), .val (.int (0 : Int32)), .val (.int (Int32.ofNat lm)), .val (.int (8 : Int32))]) rfl ?_
      refine XS.goto X221.here hx rfl (pc0 := 21) (pc' := 0) rfl (hb hby d42_21) (by decide) (by decide) ?_
      refine XS.iloadN X221.here hx rfl (hb hby d42_0) rfl ?_
      refine XS.iloadN X221.here hx rfl (hb hby d42_1) rfl ?_
      refine XS.iloadN X221.here hx rfl (hb hby d42_2) rfl ?_
      refine XS.isub X221.here hx rfl (hb hby d42_3) rfl ?_
      show Steps p.tables e below (T221.setTop (mkF m 4 #[.val (.ref v1), .val (.int (0 : Int32)), .val (.int (Int32.ofNat lm)), .val (.int (8 : Int32))] [(.int ((Int32.ofNat lm) - (8 : Int32))), (.int (8 : Int32))])) _
      rw [show Int32.ofNat lm - (8 : Int32) = Int32.ofNat (lm - 8) from own_sub (b := 8) (by omega) (by omega)]
      refine XS.icmpYes X221.here hx rfl (pc0 := 4) (pc' := 24) rfl (hb hby d42_4) rfl (flt (by rw [show (8 : Int32) = Int32.ofNat 8 from rfl, own_lt (by omega) (by omega)]; omega : ¬ ((8 : Int32) < (Int32.ofNat (lm - 8))))).2.1 (by decide) (by decide) ?_
      show Steps p.tables e below (T221.setTop (mkF m 24 #[.val (.ref v1), .val (.int (0 : Int32)), .val (.int (Int32.ofNat lm)), .val (.int (8 : Int32))] [])) _
      refine XS.aloadN X221.here hx rfl (hb hby d42_24) rfl rfl ?_
      refine XS.iloadN X221.here hx rfl (hb hby d42_25) rfl ?_
      refine XS.aloadN X221.here hx rfl (hb hby d42_26) rfl rfl ?_
      refine XS.iloadN X221.here hx rfl (hb hby d42_27) rfl ?_
      refine XS.iloadN X221.here hx rfl (hb hby d42_28) rfl ?_
      refine XS.iadd X221.here hx rfl (hb hby d42_29) rfl ?_
      refine XS.iloadN X221.here hx rfl (hb hby d42_30) rfl ?_
      refine XS.iloadN X221.here hx rfl (hb hby d42_31) rfl ?_
      refine XS.isub X221.here hx rfl (hb hby d42_32) rfl ?_
      show Steps p.tables e below (T221.setTop (mkF m 33 #[.val (.ref v1), .val (.int (0 : Int32)), .val (.int (Int32.ofNat lm)), .val (.int (8 : Int32))] [(.int ((Int32.ofNat lm) - (8 : Int32))), (.int ((0 : Int32) + (8 : Int32))), (.ref v1), (.int (0 : Int32)), (.ref v1)])) _
      rw [show Int32.ofNat lm - (8 : Int32) = Int32.ofNat (lm - 8) from own_sub (b := 8) (by omega) (by omega)]
      show Steps p.tables e below (T221.setTop (mkF m 33 #[.val (.ref v1), .val (.int (0 : Int32)), .val (.int (Int32.ofNat lm)), .val (.int (8 : Int32))] [(.int (Int32.ofNat (lm - 8))), (.int ((0 : Int32) + (8 : Int32))), (.ref v1), (.int (0 : Int32)), (.ref v1)])) _
      rw [show (0 : Int32) + (8 : Int32) = (8 : Int32) from by decide]
      show Steps p.tables e below (T221.setTop (mkF m 33 #[.val (.ref v1), .val (.int (0 : Int32)), .val (.int (Int32.ofNat lm)), .val (.int (8 : Int32))] [(.int (Int32.ofNat (lm - 8))), (.int (8 : Int32)), (.ref v1), (.int (0 : Int32)), (.ref v1)])) _
      refine st222 _ ?_
      exact kt
    obtain ⟨fs, hr, hrun, hended, hW, hsame⟩ := X222.leave (v := none) (fun _ => rfl)
    refine ⟨_, _, (pre0 _ (pre218 _ (pre223 _ ?_))), hrun, hended, _, _, rfl, ?_, ⟨_, rfl⟩, hW, hsame.mono (by decide) (by decide)⟩
    · show Steps p.tables e below (T222.setTop (mkF m 36 #[.val (.ref v1), .val (.int (0 : Int32)), .val (.int (Int32.ofNat lm)), .val (.int (8 : Int32))] [])) _
      exact X222.returnOut hx Bd.returns (hb hby d42_36) hr
    · show QRCR Z v1 k1 lm h0 n0 _ T222.heap _
      rw [e222]
      exact ⟨rfl, N222, K222, by have q := V222; rw [own_fill (by omega) (by omega)] at q; exact q⟩
  · skip
    obtain ⟨T219, h219, L219, X219, e219, N219, KC219, V219, st219⟩ := own_cp X0 hx hZ hown (tw hw 126 rfl) (tw hw 109 rfl) (tw hw 107 rfl) (tw hw 108 rfl) e0 (lm) (lm) (0) (4) (lm - 4) BA BA (by simp; omega) (by simp; omega) (by omega) (by omega) (by omega) (by omega) N0 g_v1 (g := (mkF m 33 #[.val (.ref v1), .val (.int (0 : Int32)), .val (.int (Int32.ofNat lm)), .val (.int (4 : Int32))] [(.int (Int32.ofNat (lm - 4))), (.int (4 : Int32)), (.ref v1), (.int (0 : Int32)), (.ref v1)])) rfl (by rw [hml]; rfl) rfl (hb hby d42_33) (by decide) (W := 0) (by show 2 * 0 + _ ≤ _; exact Nat.le_of_eq rfl) (by decide)
    have K219 := (Keep.refl h0 [v1]).trans KC219 (allS (Or.inl mem_v1) all0)
    have pre220 : ∀ t, Steps p.tables e below (T219.setTop (mkF m 36 #[.val (.ref v1), .val (.int (0 : Int32)), .val (.int (Int32.ofNat lm)), .val (.int (4 : Int32))] [])) t → Steps p.tables e below (s₁.setTop (mkF m 4 #[.val (.ref v1), .val (.int (0 : Int32)), .val (.int (Int32.ofNat lm)), .val (.int (4 : Int32))] [(.int (Int32.ofNat (lm - 4))), (.int (4 : Int32))])) t := by
      intro t kt
      refine XS.icmpYes X0.here hx rfl (pc0 := 4) (pc' := 24) rfl (hb hby d42_4) rfl (flt (by rw [show (4 : Int32) = Int32.ofNat 4 from rfl, own_lt (by omega) (by omega)]; omega : ¬ ((4 : Int32) < (Int32.ofNat (lm - 4))))).2.1 (by decide) (by decide) ?_
      show Steps p.tables e below (s₁.setTop (mkF m 24 #[.val (.ref v1), .val (.int (0 : Int32)), .val (.int (Int32.ofNat lm)), .val (.int (4 : Int32))] [])) _
      refine XS.aloadN X0.here hx rfl (hb hby d42_24) rfl rfl ?_
      refine XS.iloadN X0.here hx rfl (hb hby d42_25) rfl ?_
      refine XS.aloadN X0.here hx rfl (hb hby d42_26) rfl rfl ?_
      refine XS.iloadN X0.here hx rfl (hb hby d42_27) rfl ?_
      refine XS.iloadN X0.here hx rfl (hb hby d42_28) rfl ?_
      refine XS.iadd X0.here hx rfl (hb hby d42_29) rfl ?_
      refine XS.iloadN X0.here hx rfl (hb hby d42_30) rfl ?_
      refine XS.iloadN X0.here hx rfl (hb hby d42_31) rfl ?_
      refine XS.isub X0.here hx rfl (hb hby d42_32) rfl ?_
      show Steps p.tables e below (s₁.setTop (mkF m 33 #[.val (.ref v1), .val (.int (0 : Int32)), .val (.int (Int32.ofNat lm)), .val (.int (4 : Int32))] [(.int ((Int32.ofNat lm) - (4 : Int32))), (.int ((0 : Int32) + (4 : Int32))), (.ref v1), (.int (0 : Int32)), (.ref v1)])) _
      rw [show Int32.ofNat lm - (4 : Int32) = Int32.ofNat (lm - 4) from own_sub (b := 4) (by omega) (by omega)]
      show Steps p.tables e below (s₁.setTop (mkF m 33 #[.val (.ref v1), .val (.int (0 : Int32)), .val (.int (Int32.ofNat lm)), .val (.int (4 : Int32))] [(.int (Int32.ofNat (lm - 4))), (.int ((0 : Int32) + (4 : Int32))), (.ref v1), (.int (0 : Int32)), (.ref v1)])) _
      rw [show (0 : Int32) + (4 : Int32) = (4 : Int32) from by decide]
      show Steps p.tables e below (s₁.setTop (mkF m 33 #[.val (.ref v1), .val (.int (0 : Int32)), .val (.int (Int32.ofNat lm)), .val (.int (4 : Int32))] [(.int (Int32.ofNat (lm - 4))), (.int (4 : Int32)), (.ref v1), (.int (0 : Int32)), (.ref v1)])) _
      refine st219 _ ?_
      exact kt
    obtain ⟨fs, hr, hrun, hended, hW, hsame⟩ := X219.leave (v := none) (fun _ => rfl)
    refine ⟨_, _, (pre0 _ (pre218 _ (pre220 _ ?_))), hrun, hended, _, _, rfl, ?_, ⟨_, rfl⟩, hW, hsame.mono (by decide) (by decide)⟩
    · show Steps p.tables e below (T219.setTop (mkF m 36 #[.val (.ref v1), .val (.int (0 : Int32)), .val (.int (Int32.ofNat lm)), .val (.int (4 : Int32))] [])) _
      exact X219.returnOut hx Bd.returns (hb hby d42_36) hr
    · show QRCR Z v1 k1 lm h0 n0 _ T219.heap _
      rw [e219]
      exact ⟨rfl, N219, K219, by have q := V219; rw [own_fill (by omega) (by omega)] at q; exact q⟩
theorem ef_Rep (m : MethodId) (x0 : Addr) (x1 : Int32) : entryFrame m #[(.ref x0), (.int x1)] 5 = mkF m 0 #[.val (.ref x0), .val (.int x1), .unset, .unset, .unset] [] := by (first | (simp [entryFrame, mkF, argsToLocals, Value.category]; done) | rfl)
def QRep (Z : State) (x1 : Addr) (t1 : Addr) (kx : ClassId) (pn : Nat) (h0 : Heap) (n0 : Nat) (v : Option Value) (h : Heap) (L : List Loc) (vm : Vm) : Prop := ∃ x2, v = some (.ref x2) ∧ Fr n0 L ∧ Ext h0 h ∧ ∃ (t2 : Addr) (k2 : ClassId), (Exa Z h x2 "java/lang/String" ∧ Fld Z h x2 "java/lang/String" "value" "[B" (.ref t2) ∧ Fld Z h x2 "java/lang/String" "coder" "B" (.int (0 : Int32)) ∧ Arv Z h t2 k2 .byte (Int32.ofNat (4 * pn)) (List.replicate (4 * pn) (.int (32 : Int32))) (.int (0 : Int32))) ∧ (t2 = t1 ∨ h0.size ≤ t2 ∨ ∀ y, Safe Z EL vm h y → y ≠ t2)
theorem d33_0 : decode jdk_42_method_145_code 0 = .ok (.iload_n 1, 1) := by decide +kernel
theorem d33_1 : decode jdk_42_method_145_code 1 = .ok (.ifCond .ge 31, 3) := by decide +kernel
theorem d33_32 : decode jdk_42_method_145_code 32 = .ok (.iload_n 1, 1) := by decide +kernel
theorem d33_33 : decode jdk_42_method_145_code 33 = .ok (.iconst 1, 1) := by decide +kernel
theorem d33_34 : decode jdk_42_method_145_code 34 = .ok (.if_icmp .ne 5, 3) := by decide +kernel
theorem d33_37 : decode jdk_42_method_145_code 37 = .ok (.aload_n 0, 1) := by decide +kernel
theorem d33_38 : decode jdk_42_method_145_code 38 = .ok (.areturn, 1) := by decide +kernel
theorem d33_39 : decode jdk_42_method_145_code 39 = .ok (.aload_n 0, 1) := by decide +kernel
theorem d33_40 : decode jdk_42_method_145_code 40 = .ok (.getfield 9, 3) := by decide +kernel
theorem d33_43 : decode jdk_42_method_145_code 43 = .ok (.arraylength, 1) := by decide +kernel
theorem d33_44 : decode jdk_42_method_145_code 44 = .ok (.istore_n 2, 1) := by decide +kernel
theorem d33_45 : decode jdk_42_method_145_code 45 = .ok (.iload_n 2, 1) := by decide +kernel
theorem d33_46 : decode jdk_42_method_145_code 46 = .ok (.ifCond .eq 7, 3) := by decide +kernel
theorem d33_49 : decode jdk_42_method_145_code 49 = .ok (.iload_n 1, 1) := by decide +kernel
theorem d33_50 : decode jdk_42_method_145_code 50 = .ok (.ifCond .ne 6, 3) := by decide +kernel
theorem d33_53 : decode jdk_42_method_145_code 53 = .ok (.ldc 7, 2) := by decide +kernel
theorem d33_55 : decode jdk_42_method_145_code 55 = .ok (.areturn, 1) := by decide +kernel
theorem d33_56 : decode jdk_42_method_145_code 56 = .ok (.ldc_w 943, 3) := by decide +kernel
theorem d33_59 : decode jdk_42_method_145_code 59 = .ok (.iload_n 1, 1) := by decide +kernel
theorem d33_60 : decode jdk_42_method_145_code 60 = .ok (.idiv, 1) := by decide +kernel
theorem d33_61 : decode jdk_42_method_145_code 61 = .ok (.iload_n 2, 1) := by decide +kernel
theorem d33_62 : decode jdk_42_method_145_code 62 = .ok (.if_icmp .ge 14, 3) := by decide +kernel
theorem d33_76 : decode jdk_42_method_145_code 76 = .ok (.iload_n 2, 1) := by decide +kernel
theorem d33_77 : decode jdk_42_method_145_code 77 = .ok (.iconst 1, 1) := by decide +kernel
theorem d33_78 : decode jdk_42_method_145_code 78 = .ok (.if_icmp .ne 30, 3) := by decide +kernel
theorem d33_108 : decode jdk_42_method_145_code 108 = .ok (.iload_n 2, 1) := by decide +kernel
theorem d33_109 : decode jdk_42_method_145_code 109 = .ok (.iload_n 1, 1) := by decide +kernel
theorem d33_110 : decode jdk_42_method_145_code 110 = .ok (.imul, 1) := by decide +kernel
theorem d33_111 : decode jdk_42_method_145_code 111 = .ok (.istore_n 3, 1) := by decide +kernel
theorem d33_112 : decode jdk_42_method_145_code 112 = .ok (.iload_n 3, 1) := by decide +kernel
theorem d33_113 : decode jdk_42_method_145_code 113 = .ok (.newarray .byte, 2) := by decide +kernel
theorem d33_115 : decode jdk_42_method_145_code 115 = .ok (.astore 4, 2) := by decide +kernel
theorem d33_117 : decode jdk_42_method_145_code 117 = .ok (.aload_n 0, 1) := by decide +kernel
theorem d33_118 : decode jdk_42_method_145_code 118 = .ok (.getfield 9, 3) := by decide +kernel
theorem d33_121 : decode jdk_42_method_145_code 121 = .ok (.iconst 0, 1) := by decide +kernel
theorem d33_122 : decode jdk_42_method_145_code 122 = .ok (.aload 4, 2) := by decide +kernel
theorem d33_124 : decode jdk_42_method_145_code 124 = .ok (.iconst 0, 1) := by decide +kernel
theorem d33_125 : decode jdk_42_method_145_code 125 = .ok (.iload_n 2, 1) := by decide +kernel
theorem d33_126 : decode jdk_42_method_145_code 126 = .ok (.invokestatic 212, 3) := by decide +kernel
theorem d33_129 : decode jdk_42_method_145_code 129 = .ok (.aload 4, 2) := by decide +kernel
theorem d33_131 : decode jdk_42_method_145_code 131 = .ok (.iconst 0, 1) := by decide +kernel
theorem d33_132 : decode jdk_42_method_145_code 132 = .ok (.iload_n 3, 1) := by decide +kernel
theorem d33_133 : decode jdk_42_method_145_code 133 = .ok (.iload_n 2, 1) := by decide +kernel
theorem d33_134 : decode jdk_42_method_145_code 134 = .ok (.invokestatic 1044, 3) := by decide +kernel
theorem pd___BIII_V : parseMethodDescriptor "([BIII)V" = some ⟨[(.array .byte), .int, .int, .int], none⟩ := by decide +kernel
theorem d33_137 : decode jdk_42_method_145_code 137 = .ok (.new 10, 3) := by decide +kernel
theorem d33_140 : decode jdk_42_method_145_code 140 = .ok (.dup, 1) := by decide +kernel
theorem d33_141 : decode jdk_42_method_145_code 141 = .ok (.aload 4, 2) := by decide +kernel
theorem d33_143 : decode jdk_42_method_145_code 143 = .ok (.aload_n 0, 1) := by decide +kernel
theorem d33_144 : decode jdk_42_method_145_code 144 = .ok (.getfield 15, 3) := by decide +kernel
theorem d33_147 : decode jdk_42_method_145_code 147 = .ok (.invokespecial 209, 3) := by decide +kernel
theorem pd___BB_V : parseMethodDescriptor "([BB)V" = some ⟨[(.array .byte), .byte], none⟩ := by decide +kernel
theorem d33_150 : decode jdk_42_method_145_code 150 = .ok (.areturn, 1) := by decide +kernel
set_option maxRecDepth 65536 in
set_option maxHeartbeats 40000000 in
theorem rmRep (l : Launch) (Z : State) (a0 : Array Value) (hw : ∀ d ∈ tables_1, d.before a0 Z = true) (ws : List Jvm.Cond) (x1 : Addr) (t1 : Addr) (kx : ClassId) (pn : Nat) (h0 : Heap) (n0 : Nat) (Z0 : n0 ≤ h0.size) (hEL : EW Z a0 EL) (XE : Exa Z h0 x1 "java/lang/String") (XV : Fld Z h0 x1 "java/lang/String" "value" "[B" (.ref t1)) (XC : Fld Z h0 x1 "java/lang/String" "coder" "B" (.int (0 : Int32))) (XA : Arv Z h0 t1 kx .byte (Int32.ofNat 4) [(.int (32 : Int32)), (.int (32 : Int32)), (.int (32 : Int32)), (.int (32 : Int32))] (.int (0 : Int32))) (hpM : 4 * pn ≤ 16) :
    MetFree l (⟨"java/lang/String", "repeat", "(I)Ljava/lang/String;"⟩ : MethodName) (head1 (Jvm.Cond.code (⟨"java/lang/String", "repeat", "(I)Ljava/lang/String;"⟩ : MethodName) jdk_42_method_145_code 5 (some (.object "java/lang/String")) :: ws) ({ frames := 2, cells := 2, slots := 20, locals := 80 } : Room)) (fun a U => a = #[(.ref x1), (.int (Int32.ofNat pn))] ∧ Z.Warmed39 U.vm ∧ U.heap = h0 ∧ CHv Z EL U.vm h0) (fun _ _ _ _ _ => True) (fun _ U o U' => ∃ v L, o = .returned v ∧ QRep Z x1 t1 kx pn h0 n0 v U'.heap L U'.vm ∧ CHr Z EL U.vm U.heap U'.vm U'.heap ∧ ReturnedEndW U o U' L ({ frames := 2, cells := 2, slots := 20, locals := 80 } : Room).cells ({ frames := 2, cells := 2, slots := 20, locals := 80 } : Room).slots) := by
  refine MetFree.of_bodySF (plainFor_of_name pn_java_lang_String) hisR ?_
  intro p e s m args below meth c s₁ Bd hml0 hP hK
  obtain ⟨rfl, hZ, hh, hCH⟩ := hP
  have hx := Bd.exec
  have hby := Bd.bytes
  have hml : c.maxLocals = 5 := hml0
  have hown : s.vm.findClass "java/lang/String" = some m.cls := findClass_of_methodNamed Bd.named
  have hnm := (name_of_methodNamed Bd.named Bd.method).1
  have X0 : Stand p l e ({ frames := 2, cells := 2, slots := 20, locals := 80 } : Room) s m #[(.ref x1), (.int (Int32.ofNat pn))] below meth c s₁ [] 0 0 := Stand.of_body Bd
  have e0 : s₁.heap = h0 := by rw [← hh, Bd.state]; rfl
  have N0 := Fr.nil n0
  have pre0 : ∀ t, Steps p.tables e below (s₁.setTop (mkF m 0 #[.val (.ref x1), .val (.int (Int32.ofNat pn)), .unset, .unset, .unset] [])) t → Steps p.tables e below (s₁.setTop (entryFrame m #[(.ref x1), (.int (Int32.ofNat pn))] 5)) t := fun t k => castTop (ef_Rep m x1 (Int32.ofNat pn)) k
  have X0 : Stand p l e ({ frames := 2, cells := 2, slots := 20, locals := 80 } : Room) (s.setVm s.vm) m #[(.ref x1), (.int (Int32.ofNat pn))] below meth c s₁ [] 0 0 := by rw [State.setVm_self]; exact X0
  have hZ : Z.Warmed39 (s.setVm s.vm).vm := hZ
  have hown : (s.setVm s.vm).vm.findClass "java/lang/String" = some m.cls := hown
  have hSi0 : s.Since s.vm 0 := (State.WarmedH.refl s).since 0
  rcases own_three pn with rfl | rfl | hp2
  · skip
    obtain ⟨T225, X225, e225, st225⟩ := getF X0 hx hZ hown (host := "") (Or.inl (tw hw 30 rfl)) Via.refl e0 XV (g := (mkF m 40 #[.val (.ref x1), .val (.int (Int32.ofNat 0)), .unset, .unset, .unset] [(.ref x1)])) rfl rfl (hb hby d33_40)
    obtain ⟨c226, Ar226, -, S226, M226, -, -⟩ := id XA
    have pre227 : ∀ t, Steps p.tables e below (T225.setTop (mkF m 53 #[.val (.ref x1), .val (.int (Int32.ofNat 0)), .val (.int (Int32.ofNat 4)), .unset, .unset] [])) t → Steps p.tables e below (s₁.setTop (mkF m 0 #[.val (.ref x1), .val (.int (Int32.ofNat 0)), .unset, .unset, .unset] [])) t := by
      intro t kt
      show Steps p.tables e below (s₁.setTop (mkF m 0 #[.val (.ref x1), .val (.int (Int32.ofNat 0)), .unset, .unset, .unset] [])) _
      refine XS.iloadN X0.here hx rfl (hb hby d33_0) rfl ?_
      refine XS.ifYes X0.here hx rfl (pc0 := 1) (pc' := 32) rfl (hb hby d33_1) rfl ((if0 _ _).trans (flt (by decide : ¬ ((Int32.ofNat 0) < (0 : Int32)))).2.1) (by decide) (by decide) ?_
      show Steps p.tables e below (s₁.setTop (mkF m 32 #[.val (.ref x1), .val (.int (Int32.ofNat 0)), .unset, .unset, .unset] [])) _
      refine XS.iloadN X0.here hx rfl (hb hby d33_32) rfl ?_
      refine XS.iconst X0.here hx rfl (hb hby d33_33) ?_
      refine XS.icmpYes X0.here hx rfl (pc0 := 34) (pc' := 39) rfl (hb hby d33_34) rfl (feq (by decide : ¬ ((Int32.ofNat 0) = (1 : Int32)))).2 (by decide) (by decide) ?_
      show Steps p.tables e below (s₁.setTop (mkF m 39 #[.val (.ref x1), .val (.int (Int32.ofNat 0)), .unset, .unset, .unset] [])) _
      refine XS.aloadN X0.here hx rfl (hb hby d33_39) rfl rfl ?_
      refine st225 _ ?_
      refine X225.arraylength hx (by rw [e225]; exact Ar226.1) (State.isArrayOf_alike hZ.alike Ar226.2.1) (g := (mkF m 43 #[.val (.ref x1), .val (.int (Int32.ofNat 0)), .unset, .unset, .unset] [(.ref t1)])) rfl rfl (hb hby d33_43) _ ?_
      rw [len_of S226 M226]
      show Steps p.tables e below (T225.setTop (mkF m 44 #[.val (.ref x1), .val (.int (Int32.ofNat 0)), .unset, .unset, .unset] [(.int (Int32.ofNat 4))])) _
      refine XS.istoreN X225.here hx rfl (hb hby d33_44) rfl (l' := #[.val (.ref x1), .val (.int (Int32.ofNat 0)), .val (.int (Int32.ofNat 4)), .unset, .unset]) rfl ?_
      refine XS.iloadN X225.here hx rfl (hb hby d33_45) rfl ?_
      refine XS.ifNo X225.here hx rfl (hb hby d33_46) rfl ((if0 _ _).trans (feq (by decide : ¬ ((Int32.ofNat 4) = (0 : Int32)))).1) ?_
      show Steps p.tables e below (T225.setTop (mkF m 49 #[.val (.ref x1), .val (.int (Int32.ofNat 0)), .val (.int (Int32.ofNat 4)), .unset, .unset] [])) _
      refine XS.iloadN X225.here hx rfl (hb hby d33_49) rfl ?_
      refine XS.ifNo X225.here hx rfl (hb hby d33_50) rfl ((if0 _ _).trans (teq (rfl : (Int32.ofNat 0) = (0 : Int32))).2) ?_
      exact kt
    have wS228 : ∀ a ∈ Bundle.stringAtoms, a.before a0 Z = true := fun d hd => hw d ((by decide +kernel : ∀ d ∈ Bundle.stringAtoms, d ∈ tables_1) d hd)
    obtain ⟨b228, T228, h228, k228, d228, kb228, X228, e228, E228, hSi228, hk228, hZ, hown, A228, FC228, FV228, V228, -, -, crs228, Lt228, nn228, st228⟩ := ldcCH (s := s) (vm0 := s.vm) X225 hx hZ hown (tw hw 180 rfl) wS228 e225 hSi0 (Nat.zero_le _) hEL (by decide : ("java/lang/String", 7) ∈ EL) hCH (vs := []) (z := (0 : Int32)) ⟨by decide, rfl⟩ (by decide) (by decide) (g := (mkF m 53 #[.val (.ref x1), .val (.int (Int32.ofNat 0)), .val (.int (Int32.ofNat 4)), .unset, .unset] [])) rfl (hb hby d33_53) (n := 0) (by decide) (by decide) (by decide) (by decide)
    have cs229 := crs228
    have cr229 := (CHr.refl hCH).trans cs229
    have K228 := (Keep.refl h0 []).ext E228
    have nf : ∀ y, Safe Z EL T228.vm h228 y → y ≠ d228 := fun y q => (nn228 y q).2
    have pre230 : ∀ t, Steps p.tables e below (T228.setTop (mkF m 55 #[.val (.ref x1), .val (.int (Int32.ofNat 0)), .val (.int (Int32.ofNat 4)), .unset, .unset] [(.ref b228)])) t → Steps p.tables e below (T225.setTop (mkF m 53 #[.val (.ref x1), .val (.int (Int32.ofNat 0)), .val (.int (Int32.ofNat 4)), .unset, .unset] [])) t := by
      intro t kt
      show Steps p.tables e below (T225.setTop (mkF m 53 #[.val (.ref x1), .val (.int (Int32.ofNat 0)), .val (.int (Int32.ofNat 4)), .unset, .unset] [])) _
      refine st228 _ ?_
      exact kt
    obtain ⟨fs, hr, hrun, hended, e1, e2, e3, e4⟩ := X228.leaveW hSi228 (by rw [e228]; exact hk228) (v := some (.ref b228)) (fun h => by rw [Bd.returns] at h; cases h)
    refine ⟨_, _, (pre0 _ (pre227 _ (pre230 _ ?_))), hrun, hended, _, _, rfl, ?_, ?_, ⟨e1, e2, e3, e4.mono (by decide) (by decide)⟩⟩
    · show Steps p.tables e below (T228.setTop (mkF m 55 #[.val (.ref x1), .val (.int (Int32.ofNat 0)), .val (.int (Int32.ofNat 4)), .unset, .unset] [(.ref b228)])) _
      exact retOut X228 hx (t := (.object "java/lang/String")) Bd.returns rfl (Or.inr (Or.inr (Or.inr (Or.inr ⟨rfl, rfl, rfl⟩)))) (hb hby d33_55) hr
    · show QRep Z x1 t1 kx 0 h0 n0 _ T228.heap _ T228.vm
      rw [e228]
      exact ⟨b228, rfl, N0, own_ext K228, d228, kb228, ⟨A228, FV228, FC228, V228⟩, Or.inr (Or.inr nf)⟩
    · have q := cr229.trans (CHv.at X228 hZ hEL cs229.1)
      show CHr Z EL s.vm s.heap T228.vm T228.heap
      rw [hh, e228]
      exact q
  · skip
    have pre224 : ∀ t, Steps p.tables e below (s₁.setTop (mkF m 38 #[.val (.ref x1), .val (.int (Int32.ofNat 1)), .unset, .unset, .unset] [(.ref x1)])) t → Steps p.tables e below (s₁.setTop (mkF m 0 #[.val (.ref x1), .val (.int (Int32.ofNat 1)), .unset, .unset, .unset] [])) t := by
      intro t kt
      show Steps p.tables e below (s₁.setTop (mkF m 0 #[.val (.ref x1), .val (.int (Int32.ofNat 1)), .unset, .unset, .unset] [])) _
      refine XS.iloadN X0.here hx rfl (hb hby d33_0) rfl ?_
      refine XS.ifYes X0.here hx rfl (pc0 := 1) (pc' := 32) rfl (hb hby d33_1) rfl ((if0 _ _).trans (flt (by decide : ¬ ((Int32.ofNat 1) < (0 : Int32)))).2.1) (by decide) (by decide) ?_
      show Steps p.tables e below (s₁.setTop (mkF m 32 #[.val (.ref x1), .val (.int (Int32.ofNat 1)), .unset, .unset, .unset] [])) _
      refine XS.iloadN X0.here hx rfl (hb hby d33_32) rfl ?_
      refine XS.iconst X0.here hx rfl (hb hby d33_33) ?_
      refine XS.icmpNo X0.here hx rfl (hb hby d33_34) rfl (teq (rfl : (Int32.ofNat 1) = (1 : Int32))).2 ?_
      show Steps p.tables e below (s₁.setTop (mkF m 37 #[.val (.ref x1), .val (.int (Int32.ofNat 1)), .unset, .unset, .unset] [])) _
      refine XS.aloadN X0.here hx rfl (hb hby d33_37) rfl rfl ?_
      exact kt
    obtain ⟨fs, hr, hrun, hended, e1, e2, e3, e4⟩ := X0.leaveW hSi0 (by rw [e0]; exact (Nat.zero_le _)) (v := some (.ref x1)) (fun h => by rw [Bd.returns] at h; cases h)
    refine ⟨_, _, (pre0 _ (pre224 _ ?_)), hrun, hended, _, _, rfl, ?_, ?_, ⟨e1, e2, e3, e4.mono (by decide) (by decide)⟩⟩
    · show Steps p.tables e below (s₁.setTop (mkF m 38 #[.val (.ref x1), .val (.int (Int32.ofNat 1)), .unset, .unset, .unset] [(.ref x1)])) _
      exact retOut X0 hx (t := (.object "java/lang/String")) Bd.returns rfl (Or.inr (Or.inr (Or.inr (Or.inr ⟨rfl, rfl, rfl⟩)))) (hb hby d33_38) hr
    · show QRep Z x1 t1 kx 1 h0 n0 _ s₁.heap _ s₁.vm
      rw [e0]
      exact ⟨x1, rfl, N0, own_ext (Keep.refl h0 []), t1, kx, ⟨XE, XV, XC, XA⟩, Or.inl rfl⟩
    · have q := (CHr.refl hCH).trans (CHv.at X0 hZ hEL hCH)
      show CHr Z EL s.vm s.heap s₁.vm s₁.heap
      rw [hh, e0]
      exact q
  · skip
    obtain ⟨T231, X231, e231, st231⟩ := getF X0 hx hZ hown (host := "") (Or.inl (tw hw 30 rfl)) Via.refl e0 XV (g := (mkF m 40 #[.val (.ref x1), .val (.int (Int32.ofNat pn)), .unset, .unset, .unset] [(.ref x1)])) rfl rfl (hb hby d33_40)
    obtain ⟨c232, Ar232, -, S232, M232, -, -⟩ := id XA
    obtain ⟨T233, h233, k233, X233, e233, E233, A233, st233⟩ := newP X231 hx hZ (tw hw 3 rfl) e231 (g := (mkF m 113 #[.val (.ref x1), .val (.int (Int32.ofNat pn)), .val (.int (Int32.ofNat 4)), .val (.int (Int32.ofNat (4 * pn))), .unset] [(.int (Int32.ofNat (4 * pn)))])) rfl (hb hby d33_113) rfl (own_nn (by omega)) (cap := 16) (by rw [own_nc (by omega)]; exact hpM) (by decide) (by decide) (by decide)
    obtain ⟨b233, g233⟩ : ∃ z, z = h0.size := ⟨_, rfl⟩
    rw [← g233] at A233 st233
    have g_b233 : n0 ≤ b233 := Nat.le_trans Z0 (Nat.le_of_eq g233.symm)
    have sz_b233 : h0.size ≤ b233 := Nat.le_trans (Keep.refl h0 []).1 (Nat.le_of_eq g233.symm)
    have ne_x1_b233 : x1 ≠ b233 := Nat.ne_of_lt (Nat.lt_of_lt_of_le XE.lt (Nat.le_of_eq g233.symm))
    have cs234 := CHr.ext E233 hCH
    have cr234 := (CHr.refl hCH).trans cs234
    have hk234 := Nat.le_trans (Nat.zero_le _) cs234.2.1
    have Z233 := Nat.le_trans Z0 E233.1
    have K233 := (Keep.refl h0 []).ext E233
    have V233 := Arv.new A233 (own_nn (by omega))
    have VP : Arv Z h233 b233 k233 .byte (Int32.ofNat (4 * pn)) (List.replicate (4 * pn) (.int (0 : Int32))) (.int (0 : Int32)) := V233.pad (pad_rep [] (.int (0 : Int32)) (4 * pn))
    have yb233 := own_safeE E233 hCH (Nat.le_of_eq g233.symm)
    have f235 := (XV.ext E233)
    obtain ⟨T236, X236, e236, st236⟩ := getF X233 hx hZ hown (host := "") (Or.inl (tw hw 30 rfl)) Via.refl e233 f235 (g := (mkF m 118 #[.val (.ref x1), .val (.int (Int32.ofNat pn)), .val (.int (Int32.ofNat 4)), .val (.int (Int32.ofNat (4 * pn))), .val (.ref b233)] [(.ref x1)])) rfl rfl (hb hby d33_118)
    have f237 := (XA.ext E233)
    obtain ⟨T238, h238, L238, X238, e238, N238, KC238, V238, st238⟩ := own_cp X236 hx hZ hown (tw hw 126 rfl) (tw hw 109 rfl) (tw hw 107 rfl) (tw hw 108 rfl) e236 (4) (4 * pn) (0) (0) (4) f237 VP rfl (by simp) (by omega) (by omega) (by omega) (by omega) N0 g_b233 (g := (mkF m 126 #[.val (.ref x1), .val (.int (Int32.ofNat pn)), .val (.int (Int32.ofNat 4)), .val (.int (Int32.ofNat (4 * pn))), .val (.ref b233)] [(.int (Int32.ofNat 4)), (.int (0 : Int32)), (.ref b233), (.int (0 : Int32)), (.ref t1)])) rfl (by rw [hml]; rfl) rfl (hb hby d33_126) (by decide) (W := 0) (by show 2 * 0 + _ ≤ _; exact Nat.le_of_eq rfl) (by decide)
    have cs239 := CHr.keep KC238 (allS yb233 all0) cs234.1
    have cr239 := cr234.trans cs239
    have y239_b233 := cs239.safe VP.lt yb233
    have hk239 := Nat.le_trans hk234 cs239.2.1
    have Z238 := Nat.le_trans Z233 KC238.1
    have K238 := K233.trans KC238 (allS (Or.inr sz_b233) all0)
    have V4 : Arv Z h238 b233 k233 .byte (Int32.ofNat (4 * pn)) (List.replicate 4 (.int (32 : Int32)) ++ List.replicate (4 * pn - 4) (.int (0 : Int32))) (.int (0 : Int32)) := by have q := V238; simp at q; simpa using q
    obtain ⟨_, _, ⟨T240, L240, k240, n240⟩, -, X240, ⟨Lc240, hQ240, l240, y240, z240⟩, st240⟩ := Jvm.LawKit.callS X238 hx (y := (⟨"java/lang/String", "repeatCopyRest", "([BIII)V"⟩ : MethodName)) hown (mvT hZ (tw hw 223 rfl)) (mvT hZ (tw hw 224 rfl)) (mvT hZ (tw hw 1 rfl)) (mvT hZ (tw hw 225 rfl)) (by decide) (backOf (W := 0) (rmRCR l Z a0 hw [] b233 k233 (4 * pn) h238 n0 Z238 V4 g_b233 (by omega) hpM) hZ (tw hw 225 rfl) (tw hw 1 rfl) (by decide) (by decide)) (g := (mkF m 134 #[.val (.ref x1), .val (.int (Int32.ofNat pn)), .val (.int (Int32.ofNat 4)), .val (.int (Int32.ofNat (4 * pn))), .val (.ref b233)] [(.int (Int32.ofNat 4)), (.int (Int32.ofNat (4 * pn))), (.int (0 : Int32)), (.ref b233)])) rfl (by rw [hml]; rfl) (argsL := [(.ref b233), (.int (0 : Int32)), (.int (Int32.ofNat (4 * pn))), (.int (Int32.ofNat 4))]) (rest := []) (lenOf pd___BIII_V rfl) rfl (by show 2 * 0 + _ ≤ _; exact Nat.le_of_eq rfl) (hb hby d33_134) (fun _ _ => ⟨rfl, e238, (by decide : 1 + 0 ≤ _), (by decide : 16 + 0 ≤ _)⟩)
    dsimp only [Pt.U, Pt.locs, Pt.cells, Pt.slots] at X240 l240 y240 z240 st240 hQ240
    subst l240 y240 z240
    obtain ⟨rfl, N240q, KC240, V5⟩ := hQ240
    have N240 := Fr.app N238 N240q
    have cs241 := CHr.keep KC240 (allS y239_b233 all0) cs239.1
    have cr241 := cr239.trans cs241
    have y241_b233 := cs241.safe V4.lt y239_b233
    have hk241 := Nat.le_trans hk239 cs241.2.1
    have Z240 := Nat.le_trans Z238 KC240.1
    have K240 := K238.trans KC240 (allS (Or.inr sz_b233) all0)
    obtain ⟨T242, h242, X242, e242, E242, A242, D242, -, st242⟩ := newO X240 hx hZ hown (tw hw 19 rfl) (tw hw 2 rfl) (tw hw 1 rfl) rfl (g := (mkF m 137 #[.val (.ref x1), .val (.int (Int32.ofNat pn)), .val (.int (Int32.ofNat 4)), .val (.int (Int32.ofNat (4 * pn))), .val (.ref b233)] [])) rfl (hb hby d33_137) (by decide) (by decide)
    obtain ⟨b242, g242⟩ : ∃ z, z = T240.heap.size := ⟨_, rfl⟩
    rw [← g242] at A242 D242 st242
    have g_b242 : n0 ≤ b242 := Nat.le_trans Z240 (Nat.le_of_eq g242.symm)
    have sz_b242 : h0.size ≤ b242 := Nat.le_trans K240.1 (Nat.le_of_eq g242.symm)
    have ne_b233_b242 : b233 ≠ b242 := Nat.ne_of_lt (Nat.lt_of_lt_of_le V5.lt (Nat.le_of_eq g242.symm))
    have cs245 := CHr.ext E242 cs241.1
    have cr245 := cr241.trans cs245
    have y245_b233 := cs245.safe V5.lt y241_b233
    have hk245 := Nat.le_trans hk241 cs245.2.1
    have Z242 := Nat.le_trans Z240 E242.1
    have K242 := K240.ext E242
    have F242_value : Fld Z h242 b242 "java/lang/String" "value" "[B" .null := D242 (Or.inr (tw hw 4 rfl)) (ty := (.array .byte)) (by decide)
    have F242_coder : Fld Z h242 b242 "java/lang/String" "coder" "B" (.int (0 : Int32)) := D242 (Or.inr (tw hw 5 rfl)) (ty := .byte) (by decide)
    have yb242 := own_safeE E242 cs241.1 (Nat.le_of_eq g242.symm)
    have f246 := ((((XC.ext E233).keep KC238 (ninS ne_x1_b233 nin0)).keep KC240 (ninS ne_x1_b233 nin0)).ext E242)
    obtain ⟨T247, X247, e247, st247⟩ := getF X242 hx hZ hown (host := "") (Or.inl (tw hw 31 rfl)) Via.refl e242 f246 (g := (mkF m 144 #[.val (.ref x1), .val (.int (Int32.ofNat pn)), .val (.int (Int32.ofNat 4)), .val (.int (Int32.ofNat (4 * pn))), .val (.ref b233)] [(.ref x1), (.ref b233), (.ref b242), (.ref b242)])) rfl rfl (hb hby d33_144)
    obtain ⟨_, _, ⟨T248, L248, k248, n248⟩, -, X248, ⟨Lc248, hQ248, l248, y248, z248⟩, st248⟩ := X247.specialBack hx (y := (⟨"java/lang/String", "<init>", "([BB)V"⟩ : MethodName)) rfl hown (mvT hZ (tw hw 23 rfl)) (mvT hZ (tw hw 24 rfl)) (mvT hZ (tw hw 26 rfl)) (by decide) (backOf (W := 1) (rmSBB l Z a0 hw [] b242 b233 h242 n0 Z242 A242 F242_value F242_coder g_b242) hZ (tw hw 26 rfl) (tw hw 1 rfl) (by decide) (by decide)) (g := (mkF m 147 #[.val (.ref x1), .val (.int (Int32.ofNat pn)), .val (.int (Int32.ofNat 4)), .val (.int (Int32.ofNat (4 * pn))), .val (.ref b233)] [(.int (0 : Int32)), (.ref b233), (.ref b242), (.ref b242)])) rfl (by rw [hml]; rfl) (Steps.refl _) (a := b242) (argsL := [(.ref b233), (.int (0 : Int32))]) (rest := [(.ref b242)]) (lenOf pd___BB_V rfl) rfl (by show 2 * 0 + _ ≤ _; exact Nat.le_of_eq rfl) (hb hby d33_147) (fun _ _ => ⟨rfl, e247, (by decide : 2 + 0 ≤ _), (by decide : 20 + 0 ≤ _)⟩)
    dsimp only [Pt.U, Pt.locs, Pt.cells, Pt.slots] at X248 l248 y248 z248 st248 hQ248
    subst l248 y248 z248
    obtain ⟨rfl, N248q, KC248, E6, F6, G6⟩ := hQ248
    have N248 := Fr.app N240 N248q
    have f250 := (V5.ext E242)
    have cs249 := CHr.keep KC248 (allS yb242 all0) cs245.1
    have cr249 := cr245.trans cs249
    have y249_b233 := cs249.safe f250.lt y245_b233
    have y249_b242 := cs249.safe A242.lt yb242
    have hk249 := Nat.le_trans hk245 cs249.2.1
    have K248 := K242.trans KC248 (allS (Or.inr sz_b242) all0)
    have f251 := (f250.keep KC248 (ninS ne_b233_b242 nin0))
    have pre252 : ∀ t, Steps p.tables e below (T248.setTop (mkF m 150 #[.val (.ref x1), .val (.int (Int32.ofNat pn)), .val (.int (Int32.ofNat 4)), .val (.int (Int32.ofNat (4 * pn))), .val (.ref b233)] [(.ref b242)])) t → Steps p.tables e below (s₁.setTop (mkF m 0 #[.val (.ref x1), .val (.int (Int32.ofNat pn)), .unset, .unset, .unset] [])) t := by
      intro t kt
      show Steps p.tables e below (s₁.setTop (mkF m 0 #[.val (.ref x1), .val (.int (Int32.ofNat pn)), .unset, .unset, .unset] [])) _
      refine XS.iloadN X0.here hx rfl (hb hby d33_0) rfl ?_
      refine XS.ifYes X0.here hx rfl (pc0 := 1) (pc' := 32) rfl (hb hby d33_1) rfl ((if0 _ _).trans (flt (own_nn (by omega) : ¬ ((Int32.ofNat pn) < (0 : Int32)))).2.1) (by decide) (by decide) ?_
      show Steps p.tables e below (s₁.setTop (mkF m 32 #[.val (.ref x1), .val (.int (Int32.ofNat pn)), .unset, .unset, .unset] [])) _
      refine XS.iloadN X0.here hx rfl (hb hby d33_32) rfl ?_
      refine XS.iconst X0.here hx rfl (hb hby d33_33) ?_
      refine XS.icmpYes X0.here hx rfl (pc0 := 34) (pc' := 39) rfl (hb hby d33_34) rfl (feq (fun q => by rw [show (1 : Int32) = Int32.ofNat 1 from rfl, own_eq (by omega) (by omega)] at q; omega : ¬ ((Int32.ofNat pn) = (1 : Int32)))).2 (by decide) (by decide) ?_
      show Steps p.tables e below (s₁.setTop (mkF m 39 #[.val (.ref x1), .val (.int (Int32.ofNat pn)), .unset, .unset, .unset] [])) _
      refine XS.aloadN X0.here hx rfl (hb hby d33_39) rfl rfl ?_
      refine st231 _ ?_
      refine X231.arraylength hx (by rw [e231]; exact Ar232.1) (State.isArrayOf_alike hZ.alike Ar232.2.1) (g := (mkF m 43 #[.val (.ref x1), .val (.int (Int32.ofNat pn)), .unset, .unset, .unset] [(.ref t1)])) rfl rfl (hb hby d33_43) _ ?_
      rw [len_of S232 M232]
      show Steps p.tables e below (T231.setTop (mkF m 44 #[.val (.ref x1), .val (.int (Int32.ofNat pn)), .unset, .unset, .unset] [(.int (Int32.ofNat 4))])) _
      refine XS.istoreN X231.here hx rfl (hb hby d33_44) rfl (l' := #[.val (.ref x1), .val (.int (Int32.ofNat pn)), .val (.int (Int32.ofNat 4)), .unset, .unset]) rfl ?_
      refine XS.iloadN X231.here hx rfl (hb hby d33_45) rfl ?_
      refine XS.ifNo X231.here hx rfl (hb hby d33_46) rfl ((if0 _ _).trans (feq (by decide : ¬ ((Int32.ofNat 4) = (0 : Int32)))).1) ?_
      show Steps p.tables e below (T231.setTop (mkF m 49 #[.val (.ref x1), .val (.int (Int32.ofNat pn)), .val (.int (Int32.ofNat 4)), .unset, .unset] [])) _
      refine XS.iloadN X231.here hx rfl (hb hby d33_49) rfl ?_
      refine XS.ifYes X231.here hx rfl (pc0 := 50) (pc' := 56) rfl (hb hby d33_50) rfl ((if0 _ _).trans (feq (fun q => by rw [show (0 : Int32) = Int32.ofNat 0 from rfl, own_eq (by omega) (by omega)] at q; omega : ¬ ((Int32.ofNat pn) = (0 : Int32)))).2) (by decide) (by decide) ?_
      show Steps p.tables e below (T231.setTop (mkF m 56 #[.val (.ref x1), .val (.int (Int32.ofNat pn)), .val (.int (Int32.ofNat 4)), .unset, .unset] [])) _
      refine X231.ldcwInt hx hown (mvT hZ (tw hw 222 rfl)) (g := (mkF m 56 #[.val (.ref x1), .val (.int (Int32.ofNat pn)), .val (.int (Int32.ofNat 4)), .unset, .unset] [])) rfl (hb hby d33_56) _ ?_
      refine XS.iloadN X231.here hx rfl (hb hby d33_59) rfl ?_
      show Steps p.tables e below (T231.setTop (mkF m 60 #[.val (.ref x1), .val (.int (Int32.ofNat pn)), .val (.int (Int32.ofNat 4)), .unset, .unset] [(.int (Int32.ofNat pn)), (.int (2147483647 : Int32))])) _
      refine XS.idiv X231.here hx rfl (hb hby d33_60) rfl (fun q => by rw [show (0 : Int32) = Int32.ofNat 0 from rfl, own_eq (by omega) (by omega)] at q; omega) ?_
      show Steps p.tables e below (T231.setTop (mkF m 61 #[.val (.ref x1), .val (.int (Int32.ofNat pn)), .val (.int (Int32.ofNat 4)), .unset, .unset] [(.int ((2147483647 : Int32) / (Int32.ofNat pn)))])) _
      refine XS.iloadN X231.here hx rfl (hb hby d33_61) rfl ?_
      refine XS.icmpYes X231.here hx rfl (pc0 := 62) (pc' := 76) rfl (hb hby d33_62) rfl (flt (own_div (by omega) (by omega) : ¬ (((2147483647 : Int32) / (Int32.ofNat pn)) < (Int32.ofNat 4)))).2.1 (by decide) (by decide) ?_
      show Steps p.tables e below (T231.setTop (mkF m 76 #[.val (.ref x1), .val (.int (Int32.ofNat pn)), .val (.int (Int32.ofNat 4)), .unset, .unset] [])) _
      refine XS.iloadN X231.here hx rfl (hb hby d33_76) rfl ?_
      refine XS.iconst X231.here hx rfl (hb hby d33_77) ?_
      refine XS.icmpYes X231.here hx rfl (pc0 := 78) (pc' := 108) rfl (hb hby d33_78) rfl (feq (by decide : ¬ ((Int32.ofNat 4) = (1 : Int32)))).2 (by decide) (by decide) ?_
      show Steps p.tables e below (T231.setTop (mkF m 108 #[.val (.ref x1), .val (.int (Int32.ofNat pn)), .val (.int (Int32.ofNat 4)), .unset, .unset] [])) _
      refine XS.iloadN X231.here hx rfl (hb hby d33_108) rfl ?_
      refine XS.iloadN X231.here hx rfl (hb hby d33_109) rfl ?_
      refine XS.imul X231.here hx rfl (hb hby d33_110) rfl ?_
      show Steps p.tables e below (T231.setTop (mkF m 111 #[.val (.ref x1), .val (.int (Int32.ofNat pn)), .val (.int (Int32.ofNat 4)), .unset, .unset] [(.int ((Int32.ofNat 4) * (Int32.ofNat pn)))])) _
      rw [show ((Int32.ofNat 4) * (Int32.ofNat pn)) = Int32.ofNat (4 * pn) from (Int32.ofNat_mul 4 pn).symm]
      show Steps p.tables e below (T231.setTop (mkF m 111 #[.val (.ref x1), .val (.int (Int32.ofNat pn)), .val (.int (Int32.ofNat 4)), .unset, .unset] [(.int (Int32.ofNat (4 * pn)))])) _
      refine XS.istoreN X231.here hx rfl (hb hby d33_111) rfl (l' := #[.val (.ref x1), .val (.int (Int32.ofNat pn)), .val (.int (Int32.ofNat 4)), .val (.int (Int32.ofNat (4 * pn))), .unset]) rfl ?_
      refine XS.iloadN X231.here hx rfl (hb hby d33_112) rfl ?_
      show Steps p.tables e below (T231.setTop (mkF m 113 #[.val (.ref x1), .val (.int (Int32.ofNat pn)), .val (.int (Int32.ofNat 4)), .val (.int (Int32.ofNat (4 * pn))), .unset] [(.int (Int32.ofNat (4 * pn)))])) _
      refine st233 _ ?_
      show Steps p.tables e below (T233.setTop (mkF m 115 #[.val (.ref x1), .val (.int (Int32.ofNat pn)), .val (.int (Int32.ofNat 4)), .val (.int (Int32.ofNat (4 * pn))), .unset] [(.ref b233)])) _
      refine XS.astore X233.here hx rfl (hb hby d33_115) rfl rfl (l' := #[.val (.ref x1), .val (.int (Int32.ofNat pn)), .val (.int (Int32.ofNat 4)), .val (.int (Int32.ofNat (4 * pn))), .val (.ref b233)]) rfl ?_
      refine XS.aloadN X233.here hx rfl (hb hby d33_117) rfl rfl ?_
      refine st236 _ ?_
      show Steps p.tables e below (T236.setTop (mkF m 121 #[.val (.ref x1), .val (.int (Int32.ofNat pn)), .val (.int (Int32.ofNat 4)), .val (.int (Int32.ofNat (4 * pn))), .val (.ref b233)] [(.ref t1)])) _
      refine XS.iconst X236.here hx rfl (hb hby d33_121) ?_
      refine XS.aload X236.here hx rfl (hb hby d33_122) rfl rfl ?_
      refine XS.iconst X236.here hx rfl (hb hby d33_124) ?_
      refine XS.iloadN X236.here hx rfl (hb hby d33_125) rfl ?_
      show Steps p.tables e below (T236.setTop (mkF m 126 #[.val (.ref x1), .val (.int (Int32.ofNat pn)), .val (.int (Int32.ofNat 4)), .val (.int (Int32.ofNat (4 * pn))), .val (.ref b233)] [(.int (Int32.ofNat 4)), (.int (0 : Int32)), (.ref b233), (.int (0 : Int32)), (.ref t1)])) _
      refine st238 _ ?_
      show Steps p.tables e below (T238.setTop (mkF m 129 #[.val (.ref x1), .val (.int (Int32.ofNat pn)), .val (.int (Int32.ofNat 4)), .val (.int (Int32.ofNat (4 * pn))), .val (.ref b233)] [])) _
      refine XS.aload X238.here hx rfl (hb hby d33_129) rfl rfl ?_
      refine XS.iconst X238.here hx rfl (hb hby d33_131) ?_
      refine XS.iloadN X238.here hx rfl (hb hby d33_132) rfl ?_
      refine XS.iloadN X238.here hx rfl (hb hby d33_133) rfl ?_
      refine st240 _ ?_
      show Steps p.tables e below (T240.setTop (mkF m 137 #[.val (.ref x1), .val (.int (Int32.ofNat pn)), .val (.int (Int32.ofNat 4)), .val (.int (Int32.ofNat (4 * pn))), .val (.ref b233)] [])) _
      refine st242 _ ?_
      show Steps p.tables e below (T242.setTop (mkF m 140 #[.val (.ref x1), .val (.int (Int32.ofNat pn)), .val (.int (Int32.ofNat 4)), .val (.int (Int32.ofNat (4 * pn))), .val (.ref b233)] [(.ref b242)])) _
      refine XS.dup X242.here hx rfl (hb hby d33_140) rfl rfl ?_
      refine XS.aload X242.here hx rfl (hb hby d33_141) rfl rfl ?_
      refine XS.aloadN X242.here hx rfl (hb hby d33_143) rfl rfl ?_
      refine st247 _ ?_
      refine st248.trans ?_
      exact kt
    have yf_b233 := (CHv.at X248 hZ hEL cs249.1).safe f251.lt y249_b233
    have yf_b242 := (CHv.at X248 hZ hEL cs249.1).safe E6.lt y249_b242
    obtain ⟨fs, hr, hrun, hended, e1, e2, e3, e4⟩ := X248.leaveW hSi0 hk249 (v := some (.ref b242)) (fun h => by rw [Bd.returns] at h; cases h)
    refine ⟨_, _, (pre0 _ (pre252 _ ?_)), hrun, hended, _, _, rfl, ?_, ?_, ⟨e1, e2, e3, e4.mono (by decide) (by decide)⟩⟩
    · show Steps p.tables e below (T248.setTop (mkF m 150 #[.val (.ref x1), .val (.int (Int32.ofNat pn)), .val (.int (Int32.ofNat 4)), .val (.int (Int32.ofNat (4 * pn))), .val (.ref b233)] [(.ref b242)])) _
      exact retOut X248 hx (t := (.object "java/lang/String")) Bd.returns rfl (Or.inr (Or.inr (Or.inr (Or.inr ⟨rfl, rfl, rfl⟩)))) (hb hby d33_150) hr
    · show QRep Z x1 t1 kx pn h0 n0 _ T248.heap _ T248.vm
      exact ⟨b242, rfl, N248, own_ext K248, b233, k233, ⟨E6, F6, G6, f251⟩, Or.inr (Or.inl sz_b233)⟩
    · have q := cr249.trans (CHv.at X248 hZ hEL cs249.1)
      show CHr Z EL s.vm s.heap T248.vm T248.heap
      rw [hh]
      exact q
theorem ef_deeper (m : MethodId) (x0 : Addr) (x1 : Int32) : entryFrame m #[(.ref x0), (.int x1)] 2 = mkF m 0 #[.val (.ref x0), .val (.int x1)] [] := by (first | (simp [entryFrame, mkF, argsToLocals, Value.category]; done) | rfl)
def Qdeeper (Z : State) (j1 : Addr) (b1 : Addr) (dv : Int32) (p1 : Int32) (h0 : Heap) (n0 : Nat) (v : Option Value) (h : Heap) (L : List Loc) : Prop := v = some (.ref j1) ∧ Fr n0 L ∧ Keep h0 h [j1] ∧ (Exa Z h j1 "com/example/orbweaver/orbweaver/mapping/JavaSource" ∧ Fld Z h j1 "com/example/orbweaver/orbweaver/mapping/JavaSource" "text" "Ljava/lang/StringBuilder;" (.ref b1) ∧ Fld Z h j1 "com/example/orbweaver/orbweaver/mapping/JavaSource" "depth" "I" (.int (dv + p1)))
theorem pn_com_example_orbweaver_orbweaver_mapping_JavaSource : plainName "com/example/orbweaver/orbweaver/mapping/JavaSource" = true := by first | (simp [plainName, overriddenIn]; done) | decide +kernel
theorem d39_0 : decode prog_171_method_8_code 0 = .ok (.aload_n 0, 1) := by decide +kernel
theorem d39_1 : decode prog_171_method_8_code 1 = .ok (.dup, 1) := by decide +kernel
theorem d39_2 : decode prog_171_method_8_code 2 = .ok (.getfield 48, 3) := by decide +kernel
theorem d39_5 : decode prog_171_method_8_code 5 = .ok (.iload_n 1, 1) := by decide +kernel
theorem d39_6 : decode prog_171_method_8_code 6 = .ok (.iadd, 1) := by decide +kernel
theorem d39_7 : decode prog_171_method_8_code 7 = .ok (.putfield 48, 3) := by decide +kernel
theorem d39_10 : decode prog_171_method_8_code 10 = .ok (.aload_n 0, 1) := by decide +kernel
theorem d39_11 : decode prog_171_method_8_code 11 = .ok (.areturn, 1) := by decide +kernel
set_option maxRecDepth 65536 in
set_option maxHeartbeats 40000000 in
theorem rmdeeper (l : Launch) (Z : State) (a0 : Array Value) (hw : ∀ d ∈ tables_1, d.before a0 Z = true) (ws : List Jvm.Cond) (j1 : Addr) (b1 : Addr) (dv : Int32) (p1 : Int32) (h0 : Heap) (n0 : Nat) (Z0 : n0 ≤ h0.size) (JE : Exa Z h0 j1 "com/example/orbweaver/orbweaver/mapping/JavaSource") (JT : Fld Z h0 j1 "com/example/orbweaver/orbweaver/mapping/JavaSource" "text" "Ljava/lang/StringBuilder;" (.ref b1)) (JD : Fld Z h0 j1 "com/example/orbweaver/orbweaver/mapping/JavaSource" "depth" "I" (.int dv)) (g_j1 : n0 ≤ j1) :
    MetFree l (⟨"com/example/orbweaver/orbweaver/mapping/JavaSource", "deeper", "(I)Lcom/example/orbweaver/orbweaver/mapping/JavaSource;"⟩ : MethodName) (head1 (Jvm.Cond.code (⟨"com/example/orbweaver/orbweaver/mapping/JavaSource", "deeper", "(I)Lcom/example/orbweaver/orbweaver/mapping/JavaSource;"⟩ : MethodName) prog_171_method_8_code 2 (some (.object "com/example/orbweaver/orbweaver/mapping/JavaSource")) :: ws) ({ frames := 0, cells := 0, slots := 0, locals := 0 } : Room)) (fun a U => a = #[(.ref j1), (.int p1)] ∧ Z.Warmed39 U.vm ∧ U.heap = h0) (fun _ _ _ _ _ => True) (fun _ U o U' => ∃ v L, o = .returned v ∧ Qdeeper Z j1 b1 dv p1 h0 n0 v U'.heap L ∧ FrameEnd U o U' L ({ frames := 0, cells := 0, slots := 0, locals := 0 } : Room).cells ({ frames := 0, cells := 0, slots := 0, locals := 0 } : Room).slots) := by
  refine MetFree.of_bodySF (plainFor_of_name pn_com_example_orbweaver_orbweaver_mapping_JavaSource) hisR ?_
  intro p e s m args below meth c s₁ Bd hml0 hP hK
  obtain ⟨rfl, hZ, hh⟩ := hP
  have hx := Bd.exec
  have hby := Bd.bytes
  have hml : c.maxLocals = 2 := hml0
  have hown : s.vm.findClass "com/example/orbweaver/orbweaver/mapping/JavaSource" = some m.cls := findClass_of_methodNamed Bd.named
  have hnm := (name_of_methodNamed Bd.named Bd.method).1
  have X0 : Stand p l e ({ frames := 0, cells := 0, slots := 0, locals := 0 } : Room) s m #[(.ref j1), (.int p1)] below meth c s₁ [] 0 0 := Stand.of_body Bd
  have e0 : s₁.heap = h0 := by rw [← hh, Bd.state]; rfl
  have N0 := Fr.nil n0
  have pre0 : ∀ t, Steps p.tables e below (s₁.setTop (mkF m 0 #[.val (.ref j1), .val (.int p1)] [])) t → Steps p.tables e below (s₁.setTop (entryFrame m #[(.ref j1), (.int p1)] 2)) t := fun t k => castTop (ef_deeper m j1 p1) k
  have mem_j1 : j1 ∈ [j1] := List.mem_of_getElem? (i := 0) rfl
  obtain ⟨T253, X253, e253, st253⟩ := getF X0 hx hZ hown (host := "") (Or.inl (tw hw 173 rfl)) Via.refl e0 JD (g := (mkF m 2 #[.val (.ref j1), .val (.int p1)] [(.ref j1), (.ref j1)])) rfl rfl (hb hby d39_2)
  obtain ⟨T254, h254, X254, e254, W254, st254⟩ := putF X253 hx hZ hown (host := "") (Or.inl (tw hw 173 rfl)) Via.refl e253 JD JE (Or.inl (tw hw 174 rfl)) (tw hw 9 rfl) (ty := .int) (by decide) rfl rfl (g := (mkF m 7 #[.val (.ref j1), .val (.int p1)] [(.int (dv + p1)), (.ref j1)])) rfl rfl (hb hby d39_7)
  have N254 := Fr.snoc X254 N0 g_j1
  have K254 := (Keep.refl h0 [j1]).wr W254 (Or.inl mem_j1)
  have Fw254 := JD.same W254
  have f255 := (JE.wr W254)
  have f256 := (JT.other W254 (Or.inr (slot_ne (Or.inr (tw hw 55 rfl)) (Or.inl (tw hw 174 rfl)) (by decide) (t := (.object "java/lang/StringBuilder")) (t' := .int) (by decide) (by decide))))
  have pre257 : ∀ t, Steps p.tables e below (T254.setTop (mkF m 11 #[.val (.ref j1), .val (.int p1)] [(.ref j1)])) t → Steps p.tables e below (s₁.setTop (mkF m 0 #[.val (.ref j1), .val (.int p1)] [])) t := by
    intro t kt
    show Steps p.tables e below (s₁.setTop (mkF m 0 #[.val (.ref j1), .val (.int p1)] [])) _
    refine XS.aloadN X0.here hx rfl (hb hby d39_0) rfl rfl ?_
    refine XS.dup X0.here hx rfl (hb hby d39_1) rfl rfl ?_
    refine st253 _ ?_
    show Steps p.tables e below (T253.setTop (mkF m 5 #[.val (.ref j1), .val (.int p1)] [(.int dv), (.ref j1)])) _
    refine XS.iloadN X253.here hx rfl (hb hby d39_5) rfl ?_
    refine XS.iadd X253.here hx rfl (hb hby d39_6) rfl ?_
    refine st254 _ ?_
    show Steps p.tables e below (T254.setTop (mkF m 10 #[.val (.ref j1), .val (.int p1)] [])) _
    refine XS.aloadN X254.here hx rfl (hb hby d39_10) rfl rfl ?_
    exact kt
  obtain ⟨fs, hr, hrun, hended, hW, hsame⟩ := X254.leave (v := some (.ref j1)) (fun h => by rw [Bd.returns] at h; cases h)
  refine ⟨_, _, (pre0 _ (pre257 _ ?_)), hrun, hended, _, _, rfl, ?_, ⟨_, rfl⟩, hW, hsame.mono (by decide) (by decide)⟩
  · show Steps p.tables e below (T254.setTop (mkF m 11 #[.val (.ref j1), .val (.int p1)] [(.ref j1)])) _
    exact retOut X254 hx (t := (.object "com/example/orbweaver/orbweaver/mapping/JavaSource")) Bd.returns rfl (Or.inr (Or.inr (Or.inr (Or.inr ⟨rfl, rfl, rfl⟩)))) (hb hby d39_11) hr
  · show Qdeeper Z j1 b1 dv p1 h0 n0 _ T254.heap _
    rw [e254]
    exact ⟨rfl, N254, K254, f255, f256, Fw254⟩
theorem ef_JToS (m : MethodId) (x0 : Addr) : entryFrame m #[(.ref x0)] 1 = mkF m 0 #[.val (.ref x0)] [] := by (first | (simp [entryFrame, mkF, argsToLocals, Value.category]; done) | rfl)
def QJToS (Z : State) (j1 : Addr) (b1 : Addr) (v1 : Addr) (k1 : ClassId) (cp : Nat) (ct : Nat) (vs : List Value) (zc : Int32) (h0 : Heap) (n0 : Nat) (v : Option Value) (h : Heap) (L : List Loc) : Prop := ∃ x2, v = some (.ref x2) ∧ Fr n0 L ∧ Ext h0 h ∧ h0.size ≤ x2 ∧ ∃ (t2 : Addr) (k2 : ClassId), (Exa Z h x2 "java/lang/String" ∧ Fld Z h x2 "java/lang/String" "value" "[B" (.ref t2) ∧ Fld Z h x2 "java/lang/String" "coder" "B" (.int (0 : Int32)) ∧ Arv Z h t2 k2 .byte (Int32.ofNat ct) (vs.take ct) (.int (0 : Int32))) ∧ h0.size ≤ t2
theorem d38_0 : decode prog_171_method_10_code 0 = .ok (.aload_n 0, 1) := by decide +kernel
theorem d38_1 : decode prog_171_method_10_code 1 = .ok (.getfield 10, 3) := by decide +kernel
theorem d38_4 : decode prog_171_method_10_code 4 = .ok (.invokevirtual 24, 3) := by decide +kernel
theorem pd___Ljava_lang_String_ : parseMethodDescriptor "()Ljava/lang/String;" = some ⟨[], some (.object "java/lang/String")⟩ := by decide +kernel
theorem d38_7 : decode prog_171_method_10_code 7 = .ok (.areturn, 1) := by decide +kernel
set_option maxRecDepth 65536 in
set_option maxHeartbeats 40000000 in
theorem rmJToS (l : Launch) (Z : State) (a0 : Array Value) (hw : ∀ d ∈ tables_1, d.before a0 Z = true) (ws : List Jvm.Cond) (j1 : Addr) (b1 : Addr) (v1 : Addr) (k1 : ClassId) (cp : Nat) (ct : Nat) (vs : List Value) (zc : Int32) (h0 : Heap) (n0 : Nat) (Z0 : n0 ≤ h0.size) (JT : Fld Z h0 j1 "com/example/orbweaver/orbweaver/mapping/JavaSource" "text" "Ljava/lang/StringBuilder;" (.ref b1)) (BE : Exa Z h0 b1 "java/lang/StringBuilder") (BV : Fld Z h0 b1 "java/lang/AbstractStringBuilder" "value" "[B" (.ref v1)) (BC : Fld Z h0 b1 "java/lang/AbstractStringBuilder" "coder" "B" (.int (0 : Int32))) (BN : Fld Z h0 b1 "java/lang/AbstractStringBuilder" "count" "I" (.int (Int32.ofNat ct))) (BA : Arv Z h0 v1 k1 .byte (Int32.ofNat cp) vs (.int (0 : Int32))) (BX : Exa Z h0 v1 "[B") (hvl : vs.length = cp) (hcp : cp ≤ 1000) (g_b1 : n0 ≤ b1) (g_v1 : n0 ≤ v1) (hct : ct ≤ cp) (hcT : ct ≤ 128 ∧ ct ≠ cp) (OZ : Old Z n0 h0) (SC : Sta Z Z.heap "java/lang/String" "COMPACT_STRINGS" "Z" (.int zc)) (hzc : ¬ zc = (0 : Int32)) :
    MetFree l (⟨"com/example/orbweaver/orbweaver/mapping/JavaSource", "toString", "()Ljava/lang/String;"⟩ : MethodName) (head1 (Jvm.Cond.code (⟨"com/example/orbweaver/orbweaver/mapping/JavaSource", "toString", "()Ljava/lang/String;"⟩ : MethodName) prog_171_method_10_code 1 (some (.object "java/lang/String")) :: ws) ({ frames := 6, cells := 2, slots := 132, locals := 160 } : Room)) (fun a U => a = #[(.ref j1)] ∧ Z.Warmed39 U.vm ∧ U.heap = h0) (fun _ _ _ _ _ => True) (fun _ U o U' => ∃ v L, o = .returned v ∧ QJToS Z j1 b1 v1 k1 cp ct vs zc h0 n0 v U'.heap L ∧ FrameEnd U o U' L ({ frames := 6, cells := 2, slots := 132, locals := 160 } : Room).cells ({ frames := 6, cells := 2, slots := 132, locals := 160 } : Room).slots) := by
  refine MetFree.of_bodySF (plainFor_of_name pn_com_example_orbweaver_orbweaver_mapping_JavaSource) hisR ?_
  intro p e s m args below meth c s₁ Bd hml0 hP hK
  obtain ⟨rfl, hZ, hh⟩ := hP
  have hx := Bd.exec
  have hby := Bd.bytes
  have hml : c.maxLocals = 1 := hml0
  have hown : s.vm.findClass "com/example/orbweaver/orbweaver/mapping/JavaSource" = some m.cls := findClass_of_methodNamed Bd.named
  have hnm := (name_of_methodNamed Bd.named Bd.method).1
  have X0 : Stand p l e ({ frames := 6, cells := 2, slots := 132, locals := 160 } : Room) s m #[(.ref j1)] below meth c s₁ [] 0 0 := Stand.of_body Bd
  have e0 : s₁.heap = h0 := by rw [← hh, Bd.state]; rfl
  have N0 := Fr.nil n0
  have pre0 : ∀ t, Steps p.tables e below (s₁.setTop (mkF m 0 #[.val (.ref j1)] [])) t → Steps p.tables e below (s₁.setTop (entryFrame m #[(.ref j1)] 1)) t := fun t k => castTop (ef_JToS m j1) k
  obtain ⟨T258, X258, e258, st258⟩ := getF X0 hx hZ hown (host := "") (Or.inl (tw hw 54 rfl)) Via.refl e0 JT (g := (mkF m 1 #[.val (.ref j1)] [(.ref j1)])) rfl rfl (hb hby d38_1)
  obtain ⟨cq259, kq259, q259a, q259b, q259c⟩ := isOf hZ e258 BE
  obtain ⟨_, _, ⟨T259, L259, k259, n259⟩, -, X259, ⟨Lc259, hQ259, l259, y259, z259⟩, st259⟩ := X258.virtualBack hx (y := (⟨"java/lang/StringBuilder", "toString", "()Ljava/lang/String;"⟩ : MethodName)) (z := (⟨"java/lang/StringBuilder", "toString", "()Ljava/lang/String;"⟩ : MethodName)) hown (mvT hZ (tw hw 128 rfl)) (mvT hZ (tw hw 129 rfl)) (notFace_of_selects (args := #[]) (mvT hZ (tw hw 131 rfl))) (mvT hZ (tw hw 131 rfl)) (mvT hZ (tw hw 130 rfl)) (by decide) (backOf (W := 0) (rmToS l Z a0 hw [] b1 v1 k1 cp ct vs zc h0 n0 Z0 BE BV BC BN BA BX hvl hcp g_b1 g_v1 hct hcT OZ SC hzc) hZ (tw hw 132 rfl) (tw hw 38 rfl) (by decide) (by decide)) q259a q259c (g := (mkF m 4 #[.val (.ref j1)] [(.ref b1)])) rfl (by rw [hml]; rfl) (Steps.refl _) (argsL := []) (rest := []) (lenOf pd___Ljava_lang_String_ rfl) rfl (by show 2 * 0 + _ ≤ _; exact Nat.le_of_eq rfl) (hb hby d38_4) (fun _ _ => ⟨rfl, e258, (by decide : 0 + 2 ≤ _), (by decide : 0 + 132 ≤ _)⟩)
  dsimp only [Pt.U, Pt.locs, Pt.cells, Pt.slots] at X259 l259 y259 z259 st259 hQ259
  subst l259 y259 z259
  obtain ⟨x2, rfl, N259q, EX259, RR259⟩ := hQ259
  have N259 := Fr.app N0 N259q
  have pre260 : ∀ t, Steps p.tables e below (T259.setTop (mkF m 7 #[.val (.ref j1)] [(.ref x2)])) t → Steps p.tables e below (s₁.setTop (mkF m 0 #[.val (.ref j1)] [])) t := by
    intro t kt
    show Steps p.tables e below (s₁.setTop (mkF m 0 #[.val (.ref j1)] [])) _
    refine XS.aloadN X0.here hx rfl (hb hby d38_0) rfl rfl ?_
    refine st258 _ ?_
    refine st259.trans ?_
    exact kt
  obtain ⟨fs, hr, hrun, hended, hW, hsame⟩ := X259.leave (v := some (.ref x2)) (fun h => by rw [Bd.returns] at h; cases h)
  refine ⟨_, _, (pre0 _ (pre260 _ ?_)), hrun, hended, _, _, rfl, ?_, ⟨_, rfl⟩, hW, hsame.mono (by decide) (by decide)⟩
  · show Steps p.tables e below (T259.setTop (mkF m 7 #[.val (.ref j1)] [(.ref x2)])) _
    exact retOut X259 hx (t := (.object "java/lang/String")) Bd.returns rfl (Or.inr (Or.inr (Or.inr (Or.inr ⟨rfl, rfl, rfl⟩)))) (hb hby d38_7) hr
  · show QJToS Z j1 b1 v1 k1 cp ct vs zc h0 n0 _ T259.heap _
    exact ⟨x2, rfl, N259, EX259, RR259⟩
theorem ef_Blank (m : MethodId) (x0 : Addr) : entryFrame m #[(.ref x0)] 1 = mkF m 0 #[.val (.ref x0)] [] := by (first | (simp [entryFrame, mkF, argsToLocals, Value.category]; done) | rfl)
def QBlank (Z : State) (j1 : Addr) (b1 : Addr) (v1 : Addr) (k1 : ClassId) (cp : Nat) (ct : Nat) (vs : List Value) (zc : Int32) (h0 : Heap) (n0 : Nat) (v : Option Value) (h : Heap) (L : List Loc) : Prop := v = some (.ref j1) ∧ Fr n0 L ∧ Keep h0 h [b1, v1] ∧ ∃ (v2 : Addr) (k2 : ClassId) (ws2 : List Value), (Exa Z h b1 "java/lang/StringBuilder" ∧ Fld Z h b1 "java/lang/AbstractStringBuilder" "value" "[B" (.ref v2) ∧ Fld Z h b1 "java/lang/AbstractStringBuilder" "coder" "B" (.int (0 : Int32)) ∧ Fld Z h b1 "java/lang/AbstractStringBuilder" "count" "I" (.int (Int32.ofNat (ct + 1))) ∧ Arv Z h v2 k2 .byte (Int32.ofNat (own_gr cp (ct + 1))) ws2 (.int (0 : Int32)) ∧ Exa Z h v2 "[B") ∧ ws2.length = own_gr cp (ct + 1) ∧ ws2.take (ct + 1) = vs.take ct ++ [.int (nar .byte ((10 : Int32).toInt8.toInt32))] ∧ n0 ≤ v2 ∧ (v2 = v1 ∨ h0.size ≤ v2)
theorem d37_0 : decode prog_171_method_4_code 0 = .ok (.aload_n 0, 1) := by decide +kernel
theorem d37_1 : decode prog_171_method_4_code 1 = .ok (.getfield 10, 3) := by decide +kernel
theorem d37_4 : decode prog_171_method_4_code 4 = .ok (.bipush 10, 2) := by decide +kernel
theorem d37_6 : decode prog_171_method_4_code 6 = .ok (.invokevirtual 56, 3) := by decide +kernel
theorem pd__C_Ljava_lang_StringBuilder_ : parseMethodDescriptor "(C)Ljava/lang/StringBuilder;" = some ⟨[.char], some (.object "java/lang/StringBuilder")⟩ := by decide +kernel
theorem d37_9 : decode prog_171_method_4_code 9 = .ok (.pop, 1) := by decide +kernel
theorem d37_10 : decode prog_171_method_4_code 10 = .ok (.aload_n 0, 1) := by decide +kernel
theorem d37_11 : decode prog_171_method_4_code 11 = .ok (.areturn, 1) := by decide +kernel
set_option maxRecDepth 65536 in
set_option maxHeartbeats 40000000 in
theorem rmBlank (l : Launch) (Z : State) (a0 : Array Value) (hw : ∀ d ∈ tables_1, d.before a0 Z = true) (ws : List Jvm.Cond) (j1 : Addr) (b1 : Addr) (v1 : Addr) (k1 : ClassId) (cp : Nat) (ct : Nat) (vs : List Value) (zc : Int32) (h0 : Heap) (n0 : Nat) (Z0 : n0 ≤ h0.size) (JT : Fld Z h0 j1 "com/example/orbweaver/orbweaver/mapping/JavaSource" "text" "Ljava/lang/StringBuilder;" (.ref b1)) (BE : Exa Z h0 b1 "java/lang/StringBuilder") (BV : Fld Z h0 b1 "java/lang/AbstractStringBuilder" "value" "[B" (.ref v1)) (BC : Fld Z h0 b1 "java/lang/AbstractStringBuilder" "coder" "B" (.int (0 : Int32))) (BN : Fld Z h0 b1 "java/lang/AbstractStringBuilder" "count" "I" (.int (Int32.ofNat ct))) (BA : Arv Z h0 v1 k1 .byte (Int32.ofNat cp) vs (.int (0 : Int32))) (BX : Exa Z h0 v1 "[B") (hvl : vs.length = cp) (hcp : cp ≤ 1000) (g_b1 : n0 ≤ b1) (g_v1 : n0 ≤ v1) (hct : ct ≤ cp) (hgM : ct + 1 ≤ cp ∨ max (ct + 1) (2 * cp + 2) ≤ 160) (hnM : ct + 1 ≤ 1000) (OZ : Old Z n0 h0) (SC : Sta Z Z.heap "java/lang/String" "COMPACT_STRINGS" "Z" (.int zc)) (hzc : ¬ zc = (0 : Int32)) :
    MetFree l (⟨"com/example/orbweaver/orbweaver/mapping/JavaSource", "blank", "()Lcom/example/orbweaver/orbweaver/mapping/JavaSource;"⟩ : MethodName) (head1 (Jvm.Cond.code (⟨"com/example/orbweaver/orbweaver/mapping/JavaSource", "blank", "()Lcom/example/orbweaver/orbweaver/mapping/JavaSource;"⟩ : MethodName) prog_171_method_4_code 1 (some (.object "com/example/orbweaver/orbweaver/mapping/JavaSource")) :: ws) ({ frames := 6, cells := 1, slots := 160, locals := 150 } : Room)) (fun a U => a = #[(.ref j1)] ∧ Z.Warmed39 U.vm ∧ U.heap = h0) (fun _ _ _ _ _ => True) (fun _ U o U' => ∃ v L, o = .returned v ∧ QBlank Z j1 b1 v1 k1 cp ct vs zc h0 n0 v U'.heap L ∧ FrameEnd U o U' L ({ frames := 6, cells := 1, slots := 160, locals := 150 } : Room).cells ({ frames := 6, cells := 1, slots := 160, locals := 150 } : Room).slots) := by
  refine MetFree.of_bodySF (plainFor_of_name pn_com_example_orbweaver_orbweaver_mapping_JavaSource) hisR ?_
  intro p e s m args below meth c s₁ Bd hml0 hP hK
  obtain ⟨rfl, hZ, hh⟩ := hP
  have hx := Bd.exec
  have hby := Bd.bytes
  have hml : c.maxLocals = 1 := hml0
  have hown : s.vm.findClass "com/example/orbweaver/orbweaver/mapping/JavaSource" = some m.cls := findClass_of_methodNamed Bd.named
  have hnm := (name_of_methodNamed Bd.named Bd.method).1
  have X0 : Stand p l e ({ frames := 6, cells := 1, slots := 160, locals := 150 } : Room) s m #[(.ref j1)] below meth c s₁ [] 0 0 := Stand.of_body Bd
  have e0 : s₁.heap = h0 := by rw [← hh, Bd.state]; rfl
  have N0 := Fr.nil n0
  have pre0 : ∀ t, Steps p.tables e below (s₁.setTop (mkF m 0 #[.val (.ref j1)] [])) t → Steps p.tables e below (s₁.setTop (entryFrame m #[(.ref j1)] 1)) t := fun t k => castTop (ef_Blank m j1) k
  have mem_b1 : b1 ∈ [b1, v1] := List.mem_of_getElem? (i := 0) rfl
  have mem_v1 : v1 ∈ [b1, v1] := List.mem_of_getElem? (i := 1) rfl
  obtain ⟨T261, X261, e261, st261⟩ := getF X0 hx hZ hown (host := "") (Or.inl (tw hw 54 rfl)) Via.refl e0 JT (g := (mkF m 1 #[.val (.ref j1)] [(.ref j1)])) rfl rfl (hb hby d37_1)
  obtain ⟨cq262, kq262, q262a, q262b, q262c⟩ := isOf hZ e261 BE
  obtain ⟨_, _, ⟨T262, L262, k262, n262⟩, -, X262, ⟨Lc262, hQ262, l262, y262, z262⟩, st262⟩ := X261.virtualBack hx (y := (⟨"java/lang/StringBuilder", "append", "(C)Ljava/lang/StringBuilder;"⟩ : MethodName)) (z := (⟨"java/lang/StringBuilder", "append", "(C)Ljava/lang/StringBuilder;"⟩ : MethodName)) hown (mvT hZ (tw hw 181 rfl)) (mvT hZ (tw hw 182 rfl)) (notFace_of_selects (args := #[]) (mvT hZ (tw hw 184 rfl))) (mvT hZ (tw hw 184 rfl)) (mvT hZ (tw hw 183 rfl)) (by decide) (backOf (W := 0) (rmSApC l Z a0 hw [] b1 v1 k1 cp ct vs (10 : Int32) zc h0 n0 Z0 BE BV BC BN BA BX hvl hcp g_b1 g_v1 (by decide) hct hgM hnM OZ SC hzc) hZ (tw hw 185 rfl) (tw hw 38 rfl) (by decide) (by decide)) q262a q262c (g := (mkF m 6 #[.val (.ref j1)] [(.int (10 : Int32)), (.ref b1)])) rfl (by rw [hml]; rfl) (Steps.refl _) (argsL := [(.int (10 : Int32))]) (rest := []) (lenOf pd__C_Ljava_lang_StringBuilder_ rfl) rfl (by show 2 * 0 + _ ≤ _; exact Nat.le_of_eq rfl) (hb hby d37_6) (fun _ _ => ⟨rfl, e261, (by decide : 0 + 1 ≤ _), (by decide : 0 + 160 ≤ _)⟩)
  dsimp only [Pt.U, Pt.locs, Pt.cells, Pt.slots] at X262 l262 y262 z262 st262 hQ262
  subst l262 y262 z262
  obtain ⟨rfl, N262q, KC262, RR⟩ := hQ262
  have N262 := Fr.app N0 N262q
  have K262 := (Keep.refl h0 [b1, v1]).trans KC262 (allS (Or.inl mem_b1) (allS (Or.inl mem_v1) all0))
  have pre263 : ∀ t, Steps p.tables e below (T262.setTop (mkF m 11 #[.val (.ref j1)] [(.ref j1)])) t → Steps p.tables e below (s₁.setTop (mkF m 0 #[.val (.ref j1)] [])) t := by
    intro t kt
    show Steps p.tables e below (s₁.setTop (mkF m 0 #[.val (.ref j1)] [])) _
    refine XS.aloadN X0.here hx rfl (hb hby d37_0) rfl rfl ?_
    refine st261 _ ?_
    show Steps p.tables e below (T261.setTop (mkF m 4 #[.val (.ref j1)] [(.ref b1)])) _
    refine XS.bipush X261.here hx rfl (hb hby d37_4) ?_
    refine st262.trans ?_
    show Steps p.tables e below (T262.setTop (mkF m 9 #[.val (.ref j1)] [(.ref b1)])) _
    refine XS.pop X262.here hx rfl (hb hby d37_9) rfl rfl ?_
    refine XS.aloadN X262.here hx rfl (hb hby d37_10) rfl rfl ?_
    exact kt
  obtain ⟨fs, hr, hrun, hended, hW, hsame⟩ := X262.leave (v := some (.ref j1)) (fun h => by rw [Bd.returns] at h; cases h)
  refine ⟨_, _, (pre0 _ (pre263 _ ?_)), hrun, hended, _, _, rfl, ?_, ⟨_, rfl⟩, hW, hsame.mono (by decide) (by decide)⟩
  · show Steps p.tables e below (T262.setTop (mkF m 11 #[.val (.ref j1)] [(.ref j1)])) _
    exact retOut X262 hx (t := (.object "com/example/orbweaver/orbweaver/mapping/JavaSource")) Bd.returns rfl (Or.inr (Or.inr (Or.inr (Or.inr ⟨rfl, rfl, rfl⟩)))) (hb hby d37_11) hr
  · show QBlank Z j1 b1 v1 k1 cp ct vs zc h0 n0 _ T262.heap _
    exact ⟨rfl, N262, K262, RR⟩
theorem ef_Line (m : MethodId) (x0 : Addr) (x1 : Addr) : entryFrame m #[(.ref x0), (.ref x1)] 2 = mkF m 0 #[.val (.ref x0), .val (.ref x1)] [] := by (first | (simp [entryFrame, mkF, argsToLocals, Value.category]; done) | rfl)
def QLine (Z : State) (j1 : Addr) (b1 : Addr) (v1 : Addr) (k1 : ClassId) (cp : Nat) (ct : Nat) (vs : List Value) (x1 : Addr) (t1 : Addr) (kx : ClassId) (nx : Nat) (xs : List Value) (dn : Nat) (zc : Int32) (h0 : Heap) (n0 : Nat) (v : Option Value) (h : Heap) (L : List Loc) (vm : Vm) : Prop := v = some (.ref j1) ∧ Fr n0 L ∧ Keep h0 h [b1, v1] ∧ ∃ (v2 : Addr) (k2 : ClassId) (ws2 : List Value), (Exa Z h b1 "java/lang/StringBuilder" ∧ Fld Z h b1 "java/lang/AbstractStringBuilder" "value" "[B" (.ref v2) ∧ Fld Z h b1 "java/lang/AbstractStringBuilder" "coder" "B" (.int (0 : Int32)) ∧ Fld Z h b1 "java/lang/AbstractStringBuilder" "count" "I" (.int (Int32.ofNat (ct + 4 * dn + nx + 1))) ∧ Arv Z h v2 k2 .byte (Int32.ofNat (own_gr (own_gr (own_gr (cp) (ct + 4 * dn)) (ct + 4 * dn + nx)) (ct + 4 * dn + nx + 1))) ws2 (.int (0 : Int32)) ∧ Exa Z h v2 "[B") ∧ ws2.length = own_gr (own_gr (own_gr (cp) (ct + 4 * dn)) (ct + 4 * dn + nx)) (ct + 4 * dn + nx + 1) ∧ ws2.take (ct + 4 * dn + nx + 1) = vs.take ct ++ (List.replicate (4 * dn) (.int (32 : Int32))) ++ xs ++ [.int (nar .byte ((10 : Int32).toInt8.toInt32))] ∧ n0 ≤ v2 ∧ (v2 = v1 ∨ h0.size ≤ v2) ∧ Safe Z EL vm h v2
theorem d32_0 : decode prog_171_method_2_code 0 = .ok (.aload_n 0, 1) := by decide +kernel
theorem d32_1 : decode prog_171_method_2_code 1 = .ok (.getfield 10, 3) := by decide +kernel
theorem d32_4 : decode prog_171_method_2_code 4 = .ok (.ldc 46, 2) := by decide +kernel
theorem d32_6 : decode prog_171_method_2_code 6 = .ok (.aload_n 0, 1) := by decide +kernel
theorem d32_7 : decode prog_171_method_2_code 7 = .ok (.getfield 48, 3) := by decide +kernel
theorem d32_10 : decode prog_171_method_2_code 10 = .ok (.invokevirtual 52, 3) := by decide +kernel
theorem pd__I_Ljava_lang_String_ : parseMethodDescriptor "(I)Ljava/lang/String;" = some ⟨[.int], some (.object "java/lang/String")⟩ := by decide +kernel
theorem d32_13 : decode prog_171_method_2_code 13 = .ok (.invokevirtual 18, 3) := by decide +kernel
theorem pd__Ljava_lang_String__Ljava_lang_StringBuilder_ : parseMethodDescriptor "(Ljava/lang/String;)Ljava/lang/StringBuilder;" = some ⟨[(.object "java/lang/String")], some (.object "java/lang/StringBuilder")⟩ := by decide +kernel
theorem d32_16 : decode prog_171_method_2_code 16 = .ok (.aload_n 1, 1) := by decide +kernel
theorem d32_17 : decode prog_171_method_2_code 17 = .ok (.invokevirtual 18, 3) := by decide +kernel
theorem d32_20 : decode prog_171_method_2_code 20 = .ok (.bipush 10, 2) := by decide +kernel
theorem d32_22 : decode prog_171_method_2_code 22 = .ok (.invokevirtual 56, 3) := by decide +kernel
theorem d32_25 : decode prog_171_method_2_code 25 = .ok (.pop, 1) := by decide +kernel
theorem d32_26 : decode prog_171_method_2_code 26 = .ok (.aload_n 0, 1) := by decide +kernel
theorem d32_27 : decode prog_171_method_2_code 27 = .ok (.areturn, 1) := by decide +kernel
set_option maxRecDepth 65536 in
set_option maxHeartbeats 40000000 in
theorem rmLine (l : Launch) (Z : State) (a0 : Array Value) (hw : ∀ d ∈ tables_1, d.before a0 Z = true) (ws : List Jvm.Cond) (j1 : Addr) (b1 : Addr) (v1 : Addr) (k1 : ClassId) (cp : Nat) (ct : Nat) (vs : List Value) (x1 : Addr) (t1 : Addr) (kx : ClassId) (nx : Nat) (xs : List Value) (dn : Nat) (zc : Int32) (h0 : Heap) (n0 : Nat) (Z0 : n0 ≤ h0.size) (hEL : EW Z a0 EL) (JE : Exa Z h0 j1 "com/example/orbweaver/orbweaver/mapping/JavaSource") (JT : Fld Z h0 j1 "com/example/orbweaver/orbweaver/mapping/JavaSource" "text" "Ljava/lang/StringBuilder;" (.ref b1)) (JD : Fld Z h0 j1 "com/example/orbweaver/orbweaver/mapping/JavaSource" "depth" "I" (.int (Int32.ofNat dn))) (BE : Exa Z h0 b1 "java/lang/StringBuilder") (BV : Fld Z h0 b1 "java/lang/AbstractStringBuilder" "value" "[B" (.ref v1)) (BC : Fld Z h0 b1 "java/lang/AbstractStringBuilder" "coder" "B" (.int (0 : Int32))) (BN : Fld Z h0 b1 "java/lang/AbstractStringBuilder" "count" "I" (.int (Int32.ofNat ct))) (BA : Arv Z h0 v1 k1 .byte (Int32.ofNat cp) vs (.int (0 : Int32))) (BX : Exa Z h0 v1 "[B") (hvl : vs.length = cp) (hcp : cp ≤ 1000) (g_b1 : n0 ≤ b1) (g_v1 : n0 ≤ v1) (XE : Exa Z h0 x1 "java/lang/String") (XV : Fld Z h0 x1 "java/lang/String" "value" "[B" (.ref t1)) (XC : Fld Z h0 x1 "java/lang/String" "coder" "B" (.int (0 : Int32))) (XA : Arv Z h0 t1 kx .byte (Int32.ofNat nx) xs (.int (0 : Int32))) (hxl : xs.length = nx) (hnx : nx ≤ 1000) (ntv : t1 ≠ v1) (hct : ct ≤ cp) (hdn : 4 * dn ≤ 16) (hg1 : ct + 4 * dn ≤ cp ∨ max (ct + 4 * dn) (2 * (cp) + 2) ≤ 160) (hg2 : ct + 4 * dn + nx ≤ own_gr (cp) (ct + 4 * dn) ∨ max (ct + 4 * dn + nx) (2 * (own_gr (cp) (ct + 4 * dn)) + 2) ≤ 160) (hg3 : ct + 4 * dn + nx + 1 ≤ own_gr (own_gr (cp) (ct + 4 * dn)) (ct + 4 * dn + nx) ∨ max (ct + 4 * dn + nx + 1) (2 * (own_gr (own_gr (cp) (ct + 4 * dn)) (ct + 4 * dn + nx)) + 2) ≤ 160) (hn3 : ct + 4 * dn + nx + 1 ≤ 1000) (OZ : Old Z n0 h0) (SC : Sta Z Z.heap "java/lang/String" "COMPACT_STRINGS" "Z" (.int zc)) (hzc : ¬ zc = (0 : Int32)) :
    MetFree l (⟨"com/example/orbweaver/orbweaver/mapping/JavaSource", "line", "(Ljava/lang/String;)Lcom/example/orbweaver/orbweaver/mapping/JavaSource;"⟩ : MethodName) (head1 (Jvm.Cond.code (⟨"com/example/orbweaver/orbweaver/mapping/JavaSource", "line", "(Ljava/lang/String;)Lcom/example/orbweaver/orbweaver/mapping/JavaSource;"⟩ : MethodName) prog_171_method_2_code 2 (some (.object "com/example/orbweaver/orbweaver/mapping/JavaSource")) :: ws) ({ frames := 7, cells := 7, slots := 520, locals := 190 } : Room)) (fun a U => a = #[(.ref j1), (.ref x1)] ∧ Z.Warmed39 U.vm ∧ U.heap = h0 ∧ CHv Z EL U.vm h0 ∧ Safe Z EL U.vm h0 v1) (fun _ _ _ _ _ => True) (fun _ U o U' => ∃ v L, o = .returned v ∧ QLine Z j1 b1 v1 k1 cp ct vs x1 t1 kx nx xs dn zc h0 n0 v U'.heap L U'.vm ∧ CHr Z EL U.vm U.heap U'.vm U'.heap ∧ ReturnedEndW U o U' L ({ frames := 7, cells := 7, slots := 520, locals := 190 } : Room).cells ({ frames := 7, cells := 7, slots := 520, locals := 190 } : Room).slots) := by
  refine MetFree.of_bodySF (plainFor_of_name pn_com_example_orbweaver_orbweaver_mapping_JavaSource) hisR ?_
  intro p e s m args below meth c s₁ Bd hml0 hP hK
  obtain ⟨rfl, hZ, hh, hCH, hY⟩ := hP
  have hx := Bd.exec
  have hby := Bd.bytes
  have hml : c.maxLocals = 2 := hml0
  have hown : s.vm.findClass "com/example/orbweaver/orbweaver/mapping/JavaSource" = some m.cls := findClass_of_methodNamed Bd.named
  have hnm := (name_of_methodNamed Bd.named Bd.method).1
  have X0 : Stand p l e ({ frames := 7, cells := 7, slots := 520, locals := 190 } : Room) s m #[(.ref j1), (.ref x1)] below meth c s₁ [] 0 0 := Stand.of_body Bd
  have e0 : s₁.heap = h0 := by rw [← hh, Bd.state]; rfl
  have N0 := Fr.nil n0
  have pre0 : ∀ t, Steps p.tables e below (s₁.setTop (mkF m 0 #[.val (.ref j1), .val (.ref x1)] [])) t → Steps p.tables e below (s₁.setTop (entryFrame m #[(.ref j1), (.ref x1)] 2)) t := fun t k => castTop (ef_Line m j1 x1) k
  have X0 : Stand p l e ({ frames := 7, cells := 7, slots := 520, locals := 190 } : Room) (s.setVm s.vm) m #[(.ref j1), (.ref x1)] below meth c s₁ [] 0 0 := by rw [State.setVm_self]; exact X0
  have hZ : Z.Warmed39 (s.setVm s.vm).vm := hZ
  have hown : (s.setVm s.vm).vm.findClass "com/example/orbweaver/orbweaver/mapping/JavaSource" = some m.cls := hown
  have hSi0 : s.Since s.vm 0 := (State.WarmedH.refl s).since 0
  have ne_x1_b1 : x1 ≠ b1 := XE.ne BE (by decide)
  have ne_b1_t1 : b1 ≠ t1 := BE.neArv XA (tw hw 37 rfl)
  have ne_x1_v1 : x1 ≠ v1 := XE.neArv BA (tw hw 2 rfl)
  have mem_b1 : b1 ∈ [b1, v1] := List.mem_of_getElem? (i := 0) rfl
  have mem_v1 : v1 ∈ [b1, v1] := List.mem_of_getElem? (i := 1) rfl
  obtain ⟨T264, X264, e264, st264⟩ := getF X0 hx hZ hown (host := "") (Or.inl (tw hw 54 rfl)) Via.refl e0 JT (g := (mkF m 1 #[.val (.ref j1), .val (.ref x1)] [(.ref j1)])) rfl rfl (hb hby d32_1)
  have pre265 : ∀ t, Steps p.tables e below (T264.setTop (mkF m 4 #[.val (.ref j1), .val (.ref x1)] [(.ref b1)])) t → Steps p.tables e below (s₁.setTop (mkF m 0 #[.val (.ref j1), .val (.ref x1)] [])) t := by
    intro t kt
    show Steps p.tables e below (s₁.setTop (mkF m 0 #[.val (.ref j1), .val (.ref x1)] [])) _
    refine XS.aloadN X0.here hx rfl (hb hby d32_0) rfl rfl ?_
    refine st264 _ ?_
    exact kt
  have wS266 : ∀ a ∈ Bundle.stringAtoms, a.before a0 Z = true := fun d hd => hw d ((by decide +kernel : ∀ d ∈ Bundle.stringAtoms, d ∈ tables_1) d hd)
  obtain ⟨b266, T266, h266, k266, d266, kb266, X266, e266, E266, hSi266, hk266, hZ, hown, A266, FC266, FV266, V266, -, -, crs266, Lt266, nn266, st266⟩ := ldcCH (s := s) (vm0 := s.vm) X264 hx hZ hown (tw hw 172 rfl) wS266 e264 hSi0 (Nat.zero_le _) hEL (by decide : ("com/example/orbweaver/orbweaver/mapping/JavaSource", 46) ∈ EL) hCH (vs := [(.int (32 : Int32)), (.int (32 : Int32)), (.int (32 : Int32)), (.int (32 : Int32))]) (z := (4 : Int32)) ⟨by decide, rfl⟩ (by decide) (by decide) (g := (mkF m 4 #[.val (.ref j1), .val (.ref x1)] [(.ref b1)])) rfl (hb hby d32_4) (n := 16) (by decide) (by decide) (by decide) (by decide)
  have cs267 := crs266
  have cr267 := (CHr.refl hCH).trans cs267
  have y267_v1 := cs267.safe BA.lt hY
  have Z266 := Nat.le_trans Z0 E266.1
  have K266 := (Keep.refl h0 [b1, v1]).ext E266
  obtain ⟨ne_v1_b266, ne_v1_d266⟩ := nn266 _ y267_v1
  have f268 := (BE.ext E266)
  have f270 := (JD.ext E266)
  obtain ⟨T271, X271, e271, st271⟩ := getF X266 hx hZ hown (host := "") (Or.inl (tw hw 173 rfl)) Via.refl e266 f270 (g := (mkF m 7 #[.val (.ref j1), .val (.ref x1)] [(.ref j1), (.ref b266), (.ref b1)])) rfl rfl (hb hby d32_7)
  have f272 := (BA.ext E266)
  have ltv := f272.lt
  have pre273 : ∀ t, Steps p.tables e below (T271.setTop (mkF m 10 #[.val (.ref j1), .val (.ref x1)] [(.int (Int32.ofNat dn)), (.ref b266), (.ref b1)])) t → Steps p.tables e below (T264.setTop (mkF m 4 #[.val (.ref j1), .val (.ref x1)] [(.ref b1)])) t := by
    intro t kt
    show Steps p.tables e below (T264.setTop (mkF m 4 #[.val (.ref j1), .val (.ref x1)] [(.ref b1)])) _
    refine st266 _ ?_
    show Steps p.tables e below (T266.setTop (mkF m 6 #[.val (.ref j1), .val (.ref x1)] [(.ref b266), (.ref b1)])) _
    refine XS.aloadN X266.here hx rfl (hb hby d32_6) rfl rfl ?_
    refine st271 _ ?_
    exact kt
  obtain ⟨cq274, kq274, q274a, q274b, q274c⟩ := isOf hZ e271 A266
  obtain ⟨_, _, ⟨T274, L274, k274, n274⟩, -, X274, hs274, hg274, ⟨Lc274, hQ274, l274, y274, z274, crs274⟩, st274⟩ := X271.virtualBackS hx (y := (⟨"java/lang/String", "repeat", "(I)Ljava/lang/String;"⟩ : MethodName)) (z := (⟨"java/lang/String", "repeat", "(I)Ljava/lang/String;"⟩ : MethodName)) hown (mvT hZ (tw hw 175 rfl)) (mvT hZ (tw hw 176 rfl)) (notFace_of_selects (args := #[]) (mvT hZ (tw hw 178 rfl))) (mvT hZ (tw hw 178 rfl)) (mvT hZ (tw hw 177 rfl)) (by decide) (own_backS0 (s := s) (W := 1) (rmRep l Z a0 hw [] b266 d266 kb266 dn h266 n0 Z266 hEL A266 FV266 FC266 V266 hdn) hZ (tw hw 179 rfl) (tw hw 1 rfl) (by decide) (by decide) hEL cs267.1) q274a q274c (g := (mkF m 10 #[.val (.ref j1), .val (.ref x1)] [(.int (Int32.ofNat dn)), (.ref b266), (.ref b1)])) rfl (by rw [hml]; rfl) (Steps.refl _) (argsL := [(.int (Int32.ofNat dn))]) (rest := [(.ref b1)]) (lenOf pd__I_Ljava_lang_String_ rfl) rfl (by show 2 * 0 + _ ≤ _; exact Nat.le_of_eq rfl) (hb hby d32_10) (fun _ _ => ⟨rfl, e271, (by decide : 2 + 2 ≤ _), (by decide : 20 + 20 ≤ _)⟩)
  dsimp only [Pt.U, Pt.locs, Pt.cells, Pt.slots] at X274 l274 y274 z274 st274 hQ274 hs274 hg274 crs274
  subst l274 y274 z274
  obtain ⟨X274, hSi274, hZ, hown⟩ := rebS hSi266 (by rw [e271]; exact hk266) X274 hs274 hg274 hZ hown
  obtain ⟨xr, rfl, N274q, EX274, tr, kr, ⟨RE, RV, RC, RA⟩, hor⟩ := hQ274
  have N274 := Fr.app N0 N274q
  have cs275 := crs274
  have cr275 := cr267.trans cs275
  have y275_v1 := cs275.safe f272.lt y267_v1
  have Z274 := Nat.le_trans Z266 EX274.1
  have K274 := K266.ext EX274
  have ntr : tr ≠ v1 := by
    rcases hor with q | q | q
    · rw [q]; exact Ne.symm ne_v1_d266
    · exact Ne.symm (Nat.ne_of_lt (Nat.lt_of_lt_of_le ltv q))
    · exact Ne.symm (q _ y275_v1)
  obtain ⟨LL276, XL276, NL276⟩ : ∃ LL, Stand p l e ({ frames := 7, cells := 7, slots := 520, locals := 190 } : Room) (s.setVm T274.vm) m #[(.ref j1), (.ref x1)] below meth c T274 LL 4 40 ∧ Fr n0 LL := ⟨_, X274, N274⟩
  have f277 := ((XA.ext E266).ext EX274)
  have ltt := f277.lt
  have f279 := (f268.ext EX274)
  have f280 := ((BV.ext E266).ext EX274)
  have f281 := ((BC.ext E266).ext EX274)
  have f282 := ((BN.ext E266).ext EX274)
  have f283 := (f272.ext EX274)
  have f284 := ((BX.ext E266).ext EX274)
  have f285 := ((OZ.ext E266).ext EX274)
  have f289 := ((XE.ext E266).ext EX274)
  obtain ⟨cq290, kq290, q290a, q290b, q290c⟩ := isOf hZ rfl f279
  obtain ⟨_, _, ⟨T290, L290, k290, n290⟩, -, X290, ⟨Lc290, hQ290, l290, y290, z290⟩, st290⟩ := XL276.virtualBack hx (y := (⟨"java/lang/StringBuilder", "append", "(Ljava/lang/String;)Ljava/lang/StringBuilder;"⟩ : MethodName)) (z := (⟨"java/lang/StringBuilder", "append", "(Ljava/lang/String;)Ljava/lang/StringBuilder;"⟩ : MethodName)) hown (mvT hZ (tw hw 57 rfl)) (mvT hZ (tw hw 58 rfl)) (notFace_of_selects (args := #[]) (mvT hZ (tw hw 60 rfl))) (mvT hZ (tw hw 60 rfl)) (mvT hZ (tw hw 59 rfl)) (by decide) (backOf (W := 0) (rmSApS l Z a0 hw [] b1 v1 k1 (cp) (ct) vs xr tr kr (4 * dn) (List.replicate (4 * dn) (.int (32 : Int32))) zc T274.heap n0 Z274 f279 f280 f281 f282 f283 f284 hvl hcp g_b1 g_v1 RE RV RC RA (by simp) (by omega) ntr hct (hg1 : ct + 4 * dn ≤ cp ∨ max (ct + 4 * dn) (2 * (cp) + 2) ≤ 160) (by omega) f285 SC hzc) hZ (tw hw 61 rfl) (tw hw 38 rfl) (by decide) (by decide)) q290a q290c (g := (mkF m 13 #[.val (.ref j1), .val (.ref x1)] [(.ref xr), (.ref b1)])) rfl (by rw [hml]; rfl) (Steps.refl _) (argsL := [(.ref xr)]) (rest := []) (lenOf pd__Ljava_lang_String__Ljava_lang_StringBuilder_ rfl) rfl (by show 2 * 0 + _ ≤ _; exact Nat.le_of_eq rfl) (hb hby d32_13) (fun _ _ => ⟨rfl, rfl, (by decide : 4 + 1 ≤ _), (by decide : 40 + 160 ≤ _)⟩)
  dsimp only [Pt.U, Pt.locs, Pt.cells, Pt.slots] at X290 l290 y290 z290 st290 hQ290
  subst l290 y290 z290
  obtain ⟨rfl, N290q, KC290, v2_278, k2_278, wa_278, ⟨E278, V278, C278, N278, A278, X278⟩, l2_278, tk_278, g_v2_278, hv_278⟩ := hQ290
  have N290 := Fr.app NL276 N290q
  have cs291 := CHr.keep KC290 (allS (Safe.exa (EL := EL) hZ.alike f279 (by decide) (by decide)) (allS y275_v1 all0)) cs275.1
  have cr291 := cr275.trans cs291
  have hk291 := Nat.le_trans (Nat.le_refl _) cs291.2.1
  have Z290 := Nat.le_trans Z274 KC290.1
  have K290 := K274.trans KC290 (allS (Or.inl mem_b1) (allS (Or.inl mem_v1) all0))
  have wz_v2_278 : v2_278 ∈ [b1, v1] ∨ h0.size ≤ v2_278 := hv_278.elim (fun q => by rw [q]; exact Or.inl mem_v1) (fun q => Or.inr (Nat.le_trans K274.1 q))
  have KK1 := K274
  have y_v2_278 := own_safeK KC290 (allS (Safe.exa (EL := EL) hZ.alike f279 (by decide) (by decide)) (allS y275_v1 all0)) cs275.1 hv_278 y275_v1
  have hgl_278 := @own_grle (cp) (ct + 4 * dn)
  have hgm_278 : own_gr (cp) (ct + 4 * dn) ≤ 1000 := own_grM hcp (by decide) (hg1 : ct + 4 * dn ≤ cp ∨ max (ct + 4 * dn) (2 * (cp) + 2) ≤ 160)
  have nt2 : t1 ≠ v2_278 := hv_278.elim (fun q => by rw [q]; exact ntv) (fun q => Nat.ne_of_lt (Nat.lt_of_lt_of_le ltt q))
  have f293 := (f289.keep KC290)
  have f294 := (((XV.ext E266).ext EX274).keep KC290 (ninS ne_x1_b1 (ninS ne_x1_v1 nin0)))
  have f295 := (((XC.ext E266).ext EX274).keep KC290 (ninS ne_x1_b1 (ninS ne_x1_v1 nin0)))
  have f296 := (f277.keep KC290 (ninS (Ne.symm ne_b1_t1) (ninS ntv nin0)))
  have f297 := (f285.keep KC290 (allS g_b1 (allS g_v1 all0)))
  obtain ⟨cq299, kq299, q299a, q299b, q299c⟩ := isOf hZ rfl E278
  obtain ⟨_, _, ⟨T299, L299, k299, n299⟩, -, X299, ⟨Lc299, hQ299, l299, y299, z299⟩, st299⟩ := X290.virtualBack hx (y := (⟨"java/lang/StringBuilder", "append", "(Ljava/lang/String;)Ljava/lang/StringBuilder;"⟩ : MethodName)) (z := (⟨"java/lang/StringBuilder", "append", "(Ljava/lang/String;)Ljava/lang/StringBuilder;"⟩ : MethodName)) hown (mvT hZ (tw hw 57 rfl)) (mvT hZ (tw hw 58 rfl)) (notFace_of_selects (args := #[]) (mvT hZ (tw hw 60 rfl))) (mvT hZ (tw hw 60 rfl)) (mvT hZ (tw hw 59 rfl)) (by decide) (backOf (W := 0) (rmSApS l Z a0 hw [] b1 v2_278 k2_278 (own_gr (cp) (ct + 4 * dn)) (ct + 4 * dn) wa_278 x1 t1 kx (nx) xs zc T290.heap n0 Z290 E278 V278 C278 N278 A278 X278 l2_278 hgm_278 g_b1 g_v2_278 f293 f294 f295 f296 hxl hnx nt2 hgl_278.1 (hg2 : ct + 4 * dn + nx ≤ own_gr (cp) (ct + 4 * dn) ∨ max (ct + 4 * dn + nx) (2 * (own_gr (cp) (ct + 4 * dn)) + 2) ≤ 160) (by omega) f297 SC hzc) hZ (tw hw 61 rfl) (tw hw 38 rfl) (by decide) (by decide)) q299a q299c (g := (mkF m 17 #[.val (.ref j1), .val (.ref x1)] [(.ref x1), (.ref b1)])) rfl (by rw [hml]; rfl) (Steps.refl _) (argsL := [(.ref x1)]) (rest := []) (lenOf pd__Ljava_lang_String__Ljava_lang_StringBuilder_ rfl) rfl (by show 2 * 0 + _ ≤ _; exact Nat.le_of_eq rfl) (hb hby d32_17) (fun _ _ => ⟨rfl, rfl, (by decide : 5 + 1 ≤ _), (by decide : 200 + 160 ≤ _)⟩)
  dsimp only [Pt.U, Pt.locs, Pt.cells, Pt.slots] at X299 l299 y299 z299 st299 hQ299
  subst l299 y299 z299
  obtain ⟨rfl, N299q, KC299, v2_292, k2_292, wa_292, ⟨E292, V292, C292, N292, A292, X292⟩, l2_292, tk_292, g_v2_292, hv_292⟩ := hQ299
  have N299 := Fr.app N290 N299q
  have cs300 := CHr.keep KC299 (allS (Safe.exa (EL := EL) hZ.alike E278 (by decide) (by decide)) (allS y_v2_278 all0)) cs291.1
  have cr300 := cr291.trans cs300
  have hk300 := Nat.le_trans hk291 cs300.2.1
  have Z299 := Nat.le_trans Z290 KC299.1
  have K299 := K290.trans KC299 (allS (Or.inl mem_b1) (allS (wz_v2_278) all0))
  have wz_v2_292 : v2_292 ∈ [b1, v1] ∨ h0.size ≤ v2_292 := hv_292.elim (fun q => by rw [q]; exact wz_v2_278) (fun q => Or.inr (Nat.le_trans K290.1 q))
  have KK2 := K290
  have y_v2_292 := own_safeK KC299 (allS (Safe.exa (EL := EL) hZ.alike E278 (by decide) (by decide)) (allS y_v2_278 all0)) cs291.1 hv_292 y_v2_278
  have hgl_292 := @own_grle (own_gr (cp) (ct + 4 * dn)) (ct + 4 * dn + nx)
  have hgm_292 : own_gr (own_gr (cp) (ct + 4 * dn)) (ct + 4 * dn + nx) ≤ 1000 := own_grM hgm_278 (by decide) (hg2 : ct + 4 * dn + nx ≤ own_gr (cp) (ct + 4 * dn) ∨ max (ct + 4 * dn + nx) (2 * (own_gr (cp) (ct + 4 * dn)) + 2) ≤ 160)
  have f302 := (f297.keep KC299 (allS g_b1 (allS g_v2_278 all0)))
  obtain ⟨cq306, kq306, q306a, q306b, q306c⟩ := isOf hZ rfl E292
  obtain ⟨_, _, ⟨T306, L306, k306, n306⟩, -, X306, ⟨Lc306, hQ306, l306, y306, z306⟩, st306⟩ := X299.virtualBack hx (y := (⟨"java/lang/StringBuilder", "append", "(C)Ljava/lang/StringBuilder;"⟩ : MethodName)) (z := (⟨"java/lang/StringBuilder", "append", "(C)Ljava/lang/StringBuilder;"⟩ : MethodName)) hown (mvT hZ (tw hw 181 rfl)) (mvT hZ (tw hw 182 rfl)) (notFace_of_selects (args := #[]) (mvT hZ (tw hw 184 rfl))) (mvT hZ (tw hw 184 rfl)) (mvT hZ (tw hw 183 rfl)) (by decide) (backOf (W := 0) (rmSApC l Z a0 hw [] b1 v2_292 k2_292 (own_gr (own_gr (cp) (ct + 4 * dn)) (ct + 4 * dn + nx)) (ct + 4 * dn + nx) wa_292 (10 : Int32) zc T299.heap n0 Z299 E292 V292 C292 N292 A292 X292 l2_292 hgm_292 g_b1 g_v2_292 (by decide) hgl_292.1 (hg3 : ct + 4 * dn + nx + 1 ≤ own_gr (own_gr (cp) (ct + 4 * dn)) (ct + 4 * dn + nx) ∨ max (ct + 4 * dn + nx + 1) (2 * (own_gr (own_gr (cp) (ct + 4 * dn)) (ct + 4 * dn + nx)) + 2) ≤ 160) hn3 f302 SC hzc) hZ (tw hw 185 rfl) (tw hw 38 rfl) (by decide) (by decide)) q306a q306c (g := (mkF m 22 #[.val (.ref j1), .val (.ref x1)] [(.int (10 : Int32)), (.ref b1)])) rfl (by rw [hml]; rfl) (Steps.refl _) (argsL := [(.int (10 : Int32))]) (rest := []) (lenOf pd__C_Ljava_lang_StringBuilder_ rfl) rfl (by show 2 * 0 + _ ≤ _; exact Nat.le_of_eq rfl) (hb hby d32_22) (fun _ _ => ⟨rfl, rfl, (by decide : 6 + 1 ≤ _), (by decide : 360 + 160 ≤ _)⟩)
  dsimp only [Pt.U, Pt.locs, Pt.cells, Pt.slots] at X306 l306 y306 z306 st306 hQ306
  subst l306 y306 z306
  obtain ⟨rfl, N306q, KC306, v2_301, k2_301, wa_301, ⟨E301, V301, C301, N301, A301, X301⟩, l2_301, tk_301, g_v2_301, hv_301⟩ := hQ306
  have N306 := Fr.app N299 N306q
  have cs307 := CHr.keep KC306 (allS (Safe.exa (EL := EL) hZ.alike E292 (by decide) (by decide)) (allS y_v2_292 all0)) cs300.1
  have cr307 := cr300.trans cs307
  have hk307 := Nat.le_trans hk300 cs307.2.1
  have K306 := K299.trans KC306 (allS (Or.inl mem_b1) (allS (wz_v2_292) all0))
  have KK3 := K299
  have y_v2_301 := own_safeK KC306 (allS (Safe.exa (EL := EL) hZ.alike E292 (by decide) (by decide)) (allS y_v2_292 all0)) cs300.1 hv_301 y_v2_292
  have hgl_301 := @own_grle (own_gr (own_gr (cp) (ct + 4 * dn)) (ct + 4 * dn + nx)) (ct + 4 * dn + nx + 1)
  have hgm_301 : own_gr (own_gr (own_gr (cp) (ct + 4 * dn)) (ct + 4 * dn + nx)) (ct + 4 * dn + nx + 1) ≤ 1000 := own_grM hgm_292 (by decide) (hg3 : ct + 4 * dn + nx + 1 ≤ own_gr (own_gr (cp) (ct + 4 * dn)) (ct + 4 * dn + nx) ∨ max (ct + 4 * dn + nx + 1) (2 * (own_gr (own_gr (cp) (ct + 4 * dn)) (ct + 4 * dn + nx)) + 2) ≤ 160)
  have fin : v2_301 = v1 ∨ h0.size ≤ v2_301 := by
    rcases hv_301 with q | q
    · rcases hv_292 with q' | q'
      · rcases hv_278 with q'' | q''
        · exact Or.inl (q.trans (q'.trans q''))
        · exact Or.inr (by rw [q, q']; exact Nat.le_trans KK1.1 q'')
      · exact Or.inr (by rw [q]; exact Nat.le_trans KK2.1 q')
    · exact Or.inr (Nat.le_trans KK3.1 q)
  have pre308 : ∀ t, Steps p.tables e below (T306.setTop (mkF m 27 #[.val (.ref j1), .val (.ref x1)] [(.ref j1)])) t → Steps p.tables e below (T271.setTop (mkF m 10 #[.val (.ref j1), .val (.ref x1)] [(.int (Int32.ofNat dn)), (.ref b266), (.ref b1)])) t := by
    intro t kt
    refine st274.trans ?_
    refine st290.trans ?_
    show Steps p.tables e below (T290.setTop (mkF m 16 #[.val (.ref j1), .val (.ref x1)] [(.ref b1)])) _
    refine XS.aloadN X290.here hx rfl (hb hby d32_16) rfl rfl ?_
    refine st299.trans ?_
    show Steps p.tables e below (T299.setTop (mkF m 20 #[.val (.ref j1), .val (.ref x1)] [(.ref b1)])) _
    refine XS.bipush X299.here hx rfl (hb hby d32_20) ?_
    refine st306.trans ?_
    show Steps p.tables e below (T306.setTop (mkF m 25 #[.val (.ref j1), .val (.ref x1)] [(.ref b1)])) _
    refine XS.pop X306.here hx rfl (hb hby d32_25) rfl rfl ?_
    refine XS.aloadN X306.here hx rfl (hb hby d32_26) rfl rfl ?_
    exact kt
  have yf_v2_301 := (CHv.at X306 hZ hEL cs307.1).safe A301.lt y_v2_301
  obtain ⟨fs, hr, hrun, hended, e1, e2, e3, e4⟩ := X306.leaveW hSi274 hk307 (v := some (.ref j1)) (fun h => by rw [Bd.returns] at h; cases h)
  refine ⟨_, _, (pre0 _ (pre265 _ (pre273 _ (pre308 _ ?_)))), hrun, hended, _, _, rfl, ?_, ?_, ⟨e1, e2, e3, e4.mono (by decide) (by decide)⟩⟩
  · show Steps p.tables e below (T306.setTop (mkF m 27 #[.val (.ref j1), .val (.ref x1)] [(.ref j1)])) _
    exact retOut X306 hx (t := (.object "com/example/orbweaver/orbweaver/mapping/JavaSource")) Bd.returns rfl (Or.inr (Or.inr (Or.inr (Or.inr ⟨rfl, rfl, rfl⟩)))) (hb hby d32_27) hr
  · show QLine Z j1 b1 v1 k1 cp ct vs x1 t1 kx nx xs dn zc h0 n0 _ T306.heap _ T306.vm
    exact ⟨rfl, N306, K306, v2_301, k2_301, wa_301, ⟨E301, V301, C301, N301, A301, X301⟩, l2_301, by rw [tk_301, tk_292, tk_278], g_v2_301, fin, yf_v2_301⟩
  · have q := cr307.trans (CHv.at X306 hZ hEL cs307.1)
    show CHr Z EL s.vm s.heap T306.vm T306.heap
    rw [hh]
    exact q
theorem ef_Emp1 (m : MethodId) (x0 : Addr) : entryFrame m #[(.ref x0)] 1 = mkF m 0 #[.val (.ref x0)] [] := by (first | (simp [entryFrame, mkF, argsToLocals, Value.category]; done) | rfl)
def QEmp1 (Z : State) (x1 : Addr) (t1 : Addr) (kb : ClassId) (nb : Int32) (vb : List Value) (h0 : Heap) (n0 : Nat) (v : Option Value) (h : Heap) (L : List Loc) : Prop := v = some (.int (1 : Int32)) ∧ Fr n0 L ∧ h = h0
theorem d36_0 : decode jdk_42_method_55_code 0 = .ok (.aload_n 0, 1) := by decide +kernel
theorem d36_1 : decode jdk_42_method_55_code 1 = .ok (.getfield 9, 3) := by decide +kernel
theorem d36_4 : decode jdk_42_method_55_code 4 = .ok (.arraylength, 1) := by decide +kernel
theorem d36_5 : decode jdk_42_method_55_code 5 = .ok (.ifCond .ne 7, 3) := by decide +kernel
theorem d36_8 : decode jdk_42_method_55_code 8 = .ok (.iconst 1, 1) := by decide +kernel
theorem d36_9 : decode jdk_42_method_55_code 9 = .ok (.goto 4, 3) := by decide +kernel
theorem d36_13 : decode jdk_42_method_55_code 13 = .ok (.ireturn, 1) := by decide +kernel
set_option maxRecDepth 65536 in
set_option maxHeartbeats 40000000 in
theorem rmEmp1 (l : Launch) (Z : State) (a0 : Array Value) (hw : ∀ d ∈ tables_1, d.before a0 Z = true) (ws : List Jvm.Cond) (x1 : Addr) (t1 : Addr) (kb : ClassId) (nb : Int32) (vb : List Value) (h0 : Heap) (n0 : Nat) (Z0 : n0 ≤ h0.size) (FV : Fld Z h0 x1 "java/lang/String" "value" "[B" (.ref t1)) (KA : Arv Z h0 t1 kb .byte nb vb (.int (0 : Int32))) (hnb : nb = (0 : Int32)) :
    MetFree l (⟨"java/lang/String", "isEmpty", "()Z"⟩ : MethodName) (head1 (Jvm.Cond.code (⟨"java/lang/String", "isEmpty", "()Z"⟩ : MethodName) jdk_42_method_55_code 1 (some .boolean) :: ws) ({ frames := 0, cells := 0, slots := 0, locals := 0 } : Room)) (fun a U => a = #[(.ref x1)] ∧ Z.Warmed39 U.vm ∧ U.heap = h0) (fun _ _ _ _ _ => True) (fun _ U o U' => ∃ v L, o = .returned v ∧ QEmp1 Z x1 t1 kb nb vb h0 n0 v U'.heap L ∧ FrameEnd U o U' L ({ frames := 0, cells := 0, slots := 0, locals := 0 } : Room).cells ({ frames := 0, cells := 0, slots := 0, locals := 0 } : Room).slots) := by
  refine MetFree.of_bodySF (plainFor_of_name pn_java_lang_String) hisR ?_
  intro p e s m args below meth c s₁ Bd hml0 hP hK
  obtain ⟨rfl, hZ, hh⟩ := hP
  have hx := Bd.exec
  have hby := Bd.bytes
  have hml : c.maxLocals = 1 := hml0
  have hown : s.vm.findClass "java/lang/String" = some m.cls := findClass_of_methodNamed Bd.named
  have hnm := (name_of_methodNamed Bd.named Bd.method).1
  have X0 : Stand p l e ({ frames := 0, cells := 0, slots := 0, locals := 0 } : Room) s m #[(.ref x1)] below meth c s₁ [] 0 0 := Stand.of_body Bd
  have e0 : s₁.heap = h0 := by rw [← hh, Bd.state]; rfl
  have N0 := Fr.nil n0
  have pre0 : ∀ t, Steps p.tables e below (s₁.setTop (mkF m 0 #[.val (.ref x1)] [])) t → Steps p.tables e below (s₁.setTop (entryFrame m #[(.ref x1)] 1)) t := fun t k => castTop (ef_Emp1 m x1) k
  obtain ⟨T309, X309, e309, st309⟩ := getF X0 hx hZ hown (host := "") (Or.inl (tw hw 30 rfl)) Via.refl e0 FV (g := (mkF m 1 #[.val (.ref x1)] [(.ref x1)])) rfl rfl (hb hby d36_1)
  obtain ⟨c310, Ar310, -, S310, M310, -, -⟩ := id KA
  have pre311 : ∀ t, Steps p.tables e below (T309.setTop (mkF m 13 #[.val (.ref x1)] [(.int (1 : Int32))])) t → Steps p.tables e below (s₁.setTop (mkF m 0 #[.val (.ref x1)] [])) t := by
    intro t kt
    show Steps p.tables e below (s₁.setTop (mkF m 0 #[.val (.ref x1)] [])) _
    refine XS.aloadN X0.here hx rfl (hb hby d36_0) rfl rfl ?_
    refine st309 _ ?_
    refine X309.arraylength hx (by rw [e309]; exact Ar310.1) (State.isArrayOf_alike hZ.alike Ar310.2.1) (g := (mkF m 4 #[.val (.ref x1)] [(.ref t1)])) rfl rfl (hb hby d36_4) _ ?_
    rw [len_of S310 M310]
    refine XS.ifNo X309.here hx rfl (hb hby d36_5) rfl ((if0 _ _).trans (teq (hnb : nb = (0 : Int32))).2) ?_
    show Steps p.tables e below (T309.setTop (mkF m 8 #[.val (.ref x1)] [])) _
    refine XS.iconst X309.here hx rfl (hb hby d36_8) ?_
    refine XS.goto X309.here hx rfl (pc0 := 9) (pc' := 13) rfl (hb hby d36_9) (by decide) (by decide) ?_
    exact kt
  obtain ⟨fs, hr, hrun, hended, hW, hsame⟩ := X309.leave (v := some (.int (1 : Int32))) (fun h => by rw [Bd.returns] at h; cases h)
  refine ⟨_, _, (pre0 _ (pre311 _ ?_)), hrun, hended, _, _, rfl, ?_, ⟨_, rfl⟩, hW, hsame.mono (by decide) (by decide)⟩
  · show Steps p.tables e below (T309.setTop (mkF m 13 #[.val (.ref x1)] [(.int (1 : Int32))])) _
    exact retN X309 hx (t := .boolean) Bd.returns (by simp) (hb hby d36_13) hr
  · show QEmp1 Z x1 t1 kb nb vb h0 n0 _ T309.heap _
    rw [e309]
    exact ⟨rfl, N0, rfl⟩
theorem ef_Emp0 (m : MethodId) (x0 : Addr) : entryFrame m #[(.ref x0)] 1 = mkF m 0 #[.val (.ref x0)] [] := by (first | (simp [entryFrame, mkF, argsToLocals, Value.category]; done) | rfl)
def QEmp0 (Z : State) (x1 : Addr) (t1 : Addr) (kb : ClassId) (nb : Int32) (vb : List Value) (h0 : Heap) (n0 : Nat) (v : Option Value) (h : Heap) (L : List Loc) : Prop := v = some (.int (0 : Int32)) ∧ Fr n0 L ∧ h = h0
theorem d36_12 : decode jdk_42_method_55_code 12 = .ok (.iconst 0, 1) := by decide +kernel
set_option maxRecDepth 65536 in
set_option maxHeartbeats 40000000 in
theorem rmEmp0 (l : Launch) (Z : State) (a0 : Array Value) (hw : ∀ d ∈ tables_1, d.before a0 Z = true) (ws : List Jvm.Cond) (x1 : Addr) (t1 : Addr) (kb : ClassId) (nb : Int32) (vb : List Value) (h0 : Heap) (n0 : Nat) (Z0 : n0 ≤ h0.size) (FV : Fld Z h0 x1 "java/lang/String" "value" "[B" (.ref t1)) (KA : Arv Z h0 t1 kb .byte nb vb (.int (0 : Int32))) (hnb : ¬ nb = (0 : Int32)) :
    MetFree l (⟨"java/lang/String", "isEmpty", "()Z"⟩ : MethodName) (head1 (Jvm.Cond.code (⟨"java/lang/String", "isEmpty", "()Z"⟩ : MethodName) jdk_42_method_55_code 1 (some .boolean) :: ws) ({ frames := 0, cells := 0, slots := 0, locals := 0 } : Room)) (fun a U => a = #[(.ref x1)] ∧ Z.Warmed39 U.vm ∧ U.heap = h0) (fun _ _ _ _ _ => True) (fun _ U o U' => ∃ v L, o = .returned v ∧ QEmp0 Z x1 t1 kb nb vb h0 n0 v U'.heap L ∧ FrameEnd U o U' L ({ frames := 0, cells := 0, slots := 0, locals := 0 } : Room).cells ({ frames := 0, cells := 0, slots := 0, locals := 0 } : Room).slots) := by
  refine MetFree.of_bodySF (plainFor_of_name pn_java_lang_String) hisR ?_
  intro p e s m args below meth c s₁ Bd hml0 hP hK
  obtain ⟨rfl, hZ, hh⟩ := hP
  have hx := Bd.exec
  have hby := Bd.bytes
  have hml : c.maxLocals = 1 := hml0
  have hown : s.vm.findClass "java/lang/String" = some m.cls := findClass_of_methodNamed Bd.named
  have hnm := (name_of_methodNamed Bd.named Bd.method).1
  have X0 : Stand p l e ({ frames := 0, cells := 0, slots := 0, locals := 0 } : Room) s m #[(.ref x1)] below meth c s₁ [] 0 0 := Stand.of_body Bd
  have e0 : s₁.heap = h0 := by rw [← hh, Bd.state]; rfl
  have N0 := Fr.nil n0
  have pre0 : ∀ t, Steps p.tables e below (s₁.setTop (mkF m 0 #[.val (.ref x1)] [])) t → Steps p.tables e below (s₁.setTop (entryFrame m #[(.ref x1)] 1)) t := fun t k => castTop (ef_Emp0 m x1) k
  obtain ⟨T312, X312, e312, st312⟩ := getF X0 hx hZ hown (host := "") (Or.inl (tw hw 30 rfl)) Via.refl e0 FV (g := (mkF m 1 #[.val (.ref x1)] [(.ref x1)])) rfl rfl (hb hby d36_1)
  obtain ⟨c313, Ar313, -, S313, M313, -, -⟩ := id KA
  have pre314 : ∀ t, Steps p.tables e below (T312.setTop (mkF m 13 #[.val (.ref x1)] [(.int (0 : Int32))])) t → Steps p.tables e below (s₁.setTop (mkF m 0 #[.val (.ref x1)] [])) t := by
    intro t kt
    show Steps p.tables e below (s₁.setTop (mkF m 0 #[.val (.ref x1)] [])) _
    refine XS.aloadN X0.here hx rfl (hb hby d36_0) rfl rfl ?_
    refine st312 _ ?_
    refine X312.arraylength hx (by rw [e312]; exact Ar313.1) (State.isArrayOf_alike hZ.alike Ar313.2.1) (g := (mkF m 4 #[.val (.ref x1)] [(.ref t1)])) rfl rfl (hb hby d36_4) _ ?_
    rw [len_of S313 M313]
    refine XS.ifYes X312.here hx rfl (pc0 := 5) (pc' := 12) rfl (hb hby d36_5) rfl ((if0 _ _).trans (feq (hnb : ¬ (nb = (0 : Int32)))).2) (by decide) (by decide) ?_
    show Steps p.tables e below (T312.setTop (mkF m 12 #[.val (.ref x1)] [])) _
    refine XS.iconst X312.here hx rfl (hb hby d36_12) ?_
    exact kt
  obtain ⟨fs, hr, hrun, hended, hW, hsame⟩ := X312.leave (v := some (.int (0 : Int32))) (fun h => by rw [Bd.returns] at h; cases h)
  refine ⟨_, _, (pre0 _ (pre314 _ ?_)), hrun, hended, _, _, rfl, ?_, ⟨_, rfl⟩, hW, hsame.mono (by decide) (by decide)⟩
  · show Steps p.tables e below (T312.setTop (mkF m 13 #[.val (.ref x1)] [(.int (0 : Int32))])) _
    exact retN X312 hx (t := .boolean) Bd.returns (by simp) (hb hby d36_13) hr
  · show QEmp0 Z x1 t1 kb nb vb h0 n0 _ T312.heap _
    rw [e312]
    exact ⟨rfl, N0, rfl⟩
theorem own_bt {Z : State} {h : Heap} {a : Addr} {k : ClassId} {n i : Nat} {vs : List Value} {d : Value} (F : Arv Z h a k .byte (Int32.ofNat n) vs d) (hn : n < 2147483648) (hi : i < n) : ∃ b, vs.getD i d = .int b := by
  obtain ⟨c, -, -, S, -, -, G⟩ := F
  have q := G i (by rw [S, own_nc hn]; exact hi)
  generalize vs.getD i d = v at q
  cases v with
  | int b => exact ⟨b, rfl⟩
  | _ => simp [fits] at q
theorem ef_LEq (m : MethodId) (x0 : Addr) (x1 : Addr) : entryFrame m #[(.ref x0), (.ref x1)] 3 = mkF m 0 #[.val (.ref x0), .val (.ref x1), .unset] [] := by (first | (simp [entryFrame, mkF, argsToLocals, Value.category]; done) | rfl)
def QLEq (Z : State) (t1 : Addr) (t2 : Addr) (k1 : ClassId) (k2 : ClassId) (nb : Nat) (vb : List Value) (h0 : Heap) (n0 : Nat) (v : Option Value) (h : Heap) (L : List Loc) : Prop := v = some (.int (1 : Int32)) ∧ Fr n0 L ∧ h = h0
theorem d41_0 : decode jdk_43_method_13_code 0 = .ok (.aload_n 0, 1) := by decide +kernel
theorem d41_1 : decode jdk_43_method_13_code 1 = .ok (.arraylength, 1) := by decide +kernel
theorem d41_2 : decode jdk_43_method_13_code 2 = .ok (.aload_n 1, 1) := by decide +kernel
theorem d41_3 : decode jdk_43_method_13_code 3 = .ok (.arraylength, 1) := by decide +kernel
theorem d41_4 : decode jdk_43_method_13_code 4 = .ok (.if_icmp .ne 30, 3) := by decide +kernel
theorem d41_7 : decode jdk_43_method_13_code 7 = .ok (.iconst 0, 1) := by decide +kernel
theorem d41_8 : decode jdk_43_method_13_code 8 = .ok (.istore_n 2, 1) := by decide +kernel
theorem d41_9 : decode jdk_43_method_13_code 9 = .ok (.iload_n 2, 1) := by decide +kernel
theorem d41_10 : decode jdk_43_method_13_code 10 = .ok (.aload_n 0, 1) := by decide +kernel
theorem d41_11 : decode jdk_43_method_13_code 11 = .ok (.arraylength, 1) := by decide +kernel
theorem d41_12 : decode jdk_43_method_13_code 12 = .ok (.if_icmp .ge 20, 3) := by decide +kernel
theorem d41_15 : decode jdk_43_method_13_code 15 = .ok (.aload_n 0, 1) := by decide +kernel
theorem d41_16 : decode jdk_43_method_13_code 16 = .ok (.iload_n 2, 1) := by decide +kernel
theorem d41_17 : decode jdk_43_method_13_code 17 = .ok (.baload, 1) := by decide +kernel
theorem d41_18 : decode jdk_43_method_13_code 18 = .ok (.aload_n 1, 1) := by decide +kernel
theorem d41_19 : decode jdk_43_method_13_code 19 = .ok (.iload_n 2, 1) := by decide +kernel
theorem d41_20 : decode jdk_43_method_13_code 20 = .ok (.baload, 1) := by decide +kernel
theorem d41_21 : decode jdk_43_method_13_code 21 = .ok (.if_icmp .eq 5, 3) := by decide +kernel
theorem d41_26 : decode jdk_43_method_13_code 26 = .ok (.iinc 2 1, 3) := by decide +kernel
theorem d41_29 : decode jdk_43_method_13_code 29 = .ok (.goto (-20), 3) := by decide +kernel
theorem d41_32 : decode jdk_43_method_13_code 32 = .ok (.iconst 1, 1) := by decide +kernel
theorem d41_33 : decode jdk_43_method_13_code 33 = .ok (.ireturn, 1) := by decide +kernel
set_option maxRecDepth 65536 in
set_option maxHeartbeats 40000000 in
theorem rmLEq (l : Launch) (Z : State) (a0 : Array Value) (hw : ∀ d ∈ tables_1, d.before a0 Z = true) (ws : List Jvm.Cond) (t1 : Addr) (t2 : Addr) (k1 : ClassId) (k2 : ClassId) (nb : Nat) (vb : List Value) (h0 : Heap) (n0 : Nat) (Z0 : n0 ≤ h0.size) (KA : Arv Z h0 t1 k1 .byte (Int32.ofNat nb) vb (.int (0 : Int32))) (KB : Arv Z h0 t2 k2 .byte (Int32.ofNat nb) vb (.int (0 : Int32))) (hnb : nb ≤ 1000) :
    MetFree l (⟨"java/lang/StringLatin1", "equals", "([B[B)Z"⟩ : MethodName) (head1 (Jvm.Cond.code (⟨"java/lang/StringLatin1", "equals", "([B[B)Z"⟩ : MethodName) jdk_43_method_13_code 3 (some .boolean) :: ws) ({ frames := 0, cells := 0, slots := 0, locals := 0 } : Room)) (fun a U => a = #[(.ref t1), (.ref t2)] ∧ Z.Warmed39 U.vm ∧ U.heap = h0) (fun _ _ _ _ _ => True) (fun _ U o U' => ∃ v L, o = .returned v ∧ QLEq Z t1 t2 k1 k2 nb vb h0 n0 v U'.heap L ∧ FrameEnd U o U' L ({ frames := 0, cells := 0, slots := 0, locals := 0 } : Room).cells ({ frames := 0, cells := 0, slots := 0, locals := 0 } : Room).slots) := by
  refine MetFree.of_bodySF (plainFor_of_name pn_java_lang_StringLatin1) hisR ?_
  intro p e s m args below meth c s₁ Bd hml0 hP hK
  obtain ⟨rfl, hZ, hh⟩ := hP
  have hx := Bd.exec
  have hby := Bd.bytes
  have hml : c.maxLocals = 3 := hml0
  have hown : s.vm.findClass "java/lang/StringLatin1" = some m.cls := findClass_of_methodNamed Bd.named
  have hnm := (name_of_methodNamed Bd.named Bd.method).1
  have X0 : Stand p l e ({ frames := 0, cells := 0, slots := 0, locals := 0 } : Room) s m #[(.ref t1), (.ref t2)] below meth c s₁ [] 0 0 := Stand.of_body Bd
  have e0 : s₁.heap = h0 := by rw [← hh, Bd.state]; rfl
  have N0 := Fr.nil n0
  have pre0 : ∀ t, Steps p.tables e below (s₁.setTop (mkF m 0 #[.val (.ref t1), .val (.ref t2), .unset] [])) t → Steps p.tables e below (s₁.setTop (entryFrame m #[(.ref t1), (.ref t2)] 3)) t := fun t k => castTop (ef_LEq m t1 t2) k
  obtain ⟨c315, Ar315, -, S315, M315, -, -⟩ := id KA
  obtain ⟨c316, Ar316, -, S316, M316, -, -⟩ := id KB
  have pre317 : ∀ t, Steps p.tables e below (s₁.setTop (mkF m 9 #[.val (.ref t1), .val (.ref t2), .val (.int (0 : Int32))] [])) t → Steps p.tables e below (s₁.setTop (mkF m 0 #[.val (.ref t1), .val (.ref t2), .unset] [])) t := by
    intro t kt
    show Steps p.tables e below (s₁.setTop (mkF m 0 #[.val (.ref t1), .val (.ref t2), .unset] [])) _
    refine XS.aloadN X0.here hx rfl (hb hby d41_0) rfl rfl ?_
    refine X0.arraylength hx (by rw [e0]; exact Ar315.1) (State.isArrayOf_alike hZ.alike Ar315.2.1) (g := (mkF m 1 #[.val (.ref t1), .val (.ref t2), .unset] [(.ref t1)])) rfl rfl (hb hby d41_1) _ ?_
    rw [len_of S315 M315]
    show Steps p.tables e below (s₁.setTop (mkF m 2 #[.val (.ref t1), .val (.ref t2), .unset] [(.int (Int32.ofNat nb))])) _
    refine XS.aloadN X0.here hx rfl (hb hby d41_2) rfl rfl ?_
    refine X0.arraylength hx (by rw [e0]; exact Ar316.1) (State.isArrayOf_alike hZ.alike Ar316.2.1) (g := (mkF m 3 #[.val (.ref t1), .val (.ref t2), .unset] [(.ref t2), (.int (Int32.ofNat nb))])) rfl rfl (hb hby d41_3) _ ?_
    rw [len_of S316 M316]
    refine XS.icmpNo X0.here hx rfl (hb hby d41_4) rfl (teq (rfl : (Int32.ofNat nb) = (Int32.ofNat nb))).2 ?_
    show Steps p.tables e below (s₁.setTop (mkF m 7 #[.val (.ref t1), .val (.ref t2), .unset] [])) _
    refine XS.iconst X0.here hx rfl (hb hby d41_7) ?_
    refine XS.istoreN X0.here hx rfl (hb hby d41_8) rfl (l' := #[.val (.ref t1), .val (.ref t2), .val (.int (0 : Int32))]) rfl ?_
    exact kt
  have loop : ∀ (k i : Nat), i + k = nb → ∀ t, Steps p.tables e below (s₁.setTop (mkF m 9 #[.val (.ref t1), .val (.ref t2), .val (.int (Int32.ofNat nb))] [])) t → Steps p.tables e below (s₁.setTop (mkF m 9 #[.val (.ref t1), .val (.ref t2), .val (.int (Int32.ofNat i))] [])) t := by
    intro k
    induction k with
    | zero => intro i hi t kt; rw [show i = nb by omega]; exact kt
    | succ k ih =>
      intro i hi t kt
      obtain ⟨bt, hbt⟩ := own_bt KA (by omega) (show i < nb by omega)
      obtain ⟨c318, Ar318, -, S318, M318, -, -⟩ := id KA
      obtain ⟨c319, Ar319, q319, S319, M319, H319, G319⟩ := id KA
      have hin319 : ¬ ((Int32.ofNat i) < 0 ∨ c319.slots.size ≤ ((Int32.ofNat i)).toNatClampNeg) := inb_of S319 ⟨own_nn (by omega), by rw [own_lt (by omega) (by omega)]; omega⟩
      have hat319 : c319.slots[((Int32.ofNat i)).toNatClampNeg]? = some (.int bt) := (H319 _ (Nat.lt_of_not_le fun y => hin319 (Or.inr y))).trans (congrArg some (by rw [own_nc (by omega)]; exact hbt))
      obtain ⟨c320, Ar320, q320, S320, M320, H320, G320⟩ := id KB
      have hin320 : ¬ ((Int32.ofNat i) < 0 ∨ c320.slots.size ≤ ((Int32.ofNat i)).toNatClampNeg) := inb_of S320 ⟨own_nn (by omega), by rw [own_lt (by omega) (by omega)]; omega⟩
      have hat320 : c320.slots[((Int32.ofNat i)).toNatClampNeg]? = some (.int bt) := (H320 _ (Nat.lt_of_not_le fun y => hin320 (Or.inr y))).trans (congrArg some (by rw [own_nc (by omega)]; exact hbt))
      show Steps p.tables e below (s₁.setTop (mkF m 9 #[.val (.ref t1), .val (.ref t2), .val (.int (Int32.ofNat i))] [])) _
      refine XS.iloadN X0.here hx rfl (hb hby d41_9) rfl ?_
      refine XS.aloadN X0.here hx rfl (hb hby d41_10) rfl rfl ?_
      refine X0.arraylength hx (by rw [e0]; exact Ar318.1) (State.isArrayOf_alike hZ.alike Ar318.2.1) (g := (mkF m 11 #[.val (.ref t1), .val (.ref t2), .val (.int (Int32.ofNat i))] [(.ref t1), (.int (Int32.ofNat i))])) rfl rfl (hb hby d41_11) _ ?_
      rw [len_of S318 M318]
      refine XS.icmpNo X0.here hx rfl (hb hby d41_12) rfl (tlt (by rw [own_lt (by omega) (by omega)]; omega : (Int32.ofNat i) < (Int32.ofNat nb))).2.1 ?_
      show Steps p.tables e below (s₁.setTop (mkF m 15 #[.val (.ref t1), .val (.ref t2), .val (.int (Int32.ofNat i))] [])) _
      refine XS.aloadN X0.here hx rfl (hb hby d41_15) rfl rfl ?_
      refine XS.iloadN X0.here hx rfl (hb hby d41_16) rfl ?_
      show Steps p.tables e below (s₁.setTop (mkF m 17 #[.val (.ref t1), .val (.ref t2), .val (.int (Int32.ofNat i))] [(.int (Int32.ofNat i)), (.ref t1)])) _
      refine X0.baloadBytes hx (j := (Int32.ofNat i)) (v := (.int bt)) (by rw [e0]; exact Ar319.1) (State.isArrayOf_alike hZ.alike Ar319.2.1) Ar319.2.2 hin319 hat319 (g := (mkF m 17 #[.val (.ref t1), .val (.ref t2), .val (.int (Int32.ofNat i))] [(.int (Int32.ofNat i)), (.ref t1)])) rfl rfl (hb hby d41_17) _ ?_
      show Steps p.tables e below (s₁.setTop (mkF m 18 #[.val (.ref t1), .val (.ref t2), .val (.int (Int32.ofNat i))] [(.int bt)])) _
      refine XS.aloadN X0.here hx rfl (hb hby d41_18) rfl rfl ?_
      refine XS.iloadN X0.here hx rfl (hb hby d41_19) rfl ?_
      show Steps p.tables e below (s₁.setTop (mkF m 20 #[.val (.ref t1), .val (.ref t2), .val (.int (Int32.ofNat i))] [(.int (Int32.ofNat i)), (.ref t2), (.int bt)])) _
      refine X0.baloadBytes hx (j := (Int32.ofNat i)) (v := (.int bt)) (by rw [e0]; exact Ar320.1) (State.isArrayOf_alike hZ.alike Ar320.2.1) Ar320.2.2 hin320 hat320 (g := (mkF m 20 #[.val (.ref t1), .val (.ref t2), .val (.int (Int32.ofNat i))] [(.int (Int32.ofNat i)), (.ref t2), (.int bt)])) rfl rfl (hb hby d41_20) _ ?_
      refine XS.icmpYes X0.here hx rfl (pc0 := 21) (pc' := 26) rfl (hb hby d41_21) rfl (teq (rfl : bt = bt)).1 (by decide) (by decide) ?_
      show Steps p.tables e below (s₁.setTop (mkF m 26 #[.val (.ref t1), .val (.ref t2), .val (.int (Int32.ofNat i))] [])) _
      refine XS.iinc X0.here hx rfl (hb hby d41_26) rfl (l' := #[.val (.ref t1), .val (.ref t2), .val (.int ((Int32.ofNat i) + (1 : Int32)))]) rfl ?_
      show Steps p.tables e below (s₁.setTop (mkF m 29 #[.val (.ref t1), .val (.ref t2), .val (.int ((Int32.ofNat i) + (1 : Int32)))] [])) _
      rw [show (Int32.ofNat i) + (1 : Int32) = Int32.ofNat (i + 1) from own_add i 1]
      show Steps p.tables e below (s₁.setTop (mkF m 29 #[.val (.ref t1), .val (.ref t2), .val (.int (Int32.ofNat (i + 1)))] [])) _
      refine XS.goto X0.here hx rfl (pc0 := 29) (pc' := 9) rfl (hb hby d41_29) (by decide) (by decide) ?_
      exact ih (i + 1) (by omega) t kt
  have pre321 : ∀ t, Steps p.tables e below (s₁.setTop (mkF m 9 #[.val (.ref t1), .val (.ref t2), .val (.int (Int32.ofNat nb))] [])) t → Steps p.tables e below (s₁.setTop (mkF m 9 #[.val (.ref t1), .val (.ref t2), .val (.int (0 : Int32))] [])) t := fun t kt => loop nb 0 (by omega) t kt
  obtain ⟨c322, Ar322, -, S322, M322, -, -⟩ := id KA
  have pre323 : ∀ t, Steps p.tables e below (s₁.setTop (mkF m 33 #[.val (.ref t1), .val (.ref t2), .val (.int (Int32.ofNat nb))] [(.int (1 : Int32))])) t → Steps p.tables e below (s₁.setTop (mkF m 9 #[.val (.ref t1), .val (.ref t2), .val (.int (Int32.ofNat nb))] [])) t := by
    intro t kt
    show Steps p.tables e below (s₁.setTop (mkF m 9 #[.val (.ref t1), .val (.ref t2), .val (.int (Int32.ofNat nb))] [])) _
    refine XS.iloadN X0.here hx rfl (hb hby d41_9) rfl ?_
    refine XS.aloadN X0.here hx rfl (hb hby d41_10) rfl rfl ?_
    refine X0.arraylength hx (by rw [e0]; exact Ar322.1) (State.isArrayOf_alike hZ.alike Ar322.2.1) (g := (mkF m 11 #[.val (.ref t1), .val (.ref t2), .val (.int (Int32.ofNat nb))] [(.ref t1), (.int (Int32.ofNat nb))])) rfl rfl (hb hby d41_11) _ ?_
    rw [len_of S322 M322]
    refine XS.icmpYes X0.here hx rfl (pc0 := 12) (pc' := 32) rfl (hb hby d41_12) rfl (flt (by rw [own_lt (by omega) (by omega)]; omega : ¬ ((Int32.ofNat nb) < (Int32.ofNat nb)))).2.1 (by decide) (by decide) ?_
    show Steps p.tables e below (s₁.setTop (mkF m 32 #[.val (.ref t1), .val (.ref t2), .val (.int (Int32.ofNat nb))] [])) _
    refine XS.iconst X0.here hx rfl (hb hby d41_32) ?_
    exact kt
  obtain ⟨fs, hr, hrun, hended, hW, hsame⟩ := X0.leave (v := some (.int (1 : Int32))) (fun h => by rw [Bd.returns] at h; cases h)
  refine ⟨_, _, (pre0 _ (pre317 _ (pre321 _ (pre323 _ ?_)))), hrun, hended, _, _, rfl, ?_, ⟨_, rfl⟩, hW, hsame.mono (by decide) (by decide)⟩
  · show Steps p.tables e below (s₁.setTop (mkF m 33 #[.val (.ref t1), .val (.ref t2), .val (.int (Int32.ofNat nb))] [(.int (1 : Int32))])) _
    exact retN X0 hx (t := .boolean) Bd.returns (by simp) (hb hby d41_33) hr
  · show QLEq Z t1 t2 k1 k2 nb vb h0 n0 _ s₁.heap _
    rw [e0]
    exact ⟨rfl, N0, rfl⟩
theorem ef_SEq (m : MethodId) (x0 : Addr) (x1 : Addr) : entryFrame m #[(.ref x0), (.ref x1)] 3 = mkF m 0 #[.val (.ref x0), .val (.ref x1), .unset] [] := by (first | (simp [entryFrame, mkF, argsToLocals, Value.category]; done) | rfl)
def QSEq (Z : State) (x1 : Addr) (x2 : Addr) (t1 : Addr) (t2 : Addr) (k1 : ClassId) (k2 : ClassId) (nb : Nat) (vb : List Value) (zc : Int32) (h0 : Heap) (n0 : Nat) (v : Option Value) (h : Heap) (L : List Loc) : Prop := v = some (.int (1 : Int32)) ∧ Fr n0 L ∧ h = h0
theorem d40_0 : decode jdk_42_method_66_code 0 = .ok (.aload_n 0, 1) := by decide +kernel
theorem d40_1 : decode jdk_42_method_66_code 1 = .ok (.aload_n 1, 1) := by decide +kernel
theorem d40_2 : decode jdk_42_method_66_code 2 = .ok (.if_acmp .ne 5, 3) := by decide +kernel
theorem d40_7 : decode jdk_42_method_66_code 7 = .ok (.aload_n 1, 1) := by decide +kernel
theorem d40_8 : decode jdk_42_method_66_code 8 = .ok (.instanceof 10, 3) := by decide +kernel
theorem d40_11 : decode jdk_42_method_66_code 11 = .ok (.ifCond .eq 43, 3) := by decide +kernel
theorem d40_14 : decode jdk_42_method_66_code 14 = .ok (.aload_n 1, 1) := by decide +kernel
theorem d40_15 : decode jdk_42_method_66_code 15 = .ok (.checkcast 10, 3) := by decide +kernel
theorem d40_18 : decode jdk_42_method_66_code 18 = .ok (.astore_n 2, 1) := by decide +kernel
theorem d40_19 : decode jdk_42_method_66_code 19 = .ok (.getstatic 38, 3) := by decide +kernel
theorem d40_22 : decode jdk_42_method_66_code 22 = .ok (.ifCond .eq 14, 3) := by decide +kernel
theorem d40_25 : decode jdk_42_method_66_code 25 = .ok (.aload_n 0, 1) := by decide +kernel
theorem d40_26 : decode jdk_42_method_66_code 26 = .ok (.getfield 15, 3) := by decide +kernel
theorem d40_29 : decode jdk_42_method_66_code 29 = .ok (.aload_n 2, 1) := by decide +kernel
theorem d40_30 : decode jdk_42_method_66_code 30 = .ok (.getfield 15, 3) := by decide +kernel
theorem d40_33 : decode jdk_42_method_66_code 33 = .ok (.if_icmp .ne 21, 3) := by decide +kernel
theorem d40_36 : decode jdk_42_method_66_code 36 = .ok (.aload_n 0, 1) := by decide +kernel
theorem d40_37 : decode jdk_42_method_66_code 37 = .ok (.getfield 9, 3) := by decide +kernel
theorem d40_40 : decode jdk_42_method_66_code 40 = .ok (.aload_n 2, 1) := by decide +kernel
theorem d40_41 : decode jdk_42_method_66_code 41 = .ok (.getfield 9, 3) := by decide +kernel
theorem d40_44 : decode jdk_42_method_66_code 44 = .ok (.invokestatic 541, 3) := by decide +kernel
theorem pd___B_B_Z : parseMethodDescriptor "([B[B)Z" = some ⟨[(.array .byte), (.array .byte)], some .boolean⟩ := by decide +kernel
theorem d40_47 : decode jdk_42_method_66_code 47 = .ok (.ifCond .eq 7, 3) := by decide +kernel
theorem d40_50 : decode jdk_42_method_66_code 50 = .ok (.iconst 1, 1) := by decide +kernel
theorem d40_51 : decode jdk_42_method_66_code 51 = .ok (.goto 4, 3) := by decide +kernel
theorem d40_55 : decode jdk_42_method_66_code 55 = .ok (.ireturn, 1) := by decide +kernel
set_option maxRecDepth 65536 in
set_option maxHeartbeats 40000000 in
theorem rmSEq (l : Launch) (Z : State) (a0 : Array Value) (hw : ∀ d ∈ tables_1, d.before a0 Z = true) (ws : List Jvm.Cond) (x1 : Addr) (x2 : Addr) (t1 : Addr) (t2 : Addr) (k1 : ClassId) (k2 : ClassId) (nb : Nat) (vb : List Value) (zc : Int32) (h0 : Heap) (n0 : Nat) (Z0 : n0 ≤ h0.size) (SC : Sta Z h0 "java/lang/String" "COMPACT_STRINGS" "Z" (.int zc)) (hzc : ¬ zc = (0 : Int32)) (Ex1 : Exa Z h0 x1 "java/lang/String") (Vx1 : Fld Z h0 x1 "java/lang/String" "value" "[B" (.ref t1)) (Cx1 : Fld Z h0 x1 "java/lang/String" "coder" "B" (.int (0 : Int32))) (Ex2 : Exa Z h0 x2 "java/lang/String") (Vx2 : Fld Z h0 x2 "java/lang/String" "value" "[B" (.ref t2)) (Cx2 : Fld Z h0 x2 "java/lang/String" "coder" "B" (.int (0 : Int32))) (KA : Arv Z h0 t1 k1 .byte (Int32.ofNat nb) vb (.int (0 : Int32))) (KB : Arv Z h0 t2 k2 .byte (Int32.ofNat nb) vb (.int (0 : Int32))) (hnb : nb ≤ 1000) (hne : x1 ≠ x2) :
    MetFree l (⟨"java/lang/String", "equals", "(Ljava/lang/Object;)Z"⟩ : MethodName) (head1 (Jvm.Cond.code (⟨"java/lang/String", "equals", "(Ljava/lang/Object;)Z"⟩ : MethodName) jdk_42_method_66_code 3 (some .boolean) :: ws) ({ frames := 1, cells := 0, slots := 0, locals := 14 } : Room)) (fun a U => a = #[(.ref x1), (.ref x2)] ∧ Z.Warmed39 U.vm ∧ U.heap = h0) (fun _ _ _ _ _ => True) (fun _ U o U' => ∃ v L, o = .returned v ∧ QSEq Z x1 x2 t1 t2 k1 k2 nb vb zc h0 n0 v U'.heap L ∧ FrameEnd U o U' L ({ frames := 1, cells := 0, slots := 0, locals := 14 } : Room).cells ({ frames := 1, cells := 0, slots := 0, locals := 14 } : Room).slots) := by
  refine MetFree.of_bodySF (plainFor_of_name pn_java_lang_String) hisR ?_
  intro p e s m args below meth c s₁ Bd hml0 hP hK
  obtain ⟨rfl, hZ, hh⟩ := hP
  have hx := Bd.exec
  have hby := Bd.bytes
  have hml : c.maxLocals = 3 := hml0
  have hown : s.vm.findClass "java/lang/String" = some m.cls := findClass_of_methodNamed Bd.named
  have hnm := (name_of_methodNamed Bd.named Bd.method).1
  have X0 : Stand p l e ({ frames := 1, cells := 0, slots := 0, locals := 14 } : Room) s m #[(.ref x1), (.ref x2)] below meth c s₁ [] 0 0 := Stand.of_body Bd
  have e0 : s₁.heap = h0 := by rw [← hh, Bd.state]; rfl
  have N0 := Fr.nil n0
  have pre0 : ∀ t, Steps p.tables e below (s₁.setTop (mkF m 0 #[.val (.ref x1), .val (.ref x2), .unset] [])) t → Steps p.tables e below (s₁.setTop (entryFrame m #[(.ref x1), (.ref x2)] 3)) t := fun t k => castTop (ef_SEq m x1 x2) k
  obtain ⟨T324, X324, e324, st324⟩ := instY X0 hx hZ hown (tw hw 19 rfl) e0 (Ins.self Ex2) (g := (mkF m 8 #[.val (.ref x1), .val (.ref x2), .unset] [(.ref x2)])) rfl rfl (hb hby d40_8)
  obtain ⟨T325, X325, e325, st325⟩ := castY X324 hx hZ hown (tw hw 19 rfl) e324 (Ins.self Ex2) (g := (mkF m 15 #[.val (.ref x1), .val (.ref x2), .unset] [(.ref x2)])) rfl rfl (hb hby d40_15)
  obtain ⟨T326, X326, e326, st326⟩ := getS2 X325 hx hZ hown (host := "") (Or.inl (tw hw 14 rfl)) Via.refl e325 SC (g := (mkF m 19 #[.val (.ref x1), .val (.ref x2), .val (.ref x2)] [])) rfl (hb hby d40_19)
  obtain ⟨T327, X327, e327, st327⟩ := getF X326 hx hZ hown (host := "") (Or.inl (tw hw 31 rfl)) Via.refl e326 Cx1 (g := (mkF m 26 #[.val (.ref x1), .val (.ref x2), .val (.ref x2)] [(.ref x1)])) rfl rfl (hb hby d40_26)
  obtain ⟨T328, X328, e328, st328⟩ := getF X327 hx hZ hown (host := "") (Or.inl (tw hw 31 rfl)) Via.refl e327 Cx2 (g := (mkF m 30 #[.val (.ref x1), .val (.ref x2), .val (.ref x2)] [(.ref x2), (.int (0 : Int32))])) rfl rfl (hb hby d40_30)
  obtain ⟨T329, X329, e329, st329⟩ := getF X328 hx hZ hown (host := "") (Or.inl (tw hw 30 rfl)) Via.refl e328 Vx1 (g := (mkF m 37 #[.val (.ref x1), .val (.ref x2), .val (.ref x2)] [(.ref x1)])) rfl rfl (hb hby d40_37)
  obtain ⟨T330, X330, e330, st330⟩ := getF X329 hx hZ hown (host := "") (Or.inl (tw hw 30 rfl)) Via.refl e329 Vx2 (g := (mkF m 41 #[.val (.ref x1), .val (.ref x2), .val (.ref x2)] [(.ref x2), (.ref t1)])) rfl rfl (hb hby d40_41)
  obtain ⟨_, _, ⟨T331, L331, k331, n331⟩, -, X331, ⟨Lc331, hQ331, l331, y331, z331⟩, st331⟩ := Jvm.LawKit.callS X330 hx (y := (⟨"java/lang/StringLatin1", "equals", "([B[B)Z"⟩ : MethodName)) hown (mvT hZ (tw hw 218 rfl)) (mvT hZ (tw hw 219 rfl)) (mvT hZ (tw hw 17 rfl)) (mvT hZ (tw hw 220 rfl)) (by decide) (backOf (W := 0) (rmLEq l Z a0 hw [] t1 t2 k1 k2 nb vb h0 n0 Z0 KA KB hnb) hZ (tw hw 220 rfl) (tw hw 17 rfl) (by decide) (by decide)) (g := (mkF m 44 #[.val (.ref x1), .val (.ref x2), .val (.ref x2)] [(.ref t2), (.ref t1)])) rfl (by rw [hml]; rfl) (argsL := [(.ref t1), (.ref t2)]) (rest := []) (lenOf pd___B_B_Z rfl) rfl (by show 2 * 0 + _ ≤ _; exact Nat.le_of_eq rfl) (hb hby d40_44) (fun _ _ => ⟨rfl, e330, (by decide : 0 + 0 ≤ _), (by decide : 0 + 0 ≤ _)⟩)
  dsimp only [Pt.U, Pt.locs, Pt.cells, Pt.slots] at X331 l331 y331 z331 st331 hQ331
  subst l331 y331 z331
  obtain ⟨rfl, N331q, EQ331⟩ := hQ331
  have N331 := Fr.app N0 N331q
  have pre332 : ∀ t, Steps p.tables e below (T331.setTop (mkF m 55 #[.val (.ref x1), .val (.ref x2), .val (.ref x2)] [(.int (1 : Int32))])) t → Steps p.tables e below (s₁.setTop (mkF m 0 #[.val (.ref x1), .val (.ref x2), .unset] [])) t := by
    intro t kt
    show Steps p.tables e below (s₁.setTop (mkF m 0 #[.val (.ref x1), .val (.ref x2), .unset] [])) _
    refine XS.aloadN X0.here hx rfl (hb hby d40_0) rfl rfl ?_
    refine XS.aloadN X0.here hx rfl (hb hby d40_1) rfl rfl ?_
    refine Jvm.RoadKit.acmp (g := (mkF m 2 #[.val (.ref x1), .val (.ref x2), .unset] [(.ref x2), (.ref x1)])) X0 hx rfl rfl rfl (pc0 := 2) (pc' := 7) (same := false) rfl (hb hby d40_2) rfl (decide_eq_false (fun q => hne (by injection q))) (by decide) (by decide) ?_
    show Steps p.tables e below (s₁.setTop (mkF m 7 #[.val (.ref x1), .val (.ref x2), .unset] [])) _
    refine XS.aloadN X0.here hx rfl (hb hby d40_7) rfl rfl ?_
    show Steps p.tables e below (s₁.setTop (mkF m 8 #[.val (.ref x1), .val (.ref x2), .unset] [(.ref x2)])) _
    refine st324 _ ?_
    refine XS.ifNo X324.here hx rfl (hb hby d40_11) rfl ((if0 _ _).trans (feq (by decide : ¬ ((1 : Int32) = (0 : Int32)))).1) ?_
    show Steps p.tables e below (T324.setTop (mkF m 14 #[.val (.ref x1), .val (.ref x2), .unset] [])) _
    refine XS.aloadN X324.here hx rfl (hb hby d40_14) rfl rfl ?_
    show Steps p.tables e below (T324.setTop (mkF m 15 #[.val (.ref x1), .val (.ref x2), .unset] [(.ref x2)])) _
    refine st325 _ ?_
    show Steps p.tables e below (T325.setTop (mkF m 18 #[.val (.ref x1), .val (.ref x2), .unset] [(.ref x2)])) _
    refine XS.astoreN X325.here hx rfl (hb hby d40_18) rfl rfl (l' := #[.val (.ref x1), .val (.ref x2), .val (.ref x2)]) rfl ?_
    refine st326 _ ?_
    refine XS.ifNo X326.here hx rfl (hb hby d40_22) rfl ((if0 _ _).trans (feq (hzc : ¬ (zc = (0 : Int32)))).1) ?_
    show Steps p.tables e below (T326.setTop (mkF m 25 #[.val (.ref x1), .val (.ref x2), .val (.ref x2)] [])) _
    refine XS.aloadN X326.here hx rfl (hb hby d40_25) rfl rfl ?_
    refine st327 _ ?_
    show Steps p.tables e below (T327.setTop (mkF m 29 #[.val (.ref x1), .val (.ref x2), .val (.ref x2)] [(.int (0 : Int32))])) _
    refine XS.aloadN X327.here hx rfl (hb hby d40_29) rfl rfl ?_
    refine st328 _ ?_
    refine XS.icmpNo X328.here hx rfl (hb hby d40_33) rfl (teq (rfl : (0 : Int32) = (0 : Int32))).2 ?_
    show Steps p.tables e below (T328.setTop (mkF m 36 #[.val (.ref x1), .val (.ref x2), .val (.ref x2)] [])) _
    refine XS.aloadN X328.here hx rfl (hb hby d40_36) rfl rfl ?_
    refine st329 _ ?_
    show Steps p.tables e below (T329.setTop (mkF m 40 #[.val (.ref x1), .val (.ref x2), .val (.ref x2)] [(.ref t1)])) _
    refine XS.aloadN X329.here hx rfl (hb hby d40_40) rfl rfl ?_
    refine st330 _ ?_
    refine st331 _ ?_
    refine XS.ifNo X331.here hx rfl (hb hby d40_47) rfl ((if0 _ _).trans (feq (by decide : ¬ ((1 : Int32) = (0 : Int32)))).1) ?_
    show Steps p.tables e below (T331.setTop (mkF m 50 #[.val (.ref x1), .val (.ref x2), .val (.ref x2)] [])) _
    refine XS.iconst X331.here hx rfl (hb hby d40_50) ?_
    refine XS.goto X331.here hx rfl (pc0 := 51) (pc' := 55) rfl (hb hby d40_51) (by decide) (by decide) ?_
    exact kt
  obtain ⟨fs, hr, hrun, hended, hW, hsame⟩ := X331.leave (v := some (.int (1 : Int32))) (fun h => by rw [Bd.returns] at h; cases h)
  refine ⟨_, _, (pre0 _ (pre332 _ ?_)), hrun, hended, _, _, rfl, ?_, ⟨_, rfl⟩, hW, hsame.mono (by decide) (by decide)⟩
  · show Steps p.tables e below (T331.setTop (mkF m 55 #[.val (.ref x1), .val (.ref x2), .val (.ref x2)] [(.int (1 : Int32))])) _
    exact retN X331 hx (t := .boolean) Bd.returns (by simp) (hb hby d40_55) hr
  · show QSEq Z x1 x2 t1 t2 k1 k2 nb vb zc h0 n0 _ T331.heap _
    exact ⟨rfl, N331, by rw [EQ331]⟩
theorem ef_ToB (m : MethodId) (x0 : Int32) : entryFrame m #[(.int x0)] 1 = mkF m 0 #[.val (.int x0)] [] := by (first | (simp [entryFrame, mkF, argsToLocals, Value.category]; done) | rfl)
def QToB (Z : State) (p1 : Int32) (h0 : Heap) (n0 : Nat) (v : Option Value) (h : Heap) (L : List Loc) : Prop := ∃ t2, v = some (.ref t2) ∧ Fr n0 L ∧ Ext h0 h ∧ h0.size ≤ t2 ∧ ∃ (k2 : ClassId), Arv Z h t2 k2 .byte (Int32.ofNat 1) [(.int (nar .byte (p1.toInt8.toInt32)))] (.int (0 : Int32))
theorem d3_0 : decode jdk_43_method_46_code 0 = .ok (.iconst 1, 1) := by decide +kernel
theorem d3_1 : decode jdk_43_method_46_code 1 = .ok (.newarray .byte, 2) := by decide +kernel
theorem d3_3 : decode jdk_43_method_46_code 3 = .ok (.dup, 1) := by decide +kernel
theorem d3_4 : decode jdk_43_method_46_code 4 = .ok (.iconst 0, 1) := by decide +kernel
theorem d3_5 : decode jdk_43_method_46_code 5 = .ok (.iload_n 0, 1) := by decide +kernel
theorem d3_6 : decode jdk_43_method_46_code 6 = .ok (.i2b, 1) := by decide +kernel
theorem d3_7 : decode jdk_43_method_46_code 7 = .ok (.bastore, 1) := by decide +kernel
theorem d3_8 : decode jdk_43_method_46_code 8 = .ok (.areturn, 1) := by decide +kernel
set_option maxRecDepth 65536 in
set_option maxHeartbeats 40000000 in
theorem rmToB (l : Launch) (Z : State) (a0 : Array Value) (hw : ∀ d ∈ tables_1, d.before a0 Z = true) (ws : List Jvm.Cond) (p1 : Int32) (h0 : Heap) (n0 : Nat) (Z0 : n0 ≤ h0.size)  :
    MetFree l (⟨"java/lang/StringLatin1", "toBytes", "(C)[B"⟩ : MethodName) (head1 (Jvm.Cond.code (⟨"java/lang/StringLatin1", "toBytes", "(C)[B"⟩ : MethodName) jdk_43_method_46_code 1 (some (.array .byte)) :: ws) ({ frames := 0, cells := 1, slots := 1, locals := 0 } : Room)) (fun a U => a = #[(.int p1)] ∧ Z.Warmed39 U.vm ∧ U.heap = h0) (fun _ _ _ _ _ => True) (fun _ U o U' => ∃ v L, o = .returned v ∧ QToB Z p1 h0 n0 v U'.heap L ∧ FrameEnd U o U' L ({ frames := 0, cells := 1, slots := 1, locals := 0 } : Room).cells ({ frames := 0, cells := 1, slots := 1, locals := 0 } : Room).slots) := by
  refine MetFree.of_bodySF (plainFor_of_name pn_java_lang_StringLatin1) hisR ?_
  intro p e s m args below meth c s₁ Bd hml0 hP hK
  obtain ⟨rfl, hZ, hh⟩ := hP
  have hx := Bd.exec
  have hby := Bd.bytes
  have hml : c.maxLocals = 1 := hml0
  have hown : s.vm.findClass "java/lang/StringLatin1" = some m.cls := findClass_of_methodNamed Bd.named
  have hnm := (name_of_methodNamed Bd.named Bd.method).1
  have X0 : Stand p l e ({ frames := 0, cells := 1, slots := 1, locals := 0 } : Room) s m #[(.int p1)] below meth c s₁ [] 0 0 := Stand.of_body Bd
  have e0 : s₁.heap = h0 := by rw [← hh, Bd.state]; rfl
  have N0 := Fr.nil n0
  have pre0 : ∀ t, Steps p.tables e below (s₁.setTop (mkF m 0 #[.val (.int p1)] [])) t → Steps p.tables e below (s₁.setTop (entryFrame m #[(.int p1)] 1)) t := fun t k => castTop (ef_ToB m p1) k
  obtain ⟨T333, h333, k333, X333, e333, E333, A333, st333⟩ := newP X0 hx hZ (tw hw 3 rfl) e0 (g := (mkF m 1 #[.val (.int p1)] [(.int (1 : Int32))])) rfl (hb hby d3_1) rfl (by decide) (cap := 1) (by decide) (by decide) (by decide) (by decide)
  obtain ⟨b333, g333⟩ : ∃ z, z = h0.size := ⟨_, rfl⟩
  rw [← g333] at A333 st333
  have g_b333 : n0 ≤ b333 := Nat.le_trans Z0 (Nat.le_of_eq g333.symm)
  have sz_b333 : h0.size ≤ b333 := Nat.le_trans (Keep.refl h0 []).1 (Nat.le_of_eq g333.symm)
  have K333 := (Keep.refl h0 []).ext E333
  have V333 : Arv Z h333 b333 k333 .byte (1 : Int32) [(.int (0 : Int32))] (.int (0 : Int32)) := (Arv.new A333 (by decide)).pad (pad_rep [] (.int (0 : Int32)) 1)
  obtain ⟨c334, Ar334, q334, S334, M334, H334, G334⟩ := id V333
  have hin334 : ¬ ((0 : Int32) < 0 ∨ c334.slots.size ≤ ((0 : Int32)).toNatClampNeg) := inb_of S334 ⟨by decide, by decide⟩
  obtain ⟨T335, h335, X335, e335, W335, st335⟩ := stB X333 hx hZ e333 Ar334 (j := (0 : Int32)) hin334 (g := (mkF m 7 #[.val (.int p1)] [(.int (p1.toInt8.toInt32)), (.int (0 : Int32)), (.ref b333), (.ref b333)])) rfl rfl (hb hby d3_7)
  have N335 := Fr.snoc X335 N0 g_b333
  have K335 := K333.wr W335 (Or.inr sz_b333)
  have V335 := Arv.set Ar334 q334 S334 M334 H334 G334 (fits_nar_byte _) W335 0 rfl (Nat.le_of_ble_eq_true rfl)
  have V2 : Arv Z h335 b333 k333 .byte (Int32.ofNat 1) [(.int (nar .byte (p1.toInt8.toInt32)))] (.int (0 : Int32)) := V335
  have pre336 : ∀ t, Steps p.tables e below (T335.setTop (mkF m 8 #[.val (.int p1)] [(.ref b333)])) t → Steps p.tables e below (s₁.setTop (mkF m 0 #[.val (.int p1)] [])) t := by
    intro t kt
    show Steps p.tables e below (s₁.setTop (mkF m 0 #[.val (.int p1)] [])) _
    refine XS.iconst X0.here hx rfl (hb hby d3_0) ?_
    show Steps p.tables e below (s₁.setTop (mkF m 1 #[.val (.int p1)] [(.int (1 : Int32))])) _
    refine st333 _ ?_
    show Steps p.tables e below (T333.setTop (mkF m 3 #[.val (.int p1)] [(.ref b333)])) _
    refine XS.dup X333.here hx rfl (hb hby d3_3) rfl rfl ?_
    refine XS.iconst X333.here hx rfl (hb hby d3_4) ?_
    refine XS.iloadN X333.here hx rfl (hb hby d3_5) rfl ?_
    refine XS.i2b X333.here hx rfl (hb hby d3_6) rfl ?_
    show Steps p.tables e below (T333.setTop (mkF m 7 #[.val (.int p1)] [(.int (p1.toInt8.toInt32)), (.int (0 : Int32)), (.ref b333), (.ref b333)])) _
    refine st335 _ ?_
    exact kt
  obtain ⟨fs, hr, hrun, hended, hW, hsame⟩ := X335.leave (v := some (.ref b333)) (fun h => by rw [Bd.returns] at h; cases h)
  refine ⟨_, _, (pre0 _ (pre336 _ ?_)), hrun, hended, _, _, rfl, ?_, ⟨_, rfl⟩, hW, hsame.mono (by decide) (by decide)⟩
  · show Steps p.tables e below (T335.setTop (mkF m 8 #[.val (.int p1)] [(.ref b333)])) _
    exact retOut X335 hx (t := (.array .byte)) Bd.returns rfl (Or.inr (Or.inr (Or.inr (Or.inr ⟨rfl, rfl, rfl⟩)))) (hb hby d3_8) hr
  · show QToB Z p1 h0 n0 _ T335.heap _
    rw [e335]
    exact ⟨b333, rfl, N335, own_ext K335, sz_b333, k333, V2⟩
theorem ef_VoC (m : MethodId) (x0 : Int32) : entryFrame m #[(.int x0)] 1 = mkF m 0 #[.val (.int x0)] [] := by (first | (simp [entryFrame, mkF, argsToLocals, Value.category]; done) | rfl)
def QVoC (Z : State) (p1 : Int32) (zc : Int32) (h0 : Heap) (n0 : Nat) (v : Option Value) (h : Heap) (L : List Loc) : Prop := ∃ x2, v = some (.ref x2) ∧ Fr n0 L ∧ Ext h0 h ∧ h0.size ≤ x2 ∧ ∃ (t2 : Addr) (k2 : ClassId), (Exa Z h x2 "java/lang/String" ∧ Fld Z h x2 "java/lang/String" "value" "[B" (.ref t2) ∧ Fld Z h x2 "java/lang/String" "coder" "B" (.int (0 : Int32)) ∧ Arv Z h t2 k2 .byte (Int32.ofNat 1) [(.int (nar .byte (p1.toInt8.toInt32)))] (.int (0 : Int32))) ∧ h0.size ≤ t2
theorem d1_0 : decode jdk_42_method_139_code 0 = .ok (.getstatic 38, 3) := by decide +kernel
theorem d1_3 : decode jdk_42_method_139_code 3 = .ok (.ifCond .eq 23, 3) := by decide +kernel
theorem d1_6 : decode jdk_42_method_139_code 6 = .ok (.iload_n 0, 1) := by decide +kernel
theorem d1_7 : decode jdk_42_method_139_code 7 = .ok (.invokestatic 1015, 3) := by decide +kernel
theorem d1_10 : decode jdk_42_method_139_code 10 = .ok (.ifCond .eq 16, 3) := by decide +kernel
theorem d1_13 : decode jdk_42_method_139_code 13 = .ok (.new 10, 3) := by decide +kernel
theorem d1_16 : decode jdk_42_method_139_code 16 = .ok (.dup, 1) := by decide +kernel
theorem d1_17 : decode jdk_42_method_139_code 17 = .ok (.iload_n 0, 1) := by decide +kernel
theorem d1_18 : decode jdk_42_method_139_code 18 = .ok (.invokestatic 1018, 3) := by decide +kernel
theorem pd__C__B : parseMethodDescriptor "(C)[B" = some ⟨[.char], some (.array .byte)⟩ := by decide +kernel
theorem d1_21 : decode jdk_42_method_139_code 21 = .ok (.iconst 0, 1) := by decide +kernel
theorem d1_22 : decode jdk_42_method_139_code 22 = .ok (.invokespecial 209, 3) := by decide +kernel
theorem d1_25 : decode jdk_42_method_139_code 25 = .ok (.areturn, 1) := by decide +kernel
set_option maxRecDepth 65536 in
set_option maxHeartbeats 40000000 in
theorem rmVoC (l : Launch) (Z : State) (a0 : Array Value) (hw : ∀ d ∈ tables_1, d.before a0 Z = true) (ws : List Jvm.Cond) (p1 : Int32) (zc : Int32) (h0 : Heap) (n0 : Nat) (Z0 : n0 ≤ h0.size) (hp : ¬ ((255 : Int32) < p1)) (SC : Sta Z h0 "java/lang/String" "COMPACT_STRINGS" "Z" (.int zc)) (hzc : ¬ zc = (0 : Int32)) :
    MetFree l (⟨"java/lang/String", "valueOf", "(C)Ljava/lang/String;"⟩ : MethodName) (head1 (Jvm.Cond.code (⟨"java/lang/String", "valueOf", "(C)Ljava/lang/String;"⟩ : MethodName) jdk_42_method_139_code 1 (some (.object "java/lang/String")) :: ws) ({ frames := 2, cells := 2, slots := 5, locals := 27 } : Room)) (fun a U => a = #[(.int p1)] ∧ Z.Warmed39 U.vm ∧ U.heap = h0) (fun _ _ _ _ _ => True) (fun _ U o U' => ∃ v L, o = .returned v ∧ QVoC Z p1 zc h0 n0 v U'.heap L ∧ FrameEnd U o U' L ({ frames := 2, cells := 2, slots := 5, locals := 27 } : Room).cells ({ frames := 2, cells := 2, slots := 5, locals := 27 } : Room).slots) := by
  refine MetFree.of_bodySF (plainFor_of_name pn_java_lang_String) hisR ?_
  intro p e s m args below meth c s₁ Bd hml0 hP hK
  obtain ⟨rfl, hZ, hh⟩ := hP
  have hx := Bd.exec
  have hby := Bd.bytes
  have hml : c.maxLocals = 1 := hml0
  have hown : s.vm.findClass "java/lang/String" = some m.cls := findClass_of_methodNamed Bd.named
  have hnm := (name_of_methodNamed Bd.named Bd.method).1
  have X0 : Stand p l e ({ frames := 2, cells := 2, slots := 5, locals := 27 } : Room) s m #[(.int p1)] below meth c s₁ [] 0 0 := Stand.of_body Bd
  have e0 : s₁.heap = h0 := by rw [← hh, Bd.state]; rfl
  have N0 := Fr.nil n0
  have pre0 : ∀ t, Steps p.tables e below (s₁.setTop (mkF m 0 #[.val (.int p1)] [])) t → Steps p.tables e below (s₁.setTop (entryFrame m #[(.int p1)] 1)) t := fun t k => castTop (ef_VoC m p1) k
  obtain ⟨T337, X337, e337, st337⟩ := getS2 X0 hx hZ hown (host := "") (Or.inl (tw hw 14 rfl)) Via.refl e0 SC (g := (mkF m 0 #[.val (.int p1)] [])) rfl (hb hby d1_0)
  obtain ⟨_, _, ⟨T338, L338, k338, n338⟩, -, X338, ⟨Lc338, hQ338, l338, y338, z338⟩, st338⟩ := Jvm.LawKit.callS X337 hx (y := (⟨"java/lang/StringLatin1", "canEncode", "(C)Z"⟩ : MethodName)) hown (mvT hZ (tw hw 15 rfl)) (mvT hZ (tw hw 16 rfl)) (mvT hZ (tw hw 17 rfl)) (mvT hZ (tw hw 18 rfl)) (by decide) (backOf (W := 0) (rmCanE l Z a0 hw [] p1 h0 n0 Z0 hp) hZ (tw hw 18 rfl) (tw hw 17 rfl) (by decide) (by decide)) (g := (mkF m 7 #[.val (.int p1)] [(.int p1)])) rfl (by rw [hml]; rfl) (argsL := [(.int p1)]) (rest := []) (lenOf pd__C_Z rfl) rfl (by show 2 * 0 + _ ≤ _; exact Nat.le_of_eq rfl) (hb hby d1_7) (fun _ _ => ⟨rfl, e337, (by decide : 0 + 0 ≤ _), (by decide : 0 + 0 ≤ _)⟩)
  dsimp only [Pt.U, Pt.locs, Pt.cells, Pt.slots] at X338 l338 y338 z338 st338 hQ338
  subst l338 y338 z338
  obtain ⟨rfl, N338q, EQ338⟩ := hQ338
  have N338 := Fr.app N0 N338q
  have Z338 : n0 ≤ T338.heap.size := by rw [EQ338]; exact Z0
  have K338 := own_keq EQ338 (Keep.refl h0 [])
  obtain ⟨T339, h339, X339, e339, E339, A339, D339, -, st339⟩ := newO X338 hx hZ hown (tw hw 19 rfl) (tw hw 2 rfl) (tw hw 1 rfl) rfl (g := (mkF m 13 #[.val (.int p1)] [])) rfl (hb hby d1_13) (by decide) (by decide)
  obtain ⟨b339, g339⟩ : ∃ z, z = T338.heap.size := ⟨_, rfl⟩
  rw [← g339] at A339 D339 st339
  have g_b339 : n0 ≤ b339 := Nat.le_trans Z338 (Nat.le_of_eq g339.symm)
  have sz_b339 : h0.size ≤ b339 := Nat.le_trans K338.1 (Nat.le_of_eq g339.symm)
  have Z339 := Nat.le_trans Z338 E339.1
  have K339 := K338.ext E339
  have F339_value : Fld Z h339 b339 "java/lang/String" "value" "[B" .null := D339 (Or.inr (tw hw 4 rfl)) (ty := (.array .byte)) (by decide)
  have F339_coder : Fld Z h339 b339 "java/lang/String" "coder" "B" (.int (0 : Int32)) := D339 (Or.inr (tw hw 5 rfl)) (ty := .byte) (by decide)
  obtain ⟨_, _, ⟨T340, L340, k340, n340⟩, -, X340, ⟨Lc340, hQ340, l340, y340, z340⟩, st340⟩ := Jvm.LawKit.callS X339 hx (y := (⟨"java/lang/StringLatin1", "toBytes", "(C)[B"⟩ : MethodName)) hown (mvT hZ (tw hw 20 rfl)) (mvT hZ (tw hw 21 rfl)) (mvT hZ (tw hw 17 rfl)) (mvT hZ (tw hw 22 rfl)) (by decide) (backOf (W := 2) (rmToB l Z a0 hw [] p1 h339 n0 Z339) hZ (tw hw 22 rfl) (tw hw 17 rfl) (by decide) (by decide)) (g := (mkF m 18 #[.val (.int p1)] [(.int p1), (.ref b339), (.ref b339)])) rfl (by rw [hml]; rfl) (argsL := [(.int p1)]) (rest := [(.ref b339), (.ref b339)]) (lenOf pd__C__B rfl) rfl (by show 2 * 0 + _ ≤ _; exact Nat.le_of_eq rfl) (hb hby d1_18) (fun _ _ => ⟨rfl, e339, (by decide : 1 + 1 ≤ _), (by decide : 4 + 1 ≤ _)⟩)
  dsimp only [Pt.U, Pt.locs, Pt.cells, Pt.slots] at X340 l340 y340 z340 st340 hQ340
  subst l340 y340 z340
  obtain ⟨t2, rfl, N340q, EX340, le2, k2, V2⟩ := hQ340
  have N340 := Fr.app N338 N340q
  have sz_t2 : h0.size ≤ t2 := Nat.le_trans K339.1 le2
  have ne_b339_t2 : b339 ≠ t2 := Nat.ne_of_lt (Nat.lt_of_lt_of_le A339.lt le2)
  have Z340 := Nat.le_trans Z339 EX340.1
  have K340 := K339.ext EX340
  have f341 := (A339.ext EX340)
  have f342 := (F339_value.ext EX340)
  have f343 := (F339_coder.ext EX340)
  obtain ⟨_, _, ⟨T344, L344, k344, n344⟩, -, X344, ⟨Lc344, hQ344, l344, y344, z344⟩, st344⟩ := X340.specialBack hx (y := (⟨"java/lang/String", "<init>", "([BB)V"⟩ : MethodName)) rfl hown (mvT hZ (tw hw 23 rfl)) (mvT hZ (tw hw 24 rfl)) (mvT hZ (tw hw 26 rfl)) (by decide) (backOf (W := 1) (rmSBB l Z a0 hw [] b339 t2 T340.heap n0 Z340 f341 f342 f343 g_b339) hZ (tw hw 26 rfl) (tw hw 1 rfl) (by decide) (by decide)) (g := (mkF m 22 #[.val (.int p1)] [(.int (0 : Int32)), (.ref t2), (.ref b339), (.ref b339)])) rfl (by rw [hml]; rfl) (Steps.refl _) (a := b339) (argsL := [(.ref t2), (.int (0 : Int32))]) (rest := [(.ref b339)]) (lenOf pd___BB_V rfl) rfl (by show 2 * 0 + _ ≤ _; exact Nat.le_of_eq rfl) (hb hby d1_22) (fun _ _ => ⟨rfl, rfl, (by decide : 2 + 0 ≤ _), (by decide : 5 + 0 ≤ _)⟩)
  dsimp only [Pt.U, Pt.locs, Pt.cells, Pt.slots] at X344 l344 y344 z344 st344 hQ344
  subst l344 y344 z344
  obtain ⟨rfl, N344q, KC344, E6, F6, G6⟩ := hQ344
  have N344 := Fr.app N340 N344q
  have K344 := K340.trans KC344 (allS (Or.inr sz_b339) all0)
  have f345 := (V2.keep KC344 (ninS (Ne.symm ne_b339_t2) nin0))
  have pre346 : ∀ t, Steps p.tables e below (T344.setTop (mkF m 25 #[.val (.int p1)] [(.ref b339)])) t → Steps p.tables e below (s₁.setTop (mkF m 0 #[.val (.int p1)] [])) t := by
    intro t kt
    refine st337 _ ?_
    refine XS.ifNo X337.here hx rfl (hb hby d1_3) rfl ((if0 _ _).trans (feq (hzc : ¬ (zc = (0 : Int32)))).1) ?_
    show Steps p.tables e below (T337.setTop (mkF m 6 #[.val (.int p1)] [])) _
    refine XS.iloadN X337.here hx rfl (hb hby d1_6) rfl ?_
    refine st338 _ ?_
    refine XS.ifNo X338.here hx rfl (hb hby d1_10) rfl ((if0 _ _).trans (feq (by decide : ¬ ((1 : Int32) = (0 : Int32)))).1) ?_
    show Steps p.tables e below (T338.setTop (mkF m 13 #[.val (.int p1)] [])) _
    refine st339 _ ?_
    show Steps p.tables e below (T339.setTop (mkF m 16 #[.val (.int p1)] [(.ref b339)])) _
    refine XS.dup X339.here hx rfl (hb hby d1_16) rfl rfl ?_
    refine XS.iloadN X339.here hx rfl (hb hby d1_17) rfl ?_
    refine st340 _ ?_
    show Steps p.tables e below (T340.setTop (mkF m 21 #[.val (.int p1)] [(.ref t2), (.ref b339), (.ref b339)])) _
    refine XS.iconst X340.here hx rfl (hb hby d1_21) ?_
    refine st344.trans ?_
    exact kt
  obtain ⟨fs, hr, hrun, hended, hW, hsame⟩ := X344.leave (v := some (.ref b339)) (fun h => by rw [Bd.returns] at h; cases h)
  refine ⟨_, _, (pre0 _ (pre346 _ ?_)), hrun, hended, _, _, rfl, ?_, ⟨_, rfl⟩, hW, hsame.mono (by decide) (by decide)⟩
  · show Steps p.tables e below (T344.setTop (mkF m 25 #[.val (.int p1)] [(.ref b339)])) _
    exact retOut X344 hx (t := (.object "java/lang/String")) Bd.returns rfl (Or.inr (Or.inr (Or.inr (Or.inr ⟨rfl, rfl, rfl⟩)))) (hb hby d1_25) hr
  · show QVoC Z p1 zc h0 n0 _ T344.heap _
    exact ⟨b339, rfl, N344, own_ext K344, sz_b339, t2, k2, ⟨E6, F6, G6, f345⟩, sz_t2⟩
theorem ef_IsL (m : MethodId) (x0 : Addr) : entryFrame m #[(.ref x0)] 1 = mkF m 0 #[.val (.ref x0)] [] := by (first | (simp [entryFrame, mkF, argsToLocals, Value.category]; done) | rfl)
def QIsL (Z : State) (x1 : Addr) (zc : Int32) (h0 : Heap) (n0 : Nat) (v : Option Value) (h : Heap) (L : List Loc) : Prop := v = some (.int (1 : Int32)) ∧ Fr n0 L ∧ h = h0
theorem d45_0 : decode jdk_42_method_154_code 0 = .ok (.getstatic 38, 3) := by decide +kernel
theorem d45_3 : decode jdk_42_method_154_code 3 = .ok (.ifCond .eq 14, 3) := by decide +kernel
theorem d45_6 : decode jdk_42_method_154_code 6 = .ok (.aload_n 0, 1) := by decide +kernel
theorem d45_7 : decode jdk_42_method_154_code 7 = .ok (.getfield 15, 3) := by decide +kernel
theorem d45_10 : decode jdk_42_method_154_code 10 = .ok (.ifCond .ne 7, 3) := by decide +kernel
theorem d45_13 : decode jdk_42_method_154_code 13 = .ok (.iconst 1, 1) := by decide +kernel
theorem d45_14 : decode jdk_42_method_154_code 14 = .ok (.goto 4, 3) := by decide +kernel
theorem d45_18 : decode jdk_42_method_154_code 18 = .ok (.ireturn, 1) := by decide +kernel
set_option maxRecDepth 65536 in
set_option maxHeartbeats 40000000 in
theorem rmIsL (l : Launch) (Z : State) (a0 : Array Value) (hw : ∀ d ∈ tables_1, d.before a0 Z = true) (ws : List Jvm.Cond) (x1 : Addr) (zc : Int32) (h0 : Heap) (n0 : Nat) (Z0 : n0 ≤ h0.size) (SC : Sta Z h0 "java/lang/String" "COMPACT_STRINGS" "Z" (.int zc)) (hzc : ¬ zc = (0 : Int32)) (FC : Fld Z h0 x1 "java/lang/String" "coder" "B" (.int (0 : Int32))) :
    MetFree l (⟨"java/lang/String", "isLatin1", "()Z"⟩ : MethodName) (head1 (Jvm.Cond.code (⟨"java/lang/String", "isLatin1", "()Z"⟩ : MethodName) jdk_42_method_154_code 1 (some .boolean) :: ws) ({ frames := 0, cells := 0, slots := 0, locals := 0 } : Room)) (fun a U => a = #[(.ref x1)] ∧ Z.Warmed39 U.vm ∧ U.heap = h0) (fun _ _ _ _ _ => True) (fun _ U o U' => ∃ v L, o = .returned v ∧ QIsL Z x1 zc h0 n0 v U'.heap L ∧ FrameEnd U o U' L ({ frames := 0, cells := 0, slots := 0, locals := 0 } : Room).cells ({ frames := 0, cells := 0, slots := 0, locals := 0 } : Room).slots) := by
  refine MetFree.of_bodySF (plainFor_of_name pn_java_lang_String) hisR ?_
  intro p e s m args below meth c s₁ Bd hml0 hP hK
  obtain ⟨rfl, hZ, hh⟩ := hP
  have hx := Bd.exec
  have hby := Bd.bytes
  have hml : c.maxLocals = 1 := hml0
  have hown : s.vm.findClass "java/lang/String" = some m.cls := findClass_of_methodNamed Bd.named
  have hnm := (name_of_methodNamed Bd.named Bd.method).1
  have X0 : Stand p l e ({ frames := 0, cells := 0, slots := 0, locals := 0 } : Room) s m #[(.ref x1)] below meth c s₁ [] 0 0 := Stand.of_body Bd
  have e0 : s₁.heap = h0 := by rw [← hh, Bd.state]; rfl
  have N0 := Fr.nil n0
  have pre0 : ∀ t, Steps p.tables e below (s₁.setTop (mkF m 0 #[.val (.ref x1)] [])) t → Steps p.tables e below (s₁.setTop (entryFrame m #[(.ref x1)] 1)) t := fun t k => castTop (ef_IsL m x1) k
  obtain ⟨T347, X347, e347, st347⟩ := getS2 X0 hx hZ hown (host := "") (Or.inl (tw hw 14 rfl)) Via.refl e0 SC (g := (mkF m 0 #[.val (.ref x1)] [])) rfl (hb hby d45_0)
  obtain ⟨T348, X348, e348, st348⟩ := getF X347 hx hZ hown (host := "") (Or.inl (tw hw 31 rfl)) Via.refl e347 FC (g := (mkF m 7 #[.val (.ref x1)] [(.ref x1)])) rfl rfl (hb hby d45_7)
  have pre349 : ∀ t, Steps p.tables e below (T348.setTop (mkF m 18 #[.val (.ref x1)] [(.int (1 : Int32))])) t → Steps p.tables e below (s₁.setTop (mkF m 0 #[.val (.ref x1)] [])) t := by
    intro t kt
    refine st347 _ ?_
    refine XS.ifNo X347.here hx rfl (hb hby d45_3) rfl ((if0 _ _).trans (feq (hzc : ¬ (zc = (0 : Int32)))).1) ?_
    show Steps p.tables e below (T347.setTop (mkF m 6 #[.val (.ref x1)] [])) _
    refine XS.aloadN X347.here hx rfl (hb hby d45_6) rfl rfl ?_
    refine st348 _ ?_
    refine XS.ifNo X348.here hx rfl (hb hby d45_10) rfl ((if0 _ _).trans (teq (rfl : (0 : Int32) = (0 : Int32))).2) ?_
    show Steps p.tables e below (T348.setTop (mkF m 13 #[.val (.ref x1)] [])) _
    refine XS.iconst X348.here hx rfl (hb hby d45_13) ?_
    refine XS.goto X348.here hx rfl (pc0 := 14) (pc' := 18) rfl (hb hby d45_14) (by decide) (by decide) ?_
    exact kt
  obtain ⟨fs, hr, hrun, hended, hW, hsame⟩ := X348.leave (v := some (.int (1 : Int32))) (fun h => by rw [Bd.returns] at h; cases h)
  refine ⟨_, _, (pre0 _ (pre349 _ ?_)), hrun, hended, _, _, rfl, ?_, ⟨_, rfl⟩, hW, hsame.mono (by decide) (by decide)⟩
  · show Steps p.tables e below (T348.setTop (mkF m 18 #[.val (.ref x1)] [(.int (1 : Int32))])) _
    exact retN X348 hx (t := .boolean) Bd.returns (by simp) (hb hby d45_18) hr
  · show QIsL Z x1 zc h0 n0 _ T348.heap _
    rw [e348]
    exact ⟨rfl, N0, rfl⟩
theorem ef_PCk (m : MethodId) (x0 : Int32) (x1 : Int32) (x2 : Value) (hx2 : x2.isRef = true) : entryFrame m #[(.int x0), (.int x1), x2] 3 = mkF m 0 #[.val (.int x0), .val (.int x1), .val x2] [] := by rcases ref_cases hx2 with rfl | ⟨_, rfl⟩ <;> (first | (simp [entryFrame, mkF, argsToLocals, Value.category]; done) | rfl)
def QPCk (Z : State) (i1 : Int32) (i2 : Int32) (fm : Value) (h0 : Heap) (n0 : Nat) (v : Option Value) (h : Heap) (L : List Loc) : Prop := v = some (.int i1) ∧ Fr n0 L ∧ h = h0
theorem pn_jdk_internal_util_Preconditions : plainName "jdk/internal/util/Preconditions" = true := by first | (simp [plainName, overriddenIn]; done) | decide +kernel
theorem d48_0 : decode jdk_41_method_11_code 0 = .ok (.iload_n 0, 1) := by decide +kernel
theorem d48_1 : decode jdk_41_method_11_code 1 = .ok (.ifCond .lt 8, 3) := by decide +kernel
theorem d48_4 : decode jdk_41_method_11_code 4 = .ok (.iload_n 0, 1) := by decide +kernel
theorem d48_5 : decode jdk_41_method_11_code 5 = .ok (.iload_n 1, 1) := by decide +kernel
theorem d48_6 : decode jdk_41_method_11_code 6 = .ok (.if_icmp .lt 10, 3) := by decide +kernel
theorem d48_16 : decode jdk_41_method_11_code 16 = .ok (.iload_n 0, 1) := by decide +kernel
theorem d48_17 : decode jdk_41_method_11_code 17 = .ok (.ireturn, 1) := by decide +kernel
set_option maxRecDepth 65536 in
set_option maxHeartbeats 40000000 in
theorem rmPCk (l : Launch) (Z : State) (a0 : Array Value) (hw : ∀ d ∈ tables_1, d.before a0 Z = true) (ws : List Jvm.Cond) (i1 : Int32) (i2 : Int32) (fm : Value) (h0 : Heap) (n0 : Nat) (Z0 : n0 ≤ h0.size) (rf : fm.isRef = true) (hi0 : ¬ i1 < (0 : Int32)) (hi1 : i1 < i2) :
    MetFree l (⟨"jdk/internal/util/Preconditions", "checkIndex", "(IILjava/util/function/BiFunction;)I"⟩ : MethodName) (head1 (Jvm.Cond.code (⟨"jdk/internal/util/Preconditions", "checkIndex", "(IILjava/util/function/BiFunction;)I"⟩ : MethodName) jdk_41_method_11_code 3 (some .int) :: ws) ({ frames := 0, cells := 0, slots := 0, locals := 0 } : Room)) (fun a U => a = #[(.int i1), (.int i2), fm] ∧ Z.Warmed39 U.vm ∧ U.heap = h0) (fun _ _ _ _ _ => True) (fun _ U o U' => ∃ v L, o = .returned v ∧ QPCk Z i1 i2 fm h0 n0 v U'.heap L ∧ FrameEnd U o U' L ({ frames := 0, cells := 0, slots := 0, locals := 0 } : Room).cells ({ frames := 0, cells := 0, slots := 0, locals := 0 } : Room).slots) := by
  refine MetFree.of_bodySF (plainFor_of_name pn_jdk_internal_util_Preconditions) hisR ?_
  intro p e s m args below meth c s₁ Bd hml0 hP hK
  obtain ⟨rfl, hZ, hh⟩ := hP
  have hx := Bd.exec
  have hby := Bd.bytes
  have hml : c.maxLocals = 3 := hml0
  have hown : s.vm.findClass "jdk/internal/util/Preconditions" = some m.cls := findClass_of_methodNamed Bd.named
  have hnm := (name_of_methodNamed Bd.named Bd.method).1
  have X0 : Stand p l e ({ frames := 0, cells := 0, slots := 0, locals := 0 } : Room) s m #[(.int i1), (.int i2), fm] below meth c s₁ [] 0 0 := Stand.of_body Bd
  have e0 : s₁.heap = h0 := by rw [← hh, Bd.state]; rfl
  have N0 := Fr.nil n0
  have pre0 : ∀ t, Steps p.tables e below (s₁.setTop (mkF m 0 #[.val (.int i1), .val (.int i2), .val fm] [])) t → Steps p.tables e below (s₁.setTop (entryFrame m #[(.int i1), (.int i2), fm] 3)) t := fun t k => castTop (ef_PCk m i1 i2 fm rf) k
  have pre350 : ∀ t, Steps p.tables e below (s₁.setTop (mkF m 17 #[.val (.int i1), .val (.int i2), .val fm] [(.int i1)])) t → Steps p.tables e below (s₁.setTop (mkF m 0 #[.val (.int i1), .val (.int i2), .val fm] [])) t := by
    intro t kt
    show Steps p.tables e below (s₁.setTop (mkF m 0 #[.val (.int i1), .val (.int i2), .val fm] [])) _
    refine XS.iloadN X0.here hx rfl (hb hby d48_0) rfl ?_
    refine XS.ifNo X0.here hx rfl (hb hby d48_1) rfl ((if0 _ _).trans (flt (hi0 : ¬ (i1 < (0 : Int32)))).1) ?_
    show Steps p.tables e below (s₁.setTop (mkF m 4 #[.val (.int i1), .val (.int i2), .val fm] [])) _
    refine XS.iloadN X0.here hx rfl (hb hby d48_4) rfl ?_
    refine XS.iloadN X0.here hx rfl (hb hby d48_5) rfl ?_
    refine XS.icmpYes X0.here hx rfl (pc0 := 6) (pc' := 16) rfl (hb hby d48_6) rfl (tlt (hi1 : i1 < i2)).1 (by decide) (by decide) ?_
    show Steps p.tables e below (s₁.setTop (mkF m 16 #[.val (.int i1), .val (.int i2), .val fm] [])) _
    refine XS.iloadN X0.here hx rfl (hb hby d48_16) rfl ?_
    exact kt
  obtain ⟨fs, hr, hrun, hended, hW, hsame⟩ := X0.leave (v := some (.int i1)) (fun h => by rw [Bd.returns] at h; cases h)
  refine ⟨_, _, (pre0 _ (pre350 _ ?_)), hrun, hended, _, _, rfl, ?_, ⟨_, rfl⟩, hW, hsame.mono (by decide) (by decide)⟩
  · show Steps p.tables e below (s₁.setTop (mkF m 17 #[.val (.int i1), .val (.int i2), .val fm] [(.int i1)])) _
    exact retOut X0 hx (t := .int) Bd.returns rfl (Or.inl ⟨rfl, Or.inl rfl, _, rfl⟩) (hb hby d48_17) hr
  · show QPCk Z i1 i2 fm h0 n0 _ s₁.heap _
    rw [e0]
    exact ⟨rfl, N0, rfl⟩
theorem ef_SCk (m : MethodId) (x0 : Int32) (x1 : Int32) : entryFrame m #[(.int x0), (.int x1)] 2 = mkF m 0 #[.val (.int x0), .val (.int x1)] [] := by (first | (simp [entryFrame, mkF, argsToLocals, Value.category]; done) | rfl)
def QSCk (Z : State) (i1 : Int32) (i2 : Int32) (fm : Value) (h0 : Heap) (n0 : Nat) (v : Option Value) (h : Heap) (L : List Loc) : Prop := v = none ∧ Fr n0 L ∧ h = h0
theorem d47_0 : decode jdk_42_method_155_code 0 = .ok (.iload_n 0, 1) := by decide +kernel
theorem d47_1 : decode jdk_42_method_155_code 1 = .ok (.iload_n 1, 1) := by decide +kernel
theorem d47_2 : decode jdk_42_method_155_code 2 = .ok (.getstatic 1053, 3) := by decide +kernel
theorem d47_5 : decode jdk_42_method_155_code 5 = .ok (.invokestatic 1059, 3) := by decide +kernel
theorem pd__IILjava_util_function_BiFunction__I : parseMethodDescriptor "(IILjava/util/function/BiFunction;)I" = some ⟨[.int, .int, (.object "java/util/function/BiFunction")], some .int⟩ := by decide +kernel
theorem d47_8 : decode jdk_42_method_155_code 8 = .ok (.pop, 1) := by decide +kernel
theorem d47_9 : decode jdk_42_method_155_code 9 = .ok (.return_, 1) := by decide +kernel
set_option maxRecDepth 65536 in
set_option maxHeartbeats 40000000 in
theorem rmSCk (l : Launch) (Z : State) (a0 : Array Value) (hw : ∀ d ∈ tables_1, d.before a0 Z = true) (ws : List Jvm.Cond) (i1 : Int32) (i2 : Int32) (fm : Value) (h0 : Heap) (n0 : Nat) (Z0 : n0 ≤ h0.size) (SFm : Sta Z h0 "jdk/internal/util/Preconditions" "SIOOBE_FORMATTER" "Ljava/util/function/BiFunction;" fm) (rf : fm.isRef = true) (hi0 : ¬ i1 < (0 : Int32)) (hi1 : i1 < i2) :
    MetFree l (⟨"java/lang/String", "checkIndex", "(II)V"⟩ : MethodName) (head1 (Jvm.Cond.code (⟨"java/lang/String", "checkIndex", "(II)V"⟩ : MethodName) jdk_42_method_155_code 2 none :: ws) ({ frames := 1, cells := 0, slots := 0, locals := 14 } : Room)) (fun a U => a = #[(.int i1), (.int i2)] ∧ Z.Warmed39 U.vm ∧ U.heap = h0) (fun _ _ _ _ _ => True) (fun _ U o U' => ∃ v L, o = .returned v ∧ QSCk Z i1 i2 fm h0 n0 v U'.heap L ∧ FrameEnd U o U' L ({ frames := 1, cells := 0, slots := 0, locals := 14 } : Room).cells ({ frames := 1, cells := 0, slots := 0, locals := 14 } : Room).slots) := by
  refine MetFree.of_bodySF (plainFor_of_name pn_java_lang_String) hisR ?_
  intro p e s m args below meth c s₁ Bd hml0 hP hK
  obtain ⟨rfl, hZ, hh⟩ := hP
  have hx := Bd.exec
  have hby := Bd.bytes
  have hml : c.maxLocals = 2 := hml0
  have hown : s.vm.findClass "java/lang/String" = some m.cls := findClass_of_methodNamed Bd.named
  have hnm := (name_of_methodNamed Bd.named Bd.method).1
  have X0 : Stand p l e ({ frames := 1, cells := 0, slots := 0, locals := 14 } : Room) s m #[(.int i1), (.int i2)] below meth c s₁ [] 0 0 := Stand.of_body Bd
  have e0 : s₁.heap = h0 := by rw [← hh, Bd.state]; rfl
  have N0 := Fr.nil n0
  have pre0 : ∀ t, Steps p.tables e below (s₁.setTop (mkF m 0 #[.val (.int i1), .val (.int i2)] [])) t → Steps p.tables e below (s₁.setTop (entryFrame m #[(.int i1), (.int i2)] 2)) t := fun t k => castTop (ef_SCk m i1 i2) k
  obtain ⟨T351, X351, e351, st351⟩ := getS2 X0 hx hZ hown (host := "") (Or.inl (tw hw 247 rfl)) Via.refl e0 SFm (g := (mkF m 2 #[.val (.int i1), .val (.int i2)] [(.int i2), (.int i1)])) rfl (hb hby d47_2)
  obtain ⟨_, _, ⟨T352, L352, k352, n352⟩, -, X352, ⟨Lc352, hQ352, l352, y352, z352⟩, st352⟩ := Jvm.LawKit.callS X351 hx (y := (⟨"jdk/internal/util/Preconditions", "checkIndex", "(IILjava/util/function/BiFunction;)I"⟩ : MethodName)) hown (mvT hZ (tw hw 249 rfl)) (mvT hZ (tw hw 250 rfl)) (mvT hZ (tw hw 248 rfl)) (mvT hZ (tw hw 251 rfl)) (by decide) (backOf (W := 0) (rmPCk l Z a0 hw [] i1 i2 fm h0 n0 Z0 rf hi0 hi1) hZ (tw hw 251 rfl) (tw hw 248 rfl) (by decide) (by decide)) (g := (mkF m 5 #[.val (.int i1), .val (.int i2)] [fm, (.int i2), (.int i1)])) rfl (by rw [hml]; rfl) (argsL := [(.int i1), (.int i2), fm]) (rest := []) (lenOf pd__IILjava_util_function_BiFunction__I rfl) rfl (by show 2 * 0 + _ ≤ _; exact Nat.le_of_eq rfl) (hb hby d47_5) (fun _ _ => ⟨rfl, e351, (by decide : 0 + 0 ≤ _), (by decide : 0 + 0 ≤ _)⟩)
  dsimp only [Pt.U, Pt.locs, Pt.cells, Pt.slots] at X352 l352 y352 z352 st352 hQ352
  subst l352 y352 z352
  obtain ⟨rfl, N352q, EQ352⟩ := hQ352
  have N352 := Fr.app N0 N352q
  have pre353 : ∀ t, Steps p.tables e below (T352.setTop (mkF m 9 #[.val (.int i1), .val (.int i2)] [])) t → Steps p.tables e below (s₁.setTop (mkF m 0 #[.val (.int i1), .val (.int i2)] [])) t := by
    intro t kt
    show Steps p.tables e below (s₁.setTop (mkF m 0 #[.val (.int i1), .val (.int i2)] [])) _
    refine XS.iloadN X0.here hx rfl (hb hby d47_0) rfl ?_
    refine XS.iloadN X0.here hx rfl (hb hby d47_1) rfl ?_
    refine st351 _ ?_
    refine st352 _ ?_
    show Steps p.tables e below (T352.setTop (mkF m 8 #[.val (.int i1), .val (.int i2)] [(.int i1)])) _
    refine XS.pop X352.here hx rfl (hb hby d47_8) rfl rfl ?_
    exact kt
  obtain ⟨fs, hr, hrun, hended, hW, hsame⟩ := X352.leave (v := none) (fun _ => rfl)
  refine ⟨_, _, (pre0 _ (pre353 _ ?_)), hrun, hended, _, _, rfl, ?_, ⟨_, rfl⟩, hW, hsame.mono (by decide) (by decide)⟩
  · show Steps p.tables e below (T352.setTop (mkF m 9 #[.val (.int i1), .val (.int i2)] [])) _
    exact X352.returnOut hx Bd.returns (hb hby d47_9) hr
  · show QSCk Z i1 i2 fm h0 n0 _ T352.heap _
    exact ⟨rfl, N352, by rw [EQ352]⟩
theorem ef_LCh (m : MethodId) (x0 : Addr) (x1 : Int32) : entryFrame m #[(.ref x0), (.int x1)] 2 = mkF m 0 #[.val (.ref x0), .val (.int x1)] [] := by (first | (simp [entryFrame, mkF, argsToLocals, Value.category]; done) | rfl)
def QLCh (Z : State) (t1 : Addr) (kb : ClassId) (nb : Int32) (vb : List Value) (i1 : Int32) (bt : Int32) (fm : Value) (h0 : Heap) (n0 : Nat) (v : Option Value) (h : Heap) (L : List Loc) : Prop := v = some (.int (nar .char ((bt &&& (255 : Int32)).toUInt32.toUInt16.toUInt32.toInt32))) ∧ Fr n0 L ∧ h = h0
theorem d46_0 : decode jdk_43_method_2_code 0 = .ok (.iload_n 1, 1) := by decide +kernel
theorem d46_1 : decode jdk_43_method_2_code 1 = .ok (.aload_n 0, 1) := by decide +kernel
theorem d46_2 : decode jdk_43_method_2_code 2 = .ok (.arraylength, 1) := by decide +kernel
theorem d46_3 : decode jdk_43_method_2_code 3 = .ok (.invokestatic 9, 3) := by decide +kernel
theorem d46_6 : decode jdk_43_method_2_code 6 = .ok (.aload_n 0, 1) := by decide +kernel
theorem d46_7 : decode jdk_43_method_2_code 7 = .ok (.iload_n 1, 1) := by decide +kernel
theorem d46_8 : decode jdk_43_method_2_code 8 = .ok (.baload, 1) := by decide +kernel
theorem d46_9 : decode jdk_43_method_2_code 9 = .ok (.sipush 255, 3) := by decide +kernel
theorem d46_12 : decode jdk_43_method_2_code 12 = .ok (.iand, 1) := by decide +kernel
theorem d46_13 : decode jdk_43_method_2_code 13 = .ok (.i2c, 1) := by decide +kernel
theorem d46_14 : decode jdk_43_method_2_code 14 = .ok (.ireturn, 1) := by decide +kernel
set_option maxRecDepth 65536 in
set_option maxHeartbeats 40000000 in
theorem rmLCh (l : Launch) (Z : State) (a0 : Array Value) (hw : ∀ d ∈ tables_1, d.before a0 Z = true) (ws : List Jvm.Cond) (t1 : Addr) (kb : ClassId) (nb : Int32) (vb : List Value) (i1 : Int32) (bt : Int32) (fm : Value) (h0 : Heap) (n0 : Nat) (Z0 : n0 ≤ h0.size) (SFm : Sta Z h0 "jdk/internal/util/Preconditions" "SIOOBE_FORMATTER" "Ljava/util/function/BiFunction;" fm) (rf : fm.isRef = true) (KA : Arv Z h0 t1 kb .byte nb vb (.int (0 : Int32))) (hi0 : ¬ i1 < (0 : Int32)) (hi1 : i1 < nb) (hbt : vb.getD i1.toNatClampNeg (.int (0 : Int32)) = .int bt) :
    MetFree l (⟨"java/lang/StringLatin1", "charAt", "([BI)C"⟩ : MethodName) (head1 (Jvm.Cond.code (⟨"java/lang/StringLatin1", "charAt", "([BI)C"⟩ : MethodName) jdk_43_method_2_code 2 (some .char) :: ws) ({ frames := 2, cells := 0, slots := 0, locals := 27 } : Room)) (fun a U => a = #[(.ref t1), (.int i1)] ∧ Z.Warmed39 U.vm ∧ U.heap = h0) (fun _ _ _ _ _ => True) (fun _ U o U' => ∃ v L, o = .returned v ∧ QLCh Z t1 kb nb vb i1 bt fm h0 n0 v U'.heap L ∧ FrameEnd U o U' L ({ frames := 2, cells := 0, slots := 0, locals := 27 } : Room).cells ({ frames := 2, cells := 0, slots := 0, locals := 27 } : Room).slots) := by
  refine MetFree.of_bodySF (plainFor_of_name pn_java_lang_StringLatin1) hisR ?_
  intro p e s m args below meth c s₁ Bd hml0 hP hK
  obtain ⟨rfl, hZ, hh⟩ := hP
  have hx := Bd.exec
  have hby := Bd.bytes
  have hml : c.maxLocals = 2 := hml0
  have hown : s.vm.findClass "java/lang/StringLatin1" = some m.cls := findClass_of_methodNamed Bd.named
  have hnm := (name_of_methodNamed Bd.named Bd.method).1
  have X0 : Stand p l e ({ frames := 2, cells := 0, slots := 0, locals := 27 } : Room) s m #[(.ref t1), (.int i1)] below meth c s₁ [] 0 0 := Stand.of_body Bd
  have e0 : s₁.heap = h0 := by rw [← hh, Bd.state]; rfl
  have N0 := Fr.nil n0
  have pre0 : ∀ t, Steps p.tables e below (s₁.setTop (mkF m 0 #[.val (.ref t1), .val (.int i1)] [])) t → Steps p.tables e below (s₁.setTop (entryFrame m #[(.ref t1), (.int i1)] 2)) t := fun t k => castTop (ef_LCh m t1 i1) k
  obtain ⟨c354, Ar354, -, S354, M354, -, -⟩ := id KA
  obtain ⟨_, _, ⟨T355, L355, k355, n355⟩, -, X355, ⟨Lc355, hQ355, l355, y355, z355⟩, st355⟩ := Jvm.LawKit.callS X0 hx (y := (⟨"java/lang/String", "checkIndex", "(II)V"⟩ : MethodName)) hown (mvT hZ (tw hw 244 rfl)) (mvT hZ (tw hw 245 rfl)) (mvT hZ (tw hw 1 rfl)) (mvT hZ (tw hw 246 rfl)) (by decide) (backOf (W := 0) (rmSCk l Z a0 hw [] i1 nb fm h0 n0 Z0 SFm rf hi0 hi1) hZ (tw hw 246 rfl) (tw hw 1 rfl) (by decide) (by decide)) (g := (mkF m 3 #[.val (.ref t1), .val (.int i1)] [(.int nb), (.int i1)])) rfl (by rw [hml]; rfl) (argsL := [(.int i1), (.int nb)]) (rest := []) (lenOf pd__II_V rfl) rfl (by show 2 * 0 + _ ≤ _; exact Nat.le_of_eq rfl) (hb hby d46_3) (fun _ _ => ⟨rfl, e0, (by decide : 0 + 0 ≤ _), (by decide : 0 + 0 ≤ _)⟩)
  dsimp only [Pt.U, Pt.locs, Pt.cells, Pt.slots] at X355 l355 y355 z355 st355 hQ355
  subst l355 y355 z355
  obtain ⟨rfl, N355q, EQ355⟩ := hQ355
  have N355 := Fr.app N0 N355q
  have f356 := (EQ355 ▸ KA)
  obtain ⟨c357, Ar357, q357, S357, M357, H357, G357⟩ := id f356
  have hin357 : ¬ (i1 < 0 ∨ c357.slots.size ≤ (i1).toNatClampNeg) := inb_of S357 ⟨hi0, hi1⟩
  have hat357 : c357.slots[(i1).toNatClampNeg]? = some (.int bt) := (H357 _ (Nat.lt_of_not_le fun y => hin357 (Or.inr y))).trans (congrArg some hbt)
  have pre358 : ∀ t, Steps p.tables e below (T355.setTop (mkF m 14 #[.val (.ref t1), .val (.int i1)] [(.int ((bt &&& (255 : Int32)).toUInt32.toUInt16.toUInt32.toInt32))])) t → Steps p.tables e below (s₁.setTop (mkF m 0 #[.val (.ref t1), .val (.int i1)] [])) t := by
    intro t kt
    show Steps p.tables e below (s₁.setTop (mkF m 0 #[.val (.ref t1), .val (.int i1)] [])) _
    refine XS.iloadN X0.here hx rfl (hb hby d46_0) rfl ?_
    refine XS.aloadN X0.here hx rfl (hb hby d46_1) rfl rfl ?_
    refine X0.arraylength hx (by rw [e0]; exact Ar354.1) (State.isArrayOf_alike hZ.alike Ar354.2.1) (g := (mkF m 2 #[.val (.ref t1), .val (.int i1)] [(.ref t1), (.int i1)])) rfl rfl (hb hby d46_2) _ ?_
    rw [len_of S354 M354]
    refine st355 _ ?_
    show Steps p.tables e below (T355.setTop (mkF m 6 #[.val (.ref t1), .val (.int i1)] [])) _
    refine XS.aloadN X355.here hx rfl (hb hby d46_6) rfl rfl ?_
    refine XS.iloadN X355.here hx rfl (hb hby d46_7) rfl ?_
    show Steps p.tables e below (T355.setTop (mkF m 8 #[.val (.ref t1), .val (.int i1)] [(.int i1), (.ref t1)])) _
    refine X355.baloadBytes hx (j := i1) (v := (.int bt)) Ar357.1 (State.isArrayOf_alike hZ.alike Ar357.2.1) Ar357.2.2 hin357 hat357 (g := (mkF m 8 #[.val (.ref t1), .val (.int i1)] [(.int i1), (.ref t1)])) rfl rfl (hb hby d46_8) _ ?_
    show Steps p.tables e below (T355.setTop (mkF m 9 #[.val (.ref t1), .val (.int i1)] [(.int bt)])) _
    refine XS.sipush X355.here hx rfl (hb hby d46_9) ?_
    refine XS.iand X355.here hx rfl (hb hby d46_12) rfl ?_
    refine XS.i2c X355.here hx rfl (hb hby d46_13) rfl ?_
    exact kt
  obtain ⟨fs, hr, hrun, hended, hW, hsame⟩ := X355.leave (v := some (.int (nar .char ((bt &&& (255 : Int32)).toUInt32.toUInt16.toUInt32.toInt32)))) (fun h => by rw [Bd.returns] at h; cases h)
  refine ⟨_, _, (pre0 _ (pre358 _ ?_)), hrun, hended, _, _, rfl, ?_, ⟨_, rfl⟩, hW, hsame.mono (by decide) (by decide)⟩
  · show Steps p.tables e below (T355.setTop (mkF m 14 #[.val (.ref t1), .val (.int i1)] [(.int ((bt &&& (255 : Int32)).toUInt32.toUInt16.toUInt32.toInt32))])) _
    exact retN X355 hx (t := .char) Bd.returns (by simp) (hb hby d46_14) hr
  · show QLCh Z t1 kb nb vb i1 bt fm h0 n0 _ T355.heap _
    exact ⟨rfl, N355, by rw [EQ355]⟩
theorem ef_ChA (m : MethodId) (x0 : Addr) (x1 : Int32) : entryFrame m #[(.ref x0), (.int x1)] 2 = mkF m 0 #[.val (.ref x0), .val (.int x1)] [] := by (first | (simp [entryFrame, mkF, argsToLocals, Value.category]; done) | rfl)
def QChA (Z : State) (x1 : Addr) (t1 : Addr) (kb : ClassId) (nb : Int32) (vb : List Value) (i1 : Int32) (bt : Int32) (zc : Int32) (fm : Value) (h0 : Heap) (n0 : Nat) (v : Option Value) (h : Heap) (L : List Loc) : Prop := v = some (.int (nar .char (nar .char ((bt &&& (255 : Int32)).toUInt32.toUInt16.toUInt32.toInt32)))) ∧ Fr n0 L ∧ h = h0
theorem d44_0 : decode jdk_42_method_56_code 0 = .ok (.aload_n 0, 1) := by decide +kernel
theorem d44_1 : decode jdk_42_method_56_code 1 = .ok (.invokevirtual 492, 3) := by decide +kernel
theorem d44_4 : decode jdk_42_method_56_code 4 = .ok (.ifCond .eq 12, 3) := by decide +kernel
theorem d44_7 : decode jdk_42_method_56_code 7 = .ok (.aload_n 0, 1) := by decide +kernel
theorem d44_8 : decode jdk_42_method_56_code 8 = .ok (.getfield 9, 3) := by decide +kernel
theorem d44_11 : decode jdk_42_method_56_code 11 = .ok (.iload_n 1, 1) := by decide +kernel
theorem d44_12 : decode jdk_42_method_56_code 12 = .ok (.invokestatic 495, 3) := by decide +kernel
theorem pd___BI_C : parseMethodDescriptor "([BI)C" = some ⟨[(.array .byte), .int], some .char⟩ := by decide +kernel
theorem d44_15 : decode jdk_42_method_56_code 15 = .ok (.ireturn, 1) := by decide +kernel
set_option maxRecDepth 65536 in
set_option maxHeartbeats 40000000 in
theorem rmChA (l : Launch) (Z : State) (a0 : Array Value) (hw : ∀ d ∈ tables_1, d.before a0 Z = true) (ws : List Jvm.Cond) (x1 : Addr) (t1 : Addr) (kb : ClassId) (nb : Int32) (vb : List Value) (i1 : Int32) (bt : Int32) (zc : Int32) (fm : Value) (h0 : Heap) (n0 : Nat) (Z0 : n0 ≤ h0.size) (SC : Sta Z h0 "java/lang/String" "COMPACT_STRINGS" "Z" (.int zc)) (hzc : ¬ zc = (0 : Int32)) (SFm : Sta Z h0 "jdk/internal/util/Preconditions" "SIOOBE_FORMATTER" "Ljava/util/function/BiFunction;" fm) (rf : fm.isRef = true) (FC : Fld Z h0 x1 "java/lang/String" "coder" "B" (.int (0 : Int32))) (FV : Fld Z h0 x1 "java/lang/String" "value" "[B" (.ref t1)) (EX : Exa Z h0 x1 "java/lang/String") (KA : Arv Z h0 t1 kb .byte nb vb (.int (0 : Int32))) (hi0 : ¬ i1 < (0 : Int32)) (hi1 : i1 < nb) (hbt : vb.getD i1.toNatClampNeg (.int (0 : Int32)) = .int bt) :
    MetFree l (⟨"java/lang/String", "charAt", "(I)C"⟩ : MethodName) (head1 (Jvm.Cond.code (⟨"java/lang/String", "charAt", "(I)C"⟩ : MethodName) jdk_42_method_56_code 2 (some .char) :: ws) ({ frames := 3, cells := 0, slots := 0, locals := 40 } : Room)) (fun a U => a = #[(.ref x1), (.int i1)] ∧ Z.Warmed39 U.vm ∧ U.heap = h0) (fun _ _ _ _ _ => True) (fun _ U o U' => ∃ v L, o = .returned v ∧ QChA Z x1 t1 kb nb vb i1 bt zc fm h0 n0 v U'.heap L ∧ FrameEnd U o U' L ({ frames := 3, cells := 0, slots := 0, locals := 40 } : Room).cells ({ frames := 3, cells := 0, slots := 0, locals := 40 } : Room).slots) := by
  refine MetFree.of_bodySF (plainFor_of_name pn_java_lang_String) hisR ?_
  intro p e s m args below meth c s₁ Bd hml0 hP hK
  obtain ⟨rfl, hZ, hh⟩ := hP
  have hx := Bd.exec
  have hby := Bd.bytes
  have hml : c.maxLocals = 2 := hml0
  have hown : s.vm.findClass "java/lang/String" = some m.cls := findClass_of_methodNamed Bd.named
  have hnm := (name_of_methodNamed Bd.named Bd.method).1
  have X0 : Stand p l e ({ frames := 3, cells := 0, slots := 0, locals := 40 } : Room) s m #[(.ref x1), (.int i1)] below meth c s₁ [] 0 0 := Stand.of_body Bd
  have e0 : s₁.heap = h0 := by rw [← hh, Bd.state]; rfl
  have N0 := Fr.nil n0
  have pre0 : ∀ t, Steps p.tables e below (s₁.setTop (mkF m 0 #[.val (.ref x1), .val (.int i1)] [])) t → Steps p.tables e below (s₁.setTop (entryFrame m #[(.ref x1), (.int i1)] 2)) t := fun t k => castTop (ef_ChA m x1 i1) k
  obtain ⟨cq359, kq359, q359a, q359b, q359c⟩ := isOf hZ e0 EX
  obtain ⟨_, _, ⟨T359, L359, k359, n359⟩, -, X359, ⟨Lc359, hQ359, l359, y359, z359⟩, st359⟩ := X0.virtualBack hx (y := (⟨"java/lang/String", "isLatin1", "()Z"⟩ : MethodName)) (z := (⟨"java/lang/String", "isLatin1", "()Z"⟩ : MethodName)) hown (mvT hZ (tw hw 236 rfl)) (mvT hZ (tw hw 237 rfl)) (notFace_of_selects (args := #[]) (mvT hZ (tw hw 239 rfl))) (mvT hZ (tw hw 239 rfl)) (mvT hZ (tw hw 238 rfl)) (by decide) (backOf (W := 0) (rmIsL l Z a0 hw [] x1 zc h0 n0 Z0 SC hzc FC) hZ (tw hw 240 rfl) (tw hw 1 rfl) (by decide) (by decide)) q359a q359c (g := (mkF m 1 #[.val (.ref x1), .val (.int i1)] [(.ref x1)])) rfl (by rw [hml]; rfl) (Steps.refl _) (argsL := []) (rest := []) (lenOf pd___Z rfl) rfl (by show 2 * 0 + _ ≤ _; exact Nat.le_of_eq rfl) (hb hby d44_1) (fun _ _ => ⟨rfl, e0, (by decide : 0 + 0 ≤ _), (by decide : 0 + 0 ≤ _)⟩)
  dsimp only [Pt.U, Pt.locs, Pt.cells, Pt.slots] at X359 l359 y359 z359 st359 hQ359
  subst l359 y359 z359
  obtain ⟨rfl, N359q, EQ359⟩ := hQ359
  have N359 := Fr.app N0 N359q
  have Z359 : n0 ≤ T359.heap.size := by rw [EQ359]; exact Z0
  have f360 := (EQ359 ▸ FV)
  obtain ⟨T361, X361, e361, st361⟩ := getF X359 hx hZ hown (host := "") (Or.inl (tw hw 30 rfl)) Via.refl rfl f360 (g := (mkF m 8 #[.val (.ref x1), .val (.int i1)] [(.ref x1)])) rfl rfl (hb hby d44_8)
  have f362 := (EQ359 ▸ SFm)
  have f363 := (EQ359 ▸ KA)
  obtain ⟨_, _, ⟨T364, L364, k364, n364⟩, -, X364, ⟨Lc364, hQ364, l364, y364, z364⟩, st364⟩ := Jvm.LawKit.callS X361 hx (y := (⟨"java/lang/StringLatin1", "charAt", "([BI)C"⟩ : MethodName)) hown (mvT hZ (tw hw 241 rfl)) (mvT hZ (tw hw 242 rfl)) (mvT hZ (tw hw 17 rfl)) (mvT hZ (tw hw 243 rfl)) (by decide) (backOf (W := 0) (rmLCh l Z a0 hw [] t1 kb nb vb i1 bt fm T359.heap n0 Z359 f362 rf f363 hi0 hi1 hbt) hZ (tw hw 243 rfl) (tw hw 17 rfl) (by decide) (by decide)) (g := (mkF m 12 #[.val (.ref x1), .val (.int i1)] [(.int i1), (.ref t1)])) rfl (by rw [hml]; rfl) (argsL := [(.ref t1), (.int i1)]) (rest := []) (lenOf pd___BI_C rfl) rfl (by show 2 * 0 + _ ≤ _; exact Nat.le_of_eq rfl) (hb hby d44_12) (fun _ _ => ⟨rfl, e361, (by decide : 0 + 0 ≤ _), (by decide : 0 + 0 ≤ _)⟩)
  dsimp only [Pt.U, Pt.locs, Pt.cells, Pt.slots] at X364 l364 y364 z364 st364 hQ364
  subst l364 y364 z364
  obtain ⟨rfl, N364q, EQ364⟩ := hQ364
  have N364 := Fr.app N359 N364q
  have pre365 : ∀ t, Steps p.tables e below (T364.setTop (mkF m 15 #[.val (.ref x1), .val (.int i1)] [(.int (nar .char ((bt &&& (255 : Int32)).toUInt32.toUInt16.toUInt32.toInt32)))])) t → Steps p.tables e below (s₁.setTop (mkF m 0 #[.val (.ref x1), .val (.int i1)] [])) t := by
    intro t kt
    show Steps p.tables e below (s₁.setTop (mkF m 0 #[.val (.ref x1), .val (.int i1)] [])) _
    refine XS.aloadN X0.here hx rfl (hb hby d44_0) rfl rfl ?_
    refine st359.trans ?_
    refine XS.ifNo X359.here hx rfl (hb hby d44_4) rfl ((if0 _ _).trans (feq (by decide : ¬ ((1 : Int32) = (0 : Int32)))).1) ?_
    show Steps p.tables e below (T359.setTop (mkF m 7 #[.val (.ref x1), .val (.int i1)] [])) _
    refine XS.aloadN X359.here hx rfl (hb hby d44_7) rfl rfl ?_
    refine st361 _ ?_
    show Steps p.tables e below (T361.setTop (mkF m 11 #[.val (.ref x1), .val (.int i1)] [(.ref t1)])) _
    refine XS.iloadN X361.here hx rfl (hb hby d44_11) rfl ?_
    refine st364 _ ?_
    exact kt
  obtain ⟨fs, hr, hrun, hended, hW, hsame⟩ := X364.leave (v := some (.int (nar .char (nar .char ((bt &&& (255 : Int32)).toUInt32.toUInt16.toUInt32.toInt32))))) (fun h => by rw [Bd.returns] at h; cases h)
  refine ⟨_, _, (pre0 _ (pre365 _ ?_)), hrun, hended, _, _, rfl, ?_, ⟨_, rfl⟩, hW, hsame.mono (by decide) (by decide)⟩
  · show Steps p.tables e below (T364.setTop (mkF m 15 #[.val (.ref x1), .val (.int i1)] [(.int (nar .char ((bt &&& (255 : Int32)).toUInt32.toUInt16.toUInt32.toInt32)))])) _
    exact retN X364 hx (t := .char) Bd.returns (by simp) (hb hby d44_15) hr
  · show QChA Z x1 t1 kb nb vb i1 bt zc fm h0 n0 _ T364.heap _
    exact ⟨rfl, N364, by rw [EQ364, EQ359]⟩
theorem own_dep (p : Int32) : ∃ dn : Nat, ((p &&& (2147483647 : Int32)) % (5 : Int32)) = Int32.ofNat dn ∧ dn ≤ 4 := by
  have h1 := c_mask p 2147483647 31 (by decide) (by decide)
  have h2 := (c_irem (p &&& 2147483647) 5 5 (by decide)).1 (by rw [h1]; omega)
  have a2 := Int.emod_nonneg (p &&& 2147483647).toInt (b := 5) (by omega)
  have a3 := Int.emod_lt_of_pos (p &&& 2147483647).toInt (b := 5) (by omega)
  refine ⟨((p &&& 2147483647) % 5).toInt.toNat, Int32.toInt_inj.mp ?_, by omega⟩
  rw [own_n (by omega)]; omega
theorem own_ch (p : Int32) : ∃ cv : Int32, ((p &&& (255 : Int32)).toUInt32.toUInt16.toUInt32.toInt32) = cv ∧ ¬ ((255 : Int32) < cv) ∧ (nar .char (nar .char (((nar .byte (cv.toInt8.toInt32)) &&& (255 : Int32)).toUInt32.toUInt16.toUInt32.toInt32))) = cv := by
  refine ⟨_, rfl, ?_⟩
  have h1 := c_mask p 255 8 (by decide) (by decide)
  have h2 := c_i2c (p &&& 255)
  generalize (p &&& 255).toUInt32.toUInt16.toUInt32.toInt32 = cv at *
  have e255 : (255 : Int32).toInt = 255 := by decide
  refine ⟨by rw [Int32.lt_iff_toInt_lt, e255]; omega, Int32.toInt_inj.mp ?_⟩
  simp only [nar]
  have b1 := c_i2b cv
  have b2 := c_i2b cv.toInt8.toInt32
  generalize cv.toInt8.toInt32 = y at *
  generalize y.toInt8.toInt32 = z at *
  have m1 := c_mask z 255 8 (by decide) (by decide)
  generalize (z &&& 255) = u at *
  have q1 := c_i2c u
  generalize u.toUInt32.toUInt16.toUInt32.toInt32 = u1 at *
  have q2 := c_i2c u1
  generalize u1.toUInt32.toUInt16.toUInt32.toInt32 = u2 at *
  have q3 := c_i2c u2
  omega
theorem own_getB {A : List Value} {ct m i : Nat} {a b e d : Value} (hA : A.length = ct) : (A ++ List.replicate m a ++ [b] ++ [e]).getD (ct + m) d = b ∧ (A ++ List.replicate m a ++ [b] ++ [e]).getD (ct + m + 1) d = e ∧ (i < m → (A ++ List.replicate m a ++ [b] ++ [e]).getD (ct + i) d = a) := by
  simp only [List.getD_eq_getElem?_getD]
  refine ⟨?_, ?_, fun hi => ?_⟩
  · rw [List.getElem?_append_left (by simp; omega), List.getElem?_append_right (by simp; omega)]
    have : ct + m - (A ++ List.replicate m a).length = 0 := by simp; omega
    rw [this]; rfl
  · rw [List.getElem?_append_right (by simp; omega)]
    have : ct + m + 1 - (A ++ List.replicate m a ++ [b]).length = 0 := by simp; omega
    rw [this]; rfl
  · rw [List.getElem?_append_left (by simp; omega), List.getElem?_append_left (by simp; omega), List.getElem?_append_right (by omega), List.getElem?_replicate]
    simp [hA, hi]
theorem ef_At (m : MethodId) (x0 : Addr) (x1 : Int32) (x2 : Int32) (x3 : Int32) (x4 : Int32) : entryFrame m #[(.ref x0), (.int x1), (.int x2), (.int x3), (.int x4)] 6 = mkF m 0 #[.val (.ref x0), .val (.int x1), .val (.int x2), .val (.int x3), .val (.int x4), .unset] [] := by (first | (simp [entryFrame, mkF, argsToLocals, Value.category]; done) | rfl)
def QAt (Z : State) (x1 : Addr) (t1 : Addr) (kb : ClassId) (vb : List Value) (bs : Nat) (i : Nat) (dn : Nat) (ch : Int32) (cb : Int32) (zc : Int32) (fm : Value) (h0 : Heap) (n0 : Nat) (v : Option Value) (h : Heap) (L : List Loc) : Prop := v = some (.int (1 : Int32)) ∧ Fr n0 L ∧ h = h0
theorem pn_com_example_orbweaver_orbweaver_mapping_JavaSourceDeeperPinLaw : plainName "com/example/orbweaver/orbweaver/mapping/JavaSourceDeeperPinLaw" = true := by first | (simp [plainName, overriddenIn]; done) | decide +kernel
theorem d43_0 : decode method_2_code 0 = .ok (.iload_n 2, 1) := by decide +kernel
theorem d43_1 : decode method_2_code 1 = .ok (.iconst 4, 1) := by decide +kernel
theorem d43_2 : decode method_2_code 2 = .ok (.iload_n 3, 1) := by decide +kernel
theorem d43_3 : decode method_2_code 3 = .ok (.imul, 1) := by decide +kernel
theorem d43_4 : decode method_2_code 4 = .ok (.iconst 2, 1) := by decide +kernel
theorem d43_5 : decode method_2_code 5 = .ok (.iadd, 1) := by decide +kernel
theorem d43_6 : decode method_2_code 6 = .ok (.if_icmp .lt 5, 3) := by decide +kernel
theorem d43_9 : decode method_2_code 9 = .ok (.iconst 1, 1) := by decide +kernel
theorem d43_10 : decode method_2_code 10 = .ok (.ireturn, 1) := by decide +kernel
theorem d43_11 : decode method_2_code 11 = .ok (.iload_n 2, 1) := by decide +kernel
theorem d43_12 : decode method_2_code 12 = .ok (.iconst 4, 1) := by decide +kernel
theorem d43_13 : decode method_2_code 13 = .ok (.iload_n 3, 1) := by decide +kernel
theorem d43_14 : decode method_2_code 14 = .ok (.imul, 1) := by decide +kernel
theorem d43_15 : decode method_2_code 15 = .ok (.if_icmp .ge 8, 3) := by decide +kernel
theorem d43_18 : decode method_2_code 18 = .ok (.bipush 32, 2) := by decide +kernel
theorem d43_20 : decode method_2_code 20 = .ok (.goto 17, 3) := by decide +kernel
theorem d43_37 : decode method_2_code 37 = .ok (.istore 5, 2) := by decide +kernel
theorem d43_39 : decode method_2_code 39 = .ok (.aload_n 0, 1) := by decide +kernel
theorem d43_40 : decode method_2_code 40 = .ok (.iload_n 1, 1) := by decide +kernel
theorem d43_41 : decode method_2_code 41 = .ok (.iload_n 2, 1) := by decide +kernel
theorem d43_42 : decode method_2_code 42 = .ok (.iadd, 1) := by decide +kernel
theorem d43_43 : decode method_2_code 43 = .ok (.invokevirtual 7, 3) := by decide +kernel
theorem pd__I_C : parseMethodDescriptor "(I)C" = some ⟨[.int], some .char⟩ := by decide +kernel
theorem d43_46 : decode method_2_code 46 = .ok (.iload 5, 2) := by decide +kernel
theorem d43_48 : decode method_2_code 48 = .ok (.if_icmp .ne 7, 3) := by decide +kernel
theorem d43_51 : decode method_2_code 51 = .ok (.iconst 1, 1) := by decide +kernel
theorem d43_52 : decode method_2_code 52 = .ok (.goto 4, 3) := by decide +kernel
theorem d43_56 : decode method_2_code 56 = .ok (.ireturn, 1) := by decide +kernel
theorem d43_23 : decode method_2_code 23 = .ok (.iload_n 2, 1) := by decide +kernel
theorem d43_24 : decode method_2_code 24 = .ok (.iconst 4, 1) := by decide +kernel
theorem d43_25 : decode method_2_code 25 = .ok (.iload_n 3, 1) := by decide +kernel
theorem d43_26 : decode method_2_code 26 = .ok (.imul, 1) := by decide +kernel
theorem d43_27 : decode method_2_code 27 = .ok (.if_icmp .ne 8, 3) := by decide +kernel
theorem d43_30 : decode method_2_code 30 = .ok (.iload 4, 2) := by decide +kernel
theorem d43_32 : decode method_2_code 32 = .ok (.goto 5, 3) := by decide +kernel
theorem d43_35 : decode method_2_code 35 = .ok (.bipush 10, 2) := by decide +kernel
set_option maxRecDepth 65536 in
set_option maxHeartbeats 40000000 in
theorem rmAt (l : Launch) (Z : State) (a0 : Array Value) (hw : ∀ d ∈ tables_1, d.before a0 Z = true) (ws : List Jvm.Cond) (x1 : Addr) (t1 : Addr) (kb : ClassId) (vb : List Value) (bs : Nat) (i : Nat) (dn : Nat) (ch : Int32) (cb : Int32) (zc : Int32) (fm : Value) (h0 : Heap) (n0 : Nat) (Z0 : n0 ≤ h0.size) (SC : Sta Z h0 "java/lang/String" "COMPACT_STRINGS" "Z" (.int zc)) (hzc : ¬ zc = (0 : Int32)) (SFm : Sta Z h0 "jdk/internal/util/Preconditions" "SIOOBE_FORMATTER" "Ljava/util/function/BiFunction;" fm) (rf : fm.isRef = true) (FC : Fld Z h0 x1 "java/lang/String" "coder" "B" (.int (0 : Int32))) (FV : Fld Z h0 x1 "java/lang/String" "value" "[B" (.ref t1)) (EX : Exa Z h0 x1 "java/lang/String") (KA : Arv Z h0 t1 kb .byte (Int32.ofNat (bs + 4 * dn + 2)) vb (.int (0 : Int32))) (hsp : ∀ j, j < 4 * dn → vb.getD (bs + j) (.int (0 : Int32)) = .int (32 : Int32)) (hcb : vb.getD (bs + 4 * dn) (.int (0 : Int32)) = .int cb) (hnl : vb.getD (bs + 4 * dn + 1) (.int (0 : Int32)) = .int (nar .byte ((10 : Int32).toInt8.toInt32))) (hch : (nar .char (nar .char ((cb &&& (255 : Int32)).toUInt32.toUInt16.toUInt32.toInt32))) = ch) (hbs : bs ≤ 1000) (hdn : dn ≤ 4) (hi : i ≤ 100) :
    MetFree l (⟨"com/example/orbweaver/orbweaver/mapping/JavaSourceDeeperPinLaw", "at", "(Ljava/lang/String;IIIC)Z"⟩ : MethodName) (head1 (Jvm.Cond.code (⟨"com/example/orbweaver/orbweaver/mapping/JavaSourceDeeperPinLaw", "at", "(Ljava/lang/String;IIIC)Z"⟩ : MethodName) method_2_code 6 (some .boolean) :: ws) ({ frames := 4, cells := 0, slots := 0, locals := 60 } : Room)) (fun a U => a = #[(.ref x1), (.int (Int32.ofNat bs)), (.int (Int32.ofNat i)), (.int (Int32.ofNat dn)), (.int ch)] ∧ Z.Warmed39 U.vm ∧ U.heap = h0) (fun _ _ _ _ _ => True) (fun _ U o U' => ∃ v L, o = .returned v ∧ QAt Z x1 t1 kb vb bs i dn ch cb zc fm h0 n0 v U'.heap L ∧ FrameEnd U o U' L ({ frames := 4, cells := 0, slots := 0, locals := 60 } : Room).cells ({ frames := 4, cells := 0, slots := 0, locals := 60 } : Room).slots) := by
  refine MetFree.of_bodySF (plainFor_of_name pn_com_example_orbweaver_orbweaver_mapping_JavaSourceDeeperPinLaw) hisR ?_
  intro p e s m args below meth c s₁ Bd hml0 hP hK
  obtain ⟨rfl, hZ, hh⟩ := hP
  have hx := Bd.exec
  have hby := Bd.bytes
  have hml : c.maxLocals = 6 := hml0
  have hown : s.vm.findClass "com/example/orbweaver/orbweaver/mapping/JavaSourceDeeperPinLaw" = some m.cls := findClass_of_methodNamed Bd.named
  have hnm := (name_of_methodNamed Bd.named Bd.method).1
  have X0 : Stand p l e ({ frames := 4, cells := 0, slots := 0, locals := 60 } : Room) s m #[(.ref x1), (.int (Int32.ofNat bs)), (.int (Int32.ofNat i)), (.int (Int32.ofNat dn)), (.int ch)] below meth c s₁ [] 0 0 := Stand.of_body Bd
  have e0 : s₁.heap = h0 := by rw [← hh, Bd.state]; rfl
  have N0 := Fr.nil n0
  have pre0 : ∀ t, Steps p.tables e below (s₁.setTop (mkF m 0 #[.val (.ref x1), .val (.int (Int32.ofNat bs)), .val (.int (Int32.ofNat i)), .val (.int (Int32.ofNat dn)), .val (.int ch), .unset] [])) t → Steps p.tables e below (s₁.setTop (entryFrame m #[(.ref x1), (.int (Int32.ofNat bs)), (.int (Int32.ofNat i)), (.int (Int32.ofNat dn)), (.int ch)] 6)) t := fun t k => castTop (ef_At m x1 (Int32.ofNat bs) (Int32.ofNat i) (Int32.ofNat dn) ch) k
  have pre366 : ∀ t, Steps p.tables e below (s₁.setTop (mkF m 6 #[.val (.ref x1), .val (.int (Int32.ofNat bs)), .val (.int (Int32.ofNat i)), .val (.int (Int32.ofNat dn)), .val (.int ch), .unset] [(.int (Int32.ofNat (4 * dn + 2))), (.int (Int32.ofNat i))])) t → Steps p.tables e below (s₁.setTop (mkF m 0 #[.val (.ref x1), .val (.int (Int32.ofNat bs)), .val (.int (Int32.ofNat i)), .val (.int (Int32.ofNat dn)), .val (.int ch), .unset] [])) t := by
    intro t kt
    show Steps p.tables e below (s₁.setTop (mkF m 0 #[.val (.ref x1), .val (.int (Int32.ofNat bs)), .val (.int (Int32.ofNat i)), .val (.int (Int32.ofNat dn)), .val (.int ch), .unset] [])) _
    refine XS.iloadN X0.here hx rfl (hb hby d43_0) rfl ?_
    refine XS.iconst X0.here hx rfl (hb hby d43_1) ?_
    refine XS.iloadN X0.here hx rfl (hb hby d43_2) rfl ?_
    refine XS.imul X0.here hx rfl (hb hby d43_3) rfl ?_
    show Steps p.tables e below (s₁.setTop (mkF m 4 #[.val (.ref x1), .val (.int (Int32.ofNat bs)), .val (.int (Int32.ofNat i)), .val (.int (Int32.ofNat dn)), .val (.int ch), .unset] [(.int ((4 : Int32) * (Int32.ofNat dn))), (.int (Int32.ofNat i))])) _
    rw [show ((4 : Int32) * (Int32.ofNat dn)) = Int32.ofNat (4 * dn) from (Int32.ofNat_mul 4 dn).symm]
    show Steps p.tables e below (s₁.setTop (mkF m 4 #[.val (.ref x1), .val (.int (Int32.ofNat bs)), .val (.int (Int32.ofNat i)), .val (.int (Int32.ofNat dn)), .val (.int ch), .unset] [(.int (Int32.ofNat (4 * dn))), (.int (Int32.ofNat i))])) _
    refine XS.iconst X0.here hx rfl (hb hby d43_4) ?_
    refine XS.iadd X0.here hx rfl (hb hby d43_5) rfl ?_
    show Steps p.tables e below (s₁.setTop (mkF m 6 #[.val (.ref x1), .val (.int (Int32.ofNat bs)), .val (.int (Int32.ofNat i)), .val (.int (Int32.ofNat dn)), .val (.int ch), .unset] [(.int ((Int32.ofNat (4 * dn)) + (2 : Int32))), (.int (Int32.ofNat i))])) _
    rw [show ((Int32.ofNat (4 * dn)) + (2 : Int32)) = Int32.ofNat (4 * dn + 2) from own_add _ 2]
    exact kt
  by_cases c1 : 4 * dn + 2 ≤ i
  · skip
    have pre367 : ∀ t, Steps p.tables e below (s₁.setTop (mkF m 10 #[.val (.ref x1), .val (.int (Int32.ofNat bs)), .val (.int (Int32.ofNat i)), .val (.int (Int32.ofNat dn)), .val (.int ch), .unset] [(.int (1 : Int32))])) t → Steps p.tables e below (s₁.setTop (mkF m 6 #[.val (.ref x1), .val (.int (Int32.ofNat bs)), .val (.int (Int32.ofNat i)), .val (.int (Int32.ofNat dn)), .val (.int ch), .unset] [(.int (Int32.ofNat (4 * dn + 2))), (.int (Int32.ofNat i))])) t := by
      intro t kt
      refine XS.icmpNo X0.here hx rfl (hb hby d43_6) rfl (flt (by rw [own_lt (by omega) (by omega)]; omega : ¬ ((Int32.ofNat i) < (Int32.ofNat (4 * dn + 2))))).1 ?_
      show Steps p.tables e below (s₁.setTop (mkF m 9 #[.val (.ref x1), .val (.int (Int32.ofNat bs)), .val (.int (Int32.ofNat i)), .val (.int (Int32.ofNat dn)), .val (.int ch), .unset] [])) _
      refine XS.iconst X0.here hx rfl (hb hby d43_9) ?_
      exact kt
    obtain ⟨fs, hr, hrun, hended, hW, hsame⟩ := X0.leave (v := some (.int (1 : Int32))) (fun h => by rw [Bd.returns] at h; cases h)
    refine ⟨_, _, (pre0 _ (pre366 _ (pre367 _ ?_))), hrun, hended, _, _, rfl, ?_, ⟨_, rfl⟩, hW, hsame.mono (by decide) (by decide)⟩
    · show Steps p.tables e below (s₁.setTop (mkF m 10 #[.val (.ref x1), .val (.int (Int32.ofNat bs)), .val (.int (Int32.ofNat i)), .val (.int (Int32.ofNat dn)), .val (.int ch), .unset] [(.int (1 : Int32))])) _
      exact retN X0 hx (t := .boolean) Bd.returns (by simp) (hb hby d43_10) hr
    · show QAt Z x1 t1 kb vb bs i dn ch cb zc fm h0 n0 _ s₁.heap _
      rw [e0]
      exact ⟨rfl, N0, rfl⟩
  · skip
    have pre368 : ∀ t, Steps p.tables e below (s₁.setTop (mkF m 15 #[.val (.ref x1), .val (.int (Int32.ofNat bs)), .val (.int (Int32.ofNat i)), .val (.int (Int32.ofNat dn)), .val (.int ch), .unset] [(.int (Int32.ofNat (4 * dn))), (.int (Int32.ofNat i))])) t → Steps p.tables e below (s₁.setTop (mkF m 6 #[.val (.ref x1), .val (.int (Int32.ofNat bs)), .val (.int (Int32.ofNat i)), .val (.int (Int32.ofNat dn)), .val (.int ch), .unset] [(.int (Int32.ofNat (4 * dn + 2))), (.int (Int32.ofNat i))])) t := by
      intro t kt
      refine XS.icmpYes X0.here hx rfl (pc0 := 6) (pc' := 11) rfl (hb hby d43_6) rfl (tlt (by rw [own_lt (by omega) (by omega)]; omega : (Int32.ofNat i) < (Int32.ofNat (4 * dn + 2)))).1 (by decide) (by decide) ?_
      show Steps p.tables e below (s₁.setTop (mkF m 11 #[.val (.ref x1), .val (.int (Int32.ofNat bs)), .val (.int (Int32.ofNat i)), .val (.int (Int32.ofNat dn)), .val (.int ch), .unset] [])) _
      refine XS.iloadN X0.here hx rfl (hb hby d43_11) rfl ?_
      refine XS.iconst X0.here hx rfl (hb hby d43_12) ?_
      refine XS.iloadN X0.here hx rfl (hb hby d43_13) rfl ?_
      refine XS.imul X0.here hx rfl (hb hby d43_14) rfl ?_
      show Steps p.tables e below (s₁.setTop (mkF m 15 #[.val (.ref x1), .val (.int (Int32.ofNat bs)), .val (.int (Int32.ofNat i)), .val (.int (Int32.ofNat dn)), .val (.int ch), .unset] [(.int ((4 : Int32) * (Int32.ofNat dn))), (.int (Int32.ofNat i))])) _
      rw [show ((4 : Int32) * (Int32.ofNat dn)) = Int32.ofNat (4 * dn) from (Int32.ofNat_mul 4 dn).symm]
      exact kt
    by_cases c2 : i < 4 * dn
    · skip
      obtain ⟨cq369, kq369, q369a, q369b, q369c⟩ := isOf hZ e0 EX
      obtain ⟨_, _, ⟨T369, L369, k369, n369⟩, -, X369, ⟨Lc369, hQ369, l369, y369, z369⟩, st369⟩ := X0.virtualBack hx (y := (⟨"java/lang/String", "charAt", "(I)C"⟩ : MethodName)) (z := (⟨"java/lang/String", "charAt", "(I)C"⟩ : MethodName)) hown (mvT hZ (tw hw 231 rfl)) (mvT hZ (tw hw 232 rfl)) (notFace_of_selects (args := #[]) (mvT hZ (tw hw 234 rfl))) (mvT hZ (tw hw 234 rfl)) (mvT hZ (tw hw 233 rfl)) (by decide) (backOf (W := 0) (rmChA l Z a0 hw [] x1 t1 kb (Int32.ofNat (bs + 4 * dn + 2)) vb (Int32.ofNat (bs + i)) (32 : Int32) zc fm h0 n0 Z0 SC hzc SFm rf FC FV EX KA (own_nn (by omega)) (by rw [own_lt (by omega) (by omega)]; omega) (by rw [own_nc (by omega)]; exact hsp i c2)) hZ (tw hw 235 rfl) (tw hw 1 rfl) (by decide) (by decide)) q369a q369c (g := (mkF m 43 #[.val (.ref x1), .val (.int (Int32.ofNat bs)), .val (.int (Int32.ofNat i)), .val (.int (Int32.ofNat dn)), .val (.int ch), .val (.int (32 : Int32))] [(.int (Int32.ofNat (bs + i))), (.ref x1)])) rfl (by rw [hml]; rfl) (Steps.refl _) (argsL := [(.int (Int32.ofNat (bs + i)))]) (rest := []) (lenOf pd__I_C rfl) rfl (by show 2 * 0 + _ ≤ _; exact Nat.le_of_eq rfl) (hb hby d43_43) (fun _ _ => ⟨rfl, e0, (by decide : 0 + 0 ≤ _), (by decide : 0 + 0 ≤ _)⟩)
      dsimp only [Pt.U, Pt.locs, Pt.cells, Pt.slots] at X369 l369 y369 z369 st369 hQ369
      subst l369 y369 z369
      obtain ⟨rfl, N369q, EQ369⟩ := hQ369
      have N369 := Fr.app N0 N369q
      have pre370 : ∀ t, Steps p.tables e below (T369.setTop (mkF m 56 #[.val (.ref x1), .val (.int (Int32.ofNat bs)), .val (.int (Int32.ofNat i)), .val (.int (Int32.ofNat dn)), .val (.int ch), .val (.int (32 : Int32))] [(.int (1 : Int32))])) t → Steps p.tables e below (s₁.setTop (mkF m 15 #[.val (.ref x1), .val (.int (Int32.ofNat bs)), .val (.int (Int32.ofNat i)), .val (.int (Int32.ofNat dn)), .val (.int ch), .unset] [(.int (Int32.ofNat (4 * dn))), (.int (Int32.ofNat i))])) t := by
        intro t kt
        refine XS.icmpNo X0.here hx rfl (hb hby d43_15) rfl (tlt (by rw [own_lt (by omega) (by omega)]; exact c2 : (Int32.ofNat i) < (Int32.ofNat (4 * dn)))).2.1 ?_
        show Steps p.tables e below (s₁.setTop (mkF m 18 #[.val (.ref x1), .val (.int (Int32.ofNat bs)), .val (.int (Int32.ofNat i)), .val (.int (Int32.ofNat dn)), .val (.int ch), .unset] [])) _
        refine XS.bipush X0.here hx rfl (hb hby d43_18) ?_
        show Steps p.tables e below (s₁.setTop (mkF m 20 #[.val (.ref x1), .val (.int (Int32.ofNat bs)), .val (.int (Int32.ofNat i)), .val (.int (Int32.ofNat dn)), .val (.int ch), .unset] [(.int (32 : Int32))])) _
        refine XS.goto X0.here hx rfl (pc0 := 20) (pc' := 37) rfl (hb hby d43_20) (by decide) (by decide) ?_
        refine XS.istore X0.here hx rfl (hb hby d43_37) rfl (l' := #[.val (.ref x1), .val (.int (Int32.ofNat bs)), .val (.int (Int32.ofNat i)), .val (.int (Int32.ofNat dn)), .val (.int ch), .val (.int (32 : Int32))]) rfl ?_
        refine XS.aloadN X0.here hx rfl (hb hby d43_39) rfl rfl ?_
        refine XS.iloadN X0.here hx rfl (hb hby d43_40) rfl ?_
        refine XS.iloadN X0.here hx rfl (hb hby d43_41) rfl ?_
        refine XS.iadd X0.here hx rfl (hb hby d43_42) rfl ?_
        show Steps p.tables e below (s₁.setTop (mkF m 43 #[.val (.ref x1), .val (.int (Int32.ofNat bs)), .val (.int (Int32.ofNat i)), .val (.int (Int32.ofNat dn)), .val (.int ch), .val (.int (32 : Int32))] [(.int ((Int32.ofNat bs) + (Int32.ofNat i))), (.ref x1)])) _
        rw [show ((Int32.ofNat bs) + (Int32.ofNat i)) = Int32.ofNat (bs + i) from own_add _ _]
        refine st369.trans ?_
        show Steps p.tables e below (T369.setTop (mkF m 46 #[.val (.ref x1), .val (.int (Int32.ofNat bs)), .val (.int (Int32.ofNat i)), .val (.int (Int32.ofNat dn)), .val (.int ch), .val (.int (32 : Int32))] [(.int (nar .char (nar .char (((32 : Int32) &&& (255 : Int32)).toUInt32.toUInt16.toUInt32.toInt32))))])) _
        refine XS.iload X369.here hx rfl (hb hby d43_46) rfl ?_
        refine XS.icmpNo X369.here hx rfl (hb hby d43_48) rfl (teq (by decide : (nar .char (nar .char (((32 : Int32) &&& (255 : Int32)).toUInt32.toUInt16.toUInt32.toInt32))) = (32 : Int32))).2 ?_
        show Steps p.tables e below (T369.setTop (mkF m 51 #[.val (.ref x1), .val (.int (Int32.ofNat bs)), .val (.int (Int32.ofNat i)), .val (.int (Int32.ofNat dn)), .val (.int ch), .val (.int (32 : Int32))] [])) _
        refine XS.iconst X369.here hx rfl (hb hby d43_51) ?_
        refine XS.goto X369.here hx rfl (pc0 := 52) (pc' := 56) rfl (hb hby d43_52) (by decide) (by decide) ?_
        exact kt
      obtain ⟨fs, hr, hrun, hended, hW, hsame⟩ := X369.leave (v := some (.int (1 : Int32))) (fun h => by rw [Bd.returns] at h; cases h)
      refine ⟨_, _, (pre0 _ (pre366 _ (pre368 _ (pre370 _ ?_)))), hrun, hended, _, _, rfl, ?_, ⟨_, rfl⟩, hW, hsame.mono (by decide) (by decide)⟩
      · show Steps p.tables e below (T369.setTop (mkF m 56 #[.val (.ref x1), .val (.int (Int32.ofNat bs)), .val (.int (Int32.ofNat i)), .val (.int (Int32.ofNat dn)), .val (.int ch), .val (.int (32 : Int32))] [(.int (1 : Int32))])) _
        exact retN X369 hx (t := .boolean) Bd.returns (by simp) (hb hby d43_56) hr
      · show QAt Z x1 t1 kb vb bs i dn ch cb zc fm h0 n0 _ T369.heap _
        exact ⟨rfl, N369, by rw [EQ369]⟩
    · skip
      have pre371 : ∀ t, Steps p.tables e below (s₁.setTop (mkF m 27 #[.val (.ref x1), .val (.int (Int32.ofNat bs)), .val (.int (Int32.ofNat i)), .val (.int (Int32.ofNat dn)), .val (.int ch), .unset] [(.int (Int32.ofNat (4 * dn))), (.int (Int32.ofNat i))])) t → Steps p.tables e below (s₁.setTop (mkF m 15 #[.val (.ref x1), .val (.int (Int32.ofNat bs)), .val (.int (Int32.ofNat i)), .val (.int (Int32.ofNat dn)), .val (.int ch), .unset] [(.int (Int32.ofNat (4 * dn))), (.int (Int32.ofNat i))])) t := by
        intro t kt
        refine XS.icmpYes X0.here hx rfl (pc0 := 15) (pc' := 23) rfl (hb hby d43_15) rfl (flt (by rw [own_lt (by omega) (by omega)]; exact c2 : ¬ ((Int32.ofNat i) < (Int32.ofNat (4 * dn))))).2.1 (by decide) (by decide) ?_
        show Steps p.tables e below (s₁.setTop (mkF m 23 #[.val (.ref x1), .val (.int (Int32.ofNat bs)), .val (.int (Int32.ofNat i)), .val (.int (Int32.ofNat dn)), .val (.int ch), .unset] [])) _
        refine XS.iloadN X0.here hx rfl (hb hby d43_23) rfl ?_
        refine XS.iconst X0.here hx rfl (hb hby d43_24) ?_
        refine XS.iloadN X0.here hx rfl (hb hby d43_25) rfl ?_
        refine XS.imul X0.here hx rfl (hb hby d43_26) rfl ?_
        show Steps p.tables e below (s₁.setTop (mkF m 27 #[.val (.ref x1), .val (.int (Int32.ofNat bs)), .val (.int (Int32.ofNat i)), .val (.int (Int32.ofNat dn)), .val (.int ch), .unset] [(.int ((4 : Int32) * (Int32.ofNat dn))), (.int (Int32.ofNat i))])) _
        rw [show ((4 : Int32) * (Int32.ofNat dn)) = Int32.ofNat (4 * dn) from (Int32.ofNat_mul 4 dn).symm]
        exact kt
      by_cases c3 : i = 4 * dn
      · skip
        obtain ⟨cq372, kq372, q372a, q372b, q372c⟩ := isOf hZ e0 EX
        obtain ⟨_, _, ⟨T372, L372, k372, n372⟩, -, X372, ⟨Lc372, hQ372, l372, y372, z372⟩, st372⟩ := X0.virtualBack hx (y := (⟨"java/lang/String", "charAt", "(I)C"⟩ : MethodName)) (z := (⟨"java/lang/String", "charAt", "(I)C"⟩ : MethodName)) hown (mvT hZ (tw hw 231 rfl)) (mvT hZ (tw hw 232 rfl)) (notFace_of_selects (args := #[]) (mvT hZ (tw hw 234 rfl))) (mvT hZ (tw hw 234 rfl)) (mvT hZ (tw hw 233 rfl)) (by decide) (backOf (W := 0) (rmChA l Z a0 hw [] x1 t1 kb (Int32.ofNat (bs + 4 * dn + 2)) vb (Int32.ofNat (bs + i)) cb zc fm h0 n0 Z0 SC hzc SFm rf FC FV EX KA (own_nn (by omega)) (by rw [own_lt (by omega) (by omega)]; omega) (by rw [own_nc (by omega)]; exact (by rw [c3]; exact hcb))) hZ (tw hw 235 rfl) (tw hw 1 rfl) (by decide) (by decide)) q372a q372c (g := (mkF m 43 #[.val (.ref x1), .val (.int (Int32.ofNat bs)), .val (.int (Int32.ofNat i)), .val (.int (Int32.ofNat dn)), .val (.int ch), .val (.int ch)] [(.int (Int32.ofNat (bs + i))), (.ref x1)])) rfl (by rw [hml]; rfl) (Steps.refl _) (argsL := [(.int (Int32.ofNat (bs + i)))]) (rest := []) (lenOf pd__I_C rfl) rfl (by show 2 * 0 + _ ≤ _; exact Nat.le_of_eq rfl) (hb hby d43_43) (fun _ _ => ⟨rfl, e0, (by decide : 0 + 0 ≤ _), (by decide : 0 + 0 ≤ _)⟩)
        dsimp only [Pt.U, Pt.locs, Pt.cells, Pt.slots] at X372 l372 y372 z372 st372 hQ372
        subst l372 y372 z372
        obtain ⟨rfl, N372q, EQ372⟩ := hQ372
        have N372 := Fr.app N0 N372q
        have pre373 : ∀ t, Steps p.tables e below (T372.setTop (mkF m 56 #[.val (.ref x1), .val (.int (Int32.ofNat bs)), .val (.int (Int32.ofNat i)), .val (.int (Int32.ofNat dn)), .val (.int ch), .val (.int ch)] [(.int (1 : Int32))])) t → Steps p.tables e below (s₁.setTop (mkF m 27 #[.val (.ref x1), .val (.int (Int32.ofNat bs)), .val (.int (Int32.ofNat i)), .val (.int (Int32.ofNat dn)), .val (.int ch), .unset] [(.int (Int32.ofNat (4 * dn))), (.int (Int32.ofNat i))])) t := by
          intro t kt
          refine XS.icmpNo X0.here hx rfl (hb hby d43_27) rfl (teq (by rw [c3] : (Int32.ofNat i) = (Int32.ofNat (4 * dn)))).2 ?_
          show Steps p.tables e below (s₁.setTop (mkF m 30 #[.val (.ref x1), .val (.int (Int32.ofNat bs)), .val (.int (Int32.ofNat i)), .val (.int (Int32.ofNat dn)), .val (.int ch), .unset] [])) _
          refine XS.iload X0.here hx rfl (hb hby d43_30) rfl ?_
          show Steps p.tables e below (s₁.setTop (mkF m 32 #[.val (.ref x1), .val (.int (Int32.ofNat bs)), .val (.int (Int32.ofNat i)), .val (.int (Int32.ofNat dn)), .val (.int ch), .unset] [(.int ch)])) _
          refine XS.goto X0.here hx rfl (pc0 := 32) (pc' := 37) rfl (hb hby d43_32) (by decide) (by decide) ?_
          refine XS.istore X0.here hx rfl (hb hby d43_37) rfl (l' := #[.val (.ref x1), .val (.int (Int32.ofNat bs)), .val (.int (Int32.ofNat i)), .val (.int (Int32.ofNat dn)), .val (.int ch), .val (.int ch)]) rfl ?_
          refine XS.aloadN X0.here hx rfl (hb hby d43_39) rfl rfl ?_
          refine XS.iloadN X0.here hx rfl (hb hby d43_40) rfl ?_
          refine XS.iloadN X0.here hx rfl (hb hby d43_41) rfl ?_
          refine XS.iadd X0.here hx rfl (hb hby d43_42) rfl ?_
          show Steps p.tables e below (s₁.setTop (mkF m 43 #[.val (.ref x1), .val (.int (Int32.ofNat bs)), .val (.int (Int32.ofNat i)), .val (.int (Int32.ofNat dn)), .val (.int ch), .val (.int ch)] [(.int ((Int32.ofNat bs) + (Int32.ofNat i))), (.ref x1)])) _
          rw [show ((Int32.ofNat bs) + (Int32.ofNat i)) = Int32.ofNat (bs + i) from own_add _ _]
          refine st372.trans ?_
          show Steps p.tables e below (T372.setTop (mkF m 46 #[.val (.ref x1), .val (.int (Int32.ofNat bs)), .val (.int (Int32.ofNat i)), .val (.int (Int32.ofNat dn)), .val (.int ch), .val (.int ch)] [(.int (nar .char (nar .char ((cb &&& (255 : Int32)).toUInt32.toUInt16.toUInt32.toInt32))))])) _
          refine XS.iload X372.here hx rfl (hb hby d43_46) rfl ?_
          refine XS.icmpNo X372.here hx rfl (hb hby d43_48) rfl (teq (hch : (nar .char (nar .char ((cb &&& (255 : Int32)).toUInt32.toUInt16.toUInt32.toInt32))) = ch)).2 ?_
          show Steps p.tables e below (T372.setTop (mkF m 51 #[.val (.ref x1), .val (.int (Int32.ofNat bs)), .val (.int (Int32.ofNat i)), .val (.int (Int32.ofNat dn)), .val (.int ch), .val (.int ch)] [])) _
          refine XS.iconst X372.here hx rfl (hb hby d43_51) ?_
          refine XS.goto X372.here hx rfl (pc0 := 52) (pc' := 56) rfl (hb hby d43_52) (by decide) (by decide) ?_
          exact kt
        obtain ⟨fs, hr, hrun, hended, hW, hsame⟩ := X372.leave (v := some (.int (1 : Int32))) (fun h => by rw [Bd.returns] at h; cases h)
        refine ⟨_, _, (pre0 _ (pre366 _ (pre368 _ (pre371 _ (pre373 _ ?_))))), hrun, hended, _, _, rfl, ?_, ⟨_, rfl⟩, hW, hsame.mono (by decide) (by decide)⟩
        · show Steps p.tables e below (T372.setTop (mkF m 56 #[.val (.ref x1), .val (.int (Int32.ofNat bs)), .val (.int (Int32.ofNat i)), .val (.int (Int32.ofNat dn)), .val (.int ch), .val (.int ch)] [(.int (1 : Int32))])) _
          exact retN X372 hx (t := .boolean) Bd.returns (by simp) (hb hby d43_56) hr
        · show QAt Z x1 t1 kb vb bs i dn ch cb zc fm h0 n0 _ T372.heap _
          exact ⟨rfl, N372, by rw [EQ372]⟩
      · skip
        obtain ⟨cq374, kq374, q374a, q374b, q374c⟩ := isOf hZ e0 EX
        obtain ⟨_, _, ⟨T374, L374, k374, n374⟩, -, X374, ⟨Lc374, hQ374, l374, y374, z374⟩, st374⟩ := X0.virtualBack hx (y := (⟨"java/lang/String", "charAt", "(I)C"⟩ : MethodName)) (z := (⟨"java/lang/String", "charAt", "(I)C"⟩ : MethodName)) hown (mvT hZ (tw hw 231 rfl)) (mvT hZ (tw hw 232 rfl)) (notFace_of_selects (args := #[]) (mvT hZ (tw hw 234 rfl))) (mvT hZ (tw hw 234 rfl)) (mvT hZ (tw hw 233 rfl)) (by decide) (backOf (W := 0) (rmChA l Z a0 hw [] x1 t1 kb (Int32.ofNat (bs + 4 * dn + 2)) vb (Int32.ofNat (bs + i)) (nar .byte ((10 : Int32).toInt8.toInt32)) zc fm h0 n0 Z0 SC hzc SFm rf FC FV EX KA (own_nn (by omega)) (by rw [own_lt (by omega) (by omega)]; omega) (by rw [own_nc (by omega)]; exact (by rw [show bs + i = bs + 4 * dn + 1 by omega]; exact hnl))) hZ (tw hw 235 rfl) (tw hw 1 rfl) (by decide) (by decide)) q374a q374c (g := (mkF m 43 #[.val (.ref x1), .val (.int (Int32.ofNat bs)), .val (.int (Int32.ofNat i)), .val (.int (Int32.ofNat dn)), .val (.int ch), .val (.int (10 : Int32))] [(.int (Int32.ofNat (bs + i))), (.ref x1)])) rfl (by rw [hml]; rfl) (Steps.refl _) (argsL := [(.int (Int32.ofNat (bs + i)))]) (rest := []) (lenOf pd__I_C rfl) rfl (by show 2 * 0 + _ ≤ _; exact Nat.le_of_eq rfl) (hb hby d43_43) (fun _ _ => ⟨rfl, e0, (by decide : 0 + 0 ≤ _), (by decide : 0 + 0 ≤ _)⟩)
        dsimp only [Pt.U, Pt.locs, Pt.cells, Pt.slots] at X374 l374 y374 z374 st374 hQ374
        subst l374 y374 z374
        obtain ⟨rfl, N374q, EQ374⟩ := hQ374
        have N374 := Fr.app N0 N374q
        have pre375 : ∀ t, Steps p.tables e below (T374.setTop (mkF m 56 #[.val (.ref x1), .val (.int (Int32.ofNat bs)), .val (.int (Int32.ofNat i)), .val (.int (Int32.ofNat dn)), .val (.int ch), .val (.int (10 : Int32))] [(.int (1 : Int32))])) t → Steps p.tables e below (s₁.setTop (mkF m 27 #[.val (.ref x1), .val (.int (Int32.ofNat bs)), .val (.int (Int32.ofNat i)), .val (.int (Int32.ofNat dn)), .val (.int ch), .unset] [(.int (Int32.ofNat (4 * dn))), (.int (Int32.ofNat i))])) t := by
          intro t kt
          refine XS.icmpYes X0.here hx rfl (pc0 := 27) (pc' := 35) rfl (hb hby d43_27) rfl (feq (fun q => c3 ((own_eq (by omega) (by omega)).mp q) : ¬ ((Int32.ofNat i) = (Int32.ofNat (4 * dn))))).2 (by decide) (by decide) ?_
          show Steps p.tables e below (s₁.setTop (mkF m 35 #[.val (.ref x1), .val (.int (Int32.ofNat bs)), .val (.int (Int32.ofNat i)), .val (.int (Int32.ofNat dn)), .val (.int ch), .unset] [])) _
          refine XS.bipush X0.here hx rfl (hb hby d43_35) ?_
          show Steps p.tables e below (s₁.setTop (mkF m 37 #[.val (.ref x1), .val (.int (Int32.ofNat bs)), .val (.int (Int32.ofNat i)), .val (.int (Int32.ofNat dn)), .val (.int ch), .unset] [(.int (10 : Int32))])) _
          refine XS.istore X0.here hx rfl (hb hby d43_37) rfl (l' := #[.val (.ref x1), .val (.int (Int32.ofNat bs)), .val (.int (Int32.ofNat i)), .val (.int (Int32.ofNat dn)), .val (.int ch), .val (.int (10 : Int32))]) rfl ?_
          refine XS.aloadN X0.here hx rfl (hb hby d43_39) rfl rfl ?_
          refine XS.iloadN X0.here hx rfl (hb hby d43_40) rfl ?_
          refine XS.iloadN X0.here hx rfl (hb hby d43_41) rfl ?_
          refine XS.iadd X0.here hx rfl (hb hby d43_42) rfl ?_
          show Steps p.tables e below (s₁.setTop (mkF m 43 #[.val (.ref x1), .val (.int (Int32.ofNat bs)), .val (.int (Int32.ofNat i)), .val (.int (Int32.ofNat dn)), .val (.int ch), .val (.int (10 : Int32))] [(.int ((Int32.ofNat bs) + (Int32.ofNat i))), (.ref x1)])) _
          rw [show ((Int32.ofNat bs) + (Int32.ofNat i)) = Int32.ofNat (bs + i) from own_add _ _]
          refine st374.trans ?_
          show Steps p.tables e below (T374.setTop (mkF m 46 #[.val (.ref x1), .val (.int (Int32.ofNat bs)), .val (.int (Int32.ofNat i)), .val (.int (Int32.ofNat dn)), .val (.int ch), .val (.int (10 : Int32))] [(.int (nar .char (nar .char (((nar .byte ((10 : Int32).toInt8.toInt32)) &&& (255 : Int32)).toUInt32.toUInt16.toUInt32.toInt32))))])) _
          refine XS.iload X374.here hx rfl (hb hby d43_46) rfl ?_
          refine XS.icmpNo X374.here hx rfl (hb hby d43_48) rfl (teq (by decide : (nar .char (nar .char (((nar .byte ((10 : Int32).toInt8.toInt32)) &&& (255 : Int32)).toUInt32.toUInt16.toUInt32.toInt32))) = (10 : Int32))).2 ?_
          show Steps p.tables e below (T374.setTop (mkF m 51 #[.val (.ref x1), .val (.int (Int32.ofNat bs)), .val (.int (Int32.ofNat i)), .val (.int (Int32.ofNat dn)), .val (.int ch), .val (.int (10 : Int32))] [])) _
          refine XS.iconst X374.here hx rfl (hb hby d43_51) ?_
          refine XS.goto X374.here hx rfl (pc0 := 52) (pc' := 56) rfl (hb hby d43_52) (by decide) (by decide) ?_
          exact kt
        obtain ⟨fs, hr, hrun, hended, hW, hsame⟩ := X374.leave (v := some (.int (1 : Int32))) (fun h => by rw [Bd.returns] at h; cases h)
        refine ⟨_, _, (pre0 _ (pre366 _ (pre368 _ (pre371 _ (pre375 _ ?_))))), hrun, hended, _, _, rfl, ?_, ⟨_, rfl⟩, hW, hsame.mono (by decide) (by decide)⟩
        · show Steps p.tables e below (T374.setTop (mkF m 56 #[.val (.ref x1), .val (.int (Int32.ofNat bs)), .val (.int (Int32.ofNat i)), .val (.int (Int32.ofNat dn)), .val (.int ch), .val (.int (10 : Int32))] [(.int (1 : Int32))])) _
          exact retN X374 hx (t := .boolean) Bd.returns (by simp) (hb hby d43_56) hr
        · show QAt Z x1 t1 kb vb bs i dn ch cb zc fm h0 n0 _ T374.heap _
          exact ⟨rfl, N374, by rw [EQ374]⟩
theorem ef_Open (m : MethodId) (x0 : Addr) (x1 : Addr) : entryFrame m #[(.ref x0), (.ref x1)] 2 = mkF m 0 #[.val (.ref x0), .val (.ref x1)] [] := by (first | (simp [entryFrame, mkF, argsToLocals, Value.category]; done) | rfl)
def QOpen (Z : State) (j1 : Addr) (b1 : Addr) (v1 : Addr) (k1 : ClassId) (ct : Nat) (vs : List Value) (x1 : Addr) (t1 : Addr) (kx : ClassId) (xs : List Value) (zc : Int32) (h0 : Heap) (n0 : Nat) (v : Option Value) (h : Heap) (L : List Loc) (vm : Vm) : Prop := v = some (.ref j1) ∧ Fr n0 L ∧ Keep h0 h [j1, b1, v1] ∧ ∃ (v2 : Addr) (k2 : ClassId) (ws2 : List Value), (Exa Z h j1 "com/example/orbweaver/orbweaver/mapping/JavaSource" ∧ Fld Z h j1 "com/example/orbweaver/orbweaver/mapping/JavaSource" "text" "Ljava/lang/StringBuilder;" (.ref b1) ∧ Fld Z h j1 "com/example/orbweaver/orbweaver/mapping/JavaSource" "depth" "I" (.int ((Int32.ofNat 0) + (1 : Int32)))) ∧ (Exa Z h b1 "java/lang/StringBuilder" ∧ Fld Z h b1 "java/lang/AbstractStringBuilder" "value" "[B" (.ref v2) ∧ Fld Z h b1 "java/lang/AbstractStringBuilder" "coder" "B" (.int (0 : Int32)) ∧ Fld Z h b1 "java/lang/AbstractStringBuilder" "count" "I" (.int (Int32.ofNat (ct + 4))) ∧ Arv Z h v2 k2 .byte (Int32.ofNat 150) ws2 (.int (0 : Int32)) ∧ Exa Z h v2 "[B") ∧ ws2.length = 150 ∧ n0 ≤ v2 ∧ (v2 = v1 ∨ h0.size ≤ v2) ∧ Safe Z EL vm h v2
theorem d49_0 : decode prog_171_method_5_code 0 = .ok (.aload_n 0, 1) := by decide +kernel
theorem d49_1 : decode prog_171_method_5_code 1 = .ok (.new 7, 3) := by decide +kernel
theorem d49_4 : decode prog_171_method_5_code 4 = .ok (.dup, 1) := by decide +kernel
theorem d49_5 : decode prog_171_method_5_code 5 = .ok (.invokespecial 9, 3) := by decide +kernel
theorem pd___V : parseMethodDescriptor "()V" = some ⟨[], none⟩ := by decide +kernel
theorem d49_8 : decode prog_171_method_5_code 8 = .ok (.aload_n 1, 1) := by decide +kernel
theorem d49_9 : decode prog_171_method_5_code 9 = .ok (.invokevirtual 18, 3) := by decide +kernel
theorem d49_12 : decode prog_171_method_5_code 12 = .ok (.ldc 77, 2) := by decide +kernel
theorem d49_14 : decode prog_171_method_5_code 14 = .ok (.invokevirtual 18, 3) := by decide +kernel
theorem d49_17 : decode prog_171_method_5_code 17 = .ok (.invokevirtual 24, 3) := by decide +kernel
theorem d49_20 : decode prog_171_method_5_code 20 = .ok (.invokevirtual 28, 3) := by decide +kernel
theorem pd__Ljava_lang_String__Lcom_example_orbweaver_orbweaver_mapping_JavaSource_ : parseMethodDescriptor "(Ljava/lang/String;)Lcom/example/orbweaver/orbweaver/mapping/JavaSource;" = some ⟨[(.object "java/lang/String")], some (.object "com/example/orbweaver/orbweaver/mapping/JavaSource")⟩ := by decide +kernel
theorem d49_23 : decode prog_171_method_5_code 23 = .ok (.pop, 1) := by decide +kernel
theorem d49_24 : decode prog_171_method_5_code 24 = .ok (.aload_n 0, 1) := by decide +kernel
theorem d49_25 : decode prog_171_method_5_code 25 = .ok (.dup, 1) := by decide +kernel
theorem d49_26 : decode prog_171_method_5_code 26 = .ok (.getfield 48, 3) := by decide +kernel
theorem d49_29 : decode prog_171_method_5_code 29 = .ok (.iconst 1, 1) := by decide +kernel
theorem d49_30 : decode prog_171_method_5_code 30 = .ok (.iadd, 1) := by decide +kernel
theorem d49_31 : decode prog_171_method_5_code 31 = .ok (.putfield 48, 3) := by decide +kernel
theorem d49_34 : decode prog_171_method_5_code 34 = .ok (.aload_n 0, 1) := by decide +kernel
theorem d49_35 : decode prog_171_method_5_code 35 = .ok (.areturn, 1) := by decide +kernel
set_option maxRecDepth 65536 in
set_option maxHeartbeats 40000000 in
theorem rmOpen (l : Launch) (Z : State) (a0 : Array Value) (hw : ∀ d ∈ tables_1, d.before a0 Z = true) (ws : List Jvm.Cond) (j1 : Addr) (b1 : Addr) (v1 : Addr) (k1 : ClassId) (ct : Nat) (vs : List Value) (x1 : Addr) (t1 : Addr) (kx : ClassId) (xs : List Value) (zc : Int32) (h0 : Heap) (n0 : Nat) (Z0 : n0 ≤ h0.size) (hEL : EW Z a0 EL) (JE : Exa Z h0 j1 "com/example/orbweaver/orbweaver/mapping/JavaSource") (JT : Fld Z h0 j1 "com/example/orbweaver/orbweaver/mapping/JavaSource" "text" "Ljava/lang/StringBuilder;" (.ref b1)) (JD : Fld Z h0 j1 "com/example/orbweaver/orbweaver/mapping/JavaSource" "depth" "I" (.int (Int32.ofNat 0))) (g_j1 : n0 ≤ j1) (BE : Exa Z h0 b1 "java/lang/StringBuilder") (BV : Fld Z h0 b1 "java/lang/AbstractStringBuilder" "value" "[B" (.ref v1)) (BC : Fld Z h0 b1 "java/lang/AbstractStringBuilder" "coder" "B" (.int (0 : Int32))) (BN : Fld Z h0 b1 "java/lang/AbstractStringBuilder" "count" "I" (.int (Int32.ofNat ct))) (BA : Arv Z h0 v1 k1 .byte (Int32.ofNat 150) vs (.int (0 : Int32))) (BX : Exa Z h0 v1 "[B") (hvl : vs.length = 150) (g_b1 : n0 ≤ b1) (g_v1 : n0 ≤ v1) (XE : Exa Z h0 x1 "java/lang/String") (XV : Fld Z h0 x1 "java/lang/String" "value" "[B" (.ref t1)) (XC : Fld Z h0 x1 "java/lang/String" "coder" "B" (.int (0 : Int32))) (XA : Arv Z h0 t1 kx .byte (Int32.ofNat 1) xs (.int (0 : Int32))) (hxl : xs.length = 1) (ntv : t1 ≠ v1) (hct : ct ≤ 100) (OZ : Old Z n0 h0) (SC : Sta Z Z.heap "java/lang/String" "COMPACT_STRINGS" "Z" (.int zc)) (hzc : ¬ zc = (0 : Int32)) :
    MetFree l (⟨"com/example/orbweaver/orbweaver/mapping/JavaSource", "open", "(Ljava/lang/String;)Lcom/example/orbweaver/orbweaver/mapping/JavaSource;"⟩ : MethodName) (head1 (Jvm.Cond.code (⟨"com/example/orbweaver/orbweaver/mapping/JavaSource", "open", "(Ljava/lang/String;)Lcom/example/orbweaver/orbweaver/mapping/JavaSource;"⟩ : MethodName) prog_171_method_5_code 2 (some (.object "com/example/orbweaver/orbweaver/mapping/JavaSource")) :: ws) ({ frames := 8, cells := 16, slots := 2000, locals := 205 } : Room)) (fun a U => a = #[(.ref j1), (.ref x1)] ∧ Z.Warmed39 U.vm ∧ U.heap = h0 ∧ CHv Z EL U.vm h0 ∧ Safe Z EL U.vm h0 v1) (fun _ _ _ _ _ => True) (fun _ U o U' => ∃ v L, o = .returned v ∧ QOpen Z j1 b1 v1 k1 ct vs x1 t1 kx xs zc h0 n0 v U'.heap L U'.vm ∧ CHr Z EL U.vm U.heap U'.vm U'.heap ∧ ReturnedEndW U o U' L ({ frames := 8, cells := 16, slots := 2000, locals := 205 } : Room).cells ({ frames := 8, cells := 16, slots := 2000, locals := 205 } : Room).slots) := by
  refine MetFree.of_bodySF (plainFor_of_name pn_com_example_orbweaver_orbweaver_mapping_JavaSource) hisR ?_
  intro p e s m args below meth c s₁ Bd hml0 hP hK
  obtain ⟨rfl, hZ, hh, hCH, hY⟩ := hP
  have hx := Bd.exec
  have hby := Bd.bytes
  have hml : c.maxLocals = 2 := hml0
  have hown : s.vm.findClass "com/example/orbweaver/orbweaver/mapping/JavaSource" = some m.cls := findClass_of_methodNamed Bd.named
  have hnm := (name_of_methodNamed Bd.named Bd.method).1
  have X0 : Stand p l e ({ frames := 8, cells := 16, slots := 2000, locals := 205 } : Room) s m #[(.ref j1), (.ref x1)] below meth c s₁ [] 0 0 := Stand.of_body Bd
  have e0 : s₁.heap = h0 := by rw [← hh, Bd.state]; rfl
  have N0 := Fr.nil n0
  have pre0 : ∀ t, Steps p.tables e below (s₁.setTop (mkF m 0 #[.val (.ref j1), .val (.ref x1)] [])) t → Steps p.tables e below (s₁.setTop (entryFrame m #[(.ref j1), (.ref x1)] 2)) t := fun t k => castTop (ef_Open m j1 x1) k
  have X0 : Stand p l e ({ frames := 8, cells := 16, slots := 2000, locals := 205 } : Room) (s.setVm s.vm) m #[(.ref j1), (.ref x1)] below meth c s₁ [] 0 0 := by rw [State.setVm_self]; exact X0
  have hZ : Z.Warmed39 (s.setVm s.vm).vm := hZ
  have hown : (s.setVm s.vm).vm.findClass "com/example/orbweaver/orbweaver/mapping/JavaSource" = some m.cls := hown
  have hSi0 : s.Since s.vm 0 := (State.WarmedH.refl s).since 0
  have mem_j1 : j1 ∈ [j1, b1, v1] := List.mem_of_getElem? (i := 0) rfl
  have mem_b1 : b1 ∈ [j1, b1, v1] := List.mem_of_getElem? (i := 1) rfl
  have mem_v1 : v1 ∈ [j1, b1, v1] := List.mem_of_getElem? (i := 2) rfl
  have ne_j1_b1 : j1 ≠ b1 := JE.ne BE (by decide)
  have ne_j1_v1 : j1 ≠ v1 := JE.neArv BA (tw hw 9 rfl)
  obtain ⟨T376, h376, X376, e376, E376, A376, D376, -, st376⟩ := newO X0 hx hZ hown (tw hw 36 rfl) (tw hw 37 rfl) (tw hw 38 rfl) e0 (g := (mkF m 1 #[.val (.ref j1), .val (.ref x1)] [(.ref j1)])) rfl (hb hby d49_1) (by decide) (by decide)
  obtain ⟨b376, g376⟩ : ∃ z, z = h0.size := ⟨_, rfl⟩
  rw [← g376] at A376 D376 st376
  have g_b376 : n0 ≤ b376 := Nat.le_trans Z0 (Nat.le_of_eq g376.symm)
  have sz_b376 : h0.size ≤ b376 := Nat.le_trans (Keep.refl h0 [j1, b1, v1]).1 (Nat.le_of_eq g376.symm)
  have ne_x1_b376 : x1 ≠ b376 := Nat.ne_of_lt (Nat.lt_of_lt_of_le XE.lt (Nat.le_of_eq g376.symm))
  have ne_b1_b376 : b1 ≠ b376 := Nat.ne_of_lt (Nat.lt_of_lt_of_le BE.lt (Nat.le_of_eq g376.symm))
  have ne_v1_b376 : v1 ≠ b376 := Nat.ne_of_lt (Nat.lt_of_lt_of_le BA.lt (Nat.le_of_eq g376.symm))
  have ne_t1_b376 : t1 ≠ b376 := Nat.ne_of_lt (Nat.lt_of_lt_of_le XA.lt (Nat.le_of_eq g376.symm))
  have ne_j1_b376 : j1 ≠ b376 := Nat.ne_of_lt (Nat.lt_of_lt_of_le JE.lt (Nat.le_of_eq g376.symm))
  have cs377 := CHr.ext E376 hCH
  have cr377 := (CHr.refl hCH).trans cs377
  have y377_v1 := cs377.safe BA.lt hY
  have hk377 := Nat.le_trans (Nat.zero_le _) cs377.2.1
  have Z376 := Nat.le_trans Z0 E376.1
  have K376 := (Keep.refl h0 [j1, b1, v1]).ext E376
  have F376_value : Fld Z h376 b376 "java/lang/AbstractStringBuilder" "value" "[B" .null := D376 (Or.inl (tw hw 51 rfl)) (ty := (.array .byte)) (by decide)
  have F376_coder : Fld Z h376 b376 "java/lang/AbstractStringBuilder" "coder" "B" (.int (0 : Int32)) := D376 (Or.inl (tw hw 53 rfl)) (ty := .byte) (by decide)
  have F376_count : Fld Z h376 b376 "java/lang/AbstractStringBuilder" "count" "I" (.int (0 : Int32)) := D376 (Or.inl (tw hw 78 rfl)) (ty := .int) (by decide)
  have f378 := (OZ.ext E376)
  have f380 := (BE.ext E376)
  have f381 := (JE.ext E376)
  have f382 := (XA.ext E376)
  have f383 := (BA.ext E376)
  have f384 := (XE.ext E376)
  obtain ⟨_, _, ⟨T379, L379, k379, n379⟩, -, X379, ⟨Lc379, hQ379, l379, y379, z379⟩, st379⟩ := X376.specialBack hx (y := (⟨"java/lang/StringBuilder", "<init>", "()V"⟩ : MethodName)) rfl hown (mvT hZ (tw hw 39 rfl)) (mvT hZ (tw hw 40 rfl)) (mvT hZ (tw hw 41 rfl)) (by decide) (backOf (W := 2) (rmSInit l Z a0 hw [] b376 zc h376 n0 Z376 A376 F376_value F376_coder F376_count g_b376 f378 SC hzc) hZ (tw hw 41 rfl) (tw hw 38 rfl) (by decide) (by decide)) (g := (mkF m 5 #[.val (.ref j1), .val (.ref x1)] [(.ref b376), (.ref b376), (.ref j1)])) rfl (by rw [hml]; rfl) (Steps.refl _) (a := b376) (argsL := []) (rest := [(.ref b376), (.ref j1)]) (lenOf pd___V rfl) rfl (by show 2 * 0 + _ ≤ _; exact Nat.le_of_eq rfl) (hb hby d49_5) (fun _ _ => ⟨rfl, e376, (by decide : 1 + 1 ≤ _), (by decide : 4 + 16 ≤ _)⟩)
  dsimp only [Pt.U, Pt.locs, Pt.cells, Pt.slots] at X379 l379 y379 z379 st379 hQ379
  subst l379 y379 z379
  obtain ⟨rfl, N379q, KC379, v_pa, k_pa, ⟨E_pa, V_pa, C_pa, N_pa, A_pa, X_pa⟩, le_pa⟩ := hQ379
  have N379 := Fr.app N0 N379q
  have g_v_pa : n0 ≤ v_pa := Nat.le_trans Z376 le_pa
  have sz_v_pa : h0.size ≤ v_pa := Nat.le_trans K376.1 le_pa
  have ne_b1_v_pa : b1 ≠ v_pa := Nat.ne_of_lt (Nat.lt_of_lt_of_le f380.lt le_pa)
  have ne_b376_v_pa : b376 ≠ v_pa := Nat.ne_of_lt (Nat.lt_of_lt_of_le A376.lt le_pa)
  have ne_j1_v_pa : j1 ≠ v_pa := Nat.ne_of_lt (Nat.lt_of_lt_of_le f381.lt le_pa)
  have ne_v1_v_pa : v1 ≠ v_pa := Nat.ne_of_lt (Nat.lt_of_lt_of_le f383.lt le_pa)
  have cs385 := CHr.keep KC379 (allS (Safe.exa (EL := EL) hZ.alike A376 (by decide) (by decide)) all0) cs377.1
  have cr385 := cr377.trans cs385
  have y385_v1 := cs385.safe f383.lt y377_v1
  have hk385 := Nat.le_trans hk377 cs385.2.1
  have Z379 := Nat.le_trans Z376 KC379.1
  have K379 := K376.trans KC379 (allS (Or.inr sz_b376) all0)
  have y_pa := own_safeK (y := b376) KC379 (allS (Safe.exa (EL := EL) hZ.alike A376 (by decide) (by decide)) all0) cs377.1 (Or.inr le_pa) (Safe.exa (EL := EL) hZ.alike A376 (by decide) (by decide))
  have ne_b376_v_pa : b376 ≠ v_pa := E_pa.neArv A_pa (tw hw 37 rfl)
  obtain ⟨LL386, XL386, NL386⟩ : ∃ LL, Stand p l e ({ frames := 8, cells := 16, slots := 2000, locals := 205 } : Room) (s.setVm s.vm) m #[(.ref j1), (.ref x1)] below meth c T379 LL 2 20 ∧ Fr n0 LL := ⟨_, X379, N379⟩
  have nx2 : t1 ≠ v_pa := Nat.ne_of_lt (Nat.lt_of_lt_of_le XA.lt sz_v_pa)
  have f388 := (f384.keep KC379)
  have f389 := ((XV.ext E376).keep KC379 (ninS ne_x1_b376 nin0))
  have f390 := ((XC.ext E376).keep KC379 (ninS ne_x1_b376 nin0))
  have f391 := (f382.keep KC379 (ninS ne_t1_b376 nin0))
  have f392 := (f378.keep KC379 (allS g_b376 all0))
  have f393 := (f380.keep KC379)
  have f394 := (f381.keep KC379)
  have f395 := (f383.keep KC379 (ninS ne_v1_b376 nin0))
  obtain ⟨cq396, kq396, q396a, q396b, q396c⟩ := isOf hZ rfl E_pa
  obtain ⟨_, _, ⟨T396, L396, k396, n396⟩, -, X396, ⟨Lc396, hQ396, l396, y396, z396⟩, st396⟩ := XL386.virtualBack hx (y := (⟨"java/lang/StringBuilder", "append", "(Ljava/lang/String;)Ljava/lang/StringBuilder;"⟩ : MethodName)) (z := (⟨"java/lang/StringBuilder", "append", "(Ljava/lang/String;)Ljava/lang/StringBuilder;"⟩ : MethodName)) hown (mvT hZ (tw hw 57 rfl)) (mvT hZ (tw hw 58 rfl)) (notFace_of_selects (args := #[]) (mvT hZ (tw hw 60 rfl))) (mvT hZ (tw hw 60 rfl)) (mvT hZ (tw hw 59 rfl)) (by decide) (backOf (W := 1) (rmSApS l Z a0 hw [] b376 v_pa k_pa (16) (0) (List.replicate 16 (.int (0 : Int32))) x1 t1 kx (1) xs zc T379.heap n0 Z379 E_pa V_pa C_pa N_pa A_pa X_pa (by simp) (by decide) g_b376 g_v_pa f388 f389 f390 f391 hxl (by decide) nx2 (by decide) ((by decide) : 0 + 1 ≤ 16 ∨ max (0 + 1) (2 * (16) + 2) ≤ 160) (by decide) f392 SC hzc) hZ (tw hw 61 rfl) (tw hw 38 rfl) (by decide) (by decide)) q396a q396c (g := (mkF m 9 #[.val (.ref j1), .val (.ref x1)] [(.ref x1), (.ref b376), (.ref j1)])) rfl (by rw [hml]; rfl) (Steps.refl _) (argsL := [(.ref x1)]) (rest := [(.ref j1)]) (lenOf pd__Ljava_lang_String__Ljava_lang_StringBuilder_ rfl) rfl (by show 2 * 0 + _ ≤ _; exact Nat.le_of_eq rfl) (hb hby d49_9) (fun _ _ => ⟨rfl, rfl, (by decide : 2 + 1 ≤ _), (by decide : 20 + 160 ≤ _)⟩)
  dsimp only [Pt.U, Pt.locs, Pt.cells, Pt.slots] at X396 l396 y396 z396 st396 hQ396
  subst l396 y396 z396
  obtain ⟨rfl, N396q, KC396, v2_387, k2_387, wa_387, ⟨E387, V387, C387, N387, A387, X387⟩, l2_387, tk_387, g_v2_387, hv_387⟩ := hQ396
  have N396 := Fr.app NL386 N396q
  have cs397 := CHr.keep KC396 (allS (Safe.exa (EL := EL) hZ.alike E_pa (by decide) (by decide)) (allS y_pa all0)) cs385.1
  have cr397 := cr385.trans cs397
  have y397_v1 := cs397.safe f395.lt y385_v1
  have hk397 := Nat.le_trans hk385 cs397.2.1
  have Z396 := Nat.le_trans Z379 KC396.1
  have K396 := K379.trans KC396 (allS (Or.inr sz_b376) (allS (Or.inr sz_v_pa) all0))
  have sz_v2_387 : h0.size ≤ v2_387 := hv_387.elim (fun q => by rw [q]; exact sz_v_pa) (fun q => Nat.le_trans K379.1 q)
  have ne_b1_v2_387 : b1 ≠ v2_387 := hv_387.elim (fun q => by rw [q]; exact ne_b1_v_pa) (fun q => Nat.ne_of_lt (Nat.lt_of_lt_of_le f393.lt q))
  have ne_j1_v2_387 : j1 ≠ v2_387 := hv_387.elim (fun q => by rw [q]; exact ne_j1_v_pa) (fun q => Nat.ne_of_lt (Nat.lt_of_lt_of_le f394.lt q))
  have ne_v1_v2_387 : v1 ≠ v2_387 := hv_387.elim (fun q => by rw [q]; exact ne_v1_v_pa) (fun q => Nat.ne_of_lt (Nat.lt_of_lt_of_le f395.lt q))
  have y_v2_387 := own_safeK KC396 (allS (Safe.exa (EL := EL) hZ.alike E_pa (by decide) (by decide)) (allS y_pa all0)) cs385.1 hv_387 y_pa
  have hgl_387 := @own_grle (16) (0 + 1)
  have hgm_387 : own_gr (16) (0 + 1) ≤ 1000 := own_grM (by decide) (by decide) ((by decide) : 0 + 1 ≤ 16 ∨ max (0 + 1) (2 * (16) + 2) ≤ 160)
  obtain ⟨LL398, XL398, NL398⟩ : ∃ LL, Stand p l e ({ frames := 8, cells := 16, slots := 2000, locals := 205 } : Room) (s.setVm s.vm) m #[(.ref j1), (.ref x1)] below meth c T396 LL 3 180 ∧ Fr n0 LL := ⟨_, X396, N396⟩
  have pre399 : ∀ t, Steps p.tables e below (T396.setTop (mkF m 12 #[.val (.ref j1), .val (.ref x1)] [(.ref b376), (.ref j1)])) t → Steps p.tables e below (s₁.setTop (mkF m 0 #[.val (.ref j1), .val (.ref x1)] [])) t := by
    intro t kt
    show Steps p.tables e below (s₁.setTop (mkF m 0 #[.val (.ref j1), .val (.ref x1)] [])) _
    refine XS.aloadN X0.here hx rfl (hb hby d49_0) rfl rfl ?_
    show Steps p.tables e below (s₁.setTop (mkF m 1 #[.val (.ref j1), .val (.ref x1)] [(.ref j1)])) _
    refine st376 _ ?_
    show Steps p.tables e below (T376.setTop (mkF m 4 #[.val (.ref j1), .val (.ref x1)] [(.ref b376), (.ref j1)])) _
    refine XS.dup X376.here hx rfl (hb hby d49_4) rfl rfl ?_
    refine st379.trans ?_
    show Steps p.tables e below (T379.setTop (mkF m 8 #[.val (.ref j1), .val (.ref x1)] [(.ref b376), (.ref j1)])) _
    refine XS.aloadN XL386.here hx rfl (hb hby d49_8) rfl rfl ?_
    refine st396.trans ?_
    exact kt
  have wS400 : ∀ a ∈ Bundle.stringAtoms, a.before a0 Z = true := fun d hd => hw d ((by decide +kernel : ∀ d ∈ Bundle.stringAtoms, d ∈ tables_1) d hd)
  obtain ⟨b400, T400, h400, k400, d400, kb400, X400, e400, E400, hSi400, hk400, hZ, hown, A400, FC400, FV400, V400, -, -, crs400, Lt400, nn400, st400⟩ := ldcCH (s := s) (vm0 := s.vm) XL398 hx hZ hown (tw hw 259 rfl) wS400 rfl hSi0 hk397 hEL (by decide : ("com/example/orbweaver/orbweaver/mapping/JavaSource", 77) ∈ EL) cs397.1 (vs := [(.int (32 : Int32)), (.int (123 : Int32))]) (z := (2 : Int32)) ⟨by decide, rfl⟩ (by decide) (by decide) (g := (mkF m 12 #[.val (.ref j1), .val (.ref x1)] [(.ref b376), (.ref j1)])) rfl (hb hby d49_12) (n := 8) (by decide) (by decide) (by decide) (by decide)
  have f402 := (f395.keep KC396 (ninS ne_v1_b376 (ninS ne_v1_v_pa nin0)))
  have cs401 := crs400
  have cr401 := cr397.trans cs401
  have y401_v1 := cs401.safe f402.lt y397_v1
  have y401_v2_387 := cs401.safe A387.lt y_v2_387
  have Z400 := Nat.le_trans Z396 E400.1
  have K400 := K396.ext E400
  obtain ⟨ne_v1_b400, ne_v1_d400⟩ := nn400 _ y401_v1
  obtain ⟨ne_v2_387_b400, ne_v2_387_d400⟩ := nn400 _ y401_v2_387
  have f403 := ((f393.keep KC396).ext E400)
  have f404 := ((f394.keep KC396).ext E400)
  have f405 := (E387.ext E400)
  have f407 := (V387.ext E400)
  have f408 := (C387.ext E400)
  have f409 := (N387.ext E400)
  have f410 := (A387.ext E400)
  have f411 := (X387.ext E400)
  have f412 := ((f392.keep KC396 (allS g_b376 (allS g_v_pa all0))).ext E400)
  have f414 := (f402.ext E400)
  obtain ⟨cq416, kq416, q416a, q416b, q416c⟩ := isOf hZ e400 f405
  obtain ⟨_, _, ⟨T416, L416, k416, n416⟩, -, X416, ⟨Lc416, hQ416, l416, y416, z416⟩, st416⟩ := X400.virtualBack hx (y := (⟨"java/lang/StringBuilder", "append", "(Ljava/lang/String;)Ljava/lang/StringBuilder;"⟩ : MethodName)) (z := (⟨"java/lang/StringBuilder", "append", "(Ljava/lang/String;)Ljava/lang/StringBuilder;"⟩ : MethodName)) hown (mvT hZ (tw hw 57 rfl)) (mvT hZ (tw hw 58 rfl)) (notFace_of_selects (args := #[]) (mvT hZ (tw hw 60 rfl))) (mvT hZ (tw hw 60 rfl)) (mvT hZ (tw hw 59 rfl)) (by decide) (backOf (W := 1) (rmSApS l Z a0 hw [] b376 v2_387 k2_387 (own_gr (16) (0 + 1)) (0 + 1) wa_387 b400 d400 kb400 (2) [(.int (32 : Int32)), (.int (123 : Int32))] zc h400 n0 Z400 f405 f407 f408 f409 f410 f411 l2_387 hgm_387 g_b376 g_v2_387 A400 FV400 FC400 V400 rfl (by decide) (Ne.symm ne_v2_387_d400) hgl_387.1 ((by decide) : 0 + 1 + 2 ≤ own_gr (16) (0 + 1) ∨ max (0 + 1 + 2) (2 * (own_gr (16) (0 + 1)) + 2) ≤ 160) (by decide) f412 SC hzc) hZ (tw hw 61 rfl) (tw hw 38 rfl) (by decide) (by decide)) q416a q416c (g := (mkF m 14 #[.val (.ref j1), .val (.ref x1)] [(.ref b400), (.ref b376), (.ref j1)])) rfl (by rw [hml]; rfl) (Steps.refl _) (argsL := [(.ref b400)]) (rest := [(.ref j1)]) (lenOf pd__Ljava_lang_String__Ljava_lang_StringBuilder_ rfl) rfl (by show 2 * 0 + _ ≤ _; exact Nat.le_of_eq rfl) (hb hby d49_14) (fun _ _ => ⟨rfl, e400, (by decide : 5 + 1 ≤ _), (by decide : 192 + 160 ≤ _)⟩)
  dsimp only [Pt.U, Pt.locs, Pt.cells, Pt.slots] at X416 l416 y416 z416 st416 hQ416
  subst l416 y416 z416
  obtain ⟨rfl, N416q, KC416, v2_406, k2_406, wa_406, ⟨E406, V406, C406, N406, A406, X406⟩, l2_406, tk_406, g_v2_406, hv_406⟩ := hQ416
  have N416 := Fr.app NL398 N416q
  have cs417 := CHr.keep KC416 (allS (Safe.exa (EL := EL) hZ.alike f405 (by decide) (by decide)) (allS y401_v2_387 all0)) cs401.1
  have cr417 := cr401.trans cs417
  have y417_v1 := cs417.safe f414.lt y401_v1
  have hk417 := Nat.le_trans hk400 cs417.2.1
  have Z416 := Nat.le_trans Z400 KC416.1
  have K416 := K400.trans KC416 (allS (Or.inr sz_b376) (allS (Or.inr sz_v2_387) all0))
  have y_v2_406 := own_safeK KC416 (allS (Safe.exa (EL := EL) hZ.alike f405 (by decide) (by decide)) (allS y401_v2_387 all0)) cs401.1 hv_406 y401_v2_387
  have hgl_406 := @own_grle (own_gr (16) (0 + 1)) (0 + 1 + 2)
  have hgm_406 : own_gr (own_gr (16) (0 + 1)) (0 + 1 + 2) ≤ 1000 := own_grM hgm_387 (by decide) ((by decide) : 0 + 1 + 2 ≤ own_gr (16) (0 + 1) ∨ max (0 + 1 + 2) (2 * (own_gr (16) (0 + 1)) + 2) ≤ 160)
  have f418 := (f412.keep KC416 (allS g_b376 (allS g_v2_387 all0)))
  have f420 := (f403.keep KC416)
  have f423 := (f404.keep KC416)
  have f425 := (f414.keep KC416 (ninS ne_v1_b376 (ninS ne_v1_v2_387 nin0)))
  obtain ⟨cq419, kq419, q419a, q419b, q419c⟩ := isOf hZ rfl E406
  obtain ⟨_, _, ⟨T419, L419, k419, n419⟩, -, X419, ⟨Lc419, hQ419, l419, y419, z419⟩, st419⟩ := X416.virtualBack hx (y := (⟨"java/lang/StringBuilder", "toString", "()Ljava/lang/String;"⟩ : MethodName)) (z := (⟨"java/lang/StringBuilder", "toString", "()Ljava/lang/String;"⟩ : MethodName)) hown (mvT hZ (tw hw 128 rfl)) (mvT hZ (tw hw 129 rfl)) (notFace_of_selects (args := #[]) (mvT hZ (tw hw 131 rfl))) (mvT hZ (tw hw 131 rfl)) (mvT hZ (tw hw 130 rfl)) (by decide) (backOf (W := 1) (rmToS l Z a0 hw [] b376 v2_406 k2_406 (own_gr (own_gr (16) (0 + 1)) (0 + 1 + 2)) (0 + 1 + 2) wa_406 zc T416.heap n0 Z416 E406 V406 C406 N406 A406 X406 l2_406 hgm_406 g_b376 g_v2_406 hgl_406.1 (by decide) f418 SC hzc) hZ (tw hw 132 rfl) (tw hw 38 rfl) (by decide) (by decide)) q419a q419c (g := (mkF m 17 #[.val (.ref j1), .val (.ref x1)] [(.ref b376), (.ref j1)])) rfl (by rw [hml]; rfl) (Steps.refl _) (argsL := []) (rest := [(.ref j1)]) (lenOf pd___Ljava_lang_String_ rfl) rfl (by show 2 * 0 + _ ≤ _; exact Nat.le_of_eq rfl) (hb hby d49_17) (fun _ _ => ⟨rfl, rfl, (by decide : 6 + 2 ≤ _), (by decide : 352 + 132 ≤ _)⟩)
  dsimp only [Pt.U, Pt.locs, Pt.cells, Pt.slots] at X419 l419 y419 z419 st419 hQ419
  subst l419 y419 z419
  obtain ⟨x_m, rfl, N419q, EX419, le_m, t_m, k_m, ⟨E_m, V_m, C_m, A_m⟩, lt_m⟩ := hQ419
  have N419 := Fr.app N416 N419q
  have ne_v1_t_m : v1 ≠ t_m := Nat.ne_of_lt (Nat.lt_of_lt_of_le f425.lt lt_m)
  have cs427 := CHr.ext EX419 cs417.1
  have cr427 := cr417.trans cs427
  have y427_v1 := cs427.safe f425.lt y417_v1
  have hk427 := Nat.le_trans hk417 cs427.2.1
  have Z419 := Nat.le_trans Z416 EX419.1
  have K419 := K416.ext EX419
  obtain ⟨LL428, XL428, NL428⟩ : ∃ LL, Stand p l e ({ frames := 8, cells := 16, slots := 2000, locals := 205 } : Room) (s.setVm T400.vm) m #[(.ref j1), (.ref x1)] below meth c T419 LL 8 484 ∧ Fr n0 LL := ⟨_, X419, N419⟩
  have hcaps := own_caps1 (ct := ct) (dn := 0) (nx := 3) (by omega)
  obtain ⟨hcap1, hcap2, hcap3, hcap4⟩ := hcaps
  have KB0 := K419
  have f431 := (f423.ext EX419)
  have f434 := ((((((JT.ext E376).keep KC379 (ninS ne_j1_b376 nin0)).keep KC396 (ninS ne_j1_b376 (ninS ne_j1_v_pa nin0))).ext E400).keep KC416 (ninS ne_j1_b376 (ninS ne_j1_v2_387 nin0))).ext EX419)
  have f435 := ((((((JD.ext E376).keep KC379 (ninS ne_j1_b376 nin0)).keep KC396 (ninS ne_j1_b376 (ninS ne_j1_v_pa nin0))).ext E400).keep KC416 (ninS ne_j1_b376 (ninS ne_j1_v2_387 nin0))).ext EX419)
  have f436 := (f420.ext EX419)
  have f437 := ((((((BV.ext E376).keep KC379 (ninS ne_b1_b376 nin0)).keep KC396 (ninS ne_b1_b376 (ninS ne_b1_v_pa nin0))).ext E400).keep KC416 (ninS ne_b1_b376 (ninS ne_b1_v2_387 nin0))).ext EX419)
  have f438 := ((((((BC.ext E376).keep KC379 (ninS ne_b1_b376 nin0)).keep KC396 (ninS ne_b1_b376 (ninS ne_b1_v_pa nin0))).ext E400).keep KC416 (ninS ne_b1_b376 (ninS ne_b1_v2_387 nin0))).ext EX419)
  have f439 := ((((((BN.ext E376).keep KC379 (ninS ne_b1_b376 nin0)).keep KC396 (ninS ne_b1_b376 (ninS ne_b1_v_pa nin0))).ext E400).keep KC416 (ninS ne_b1_b376 (ninS ne_b1_v2_387 nin0))).ext EX419)
  have f440 := (f425.ext EX419)
  have f441 := ((((((BX.ext E376).keep KC379).keep KC396).ext E400).keep KC416).ext EX419)
  have f442 := (f418.ext EX419)
  have pre443 : ∀ t, Steps p.tables e below (T419.setTop (mkF m 20 #[.val (.ref j1), .val (.ref x1)] [(.ref x_m), (.ref j1)])) t → Steps p.tables e below (T396.setTop (mkF m 12 #[.val (.ref j1), .val (.ref x1)] [(.ref b376), (.ref j1)])) t := by
    intro t kt
    show Steps p.tables e below (T396.setTop (mkF m 12 #[.val (.ref j1), .val (.ref x1)] [(.ref b376), (.ref j1)])) _
    refine st400 _ ?_
    refine st416.trans ?_
    refine st419.trans ?_
    exact kt
  obtain ⟨cq444, kq444, q444a, q444b, q444c⟩ := isOf hZ rfl f431
  obtain ⟨_, _, ⟨T444, L444, k444, n444⟩, -, X444, hs444, hg444, ⟨Lc444, hQ444, l444, y444, z444, crs444⟩, st444⟩ := XL428.virtualBackS hx (y := (⟨"com/example/orbweaver/orbweaver/mapping/JavaSource", "line", "(Ljava/lang/String;)Lcom/example/orbweaver/orbweaver/mapping/JavaSource;"⟩ : MethodName)) (z := (⟨"com/example/orbweaver/orbweaver/mapping/JavaSource", "line", "(Ljava/lang/String;)Lcom/example/orbweaver/orbweaver/mapping/JavaSource;"⟩ : MethodName)) hown (mvT hZ (tw hw 167 rfl)) (mvT hZ (tw hw 168 rfl)) (notFace_of_selects (args := #[]) (mvT hZ (tw hw 170 rfl))) (mvT hZ (tw hw 170 rfl)) (mvT hZ (tw hw 169 rfl)) (by decide) (own_backS1 (s := s) (W := 0) (rmLine l Z a0 hw [] j1 b1 v1 k1 (150) (ct) vs x_m t_m k_m (3) (wa_406.take (3)) (0) zc T419.heap n0 Z419 hEL f431 f434 f435 f436 f437 f438 f439 f440 f441 hvl (by decide) g_b1 g_v1 E_m V_m C_m A_m (by rw [List.length_take, l2_406]; decide) (by decide) (Ne.symm ne_v1_t_m) (by omega) (by decide) hcap1 hcap2 hcap3 (by omega) f442 SC hzc) hZ (tw hw 171 rfl) (tw hw 10 rfl) (by decide) (by decide) hEL cs427.1 f440.lt y427_v1) q444a q444c (g := (mkF m 20 #[.val (.ref j1), .val (.ref x1)] [(.ref x_m), (.ref j1)])) rfl (by rw [hml]; rfl) (Steps.refl _) (argsL := [(.ref x_m)]) (rest := []) (lenOf pd__Ljava_lang_String__Lcom_example_orbweaver_orbweaver_mapping_JavaSource_ rfl) rfl (by show 2 * 0 + _ ≤ _; exact Nat.le_of_eq rfl) (hb hby d49_20) (fun _ _ => ⟨rfl, rfl, (by decide : 8 + 7 ≤ _), (by decide : 484 + 520 ≤ _)⟩)
  dsimp only [Pt.U, Pt.locs, Pt.cells, Pt.slots] at X444 l444 y444 z444 st444 hQ444 hs444 hg444 crs444
  subst l444 y444 z444
  obtain ⟨X444, hSi444, hZ, hown⟩ := rebS hSi400 (hk427) X444 hs444 hg444 hZ hown
  obtain ⟨rfl, N444q, KC444, v_tb, k_tb, ws_tb, ⟨E_tb, V_tb, C_tb, N_tb, A_tb, X_tb⟩, l_tb, tk_tb, g_v_tb, hv_tb, y_tb⟩ := hQ444
  have N444 := Fr.app NL428 N444q
  have cs445 := crs444
  have cr445 := cr427.trans cs445
  have K444 := K419.trans KC444 (allS (Or.inl mem_b1) (allS (Or.inl mem_v1) all0))
  have ne_j1_v_tb : j1 ≠ v_tb := hv_tb.elim (fun q => by rw [q]; exact ne_j1_v1) (fun q => Nat.ne_of_lt (Nat.lt_of_lt_of_le f431.lt q))
  have hcp_tb : own_gr (own_gr (own_gr (150) (ct + 4 * (0))) (ct + 4 * (0) + (3))) (ct + 4 * (0) + (3) + 1) ≤ 1000 := own_grM (own_grM (own_grM (by decide) (by decide) hcap1) (by decide) hcap2) (by decide) hcap3
  obtain ⟨LL446, XL446, NL446⟩ : ∃ LL, Stand p l e ({ frames := 8, cells := 16, slots := 2000, locals := 205 } : Room) (s.setVm T444.vm) m #[(.ref j1), (.ref x1)] below meth c T444 LL 15 1004 ∧ Fr n0 LL := ⟨_, X444, N444⟩
  have f447 := (f435.keep KC444 (ninS ne_j1_b1 (ninS ne_j1_v1 nin0)))
  obtain ⟨T448, X448, e448, st448⟩ := getF XL446 hx hZ hown (host := "") (Or.inl (tw hw 173 rfl)) Via.refl rfl f447 (g := (mkF m 26 #[.val (.ref j1), .val (.ref x1)] [(.ref j1), (.ref j1)])) rfl rfl (hb hby d49_26)
  have f449 := (f431.keep KC444)
  obtain ⟨T450, h450, X450, e450, W450, st450⟩ := putF X448 hx hZ hown (host := "") (Or.inl (tw hw 173 rfl)) Via.refl e448 f447 f449 (Or.inl (tw hw 174 rfl)) (tw hw 9 rfl) (ty := .int) (by decide) rfl rfl (g := (mkF m 31 #[.val (.ref j1), .val (.ref x1)] [(.int ((Int32.ofNat 0) + (1 : Int32))), (.ref j1)])) rfl rfl (hb hby d49_31)
  have cs451 := CHr.wr W450 (Safe.exa (EL := EL) hZ.alike f449 (by decide) (by decide)) cs445.1
  have cr451 := cr445.trans cs451
  have y451_v_tb := cs451.safe A_tb.lt y_tb
  have hk451 := Nat.le_trans (Nat.le_refl _) cs451.2.1
  have N450 := Fr.snoc X450 NL446 g_j1
  have K450 := K444.wr W450 (Or.inl mem_j1)
  have Fw450 := f447.same W450
  have ecp : own_gr (own_gr (own_gr (150) (ct + 4 * (0))) (ct + 4 * (0) + (3))) (ct + 4 * (0) + (3) + 1) = 150 := hcap4
  have ect : ct + 4 * (0) + (3) + 1 = ct + 4 := by omega
  have f452 := (f449.wr W450)
  have f453 := ((f434.keep KC444 (ninS ne_j1_b1 (ninS ne_j1_v1 nin0))).other W450 (Or.inr (slot_ne (Or.inr (tw hw 55 rfl)) (Or.inl (tw hw 174 rfl)) (by decide) (t := (.object "java/lang/StringBuilder")) (t' := .int) (by decide) (by decide))))
  have f454 := (E_tb.wr W450)
  have f455 := (V_tb.other W450 (Or.inl (Ne.symm ne_j1_b1)))
  have f456 := (C_tb.other W450 (Or.inl (Ne.symm ne_j1_b1)))
  have f457 := (N_tb.other W450 (Or.inl (Ne.symm ne_j1_b1)))
  have f458 := (A_tb.other W450 (Ne.symm ne_j1_v_tb))
  have f459 := (X_tb.wr W450)
  have pre460 : ∀ t, Steps p.tables e below (T450.setTop (mkF m 35 #[.val (.ref j1), .val (.ref x1)] [(.ref j1)])) t → Steps p.tables e below (T419.setTop (mkF m 20 #[.val (.ref j1), .val (.ref x1)] [(.ref x_m), (.ref j1)])) t := by
    intro t kt
    refine st444.trans ?_
    show Steps p.tables e below (T444.setTop (mkF m 23 #[.val (.ref j1), .val (.ref x1)] [(.ref j1)])) _
    refine XS.pop X444.here hx rfl (hb hby d49_23) rfl rfl ?_
    refine XS.aloadN X444.here hx rfl (hb hby d49_24) rfl rfl ?_
    refine XS.dup X444.here hx rfl (hb hby d49_25) rfl rfl ?_
    refine st448 _ ?_
    show Steps p.tables e below (T448.setTop (mkF m 29 #[.val (.ref j1), .val (.ref x1)] [(.int (Int32.ofNat 0)), (.ref j1)])) _
    refine XS.iconst X448.here hx rfl (hb hby d49_29) ?_
    refine XS.iadd X448.here hx rfl (hb hby d49_30) rfl ?_
    refine st450 _ ?_
    show Steps p.tables e below (T450.setTop (mkF m 34 #[.val (.ref j1), .val (.ref x1)] [])) _
    refine XS.aloadN X450.here hx rfl (hb hby d49_34) rfl rfl ?_
    exact kt
  have yf_v_tb := (CHv.at X450 hZ hEL cs451.1).safe f458.lt y451_v_tb
  obtain ⟨fs, hr, hrun, hended, e1, e2, e3, e4⟩ := X450.leaveW hSi444 (by rw [e450]; exact hk451) (v := some (.ref j1)) (fun h => by rw [Bd.returns] at h; cases h)
  refine ⟨_, _, (pre0 _ (pre399 _ (pre443 _ (pre460 _ ?_)))), hrun, hended, _, _, rfl, ?_, ?_, ⟨e1, e2, e3, e4.mono (by decide) (by decide)⟩⟩
  · show Steps p.tables e below (T450.setTop (mkF m 35 #[.val (.ref j1), .val (.ref x1)] [(.ref j1)])) _
    exact retOut X450 hx (t := (.object "com/example/orbweaver/orbweaver/mapping/JavaSource")) Bd.returns rfl (Or.inr (Or.inr (Or.inr (Or.inr ⟨rfl, rfl, rfl⟩)))) (hb hby d49_35) hr
  · show QOpen Z j1 b1 v1 k1 ct vs x1 t1 kx xs zc h0 n0 _ T450.heap _ T450.vm
    rw [e450]
    exact ⟨rfl, N450, K450, v_tb, k_tb, ws_tb, ⟨f452, f453, Fw450⟩, (by have q := (⟨f454, f455, f456, f457, f458, f459⟩ : Exa Z h450 b1 "java/lang/StringBuilder" ∧ Fld Z h450 b1 "java/lang/AbstractStringBuilder" "value" "[B" (.ref v_tb) ∧ Fld Z h450 b1 "java/lang/AbstractStringBuilder" "coder" "B" (.int (0 : Int32)) ∧ Fld Z h450 b1 "java/lang/AbstractStringBuilder" "count" "I" (.int (Int32.ofNat (ct + 4 * (0) + (3) + 1))) ∧ Arv Z h450 v_tb k_tb .byte (Int32.ofNat (own_gr (own_gr (own_gr (150) (ct + 4 * (0))) (ct + 4 * (0) + (3))) (ct + 4 * (0) + (3) + 1))) ws_tb (.int (0 : Int32)) ∧ Exa Z h450 v_tb "[B"); rw [ecp, ect] at q; exact q), by have q := l_tb; rw [ecp] at q; exact q, g_v_tb, hv_tb.imp id (fun q => Nat.le_trans KB0.1 q), yf_v_tb⟩
  · have q := cr451.trans (CHv.at X450 hZ hEL cs451.1)
    show CHr Z EL s.vm s.heap T450.vm T450.heap
    rw [hh, e450]
    exact q
theorem ef_Ctor0 (m : MethodId) (x0 : Addr) (x1 : Addr) (x2 : Addr) : entryFrame m #[(.ref x0), (.ref x1), (.ref x2)] 3 = mkF m 0 #[.val (.ref x0), .val (.ref x1), .val (.ref x2)] [] := by (first | (simp [entryFrame, mkF, argsToLocals, Value.category]; done) | rfl)
def QCtor0 (Z : State) (j1 : Addr) (x1 : Addr) (t1 : Addr) (kx : ClassId) (xs : List Value) (y1 : Addr) (u1 : Addr) (ky : ClassId) (ys : List Value) (zc : Int32) (h0 : Heap) (n0 : Nat) (v : Option Value) (h : Heap) (L : List Loc) (vm : Vm) : Prop := v = none ∧ Fr n0 L ∧ Keep h0 h [j1] ∧ ∃ (b1 v1 : Addr) (k1 : ClassId) (vs : List Value), (Exa Z h j1 "com/example/orbweaver/orbweaver/mapping/JavaSource" ∧ Fld Z h j1 "com/example/orbweaver/orbweaver/mapping/JavaSource" "text" "Ljava/lang/StringBuilder;" (.ref b1) ∧ Fld Z h j1 "com/example/orbweaver/orbweaver/mapping/JavaSource" "depth" "I" (.int (0 : Int32))) ∧ (Exa Z h b1 "java/lang/StringBuilder" ∧ Fld Z h b1 "java/lang/AbstractStringBuilder" "value" "[B" (.ref v1) ∧ Fld Z h b1 "java/lang/AbstractStringBuilder" "coder" "B" (.int (0 : Int32)) ∧ Fld Z h b1 "java/lang/AbstractStringBuilder" "count" "I" (.int (Int32.ofNat 76)) ∧ Arv Z h v1 k1 .byte (Int32.ofNat 150) vs (.int (0 : Int32)) ∧ Exa Z h v1 "[B") ∧ vs.length = 150 ∧ h0.size ≤ b1 ∧ h0.size ≤ v1 ∧ Safe Z EL vm h v1
theorem d6_0 : decode prog_171_method_1_code 0 = .ok (.aload_n 0, 1) := by decide +kernel
theorem d6_1 : decode prog_171_method_1_code 1 = .ok (.invokespecial 1, 3) := by decide +kernel
theorem d6_4 : decode prog_171_method_1_code 4 = .ok (.aload_n 0, 1) := by decide +kernel
theorem d6_5 : decode prog_171_method_1_code 5 = .ok (.new 7, 3) := by decide +kernel
theorem d6_8 : decode prog_171_method_1_code 8 = .ok (.dup, 1) := by decide +kernel
theorem d6_9 : decode prog_171_method_1_code 9 = .ok (.invokespecial 9, 3) := by decide +kernel
theorem d6_12 : decode prog_171_method_1_code 12 = .ok (.putfield 10, 3) := by decide +kernel
theorem d6_15 : decode prog_171_method_1_code 15 = .ok (.aload_n 0, 1) := by decide +kernel
theorem d6_16 : decode prog_171_method_1_code 16 = .ok (.new 7, 3) := by decide +kernel
theorem d6_19 : decode prog_171_method_1_code 19 = .ok (.dup, 1) := by decide +kernel
theorem d6_20 : decode prog_171_method_1_code 20 = .ok (.invokespecial 9, 3) := by decide +kernel
theorem d6_23 : decode prog_171_method_1_code 23 = .ok (.ldc 16, 2) := by decide +kernel
theorem d6_25 : decode prog_171_method_1_code 25 = .ok (.invokevirtual 18, 3) := by decide +kernel
theorem d6_28 : decode prog_171_method_1_code 28 = .ok (.aload_n 1, 1) := by decide +kernel
theorem d6_29 : decode prog_171_method_1_code 29 = .ok (.invokevirtual 18, 3) := by decide +kernel
theorem d6_32 : decode prog_171_method_1_code 32 = .ok (.ldc 22, 2) := by decide +kernel
theorem d6_34 : decode prog_171_method_1_code 34 = .ok (.invokevirtual 18, 3) := by decide +kernel
theorem d6_37 : decode prog_171_method_1_code 37 = .ok (.invokevirtual 24, 3) := by decide +kernel
theorem d6_40 : decode prog_171_method_1_code 40 = .ok (.invokevirtual 28, 3) := by decide +kernel
theorem d6_43 : decode prog_171_method_1_code 43 = .ok (.pop, 1) := by decide +kernel
theorem d6_44 : decode prog_171_method_1_code 44 = .ok (.aload_n 2, 1) := by decide +kernel
theorem d6_45 : decode prog_171_method_1_code 45 = .ok (.invokevirtual 32, 3) := by decide +kernel
theorem d6_48 : decode prog_171_method_1_code 48 = .ok (.ifCond .ne 37, 3) := by decide +kernel
theorem d6_85 : decode prog_171_method_1_code 85 = .ok (.aload_n 0, 1) := by decide +kernel
theorem d6_86 : decode prog_171_method_1_code 86 = .ok (.invokevirtual 38, 3) := by decide +kernel
theorem pd___Lcom_example_orbweaver_orbweaver_mapping_JavaSource_ : parseMethodDescriptor "()Lcom/example/orbweaver/orbweaver/mapping/JavaSource;" = some ⟨[], some (.object "com/example/orbweaver/orbweaver/mapping/JavaSource")⟩ := by decide +kernel
theorem d6_89 : decode prog_171_method_1_code 89 = .ok (.pop, 1) := by decide +kernel
theorem d6_90 : decode prog_171_method_1_code 90 = .ok (.return_, 1) := by decide +kernel
set_option maxRecDepth 65536 in
set_option maxHeartbeats 40000000 in
theorem rmCtor0 (l : Launch) (Z : State) (a0 : Array Value) (hw : ∀ d ∈ tables_1, d.before a0 Z = true) (ws : List Jvm.Cond) (j1 : Addr) (x1 : Addr) (t1 : Addr) (kx : ClassId) (xs : List Value) (y1 : Addr) (u1 : Addr) (ky : ClassId) (ys : List Value) (zc : Int32) (h0 : Heap) (n0 : Nat) (Z0 : n0 ≤ h0.size) (hEL : EW Z a0 EL) (JE : Exa Z h0 j1 "com/example/orbweaver/orbweaver/mapping/JavaSource") (JT0 : Fld Z h0 j1 "com/example/orbweaver/orbweaver/mapping/JavaSource" "text" "Ljava/lang/StringBuilder;" .null) (JD : Fld Z h0 j1 "com/example/orbweaver/orbweaver/mapping/JavaSource" "depth" "I" (.int (0 : Int32))) (g_j1 : n0 ≤ j1) (XE : Exa Z h0 x1 "java/lang/String") (XV : Fld Z h0 x1 "java/lang/String" "value" "[B" (.ref t1)) (XC : Fld Z h0 x1 "java/lang/String" "coder" "B" (.int (0 : Int32))) (XA : Arv Z h0 t1 kx .byte (Int32.ofNat 1) xs (.int (0 : Int32))) (hxl : xs.length = 1) (YE : Exa Z h0 y1 "java/lang/String") (YV : Fld Z h0 y1 "java/lang/String" "value" "[B" (.ref u1)) (YA : Arv Z h0 u1 ky .byte (Int32.ofNat 0) ys (.int (0 : Int32))) (OZ : Old Z n0 h0) (SC : Sta Z Z.heap "java/lang/String" "COMPACT_STRINGS" "Z" (.int zc)) (hzc : ¬ zc = (0 : Int32)) :
    MetFree l (⟨"com/example/orbweaver/orbweaver/mapping/JavaSource", "<init>", "(Ljava/lang/String;Ljava/lang/String;)V"⟩ : MethodName) (head1 (Jvm.Cond.code (⟨"com/example/orbweaver/orbweaver/mapping/JavaSource", "<init>", "(Ljava/lang/String;Ljava/lang/String;)V"⟩ : MethodName) prog_171_method_1_code 3 none :: ws) ({ frames := 8, cells := 22, slots := 2400, locals := 205 } : Room)) (fun a U => a = #[(.ref j1), (.ref x1), (.ref y1)] ∧ Z.Warmed39 U.vm ∧ U.heap = h0 ∧ CHv Z EL U.vm h0) (fun _ _ _ _ _ => True) (fun _ U o U' => ∃ v L, o = .returned v ∧ QCtor0 Z j1 x1 t1 kx xs y1 u1 ky ys zc h0 n0 v U'.heap L U'.vm ∧ CHr Z EL U.vm U.heap U'.vm U'.heap ∧ ReturnedEndW U o U' L ({ frames := 8, cells := 22, slots := 2400, locals := 205 } : Room).cells ({ frames := 8, cells := 22, slots := 2400, locals := 205 } : Room).slots) := by
  refine MetFree.of_bodySF (plainFor_of_name pn_com_example_orbweaver_orbweaver_mapping_JavaSource) hisR ?_
  intro p e s m args below meth c s₁ Bd hml0 hP hK
  obtain ⟨rfl, hZ, hh, hCH⟩ := hP
  have hx := Bd.exec
  have hby := Bd.bytes
  have hml : c.maxLocals = 3 := hml0
  have hown : s.vm.findClass "com/example/orbweaver/orbweaver/mapping/JavaSource" = some m.cls := findClass_of_methodNamed Bd.named
  have hnm := (name_of_methodNamed Bd.named Bd.method).1
  have X0 : Stand p l e ({ frames := 8, cells := 22, slots := 2400, locals := 205 } : Room) s m #[(.ref j1), (.ref x1), (.ref y1)] below meth c s₁ [] 0 0 := Stand.of_body Bd
  have e0 : s₁.heap = h0 := by rw [← hh, Bd.state]; rfl
  have N0 := Fr.nil n0
  have pre0 : ∀ t, Steps p.tables e below (s₁.setTop (mkF m 0 #[.val (.ref j1), .val (.ref x1), .val (.ref y1)] [])) t → Steps p.tables e below (s₁.setTop (entryFrame m #[(.ref j1), (.ref x1), (.ref y1)] 3)) t := fun t k => castTop (ef_Ctor0 m j1 x1 y1) k
  have X0 : Stand p l e ({ frames := 8, cells := 22, slots := 2400, locals := 205 } : Room) (s.setVm s.vm) m #[(.ref j1), (.ref x1), (.ref y1)] below meth c s₁ [] 0 0 := by rw [State.setVm_self]; exact X0
  have hZ : Z.Warmed39 (s.setVm s.vm).vm := hZ
  have hown : (s.setVm s.vm).vm.findClass "com/example/orbweaver/orbweaver/mapping/JavaSource" = some m.cls := hown
  have hSi0 : s.Since s.vm 0 := (State.WarmedH.refl s).since 0
  have mem_j1 : j1 ∈ [j1] := List.mem_of_getElem? (i := 0) rfl
  have ne_x1_j1 : x1 ≠ j1 := XE.ne JE (by decide)
  have ne_y1_j1 : y1 ≠ j1 := YE.ne JE (by decide)
  have ne_j1_t1 : j1 ≠ t1 := JE.neArv XA (tw hw 9 rfl)
  have ne_j1_u1 : j1 ≠ u1 := JE.neArv YA (tw hw 9 rfl)
  obtain ⟨T461, X461, e461, st461⟩ := initO X0 hx hZ hown (tw hw 35 rfl) (tw hw 28 rfl) (tw hw 29 rfl) e0 (g := (mkF m 1 #[.val (.ref j1), .val (.ref x1), .val (.ref y1)] [(.ref j1)])) rfl (by rw [hml]; rfl) rfl (hb hby d6_1) (by decide) (W := 0) (by show 2 * 0 + _ ≤ _; exact Nat.le_of_eq rfl) (by decide)
  obtain ⟨T462, h462, X462, e462, E462, A462, D462, -, st462⟩ := newO X461 hx hZ hown (tw hw 36 rfl) (tw hw 37 rfl) (tw hw 38 rfl) e461 (g := (mkF m 5 #[.val (.ref j1), .val (.ref x1), .val (.ref y1)] [(.ref j1)])) rfl (hb hby d6_5) (by decide) (by decide)
  obtain ⟨b462, g462⟩ : ∃ z, z = h0.size := ⟨_, rfl⟩
  rw [← g462] at A462 D462 st462
  have g_b462 : n0 ≤ b462 := Nat.le_trans Z0 (Nat.le_of_eq g462.symm)
  have sz_b462 : h0.size ≤ b462 := Nat.le_trans (Keep.refl h0 [j1]).1 (Nat.le_of_eq g462.symm)
  have ne_u1_b462 : u1 ≠ b462 := Nat.ne_of_lt (Nat.lt_of_lt_of_le YA.lt (Nat.le_of_eq g462.symm))
  have ne_x1_b462 : x1 ≠ b462 := Nat.ne_of_lt (Nat.lt_of_lt_of_le XE.lt (Nat.le_of_eq g462.symm))
  have ne_y1_b462 : y1 ≠ b462 := Nat.ne_of_lt (Nat.lt_of_lt_of_le YE.lt (Nat.le_of_eq g462.symm))
  have ne_t1_b462 : t1 ≠ b462 := Nat.ne_of_lt (Nat.lt_of_lt_of_le XA.lt (Nat.le_of_eq g462.symm))
  have ne_j1_b462 : j1 ≠ b462 := Nat.ne_of_lt (Nat.lt_of_lt_of_le JE.lt (Nat.le_of_eq g462.symm))
  have cs463 := CHr.ext E462 hCH
  have cr463 := (CHr.refl hCH).trans cs463
  have hk463 := Nat.le_trans (Nat.zero_le _) cs463.2.1
  have Z462 := Nat.le_trans Z0 E462.1
  have K462 := (Keep.refl h0 [j1]).ext E462
  have F462_value : Fld Z h462 b462 "java/lang/AbstractStringBuilder" "value" "[B" .null := D462 (Or.inl (tw hw 51 rfl)) (ty := (.array .byte)) (by decide)
  have F462_coder : Fld Z h462 b462 "java/lang/AbstractStringBuilder" "coder" "B" (.int (0 : Int32)) := D462 (Or.inl (tw hw 53 rfl)) (ty := .byte) (by decide)
  have F462_count : Fld Z h462 b462 "java/lang/AbstractStringBuilder" "count" "I" (.int (0 : Int32)) := D462 (Or.inl (tw hw 78 rfl)) (ty := .int) (by decide)
  have f464 := (OZ.ext E462)
  have f466 := (JE.ext E462)
  have f467 := (XA.ext E462)
  have f468 := (YA.ext E462)
  have f469 := (XE.ext E462)
  have f470 := (YE.ext E462)
  obtain ⟨_, _, ⟨T465, L465, k465, n465⟩, -, X465, ⟨Lc465, hQ465, l465, y465, z465⟩, st465⟩ := X462.specialBack hx (y := (⟨"java/lang/StringBuilder", "<init>", "()V"⟩ : MethodName)) rfl hown (mvT hZ (tw hw 39 rfl)) (mvT hZ (tw hw 40 rfl)) (mvT hZ (tw hw 41 rfl)) (by decide) (backOf (W := 2) (rmSInit l Z a0 hw [] b462 zc h462 n0 Z462 A462 F462_value F462_coder F462_count g_b462 f464 SC hzc) hZ (tw hw 41 rfl) (tw hw 38 rfl) (by decide) (by decide)) (g := (mkF m 9 #[.val (.ref j1), .val (.ref x1), .val (.ref y1)] [(.ref b462), (.ref b462), (.ref j1)])) rfl (by rw [hml]; rfl) (Steps.refl _) (a := b462) (argsL := []) (rest := [(.ref b462), (.ref j1)]) (lenOf pd___V rfl) rfl (by show 2 * 0 + _ ≤ _; exact Nat.le_of_eq rfl) (hb hby d6_9) (fun _ _ => ⟨rfl, e462, (by decide : 1 + 1 ≤ _), (by decide : 4 + 16 ≤ _)⟩)
  dsimp only [Pt.U, Pt.locs, Pt.cells, Pt.slots] at X465 l465 y465 z465 st465 hQ465
  subst l465 y465 z465
  obtain ⟨rfl, N465q, KC465, v_ta, k_ta, ⟨E_ta, V_ta, C_ta, N_ta, A_ta, X_ta⟩, le_ta⟩ := hQ465
  have N465 := Fr.app N0 N465q
  have g_v_ta : n0 ≤ v_ta := Nat.le_trans Z462 le_ta
  have sz_v_ta : h0.size ≤ v_ta := Nat.le_trans K462.1 le_ta
  have ne_b462_v_ta : b462 ≠ v_ta := Nat.ne_of_lt (Nat.lt_of_lt_of_le A462.lt le_ta)
  have ne_j1_v_ta : j1 ≠ v_ta := Nat.ne_of_lt (Nat.lt_of_lt_of_le f466.lt le_ta)
  have ne_u1_v_ta : u1 ≠ v_ta := Nat.ne_of_lt (Nat.lt_of_lt_of_le f468.lt le_ta)
  have ne_y1_v_ta : y1 ≠ v_ta := Nat.ne_of_lt (Nat.lt_of_lt_of_le f470.lt le_ta)
  have cs471 := CHr.keep KC465 (allS (Safe.exa (EL := EL) hZ.alike A462 (by decide) (by decide)) all0) cs463.1
  have cr471 := cr463.trans cs471
  have hk471 := Nat.le_trans hk463 cs471.2.1
  have Z465 := Nat.le_trans Z462 KC465.1
  have K465 := K462.trans KC465 (allS (Or.inr sz_b462) all0)
  have y_ta := own_safeK (y := b462) KC465 (allS (Safe.exa (EL := EL) hZ.alike A462 (by decide) (by decide)) all0) cs463.1 (Or.inr le_ta) (Safe.exa (EL := EL) hZ.alike A462 (by decide) (by decide))
  have ne_b462_v_ta : b462 ≠ v_ta := E_ta.neArv A_ta (tw hw 37 rfl)
  have f472 := ((JT0.ext E462).keep KC465 (ninS ne_j1_b462 nin0))
  have f473 := (f466.keep KC465)
  obtain ⟨T474, h474, X474, e474, W474, st474⟩ := putF X465 hx hZ hown (host := "") (Or.inl (tw hw 54 rfl)) Via.refl rfl f472 f473 (Or.inr ⟨(tw hw 55 rfl), rfl, hnm⟩) (tw hw 9 rfl) (ty := (.object "java/lang/StringBuilder")) (by decide) rfl rfl (g := (mkF m 12 #[.val (.ref j1), .val (.ref x1), .val (.ref y1)] [(.ref b462), (.ref j1)])) rfl rfl (hb hby d6_12)
  have cs475 := CHr.wr W474 (Safe.exa (EL := EL) hZ.alike f473 (by decide) (by decide)) cs471.1
  have cr475 := cr471.trans cs475
  have y475_v_ta := cs475.safe A_ta.lt y_ta
  have hk475 := Nat.le_trans hk471 cs475.2.1
  have N474 := Fr.snoc X474 N465 g_j1
  have Z474 := Nat.le_trans Z465 (Keep.of_wr W474).1
  have K474 := K465.wr W474 (Or.inl mem_j1)
  have Fw474 := f472.same W474
  obtain ⟨T476, h476, X476, e476, E476, A476, D476, -, st476⟩ := newO X474 hx hZ hown (tw hw 36 rfl) (tw hw 37 rfl) (tw hw 38 rfl) e474 (g := (mkF m 16 #[.val (.ref j1), .val (.ref x1), .val (.ref y1)] [(.ref j1)])) rfl (hb hby d6_16) (by decide) (by decide)
  obtain ⟨b476, g476⟩ : ∃ z, z = h474.size := ⟨_, rfl⟩
  rw [← g476] at A476 D476 st476
  have g_b476 : n0 ≤ b476 := Nat.le_trans Z474 (Nat.le_of_eq g476.symm)
  have sz_b476 : h0.size ≤ b476 := Nat.le_trans K474.1 (Nat.le_of_eq g476.symm)
  have f477 := ((f468.keep KC465 (ninS ne_u1_b462 nin0)).other W474 (Ne.symm ne_j1_u1))
  have ne_u1_b476 : u1 ≠ b476 := Nat.ne_of_lt (Nat.lt_of_lt_of_le f477.lt (Nat.le_of_eq g476.symm))
  have f478 := ((f469.keep KC465).wr W474)
  have ne_x1_b476 : x1 ≠ b476 := Nat.ne_of_lt (Nat.lt_of_lt_of_le f478.lt (Nat.le_of_eq g476.symm))
  have f479 := (A_ta.other W474 (Ne.symm ne_j1_v_ta))
  have ne_v_ta_b476 : v_ta ≠ b476 := Nat.ne_of_lt (Nat.lt_of_lt_of_le f479.lt (Nat.le_of_eq g476.symm))
  have f480 := ((f470.keep KC465).wr W474)
  have ne_y1_b476 : y1 ≠ b476 := Nat.ne_of_lt (Nat.lt_of_lt_of_le f480.lt (Nat.le_of_eq g476.symm))
  have f481 := ((f467.keep KC465 (ninS ne_t1_b462 nin0)).other W474 (Ne.symm ne_j1_t1))
  have ne_t1_b476 : t1 ≠ b476 := Nat.ne_of_lt (Nat.lt_of_lt_of_le f481.lt (Nat.le_of_eq g476.symm))
  have f482 := (f473.wr W474)
  have ne_j1_b476 : j1 ≠ b476 := Nat.ne_of_lt (Nat.lt_of_lt_of_le f482.lt (Nat.le_of_eq g476.symm))
  have f483 := (E_ta.wr W474)
  have ne_b462_b476 : b462 ≠ b476 := Nat.ne_of_lt (Nat.lt_of_lt_of_le f483.lt (Nat.le_of_eq g476.symm))
  have cs484 := CHr.ext E476 cs475.1
  have cr484 := cr475.trans cs484
  have y484_v_ta := cs484.safe f479.lt y475_v_ta
  have hk484 := Nat.le_trans hk475 cs484.2.1
  have Z476 := Nat.le_trans Z474 E476.1
  have K476 := K474.ext E476
  have F476_value : Fld Z h476 b476 "java/lang/AbstractStringBuilder" "value" "[B" .null := D476 (Or.inl (tw hw 51 rfl)) (ty := (.array .byte)) (by decide)
  have F476_coder : Fld Z h476 b476 "java/lang/AbstractStringBuilder" "coder" "B" (.int (0 : Int32)) := D476 (Or.inl (tw hw 53 rfl)) (ty := .byte) (by decide)
  have F476_count : Fld Z h476 b476 "java/lang/AbstractStringBuilder" "count" "I" (.int (0 : Int32)) := D476 (Or.inl (tw hw 78 rfl)) (ty := .int) (by decide)
  have f485 := (((f464.keep KC465 (allS g_b462 all0)).wr W474 g_j1).ext E476)
  have f487 := (f483.ext E476)
  have f488 := (f482.ext E476)
  have f489 := (f481.ext E476)
  have f490 := (f477.ext E476)
  have f491 := (f479.ext E476)
  have f492 := (f478.ext E476)
  have f493 := (f480.ext E476)
  obtain ⟨_, _, ⟨T486, L486, k486, n486⟩, -, X486, ⟨Lc486, hQ486, l486, y486, z486⟩, st486⟩ := X476.specialBack hx (y := (⟨"java/lang/StringBuilder", "<init>", "()V"⟩ : MethodName)) rfl hown (mvT hZ (tw hw 39 rfl)) (mvT hZ (tw hw 40 rfl)) (mvT hZ (tw hw 41 rfl)) (by decide) (backOf (W := 2) (rmSInit l Z a0 hw [] b476 zc h476 n0 Z476 A476 F476_value F476_coder F476_count g_b476 f485 SC hzc) hZ (tw hw 41 rfl) (tw hw 38 rfl) (by decide) (by decide)) (g := (mkF m 20 #[.val (.ref j1), .val (.ref x1), .val (.ref y1)] [(.ref b476), (.ref b476), (.ref j1)])) rfl (by rw [hml]; rfl) (Steps.refl _) (a := b476) (argsL := []) (rest := [(.ref b476), (.ref j1)]) (lenOf pd___V rfl) rfl (by show 2 * 0 + _ ≤ _; exact Nat.le_of_eq rfl) (hb hby d6_20) (fun _ _ => ⟨rfl, e476, (by decide : 3 + 1 ≤ _), (by decide : 24 + 16 ≤ _)⟩)
  dsimp only [Pt.U, Pt.locs, Pt.cells, Pt.slots] at X486 l486 y486 z486 st486 hQ486
  subst l486 y486 z486
  obtain ⟨rfl, N486q, KC486, v_pa, k_pa, ⟨E_pa, V_pa, C_pa, N_pa, A_pa, X_pa⟩, le_pa⟩ := hQ486
  have N486 := Fr.app N474 N486q
  have g_v_pa : n0 ≤ v_pa := Nat.le_trans Z476 le_pa
  have sz_v_pa : h0.size ≤ v_pa := Nat.le_trans K476.1 le_pa
  have ne_b462_v_pa : b462 ≠ v_pa := Nat.ne_of_lt (Nat.lt_of_lt_of_le f487.lt le_pa)
  have ne_b476_v_pa : b476 ≠ v_pa := Nat.ne_of_lt (Nat.lt_of_lt_of_le A476.lt le_pa)
  have ne_j1_v_pa : j1 ≠ v_pa := Nat.ne_of_lt (Nat.lt_of_lt_of_le f488.lt le_pa)
  have ne_t1_v_pa : t1 ≠ v_pa := Nat.ne_of_lt (Nat.lt_of_lt_of_le f489.lt le_pa)
  have ne_u1_v_pa : u1 ≠ v_pa := Nat.ne_of_lt (Nat.lt_of_lt_of_le f490.lt le_pa)
  have ne_v_ta_v_pa : v_ta ≠ v_pa := Nat.ne_of_lt (Nat.lt_of_lt_of_le f491.lt le_pa)
  have ne_x1_v_pa : x1 ≠ v_pa := Nat.ne_of_lt (Nat.lt_of_lt_of_le f492.lt le_pa)
  have ne_y1_v_pa : y1 ≠ v_pa := Nat.ne_of_lt (Nat.lt_of_lt_of_le f493.lt le_pa)
  have cs494 := CHr.keep KC486 (allS (Safe.exa (EL := EL) hZ.alike A476 (by decide) (by decide)) all0) cs484.1
  have cr494 := cr484.trans cs494
  have y494_v_ta := cs494.safe f491.lt y484_v_ta
  have hk494 := Nat.le_trans hk484 cs494.2.1
  have Z486 := Nat.le_trans Z476 KC486.1
  have K486 := K476.trans KC486 (allS (Or.inr sz_b476) all0)
  have y_pa := own_safeK (y := b476) KC486 (allS (Safe.exa (EL := EL) hZ.alike A476 (by decide) (by decide)) all0) cs484.1 (Or.inr le_pa) (Safe.exa (EL := EL) hZ.alike A476 (by decide) (by decide))
  have ne_b476_v_pa : b476 ≠ v_pa := E_pa.neArv A_pa (tw hw 37 rfl)
  obtain ⟨LL495, XL495, NL495⟩ : ∃ LL, Stand p l e ({ frames := 8, cells := 22, slots := 2400, locals := 205 } : Room) (s.setVm s.vm) m #[(.ref j1), (.ref x1), (.ref y1)] below meth c T486 LL 4 40 ∧ Fr n0 LL := ⟨_, X486, N486⟩
  have pre496 : ∀ t, Steps p.tables e below (T486.setTop (mkF m 23 #[.val (.ref j1), .val (.ref x1), .val (.ref y1)] [(.ref b476), (.ref j1)])) t → Steps p.tables e below (s₁.setTop (mkF m 0 #[.val (.ref j1), .val (.ref x1), .val (.ref y1)] [])) t := by
    intro t kt
    show Steps p.tables e below (s₁.setTop (mkF m 0 #[.val (.ref j1), .val (.ref x1), .val (.ref y1)] [])) _
    refine XS.aloadN X0.here hx rfl (hb hby d6_0) rfl rfl ?_
    show Steps p.tables e below (s₁.setTop (mkF m 1 #[.val (.ref j1), .val (.ref x1), .val (.ref y1)] [(.ref j1)])) _
    refine st461 _ ?_
    show Steps p.tables e below (T461.setTop (mkF m 4 #[.val (.ref j1), .val (.ref x1), .val (.ref y1)] [])) _
    refine XS.aloadN X461.here hx rfl (hb hby d6_4) rfl rfl ?_
    show Steps p.tables e below (T461.setTop (mkF m 5 #[.val (.ref j1), .val (.ref x1), .val (.ref y1)] [(.ref j1)])) _
    refine st462 _ ?_
    show Steps p.tables e below (T462.setTop (mkF m 8 #[.val (.ref j1), .val (.ref x1), .val (.ref y1)] [(.ref b462), (.ref j1)])) _
    refine XS.dup X462.here hx rfl (hb hby d6_8) rfl rfl ?_
    refine st465.trans ?_
    refine st474 _ ?_
    show Steps p.tables e below (T474.setTop (mkF m 15 #[.val (.ref j1), .val (.ref x1), .val (.ref y1)] [])) _
    refine XS.aloadN X474.here hx rfl (hb hby d6_15) rfl rfl ?_
    show Steps p.tables e below (T474.setTop (mkF m 16 #[.val (.ref j1), .val (.ref x1), .val (.ref y1)] [(.ref j1)])) _
    refine st476 _ ?_
    show Steps p.tables e below (T476.setTop (mkF m 19 #[.val (.ref j1), .val (.ref x1), .val (.ref y1)] [(.ref b476), (.ref j1)])) _
    refine XS.dup X476.here hx rfl (hb hby d6_19) rfl rfl ?_
    refine st486.trans ?_
    exact kt
  have wS497 : ∀ a ∈ Bundle.stringAtoms, a.before a0 Z = true := fun d hd => hw d ((by decide +kernel : ∀ d ∈ Bundle.stringAtoms, d ∈ tables_1) d hd)
  obtain ⟨b497, T497, h497, k497, d497, kb497, X497, e497, E497, hSi497, hk497, hZ, hown, A497, FC497, FV497, V497, -, -, crs497, Lt497, nn497, st497⟩ := ldcCH (s := s) (vm0 := s.vm) XL495 hx hZ hown (tw hw 56 rfl) wS497 rfl hSi0 hk494 hEL (by decide : ("com/example/orbweaver/orbweaver/mapping/JavaSource", 16) ∈ EL) cs494.1 (vs := [(.int (47 : Int32)), (.int (47 : Int32)), (.int (32 : Int32)), (.int (71 : Int32)), (.int (101 : Int32)), (.int (110 : Int32)), (.int (101 : Int32)), (.int (114 : Int32)), (.int (97 : Int32)), (.int (116 : Int32)), (.int (101 : Int32)), (.int (100 : Int32)), (.int (32 : Int32)), (.int (98 : Int32)), (.int (121 : Int32)), (.int (32 : Int32)), (.int (111 : Int32)), (.int (114 : Int32)), (.int (98 : Int32)), (.int (119 : Int32)), (.int (101 : Int32)), (.int (97 : Int32)), (.int (118 : Int32)), (.int (101 : Int32)), (.int (114 : Int32)), (.int (32 : Int32)), (.int (105 : Int32)), (.int (100 : Int32)), (.int (108 : Int32)), (.int (32 : Int32)), (.int (102 : Int32)), (.int (114 : Int32)), (.int (111 : Int32)), (.int (109 : Int32)), (.int (32 : Int32))]) (z := (35 : Int32)) ⟨by decide, rfl⟩ (by decide) (by decide) (g := (mkF m 23 #[.val (.ref j1), .val (.ref x1), .val (.ref y1)] [(.ref b476), (.ref j1)])) rfl (hb hby d6_23) (n := 140) (by decide) (by decide) (by decide) (by decide)
  have f499 := (f491.keep KC486 (ninS ne_v_ta_b476 nin0))
  have cs498 := crs497
  have cr498 := cr494.trans cs498
  have y498_v_ta := cs498.safe f499.lt y494_v_ta
  have y498_v_pa := cs498.safe A_pa.lt y_pa
  have Z497 := Nat.le_trans Z486 E497.1
  have K497 := K486.ext E497
  obtain ⟨ne_v_pa_b497, ne_v_pa_d497⟩ := nn497 _ y498_v_pa
  obtain ⟨ne_v_ta_b497, ne_v_ta_d497⟩ := nn497 _ y498_v_ta
  have f500 := ((f488.keep KC486).ext E497)
  have f501 := ((f487.keep KC486).ext E497)
  have f502 := (E_pa.ext E497)
  have f504 := (V_pa.ext E497)
  have f505 := (C_pa.ext E497)
  have f506 := (N_pa.ext E497)
  have f507 := (A_pa.ext E497)
  have f508 := (X_pa.ext E497)
  have f509 := ((f485.keep KC486 (allS g_b476 all0)).ext E497)
  have f510 := ((f489.keep KC486 (ninS ne_t1_b476 nin0)).ext E497)
  have f511 := ((f490.keep KC486 (ninS ne_u1_b476 nin0)).ext E497)
  have f512 := (f499.ext E497)
  have f513 := ((f492.keep KC486).ext E497)
  have f514 := ((f493.keep KC486).ext E497)
  obtain ⟨cq515, kq515, q515a, q515b, q515c⟩ := isOf hZ e497 f502
  obtain ⟨_, _, ⟨T515, L515, k515, n515⟩, -, X515, ⟨Lc515, hQ515, l515, y515, z515⟩, st515⟩ := X497.virtualBack hx (y := (⟨"java/lang/StringBuilder", "append", "(Ljava/lang/String;)Ljava/lang/StringBuilder;"⟩ : MethodName)) (z := (⟨"java/lang/StringBuilder", "append", "(Ljava/lang/String;)Ljava/lang/StringBuilder;"⟩ : MethodName)) hown (mvT hZ (tw hw 57 rfl)) (mvT hZ (tw hw 58 rfl)) (notFace_of_selects (args := #[]) (mvT hZ (tw hw 60 rfl))) (mvT hZ (tw hw 60 rfl)) (mvT hZ (tw hw 59 rfl)) (by decide) (backOf (W := 1) (rmSApS l Z a0 hw [] b476 v_pa k_pa (16) (0) (List.replicate 16 (.int (0 : Int32))) b497 d497 kb497 (35) [(.int (47 : Int32)), (.int (47 : Int32)), (.int (32 : Int32)), (.int (71 : Int32)), (.int (101 : Int32)), (.int (110 : Int32)), (.int (101 : Int32)), (.int (114 : Int32)), (.int (97 : Int32)), (.int (116 : Int32)), (.int (101 : Int32)), (.int (100 : Int32)), (.int (32 : Int32)), (.int (98 : Int32)), (.int (121 : Int32)), (.int (32 : Int32)), (.int (111 : Int32)), (.int (114 : Int32)), (.int (98 : Int32)), (.int (119 : Int32)), (.int (101 : Int32)), (.int (97 : Int32)), (.int (118 : Int32)), (.int (101 : Int32)), (.int (114 : Int32)), (.int (32 : Int32)), (.int (105 : Int32)), (.int (100 : Int32)), (.int (108 : Int32)), (.int (32 : Int32)), (.int (102 : Int32)), (.int (114 : Int32)), (.int (111 : Int32)), (.int (109 : Int32)), (.int (32 : Int32))] zc h497 n0 Z497 f502 f504 f505 f506 f507 f508 (by simp) (by decide) g_b476 g_v_pa A497 FV497 FC497 V497 rfl (by decide) (Ne.symm ne_v_pa_d497) (by decide) ((by decide) : 0 + 35 ≤ 16 ∨ max (0 + 35) (2 * (16) + 2) ≤ 160) (by decide) f509 SC hzc) hZ (tw hw 61 rfl) (tw hw 38 rfl) (by decide) (by decide)) q515a q515c (g := (mkF m 25 #[.val (.ref j1), .val (.ref x1), .val (.ref y1)] [(.ref b497), (.ref b476), (.ref j1)])) rfl (by rw [hml]; rfl) (Steps.refl _) (argsL := [(.ref b497)]) (rest := [(.ref j1)]) (lenOf pd__Ljava_lang_String__Ljava_lang_StringBuilder_ rfl) rfl (by show 2 * 0 + _ ≤ _; exact Nat.le_of_eq rfl) (hb hby d6_25) (fun _ _ => ⟨rfl, e497, (by decide : 6 + 1 ≤ _), (by decide : 184 + 160 ≤ _)⟩)
  dsimp only [Pt.U, Pt.locs, Pt.cells, Pt.slots] at X515 l515 y515 z515 st515 hQ515
  subst l515 y515 z515
  obtain ⟨rfl, N515q, KC515, v2_503, k2_503, wa_503, ⟨E503, V503, C503, N503, A503, X503⟩, l2_503, tk_503, g_v2_503, hv_503⟩ := hQ515
  have N515 := Fr.app NL495 N515q
  have cs516 := CHr.keep KC515 (allS (Safe.exa (EL := EL) hZ.alike f502 (by decide) (by decide)) (allS y498_v_pa all0)) cs498.1
  have cr516 := cr498.trans cs516
  have y516_v_ta := cs516.safe f512.lt y498_v_ta
  have hk516 := Nat.le_trans hk497 cs516.2.1
  have Z515 := Nat.le_trans Z497 KC515.1
  have K515 := K497.trans KC515 (allS (Or.inr sz_b476) (allS (Or.inr sz_v_pa) all0))
  have sz_v2_503 : h0.size ≤ v2_503 := hv_503.elim (fun q => by rw [q]; exact sz_v_pa) (fun q => Nat.le_trans K497.1 q)
  have ne_b462_v2_503 : b462 ≠ v2_503 := hv_503.elim (fun q => by rw [q]; exact ne_b462_v_pa) (fun q => Nat.ne_of_lt (Nat.lt_of_lt_of_le f501.lt q))
  have ne_j1_v2_503 : j1 ≠ v2_503 := hv_503.elim (fun q => by rw [q]; exact ne_j1_v_pa) (fun q => Nat.ne_of_lt (Nat.lt_of_lt_of_le f500.lt q))
  have ne_u1_v2_503 : u1 ≠ v2_503 := hv_503.elim (fun q => by rw [q]; exact ne_u1_v_pa) (fun q => Nat.ne_of_lt (Nat.lt_of_lt_of_le f511.lt q))
  have ne_v_ta_v2_503 : v_ta ≠ v2_503 := hv_503.elim (fun q => by rw [q]; exact ne_v_ta_v_pa) (fun q => Nat.ne_of_lt (Nat.lt_of_lt_of_le f512.lt q))
  have ne_y1_v2_503 : y1 ≠ v2_503 := hv_503.elim (fun q => by rw [q]; exact ne_y1_v_pa) (fun q => Nat.ne_of_lt (Nat.lt_of_lt_of_le f514.lt q))
  have y_v2_503 := own_safeK KC515 (allS (Safe.exa (EL := EL) hZ.alike f502 (by decide) (by decide)) (allS y498_v_pa all0)) cs498.1 hv_503 y498_v_pa
  have hgl_503 := @own_grle (16) (0 + 35)
  have hgm_503 : own_gr (16) (0 + 35) ≤ 1000 := own_grM (by decide) (by decide) ((by decide) : 0 + 35 ≤ 16 ∨ max (0 + 35) (2 * (16) + 2) ≤ 160)
  have nx2 : t1 ≠ v2_503 := Nat.ne_of_lt (Nat.lt_of_lt_of_le XA.lt sz_v2_503)
  have f518 := (f513.keep KC515)
  have f519 := (((((((XV.ext E462).keep KC465 (ninS ne_x1_b462 nin0)).other W474 (Or.inl ne_x1_j1)).ext E476).keep KC486 (ninS ne_x1_b476 nin0)).ext E497).keep KC515 (ninS ne_x1_b476 (ninS ne_x1_v_pa nin0)))
  have f520 := (((((((XC.ext E462).keep KC465 (ninS ne_x1_b462 nin0)).other W474 (Or.inl ne_x1_j1)).ext E476).keep KC486 (ninS ne_x1_b476 nin0)).ext E497).keep KC515 (ninS ne_x1_b476 (ninS ne_x1_v_pa nin0)))
  have f521 := (f510.keep KC515 (ninS ne_t1_b476 (ninS ne_t1_v_pa nin0)))
  have f522 := (f509.keep KC515 (allS g_b476 (allS g_v_pa all0)))
  have f523 := (f501.keep KC515)
  have f526 := (f500.keep KC515)
  have f527 := (f511.keep KC515 (ninS ne_u1_b476 (ninS ne_u1_v_pa nin0)))
  have f528 := (f512.keep KC515 (ninS ne_v_ta_b476 (ninS ne_v_ta_v_pa nin0)))
  have f529 := (f514.keep KC515)
  obtain ⟨cq530, kq530, q530a, q530b, q530c⟩ := isOf hZ rfl E503
  obtain ⟨_, _, ⟨T530, L530, k530, n530⟩, -, X530, ⟨Lc530, hQ530, l530, y530, z530⟩, st530⟩ := X515.virtualBack hx (y := (⟨"java/lang/StringBuilder", "append", "(Ljava/lang/String;)Ljava/lang/StringBuilder;"⟩ : MethodName)) (z := (⟨"java/lang/StringBuilder", "append", "(Ljava/lang/String;)Ljava/lang/StringBuilder;"⟩ : MethodName)) hown (mvT hZ (tw hw 57 rfl)) (mvT hZ (tw hw 58 rfl)) (notFace_of_selects (args := #[]) (mvT hZ (tw hw 60 rfl))) (mvT hZ (tw hw 60 rfl)) (mvT hZ (tw hw 59 rfl)) (by decide) (backOf (W := 1) (rmSApS l Z a0 hw [] b476 v2_503 k2_503 (own_gr (16) (0 + 35)) (0 + 35) wa_503 x1 t1 kx (1) xs zc T515.heap n0 Z515 E503 V503 C503 N503 A503 X503 l2_503 hgm_503 g_b476 g_v2_503 f518 f519 f520 f521 hxl (by decide) nx2 hgl_503.1 ((by decide) : 0 + 35 + 1 ≤ own_gr (16) (0 + 35) ∨ max (0 + 35 + 1) (2 * (own_gr (16) (0 + 35)) + 2) ≤ 160) (by decide) f522 SC hzc) hZ (tw hw 61 rfl) (tw hw 38 rfl) (by decide) (by decide)) q530a q530c (g := (mkF m 29 #[.val (.ref j1), .val (.ref x1), .val (.ref y1)] [(.ref x1), (.ref b476), (.ref j1)])) rfl (by rw [hml]; rfl) (Steps.refl _) (argsL := [(.ref x1)]) (rest := [(.ref j1)]) (lenOf pd__Ljava_lang_String__Ljava_lang_StringBuilder_ rfl) rfl (by show 2 * 0 + _ ≤ _; exact Nat.le_of_eq rfl) (hb hby d6_29) (fun _ _ => ⟨rfl, rfl, (by decide : 7 + 1 ≤ _), (by decide : 344 + 160 ≤ _)⟩)
  dsimp only [Pt.U, Pt.locs, Pt.cells, Pt.slots] at X530 l530 y530 z530 st530 hQ530
  subst l530 y530 z530
  obtain ⟨rfl, N530q, KC530, v2_517, k2_517, wa_517, ⟨E517, V517, C517, N517, A517, X517⟩, l2_517, tk_517, g_v2_517, hv_517⟩ := hQ530
  have N530 := Fr.app N515 N530q
  have cs531 := CHr.keep KC530 (allS (Safe.exa (EL := EL) hZ.alike E503 (by decide) (by decide)) (allS y_v2_503 all0)) cs516.1
  have cr531 := cr516.trans cs531
  have y531_v_ta := cs531.safe f528.lt y516_v_ta
  have hk531 := Nat.le_trans hk516 cs531.2.1
  have Z530 := Nat.le_trans Z515 KC530.1
  have K530 := K515.trans KC530 (allS (Or.inr sz_b476) (allS (Or.inr sz_v2_503) all0))
  have sz_v2_517 : h0.size ≤ v2_517 := hv_517.elim (fun q => by rw [q]; exact sz_v2_503) (fun q => Nat.le_trans K515.1 q)
  have ne_b462_v2_517 : b462 ≠ v2_517 := hv_517.elim (fun q => by rw [q]; exact ne_b462_v2_503) (fun q => Nat.ne_of_lt (Nat.lt_of_lt_of_le f523.lt q))
  have ne_j1_v2_517 : j1 ≠ v2_517 := hv_517.elim (fun q => by rw [q]; exact ne_j1_v2_503) (fun q => Nat.ne_of_lt (Nat.lt_of_lt_of_le f526.lt q))
  have ne_u1_v2_517 : u1 ≠ v2_517 := hv_517.elim (fun q => by rw [q]; exact ne_u1_v2_503) (fun q => Nat.ne_of_lt (Nat.lt_of_lt_of_le f527.lt q))
  have ne_v_ta_v2_517 : v_ta ≠ v2_517 := hv_517.elim (fun q => by rw [q]; exact ne_v_ta_v2_503) (fun q => Nat.ne_of_lt (Nat.lt_of_lt_of_le f528.lt q))
  have ne_y1_v2_517 : y1 ≠ v2_517 := hv_517.elim (fun q => by rw [q]; exact ne_y1_v2_503) (fun q => Nat.ne_of_lt (Nat.lt_of_lt_of_le f529.lt q))
  have y_v2_517 := own_safeK KC530 (allS (Safe.exa (EL := EL) hZ.alike E503 (by decide) (by decide)) (allS y_v2_503 all0)) cs516.1 hv_517 y_v2_503
  have hgl_517 := @own_grle (own_gr (16) (0 + 35)) (0 + 35 + 1)
  have hgm_517 : own_gr (own_gr (16) (0 + 35)) (0 + 35 + 1) ≤ 1000 := own_grM hgm_503 (by decide) ((by decide) : 0 + 35 + 1 ≤ own_gr (16) (0 + 35) ∨ max (0 + 35 + 1) (2 * (own_gr (16) (0 + 35)) + 2) ≤ 160)
  obtain ⟨LL532, XL532, NL532⟩ : ∃ LL, Stand p l e ({ frames := 8, cells := 22, slots := 2400, locals := 205 } : Room) (s.setVm T497.vm) m #[(.ref j1), (.ref x1), (.ref y1)] below meth c T530 LL 8 504 ∧ Fr n0 LL := ⟨_, X530, N530⟩
  have pre533 : ∀ t, Steps p.tables e below (T530.setTop (mkF m 32 #[.val (.ref j1), .val (.ref x1), .val (.ref y1)] [(.ref b476), (.ref j1)])) t → Steps p.tables e below (T486.setTop (mkF m 23 #[.val (.ref j1), .val (.ref x1), .val (.ref y1)] [(.ref b476), (.ref j1)])) t := by
    intro t kt
    show Steps p.tables e below (T486.setTop (mkF m 23 #[.val (.ref j1), .val (.ref x1), .val (.ref y1)] [(.ref b476), (.ref j1)])) _
    refine st497 _ ?_
    refine st515.trans ?_
    show Steps p.tables e below (T515.setTop (mkF m 28 #[.val (.ref j1), .val (.ref x1), .val (.ref y1)] [(.ref b476), (.ref j1)])) _
    refine XS.aloadN X515.here hx rfl (hb hby d6_28) rfl rfl ?_
    refine st530.trans ?_
    exact kt
  have wS534 : ∀ a ∈ Bundle.stringAtoms, a.before a0 Z = true := fun d hd => hw d ((by decide +kernel : ∀ d ∈ Bundle.stringAtoms, d ∈ tables_1) d hd)
  obtain ⟨b534, T534, h534, k534, d534, kb534, X534, e534, E534, hSi534, hk534, hZ, hown, A534, FC534, FV534, V534, -, -, crs534, Lt534, nn534, st534⟩ := ldcCH (s := s) (vm0 := T497.vm) XL532 hx hZ hown (tw hw 127 rfl) wS534 rfl hSi497 hk531 hEL (by decide : ("com/example/orbweaver/orbweaver/mapping/JavaSource", 22) ∈ EL) cs531.1 (vs := [(.int (46 : Int32)), (.int (32 : Int32)), (.int (67 : Int32)), (.int (104 : Int32)), (.int (97 : Int32)), (.int (110 : Int32)), (.int (103 : Int32)), (.int (101 : Int32)), (.int (115 : Int32)), (.int (32 : Int32)), (.int (97 : Int32)), (.int (114 : Int32)), (.int (101 : Int32)), (.int (32 : Int32)), (.int (108 : Int32)), (.int (111 : Int32)), (.int (115 : Int32)), (.int (116 : Int32)), (.int (32 : Int32)), (.int (119 : Int32)), (.int (104 : Int32)), (.int (101 : Int32)), (.int (110 : Int32)), (.int (32 : Int32)), (.int (105 : Int32)), (.int (116 : Int32)), (.int (32 : Int32)), (.int (114 : Int32)), (.int (117 : Int32)), (.int (110 : Int32)), (.int (115 : Int32)), (.int (32 : Int32)), (.int (97 : Int32)), (.int (103 : Int32)), (.int (97 : Int32)), (.int (105 : Int32)), (.int (110 : Int32)), (.int (46 : Int32))]) (z := (38 : Int32)) ⟨by decide, rfl⟩ (by decide) (by decide) (g := (mkF m 32 #[.val (.ref j1), .val (.ref x1), .val (.ref y1)] [(.ref b476), (.ref j1)])) rfl (hb hby d6_32) (n := 152) (by decide) (by decide) (by decide) (by decide)
  have f536 := (f528.keep KC530 (ninS ne_v_ta_b476 (ninS ne_v_ta_v2_503 nin0)))
  have cs535 := crs534
  have cr535 := cr531.trans cs535
  have y535_v_ta := cs535.safe f536.lt y531_v_ta
  have y535_v2_517 := cs535.safe A517.lt y_v2_517
  have Z534 := Nat.le_trans Z530 E534.1
  have K534 := K530.ext E534
  obtain ⟨ne_v2_517_b534, ne_v2_517_d534⟩ := nn534 _ y535_v2_517
  obtain ⟨ne_v_ta_b534, ne_v_ta_d534⟩ := nn534 _ y535_v_ta
  have f537 := ((f526.keep KC530).ext E534)
  have f538 := ((f523.keep KC530).ext E534)
  have f539 := (E517.ext E534)
  have f541 := (V517.ext E534)
  have f542 := (C517.ext E534)
  have f543 := (N517.ext E534)
  have f544 := (A517.ext E534)
  have f545 := (X517.ext E534)
  have f546 := ((f522.keep KC530 (allS g_b476 (allS g_v2_503 all0))).ext E534)
  have f550 := ((f527.keep KC530 (ninS ne_u1_b476 (ninS ne_u1_v2_503 nin0))).ext E534)
  have f551 := (f536.ext E534)
  have f553 := ((f529.keep KC530).ext E534)
  obtain ⟨cq554, kq554, q554a, q554b, q554c⟩ := isOf hZ e534 f539
  obtain ⟨_, _, ⟨T554, L554, k554, n554⟩, -, X554, ⟨Lc554, hQ554, l554, y554, z554⟩, st554⟩ := X534.virtualBack hx (y := (⟨"java/lang/StringBuilder", "append", "(Ljava/lang/String;)Ljava/lang/StringBuilder;"⟩ : MethodName)) (z := (⟨"java/lang/StringBuilder", "append", "(Ljava/lang/String;)Ljava/lang/StringBuilder;"⟩ : MethodName)) hown (mvT hZ (tw hw 57 rfl)) (mvT hZ (tw hw 58 rfl)) (notFace_of_selects (args := #[]) (mvT hZ (tw hw 60 rfl))) (mvT hZ (tw hw 60 rfl)) (mvT hZ (tw hw 59 rfl)) (by decide) (backOf (W := 1) (rmSApS l Z a0 hw [] b476 v2_517 k2_517 (own_gr (own_gr (16) (0 + 35)) (0 + 35 + 1)) (0 + 35 + 1) wa_517 b534 d534 kb534 (38) [(.int (46 : Int32)), (.int (32 : Int32)), (.int (67 : Int32)), (.int (104 : Int32)), (.int (97 : Int32)), (.int (110 : Int32)), (.int (103 : Int32)), (.int (101 : Int32)), (.int (115 : Int32)), (.int (32 : Int32)), (.int (97 : Int32)), (.int (114 : Int32)), (.int (101 : Int32)), (.int (32 : Int32)), (.int (108 : Int32)), (.int (111 : Int32)), (.int (115 : Int32)), (.int (116 : Int32)), (.int (32 : Int32)), (.int (119 : Int32)), (.int (104 : Int32)), (.int (101 : Int32)), (.int (110 : Int32)), (.int (32 : Int32)), (.int (105 : Int32)), (.int (116 : Int32)), (.int (32 : Int32)), (.int (114 : Int32)), (.int (117 : Int32)), (.int (110 : Int32)), (.int (115 : Int32)), (.int (32 : Int32)), (.int (97 : Int32)), (.int (103 : Int32)), (.int (97 : Int32)), (.int (105 : Int32)), (.int (110 : Int32)), (.int (46 : Int32))] zc h534 n0 Z534 f539 f541 f542 f543 f544 f545 l2_517 hgm_517 g_b476 g_v2_517 A534 FV534 FC534 V534 rfl (by decide) (Ne.symm ne_v2_517_d534) hgl_517.1 ((by decide) : 0 + 35 + 1 + 38 ≤ own_gr (own_gr (16) (0 + 35)) (0 + 35 + 1) ∨ max (0 + 35 + 1 + 38) (2 * (own_gr (own_gr (16) (0 + 35)) (0 + 35 + 1)) + 2) ≤ 160) (by decide) f546 SC hzc) hZ (tw hw 61 rfl) (tw hw 38 rfl) (by decide) (by decide)) q554a q554c (g := (mkF m 34 #[.val (.ref j1), .val (.ref x1), .val (.ref y1)] [(.ref b534), (.ref b476), (.ref j1)])) rfl (by rw [hml]; rfl) (Steps.refl _) (argsL := [(.ref b534)]) (rest := [(.ref j1)]) (lenOf pd__Ljava_lang_String__Ljava_lang_StringBuilder_ rfl) rfl (by show 2 * 0 + _ ≤ _; exact Nat.le_of_eq rfl) (hb hby d6_34) (fun _ _ => ⟨rfl, e534, (by decide : 10 + 1 ≤ _), (by decide : 660 + 160 ≤ _)⟩)
  dsimp only [Pt.U, Pt.locs, Pt.cells, Pt.slots] at X554 l554 y554 z554 st554 hQ554
  subst l554 y554 z554
  obtain ⟨rfl, N554q, KC554, v2_540, k2_540, wa_540, ⟨E540, V540, C540, N540, A540, X540⟩, l2_540, tk_540, g_v2_540, hv_540⟩ := hQ554
  have N554 := Fr.app NL532 N554q
  have cs555 := CHr.keep KC554 (allS (Safe.exa (EL := EL) hZ.alike f539 (by decide) (by decide)) (allS y535_v2_517 all0)) cs535.1
  have cr555 := cr535.trans cs555
  have y555_v_ta := cs555.safe f551.lt y535_v_ta
  have hk555 := Nat.le_trans hk534 cs555.2.1
  have Z554 := Nat.le_trans Z534 KC554.1
  have K554 := K534.trans KC554 (allS (Or.inr sz_b476) (allS (Or.inr sz_v2_517) all0))
  have y_v2_540 := own_safeK KC554 (allS (Safe.exa (EL := EL) hZ.alike f539 (by decide) (by decide)) (allS y535_v2_517 all0)) cs535.1 hv_540 y535_v2_517
  have hgl_540 := @own_grle (own_gr (own_gr (16) (0 + 35)) (0 + 35 + 1)) (0 + 35 + 1 + 38)
  have hgm_540 : own_gr (own_gr (own_gr (16) (0 + 35)) (0 + 35 + 1)) (0 + 35 + 1 + 38) ≤ 1000 := own_grM hgm_517 (by decide) ((by decide) : 0 + 35 + 1 + 38 ≤ own_gr (own_gr (16) (0 + 35)) (0 + 35 + 1) ∨ max (0 + 35 + 1 + 38) (2 * (own_gr (own_gr (16) (0 + 35)) (0 + 35 + 1)) + 2) ≤ 160)
  have f556 := (f546.keep KC554 (allS g_b476 (allS g_v2_517 all0)))
  have f558 := (f538.keep KC554)
  have f563 := (f537.keep KC554)
  have f565 := (f550.keep KC554 (ninS ne_u1_b476 (ninS ne_u1_v2_517 nin0)))
  have f566 := (f551.keep KC554 (ninS ne_v_ta_b476 (ninS ne_v_ta_v2_517 nin0)))
  have f568 := (f553.keep KC554)
  obtain ⟨cq557, kq557, q557a, q557b, q557c⟩ := isOf hZ rfl E540
  obtain ⟨_, _, ⟨T557, L557, k557, n557⟩, -, X557, ⟨Lc557, hQ557, l557, y557, z557⟩, st557⟩ := X554.virtualBack hx (y := (⟨"java/lang/StringBuilder", "toString", "()Ljava/lang/String;"⟩ : MethodName)) (z := (⟨"java/lang/StringBuilder", "toString", "()Ljava/lang/String;"⟩ : MethodName)) hown (mvT hZ (tw hw 128 rfl)) (mvT hZ (tw hw 129 rfl)) (notFace_of_selects (args := #[]) (mvT hZ (tw hw 131 rfl))) (mvT hZ (tw hw 131 rfl)) (mvT hZ (tw hw 130 rfl)) (by decide) (backOf (W := 1) (rmToS l Z a0 hw [] b476 v2_540 k2_540 (own_gr (own_gr (own_gr (16) (0 + 35)) (0 + 35 + 1)) (0 + 35 + 1 + 38)) (0 + 35 + 1 + 38) wa_540 zc T554.heap n0 Z554 E540 V540 C540 N540 A540 X540 l2_540 hgm_540 g_b476 g_v2_540 hgl_540.1 (by decide) f556 SC hzc) hZ (tw hw 132 rfl) (tw hw 38 rfl) (by decide) (by decide)) q557a q557c (g := (mkF m 37 #[.val (.ref j1), .val (.ref x1), .val (.ref y1)] [(.ref b476), (.ref j1)])) rfl (by rw [hml]; rfl) (Steps.refl _) (argsL := []) (rest := [(.ref j1)]) (lenOf pd___Ljava_lang_String_ rfl) rfl (by show 2 * 0 + _ ≤ _; exact Nat.le_of_eq rfl) (hb hby d6_37) (fun _ _ => ⟨rfl, rfl, (by decide : 11 + 2 ≤ _), (by decide : 820 + 132 ≤ _)⟩)
  dsimp only [Pt.U, Pt.locs, Pt.cells, Pt.slots] at X557 l557 y557 z557 st557 hQ557
  subst l557 y557 z557
  obtain ⟨x_m, rfl, N557q, EX557, le_m, t_m, k_m, ⟨E_m, V_m, C_m, A_m⟩, lt_m⟩ := hQ557
  have N557 := Fr.app N554 N557q
  have ne_v_ta_t_m : v_ta ≠ t_m := Nat.ne_of_lt (Nat.lt_of_lt_of_le f566.lt lt_m)
  have cs569 := CHr.ext EX557 cs555.1
  have cr569 := cr555.trans cs569
  have y569_v_ta := cs569.safe f566.lt y555_v_ta
  have hk569 := Nat.le_trans hk555 cs569.2.1
  have Z557 := Nat.le_trans Z554 EX557.1
  have K557 := K554.ext EX557
  obtain ⟨LL570, XL570, NL570⟩ : ∃ LL, Stand p l e ({ frames := 8, cells := 22, slots := 2400, locals := 205 } : Room) (s.setVm T534.vm) m #[(.ref j1), (.ref x1), (.ref y1)] below meth c T557 LL 13 952 ∧ Fr n0 LL := ⟨_, X557, N557⟩
  have f575 := (f563.ext EX557)
  have f577 := (f565.ext EX557)
  have f579 := (f568.ext EX557)
  have f580 := ((((((((Fw474.ext E476).keep KC486 (ninS ne_j1_b476 nin0)).ext E497).keep KC515 (ninS ne_j1_b476 (ninS ne_j1_v_pa nin0))).keep KC530 (ninS ne_j1_b476 (ninS ne_j1_v2_503 nin0))).ext E534).keep KC554 (ninS ne_j1_b476 (ninS ne_j1_v2_517 nin0))).ext EX557)
  have f581 := (((((((((((JD.ext E462).keep KC465 (ninS ne_j1_b462 nin0)).other W474 (Or.inr (slot_ne (Or.inl (tw hw 174 rfl)) (Or.inr (tw hw 55 rfl)) (by decide) (t := .int) (t' := (.object "java/lang/StringBuilder")) (by decide) (by decide)))).ext E476).keep KC486 (ninS ne_j1_b476 nin0)).ext E497).keep KC515 (ninS ne_j1_b476 (ninS ne_j1_v_pa nin0))).keep KC530 (ninS ne_j1_b476 (ninS ne_j1_v2_503 nin0))).ext E534).keep KC554 (ninS ne_j1_b476 (ninS ne_j1_v2_517 nin0))).ext EX557)
  have f582 := (f558.ext EX557)
  have f583 := (((((((((V_ta.other W474 (Or.inl (Ne.symm ne_j1_b462))).ext E476).keep KC486 (ninS ne_b462_b476 nin0)).ext E497).keep KC515 (ninS ne_b462_b476 (ninS ne_b462_v_pa nin0))).keep KC530 (ninS ne_b462_b476 (ninS ne_b462_v2_503 nin0))).ext E534).keep KC554 (ninS ne_b462_b476 (ninS ne_b462_v2_517 nin0))).ext EX557)
  have f584 := (((((((((C_ta.other W474 (Or.inl (Ne.symm ne_j1_b462))).ext E476).keep KC486 (ninS ne_b462_b476 nin0)).ext E497).keep KC515 (ninS ne_b462_b476 (ninS ne_b462_v_pa nin0))).keep KC530 (ninS ne_b462_b476 (ninS ne_b462_v2_503 nin0))).ext E534).keep KC554 (ninS ne_b462_b476 (ninS ne_b462_v2_517 nin0))).ext EX557)
  have f585 := (((((((((N_ta.other W474 (Or.inl (Ne.symm ne_j1_b462))).ext E476).keep KC486 (ninS ne_b462_b476 nin0)).ext E497).keep KC515 (ninS ne_b462_b476 (ninS ne_b462_v_pa nin0))).keep KC530 (ninS ne_b462_b476 (ninS ne_b462_v2_503 nin0))).ext E534).keep KC554 (ninS ne_b462_b476 (ninS ne_b462_v2_517 nin0))).ext EX557)
  have f586 := (f566.ext EX557)
  have f587 := (((((((((X_ta.wr W474).ext E476).keep KC486).ext E497).keep KC515).keep KC530).ext E534).keep KC554).ext EX557)
  have f588 := (f556.ext EX557)
  have pre589 : ∀ t, Steps p.tables e below (T557.setTop (mkF m 40 #[.val (.ref j1), .val (.ref x1), .val (.ref y1)] [(.ref x_m), (.ref j1)])) t → Steps p.tables e below (T530.setTop (mkF m 32 #[.val (.ref j1), .val (.ref x1), .val (.ref y1)] [(.ref b476), (.ref j1)])) t := by
    intro t kt
    show Steps p.tables e below (T530.setTop (mkF m 32 #[.val (.ref j1), .val (.ref x1), .val (.ref y1)] [(.ref b476), (.ref j1)])) _
    refine st534 _ ?_
    refine st554.trans ?_
    refine st557.trans ?_
    exact kt
  obtain ⟨cq590, kq590, q590a, q590b, q590c⟩ := isOf hZ rfl f575
  obtain ⟨_, _, ⟨T590, L590, k590, n590⟩, -, X590, hs590, hg590, ⟨Lc590, hQ590, l590, y590, z590, crs590⟩, st590⟩ := XL570.virtualBackS hx (y := (⟨"com/example/orbweaver/orbweaver/mapping/JavaSource", "line", "(Ljava/lang/String;)Lcom/example/orbweaver/orbweaver/mapping/JavaSource;"⟩ : MethodName)) (z := (⟨"com/example/orbweaver/orbweaver/mapping/JavaSource", "line", "(Ljava/lang/String;)Lcom/example/orbweaver/orbweaver/mapping/JavaSource;"⟩ : MethodName)) hown (mvT hZ (tw hw 167 rfl)) (mvT hZ (tw hw 168 rfl)) (notFace_of_selects (args := #[]) (mvT hZ (tw hw 170 rfl))) (mvT hZ (tw hw 170 rfl)) (mvT hZ (tw hw 169 rfl)) (by decide) (own_backS1 (s := s) (W := 0) (rmLine l Z a0 hw [] j1 b462 v_ta k_ta (16) (0) (List.replicate 16 (.int (0 : Int32))) x_m t_m k_m (0 + 35 + 1 + 38) (wa_540.take (0 + 35 + 1 + 38)) (0) zc T557.heap n0 Z557 hEL f575 f580 f581 f582 f583 f584 f585 f586 f587 (by simp) (by decide) g_b462 g_v_ta E_m V_m C_m A_m (by rw [List.length_take, l2_540]; decide) (by decide) (Ne.symm ne_v_ta_t_m) (by decide) (by decide) (by decide) (by decide) (by decide) (by decide) f588 SC hzc) hZ (tw hw 171 rfl) (tw hw 10 rfl) (by decide) (by decide) hEL cs569.1 f586.lt y569_v_ta) q590a q590c (g := (mkF m 40 #[.val (.ref j1), .val (.ref x1), .val (.ref y1)] [(.ref x_m), (.ref j1)])) rfl (by rw [hml]; rfl) (Steps.refl _) (argsL := [(.ref x_m)]) (rest := []) (lenOf pd__Ljava_lang_String__Lcom_example_orbweaver_orbweaver_mapping_JavaSource_ rfl) rfl (by show 2 * 0 + _ ≤ _; exact Nat.le_of_eq rfl) (hb hby d6_40) (fun _ _ => ⟨rfl, rfl, (by decide : 13 + 7 ≤ _), (by decide : 952 + 520 ≤ _)⟩)
  dsimp only [Pt.U, Pt.locs, Pt.cells, Pt.slots] at X590 l590 y590 z590 st590 hQ590 hs590 hg590 crs590
  subst l590 y590 z590
  obtain ⟨X590, hSi590, hZ, hown⟩ := rebS hSi534 (hk569) X590 hs590 hg590 hZ hown
  obtain ⟨rfl, N590q, KC590, v_tb, k_tb, ws_tb, ⟨E_tb, V_tb, C_tb, N_tb, A_tb, X_tb⟩, l_tb, tk_tb, g_v_tb, hv_tb, y_tb⟩ := hQ590
  have N590 := Fr.app NL570 N590q
  have cs591 := crs590
  have cr591 := cr569.trans cs591
  have Z590 := Nat.le_trans Z557 KC590.1
  have K590 := K557.trans KC590 (allS (Or.inr sz_b462) (allS (Or.inr sz_v_ta) all0))
  have sz_v_tb : h0.size ≤ v_tb := hv_tb.elim (fun q => by rw [q]; exact sz_v_ta) (fun q => Nat.le_trans K557.1 q)
  have ne_j1_v_tb : j1 ≠ v_tb := hv_tb.elim (fun q => by rw [q]; exact ne_j1_v_ta) (fun q => Nat.ne_of_lt (Nat.lt_of_lt_of_le f575.lt q))
  have hcp_tb : own_gr (own_gr (own_gr (16) (0 + 4 * (0))) (0 + 4 * (0) + (0 + 35 + 1 + 38))) (0 + 4 * (0) + (0 + 35 + 1 + 38) + 1) ≤ 1000 := own_grM (own_grM (own_grM (by decide) (by decide) (by decide : 0 + 4 * (0) ≤ 16 ∨ max (0 + 4 * (0)) (2 * (16) + 2) ≤ 160)) (by decide) (by decide : 0 + 4 * (0) + (0 + 35 + 1 + 38) ≤ own_gr (16) (0 + 4 * (0)) ∨ max (0 + 4 * (0) + (0 + 35 + 1 + 38)) (2 * (own_gr (16) (0 + 4 * (0))) + 2) ≤ 160)) (by decide) (by decide : 0 + 4 * (0) + (0 + 35 + 1 + 38) + 1 ≤ own_gr (own_gr (16) (0 + 4 * (0))) (0 + 4 * (0) + (0 + 35 + 1 + 38)) ∨ max (0 + 4 * (0) + (0 + 35 + 1 + 38) + 1) (2 * (own_gr (own_gr (16) (0 + 4 * (0))) (0 + 4 * (0) + (0 + 35 + 1 + 38))) + 2) ≤ 160)
  obtain ⟨LL592, XL592, NL592⟩ : ∃ LL, Stand p l e ({ frames := 8, cells := 22, slots := 2400, locals := 205 } : Room) (s.setVm T590.vm) m #[(.ref j1), (.ref x1), (.ref y1)] below meth c T590 LL 20 1472 ∧ Fr n0 LL := ⟨_, X590, N590⟩
  have f593 := ((((((((((((YV.ext E462).keep KC465 (ninS ne_y1_b462 nin0)).other W474 (Or.inl ne_y1_j1)).ext E476).keep KC486 (ninS ne_y1_b476 nin0)).ext E497).keep KC515 (ninS ne_y1_b476 (ninS ne_y1_v_pa nin0))).keep KC530 (ninS ne_y1_b476 (ninS ne_y1_v2_503 nin0))).ext E534).keep KC554 (ninS ne_y1_b476 (ninS ne_y1_v2_517 nin0))).ext EX557).keep KC590 (ninS ne_y1_b462 (ninS ne_y1_v_ta nin0)))
  have f594 := (f577.keep KC590 (ninS ne_u1_b462 (ninS ne_u1_v_ta nin0)))
  have f596 := (f579.keep KC590)
  obtain ⟨cq595, kq595, q595a, q595b, q595c⟩ := isOf hZ rfl f596
  obtain ⟨_, _, ⟨T595, L595, k595, n595⟩, -, X595, ⟨Lc595, hQ595, l595, y595, z595⟩, st595⟩ := XL592.virtualBack hx (y := (⟨"java/lang/String", "isEmpty", "()Z"⟩ : MethodName)) (z := (⟨"java/lang/String", "isEmpty", "()Z"⟩ : MethodName)) hown (mvT hZ (tw hw 192 rfl)) (mvT hZ (tw hw 193 rfl)) (notFace_of_selects (args := #[]) (mvT hZ (tw hw 195 rfl))) (mvT hZ (tw hw 195 rfl)) (mvT hZ (tw hw 194 rfl)) (by decide) (backOf (W := 0) (rmEmp1 l Z a0 hw [] y1 u1 ky (Int32.ofNat 0) ys T590.heap n0 Z590 f593 f594 rfl) hZ (tw hw 196 rfl) (tw hw 1 rfl) (by decide) (by decide)) q595a q595c (g := (mkF m 45 #[.val (.ref j1), .val (.ref x1), .val (.ref y1)] [(.ref y1)])) rfl (by rw [hml]; rfl) (Steps.refl _) (argsL := []) (rest := []) (lenOf pd___Z rfl) rfl (by show 2 * 0 + _ ≤ _; exact Nat.le_of_eq rfl) (hb hby d6_45) (fun _ _ => ⟨rfl, rfl, (by decide : 20 + 0 ≤ _), (by decide : 1472 + 0 ≤ _)⟩)
  dsimp only [Pt.U, Pt.locs, Pt.cells, Pt.slots] at X595 l595 y595 z595 st595 hQ595
  subst l595 y595 z595
  obtain ⟨rfl, N595q, EQ595⟩ := hQ595
  have N595 := Fr.app NL592 N595q
  have ch597 : CHv Z EL T590.vm T595.heap := by rw [EQ595]; exact cs591.1
  have cr597 : CHr Z EL s.vm h0 T590.vm T595.heap := by rw [EQ595]; exact cr591
  have y597_v_tb : Safe Z EL T590.vm T595.heap v_tb := by rw [EQ595]; exact y_tb
  have hk597 : T590.heap.size ≤ T595.heap.size := by rw [EQ595]; exact (Nat.le_refl _)
  have Z595 : n0 ≤ T595.heap.size := by rw [EQ595]; exact Z590
  have K595 := own_keq EQ595 K590
  have f602 := (EQ595 ▸ (f575.keep KC590))
  have f609 := (EQ595 ▸ E_tb)
  have f610 := (EQ595 ▸ (f580.keep KC590 (ninS ne_j1_b462 (ninS ne_j1_v_ta nin0))))
  have f611 := (EQ595 ▸ V_tb)
  have f612 := (EQ595 ▸ C_tb)
  have f613 := (EQ595 ▸ N_tb)
  have f614 := (EQ595 ▸ A_tb)
  have f615 := (EQ595 ▸ X_tb)
  have f616 := (EQ595 ▸ (f588.keep KC590 (allS g_b462 (allS g_v_ta all0))))
  obtain ⟨cq617, kq617, q617a, q617b, q617c⟩ := isOf hZ rfl f602
  obtain ⟨_, _, ⟨T617, L617, k617, n617⟩, -, X617, ⟨Lc617, hQ617, l617, y617, z617⟩, st617⟩ := X595.virtualBack hx (y := (⟨"com/example/orbweaver/orbweaver/mapping/JavaSource", "blank", "()Lcom/example/orbweaver/orbweaver/mapping/JavaSource;"⟩ : MethodName)) (z := (⟨"com/example/orbweaver/orbweaver/mapping/JavaSource", "blank", "()Lcom/example/orbweaver/orbweaver/mapping/JavaSource;"⟩ : MethodName)) hown (mvT hZ (tw hw 197 rfl)) (mvT hZ (tw hw 198 rfl)) (notFace_of_selects (args := #[]) (mvT hZ (tw hw 200 rfl))) (mvT hZ (tw hw 200 rfl)) (mvT hZ (tw hw 199 rfl)) (by decide) (backOf (W := 0) (rmBlank l Z a0 hw [] j1 b462 v_tb k_tb (own_gr (own_gr (own_gr (16) (0 + 4 * (0))) (0 + 4 * (0) + (0 + 35 + 1 + 38))) (0 + 4 * (0) + (0 + 35 + 1 + 38) + 1)) (0 + 4 * (0) + (0 + 35 + 1 + 38) + 1) ws_tb zc T595.heap n0 Z595 f610 f609 f611 f612 f613 f614 f615 l_tb hcp_tb g_b462 g_v_tb own_grle.1 (by decide : 0 + 4 * (0) + (0 + 35 + 1 + 38) + 1 + 1 ≤ own_gr (own_gr (own_gr (16) (0 + 4 * (0))) (0 + 4 * (0) + (0 + 35 + 1 + 38))) (0 + 4 * (0) + (0 + 35 + 1 + 38) + 1) ∨ max (0 + 4 * (0) + (0 + 35 + 1 + 38) + 1 + 1) (2 * (own_gr (own_gr (own_gr (16) (0 + 4 * (0))) (0 + 4 * (0) + (0 + 35 + 1 + 38))) (0 + 4 * (0) + (0 + 35 + 1 + 38) + 1)) + 2) ≤ 160) (by decide) f616 SC hzc) hZ (tw hw 201 rfl) (tw hw 10 rfl) (by decide) (by decide)) q617a q617c (g := (mkF m 86 #[.val (.ref j1), .val (.ref x1), .val (.ref y1)] [(.ref j1)])) rfl (by rw [hml]; rfl) (Steps.refl _) (argsL := []) (rest := []) (lenOf pd___Lcom_example_orbweaver_orbweaver_mapping_JavaSource_ rfl) rfl (by show 2 * 0 + _ ≤ _; exact Nat.le_of_eq rfl) (hb hby d6_86) (fun _ _ => ⟨rfl, rfl, (by decide : 20 + 1 ≤ _), (by decide : 1472 + 160 ≤ _)⟩)
  dsimp only [Pt.U, Pt.locs, Pt.cells, Pt.slots] at X617 l617 y617 z617 st617 hQ617
  subst l617 y617 z617
  obtain ⟨rfl, N617q, KC617, v_tc, k_tc, ws_tc, ⟨E_tc, V_tc, C_tc, N_tc, A_tc, X_tc⟩, l_tc, tk_tc, g_v_tc, hv_tc⟩ := hQ617
  have N617 := Fr.app N595 N617q
  have cs618 := CHr.keep KC617 (allS (Safe.exa (EL := EL) hZ.alike f609 (by decide) (by decide)) (allS y597_v_tb all0)) ch597
  have cr618 := cr597.trans cs618
  have hk618 := Nat.le_trans hk597 cs618.2.1
  have K617 := K595.trans KC617 (allS (Or.inr sz_b462) (allS (Or.inr sz_v_tb) all0))
  have sz_v_tc : h0.size ≤ v_tc := hv_tc.elim (fun q => by rw [q]; exact sz_v_tb) (fun q => Nat.le_trans K595.1 q)
  have y_tc := own_safeK KC617 (allS (Safe.exa (EL := EL) hZ.alike f609 (by decide) (by decide)) (allS y597_v_tb all0)) ch597 hv_tc y597_v_tb
  have hcp_tc : own_gr (own_gr (own_gr (own_gr (16) (0 + 4 * (0))) (0 + 4 * (0) + (0 + 35 + 1 + 38))) (0 + 4 * (0) + (0 + 35 + 1 + 38) + 1)) (0 + 4 * (0) + (0 + 35 + 1 + 38) + 1 + 1) ≤ 1000 := own_grM hcp_tb (by decide) (by decide : 0 + 4 * (0) + (0 + 35 + 1 + 38) + 1 + 1 ≤ own_gr (own_gr (own_gr (16) (0 + 4 * (0))) (0 + 4 * (0) + (0 + 35 + 1 + 38))) (0 + 4 * (0) + (0 + 35 + 1 + 38) + 1) ∨ max (0 + 4 * (0) + (0 + 35 + 1 + 38) + 1 + 1) (2 * (own_gr (own_gr (own_gr (16) (0 + 4 * (0))) (0 + 4 * (0) + (0 + 35 + 1 + 38))) (0 + 4 * (0) + (0 + 35 + 1 + 38) + 1)) + 2) ≤ 160)
  have ecp : own_gr (own_gr (own_gr (own_gr (16) (0 + 4 * (0))) (0 + 4 * (0) + (0 + 35 + 1 + 38))) (0 + 4 * (0) + (0 + 35 + 1 + 38) + 1)) (0 + 4 * (0) + (0 + 35 + 1 + 38) + 1 + 1) = 150 := by decide
  have ect : 0 + 4 * (0) + (0 + 35 + 1 + 38) + 1 + 1 = 76 := by decide
  have f619 := (f602.keep KC617)
  have f620 := (f610.keep KC617 (ninS ne_j1_b462 (ninS ne_j1_v_tb nin0)))
  have f621 := ((EQ595 ▸ (f581.keep KC590 (ninS ne_j1_b462 (ninS ne_j1_v_ta nin0)))).keep KC617 (ninS ne_j1_b462 (ninS ne_j1_v_tb nin0)))
  have pre622 : ∀ t, Steps p.tables e below (T617.setTop (mkF m 90 #[.val (.ref j1), .val (.ref x1), .val (.ref y1)] [])) t → Steps p.tables e below (T557.setTop (mkF m 40 #[.val (.ref j1), .val (.ref x1), .val (.ref y1)] [(.ref x_m), (.ref j1)])) t := by
    intro t kt
    refine st590.trans ?_
    show Steps p.tables e below (T590.setTop (mkF m 43 #[.val (.ref j1), .val (.ref x1), .val (.ref y1)] [(.ref j1)])) _
    refine XS.pop X590.here hx rfl (hb hby d6_43) rfl rfl ?_
    refine XS.aloadN X590.here hx rfl (hb hby d6_44) rfl rfl ?_
    refine st595.trans ?_
    refine XS.ifYes X595.here hx rfl (pc0 := 48) (pc' := 85) rfl (hb hby d6_48) rfl ((if0 _ _).trans (feq (by decide : ¬ ((1 : Int32) = (0 : Int32)))).2) (by decide) (by decide) ?_
    show Steps p.tables e below (T595.setTop (mkF m 85 #[.val (.ref j1), .val (.ref x1), .val (.ref y1)] [])) _
    refine XS.aloadN X595.here hx rfl (hb hby d6_85) rfl rfl ?_
    refine st617.trans ?_
    show Steps p.tables e below (T617.setTop (mkF m 89 #[.val (.ref j1), .val (.ref x1), .val (.ref y1)] [(.ref j1)])) _
    refine XS.pop X617.here hx rfl (hb hby d6_89) rfl rfl ?_
    exact kt
  have yf_v_tc := (CHv.at X617 hZ hEL cs618.1).safe A_tc.lt y_tc
  obtain ⟨fs, hr, hrun, hended, e1, e2, e3, e4⟩ := X617.leaveW hSi590 hk618 (v := none) (fun _ => rfl)
  refine ⟨_, _, (pre0 _ (pre496 _ (pre533 _ (pre589 _ (pre622 _ ?_))))), hrun, hended, _, _, rfl, ?_, ?_, ⟨e1, e2, e3, e4.mono (by decide) (by decide)⟩⟩
  · show Steps p.tables e below (T617.setTop (mkF m 90 #[.val (.ref j1), .val (.ref x1), .val (.ref y1)] [])) _
    exact X617.returnOut hx Bd.returns (hb hby d6_90) hr
  · show QCtor0 Z j1 x1 t1 kx xs y1 u1 ky ys zc h0 n0 _ T617.heap _ T617.vm
    exact ⟨rfl, N617, K617, b462, v_tc, k_tc, ws_tc, ⟨f619, f620, f621⟩, (by have q := (⟨E_tc, V_tc, C_tc, N_tc, A_tc, X_tc⟩ : Exa Z T617.heap b462 "java/lang/StringBuilder" ∧ Fld Z T617.heap b462 "java/lang/AbstractStringBuilder" "value" "[B" (.ref v_tc) ∧ Fld Z T617.heap b462 "java/lang/AbstractStringBuilder" "coder" "B" (.int (0 : Int32)) ∧ Fld Z T617.heap b462 "java/lang/AbstractStringBuilder" "count" "I" (.int (Int32.ofNat (0 + 4 * (0) + (0 + 35 + 1 + 38) + 1 + 1))) ∧ Arv Z T617.heap v_tc k_tc .byte (Int32.ofNat (own_gr (own_gr (own_gr (own_gr (16) (0 + 4 * (0))) (0 + 4 * (0) + (0 + 35 + 1 + 38))) (0 + 4 * (0) + (0 + 35 + 1 + 38) + 1)) (0 + 4 * (0) + (0 + 35 + 1 + 38) + 1 + 1))) ws_tc (.int (0 : Int32)) ∧ Exa Z T617.heap v_tc "[B"); rw [ecp, ect] at q; exact q), by have q := l_tc; rw [ecp] at q; exact q, sz_b462, sz_v_tc, yf_v_tc⟩
  · have q := cr618.trans (CHv.at X617 hZ hEL cs618.1)
    show CHr Z EL s.vm s.heap T617.vm T617.heap
    rw [hh]
    exact q
theorem ef_Ctor1 (m : MethodId) (x0 : Addr) (x1 : Addr) (x2 : Addr) : entryFrame m #[(.ref x0), (.ref x1), (.ref x2)] 3 = mkF m 0 #[.val (.ref x0), .val (.ref x1), .val (.ref x2)] [] := by (first | (simp [entryFrame, mkF, argsToLocals, Value.category]; done) | rfl)
def QCtor1 (Z : State) (j1 : Addr) (x1 : Addr) (t1 : Addr) (kx : ClassId) (xs : List Value) (y1 : Addr) (u1 : Addr) (ky : ClassId) (ys : List Value) (zc : Int32) (h0 : Heap) (n0 : Nat) (v : Option Value) (h : Heap) (L : List Loc) (vm : Vm) : Prop := v = none ∧ Fr n0 L ∧ Keep h0 h [j1] ∧ ∃ (b1 v1 : Addr) (k1 : ClassId) (vs : List Value), (Exa Z h j1 "com/example/orbweaver/orbweaver/mapping/JavaSource" ∧ Fld Z h j1 "com/example/orbweaver/orbweaver/mapping/JavaSource" "text" "Ljava/lang/StringBuilder;" (.ref b1) ∧ Fld Z h j1 "com/example/orbweaver/orbweaver/mapping/JavaSource" "depth" "I" (.int (0 : Int32))) ∧ (Exa Z h b1 "java/lang/StringBuilder" ∧ Fld Z h b1 "java/lang/AbstractStringBuilder" "value" "[B" (.ref v1) ∧ Fld Z h b1 "java/lang/AbstractStringBuilder" "coder" "B" (.int (0 : Int32)) ∧ Fld Z h b1 "java/lang/AbstractStringBuilder" "count" "I" (.int (Int32.ofNat 88)) ∧ Arv Z h v1 k1 .byte (Int32.ofNat 150) vs (.int (0 : Int32)) ∧ Exa Z h v1 "[B") ∧ vs.length = 150 ∧ h0.size ≤ b1 ∧ h0.size ≤ v1 ∧ Safe Z EL vm h v1
theorem d6_51 : decode prog_171_method_1_code 51 = .ok (.aload_n 0, 1) := by decide +kernel
theorem d6_52 : decode prog_171_method_1_code 52 = .ok (.invokevirtual 38, 3) := by decide +kernel
theorem d6_55 : decode prog_171_method_1_code 55 = .ok (.pop, 1) := by decide +kernel
theorem d6_56 : decode prog_171_method_1_code 56 = .ok (.aload_n 0, 1) := by decide +kernel
theorem d6_57 : decode prog_171_method_1_code 57 = .ok (.new 7, 3) := by decide +kernel
theorem d6_60 : decode prog_171_method_1_code 60 = .ok (.dup, 1) := by decide +kernel
theorem d6_61 : decode prog_171_method_1_code 61 = .ok (.invokespecial 9, 3) := by decide +kernel
theorem d6_64 : decode prog_171_method_1_code 64 = .ok (.ldc 42, 2) := by decide +kernel
theorem d6_66 : decode prog_171_method_1_code 66 = .ok (.invokevirtual 18, 3) := by decide +kernel
theorem d6_69 : decode prog_171_method_1_code 69 = .ok (.aload_n 2, 1) := by decide +kernel
theorem d6_70 : decode prog_171_method_1_code 70 = .ok (.invokevirtual 18, 3) := by decide +kernel
theorem d6_73 : decode prog_171_method_1_code 73 = .ok (.ldc 44, 2) := by decide +kernel
theorem d6_75 : decode prog_171_method_1_code 75 = .ok (.invokevirtual 18, 3) := by decide +kernel
theorem d6_78 : decode prog_171_method_1_code 78 = .ok (.invokevirtual 24, 3) := by decide +kernel
theorem d6_81 : decode prog_171_method_1_code 81 = .ok (.invokevirtual 28, 3) := by decide +kernel
theorem d6_84 : decode prog_171_method_1_code 84 = .ok (.pop, 1) := by decide +kernel
set_option maxRecDepth 65536 in
set_option maxHeartbeats 40000000 in
theorem rmCtor1 (l : Launch) (Z : State) (a0 : Array Value) (hw : ∀ d ∈ tables_1, d.before a0 Z = true) (ws : List Jvm.Cond) (j1 : Addr) (x1 : Addr) (t1 : Addr) (kx : ClassId) (xs : List Value) (y1 : Addr) (u1 : Addr) (ky : ClassId) (ys : List Value) (zc : Int32) (h0 : Heap) (n0 : Nat) (Z0 : n0 ≤ h0.size) (hEL : EW Z a0 EL) (JE : Exa Z h0 j1 "com/example/orbweaver/orbweaver/mapping/JavaSource") (JT0 : Fld Z h0 j1 "com/example/orbweaver/orbweaver/mapping/JavaSource" "text" "Ljava/lang/StringBuilder;" .null) (JD : Fld Z h0 j1 "com/example/orbweaver/orbweaver/mapping/JavaSource" "depth" "I" (.int (0 : Int32))) (g_j1 : n0 ≤ j1) (XE : Exa Z h0 x1 "java/lang/String") (XV : Fld Z h0 x1 "java/lang/String" "value" "[B" (.ref t1)) (XC : Fld Z h0 x1 "java/lang/String" "coder" "B" (.int (0 : Int32))) (XA : Arv Z h0 t1 kx .byte (Int32.ofNat 1) xs (.int (0 : Int32))) (hxl : xs.length = 1) (YE : Exa Z h0 y1 "java/lang/String") (YV : Fld Z h0 y1 "java/lang/String" "value" "[B" (.ref u1)) (YA : Arv Z h0 u1 ky .byte (Int32.ofNat 1) ys (.int (0 : Int32))) (YC : Fld Z h0 y1 "java/lang/String" "coder" "B" (.int (0 : Int32))) (hyl : ys.length = 1) (OZ : Old Z n0 h0) (SC : Sta Z Z.heap "java/lang/String" "COMPACT_STRINGS" "Z" (.int zc)) (hzc : ¬ zc = (0 : Int32)) :
    MetFree l (⟨"com/example/orbweaver/orbweaver/mapping/JavaSource", "<init>", "(Ljava/lang/String;Ljava/lang/String;)V"⟩ : MethodName) (head1 (Jvm.Cond.code (⟨"com/example/orbweaver/orbweaver/mapping/JavaSource", "<init>", "(Ljava/lang/String;Ljava/lang/String;)V"⟩ : MethodName) prog_171_method_1_code 3 none :: ws) ({ frames := 8, cells := 40, slots := 4200, locals := 205 } : Room)) (fun a U => a = #[(.ref j1), (.ref x1), (.ref y1)] ∧ Z.Warmed39 U.vm ∧ U.heap = h0 ∧ CHv Z EL U.vm h0) (fun _ _ _ _ _ => True) (fun _ U o U' => ∃ v L, o = .returned v ∧ QCtor1 Z j1 x1 t1 kx xs y1 u1 ky ys zc h0 n0 v U'.heap L U'.vm ∧ CHr Z EL U.vm U.heap U'.vm U'.heap ∧ ReturnedEndW U o U' L ({ frames := 8, cells := 40, slots := 4200, locals := 205 } : Room).cells ({ frames := 8, cells := 40, slots := 4200, locals := 205 } : Room).slots) := by
  refine MetFree.of_bodySF (plainFor_of_name pn_com_example_orbweaver_orbweaver_mapping_JavaSource) hisR ?_
  intro p e s m args below meth c s₁ Bd hml0 hP hK
  obtain ⟨rfl, hZ, hh, hCH⟩ := hP
  have hx := Bd.exec
  have hby := Bd.bytes
  have hml : c.maxLocals = 3 := hml0
  have hown : s.vm.findClass "com/example/orbweaver/orbweaver/mapping/JavaSource" = some m.cls := findClass_of_methodNamed Bd.named
  have hnm := (name_of_methodNamed Bd.named Bd.method).1
  have X0 : Stand p l e ({ frames := 8, cells := 40, slots := 4200, locals := 205 } : Room) s m #[(.ref j1), (.ref x1), (.ref y1)] below meth c s₁ [] 0 0 := Stand.of_body Bd
  have e0 : s₁.heap = h0 := by rw [← hh, Bd.state]; rfl
  have N0 := Fr.nil n0
  have pre0 : ∀ t, Steps p.tables e below (s₁.setTop (mkF m 0 #[.val (.ref j1), .val (.ref x1), .val (.ref y1)] [])) t → Steps p.tables e below (s₁.setTop (entryFrame m #[(.ref j1), (.ref x1), (.ref y1)] 3)) t := fun t k => castTop (ef_Ctor1 m j1 x1 y1) k
  have X0 : Stand p l e ({ frames := 8, cells := 40, slots := 4200, locals := 205 } : Room) (s.setVm s.vm) m #[(.ref j1), (.ref x1), (.ref y1)] below meth c s₁ [] 0 0 := by rw [State.setVm_self]; exact X0
  have hZ : Z.Warmed39 (s.setVm s.vm).vm := hZ
  have hown : (s.setVm s.vm).vm.findClass "com/example/orbweaver/orbweaver/mapping/JavaSource" = some m.cls := hown
  have hSi0 : s.Since s.vm 0 := (State.WarmedH.refl s).since 0
  have mem_j1 : j1 ∈ [j1] := List.mem_of_getElem? (i := 0) rfl
  have ne_x1_j1 : x1 ≠ j1 := XE.ne JE (by decide)
  have ne_y1_j1 : y1 ≠ j1 := YE.ne JE (by decide)
  have ne_j1_t1 : j1 ≠ t1 := JE.neArv XA (tw hw 9 rfl)
  have ne_j1_u1 : j1 ≠ u1 := JE.neArv YA (tw hw 9 rfl)
  obtain ⟨T623, X623, e623, st623⟩ := initO X0 hx hZ hown (tw hw 35 rfl) (tw hw 28 rfl) (tw hw 29 rfl) e0 (g := (mkF m 1 #[.val (.ref j1), .val (.ref x1), .val (.ref y1)] [(.ref j1)])) rfl (by rw [hml]; rfl) rfl (hb hby d6_1) (by decide) (W := 0) (by show 2 * 0 + _ ≤ _; exact Nat.le_of_eq rfl) (by decide)
  obtain ⟨T624, h624, X624, e624, E624, A624, D624, -, st624⟩ := newO X623 hx hZ hown (tw hw 36 rfl) (tw hw 37 rfl) (tw hw 38 rfl) e623 (g := (mkF m 5 #[.val (.ref j1), .val (.ref x1), .val (.ref y1)] [(.ref j1)])) rfl (hb hby d6_5) (by decide) (by decide)
  obtain ⟨b624, g624⟩ : ∃ z, z = h0.size := ⟨_, rfl⟩
  rw [← g624] at A624 D624 st624
  have g_b624 : n0 ≤ b624 := Nat.le_trans Z0 (Nat.le_of_eq g624.symm)
  have sz_b624 : h0.size ≤ b624 := Nat.le_trans (Keep.refl h0 [j1]).1 (Nat.le_of_eq g624.symm)
  have ne_u1_b624 : u1 ≠ b624 := Nat.ne_of_lt (Nat.lt_of_lt_of_le YA.lt (Nat.le_of_eq g624.symm))
  have ne_x1_b624 : x1 ≠ b624 := Nat.ne_of_lt (Nat.lt_of_lt_of_le XE.lt (Nat.le_of_eq g624.symm))
  have ne_y1_b624 : y1 ≠ b624 := Nat.ne_of_lt (Nat.lt_of_lt_of_le YE.lt (Nat.le_of_eq g624.symm))
  have ne_t1_b624 : t1 ≠ b624 := Nat.ne_of_lt (Nat.lt_of_lt_of_le XA.lt (Nat.le_of_eq g624.symm))
  have ne_j1_b624 : j1 ≠ b624 := Nat.ne_of_lt (Nat.lt_of_lt_of_le JE.lt (Nat.le_of_eq g624.symm))
  have cs625 := CHr.ext E624 hCH
  have cr625 := (CHr.refl hCH).trans cs625
  have hk625 := Nat.le_trans (Nat.zero_le _) cs625.2.1
  have Z624 := Nat.le_trans Z0 E624.1
  have K624 := (Keep.refl h0 [j1]).ext E624
  have F624_value : Fld Z h624 b624 "java/lang/AbstractStringBuilder" "value" "[B" .null := D624 (Or.inl (tw hw 51 rfl)) (ty := (.array .byte)) (by decide)
  have F624_coder : Fld Z h624 b624 "java/lang/AbstractStringBuilder" "coder" "B" (.int (0 : Int32)) := D624 (Or.inl (tw hw 53 rfl)) (ty := .byte) (by decide)
  have F624_count : Fld Z h624 b624 "java/lang/AbstractStringBuilder" "count" "I" (.int (0 : Int32)) := D624 (Or.inl (tw hw 78 rfl)) (ty := .int) (by decide)
  have f626 := (OZ.ext E624)
  have f628 := (JE.ext E624)
  have f629 := (XA.ext E624)
  have f630 := (YA.ext E624)
  have f631 := (XE.ext E624)
  have f632 := (YE.ext E624)
  obtain ⟨_, _, ⟨T627, L627, k627, n627⟩, -, X627, ⟨Lc627, hQ627, l627, y627, z627⟩, st627⟩ := X624.specialBack hx (y := (⟨"java/lang/StringBuilder", "<init>", "()V"⟩ : MethodName)) rfl hown (mvT hZ (tw hw 39 rfl)) (mvT hZ (tw hw 40 rfl)) (mvT hZ (tw hw 41 rfl)) (by decide) (backOf (W := 2) (rmSInit l Z a0 hw [] b624 zc h624 n0 Z624 A624 F624_value F624_coder F624_count g_b624 f626 SC hzc) hZ (tw hw 41 rfl) (tw hw 38 rfl) (by decide) (by decide)) (g := (mkF m 9 #[.val (.ref j1), .val (.ref x1), .val (.ref y1)] [(.ref b624), (.ref b624), (.ref j1)])) rfl (by rw [hml]; rfl) (Steps.refl _) (a := b624) (argsL := []) (rest := [(.ref b624), (.ref j1)]) (lenOf pd___V rfl) rfl (by show 2 * 0 + _ ≤ _; exact Nat.le_of_eq rfl) (hb hby d6_9) (fun _ _ => ⟨rfl, e624, (by decide : 1 + 1 ≤ _), (by decide : 4 + 16 ≤ _)⟩)
  dsimp only [Pt.U, Pt.locs, Pt.cells, Pt.slots] at X627 l627 y627 z627 st627 hQ627
  subst l627 y627 z627
  obtain ⟨rfl, N627q, KC627, v_ta, k_ta, ⟨E_ta, V_ta, C_ta, N_ta, A_ta, X_ta⟩, le_ta⟩ := hQ627
  have N627 := Fr.app N0 N627q
  have g_v_ta : n0 ≤ v_ta := Nat.le_trans Z624 le_ta
  have sz_v_ta : h0.size ≤ v_ta := Nat.le_trans K624.1 le_ta
  have ne_b624_v_ta : b624 ≠ v_ta := Nat.ne_of_lt (Nat.lt_of_lt_of_le A624.lt le_ta)
  have ne_j1_v_ta : j1 ≠ v_ta := Nat.ne_of_lt (Nat.lt_of_lt_of_le f628.lt le_ta)
  have ne_u1_v_ta : u1 ≠ v_ta := Nat.ne_of_lt (Nat.lt_of_lt_of_le f630.lt le_ta)
  have ne_y1_v_ta : y1 ≠ v_ta := Nat.ne_of_lt (Nat.lt_of_lt_of_le f632.lt le_ta)
  have cs633 := CHr.keep KC627 (allS (Safe.exa (EL := EL) hZ.alike A624 (by decide) (by decide)) all0) cs625.1
  have cr633 := cr625.trans cs633
  have hk633 := Nat.le_trans hk625 cs633.2.1
  have Z627 := Nat.le_trans Z624 KC627.1
  have K627 := K624.trans KC627 (allS (Or.inr sz_b624) all0)
  have y_ta := own_safeK (y := b624) KC627 (allS (Safe.exa (EL := EL) hZ.alike A624 (by decide) (by decide)) all0) cs625.1 (Or.inr le_ta) (Safe.exa (EL := EL) hZ.alike A624 (by decide) (by decide))
  have ne_b624_v_ta : b624 ≠ v_ta := E_ta.neArv A_ta (tw hw 37 rfl)
  have f634 := ((JT0.ext E624).keep KC627 (ninS ne_j1_b624 nin0))
  have f635 := (f628.keep KC627)
  obtain ⟨T636, h636, X636, e636, W636, st636⟩ := putF X627 hx hZ hown (host := "") (Or.inl (tw hw 54 rfl)) Via.refl rfl f634 f635 (Or.inr ⟨(tw hw 55 rfl), rfl, hnm⟩) (tw hw 9 rfl) (ty := (.object "java/lang/StringBuilder")) (by decide) rfl rfl (g := (mkF m 12 #[.val (.ref j1), .val (.ref x1), .val (.ref y1)] [(.ref b624), (.ref j1)])) rfl rfl (hb hby d6_12)
  have cs637 := CHr.wr W636 (Safe.exa (EL := EL) hZ.alike f635 (by decide) (by decide)) cs633.1
  have cr637 := cr633.trans cs637
  have y637_v_ta := cs637.safe A_ta.lt y_ta
  have hk637 := Nat.le_trans hk633 cs637.2.1
  have N636 := Fr.snoc X636 N627 g_j1
  have Z636 := Nat.le_trans Z627 (Keep.of_wr W636).1
  have K636 := K627.wr W636 (Or.inl mem_j1)
  have Fw636 := f634.same W636
  obtain ⟨T638, h638, X638, e638, E638, A638, D638, -, st638⟩ := newO X636 hx hZ hown (tw hw 36 rfl) (tw hw 37 rfl) (tw hw 38 rfl) e636 (g := (mkF m 16 #[.val (.ref j1), .val (.ref x1), .val (.ref y1)] [(.ref j1)])) rfl (hb hby d6_16) (by decide) (by decide)
  obtain ⟨b638, g638⟩ : ∃ z, z = h636.size := ⟨_, rfl⟩
  rw [← g638] at A638 D638 st638
  have g_b638 : n0 ≤ b638 := Nat.le_trans Z636 (Nat.le_of_eq g638.symm)
  have sz_b638 : h0.size ≤ b638 := Nat.le_trans K636.1 (Nat.le_of_eq g638.symm)
  have f639 := ((f630.keep KC627 (ninS ne_u1_b624 nin0)).other W636 (Ne.symm ne_j1_u1))
  have ne_u1_b638 : u1 ≠ b638 := Nat.ne_of_lt (Nat.lt_of_lt_of_le f639.lt (Nat.le_of_eq g638.symm))
  have f640 := ((f631.keep KC627).wr W636)
  have ne_x1_b638 : x1 ≠ b638 := Nat.ne_of_lt (Nat.lt_of_lt_of_le f640.lt (Nat.le_of_eq g638.symm))
  have f641 := (A_ta.other W636 (Ne.symm ne_j1_v_ta))
  have ne_v_ta_b638 : v_ta ≠ b638 := Nat.ne_of_lt (Nat.lt_of_lt_of_le f641.lt (Nat.le_of_eq g638.symm))
  have f642 := (E_ta.wr W636)
  have ne_b624_b638 : b624 ≠ b638 := Nat.ne_of_lt (Nat.lt_of_lt_of_le f642.lt (Nat.le_of_eq g638.symm))
  have f643 := ((f632.keep KC627).wr W636)
  have ne_y1_b638 : y1 ≠ b638 := Nat.ne_of_lt (Nat.lt_of_lt_of_le f643.lt (Nat.le_of_eq g638.symm))
  have f644 := ((f629.keep KC627 (ninS ne_t1_b624 nin0)).other W636 (Ne.symm ne_j1_t1))
  have ne_t1_b638 : t1 ≠ b638 := Nat.ne_of_lt (Nat.lt_of_lt_of_le f644.lt (Nat.le_of_eq g638.symm))
  have f645 := (f635.wr W636)
  have ne_j1_b638 : j1 ≠ b638 := Nat.ne_of_lt (Nat.lt_of_lt_of_le f645.lt (Nat.le_of_eq g638.symm))
  have cs646 := CHr.ext E638 cs637.1
  have cr646 := cr637.trans cs646
  have y646_v_ta := cs646.safe f641.lt y637_v_ta
  have hk646 := Nat.le_trans hk637 cs646.2.1
  have Z638 := Nat.le_trans Z636 E638.1
  have K638 := K636.ext E638
  have F638_value : Fld Z h638 b638 "java/lang/AbstractStringBuilder" "value" "[B" .null := D638 (Or.inl (tw hw 51 rfl)) (ty := (.array .byte)) (by decide)
  have F638_coder : Fld Z h638 b638 "java/lang/AbstractStringBuilder" "coder" "B" (.int (0 : Int32)) := D638 (Or.inl (tw hw 53 rfl)) (ty := .byte) (by decide)
  have F638_count : Fld Z h638 b638 "java/lang/AbstractStringBuilder" "count" "I" (.int (0 : Int32)) := D638 (Or.inl (tw hw 78 rfl)) (ty := .int) (by decide)
  have f647 := (((f626.keep KC627 (allS g_b624 all0)).wr W636 g_j1).ext E638)
  have f649 := (f642.ext E638)
  have f650 := (f645.ext E638)
  have f651 := (f644.ext E638)
  have f652 := (f639.ext E638)
  have f653 := (f641.ext E638)
  have f654 := (f640.ext E638)
  have f655 := (f643.ext E638)
  obtain ⟨_, _, ⟨T648, L648, k648, n648⟩, -, X648, ⟨Lc648, hQ648, l648, y648, z648⟩, st648⟩ := X638.specialBack hx (y := (⟨"java/lang/StringBuilder", "<init>", "()V"⟩ : MethodName)) rfl hown (mvT hZ (tw hw 39 rfl)) (mvT hZ (tw hw 40 rfl)) (mvT hZ (tw hw 41 rfl)) (by decide) (backOf (W := 2) (rmSInit l Z a0 hw [] b638 zc h638 n0 Z638 A638 F638_value F638_coder F638_count g_b638 f647 SC hzc) hZ (tw hw 41 rfl) (tw hw 38 rfl) (by decide) (by decide)) (g := (mkF m 20 #[.val (.ref j1), .val (.ref x1), .val (.ref y1)] [(.ref b638), (.ref b638), (.ref j1)])) rfl (by rw [hml]; rfl) (Steps.refl _) (a := b638) (argsL := []) (rest := [(.ref b638), (.ref j1)]) (lenOf pd___V rfl) rfl (by show 2 * 0 + _ ≤ _; exact Nat.le_of_eq rfl) (hb hby d6_20) (fun _ _ => ⟨rfl, e638, (by decide : 3 + 1 ≤ _), (by decide : 24 + 16 ≤ _)⟩)
  dsimp only [Pt.U, Pt.locs, Pt.cells, Pt.slots] at X648 l648 y648 z648 st648 hQ648
  subst l648 y648 z648
  obtain ⟨rfl, N648q, KC648, v_pa, k_pa, ⟨E_pa, V_pa, C_pa, N_pa, A_pa, X_pa⟩, le_pa⟩ := hQ648
  have N648 := Fr.app N636 N648q
  have g_v_pa : n0 ≤ v_pa := Nat.le_trans Z638 le_pa
  have sz_v_pa : h0.size ≤ v_pa := Nat.le_trans K638.1 le_pa
  have ne_b624_v_pa : b624 ≠ v_pa := Nat.ne_of_lt (Nat.lt_of_lt_of_le f649.lt le_pa)
  have ne_b638_v_pa : b638 ≠ v_pa := Nat.ne_of_lt (Nat.lt_of_lt_of_le A638.lt le_pa)
  have ne_j1_v_pa : j1 ≠ v_pa := Nat.ne_of_lt (Nat.lt_of_lt_of_le f650.lt le_pa)
  have ne_t1_v_pa : t1 ≠ v_pa := Nat.ne_of_lt (Nat.lt_of_lt_of_le f651.lt le_pa)
  have ne_u1_v_pa : u1 ≠ v_pa := Nat.ne_of_lt (Nat.lt_of_lt_of_le f652.lt le_pa)
  have ne_v_ta_v_pa : v_ta ≠ v_pa := Nat.ne_of_lt (Nat.lt_of_lt_of_le f653.lt le_pa)
  have ne_x1_v_pa : x1 ≠ v_pa := Nat.ne_of_lt (Nat.lt_of_lt_of_le f654.lt le_pa)
  have ne_y1_v_pa : y1 ≠ v_pa := Nat.ne_of_lt (Nat.lt_of_lt_of_le f655.lt le_pa)
  have cs656 := CHr.keep KC648 (allS (Safe.exa (EL := EL) hZ.alike A638 (by decide) (by decide)) all0) cs646.1
  have cr656 := cr646.trans cs656
  have y656_v_ta := cs656.safe f653.lt y646_v_ta
  have hk656 := Nat.le_trans hk646 cs656.2.1
  have Z648 := Nat.le_trans Z638 KC648.1
  have K648 := K638.trans KC648 (allS (Or.inr sz_b638) all0)
  have y_pa := own_safeK (y := b638) KC648 (allS (Safe.exa (EL := EL) hZ.alike A638 (by decide) (by decide)) all0) cs646.1 (Or.inr le_pa) (Safe.exa (EL := EL) hZ.alike A638 (by decide) (by decide))
  have ne_b638_v_pa : b638 ≠ v_pa := E_pa.neArv A_pa (tw hw 37 rfl)
  obtain ⟨LL657, XL657, NL657⟩ : ∃ LL, Stand p l e ({ frames := 8, cells := 40, slots := 4200, locals := 205 } : Room) (s.setVm s.vm) m #[(.ref j1), (.ref x1), (.ref y1)] below meth c T648 LL 4 40 ∧ Fr n0 LL := ⟨_, X648, N648⟩
  have pre658 : ∀ t, Steps p.tables e below (T648.setTop (mkF m 23 #[.val (.ref j1), .val (.ref x1), .val (.ref y1)] [(.ref b638), (.ref j1)])) t → Steps p.tables e below (s₁.setTop (mkF m 0 #[.val (.ref j1), .val (.ref x1), .val (.ref y1)] [])) t := by
    intro t kt
    show Steps p.tables e below (s₁.setTop (mkF m 0 #[.val (.ref j1), .val (.ref x1), .val (.ref y1)] [])) _
    refine XS.aloadN X0.here hx rfl (hb hby d6_0) rfl rfl ?_
    show Steps p.tables e below (s₁.setTop (mkF m 1 #[.val (.ref j1), .val (.ref x1), .val (.ref y1)] [(.ref j1)])) _
    refine st623 _ ?_
    show Steps p.tables e below (T623.setTop (mkF m 4 #[.val (.ref j1), .val (.ref x1), .val (.ref y1)] [])) _
    refine XS.aloadN X623.here hx rfl (hb hby d6_4) rfl rfl ?_
    show Steps p.tables e below (T623.setTop (mkF m 5 #[.val (.ref j1), .val (.ref x1), .val (.ref y1)] [(.ref j1)])) _
    refine st624 _ ?_
    show Steps p.tables e below (T624.setTop (mkF m 8 #[.val (.ref j1), .val (.ref x1), .val (.ref y1)] [(.ref b624), (.ref j1)])) _
    refine XS.dup X624.here hx rfl (hb hby d6_8) rfl rfl ?_
    refine st627.trans ?_
    refine st636 _ ?_
    show Steps p.tables e below (T636.setTop (mkF m 15 #[.val (.ref j1), .val (.ref x1), .val (.ref y1)] [])) _
    refine XS.aloadN X636.here hx rfl (hb hby d6_15) rfl rfl ?_
    show Steps p.tables e below (T636.setTop (mkF m 16 #[.val (.ref j1), .val (.ref x1), .val (.ref y1)] [(.ref j1)])) _
    refine st638 _ ?_
    show Steps p.tables e below (T638.setTop (mkF m 19 #[.val (.ref j1), .val (.ref x1), .val (.ref y1)] [(.ref b638), (.ref j1)])) _
    refine XS.dup X638.here hx rfl (hb hby d6_19) rfl rfl ?_
    refine st648.trans ?_
    exact kt
  have wS659 : ∀ a ∈ Bundle.stringAtoms, a.before a0 Z = true := fun d hd => hw d ((by decide +kernel : ∀ d ∈ Bundle.stringAtoms, d ∈ tables_1) d hd)
  obtain ⟨b659, T659, h659, k659, d659, kb659, X659, e659, E659, hSi659, hk659, hZ, hown, A659, FC659, FV659, V659, -, -, crs659, Lt659, nn659, st659⟩ := ldcCH (s := s) (vm0 := s.vm) XL657 hx hZ hown (tw hw 56 rfl) wS659 rfl hSi0 hk656 hEL (by decide : ("com/example/orbweaver/orbweaver/mapping/JavaSource", 16) ∈ EL) cs656.1 (vs := [(.int (47 : Int32)), (.int (47 : Int32)), (.int (32 : Int32)), (.int (71 : Int32)), (.int (101 : Int32)), (.int (110 : Int32)), (.int (101 : Int32)), (.int (114 : Int32)), (.int (97 : Int32)), (.int (116 : Int32)), (.int (101 : Int32)), (.int (100 : Int32)), (.int (32 : Int32)), (.int (98 : Int32)), (.int (121 : Int32)), (.int (32 : Int32)), (.int (111 : Int32)), (.int (114 : Int32)), (.int (98 : Int32)), (.int (119 : Int32)), (.int (101 : Int32)), (.int (97 : Int32)), (.int (118 : Int32)), (.int (101 : Int32)), (.int (114 : Int32)), (.int (32 : Int32)), (.int (105 : Int32)), (.int (100 : Int32)), (.int (108 : Int32)), (.int (32 : Int32)), (.int (102 : Int32)), (.int (114 : Int32)), (.int (111 : Int32)), (.int (109 : Int32)), (.int (32 : Int32))]) (z := (35 : Int32)) ⟨by decide, rfl⟩ (by decide) (by decide) (g := (mkF m 23 #[.val (.ref j1), .val (.ref x1), .val (.ref y1)] [(.ref b638), (.ref j1)])) rfl (hb hby d6_23) (n := 140) (by decide) (by decide) (by decide) (by decide)
  have f661 := (f653.keep KC648 (ninS ne_v_ta_b638 nin0))
  have cs660 := crs659
  have cr660 := cr656.trans cs660
  have y660_v_ta := cs660.safe f661.lt y656_v_ta
  have y660_v_pa := cs660.safe A_pa.lt y_pa
  have Z659 := Nat.le_trans Z648 E659.1
  have K659 := K648.ext E659
  obtain ⟨ne_v_pa_b659, ne_v_pa_d659⟩ := nn659 _ y660_v_pa
  obtain ⟨ne_v_ta_b659, ne_v_ta_d659⟩ := nn659 _ y660_v_ta
  have f662 := ((f650.keep KC648).ext E659)
  have f663 := ((f649.keep KC648).ext E659)
  have f664 := (E_pa.ext E659)
  have f666 := (V_pa.ext E659)
  have f667 := (C_pa.ext E659)
  have f668 := (N_pa.ext E659)
  have f669 := (A_pa.ext E659)
  have f670 := (X_pa.ext E659)
  have f671 := ((f647.keep KC648 (allS g_b638 all0)).ext E659)
  have f672 := ((f651.keep KC648 (ninS ne_t1_b638 nin0)).ext E659)
  have f673 := ((f652.keep KC648 (ninS ne_u1_b638 nin0)).ext E659)
  have f674 := (f661.ext E659)
  have f675 := ((f654.keep KC648).ext E659)
  have f676 := ((f655.keep KC648).ext E659)
  obtain ⟨cq677, kq677, q677a, q677b, q677c⟩ := isOf hZ e659 f664
  obtain ⟨_, _, ⟨T677, L677, k677, n677⟩, -, X677, ⟨Lc677, hQ677, l677, y677, z677⟩, st677⟩ := X659.virtualBack hx (y := (⟨"java/lang/StringBuilder", "append", "(Ljava/lang/String;)Ljava/lang/StringBuilder;"⟩ : MethodName)) (z := (⟨"java/lang/StringBuilder", "append", "(Ljava/lang/String;)Ljava/lang/StringBuilder;"⟩ : MethodName)) hown (mvT hZ (tw hw 57 rfl)) (mvT hZ (tw hw 58 rfl)) (notFace_of_selects (args := #[]) (mvT hZ (tw hw 60 rfl))) (mvT hZ (tw hw 60 rfl)) (mvT hZ (tw hw 59 rfl)) (by decide) (backOf (W := 1) (rmSApS l Z a0 hw [] b638 v_pa k_pa (16) (0) (List.replicate 16 (.int (0 : Int32))) b659 d659 kb659 (35) [(.int (47 : Int32)), (.int (47 : Int32)), (.int (32 : Int32)), (.int (71 : Int32)), (.int (101 : Int32)), (.int (110 : Int32)), (.int (101 : Int32)), (.int (114 : Int32)), (.int (97 : Int32)), (.int (116 : Int32)), (.int (101 : Int32)), (.int (100 : Int32)), (.int (32 : Int32)), (.int (98 : Int32)), (.int (121 : Int32)), (.int (32 : Int32)), (.int (111 : Int32)), (.int (114 : Int32)), (.int (98 : Int32)), (.int (119 : Int32)), (.int (101 : Int32)), (.int (97 : Int32)), (.int (118 : Int32)), (.int (101 : Int32)), (.int (114 : Int32)), (.int (32 : Int32)), (.int (105 : Int32)), (.int (100 : Int32)), (.int (108 : Int32)), (.int (32 : Int32)), (.int (102 : Int32)), (.int (114 : Int32)), (.int (111 : Int32)), (.int (109 : Int32)), (.int (32 : Int32))] zc h659 n0 Z659 f664 f666 f667 f668 f669 f670 (by simp) (by decide) g_b638 g_v_pa A659 FV659 FC659 V659 rfl (by decide) (Ne.symm ne_v_pa_d659) (by decide) ((by decide) : 0 + 35 ≤ 16 ∨ max (0 + 35) (2 * (16) + 2) ≤ 160) (by decide) f671 SC hzc) hZ (tw hw 61 rfl) (tw hw 38 rfl) (by decide) (by decide)) q677a q677c (g := (mkF m 25 #[.val (.ref j1), .val (.ref x1), .val (.ref y1)] [(.ref b659), (.ref b638), (.ref j1)])) rfl (by rw [hml]; rfl) (Steps.refl _) (argsL := [(.ref b659)]) (rest := [(.ref j1)]) (lenOf pd__Ljava_lang_String__Ljava_lang_StringBuilder_ rfl) rfl (by show 2 * 0 + _ ≤ _; exact Nat.le_of_eq rfl) (hb hby d6_25) (fun _ _ => ⟨rfl, e659, (by decide : 6 + 1 ≤ _), (by decide : 184 + 160 ≤ _)⟩)
  dsimp only [Pt.U, Pt.locs, Pt.cells, Pt.slots] at X677 l677 y677 z677 st677 hQ677
  subst l677 y677 z677
  obtain ⟨rfl, N677q, KC677, v2_665, k2_665, wa_665, ⟨E665, V665, C665, N665, A665, X665⟩, l2_665, tk_665, g_v2_665, hv_665⟩ := hQ677
  have N677 := Fr.app NL657 N677q
  have cs678 := CHr.keep KC677 (allS (Safe.exa (EL := EL) hZ.alike f664 (by decide) (by decide)) (allS y660_v_pa all0)) cs660.1
  have cr678 := cr660.trans cs678
  have y678_v_ta := cs678.safe f674.lt y660_v_ta
  have hk678 := Nat.le_trans hk659 cs678.2.1
  have Z677 := Nat.le_trans Z659 KC677.1
  have K677 := K659.trans KC677 (allS (Or.inr sz_b638) (allS (Or.inr sz_v_pa) all0))
  have sz_v2_665 : h0.size ≤ v2_665 := hv_665.elim (fun q => by rw [q]; exact sz_v_pa) (fun q => Nat.le_trans K659.1 q)
  have ne_b624_v2_665 : b624 ≠ v2_665 := hv_665.elim (fun q => by rw [q]; exact ne_b624_v_pa) (fun q => Nat.ne_of_lt (Nat.lt_of_lt_of_le f663.lt q))
  have ne_j1_v2_665 : j1 ≠ v2_665 := hv_665.elim (fun q => by rw [q]; exact ne_j1_v_pa) (fun q => Nat.ne_of_lt (Nat.lt_of_lt_of_le f662.lt q))
  have ne_u1_v2_665 : u1 ≠ v2_665 := hv_665.elim (fun q => by rw [q]; exact ne_u1_v_pa) (fun q => Nat.ne_of_lt (Nat.lt_of_lt_of_le f673.lt q))
  have ne_v_ta_v2_665 : v_ta ≠ v2_665 := hv_665.elim (fun q => by rw [q]; exact ne_v_ta_v_pa) (fun q => Nat.ne_of_lt (Nat.lt_of_lt_of_le f674.lt q))
  have ne_y1_v2_665 : y1 ≠ v2_665 := hv_665.elim (fun q => by rw [q]; exact ne_y1_v_pa) (fun q => Nat.ne_of_lt (Nat.lt_of_lt_of_le f676.lt q))
  have y_v2_665 := own_safeK KC677 (allS (Safe.exa (EL := EL) hZ.alike f664 (by decide) (by decide)) (allS y660_v_pa all0)) cs660.1 hv_665 y660_v_pa
  have hgl_665 := @own_grle (16) (0 + 35)
  have hgm_665 : own_gr (16) (0 + 35) ≤ 1000 := own_grM (by decide) (by decide) ((by decide) : 0 + 35 ≤ 16 ∨ max (0 + 35) (2 * (16) + 2) ≤ 160)
  have nx2 : t1 ≠ v2_665 := Nat.ne_of_lt (Nat.lt_of_lt_of_le XA.lt sz_v2_665)
  have f680 := (f675.keep KC677)
  have f681 := (((((((XV.ext E624).keep KC627 (ninS ne_x1_b624 nin0)).other W636 (Or.inl ne_x1_j1)).ext E638).keep KC648 (ninS ne_x1_b638 nin0)).ext E659).keep KC677 (ninS ne_x1_b638 (ninS ne_x1_v_pa nin0)))
  have f682 := (((((((XC.ext E624).keep KC627 (ninS ne_x1_b624 nin0)).other W636 (Or.inl ne_x1_j1)).ext E638).keep KC648 (ninS ne_x1_b638 nin0)).ext E659).keep KC677 (ninS ne_x1_b638 (ninS ne_x1_v_pa nin0)))
  have f683 := (f672.keep KC677 (ninS ne_t1_b638 (ninS ne_t1_v_pa nin0)))
  have f684 := (f671.keep KC677 (allS g_b638 (allS g_v_pa all0)))
  have f685 := (f663.keep KC677)
  have f688 := (f662.keep KC677)
  have f689 := (f673.keep KC677 (ninS ne_u1_b638 (ninS ne_u1_v_pa nin0)))
  have f690 := (f674.keep KC677 (ninS ne_v_ta_b638 (ninS ne_v_ta_v_pa nin0)))
  have f691 := (f676.keep KC677)
  obtain ⟨cq692, kq692, q692a, q692b, q692c⟩ := isOf hZ rfl E665
  obtain ⟨_, _, ⟨T692, L692, k692, n692⟩, -, X692, ⟨Lc692, hQ692, l692, y692, z692⟩, st692⟩ := X677.virtualBack hx (y := (⟨"java/lang/StringBuilder", "append", "(Ljava/lang/String;)Ljava/lang/StringBuilder;"⟩ : MethodName)) (z := (⟨"java/lang/StringBuilder", "append", "(Ljava/lang/String;)Ljava/lang/StringBuilder;"⟩ : MethodName)) hown (mvT hZ (tw hw 57 rfl)) (mvT hZ (tw hw 58 rfl)) (notFace_of_selects (args := #[]) (mvT hZ (tw hw 60 rfl))) (mvT hZ (tw hw 60 rfl)) (mvT hZ (tw hw 59 rfl)) (by decide) (backOf (W := 1) (rmSApS l Z a0 hw [] b638 v2_665 k2_665 (own_gr (16) (0 + 35)) (0 + 35) wa_665 x1 t1 kx (1) xs zc T677.heap n0 Z677 E665 V665 C665 N665 A665 X665 l2_665 hgm_665 g_b638 g_v2_665 f680 f681 f682 f683 hxl (by decide) nx2 hgl_665.1 ((by decide) : 0 + 35 + 1 ≤ own_gr (16) (0 + 35) ∨ max (0 + 35 + 1) (2 * (own_gr (16) (0 + 35)) + 2) ≤ 160) (by decide) f684 SC hzc) hZ (tw hw 61 rfl) (tw hw 38 rfl) (by decide) (by decide)) q692a q692c (g := (mkF m 29 #[.val (.ref j1), .val (.ref x1), .val (.ref y1)] [(.ref x1), (.ref b638), (.ref j1)])) rfl (by rw [hml]; rfl) (Steps.refl _) (argsL := [(.ref x1)]) (rest := [(.ref j1)]) (lenOf pd__Ljava_lang_String__Ljava_lang_StringBuilder_ rfl) rfl (by show 2 * 0 + _ ≤ _; exact Nat.le_of_eq rfl) (hb hby d6_29) (fun _ _ => ⟨rfl, rfl, (by decide : 7 + 1 ≤ _), (by decide : 344 + 160 ≤ _)⟩)
  dsimp only [Pt.U, Pt.locs, Pt.cells, Pt.slots] at X692 l692 y692 z692 st692 hQ692
  subst l692 y692 z692
  obtain ⟨rfl, N692q, KC692, v2_679, k2_679, wa_679, ⟨E679, V679, C679, N679, A679, X679⟩, l2_679, tk_679, g_v2_679, hv_679⟩ := hQ692
  have N692 := Fr.app N677 N692q
  have cs693 := CHr.keep KC692 (allS (Safe.exa (EL := EL) hZ.alike E665 (by decide) (by decide)) (allS y_v2_665 all0)) cs678.1
  have cr693 := cr678.trans cs693
  have y693_v_ta := cs693.safe f690.lt y678_v_ta
  have hk693 := Nat.le_trans hk678 cs693.2.1
  have Z692 := Nat.le_trans Z677 KC692.1
  have K692 := K677.trans KC692 (allS (Or.inr sz_b638) (allS (Or.inr sz_v2_665) all0))
  have sz_v2_679 : h0.size ≤ v2_679 := hv_679.elim (fun q => by rw [q]; exact sz_v2_665) (fun q => Nat.le_trans K677.1 q)
  have ne_b624_v2_679 : b624 ≠ v2_679 := hv_679.elim (fun q => by rw [q]; exact ne_b624_v2_665) (fun q => Nat.ne_of_lt (Nat.lt_of_lt_of_le f685.lt q))
  have ne_j1_v2_679 : j1 ≠ v2_679 := hv_679.elim (fun q => by rw [q]; exact ne_j1_v2_665) (fun q => Nat.ne_of_lt (Nat.lt_of_lt_of_le f688.lt q))
  have ne_u1_v2_679 : u1 ≠ v2_679 := hv_679.elim (fun q => by rw [q]; exact ne_u1_v2_665) (fun q => Nat.ne_of_lt (Nat.lt_of_lt_of_le f689.lt q))
  have ne_v_ta_v2_679 : v_ta ≠ v2_679 := hv_679.elim (fun q => by rw [q]; exact ne_v_ta_v2_665) (fun q => Nat.ne_of_lt (Nat.lt_of_lt_of_le f690.lt q))
  have ne_y1_v2_679 : y1 ≠ v2_679 := hv_679.elim (fun q => by rw [q]; exact ne_y1_v2_665) (fun q => Nat.ne_of_lt (Nat.lt_of_lt_of_le f691.lt q))
  have y_v2_679 := own_safeK KC692 (allS (Safe.exa (EL := EL) hZ.alike E665 (by decide) (by decide)) (allS y_v2_665 all0)) cs678.1 hv_679 y_v2_665
  have hgl_679 := @own_grle (own_gr (16) (0 + 35)) (0 + 35 + 1)
  have hgm_679 : own_gr (own_gr (16) (0 + 35)) (0 + 35 + 1) ≤ 1000 := own_grM hgm_665 (by decide) ((by decide) : 0 + 35 + 1 ≤ own_gr (16) (0 + 35) ∨ max (0 + 35 + 1) (2 * (own_gr (16) (0 + 35)) + 2) ≤ 160)
  obtain ⟨LL694, XL694, NL694⟩ : ∃ LL, Stand p l e ({ frames := 8, cells := 40, slots := 4200, locals := 205 } : Room) (s.setVm T659.vm) m #[(.ref j1), (.ref x1), (.ref y1)] below meth c T692 LL 8 504 ∧ Fr n0 LL := ⟨_, X692, N692⟩
  have pre695 : ∀ t, Steps p.tables e below (T692.setTop (mkF m 32 #[.val (.ref j1), .val (.ref x1), .val (.ref y1)] [(.ref b638), (.ref j1)])) t → Steps p.tables e below (T648.setTop (mkF m 23 #[.val (.ref j1), .val (.ref x1), .val (.ref y1)] [(.ref b638), (.ref j1)])) t := by
    intro t kt
    show Steps p.tables e below (T648.setTop (mkF m 23 #[.val (.ref j1), .val (.ref x1), .val (.ref y1)] [(.ref b638), (.ref j1)])) _
    refine st659 _ ?_
    refine st677.trans ?_
    show Steps p.tables e below (T677.setTop (mkF m 28 #[.val (.ref j1), .val (.ref x1), .val (.ref y1)] [(.ref b638), (.ref j1)])) _
    refine XS.aloadN X677.here hx rfl (hb hby d6_28) rfl rfl ?_
    refine st692.trans ?_
    exact kt
  have wS696 : ∀ a ∈ Bundle.stringAtoms, a.before a0 Z = true := fun d hd => hw d ((by decide +kernel : ∀ d ∈ Bundle.stringAtoms, d ∈ tables_1) d hd)
  obtain ⟨b696, T696, h696, k696, d696, kb696, X696, e696, E696, hSi696, hk696, hZ, hown, A696, FC696, FV696, V696, -, -, crs696, Lt696, nn696, st696⟩ := ldcCH (s := s) (vm0 := T659.vm) XL694 hx hZ hown (tw hw 127 rfl) wS696 rfl hSi659 hk693 hEL (by decide : ("com/example/orbweaver/orbweaver/mapping/JavaSource", 22) ∈ EL) cs693.1 (vs := [(.int (46 : Int32)), (.int (32 : Int32)), (.int (67 : Int32)), (.int (104 : Int32)), (.int (97 : Int32)), (.int (110 : Int32)), (.int (103 : Int32)), (.int (101 : Int32)), (.int (115 : Int32)), (.int (32 : Int32)), (.int (97 : Int32)), (.int (114 : Int32)), (.int (101 : Int32)), (.int (32 : Int32)), (.int (108 : Int32)), (.int (111 : Int32)), (.int (115 : Int32)), (.int (116 : Int32)), (.int (32 : Int32)), (.int (119 : Int32)), (.int (104 : Int32)), (.int (101 : Int32)), (.int (110 : Int32)), (.int (32 : Int32)), (.int (105 : Int32)), (.int (116 : Int32)), (.int (32 : Int32)), (.int (114 : Int32)), (.int (117 : Int32)), (.int (110 : Int32)), (.int (115 : Int32)), (.int (32 : Int32)), (.int (97 : Int32)), (.int (103 : Int32)), (.int (97 : Int32)), (.int (105 : Int32)), (.int (110 : Int32)), (.int (46 : Int32))]) (z := (38 : Int32)) ⟨by decide, rfl⟩ (by decide) (by decide) (g := (mkF m 32 #[.val (.ref j1), .val (.ref x1), .val (.ref y1)] [(.ref b638), (.ref j1)])) rfl (hb hby d6_32) (n := 152) (by decide) (by decide) (by decide) (by decide)
  have f698 := (f690.keep KC692 (ninS ne_v_ta_b638 (ninS ne_v_ta_v2_665 nin0)))
  have cs697 := crs696
  have cr697 := cr693.trans cs697
  have y697_v_ta := cs697.safe f698.lt y693_v_ta
  have y697_v2_679 := cs697.safe A679.lt y_v2_679
  have Z696 := Nat.le_trans Z692 E696.1
  have K696 := K692.ext E696
  obtain ⟨ne_v2_679_b696, ne_v2_679_d696⟩ := nn696 _ y697_v2_679
  obtain ⟨ne_v_ta_b696, ne_v_ta_d696⟩ := nn696 _ y697_v_ta
  have f699 := ((f688.keep KC692).ext E696)
  have f700 := ((f685.keep KC692).ext E696)
  have f701 := (E679.ext E696)
  have f703 := (V679.ext E696)
  have f704 := (C679.ext E696)
  have f705 := (N679.ext E696)
  have f706 := (A679.ext E696)
  have f707 := (X679.ext E696)
  have f708 := ((f684.keep KC692 (allS g_b638 (allS g_v2_665 all0))).ext E696)
  have f712 := ((f689.keep KC692 (ninS ne_u1_b638 (ninS ne_u1_v2_665 nin0))).ext E696)
  have f713 := (f698.ext E696)
  have f715 := ((f691.keep KC692).ext E696)
  obtain ⟨cq716, kq716, q716a, q716b, q716c⟩ := isOf hZ e696 f701
  obtain ⟨_, _, ⟨T716, L716, k716, n716⟩, -, X716, ⟨Lc716, hQ716, l716, y716, z716⟩, st716⟩ := X696.virtualBack hx (y := (⟨"java/lang/StringBuilder", "append", "(Ljava/lang/String;)Ljava/lang/StringBuilder;"⟩ : MethodName)) (z := (⟨"java/lang/StringBuilder", "append", "(Ljava/lang/String;)Ljava/lang/StringBuilder;"⟩ : MethodName)) hown (mvT hZ (tw hw 57 rfl)) (mvT hZ (tw hw 58 rfl)) (notFace_of_selects (args := #[]) (mvT hZ (tw hw 60 rfl))) (mvT hZ (tw hw 60 rfl)) (mvT hZ (tw hw 59 rfl)) (by decide) (backOf (W := 1) (rmSApS l Z a0 hw [] b638 v2_679 k2_679 (own_gr (own_gr (16) (0 + 35)) (0 + 35 + 1)) (0 + 35 + 1) wa_679 b696 d696 kb696 (38) [(.int (46 : Int32)), (.int (32 : Int32)), (.int (67 : Int32)), (.int (104 : Int32)), (.int (97 : Int32)), (.int (110 : Int32)), (.int (103 : Int32)), (.int (101 : Int32)), (.int (115 : Int32)), (.int (32 : Int32)), (.int (97 : Int32)), (.int (114 : Int32)), (.int (101 : Int32)), (.int (32 : Int32)), (.int (108 : Int32)), (.int (111 : Int32)), (.int (115 : Int32)), (.int (116 : Int32)), (.int (32 : Int32)), (.int (119 : Int32)), (.int (104 : Int32)), (.int (101 : Int32)), (.int (110 : Int32)), (.int (32 : Int32)), (.int (105 : Int32)), (.int (116 : Int32)), (.int (32 : Int32)), (.int (114 : Int32)), (.int (117 : Int32)), (.int (110 : Int32)), (.int (115 : Int32)), (.int (32 : Int32)), (.int (97 : Int32)), (.int (103 : Int32)), (.int (97 : Int32)), (.int (105 : Int32)), (.int (110 : Int32)), (.int (46 : Int32))] zc h696 n0 Z696 f701 f703 f704 f705 f706 f707 l2_679 hgm_679 g_b638 g_v2_679 A696 FV696 FC696 V696 rfl (by decide) (Ne.symm ne_v2_679_d696) hgl_679.1 ((by decide) : 0 + 35 + 1 + 38 ≤ own_gr (own_gr (16) (0 + 35)) (0 + 35 + 1) ∨ max (0 + 35 + 1 + 38) (2 * (own_gr (own_gr (16) (0 + 35)) (0 + 35 + 1)) + 2) ≤ 160) (by decide) f708 SC hzc) hZ (tw hw 61 rfl) (tw hw 38 rfl) (by decide) (by decide)) q716a q716c (g := (mkF m 34 #[.val (.ref j1), .val (.ref x1), .val (.ref y1)] [(.ref b696), (.ref b638), (.ref j1)])) rfl (by rw [hml]; rfl) (Steps.refl _) (argsL := [(.ref b696)]) (rest := [(.ref j1)]) (lenOf pd__Ljava_lang_String__Ljava_lang_StringBuilder_ rfl) rfl (by show 2 * 0 + _ ≤ _; exact Nat.le_of_eq rfl) (hb hby d6_34) (fun _ _ => ⟨rfl, e696, (by decide : 10 + 1 ≤ _), (by decide : 660 + 160 ≤ _)⟩)
  dsimp only [Pt.U, Pt.locs, Pt.cells, Pt.slots] at X716 l716 y716 z716 st716 hQ716
  subst l716 y716 z716
  obtain ⟨rfl, N716q, KC716, v2_702, k2_702, wa_702, ⟨E702, V702, C702, N702, A702, X702⟩, l2_702, tk_702, g_v2_702, hv_702⟩ := hQ716
  have N716 := Fr.app NL694 N716q
  have cs717 := CHr.keep KC716 (allS (Safe.exa (EL := EL) hZ.alike f701 (by decide) (by decide)) (allS y697_v2_679 all0)) cs697.1
  have cr717 := cr697.trans cs717
  have y717_v_ta := cs717.safe f713.lt y697_v_ta
  have hk717 := Nat.le_trans hk696 cs717.2.1
  have Z716 := Nat.le_trans Z696 KC716.1
  have K716 := K696.trans KC716 (allS (Or.inr sz_b638) (allS (Or.inr sz_v2_679) all0))
  have y_v2_702 := own_safeK KC716 (allS (Safe.exa (EL := EL) hZ.alike f701 (by decide) (by decide)) (allS y697_v2_679 all0)) cs697.1 hv_702 y697_v2_679
  have hgl_702 := @own_grle (own_gr (own_gr (16) (0 + 35)) (0 + 35 + 1)) (0 + 35 + 1 + 38)
  have hgm_702 : own_gr (own_gr (own_gr (16) (0 + 35)) (0 + 35 + 1)) (0 + 35 + 1 + 38) ≤ 1000 := own_grM hgm_679 (by decide) ((by decide) : 0 + 35 + 1 + 38 ≤ own_gr (own_gr (16) (0 + 35)) (0 + 35 + 1) ∨ max (0 + 35 + 1 + 38) (2 * (own_gr (own_gr (16) (0 + 35)) (0 + 35 + 1)) + 2) ≤ 160)
  have f718 := (f708.keep KC716 (allS g_b638 (allS g_v2_679 all0)))
  have f720 := (f700.keep KC716)
  have f725 := (f699.keep KC716)
  have f727 := (f712.keep KC716 (ninS ne_u1_b638 (ninS ne_u1_v2_679 nin0)))
  have f728 := (f713.keep KC716 (ninS ne_v_ta_b638 (ninS ne_v_ta_v2_679 nin0)))
  have f730 := (f715.keep KC716)
  obtain ⟨cq719, kq719, q719a, q719b, q719c⟩ := isOf hZ rfl E702
  obtain ⟨_, _, ⟨T719, L719, k719, n719⟩, -, X719, ⟨Lc719, hQ719, l719, y719, z719⟩, st719⟩ := X716.virtualBack hx (y := (⟨"java/lang/StringBuilder", "toString", "()Ljava/lang/String;"⟩ : MethodName)) (z := (⟨"java/lang/StringBuilder", "toString", "()Ljava/lang/String;"⟩ : MethodName)) hown (mvT hZ (tw hw 128 rfl)) (mvT hZ (tw hw 129 rfl)) (notFace_of_selects (args := #[]) (mvT hZ (tw hw 131 rfl))) (mvT hZ (tw hw 131 rfl)) (mvT hZ (tw hw 130 rfl)) (by decide) (backOf (W := 1) (rmToS l Z a0 hw [] b638 v2_702 k2_702 (own_gr (own_gr (own_gr (16) (0 + 35)) (0 + 35 + 1)) (0 + 35 + 1 + 38)) (0 + 35 + 1 + 38) wa_702 zc T716.heap n0 Z716 E702 V702 C702 N702 A702 X702 l2_702 hgm_702 g_b638 g_v2_702 hgl_702.1 (by decide) f718 SC hzc) hZ (tw hw 132 rfl) (tw hw 38 rfl) (by decide) (by decide)) q719a q719c (g := (mkF m 37 #[.val (.ref j1), .val (.ref x1), .val (.ref y1)] [(.ref b638), (.ref j1)])) rfl (by rw [hml]; rfl) (Steps.refl _) (argsL := []) (rest := [(.ref j1)]) (lenOf pd___Ljava_lang_String_ rfl) rfl (by show 2 * 0 + _ ≤ _; exact Nat.le_of_eq rfl) (hb hby d6_37) (fun _ _ => ⟨rfl, rfl, (by decide : 11 + 2 ≤ _), (by decide : 820 + 132 ≤ _)⟩)
  dsimp only [Pt.U, Pt.locs, Pt.cells, Pt.slots] at X719 l719 y719 z719 st719 hQ719
  subst l719 y719 z719
  obtain ⟨x_m, rfl, N719q, EX719, le_m, t_m, k_m, ⟨E_m, V_m, C_m, A_m⟩, lt_m⟩ := hQ719
  have N719 := Fr.app N716 N719q
  have ne_v_ta_t_m : v_ta ≠ t_m := Nat.ne_of_lt (Nat.lt_of_lt_of_le f728.lt lt_m)
  have cs731 := CHr.ext EX719 cs717.1
  have cr731 := cr717.trans cs731
  have y731_v_ta := cs731.safe f728.lt y717_v_ta
  have hk731 := Nat.le_trans hk717 cs731.2.1
  have Z719 := Nat.le_trans Z716 EX719.1
  have K719 := K716.ext EX719
  obtain ⟨LL732, XL732, NL732⟩ : ∃ LL, Stand p l e ({ frames := 8, cells := 40, slots := 4200, locals := 205 } : Room) (s.setVm T696.vm) m #[(.ref j1), (.ref x1), (.ref y1)] below meth c T719 LL 13 952 ∧ Fr n0 LL := ⟨_, X719, N719⟩
  have f737 := (f725.ext EX719)
  have f739 := (f727.ext EX719)
  have f741 := (f730.ext EX719)
  have f742 := ((((((((Fw636.ext E638).keep KC648 (ninS ne_j1_b638 nin0)).ext E659).keep KC677 (ninS ne_j1_b638 (ninS ne_j1_v_pa nin0))).keep KC692 (ninS ne_j1_b638 (ninS ne_j1_v2_665 nin0))).ext E696).keep KC716 (ninS ne_j1_b638 (ninS ne_j1_v2_679 nin0))).ext EX719)
  have f743 := (((((((((((JD.ext E624).keep KC627 (ninS ne_j1_b624 nin0)).other W636 (Or.inr (slot_ne (Or.inl (tw hw 174 rfl)) (Or.inr (tw hw 55 rfl)) (by decide) (t := .int) (t' := (.object "java/lang/StringBuilder")) (by decide) (by decide)))).ext E638).keep KC648 (ninS ne_j1_b638 nin0)).ext E659).keep KC677 (ninS ne_j1_b638 (ninS ne_j1_v_pa nin0))).keep KC692 (ninS ne_j1_b638 (ninS ne_j1_v2_665 nin0))).ext E696).keep KC716 (ninS ne_j1_b638 (ninS ne_j1_v2_679 nin0))).ext EX719)
  have f744 := (f720.ext EX719)
  have f745 := (((((((((V_ta.other W636 (Or.inl (Ne.symm ne_j1_b624))).ext E638).keep KC648 (ninS ne_b624_b638 nin0)).ext E659).keep KC677 (ninS ne_b624_b638 (ninS ne_b624_v_pa nin0))).keep KC692 (ninS ne_b624_b638 (ninS ne_b624_v2_665 nin0))).ext E696).keep KC716 (ninS ne_b624_b638 (ninS ne_b624_v2_679 nin0))).ext EX719)
  have f746 := (((((((((C_ta.other W636 (Or.inl (Ne.symm ne_j1_b624))).ext E638).keep KC648 (ninS ne_b624_b638 nin0)).ext E659).keep KC677 (ninS ne_b624_b638 (ninS ne_b624_v_pa nin0))).keep KC692 (ninS ne_b624_b638 (ninS ne_b624_v2_665 nin0))).ext E696).keep KC716 (ninS ne_b624_b638 (ninS ne_b624_v2_679 nin0))).ext EX719)
  have f747 := (((((((((N_ta.other W636 (Or.inl (Ne.symm ne_j1_b624))).ext E638).keep KC648 (ninS ne_b624_b638 nin0)).ext E659).keep KC677 (ninS ne_b624_b638 (ninS ne_b624_v_pa nin0))).keep KC692 (ninS ne_b624_b638 (ninS ne_b624_v2_665 nin0))).ext E696).keep KC716 (ninS ne_b624_b638 (ninS ne_b624_v2_679 nin0))).ext EX719)
  have f748 := (f728.ext EX719)
  have f749 := (((((((((X_ta.wr W636).ext E638).keep KC648).ext E659).keep KC677).keep KC692).ext E696).keep KC716).ext EX719)
  have f750 := (f718.ext EX719)
  have pre751 : ∀ t, Steps p.tables e below (T719.setTop (mkF m 40 #[.val (.ref j1), .val (.ref x1), .val (.ref y1)] [(.ref x_m), (.ref j1)])) t → Steps p.tables e below (T692.setTop (mkF m 32 #[.val (.ref j1), .val (.ref x1), .val (.ref y1)] [(.ref b638), (.ref j1)])) t := by
    intro t kt
    show Steps p.tables e below (T692.setTop (mkF m 32 #[.val (.ref j1), .val (.ref x1), .val (.ref y1)] [(.ref b638), (.ref j1)])) _
    refine st696 _ ?_
    refine st716.trans ?_
    refine st719.trans ?_
    exact kt
  obtain ⟨cq752, kq752, q752a, q752b, q752c⟩ := isOf hZ rfl f737
  obtain ⟨_, _, ⟨T752, L752, k752, n752⟩, -, X752, hs752, hg752, ⟨Lc752, hQ752, l752, y752, z752, crs752⟩, st752⟩ := XL732.virtualBackS hx (y := (⟨"com/example/orbweaver/orbweaver/mapping/JavaSource", "line", "(Ljava/lang/String;)Lcom/example/orbweaver/orbweaver/mapping/JavaSource;"⟩ : MethodName)) (z := (⟨"com/example/orbweaver/orbweaver/mapping/JavaSource", "line", "(Ljava/lang/String;)Lcom/example/orbweaver/orbweaver/mapping/JavaSource;"⟩ : MethodName)) hown (mvT hZ (tw hw 167 rfl)) (mvT hZ (tw hw 168 rfl)) (notFace_of_selects (args := #[]) (mvT hZ (tw hw 170 rfl))) (mvT hZ (tw hw 170 rfl)) (mvT hZ (tw hw 169 rfl)) (by decide) (own_backS1 (s := s) (W := 0) (rmLine l Z a0 hw [] j1 b624 v_ta k_ta (16) (0) (List.replicate 16 (.int (0 : Int32))) x_m t_m k_m (0 + 35 + 1 + 38) (wa_702.take (0 + 35 + 1 + 38)) (0) zc T719.heap n0 Z719 hEL f737 f742 f743 f744 f745 f746 f747 f748 f749 (by simp) (by decide) g_b624 g_v_ta E_m V_m C_m A_m (by rw [List.length_take, l2_702]; decide) (by decide) (Ne.symm ne_v_ta_t_m) (by decide) (by decide) (by decide) (by decide) (by decide) (by decide) f750 SC hzc) hZ (tw hw 171 rfl) (tw hw 10 rfl) (by decide) (by decide) hEL cs731.1 f748.lt y731_v_ta) q752a q752c (g := (mkF m 40 #[.val (.ref j1), .val (.ref x1), .val (.ref y1)] [(.ref x_m), (.ref j1)])) rfl (by rw [hml]; rfl) (Steps.refl _) (argsL := [(.ref x_m)]) (rest := []) (lenOf pd__Ljava_lang_String__Lcom_example_orbweaver_orbweaver_mapping_JavaSource_ rfl) rfl (by show 2 * 0 + _ ≤ _; exact Nat.le_of_eq rfl) (hb hby d6_40) (fun _ _ => ⟨rfl, rfl, (by decide : 13 + 7 ≤ _), (by decide : 952 + 520 ≤ _)⟩)
  dsimp only [Pt.U, Pt.locs, Pt.cells, Pt.slots] at X752 l752 y752 z752 st752 hQ752 hs752 hg752 crs752
  subst l752 y752 z752
  obtain ⟨X752, hSi752, hZ, hown⟩ := rebS hSi696 (hk731) X752 hs752 hg752 hZ hown
  obtain ⟨rfl, N752q, KC752, v_tb, k_tb, ws_tb, ⟨E_tb, V_tb, C_tb, N_tb, A_tb, X_tb⟩, l_tb, tk_tb, g_v_tb, hv_tb, y_tb⟩ := hQ752
  have N752 := Fr.app NL732 N752q
  have cs753 := crs752
  have cr753 := cr731.trans cs753
  have Z752 := Nat.le_trans Z719 KC752.1
  have K752 := K719.trans KC752 (allS (Or.inr sz_b624) (allS (Or.inr sz_v_ta) all0))
  have sz_v_tb : h0.size ≤ v_tb := hv_tb.elim (fun q => by rw [q]; exact sz_v_ta) (fun q => Nat.le_trans K719.1 q)
  have ne_j1_v_tb : j1 ≠ v_tb := hv_tb.elim (fun q => by rw [q]; exact ne_j1_v_ta) (fun q => Nat.ne_of_lt (Nat.lt_of_lt_of_le f737.lt q))
  have ne_u1_v_tb : u1 ≠ v_tb := hv_tb.elim (fun q => by rw [q]; exact ne_u1_v_ta) (fun q => Nat.ne_of_lt (Nat.lt_of_lt_of_le f739.lt q))
  have ne_y1_v_tb : y1 ≠ v_tb := hv_tb.elim (fun q => by rw [q]; exact ne_y1_v_ta) (fun q => Nat.ne_of_lt (Nat.lt_of_lt_of_le f741.lt q))
  have hcp_tb : own_gr (own_gr (own_gr (16) (0 + 4 * (0))) (0 + 4 * (0) + (0 + 35 + 1 + 38))) (0 + 4 * (0) + (0 + 35 + 1 + 38) + 1) ≤ 1000 := own_grM (own_grM (own_grM (by decide) (by decide) (by decide : 0 + 4 * (0) ≤ 16 ∨ max (0 + 4 * (0)) (2 * (16) + 2) ≤ 160)) (by decide) (by decide : 0 + 4 * (0) + (0 + 35 + 1 + 38) ≤ own_gr (16) (0 + 4 * (0)) ∨ max (0 + 4 * (0) + (0 + 35 + 1 + 38)) (2 * (own_gr (16) (0 + 4 * (0))) + 2) ≤ 160)) (by decide) (by decide : 0 + 4 * (0) + (0 + 35 + 1 + 38) + 1 ≤ own_gr (own_gr (16) (0 + 4 * (0))) (0 + 4 * (0) + (0 + 35 + 1 + 38)) ∨ max (0 + 4 * (0) + (0 + 35 + 1 + 38) + 1) (2 * (own_gr (own_gr (16) (0 + 4 * (0))) (0 + 4 * (0) + (0 + 35 + 1 + 38))) + 2) ≤ 160)
  obtain ⟨LL754, XL754, NL754⟩ : ∃ LL, Stand p l e ({ frames := 8, cells := 40, slots := 4200, locals := 205 } : Room) (s.setVm T752.vm) m #[(.ref j1), (.ref x1), (.ref y1)] below meth c T752 LL 20 1472 ∧ Fr n0 LL := ⟨_, X752, N752⟩
  have f755 := ((((((((((((YV.ext E624).keep KC627 (ninS ne_y1_b624 nin0)).other W636 (Or.inl ne_y1_j1)).ext E638).keep KC648 (ninS ne_y1_b638 nin0)).ext E659).keep KC677 (ninS ne_y1_b638 (ninS ne_y1_v_pa nin0))).keep KC692 (ninS ne_y1_b638 (ninS ne_y1_v2_665 nin0))).ext E696).keep KC716 (ninS ne_y1_b638 (ninS ne_y1_v2_679 nin0))).ext EX719).keep KC752 (ninS ne_y1_b624 (ninS ne_y1_v_ta nin0)))
  have f756 := (f739.keep KC752 (ninS ne_u1_b624 (ninS ne_u1_v_ta nin0)))
  have f758 := (f741.keep KC752)
  obtain ⟨cq757, kq757, q757a, q757b, q757c⟩ := isOf hZ rfl f758
  obtain ⟨_, _, ⟨T757, L757, k757, n757⟩, -, X757, ⟨Lc757, hQ757, l757, y757, z757⟩, st757⟩ := XL754.virtualBack hx (y := (⟨"java/lang/String", "isEmpty", "()Z"⟩ : MethodName)) (z := (⟨"java/lang/String", "isEmpty", "()Z"⟩ : MethodName)) hown (mvT hZ (tw hw 192 rfl)) (mvT hZ (tw hw 193 rfl)) (notFace_of_selects (args := #[]) (mvT hZ (tw hw 195 rfl))) (mvT hZ (tw hw 195 rfl)) (mvT hZ (tw hw 194 rfl)) (by decide) (backOf (W := 0) (rmEmp0 l Z a0 hw [] y1 u1 ky (Int32.ofNat 1) ys T752.heap n0 Z752 f755 f756 (by decide)) hZ (tw hw 196 rfl) (tw hw 1 rfl) (by decide) (by decide)) q757a q757c (g := (mkF m 45 #[.val (.ref j1), .val (.ref x1), .val (.ref y1)] [(.ref y1)])) rfl (by rw [hml]; rfl) (Steps.refl _) (argsL := []) (rest := []) (lenOf pd___Z rfl) rfl (by show 2 * 0 + _ ≤ _; exact Nat.le_of_eq rfl) (hb hby d6_45) (fun _ _ => ⟨rfl, rfl, (by decide : 20 + 0 ≤ _), (by decide : 1472 + 0 ≤ _)⟩)
  dsimp only [Pt.U, Pt.locs, Pt.cells, Pt.slots] at X757 l757 y757 z757 st757 hQ757
  subst l757 y757 z757
  obtain ⟨rfl, N757q, EQ757⟩ := hQ757
  have N757 := Fr.app NL754 N757q
  have ch759 : CHv Z EL T752.vm T757.heap := by rw [EQ757]; exact cs753.1
  have cr759 : CHr Z EL s.vm h0 T752.vm T757.heap := by rw [EQ757]; exact cr753
  have y759_v_tb : Safe Z EL T752.vm T757.heap v_tb := by rw [EQ757]; exact y_tb
  have hk759 : T752.heap.size ≤ T757.heap.size := by rw [EQ757]; exact (Nat.le_refl _)
  have Z757 : n0 ≤ T757.heap.size := by rw [EQ757]; exact Z752
  have K757 := own_keq EQ757 K752
  have f764 := (EQ757 ▸ (f737.keep KC752))
  have f767 := (EQ757 ▸ f756)
  have f770 := (EQ757 ▸ f758)
  have f771 := (EQ757 ▸ E_tb)
  have f772 := (EQ757 ▸ (f742.keep KC752 (ninS ne_j1_b624 (ninS ne_j1_v_ta nin0))))
  have f773 := (EQ757 ▸ V_tb)
  have f774 := (EQ757 ▸ C_tb)
  have f775 := (EQ757 ▸ N_tb)
  have f776 := (EQ757 ▸ A_tb)
  have f777 := (EQ757 ▸ X_tb)
  have f778 := (EQ757 ▸ (f750.keep KC752 (allS g_b624 (allS g_v_ta all0))))
  obtain ⟨cq779, kq779, q779a, q779b, q779c⟩ := isOf hZ rfl f764
  obtain ⟨_, _, ⟨T779, L779, k779, n779⟩, -, X779, ⟨Lc779, hQ779, l779, y779, z779⟩, st779⟩ := X757.virtualBack hx (y := (⟨"com/example/orbweaver/orbweaver/mapping/JavaSource", "blank", "()Lcom/example/orbweaver/orbweaver/mapping/JavaSource;"⟩ : MethodName)) (z := (⟨"com/example/orbweaver/orbweaver/mapping/JavaSource", "blank", "()Lcom/example/orbweaver/orbweaver/mapping/JavaSource;"⟩ : MethodName)) hown (mvT hZ (tw hw 197 rfl)) (mvT hZ (tw hw 198 rfl)) (notFace_of_selects (args := #[]) (mvT hZ (tw hw 200 rfl))) (mvT hZ (tw hw 200 rfl)) (mvT hZ (tw hw 199 rfl)) (by decide) (backOf (W := 0) (rmBlank l Z a0 hw [] j1 b624 v_tb k_tb (own_gr (own_gr (own_gr (16) (0 + 4 * (0))) (0 + 4 * (0) + (0 + 35 + 1 + 38))) (0 + 4 * (0) + (0 + 35 + 1 + 38) + 1)) (0 + 4 * (0) + (0 + 35 + 1 + 38) + 1) ws_tb zc T757.heap n0 Z757 f772 f771 f773 f774 f775 f776 f777 l_tb hcp_tb g_b624 g_v_tb own_grle.1 (by decide : 0 + 4 * (0) + (0 + 35 + 1 + 38) + 1 + 1 ≤ own_gr (own_gr (own_gr (16) (0 + 4 * (0))) (0 + 4 * (0) + (0 + 35 + 1 + 38))) (0 + 4 * (0) + (0 + 35 + 1 + 38) + 1) ∨ max (0 + 4 * (0) + (0 + 35 + 1 + 38) + 1 + 1) (2 * (own_gr (own_gr (own_gr (16) (0 + 4 * (0))) (0 + 4 * (0) + (0 + 35 + 1 + 38))) (0 + 4 * (0) + (0 + 35 + 1 + 38) + 1)) + 2) ≤ 160) (by decide) f778 SC hzc) hZ (tw hw 201 rfl) (tw hw 10 rfl) (by decide) (by decide)) q779a q779c (g := (mkF m 52 #[.val (.ref j1), .val (.ref x1), .val (.ref y1)] [(.ref j1)])) rfl (by rw [hml]; rfl) (Steps.refl _) (argsL := []) (rest := []) (lenOf pd___Lcom_example_orbweaver_orbweaver_mapping_JavaSource_ rfl) rfl (by show 2 * 0 + _ ≤ _; exact Nat.le_of_eq rfl) (hb hby d6_52) (fun _ _ => ⟨rfl, rfl, (by decide : 20 + 1 ≤ _), (by decide : 1472 + 160 ≤ _)⟩)
  dsimp only [Pt.U, Pt.locs, Pt.cells, Pt.slots] at X779 l779 y779 z779 st779 hQ779
  subst l779 y779 z779
  obtain ⟨rfl, N779q, KC779, v_td, k_td, ws_td, ⟨E_td, V_td, C_td, N_td, A_td, X_td⟩, l_td, tk_td, g_v_td, hv_td⟩ := hQ779
  have N779 := Fr.app N757 N779q
  have cs780 := CHr.keep KC779 (allS (Safe.exa (EL := EL) hZ.alike f771 (by decide) (by decide)) (allS y759_v_tb all0)) ch759
  have cr780 := cr759.trans cs780
  have hk780 := Nat.le_trans hk759 cs780.2.1
  have Z779 := Nat.le_trans Z757 KC779.1
  have K779 := K757.trans KC779 (allS (Or.inr sz_b624) (allS (Or.inr sz_v_tb) all0))
  have sz_v_td : h0.size ≤ v_td := hv_td.elim (fun q => by rw [q]; exact sz_v_tb) (fun q => Nat.le_trans K757.1 q)
  have ne_j1_v_td : j1 ≠ v_td := hv_td.elim (fun q => by rw [q]; exact ne_j1_v_tb) (fun q => Nat.ne_of_lt (Nat.lt_of_lt_of_le f764.lt q))
  have y_td := own_safeK KC779 (allS (Safe.exa (EL := EL) hZ.alike f771 (by decide) (by decide)) (allS y759_v_tb all0)) ch759 hv_td y759_v_tb
  have hcp_td : own_gr (own_gr (own_gr (own_gr (16) (0 + 4 * (0))) (0 + 4 * (0) + (0 + 35 + 1 + 38))) (0 + 4 * (0) + (0 + 35 + 1 + 38) + 1)) (0 + 4 * (0) + (0 + 35 + 1 + 38) + 1 + 1) ≤ 1000 := own_grM hcp_tb (by decide) (by decide : 0 + 4 * (0) + (0 + 35 + 1 + 38) + 1 + 1 ≤ own_gr (own_gr (own_gr (16) (0 + 4 * (0))) (0 + 4 * (0) + (0 + 35 + 1 + 38))) (0 + 4 * (0) + (0 + 35 + 1 + 38) + 1) ∨ max (0 + 4 * (0) + (0 + 35 + 1 + 38) + 1 + 1) (2 * (own_gr (own_gr (own_gr (16) (0 + 4 * (0))) (0 + 4 * (0) + (0 + 35 + 1 + 38))) (0 + 4 * (0) + (0 + 35 + 1 + 38) + 1)) + 2) ≤ 160)
  obtain ⟨LL781, XL781, NL781⟩ : ∃ LL, Stand p l e ({ frames := 8, cells := 40, slots := 4200, locals := 205 } : Room) (s.setVm T752.vm) m #[(.ref j1), (.ref x1), (.ref y1)] below meth c T779 LL 21 1632 ∧ Fr n0 LL := ⟨_, X779, N779⟩
  obtain ⟨T782, h782, X782, e782, E782, A782, D782, -, st782⟩ := newO XL781 hx hZ hown (tw hw 36 rfl) (tw hw 37 rfl) (tw hw 38 rfl) rfl (g := (mkF m 57 #[.val (.ref j1), .val (.ref x1), .val (.ref y1)] [(.ref j1)])) rfl (hb hby d6_57) (by decide) (by decide)
  obtain ⟨b782, g782⟩ : ∃ z, z = T779.heap.size := ⟨_, rfl⟩
  rw [← g782] at A782 D782 st782
  have g_b782 : n0 ≤ b782 := Nat.le_trans Z779 (Nat.le_of_eq g782.symm)
  have sz_b782 : h0.size ≤ b782 := Nat.le_trans K779.1 (Nat.le_of_eq g782.symm)
  have ne_v_td_b782 : v_td ≠ b782 := Nat.ne_of_lt (Nat.lt_of_lt_of_le A_td.lt (Nat.le_of_eq g782.symm))
  have f783 := (f767.keep KC779 (ninS ne_u1_b624 (ninS ne_u1_v_tb nin0)))
  have ne_u1_b782 : u1 ≠ b782 := Nat.ne_of_lt (Nat.lt_of_lt_of_le f783.lt (Nat.le_of_eq g782.symm))
  have ne_b624_b782 : b624 ≠ b782 := Nat.ne_of_lt (Nat.lt_of_lt_of_le E_td.lt (Nat.le_of_eq g782.symm))
  have f788 := (f770.keep KC779)
  have ne_y1_b782 : y1 ≠ b782 := Nat.ne_of_lt (Nat.lt_of_lt_of_le f788.lt (Nat.le_of_eq g782.symm))
  have f790 := (f764.keep KC779)
  have ne_j1_b782 : j1 ≠ b782 := Nat.ne_of_lt (Nat.lt_of_lt_of_le f790.lt (Nat.le_of_eq g782.symm))
  have cs794 := CHr.ext E782 cs780.1
  have cr794 := cr780.trans cs794
  have y794_v_td := cs794.safe A_td.lt y_td
  have hk794 := Nat.le_trans hk780 cs794.2.1
  have Z782 := Nat.le_trans Z779 E782.1
  have K782 := K779.ext E782
  have F782_value : Fld Z h782 b782 "java/lang/AbstractStringBuilder" "value" "[B" .null := D782 (Or.inl (tw hw 51 rfl)) (ty := (.array .byte)) (by decide)
  have F782_coder : Fld Z h782 b782 "java/lang/AbstractStringBuilder" "coder" "B" (.int (0 : Int32)) := D782 (Or.inl (tw hw 53 rfl)) (ty := .byte) (by decide)
  have F782_count : Fld Z h782 b782 "java/lang/AbstractStringBuilder" "count" "I" (.int (0 : Int32)) := D782 (Or.inl (tw hw 78 rfl)) (ty := .int) (by decide)
  have f795 := ((f778.keep KC779 (allS g_b624 (allS g_v_tb all0))).ext E782)
  have f797 := (E_td.ext E782)
  have f802 := (f790.ext E782)
  have f805 := (f783.ext E782)
  have f806 := (A_td.ext E782)
  have f809 := (f788.ext E782)
  obtain ⟨_, _, ⟨T796, L796, k796, n796⟩, -, X796, ⟨Lc796, hQ796, l796, y796, z796⟩, st796⟩ := X782.specialBack hx (y := (⟨"java/lang/StringBuilder", "<init>", "()V"⟩ : MethodName)) rfl hown (mvT hZ (tw hw 39 rfl)) (mvT hZ (tw hw 40 rfl)) (mvT hZ (tw hw 41 rfl)) (by decide) (backOf (W := 2) (rmSInit l Z a0 hw [] b782 zc h782 n0 Z782 A782 F782_value F782_coder F782_count g_b782 f795 SC hzc) hZ (tw hw 41 rfl) (tw hw 38 rfl) (by decide) (by decide)) (g := (mkF m 61 #[.val (.ref j1), .val (.ref x1), .val (.ref y1)] [(.ref b782), (.ref b782), (.ref j1)])) rfl (by rw [hml]; rfl) (Steps.refl _) (a := b782) (argsL := []) (rest := [(.ref b782), (.ref j1)]) (lenOf pd___V rfl) rfl (by show 2 * 0 + _ ≤ _; exact Nat.le_of_eq rfl) (hb hby d6_61) (fun _ _ => ⟨rfl, e782, (by decide : 22 + 1 ≤ _), (by decide : 1636 + 16 ≤ _)⟩)
  dsimp only [Pt.U, Pt.locs, Pt.cells, Pt.slots] at X796 l796 y796 z796 st796 hQ796
  subst l796 y796 z796
  obtain ⟨rfl, N796q, KC796, v_pb, k_pb, ⟨E_pb, V_pb, C_pb, N_pb, A_pb, X_pb⟩, le_pb⟩ := hQ796
  have N796 := Fr.app NL781 N796q
  have g_v_pb : n0 ≤ v_pb := Nat.le_trans Z782 le_pb
  have sz_v_pb : h0.size ≤ v_pb := Nat.le_trans K782.1 le_pb
  have ne_b624_v_pb : b624 ≠ v_pb := Nat.ne_of_lt (Nat.lt_of_lt_of_le f797.lt le_pb)
  have ne_b782_v_pb : b782 ≠ v_pb := Nat.ne_of_lt (Nat.lt_of_lt_of_le A782.lt le_pb)
  have ne_j1_v_pb : j1 ≠ v_pb := Nat.ne_of_lt (Nat.lt_of_lt_of_le f802.lt le_pb)
  have ne_u1_v_pb : u1 ≠ v_pb := Nat.ne_of_lt (Nat.lt_of_lt_of_le f805.lt le_pb)
  have ne_v_td_v_pb : v_td ≠ v_pb := Nat.ne_of_lt (Nat.lt_of_lt_of_le f806.lt le_pb)
  have ne_y1_v_pb : y1 ≠ v_pb := Nat.ne_of_lt (Nat.lt_of_lt_of_le f809.lt le_pb)
  have cs810 := CHr.keep KC796 (allS (Safe.exa (EL := EL) hZ.alike A782 (by decide) (by decide)) all0) cs794.1
  have cr810 := cr794.trans cs810
  have y810_v_td := cs810.safe f806.lt y794_v_td
  have hk810 := Nat.le_trans hk794 cs810.2.1
  have Z796 := Nat.le_trans Z782 KC796.1
  have K796 := K782.trans KC796 (allS (Or.inr sz_b782) all0)
  have y_pb := own_safeK (y := b782) KC796 (allS (Safe.exa (EL := EL) hZ.alike A782 (by decide) (by decide)) all0) cs794.1 (Or.inr le_pb) (Safe.exa (EL := EL) hZ.alike A782 (by decide) (by decide))
  have ne_b782_v_pb : b782 ≠ v_pb := E_pb.neArv A_pb (tw hw 37 rfl)
  obtain ⟨LL811, XL811, NL811⟩ : ∃ LL, Stand p l e ({ frames := 8, cells := 40, slots := 4200, locals := 205 } : Room) (s.setVm T752.vm) m #[(.ref j1), (.ref x1), (.ref y1)] below meth c T796 LL 23 1652 ∧ Fr n0 LL := ⟨_, X796, N796⟩
  have pre812 : ∀ t, Steps p.tables e below (T796.setTop (mkF m 64 #[.val (.ref j1), .val (.ref x1), .val (.ref y1)] [(.ref b782), (.ref j1)])) t → Steps p.tables e below (T719.setTop (mkF m 40 #[.val (.ref j1), .val (.ref x1), .val (.ref y1)] [(.ref x_m), (.ref j1)])) t := by
    intro t kt
    refine st752.trans ?_
    show Steps p.tables e below (T752.setTop (mkF m 43 #[.val (.ref j1), .val (.ref x1), .val (.ref y1)] [(.ref j1)])) _
    refine XS.pop X752.here hx rfl (hb hby d6_43) rfl rfl ?_
    refine XS.aloadN X752.here hx rfl (hb hby d6_44) rfl rfl ?_
    refine st757.trans ?_
    refine XS.ifNo X757.here hx rfl (hb hby d6_48) rfl ((if0 _ _).trans (teq (rfl : (0 : Int32) = (0 : Int32))).2) ?_
    show Steps p.tables e below (T757.setTop (mkF m 51 #[.val (.ref j1), .val (.ref x1), .val (.ref y1)] [])) _
    refine XS.aloadN X757.here hx rfl (hb hby d6_51) rfl rfl ?_
    refine st779.trans ?_
    show Steps p.tables e below (T779.setTop (mkF m 55 #[.val (.ref j1), .val (.ref x1), .val (.ref y1)] [(.ref j1)])) _
    refine XS.pop X779.here hx rfl (hb hby d6_55) rfl rfl ?_
    refine XS.aloadN X779.here hx rfl (hb hby d6_56) rfl rfl ?_
    show Steps p.tables e below (T779.setTop (mkF m 57 #[.val (.ref j1), .val (.ref x1), .val (.ref y1)] [(.ref j1)])) _
    refine st782 _ ?_
    show Steps p.tables e below (T782.setTop (mkF m 60 #[.val (.ref j1), .val (.ref x1), .val (.ref y1)] [(.ref b782), (.ref j1)])) _
    refine XS.dup X782.here hx rfl (hb hby d6_60) rfl rfl ?_
    refine st796.trans ?_
    exact kt
  have wS813 : ∀ a ∈ Bundle.stringAtoms, a.before a0 Z = true := fun d hd => hw d ((by decide +kernel : ∀ d ∈ Bundle.stringAtoms, d ∈ tables_1) d hd)
  obtain ⟨b813, T813, h813, k813, d813, kb813, X813, e813, E813, hSi813, hk813, hZ, hown, A813, FC813, FV813, V813, -, -, crs813, Lt813, nn813, st813⟩ := ldcCH (s := s) (vm0 := T752.vm) XL811 hx hZ hown (tw hw 252 rfl) wS813 rfl hSi752 hk810 hEL (by decide : ("com/example/orbweaver/orbweaver/mapping/JavaSource", 42) ∈ EL) cs810.1 (vs := [(.int (112 : Int32)), (.int (97 : Int32)), (.int (99 : Int32)), (.int (107 : Int32)), (.int (97 : Int32)), (.int (103 : Int32)), (.int (101 : Int32)), (.int (32 : Int32))]) (z := (8 : Int32)) ⟨by decide, rfl⟩ (by decide) (by decide) (g := (mkF m 64 #[.val (.ref j1), .val (.ref x1), .val (.ref y1)] [(.ref b782), (.ref j1)])) rfl (hb hby d6_64) (n := 32) (by decide) (by decide) (by decide) (by decide)
  have f815 := (f806.keep KC796 (ninS ne_v_td_b782 nin0))
  have cs814 := crs813
  have cr814 := cr810.trans cs814
  have y814_v_td := cs814.safe f815.lt y810_v_td
  have y814_v_pb := cs814.safe A_pb.lt y_pb
  have Z813 := Nat.le_trans Z796 E813.1
  have K813 := K796.ext E813
  obtain ⟨ne_v_pb_b813, ne_v_pb_d813⟩ := nn813 _ y814_v_pb
  obtain ⟨ne_v_td_b813, ne_v_td_d813⟩ := nn813 _ y814_v_td
  have f816 := ((f802.keep KC796).ext E813)
  have f817 := ((f797.keep KC796).ext E813)
  have f818 := (E_pb.ext E813)
  have f820 := (V_pb.ext E813)
  have f821 := (C_pb.ext E813)
  have f822 := (N_pb.ext E813)
  have f823 := (A_pb.ext E813)
  have f824 := (X_pb.ext E813)
  have f825 := ((f795.keep KC796 (allS g_b782 all0)).ext E813)
  have f832 := ((f805.keep KC796 (ninS ne_u1_b782 nin0)).ext E813)
  have f833 := (f815.ext E813)
  have f836 := ((f809.keep KC796).ext E813)
  obtain ⟨cq837, kq837, q837a, q837b, q837c⟩ := isOf hZ e813 f818
  obtain ⟨_, _, ⟨T837, L837, k837, n837⟩, -, X837, ⟨Lc837, hQ837, l837, y837, z837⟩, st837⟩ := X813.virtualBack hx (y := (⟨"java/lang/StringBuilder", "append", "(Ljava/lang/String;)Ljava/lang/StringBuilder;"⟩ : MethodName)) (z := (⟨"java/lang/StringBuilder", "append", "(Ljava/lang/String;)Ljava/lang/StringBuilder;"⟩ : MethodName)) hown (mvT hZ (tw hw 57 rfl)) (mvT hZ (tw hw 58 rfl)) (notFace_of_selects (args := #[]) (mvT hZ (tw hw 60 rfl))) (mvT hZ (tw hw 60 rfl)) (mvT hZ (tw hw 59 rfl)) (by decide) (backOf (W := 1) (rmSApS l Z a0 hw [] b782 v_pb k_pb (16) (0) (List.replicate 16 (.int (0 : Int32))) b813 d813 kb813 (8) [(.int (112 : Int32)), (.int (97 : Int32)), (.int (99 : Int32)), (.int (107 : Int32)), (.int (97 : Int32)), (.int (103 : Int32)), (.int (101 : Int32)), (.int (32 : Int32))] zc h813 n0 Z813 f818 f820 f821 f822 f823 f824 (by simp) (by decide) g_b782 g_v_pb A813 FV813 FC813 V813 rfl (by decide) (Ne.symm ne_v_pb_d813) (by decide) ((by decide) : 0 + 8 ≤ 16 ∨ max (0 + 8) (2 * (16) + 2) ≤ 160) (by decide) f825 SC hzc) hZ (tw hw 61 rfl) (tw hw 38 rfl) (by decide) (by decide)) q837a q837c (g := (mkF m 66 #[.val (.ref j1), .val (.ref x1), .val (.ref y1)] [(.ref b813), (.ref b782), (.ref j1)])) rfl (by rw [hml]; rfl) (Steps.refl _) (argsL := [(.ref b813)]) (rest := [(.ref j1)]) (lenOf pd__Ljava_lang_String__Ljava_lang_StringBuilder_ rfl) rfl (by show 2 * 0 + _ ≤ _; exact Nat.le_of_eq rfl) (hb hby d6_66) (fun _ _ => ⟨rfl, e813, (by decide : 25 + 1 ≤ _), (by decide : 1688 + 160 ≤ _)⟩)
  dsimp only [Pt.U, Pt.locs, Pt.cells, Pt.slots] at X837 l837 y837 z837 st837 hQ837
  subst l837 y837 z837
  obtain ⟨rfl, N837q, KC837, v2_819, k2_819, wa_819, ⟨E819, V819, C819, N819, A819, X819⟩, l2_819, tk_819, g_v2_819, hv_819⟩ := hQ837
  have N837 := Fr.app NL811 N837q
  have cs838 := CHr.keep KC837 (allS (Safe.exa (EL := EL) hZ.alike f818 (by decide) (by decide)) (allS y814_v_pb all0)) cs814.1
  have cr838 := cr814.trans cs838
  have y838_v_td := cs838.safe f833.lt y814_v_td
  have hk838 := Nat.le_trans hk813 cs838.2.1
  have Z837 := Nat.le_trans Z813 KC837.1
  have K837 := K813.trans KC837 (allS (Or.inr sz_b782) (allS (Or.inr sz_v_pb) all0))
  have sz_v2_819 : h0.size ≤ v2_819 := hv_819.elim (fun q => by rw [q]; exact sz_v_pb) (fun q => Nat.le_trans K813.1 q)
  have ne_b624_v2_819 : b624 ≠ v2_819 := hv_819.elim (fun q => by rw [q]; exact ne_b624_v_pb) (fun q => Nat.ne_of_lt (Nat.lt_of_lt_of_le f817.lt q))
  have ne_j1_v2_819 : j1 ≠ v2_819 := hv_819.elim (fun q => by rw [q]; exact ne_j1_v_pb) (fun q => Nat.ne_of_lt (Nat.lt_of_lt_of_le f816.lt q))
  have ne_v_td_v2_819 : v_td ≠ v2_819 := hv_819.elim (fun q => by rw [q]; exact ne_v_td_v_pb) (fun q => Nat.ne_of_lt (Nat.lt_of_lt_of_le f833.lt q))
  have y_v2_819 := own_safeK KC837 (allS (Safe.exa (EL := EL) hZ.alike f818 (by decide) (by decide)) (allS y814_v_pb all0)) cs814.1 hv_819 y814_v_pb
  have hgl_819 := @own_grle (16) (0 + 8)
  have hgm_819 : own_gr (16) (0 + 8) ≤ 1000 := own_grM (by decide) (by decide) ((by decide) : 0 + 8 ≤ 16 ∨ max (0 + 8) (2 * (16) + 2) ≤ 160)
  have ny2 : u1 ≠ v2_819 := Nat.ne_of_lt (Nat.lt_of_lt_of_le YA.lt sz_v2_819)
  have f840 := (f836.keep KC837)
  have f841 := ((((((EQ757 ▸ f755).keep KC779 (ninS ne_y1_b624 (ninS ne_y1_v_tb nin0))).ext E782).keep KC796 (ninS ne_y1_b782 nin0)).ext E813).keep KC837 (ninS ne_y1_b782 (ninS ne_y1_v_pb nin0)))
  have f842 := ((((((EQ757 ▸ ((((((((((((YC.ext E624).keep KC627 (ninS ne_y1_b624 nin0)).other W636 (Or.inl ne_y1_j1)).ext E638).keep KC648 (ninS ne_y1_b638 nin0)).ext E659).keep KC677 (ninS ne_y1_b638 (ninS ne_y1_v_pa nin0))).keep KC692 (ninS ne_y1_b638 (ninS ne_y1_v2_665 nin0))).ext E696).keep KC716 (ninS ne_y1_b638 (ninS ne_y1_v2_679 nin0))).ext EX719).keep KC752 (ninS ne_y1_b624 (ninS ne_y1_v_ta nin0)))).keep KC779 (ninS ne_y1_b624 (ninS ne_y1_v_tb nin0))).ext E782).keep KC796 (ninS ne_y1_b782 nin0)).ext E813).keep KC837 (ninS ne_y1_b782 (ninS ne_y1_v_pb nin0)))
  have f843 := (f832.keep KC837 (ninS ne_u1_b782 (ninS ne_u1_v_pb nin0)))
  have f844 := (f825.keep KC837 (allS g_b782 (allS g_v_pb all0)))
  have f845 := (f817.keep KC837)
  have f852 := (f816.keep KC837)
  have f855 := (f833.keep KC837 (ninS ne_v_td_b782 (ninS ne_v_td_v_pb nin0)))
  obtain ⟨cq858, kq858, q858a, q858b, q858c⟩ := isOf hZ rfl E819
  obtain ⟨_, _, ⟨T858, L858, k858, n858⟩, -, X858, ⟨Lc858, hQ858, l858, y858, z858⟩, st858⟩ := X837.virtualBack hx (y := (⟨"java/lang/StringBuilder", "append", "(Ljava/lang/String;)Ljava/lang/StringBuilder;"⟩ : MethodName)) (z := (⟨"java/lang/StringBuilder", "append", "(Ljava/lang/String;)Ljava/lang/StringBuilder;"⟩ : MethodName)) hown (mvT hZ (tw hw 57 rfl)) (mvT hZ (tw hw 58 rfl)) (notFace_of_selects (args := #[]) (mvT hZ (tw hw 60 rfl))) (mvT hZ (tw hw 60 rfl)) (mvT hZ (tw hw 59 rfl)) (by decide) (backOf (W := 1) (rmSApS l Z a0 hw [] b782 v2_819 k2_819 (own_gr (16) (0 + 8)) (0 + 8) wa_819 y1 u1 ky (1) ys zc T837.heap n0 Z837 E819 V819 C819 N819 A819 X819 l2_819 hgm_819 g_b782 g_v2_819 f840 f841 f842 f843 hyl (by decide) ny2 hgl_819.1 ((by decide) : 0 + 8 + 1 ≤ own_gr (16) (0 + 8) ∨ max (0 + 8 + 1) (2 * (own_gr (16) (0 + 8)) + 2) ≤ 160) (by decide) f844 SC hzc) hZ (tw hw 61 rfl) (tw hw 38 rfl) (by decide) (by decide)) q858a q858c (g := (mkF m 70 #[.val (.ref j1), .val (.ref x1), .val (.ref y1)] [(.ref y1), (.ref b782), (.ref j1)])) rfl (by rw [hml]; rfl) (Steps.refl _) (argsL := [(.ref y1)]) (rest := [(.ref j1)]) (lenOf pd__Ljava_lang_String__Ljava_lang_StringBuilder_ rfl) rfl (by show 2 * 0 + _ ≤ _; exact Nat.le_of_eq rfl) (hb hby d6_70) (fun _ _ => ⟨rfl, rfl, (by decide : 26 + 1 ≤ _), (by decide : 1848 + 160 ≤ _)⟩)
  dsimp only [Pt.U, Pt.locs, Pt.cells, Pt.slots] at X858 l858 y858 z858 st858 hQ858
  subst l858 y858 z858
  obtain ⟨rfl, N858q, KC858, v2_839, k2_839, wa_839, ⟨E839, V839, C839, N839, A839, X839⟩, l2_839, tk_839, g_v2_839, hv_839⟩ := hQ858
  have N858 := Fr.app N837 N858q
  have cs859 := CHr.keep KC858 (allS (Safe.exa (EL := EL) hZ.alike E819 (by decide) (by decide)) (allS y_v2_819 all0)) cs838.1
  have cr859 := cr838.trans cs859
  have y859_v_td := cs859.safe f855.lt y838_v_td
  have hk859 := Nat.le_trans hk838 cs859.2.1
  have Z858 := Nat.le_trans Z837 KC858.1
  have K858 := K837.trans KC858 (allS (Or.inr sz_b782) (allS (Or.inr sz_v2_819) all0))
  have sz_v2_839 : h0.size ≤ v2_839 := hv_839.elim (fun q => by rw [q]; exact sz_v2_819) (fun q => Nat.le_trans K837.1 q)
  have ne_b624_v2_839 : b624 ≠ v2_839 := hv_839.elim (fun q => by rw [q]; exact ne_b624_v2_819) (fun q => Nat.ne_of_lt (Nat.lt_of_lt_of_le f845.lt q))
  have ne_j1_v2_839 : j1 ≠ v2_839 := hv_839.elim (fun q => by rw [q]; exact ne_j1_v2_819) (fun q => Nat.ne_of_lt (Nat.lt_of_lt_of_le f852.lt q))
  have ne_v_td_v2_839 : v_td ≠ v2_839 := hv_839.elim (fun q => by rw [q]; exact ne_v_td_v2_819) (fun q => Nat.ne_of_lt (Nat.lt_of_lt_of_le f855.lt q))
  have y_v2_839 := own_safeK KC858 (allS (Safe.exa (EL := EL) hZ.alike E819 (by decide) (by decide)) (allS y_v2_819 all0)) cs838.1 hv_839 y_v2_819
  have hgl_839 := @own_grle (own_gr (16) (0 + 8)) (0 + 8 + 1)
  have hgm_839 : own_gr (own_gr (16) (0 + 8)) (0 + 8 + 1) ≤ 1000 := own_grM hgm_819 (by decide) ((by decide) : 0 + 8 + 1 ≤ own_gr (16) (0 + 8) ∨ max (0 + 8 + 1) (2 * (own_gr (16) (0 + 8)) + 2) ≤ 160)
  obtain ⟨LL860, XL860, NL860⟩ : ∃ LL, Stand p l e ({ frames := 8, cells := 40, slots := 4200, locals := 205 } : Room) (s.setVm T813.vm) m #[(.ref j1), (.ref x1), (.ref y1)] below meth c T858 LL 27 2008 ∧ Fr n0 LL := ⟨_, X858, N858⟩
  have pre861 : ∀ t, Steps p.tables e below (T858.setTop (mkF m 73 #[.val (.ref j1), .val (.ref x1), .val (.ref y1)] [(.ref b782), (.ref j1)])) t → Steps p.tables e below (T796.setTop (mkF m 64 #[.val (.ref j1), .val (.ref x1), .val (.ref y1)] [(.ref b782), (.ref j1)])) t := by
    intro t kt
    show Steps p.tables e below (T796.setTop (mkF m 64 #[.val (.ref j1), .val (.ref x1), .val (.ref y1)] [(.ref b782), (.ref j1)])) _
    refine st813 _ ?_
    refine st837.trans ?_
    show Steps p.tables e below (T837.setTop (mkF m 69 #[.val (.ref j1), .val (.ref x1), .val (.ref y1)] [(.ref b782), (.ref j1)])) _
    refine XS.aloadN X837.here hx rfl (hb hby d6_69) rfl rfl ?_
    refine st858.trans ?_
    exact kt
  have wS862 : ∀ a ∈ Bundle.stringAtoms, a.before a0 Z = true := fun d hd => hw d ((by decide +kernel : ∀ d ∈ Bundle.stringAtoms, d ∈ tables_1) d hd)
  obtain ⟨b862, T862, h862, k862, d862, kb862, X862, e862, E862, hSi862, hk862, hZ, hown, A862, FC862, FV862, V862, -, -, crs862, Lt862, nn862, st862⟩ := ldcCH (s := s) (vm0 := T813.vm) XL860 hx hZ hown (tw hw 253 rfl) wS862 rfl hSi813 hk859 hEL (by decide : ("com/example/orbweaver/orbweaver/mapping/JavaSource", 44) ∈ EL) cs859.1 (vs := [(.int (59 : Int32))]) (z := (1 : Int32)) ⟨by decide, rfl⟩ (by decide) (by decide) (g := (mkF m 73 #[.val (.ref j1), .val (.ref x1), .val (.ref y1)] [(.ref b782), (.ref j1)])) rfl (hb hby d6_73) (n := 4) (by decide) (by decide) (by decide) (by decide)
  have f864 := (f855.keep KC858 (ninS ne_v_td_b782 (ninS ne_v_td_v2_819 nin0)))
  have cs863 := crs862
  have cr863 := cr859.trans cs863
  have y863_v_td := cs863.safe f864.lt y859_v_td
  have y863_v2_839 := cs863.safe A839.lt y_v2_839
  have Z862 := Nat.le_trans Z858 E862.1
  have K862 := K858.ext E862
  obtain ⟨ne_v2_839_b862, ne_v2_839_d862⟩ := nn862 _ y863_v2_839
  obtain ⟨ne_v_td_b862, ne_v_td_d862⟩ := nn862 _ y863_v_td
  have f865 := ((f852.keep KC858).ext E862)
  have f866 := ((f845.keep KC858).ext E862)
  have f867 := (E839.ext E862)
  have f869 := (V839.ext E862)
  have f870 := (C839.ext E862)
  have f871 := (N839.ext E862)
  have f872 := (A839.ext E862)
  have f873 := (X839.ext E862)
  have f874 := ((f844.keep KC858 (allS g_b782 (allS g_v2_819 all0))).ext E862)
  have f884 := (f864.ext E862)
  obtain ⟨cq888, kq888, q888a, q888b, q888c⟩ := isOf hZ e862 f867
  obtain ⟨_, _, ⟨T888, L888, k888, n888⟩, -, X888, ⟨Lc888, hQ888, l888, y888, z888⟩, st888⟩ := X862.virtualBack hx (y := (⟨"java/lang/StringBuilder", "append", "(Ljava/lang/String;)Ljava/lang/StringBuilder;"⟩ : MethodName)) (z := (⟨"java/lang/StringBuilder", "append", "(Ljava/lang/String;)Ljava/lang/StringBuilder;"⟩ : MethodName)) hown (mvT hZ (tw hw 57 rfl)) (mvT hZ (tw hw 58 rfl)) (notFace_of_selects (args := #[]) (mvT hZ (tw hw 60 rfl))) (mvT hZ (tw hw 60 rfl)) (mvT hZ (tw hw 59 rfl)) (by decide) (backOf (W := 1) (rmSApS l Z a0 hw [] b782 v2_839 k2_839 (own_gr (own_gr (16) (0 + 8)) (0 + 8 + 1)) (0 + 8 + 1) wa_839 b862 d862 kb862 (1) [(.int (59 : Int32))] zc h862 n0 Z862 f867 f869 f870 f871 f872 f873 l2_839 hgm_839 g_b782 g_v2_839 A862 FV862 FC862 V862 rfl (by decide) (Ne.symm ne_v2_839_d862) hgl_839.1 ((by decide) : 0 + 8 + 1 + 1 ≤ own_gr (own_gr (16) (0 + 8)) (0 + 8 + 1) ∨ max (0 + 8 + 1 + 1) (2 * (own_gr (own_gr (16) (0 + 8)) (0 + 8 + 1)) + 2) ≤ 160) (by decide) f874 SC hzc) hZ (tw hw 61 rfl) (tw hw 38 rfl) (by decide) (by decide)) q888a q888c (g := (mkF m 75 #[.val (.ref j1), .val (.ref x1), .val (.ref y1)] [(.ref b862), (.ref b782), (.ref j1)])) rfl (by rw [hml]; rfl) (Steps.refl _) (argsL := [(.ref b862)]) (rest := [(.ref j1)]) (lenOf pd__Ljava_lang_String__Ljava_lang_StringBuilder_ rfl) rfl (by show 2 * 0 + _ ≤ _; exact Nat.le_of_eq rfl) (hb hby d6_75) (fun _ _ => ⟨rfl, e862, (by decide : 29 + 1 ≤ _), (by decide : 2016 + 160 ≤ _)⟩)
  dsimp only [Pt.U, Pt.locs, Pt.cells, Pt.slots] at X888 l888 y888 z888 st888 hQ888
  subst l888 y888 z888
  obtain ⟨rfl, N888q, KC888, v2_868, k2_868, wa_868, ⟨E868, V868, C868, N868, A868, X868⟩, l2_868, tk_868, g_v2_868, hv_868⟩ := hQ888
  have N888 := Fr.app NL860 N888q
  have cs889 := CHr.keep KC888 (allS (Safe.exa (EL := EL) hZ.alike f867 (by decide) (by decide)) (allS y863_v2_839 all0)) cs863.1
  have cr889 := cr863.trans cs889
  have y889_v_td := cs889.safe f884.lt y863_v_td
  have hk889 := Nat.le_trans hk862 cs889.2.1
  have Z888 := Nat.le_trans Z862 KC888.1
  have K888 := K862.trans KC888 (allS (Or.inr sz_b782) (allS (Or.inr sz_v2_839) all0))
  have y_v2_868 := own_safeK KC888 (allS (Safe.exa (EL := EL) hZ.alike f867 (by decide) (by decide)) (allS y863_v2_839 all0)) cs863.1 hv_868 y863_v2_839
  have hgl_868 := @own_grle (own_gr (own_gr (16) (0 + 8)) (0 + 8 + 1)) (0 + 8 + 1 + 1)
  have hgm_868 : own_gr (own_gr (own_gr (16) (0 + 8)) (0 + 8 + 1)) (0 + 8 + 1 + 1) ≤ 1000 := own_grM hgm_839 (by decide) ((by decide) : 0 + 8 + 1 + 1 ≤ own_gr (own_gr (16) (0 + 8)) (0 + 8 + 1) ∨ max (0 + 8 + 1 + 1) (2 * (own_gr (own_gr (16) (0 + 8)) (0 + 8 + 1)) + 2) ≤ 160)
  have f890 := (f874.keep KC888 (allS g_b782 (allS g_v2_839 all0)))
  have f892 := (f866.keep KC888)
  have f901 := (f865.keep KC888)
  have f905 := (f884.keep KC888 (ninS ne_v_td_b782 (ninS ne_v_td_v2_839 nin0)))
  obtain ⟨cq891, kq891, q891a, q891b, q891c⟩ := isOf hZ rfl E868
  obtain ⟨_, _, ⟨T891, L891, k891, n891⟩, -, X891, ⟨Lc891, hQ891, l891, y891, z891⟩, st891⟩ := X888.virtualBack hx (y := (⟨"java/lang/StringBuilder", "toString", "()Ljava/lang/String;"⟩ : MethodName)) (z := (⟨"java/lang/StringBuilder", "toString", "()Ljava/lang/String;"⟩ : MethodName)) hown (mvT hZ (tw hw 128 rfl)) (mvT hZ (tw hw 129 rfl)) (notFace_of_selects (args := #[]) (mvT hZ (tw hw 131 rfl))) (mvT hZ (tw hw 131 rfl)) (mvT hZ (tw hw 130 rfl)) (by decide) (backOf (W := 1) (rmToS l Z a0 hw [] b782 v2_868 k2_868 (own_gr (own_gr (own_gr (16) (0 + 8)) (0 + 8 + 1)) (0 + 8 + 1 + 1)) (0 + 8 + 1 + 1) wa_868 zc T888.heap n0 Z888 E868 V868 C868 N868 A868 X868 l2_868 hgm_868 g_b782 g_v2_868 hgl_868.1 (by decide) f890 SC hzc) hZ (tw hw 132 rfl) (tw hw 38 rfl) (by decide) (by decide)) q891a q891c (g := (mkF m 78 #[.val (.ref j1), .val (.ref x1), .val (.ref y1)] [(.ref b782), (.ref j1)])) rfl (by rw [hml]; rfl) (Steps.refl _) (argsL := []) (rest := [(.ref j1)]) (lenOf pd___Ljava_lang_String_ rfl) rfl (by show 2 * 0 + _ ≤ _; exact Nat.le_of_eq rfl) (hb hby d6_78) (fun _ _ => ⟨rfl, rfl, (by decide : 30 + 2 ≤ _), (by decide : 2176 + 132 ≤ _)⟩)
  dsimp only [Pt.U, Pt.locs, Pt.cells, Pt.slots] at X891 l891 y891 z891 st891 hQ891
  subst l891 y891 z891
  obtain ⟨x_n, rfl, N891q, EX891, le_n, t_n, k_n, ⟨E_n, V_n, C_n, A_n⟩, lt_n⟩ := hQ891
  have N891 := Fr.app N888 N891q
  have ne_v_td_t_n : v_td ≠ t_n := Nat.ne_of_lt (Nat.lt_of_lt_of_le f905.lt lt_n)
  have cs909 := CHr.ext EX891 cs889.1
  have cr909 := cr889.trans cs909
  have y909_v_td := cs909.safe f905.lt y889_v_td
  have hk909 := Nat.le_trans hk889 cs909.2.1
  have Z891 := Nat.le_trans Z888 EX891.1
  have K891 := K888.ext EX891
  obtain ⟨LL910, XL910, NL910⟩ : ∃ LL, Stand p l e ({ frames := 8, cells := 40, slots := 4200, locals := 205 } : Room) (s.setVm T862.vm) m #[(.ref j1), (.ref x1), (.ref y1)] below meth c T891 LL 32 2308 ∧ Fr n0 LL := ⟨_, X891, N891⟩
  have f919 := (f901.ext EX891)
  have f926 := (((((((((f772.keep KC779 (ninS ne_j1_b624 (ninS ne_j1_v_tb nin0))).ext E782).keep KC796 (ninS ne_j1_b782 nin0)).ext E813).keep KC837 (ninS ne_j1_b782 (ninS ne_j1_v_pb nin0))).keep KC858 (ninS ne_j1_b782 (ninS ne_j1_v2_819 nin0))).ext E862).keep KC888 (ninS ne_j1_b782 (ninS ne_j1_v2_839 nin0))).ext EX891)
  have f927 := ((((((((((EQ757 ▸ (f743.keep KC752 (ninS ne_j1_b624 (ninS ne_j1_v_ta nin0)))).keep KC779 (ninS ne_j1_b624 (ninS ne_j1_v_tb nin0))).ext E782).keep KC796 (ninS ne_j1_b782 nin0)).ext E813).keep KC837 (ninS ne_j1_b782 (ninS ne_j1_v_pb nin0))).keep KC858 (ninS ne_j1_b782 (ninS ne_j1_v2_819 nin0))).ext E862).keep KC888 (ninS ne_j1_b782 (ninS ne_j1_v2_839 nin0))).ext EX891)
  have f928 := (f892.ext EX891)
  have f929 := ((((((((V_td.ext E782).keep KC796 (ninS ne_b624_b782 nin0)).ext E813).keep KC837 (ninS ne_b624_b782 (ninS ne_b624_v_pb nin0))).keep KC858 (ninS ne_b624_b782 (ninS ne_b624_v2_819 nin0))).ext E862).keep KC888 (ninS ne_b624_b782 (ninS ne_b624_v2_839 nin0))).ext EX891)
  have f930 := ((((((((C_td.ext E782).keep KC796 (ninS ne_b624_b782 nin0)).ext E813).keep KC837 (ninS ne_b624_b782 (ninS ne_b624_v_pb nin0))).keep KC858 (ninS ne_b624_b782 (ninS ne_b624_v2_819 nin0))).ext E862).keep KC888 (ninS ne_b624_b782 (ninS ne_b624_v2_839 nin0))).ext EX891)
  have f931 := ((((((((N_td.ext E782).keep KC796 (ninS ne_b624_b782 nin0)).ext E813).keep KC837 (ninS ne_b624_b782 (ninS ne_b624_v_pb nin0))).keep KC858 (ninS ne_b624_b782 (ninS ne_b624_v2_819 nin0))).ext E862).keep KC888 (ninS ne_b624_b782 (ninS ne_b624_v2_839 nin0))).ext EX891)
  have f932 := (f905.ext EX891)
  have f933 := ((((((((X_td.ext E782).keep KC796).ext E813).keep KC837).keep KC858).ext E862).keep KC888).ext EX891)
  have f934 := (f890.ext EX891)
  have pre935 : ∀ t, Steps p.tables e below (T891.setTop (mkF m 81 #[.val (.ref j1), .val (.ref x1), .val (.ref y1)] [(.ref x_n), (.ref j1)])) t → Steps p.tables e below (T858.setTop (mkF m 73 #[.val (.ref j1), .val (.ref x1), .val (.ref y1)] [(.ref b782), (.ref j1)])) t := by
    intro t kt
    show Steps p.tables e below (T858.setTop (mkF m 73 #[.val (.ref j1), .val (.ref x1), .val (.ref y1)] [(.ref b782), (.ref j1)])) _
    refine st862 _ ?_
    refine st888.trans ?_
    refine st891.trans ?_
    exact kt
  obtain ⟨cq936, kq936, q936a, q936b, q936c⟩ := isOf hZ rfl f919
  obtain ⟨_, _, ⟨T936, L936, k936, n936⟩, -, X936, hs936, hg936, ⟨Lc936, hQ936, l936, y936, z936, crs936⟩, st936⟩ := XL910.virtualBackS hx (y := (⟨"com/example/orbweaver/orbweaver/mapping/JavaSource", "line", "(Ljava/lang/String;)Lcom/example/orbweaver/orbweaver/mapping/JavaSource;"⟩ : MethodName)) (z := (⟨"com/example/orbweaver/orbweaver/mapping/JavaSource", "line", "(Ljava/lang/String;)Lcom/example/orbweaver/orbweaver/mapping/JavaSource;"⟩ : MethodName)) hown (mvT hZ (tw hw 167 rfl)) (mvT hZ (tw hw 168 rfl)) (notFace_of_selects (args := #[]) (mvT hZ (tw hw 170 rfl))) (mvT hZ (tw hw 170 rfl)) (mvT hZ (tw hw 169 rfl)) (by decide) (own_backS1 (s := s) (W := 0) (rmLine l Z a0 hw [] j1 b624 v_td k_td (own_gr (own_gr (own_gr (own_gr (16) (0 + 4 * (0))) (0 + 4 * (0) + (0 + 35 + 1 + 38))) (0 + 4 * (0) + (0 + 35 + 1 + 38) + 1)) (0 + 4 * (0) + (0 + 35 + 1 + 38) + 1 + 1)) (0 + 4 * (0) + (0 + 35 + 1 + 38) + 1 + 1) ws_td x_n t_n k_n (0 + 8 + 1 + 1) (wa_868.take (0 + 8 + 1 + 1)) (0) zc T891.heap n0 Z891 hEL f919 f926 f927 f928 f929 f930 f931 f932 f933 l_td hcp_td g_b624 g_v_td E_n V_n C_n A_n (by rw [List.length_take, l2_868]; decide) (by decide) (Ne.symm ne_v_td_t_n) own_grle.1 (by decide) (by decide) (by decide) (by decide) (by decide) f934 SC hzc) hZ (tw hw 171 rfl) (tw hw 10 rfl) (by decide) (by decide) hEL cs909.1 f932.lt y909_v_td) q936a q936c (g := (mkF m 81 #[.val (.ref j1), .val (.ref x1), .val (.ref y1)] [(.ref x_n), (.ref j1)])) rfl (by rw [hml]; rfl) (Steps.refl _) (argsL := [(.ref x_n)]) (rest := []) (lenOf pd__Ljava_lang_String__Lcom_example_orbweaver_orbweaver_mapping_JavaSource_ rfl) rfl (by show 2 * 0 + _ ≤ _; exact Nat.le_of_eq rfl) (hb hby d6_81) (fun _ _ => ⟨rfl, rfl, (by decide : 32 + 7 ≤ _), (by decide : 2308 + 520 ≤ _)⟩)
  dsimp only [Pt.U, Pt.locs, Pt.cells, Pt.slots] at X936 l936 y936 z936 st936 hQ936 hs936 hg936 crs936
  subst l936 y936 z936
  obtain ⟨X936, hSi936, hZ, hown⟩ := rebS hSi862 (hk909) X936 hs936 hg936 hZ hown
  obtain ⟨rfl, N936q, KC936, v_te, k_te, ws_te, ⟨E_te, V_te, C_te, N_te, A_te, X_te⟩, l_te, tk_te, g_v_te, hv_te, y_te⟩ := hQ936
  have N936 := Fr.app NL910 N936q
  have cs937 := crs936
  have cr937 := cr909.trans cs937
  have Z936 := Nat.le_trans Z891 KC936.1
  have K936 := K891.trans KC936 (allS (Or.inr sz_b624) (allS (Or.inr sz_v_td) all0))
  have sz_v_te : h0.size ≤ v_te := hv_te.elim (fun q => by rw [q]; exact sz_v_td) (fun q => Nat.le_trans K891.1 q)
  have ne_j1_v_te : j1 ≠ v_te := hv_te.elim (fun q => by rw [q]; exact ne_j1_v_td) (fun q => Nat.ne_of_lt (Nat.lt_of_lt_of_le f919.lt q))
  have hcp_te : own_gr (own_gr (own_gr (own_gr (own_gr (own_gr (own_gr (16) (0 + 4 * (0))) (0 + 4 * (0) + (0 + 35 + 1 + 38))) (0 + 4 * (0) + (0 + 35 + 1 + 38) + 1)) (0 + 4 * (0) + (0 + 35 + 1 + 38) + 1 + 1)) (0 + 4 * (0) + (0 + 35 + 1 + 38) + 1 + 1 + 4 * (0))) (0 + 4 * (0) + (0 + 35 + 1 + 38) + 1 + 1 + 4 * (0) + (0 + 8 + 1 + 1))) (0 + 4 * (0) + (0 + 35 + 1 + 38) + 1 + 1 + 4 * (0) + (0 + 8 + 1 + 1) + 1) ≤ 1000 := own_grM (own_grM (own_grM hcp_td (by decide) (by decide : 0 + 4 * (0) + (0 + 35 + 1 + 38) + 1 + 1 + 4 * (0) ≤ own_gr (own_gr (own_gr (own_gr (16) (0 + 4 * (0))) (0 + 4 * (0) + (0 + 35 + 1 + 38))) (0 + 4 * (0) + (0 + 35 + 1 + 38) + 1)) (0 + 4 * (0) + (0 + 35 + 1 + 38) + 1 + 1) ∨ max (0 + 4 * (0) + (0 + 35 + 1 + 38) + 1 + 1 + 4 * (0)) (2 * (own_gr (own_gr (own_gr (own_gr (16) (0 + 4 * (0))) (0 + 4 * (0) + (0 + 35 + 1 + 38))) (0 + 4 * (0) + (0 + 35 + 1 + 38) + 1)) (0 + 4 * (0) + (0 + 35 + 1 + 38) + 1 + 1)) + 2) ≤ 160)) (by decide) (by decide : 0 + 4 * (0) + (0 + 35 + 1 + 38) + 1 + 1 + 4 * (0) + (0 + 8 + 1 + 1) ≤ own_gr (own_gr (own_gr (own_gr (own_gr (16) (0 + 4 * (0))) (0 + 4 * (0) + (0 + 35 + 1 + 38))) (0 + 4 * (0) + (0 + 35 + 1 + 38) + 1)) (0 + 4 * (0) + (0 + 35 + 1 + 38) + 1 + 1)) (0 + 4 * (0) + (0 + 35 + 1 + 38) + 1 + 1 + 4 * (0)) ∨ max (0 + 4 * (0) + (0 + 35 + 1 + 38) + 1 + 1 + 4 * (0) + (0 + 8 + 1 + 1)) (2 * (own_gr (own_gr (own_gr (own_gr (own_gr (16) (0 + 4 * (0))) (0 + 4 * (0) + (0 + 35 + 1 + 38))) (0 + 4 * (0) + (0 + 35 + 1 + 38) + 1)) (0 + 4 * (0) + (0 + 35 + 1 + 38) + 1 + 1)) (0 + 4 * (0) + (0 + 35 + 1 + 38) + 1 + 1 + 4 * (0))) + 2) ≤ 160)) (by decide) (by decide : 0 + 4 * (0) + (0 + 35 + 1 + 38) + 1 + 1 + 4 * (0) + (0 + 8 + 1 + 1) + 1 ≤ own_gr (own_gr (own_gr (own_gr (own_gr (own_gr (16) (0 + 4 * (0))) (0 + 4 * (0) + (0 + 35 + 1 + 38))) (0 + 4 * (0) + (0 + 35 + 1 + 38) + 1)) (0 + 4 * (0) + (0 + 35 + 1 + 38) + 1 + 1)) (0 + 4 * (0) + (0 + 35 + 1 + 38) + 1 + 1 + 4 * (0))) (0 + 4 * (0) + (0 + 35 + 1 + 38) + 1 + 1 + 4 * (0) + (0 + 8 + 1 + 1)) ∨ max (0 + 4 * (0) + (0 + 35 + 1 + 38) + 1 + 1 + 4 * (0) + (0 + 8 + 1 + 1) + 1) (2 * (own_gr (own_gr (own_gr (own_gr (own_gr (own_gr (16) (0 + 4 * (0))) (0 + 4 * (0) + (0 + 35 + 1 + 38))) (0 + 4 * (0) + (0 + 35 + 1 + 38) + 1)) (0 + 4 * (0) + (0 + 35 + 1 + 38) + 1 + 1)) (0 + 4 * (0) + (0 + 35 + 1 + 38) + 1 + 1 + 4 * (0))) (0 + 4 * (0) + (0 + 35 + 1 + 38) + 1 + 1 + 4 * (0) + (0 + 8 + 1 + 1))) + 2) ≤ 160)
  obtain ⟨LL938, XL938, NL938⟩ : ∃ LL, Stand p l e ({ frames := 8, cells := 40, slots := 4200, locals := 205 } : Room) (s.setVm T936.vm) m #[(.ref j1), (.ref x1), (.ref y1)] below meth c T936 LL 39 2828 ∧ Fr n0 LL := ⟨_, X936, N936⟩
  have f947 := (f919.keep KC936)
  have f956 := (f926.keep KC936 (ninS ne_j1_b624 (ninS ne_j1_v_td nin0)))
  have f957 := (f934.keep KC936 (allS g_b624 (allS g_v_td all0)))
  obtain ⟨cq958, kq958, q958a, q958b, q958c⟩ := isOf hZ rfl f947
  obtain ⟨_, _, ⟨T958, L958, k958, n958⟩, -, X958, ⟨Lc958, hQ958, l958, y958, z958⟩, st958⟩ := XL938.virtualBack hx (y := (⟨"com/example/orbweaver/orbweaver/mapping/JavaSource", "blank", "()Lcom/example/orbweaver/orbweaver/mapping/JavaSource;"⟩ : MethodName)) (z := (⟨"com/example/orbweaver/orbweaver/mapping/JavaSource", "blank", "()Lcom/example/orbweaver/orbweaver/mapping/JavaSource;"⟩ : MethodName)) hown (mvT hZ (tw hw 197 rfl)) (mvT hZ (tw hw 198 rfl)) (notFace_of_selects (args := #[]) (mvT hZ (tw hw 200 rfl))) (mvT hZ (tw hw 200 rfl)) (mvT hZ (tw hw 199 rfl)) (by decide) (backOf (W := 0) (rmBlank l Z a0 hw [] j1 b624 v_te k_te (own_gr (own_gr (own_gr (own_gr (own_gr (own_gr (own_gr (16) (0 + 4 * (0))) (0 + 4 * (0) + (0 + 35 + 1 + 38))) (0 + 4 * (0) + (0 + 35 + 1 + 38) + 1)) (0 + 4 * (0) + (0 + 35 + 1 + 38) + 1 + 1)) (0 + 4 * (0) + (0 + 35 + 1 + 38) + 1 + 1 + 4 * (0))) (0 + 4 * (0) + (0 + 35 + 1 + 38) + 1 + 1 + 4 * (0) + (0 + 8 + 1 + 1))) (0 + 4 * (0) + (0 + 35 + 1 + 38) + 1 + 1 + 4 * (0) + (0 + 8 + 1 + 1) + 1)) (0 + 4 * (0) + (0 + 35 + 1 + 38) + 1 + 1 + 4 * (0) + (0 + 8 + 1 + 1) + 1) ws_te zc T936.heap n0 Z936 f956 E_te V_te C_te N_te A_te X_te l_te hcp_te g_b624 g_v_te own_grle.1 (by decide : 0 + 4 * (0) + (0 + 35 + 1 + 38) + 1 + 1 + 4 * (0) + (0 + 8 + 1 + 1) + 1 + 1 ≤ own_gr (own_gr (own_gr (own_gr (own_gr (own_gr (own_gr (16) (0 + 4 * (0))) (0 + 4 * (0) + (0 + 35 + 1 + 38))) (0 + 4 * (0) + (0 + 35 + 1 + 38) + 1)) (0 + 4 * (0) + (0 + 35 + 1 + 38) + 1 + 1)) (0 + 4 * (0) + (0 + 35 + 1 + 38) + 1 + 1 + 4 * (0))) (0 + 4 * (0) + (0 + 35 + 1 + 38) + 1 + 1 + 4 * (0) + (0 + 8 + 1 + 1))) (0 + 4 * (0) + (0 + 35 + 1 + 38) + 1 + 1 + 4 * (0) + (0 + 8 + 1 + 1) + 1) ∨ max (0 + 4 * (0) + (0 + 35 + 1 + 38) + 1 + 1 + 4 * (0) + (0 + 8 + 1 + 1) + 1 + 1) (2 * (own_gr (own_gr (own_gr (own_gr (own_gr (own_gr (own_gr (16) (0 + 4 * (0))) (0 + 4 * (0) + (0 + 35 + 1 + 38))) (0 + 4 * (0) + (0 + 35 + 1 + 38) + 1)) (0 + 4 * (0) + (0 + 35 + 1 + 38) + 1 + 1)) (0 + 4 * (0) + (0 + 35 + 1 + 38) + 1 + 1 + 4 * (0))) (0 + 4 * (0) + (0 + 35 + 1 + 38) + 1 + 1 + 4 * (0) + (0 + 8 + 1 + 1))) (0 + 4 * (0) + (0 + 35 + 1 + 38) + 1 + 1 + 4 * (0) + (0 + 8 + 1 + 1) + 1)) + 2) ≤ 160) (by decide) f957 SC hzc) hZ (tw hw 201 rfl) (tw hw 10 rfl) (by decide) (by decide)) q958a q958c (g := (mkF m 86 #[.val (.ref j1), .val (.ref x1), .val (.ref y1)] [(.ref j1)])) rfl (by rw [hml]; rfl) (Steps.refl _) (argsL := []) (rest := []) (lenOf pd___Lcom_example_orbweaver_orbweaver_mapping_JavaSource_ rfl) rfl (by show 2 * 0 + _ ≤ _; exact Nat.le_of_eq rfl) (hb hby d6_86) (fun _ _ => ⟨rfl, rfl, (by decide : 39 + 1 ≤ _), (by decide : 2828 + 160 ≤ _)⟩)
  dsimp only [Pt.U, Pt.locs, Pt.cells, Pt.slots] at X958 l958 y958 z958 st958 hQ958
  subst l958 y958 z958
  obtain ⟨rfl, N958q, KC958, v_tc, k_tc, ws_tc, ⟨E_tc, V_tc, C_tc, N_tc, A_tc, X_tc⟩, l_tc, tk_tc, g_v_tc, hv_tc⟩ := hQ958
  have N958 := Fr.app NL938 N958q
  have cs959 := CHr.keep KC958 (allS (Safe.exa (EL := EL) hZ.alike E_te (by decide) (by decide)) (allS y_te all0)) cs937.1
  have cr959 := cr937.trans cs959
  have hk959 := Nat.le_trans (Nat.le_refl _) cs959.2.1
  have K958 := K936.trans KC958 (allS (Or.inr sz_b624) (allS (Or.inr sz_v_te) all0))
  have sz_v_tc : h0.size ≤ v_tc := hv_tc.elim (fun q => by rw [q]; exact sz_v_te) (fun q => Nat.le_trans K936.1 q)
  have y_tc := own_safeK KC958 (allS (Safe.exa (EL := EL) hZ.alike E_te (by decide) (by decide)) (allS y_te all0)) cs937.1 hv_tc y_te
  have hcp_tc : own_gr (own_gr (own_gr (own_gr (own_gr (own_gr (own_gr (own_gr (16) (0 + 4 * (0))) (0 + 4 * (0) + (0 + 35 + 1 + 38))) (0 + 4 * (0) + (0 + 35 + 1 + 38) + 1)) (0 + 4 * (0) + (0 + 35 + 1 + 38) + 1 + 1)) (0 + 4 * (0) + (0 + 35 + 1 + 38) + 1 + 1 + 4 * (0))) (0 + 4 * (0) + (0 + 35 + 1 + 38) + 1 + 1 + 4 * (0) + (0 + 8 + 1 + 1))) (0 + 4 * (0) + (0 + 35 + 1 + 38) + 1 + 1 + 4 * (0) + (0 + 8 + 1 + 1) + 1)) (0 + 4 * (0) + (0 + 35 + 1 + 38) + 1 + 1 + 4 * (0) + (0 + 8 + 1 + 1) + 1 + 1) ≤ 1000 := own_grM hcp_te (by decide) (by decide : 0 + 4 * (0) + (0 + 35 + 1 + 38) + 1 + 1 + 4 * (0) + (0 + 8 + 1 + 1) + 1 + 1 ≤ own_gr (own_gr (own_gr (own_gr (own_gr (own_gr (own_gr (16) (0 + 4 * (0))) (0 + 4 * (0) + (0 + 35 + 1 + 38))) (0 + 4 * (0) + (0 + 35 + 1 + 38) + 1)) (0 + 4 * (0) + (0 + 35 + 1 + 38) + 1 + 1)) (0 + 4 * (0) + (0 + 35 + 1 + 38) + 1 + 1 + 4 * (0))) (0 + 4 * (0) + (0 + 35 + 1 + 38) + 1 + 1 + 4 * (0) + (0 + 8 + 1 + 1))) (0 + 4 * (0) + (0 + 35 + 1 + 38) + 1 + 1 + 4 * (0) + (0 + 8 + 1 + 1) + 1) ∨ max (0 + 4 * (0) + (0 + 35 + 1 + 38) + 1 + 1 + 4 * (0) + (0 + 8 + 1 + 1) + 1 + 1) (2 * (own_gr (own_gr (own_gr (own_gr (own_gr (own_gr (own_gr (16) (0 + 4 * (0))) (0 + 4 * (0) + (0 + 35 + 1 + 38))) (0 + 4 * (0) + (0 + 35 + 1 + 38) + 1)) (0 + 4 * (0) + (0 + 35 + 1 + 38) + 1 + 1)) (0 + 4 * (0) + (0 + 35 + 1 + 38) + 1 + 1 + 4 * (0))) (0 + 4 * (0) + (0 + 35 + 1 + 38) + 1 + 1 + 4 * (0) + (0 + 8 + 1 + 1))) (0 + 4 * (0) + (0 + 35 + 1 + 38) + 1 + 1 + 4 * (0) + (0 + 8 + 1 + 1) + 1)) + 2) ≤ 160)
  have ecp : own_gr (own_gr (own_gr (own_gr (own_gr (own_gr (own_gr (own_gr (16) (0 + 4 * (0))) (0 + 4 * (0) + (0 + 35 + 1 + 38))) (0 + 4 * (0) + (0 + 35 + 1 + 38) + 1)) (0 + 4 * (0) + (0 + 35 + 1 + 38) + 1 + 1)) (0 + 4 * (0) + (0 + 35 + 1 + 38) + 1 + 1 + 4 * (0))) (0 + 4 * (0) + (0 + 35 + 1 + 38) + 1 + 1 + 4 * (0) + (0 + 8 + 1 + 1))) (0 + 4 * (0) + (0 + 35 + 1 + 38) + 1 + 1 + 4 * (0) + (0 + 8 + 1 + 1) + 1)) (0 + 4 * (0) + (0 + 35 + 1 + 38) + 1 + 1 + 4 * (0) + (0 + 8 + 1 + 1) + 1 + 1) = 150 := by decide
  have ect : 0 + 4 * (0) + (0 + 35 + 1 + 38) + 1 + 1 + 4 * (0) + (0 + 8 + 1 + 1) + 1 + 1 = 88 := by decide
  have f960 := (f947.keep KC958)
  have f961 := (f956.keep KC958 (ninS ne_j1_b624 (ninS ne_j1_v_te nin0)))
  have f962 := ((f927.keep KC936 (ninS ne_j1_b624 (ninS ne_j1_v_td nin0))).keep KC958 (ninS ne_j1_b624 (ninS ne_j1_v_te nin0)))
  have pre963 : ∀ t, Steps p.tables e below (T958.setTop (mkF m 90 #[.val (.ref j1), .val (.ref x1), .val (.ref y1)] [])) t → Steps p.tables e below (T891.setTop (mkF m 81 #[.val (.ref j1), .val (.ref x1), .val (.ref y1)] [(.ref x_n), (.ref j1)])) t := by
    intro t kt
    refine st936.trans ?_
    show Steps p.tables e below (T936.setTop (mkF m 84 #[.val (.ref j1), .val (.ref x1), .val (.ref y1)] [(.ref j1)])) _
    refine XS.pop X936.here hx rfl (hb hby d6_84) rfl rfl ?_
    refine XS.aloadN X936.here hx rfl (hb hby d6_85) rfl rfl ?_
    refine st958.trans ?_
    show Steps p.tables e below (T958.setTop (mkF m 89 #[.val (.ref j1), .val (.ref x1), .val (.ref y1)] [(.ref j1)])) _
    refine XS.pop X958.here hx rfl (hb hby d6_89) rfl rfl ?_
    exact kt
  have yf_v_tc := (CHv.at X958 hZ hEL cs959.1).safe A_tc.lt y_tc
  obtain ⟨fs, hr, hrun, hended, e1, e2, e3, e4⟩ := X958.leaveW hSi936 hk959 (v := none) (fun _ => rfl)
  refine ⟨_, _, (pre0 _ (pre658 _ (pre695 _ (pre751 _ (pre812 _ (pre861 _ (pre935 _ (pre963 _ ?_)))))))), hrun, hended, _, _, rfl, ?_, ?_, ⟨e1, e2, e3, e4.mono (by decide) (by decide)⟩⟩
  · show Steps p.tables e below (T958.setTop (mkF m 90 #[.val (.ref j1), .val (.ref x1), .val (.ref y1)] [])) _
    exact X958.returnOut hx Bd.returns (hb hby d6_90) hr
  · show QCtor1 Z j1 x1 t1 kx xs y1 u1 ky ys zc h0 n0 _ T958.heap _ T958.vm
    exact ⟨rfl, N958, K958, b624, v_tc, k_tc, ws_tc, ⟨f960, f961, f962⟩, (by have q := (⟨E_tc, V_tc, C_tc, N_tc, A_tc, X_tc⟩ : Exa Z T958.heap b624 "java/lang/StringBuilder" ∧ Fld Z T958.heap b624 "java/lang/AbstractStringBuilder" "value" "[B" (.ref v_tc) ∧ Fld Z T958.heap b624 "java/lang/AbstractStringBuilder" "coder" "B" (.int (0 : Int32)) ∧ Fld Z T958.heap b624 "java/lang/AbstractStringBuilder" "count" "I" (.int (Int32.ofNat (0 + 4 * (0) + (0 + 35 + 1 + 38) + 1 + 1 + 4 * (0) + (0 + 8 + 1 + 1) + 1 + 1))) ∧ Arv Z T958.heap v_tc k_tc .byte (Int32.ofNat (own_gr (own_gr (own_gr (own_gr (own_gr (own_gr (own_gr (own_gr (16) (0 + 4 * (0))) (0 + 4 * (0) + (0 + 35 + 1 + 38))) (0 + 4 * (0) + (0 + 35 + 1 + 38) + 1)) (0 + 4 * (0) + (0 + 35 + 1 + 38) + 1 + 1)) (0 + 4 * (0) + (0 + 35 + 1 + 38) + 1 + 1 + 4 * (0))) (0 + 4 * (0) + (0 + 35 + 1 + 38) + 1 + 1 + 4 * (0) + (0 + 8 + 1 + 1))) (0 + 4 * (0) + (0 + 35 + 1 + 38) + 1 + 1 + 4 * (0) + (0 + 8 + 1 + 1) + 1)) (0 + 4 * (0) + (0 + 35 + 1 + 38) + 1 + 1 + 4 * (0) + (0 + 8 + 1 + 1) + 1 + 1))) ws_tc (.int (0 : Int32)) ∧ Exa Z T958.heap v_tc "[B"); rw [ecp, ect] at q; exact q), by have q := l_tc; rw [ecp] at q; exact q, sz_b624, sz_v_tc, yf_v_tc⟩
  · have q := cr959.trans (CHv.at X958 hZ hEL cs959.1)
    show CHr Z EL s.vm s.heap T958.vm T958.heap
    rw [hh]
    exact q
def Q0 (Z : State) (p0 : Int32) (p1 : Int32) (p2 : Int32) (p3 : Int32) (p4 : Int32) (zc : Int32) (fm : Value) (h0 : Heap) (n0 : Nat) (v : Option Value) (h : Heap) (L : List Loc) (vm : Vm) : Prop := v = some (.int (1 : Int32)) ∧ Fr n0 L
theorem pd__I_Lcom_example_orbweaver_orbweaver_mapping_JavaSource_ : parseMethodDescriptor "(I)Lcom/example/orbweaver/orbweaver/mapping/JavaSource;" = some ⟨[.int], some (.object "com/example/orbweaver/orbweaver/mapping/JavaSource")⟩ := by decide +kernel
theorem pd__Ljava_lang_Object__Z : parseMethodDescriptor "(Ljava/lang/Object;)Z" = some ⟨[(.object "java/lang/Object")], some .boolean⟩ := by decide +kernel
theorem pd__C_Ljava_lang_String_ : parseMethodDescriptor "(C)Ljava/lang/String;" = some ⟨[.char], some (.object "java/lang/String")⟩ := by decide +kernel
theorem pd__Ljava_lang_String_IIIC_Z : parseMethodDescriptor "(Ljava/lang/String;IIIC)Z" = some ⟨[(.object "java/lang/String"), .int, .int, .int, .char], some .boolean⟩ := by decide +kernel
set_option maxRecDepth 65536 in
set_option maxHeartbeats 40000000 in
theorem tail0 {p : Program} {l : Launch} {e : Env} {s : State} {m : MethodId} {below : List Frame} {meth : Method} {c : Code} {T0 : State} {LL : List Loc} {Z : State} {a0 : Array Value} {h0 hT : Heap} {n0 k0 : Nat} {vm0 : Vm} (p0 : Int32) (p1 : Int32) (p2 : Int32) (p3 : Int32) (p4 : Int32) (zc : Int32) (fm : Value) {fo fn dv d0v : Int32} {y1 j1 b1 v1 : Addr} {k1 : ClassId} {ct : Nat} {vs : List Value}
    (X0 : Stand p l e room_1 (s.setVm vm0) m #[(.int p0), (.int p1), (.int p2), (.int p3), (.int p4)] below meth c T0 LL 70 7000) (hx : p.tables.exec = Jvm.exec) (hZ : Z.Warmed39 (s.setVm vm0).vm) (hw : ∀ d ∈ tables_1, d.before a0 Z = true) (hby : c.code = code) (hml : c.maxLocals = 18) (hown : (s.setVm vm0).vm.findClass "com/example/orbweaver/orbweaver/mapping/JavaSourceDeeperPinLaw" = some m.cls) (hret : meth.sig.returnType = ret) (hlk : meth.locks = false) (hh : s.heap = h0) (e0 : T0.heap = hT) (N0 : Fr n0 LL) (hSi : s.Since vm0 k0) (hk : k0 ≤ hT.size) (hEL : EW Z a0 EL) (hCH : CHv Z EL vm0 hT) (hCR : CHr Z EL s.vm h0 vm0 hT) (Z0 : n0 ≤ hT.size) (K0 : Keep h0 hT []) (OZ : Old Z n0 hT) (SC : Sta Z Z.heap "java/lang/String" "COMPACT_STRINGS" "Z" (.int zc)) (hzc : ¬ zc = (0 : Int32)) (SFm : Sta Z Z.heap "jdk/internal/util/Preconditions" "SIOOBE_FORMATTER" "Ljava/util/function/BiFunction;" fm) (rf : fm.isRef = true) (sz_j1 : h0.size ≤ j1) (sz_b1 : h0.size ≤ b1) (sz_v1 : h0.size ≤ v1) (JE : Exa Z hT j1 "com/example/orbweaver/orbweaver/mapping/JavaSource") (JT : Fld Z hT j1 "com/example/orbweaver/orbweaver/mapping/JavaSource" "text" "Ljava/lang/StringBuilder;" (.ref b1)) (JD : Fld Z hT j1 "com/example/orbweaver/orbweaver/mapping/JavaSource" "depth" "I" (.int dv)) (g_j1 : n0 ≤ j1) (BE : Exa Z hT b1 "java/lang/StringBuilder") (BV : Fld Z hT b1 "java/lang/AbstractStringBuilder" "value" "[B" (.ref v1)) (BC : Fld Z hT b1 "java/lang/AbstractStringBuilder" "coder" "B" (.int (0 : Int32))) (BN : Fld Z hT b1 "java/lang/AbstractStringBuilder" "count" "I" (.int (Int32.ofNat ct))) (BA : Arv Z hT v1 k1 .byte (Int32.ofNat 150) vs (.int (0 : Int32))) (BX : Exa Z hT v1 "[B") (hvl : vs.length = 150) (g_b1 : n0 ≤ b1) (g_v1 : n0 ≤ v1) (hY : Safe Z EL vm0 hT v1) (hct : ct ≤ 92) (hdv : ∀ x : Int32, dv + (x - d0v) = x) :
    ∃ s₂ o, Steps p.tables e below (T0.setTop (mkF m 96 #[.val (.int p0), .val (.int p1), .val (.int p2), .val (.int p3), .val (.int p4), .val (.int fo), .val (.int fn), .val (.ref y1), .val (.ref j1), .val (.int d0v), .unset, .unset, .unset, .unset, .unset, .unset, .unset, .unset] [])) s₂ ∧ s₂.status = Status.running ∧ Ended s₂ below o ∧ ∃ v L, o = Outcome.returned v ∧ Q0 Z p0 p1 p2 p3 p4 zc fm h0 n0 v s₂.heap L s₂.vm ∧ CHr Z EL s.vm s.heap s₂.vm s₂.heap ∧ ReturnedEndW s o s₂ L room_1.cells room_1.slots := by
  have ne_j1_b1 : j1 ≠ b1 := JE.ne BE (by decide)
  have ne_j1_v1 : j1 ≠ v1 := JE.neArv BA (tw hw 9 rfl)
  obtain ⟨dn, edn, hdn4⟩ := own_dep p1
  obtain ⟨cv, ecv, hcv, hchr⟩ := own_ch p4
  obtain ⟨cq964, kq964, q964a, q964b, q964c⟩ := isOf hZ e0 JE
  obtain ⟨_, _, ⟨T964, L964, k964, n964⟩, -, X964, ⟨Lc964, hQ964, l964, y964, z964⟩, st964⟩ := X0.virtualBack hx (y := (⟨"com/example/orbweaver/orbweaver/mapping/JavaSource", "toString", "()Ljava/lang/String;"⟩ : MethodName)) (z := (⟨"com/example/orbweaver/orbweaver/mapping/JavaSource", "toString", "()Ljava/lang/String;"⟩ : MethodName)) hown (mvT hZ (tw hw 203 rfl)) (mvT hZ (tw hw 204 rfl)) (notFace_of_selects (args := #[]) (mvT hZ (tw hw 206 rfl))) (mvT hZ (tw hw 206 rfl)) (mvT hZ (tw hw 205 rfl)) (by decide) (backOf (W := 0) (rmJToS l Z a0 hw [] j1 b1 v1 k1 (150) (ct) vs zc hT n0 Z0 JT BE BV BC BN BA BX hvl (by decide) g_b1 g_v1 (by omega) (by omega) OZ SC hzc) hZ (tw hw 207 rfl) (tw hw 10 rfl) (by decide) (by decide)) q964a q964c (g := (mkF m 113 #[.val (.int p0), .val (.int p1), .val (.int p2), .val (.int p3), .val (.int p4), .val (.int fo), .val (.int fn), .val (.ref y1), .val (.ref j1), .val (.int d0v), .val (.int (Int32.ofNat dn)), .val (.int ((Int32.ofNat dn) - d0v)), .unset, .unset, .unset, .unset, .unset, .unset] [(.ref j1)])) rfl (by rw [hml]; rfl) (Steps.refl _) (argsL := []) (rest := []) (lenOf pd___Ljava_lang_String_ rfl) rfl (by show 2 * 0 + _ ≤ _; exact Nat.le_of_eq rfl) (hb hby at_113) (fun _ _ => ⟨rfl, e0, (by decide : 70 + 2 ≤ _), (by decide : 7000 + 132 ≤ _)⟩)
  dsimp only [Pt.U, Pt.locs, Pt.cells, Pt.slots] at X964 l964 y964 z964 st964 hQ964
  subst l964 y964 z964
  obtain ⟨x_a, rfl, N964q, EX964, le_a, t_a, k_a, ⟨E_a, V_a, C_a, A_a⟩, lt_a⟩ := hQ964
  have N964 := Fr.app N0 N964q
  have ne_b1_x_a : b1 ≠ x_a := Nat.ne_of_lt (Nat.lt_of_lt_of_le BE.lt le_a)
  have ne_j1_x_a : j1 ≠ x_a := Nat.ne_of_lt (Nat.lt_of_lt_of_le JE.lt le_a)
  have ne_v1_x_a : v1 ≠ x_a := Nat.ne_of_lt (Nat.lt_of_lt_of_le BA.lt le_a)
  have ne_b1_t_a : b1 ≠ t_a := Nat.ne_of_lt (Nat.lt_of_lt_of_le BE.lt lt_a)
  have ne_j1_t_a : j1 ≠ t_a := Nat.ne_of_lt (Nat.lt_of_lt_of_le JE.lt lt_a)
  have ne_v1_t_a : v1 ≠ t_a := Nat.ne_of_lt (Nat.lt_of_lt_of_le BA.lt lt_a)
  have cs965 := CHr.ext EX964 hCH
  have cr965 := hCR.trans cs965
  have y965_v1 := cs965.safe BA.lt hY
  have hk965 := Nat.le_trans hk cs965.2.1
  have Z964 := Nat.le_trans Z0 EX964.1
  have f966 := (JE.ext EX964)
  have f967 := (JT.ext EX964)
  have f968 := (JD.ext EX964)
  obtain ⟨cq969, kq969, q969a, q969b, q969c⟩ := isOf hZ rfl f966
  obtain ⟨_, _, ⟨T969, L969, k969, n969⟩, -, X969, ⟨Lc969, hQ969, l969, y969, z969⟩, st969⟩ := X964.virtualBack hx (y := (⟨"com/example/orbweaver/orbweaver/mapping/JavaSource", "deeper", "(I)Lcom/example/orbweaver/orbweaver/mapping/JavaSource;"⟩ : MethodName)) (z := (⟨"com/example/orbweaver/orbweaver/mapping/JavaSource", "deeper", "(I)Lcom/example/orbweaver/orbweaver/mapping/JavaSource;"⟩ : MethodName)) hown (mvT hZ (tw hw 208 rfl)) (mvT hZ (tw hw 209 rfl)) (notFace_of_selects (args := #[]) (mvT hZ (tw hw 211 rfl))) (mvT hZ (tw hw 211 rfl)) (mvT hZ (tw hw 210 rfl)) (by decide) (backOf (W := 0) (rmdeeper l Z a0 hw [] j1 b1 dv (Int32.ofNat dn - d0v) T964.heap n0 Z964 f966 f967 f968 g_j1) hZ (tw hw 212 rfl) (tw hw 10 rfl) (by decide) (by decide)) q969a q969c (g := (mkF m 122 #[.val (.int p0), .val (.int p1), .val (.int p2), .val (.int p3), .val (.int p4), .val (.int fo), .val (.int fn), .val (.ref y1), .val (.ref j1), .val (.int d0v), .val (.int (Int32.ofNat dn)), .val (.int ((Int32.ofNat dn) - d0v)), .val (.ref x_a), .unset, .unset, .unset, .unset, .unset] [(.int ((Int32.ofNat dn) - d0v)), (.ref j1)])) rfl (by rw [hml]; rfl) (Steps.refl _) (argsL := [(.int ((Int32.ofNat dn) - d0v))]) (rest := []) (lenOf pd__I_Lcom_example_orbweaver_orbweaver_mapping_JavaSource_ rfl) rfl (by show 2 * 0 + _ ≤ _; exact Nat.le_of_eq rfl) (hb hby at_122) (fun _ _ => ⟨rfl, rfl, (by decide : 72 + 0 ≤ _), (by decide : 7132 + 0 ≤ _)⟩)
  dsimp only [Pt.U, Pt.locs, Pt.cells, Pt.slots] at X969 l969 y969 z969 st969 hQ969
  subst l969 y969 z969
  obtain ⟨rfl, N969q, KC969, JE2, JT2, JD2⟩ := hQ969
  have N969 := Fr.app N964 N969q
  have f971 := (BA.ext EX964)
  have cs970 := CHr.keep KC969 (allS (Safe.exa (EL := EL) hZ.alike f966 (by decide) (by decide)) all0) cs965.1
  have cr970 := cr965.trans cs970
  have y970_v1 := cs970.safe f971.lt y965_v1
  have hk970 := Nat.le_trans hk965 cs970.2.1
  have Z969 := Nat.le_trans Z964 KC969.1
  have JDn : Fld Z T969.heap j1 "com/example/orbweaver/orbweaver/mapping/JavaSource" "depth" "I" (.int (Int32.ofNat (dn))) := by have q := JD2; rw [hdv] at q; exact q
  obtain ⟨LL972, XL972, NL972⟩ : ∃ LL, Stand p l e room_1 (s.setVm vm0) m #[(.int p0), (.int p1), (.int p2), (.int p3), (.int p4)] below meth c T969 LL 72 7132 ∧ Fr n0 LL := ⟨_, X969, N969⟩
  have f973 := ((BE.ext EX964).keep KC969)
  have f974 := ((BV.ext EX964).keep KC969 (ninS (Ne.symm ne_j1_b1) nin0))
  have f975 := ((BC.ext EX964).keep KC969 (ninS (Ne.symm ne_j1_b1) nin0))
  have f976 := ((BN.ext EX964).keep KC969 (ninS (Ne.symm ne_j1_b1) nin0))
  have f977 := (f971.keep KC969 (ninS (Ne.symm ne_j1_v1) nin0))
  have f978 := ((BX.ext EX964).keep KC969)
  have f979 := ((OZ.ext EX964).keep KC969 (allS g_j1 all0))
  have f981 := (A_a.keep KC969 (ninS (Ne.symm ne_j1_t_a) nin0))
  have f982 := (E_a.keep KC969)
  obtain ⟨cq980, kq980, q980a, q980b, q980c⟩ := isOf hZ rfl JE2
  obtain ⟨_, _, ⟨T980, L980, k980, n980⟩, -, X980, ⟨Lc980, hQ980, l980, y980, z980⟩, st980⟩ := XL972.virtualBack hx (y := (⟨"com/example/orbweaver/orbweaver/mapping/JavaSource", "toString", "()Ljava/lang/String;"⟩ : MethodName)) (z := (⟨"com/example/orbweaver/orbweaver/mapping/JavaSource", "toString", "()Ljava/lang/String;"⟩ : MethodName)) hown (mvT hZ (tw hw 203 rfl)) (mvT hZ (tw hw 204 rfl)) (notFace_of_selects (args := #[]) (mvT hZ (tw hw 206 rfl))) (mvT hZ (tw hw 206 rfl)) (mvT hZ (tw hw 205 rfl)) (by decide) (backOf (W := 0) (rmJToS l Z a0 hw [] j1 b1 v1 k1 (150) (ct) vs zc T969.heap n0 Z969 JT2 f973 f974 f975 f976 f977 f978 hvl (by decide) g_b1 g_v1 (by omega) (by omega) f979 SC hzc) hZ (tw hw 207 rfl) (tw hw 10 rfl) (by decide) (by decide)) q980a q980c (g := (mkF m 138 #[.val (.int p0), .val (.int p1), .val (.int p2), .val (.int p3), .val (.int p4), .val (.int fo), .val (.int fn), .val (.ref y1), .val (.ref j1), .val (.int d0v), .val (.int (Int32.ofNat dn)), .val (.int ((Int32.ofNat dn) - d0v)), .val (.ref x_a), .val (.ref j1), .unset, .unset, .unset, .unset] [(.ref j1)])) rfl (by rw [hml]; rfl) (Steps.refl _) (argsL := []) (rest := []) (lenOf pd___Ljava_lang_String_ rfl) rfl (by show 2 * 0 + _ ≤ _; exact Nat.le_of_eq rfl) (hb hby at_138) (fun _ _ => ⟨rfl, rfl, (by decide : 72 + 2 ≤ _), (by decide : 7132 + 132 ≤ _)⟩)
  dsimp only [Pt.U, Pt.locs, Pt.cells, Pt.slots] at X980 l980 y980 z980 st980 hQ980
  subst l980 y980 z980
  obtain ⟨x_b, rfl, N980q, EX980, le_b, t_b, k_b, ⟨E_b, V_b, C_b, A_b⟩, lt_b⟩ := hQ980
  have N980 := Fr.app NL972 N980q
  have ne_x_a_x_b : x_a ≠ x_b := Nat.ne_of_lt (Nat.lt_of_lt_of_le f982.lt le_b)
  have cs983 := CHr.ext EX980 cs970.1
  have cr983 := cr970.trans cs983
  have y983_v1 := cs983.safe f977.lt y970_v1
  have hk983 := Nat.le_trans hk970 cs983.2.1
  have Z980 := Nat.le_trans Z969 EX980.1
  have f984 := (f979.ext EX980)
  have f985 := (f982.ext EX980)
  have f986 := ((V_a.keep KC969 (ninS (Ne.symm ne_j1_x_a) nin0)).ext EX980)
  have f987 := ((C_a.keep KC969 (ninS (Ne.symm ne_j1_x_a) nin0)).ext EX980)
  have f988 := (f981.ext EX980)
  obtain ⟨cq989, kq989, q989a, q989b, q989c⟩ := isOf hZ rfl E_b
  obtain ⟨_, _, ⟨T989, L989, k989, n989⟩, -, X989, ⟨Lc989, hQ989, l989, y989, z989⟩, st989⟩ := X980.virtualBack hx (y := (⟨"java/lang/String", "equals", "(Ljava/lang/Object;)Z"⟩ : MethodName)) (z := (⟨"java/lang/String", "equals", "(Ljava/lang/Object;)Z"⟩ : MethodName)) hown (mvT hZ (tw hw 213 rfl)) (mvT hZ (tw hw 214 rfl)) (notFace_of_selects (args := #[]) (mvT hZ (tw hw 216 rfl))) (mvT hZ (tw hw 216 rfl)) (mvT hZ (tw hw 215 rfl)) (by decide) (backOf (W := 0) (rmSEq l Z a0 hw [] x_b x_a t_b t_a k_b k_a ct (vs.take ct) zc T980.heap n0 Z980 (SC.ext f984.2) hzc E_b V_b C_b f985 f986 f987 A_b f988 (by omega) (Ne.symm ne_x_a_x_b)) hZ (tw hw 217 rfl) (tw hw 1 rfl) (by decide) (by decide)) q989a q989c (g := (mkF m 147 #[.val (.int p0), .val (.int p1), .val (.int p2), .val (.int p3), .val (.int p4), .val (.int fo), .val (.int fn), .val (.ref y1), .val (.ref j1), .val (.int d0v), .val (.int (Int32.ofNat dn)), .val (.int ((Int32.ofNat dn) - d0v)), .val (.ref x_a), .val (.ref j1), .val (.ref x_b), .unset, .unset, .unset] [(.ref x_a), (.ref x_b)])) rfl (by rw [hml]; rfl) (Steps.refl _) (argsL := [(.ref x_a)]) (rest := []) (lenOf pd__Ljava_lang_Object__Z rfl) rfl (by show 2 * 0 + _ ≤ _; exact Nat.le_of_eq rfl) (hb hby at_147) (fun _ _ => ⟨rfl, rfl, (by decide : 74 + 0 ≤ _), (by decide : 7264 + 0 ≤ _)⟩)
  dsimp only [Pt.U, Pt.locs, Pt.cells, Pt.slots] at X989 l989 y989 z989 st989 hQ989
  subst l989 y989 z989
  obtain ⟨rfl, N989q, EQ989⟩ := hQ989
  have N989 := Fr.app N980 N989q
  have f991 := (f977.ext EX980)
  have ch990 : CHv Z EL vm0 T989.heap := by rw [EQ989]; exact cs983.1
  have cr990 : CHr Z EL s.vm h0 vm0 T989.heap := by rw [EQ989]; exact cr983
  have y990_v1 : Safe Z EL vm0 T989.heap v1 := by rw [EQ989]; exact y983_v1
  have hk990 : k0 ≤ T989.heap.size := by rw [EQ989]; exact hk983
  have Z989 : n0 ≤ T989.heap.size := by rw [EQ989]; exact Z980
  have f992 := (EQ989 ▸ f984)
  have f994 := (EQ989 ▸ (f973.ext EX980))
  have f995 := (EQ989 ▸ (JE2.ext EX980))
  have f996 := (EQ989 ▸ f988)
  have f997 := (EQ989 ▸ f991)
  have f998 := (EQ989 ▸ f985)
  obtain ⟨_, _, ⟨T993, L993, k993, n993⟩, -, X993, ⟨Lc993, hQ993, l993, y993, z993⟩, st993⟩ := Jvm.LawKit.callS X989 hx (y := (⟨"java/lang/String", "valueOf", "(C)Ljava/lang/String;"⟩ : MethodName)) hown (mvT hZ (tw hw 11 rfl)) (mvT hZ (tw hw 12 rfl)) (mvT hZ (tw hw 1 rfl)) (mvT hZ (tw hw 13 rfl)) (by decide) (backOf (W := 1) (rmVoC l Z a0 hw [] cv zc T989.heap n0 Z989 hcv (SC.ext f992.2) hzc) hZ (tw hw 13 rfl) (tw hw 1 rfl) (by decide) (by decide)) (g := (mkF m 168 #[.val (.int p0), .val (.int p1), .val (.int p2), .val (.int p3), .val (.int p4), .val (.int fo), .val (.int fn), .val (.ref y1), .val (.ref j1), .val (.int d0v), .val (.int (Int32.ofNat dn)), .val (.int ((Int32.ofNat dn) - d0v)), .val (.ref x_a), .val (.ref j1), .val (.ref x_b), .val (.int cv), .unset, .unset] [(.int cv), (.ref j1)])) rfl (by rw [hml]; rfl) (argsL := [(.int cv)]) (rest := [(.ref j1)]) (lenOf pd__C_Ljava_lang_String_ rfl) rfl (by show 2 * 0 + _ ≤ _; exact Nat.le_of_eq rfl) (hb hby at_168) (fun _ _ => ⟨rfl, rfl, (by decide : 74 + 2 ≤ _), (by decide : 7264 + 5 ≤ _)⟩)
  dsimp only [Pt.U, Pt.locs, Pt.cells, Pt.slots] at X993 l993 y993 z993 st993 hQ993
  subst l993 y993 z993
  obtain ⟨x_v, rfl, N993q, EX993, le_v, t_v, k_v, ⟨E_v, V_v, C_v, A_v⟩, lt_v⟩ := hQ993
  have N993 := Fr.app N989 N993q
  have ne_v1_t_v : v1 ≠ t_v := Nat.ne_of_lt (Nat.lt_of_lt_of_le f997.lt lt_v)
  have cs999 := CHr.ext EX993 ch990
  have cr999 := cr990.trans cs999
  have y999_v1 := cs999.safe f997.lt y990_v1
  have hk999 := Nat.le_trans hk990 cs999.2.1
  have Z993 := Nat.le_trans Z989 EX993.1
  obtain ⟨LL1000, XL1000, NL1000⟩ : ∃ LL, Stand p l e room_1 (s.setVm vm0) m #[(.int p0), (.int p1), (.int p2), (.int p3), (.int p4)] below meth c T993 LL 76 7269 ∧ Fr n0 LL := ⟨_, X993, N993⟩
  obtain ⟨hcap1, hcap2, hcap3, hcap4⟩ := own_caps1 (ct := ct) (dn := dn) (nx := 1) (by omega)
  have f1001 := (f995.ext EX993)
  have f1002 := (f996.ext EX993)
  have f1003 := (f998.ext EX993)
  have f1004 := ((EQ989 ▸ (JT2.ext EX980)).ext EX993)
  have f1005 := ((EQ989 ▸ (JDn.ext EX980)).ext EX993)
  have f1006 := (f994.ext EX993)
  have f1007 := ((EQ989 ▸ (f974.ext EX980)).ext EX993)
  have f1008 := ((EQ989 ▸ (f975.ext EX980)).ext EX993)
  have f1009 := ((EQ989 ▸ (f976.ext EX980)).ext EX993)
  have f1010 := (f997.ext EX993)
  have f1011 := ((EQ989 ▸ (f978.ext EX980)).ext EX993)
  have f1012 := (f992.ext EX993)
  have pre1013 : ∀ t, Steps p.tables e below (T993.setTop (mkF m 171 #[.val (.int p0), .val (.int p1), .val (.int p2), .val (.int p3), .val (.int p4), .val (.int fo), .val (.int fn), .val (.ref y1), .val (.ref j1), .val (.int d0v), .val (.int (Int32.ofNat dn)), .val (.int ((Int32.ofNat dn) - d0v)), .val (.ref x_a), .val (.ref j1), .val (.ref x_b), .val (.int cv), .unset, .unset] [(.ref x_v), (.ref j1)])) t → Steps p.tables e below (T0.setTop (mkF m 96 #[.val (.int p0), .val (.int p1), .val (.int p2), .val (.int p3), .val (.int p4), .val (.int fo), .val (.int fn), .val (.ref y1), .val (.ref j1), .val (.int d0v), .unset, .unset, .unset, .unset, .unset, .unset, .unset, .unset] [])) t := by
    intro t kt
    show Steps p.tables e below (T0.setTop (mkF m 96 #[.val (.int p0), .val (.int p1), .val (.int p2), .val (.int p3), .val (.int p4), .val (.int fo), .val (.int fn), .val (.ref y1), .val (.ref j1), .val (.int d0v), .unset, .unset, .unset, .unset, .unset, .unset, .unset, .unset] [])) _
    refine XS.iloadN X0.here hx rfl (hb hby at_96) rfl ?_
    refine X0.ldcInt hx hown (mvT hZ (tw hw 202 rfl)) (g := (mkF m 97 #[.val (.int p0), .val (.int p1), .val (.int p2), .val (.int p3), .val (.int p4), .val (.int fo), .val (.int fn), .val (.ref y1), .val (.ref j1), .val (.int d0v), .unset, .unset, .unset, .unset, .unset, .unset, .unset, .unset] [(.int p1)])) rfl (hb hby at_97) _ ?_
    refine XS.iand X0.here hx rfl (hb hby at_99) rfl ?_
    refine XS.iconst X0.here hx rfl (hb hby at_100) ?_
    show Steps p.tables e below (T0.setTop (mkF m 101 #[.val (.int p0), .val (.int p1), .val (.int p2), .val (.int p3), .val (.int p4), .val (.int fo), .val (.int fn), .val (.ref y1), .val (.ref j1), .val (.int d0v), .unset, .unset, .unset, .unset, .unset, .unset, .unset, .unset] [(.int (5 : Int32)), (.int (p1 &&& (2147483647 : Int32)))])) _
    refine iremM X0 hx rfl (hb hby at_101) rfl (by decide) ?_
    show Steps p.tables e below (T0.setTop (mkF m 102 #[.val (.int p0), .val (.int p1), .val (.int p2), .val (.int p3), .val (.int p4), .val (.int fo), .val (.int fn), .val (.ref y1), .val (.ref j1), .val (.int d0v), .unset, .unset, .unset, .unset, .unset, .unset, .unset, .unset] [(.int ((p1 &&& (2147483647 : Int32)) % (5 : Int32)))])) _
    rw [edn]
    show Steps p.tables e below (T0.setTop (mkF m 102 #[.val (.int p0), .val (.int p1), .val (.int p2), .val (.int p3), .val (.int p4), .val (.int fo), .val (.int fn), .val (.ref y1), .val (.ref j1), .val (.int d0v), .unset, .unset, .unset, .unset, .unset, .unset, .unset, .unset] [(.int (Int32.ofNat dn))])) _
    refine XS.istore X0.here hx rfl (hb hby at_102) rfl (l' := #[.val (.int p0), .val (.int p1), .val (.int p2), .val (.int p3), .val (.int p4), .val (.int fo), .val (.int fn), .val (.ref y1), .val (.ref j1), .val (.int d0v), .val (.int (Int32.ofNat dn)), .unset, .unset, .unset, .unset, .unset, .unset, .unset]) rfl ?_
    refine XS.iload X0.here hx rfl (hb hby at_104) rfl ?_
    refine XS.iload X0.here hx rfl (hb hby at_106) rfl ?_
    refine XS.isub X0.here hx rfl (hb hby at_108) rfl ?_
    refine XS.istore X0.here hx rfl (hb hby at_109) rfl (l' := #[.val (.int p0), .val (.int p1), .val (.int p2), .val (.int p3), .val (.int p4), .val (.int fo), .val (.int fn), .val (.ref y1), .val (.ref j1), .val (.int d0v), .val (.int (Int32.ofNat dn)), .val (.int ((Int32.ofNat dn) - d0v)), .unset, .unset, .unset, .unset, .unset, .unset]) rfl ?_
    refine XS.aload X0.here hx rfl (hb hby at_111) rfl rfl ?_
    refine st964.trans ?_
    show Steps p.tables e below (T964.setTop (mkF m 116 #[.val (.int p0), .val (.int p1), .val (.int p2), .val (.int p3), .val (.int p4), .val (.int fo), .val (.int fn), .val (.ref y1), .val (.ref j1), .val (.int d0v), .val (.int (Int32.ofNat dn)), .val (.int ((Int32.ofNat dn) - d0v)), .unset, .unset, .unset, .unset, .unset, .unset] [(.ref x_a)])) _
    refine XS.astore X964.here hx rfl (hb hby at_116) rfl rfl (l' := #[.val (.int p0), .val (.int p1), .val (.int p2), .val (.int p3), .val (.int p4), .val (.int fo), .val (.int fn), .val (.ref y1), .val (.ref j1), .val (.int d0v), .val (.int (Int32.ofNat dn)), .val (.int ((Int32.ofNat dn) - d0v)), .val (.ref x_a), .unset, .unset, .unset, .unset, .unset]) rfl ?_
    refine XS.aload X964.here hx rfl (hb hby at_118) rfl rfl ?_
    refine XS.iload X964.here hx rfl (hb hby at_120) rfl ?_
    refine st969.trans ?_
    show Steps p.tables e below (T969.setTop (mkF m 125 #[.val (.int p0), .val (.int p1), .val (.int p2), .val (.int p3), .val (.int p4), .val (.int fo), .val (.int fn), .val (.ref y1), .val (.ref j1), .val (.int d0v), .val (.int (Int32.ofNat dn)), .val (.int ((Int32.ofNat dn) - d0v)), .val (.ref x_a), .unset, .unset, .unset, .unset, .unset] [(.ref j1)])) _
    refine XS.astore X969.here hx rfl (hb hby at_125) rfl rfl (l' := #[.val (.int p0), .val (.int p1), .val (.int p2), .val (.int p3), .val (.int p4), .val (.int fo), .val (.int fn), .val (.ref y1), .val (.ref j1), .val (.int d0v), .val (.int (Int32.ofNat dn)), .val (.int ((Int32.ofNat dn) - d0v)), .val (.ref x_a), .val (.ref j1), .unset, .unset, .unset, .unset]) rfl ?_
    refine XS.aload X969.here hx rfl (hb hby at_127) rfl rfl ?_
    refine XS.aload X969.here hx rfl (hb hby at_129) rfl rfl ?_
    refine Jvm.RoadKit.acmp (g := (mkF m 131 #[.val (.int p0), .val (.int p1), .val (.int p2), .val (.int p3), .val (.int p4), .val (.int fo), .val (.int fn), .val (.ref y1), .val (.ref j1), .val (.int d0v), .val (.int (Int32.ofNat dn)), .val (.int ((Int32.ofNat dn) - d0v)), .val (.ref x_a), .val (.ref j1), .unset, .unset, .unset, .unset] [(.ref j1), (.ref j1)])) X969 hx rfl rfl rfl (pc0 := 131) (pc' := 136) (same := true) rfl (hb hby at_131) rfl (decide_eq_true rfl) (by decide) (by decide) ?_
    show Steps p.tables e below (T969.setTop (mkF m 136 #[.val (.int p0), .val (.int p1), .val (.int p2), .val (.int p3), .val (.int p4), .val (.int fo), .val (.int fn), .val (.ref y1), .val (.ref j1), .val (.int d0v), .val (.int (Int32.ofNat dn)), .val (.int ((Int32.ofNat dn) - d0v)), .val (.ref x_a), .val (.ref j1), .unset, .unset, .unset, .unset] [])) _
    refine XS.aload X969.here hx rfl (hb hby at_136) rfl rfl ?_
    refine st980.trans ?_
    show Steps p.tables e below (T980.setTop (mkF m 141 #[.val (.int p0), .val (.int p1), .val (.int p2), .val (.int p3), .val (.int p4), .val (.int fo), .val (.int fn), .val (.ref y1), .val (.ref j1), .val (.int d0v), .val (.int (Int32.ofNat dn)), .val (.int ((Int32.ofNat dn) - d0v)), .val (.ref x_a), .val (.ref j1), .unset, .unset, .unset, .unset] [(.ref x_b)])) _
    refine XS.astore X980.here hx rfl (hb hby at_141) rfl rfl (l' := #[.val (.int p0), .val (.int p1), .val (.int p2), .val (.int p3), .val (.int p4), .val (.int fo), .val (.int fn), .val (.ref y1), .val (.ref j1), .val (.int d0v), .val (.int (Int32.ofNat dn)), .val (.int ((Int32.ofNat dn) - d0v)), .val (.ref x_a), .val (.ref j1), .val (.ref x_b), .unset, .unset, .unset]) rfl ?_
    refine XS.aload X980.here hx rfl (hb hby at_143) rfl rfl ?_
    refine XS.aload X980.here hx rfl (hb hby at_145) rfl rfl ?_
    refine st989.trans ?_
    refine XS.ifYes X989.here hx rfl (pc0 := 150) (pc' := 155) rfl (hb hby at_150) rfl ((if0 _ _).trans (feq (by decide : ¬ ((1 : Int32) = (0 : Int32)))).2) (by decide) (by decide) ?_
    show Steps p.tables e below (T989.setTop (mkF m 155 #[.val (.int p0), .val (.int p1), .val (.int p2), .val (.int p3), .val (.int p4), .val (.int fo), .val (.int fn), .val (.ref y1), .val (.ref j1), .val (.int d0v), .val (.int (Int32.ofNat dn)), .val (.int ((Int32.ofNat dn) - d0v)), .val (.ref x_a), .val (.ref j1), .val (.ref x_b), .unset, .unset, .unset] [])) _
    refine XS.iload X989.here hx rfl (hb hby at_155) rfl ?_
    refine XS.sipush X989.here hx rfl (hb hby at_157) ?_
    refine XS.iand X989.here hx rfl (hb hby at_160) rfl ?_
    refine XS.i2c X989.here hx rfl (hb hby at_161) rfl ?_
    show Steps p.tables e below (T989.setTop (mkF m 162 #[.val (.int p0), .val (.int p1), .val (.int p2), .val (.int p3), .val (.int p4), .val (.int fo), .val (.int fn), .val (.ref y1), .val (.ref j1), .val (.int d0v), .val (.int (Int32.ofNat dn)), .val (.int ((Int32.ofNat dn) - d0v)), .val (.ref x_a), .val (.ref j1), .val (.ref x_b), .unset, .unset, .unset] [(.int ((p4 &&& (255 : Int32)).toUInt32.toUInt16.toUInt32.toInt32))])) _
    rw [ecv]
    show Steps p.tables e below (T989.setTop (mkF m 162 #[.val (.int p0), .val (.int p1), .val (.int p2), .val (.int p3), .val (.int p4), .val (.int fo), .val (.int fn), .val (.ref y1), .val (.ref j1), .val (.int d0v), .val (.int (Int32.ofNat dn)), .val (.int ((Int32.ofNat dn) - d0v)), .val (.ref x_a), .val (.ref j1), .val (.ref x_b), .unset, .unset, .unset] [(.int cv)])) _
    refine XS.istore X989.here hx rfl (hb hby at_162) rfl (l' := #[.val (.int p0), .val (.int p1), .val (.int p2), .val (.int p3), .val (.int p4), .val (.int fo), .val (.int fn), .val (.ref y1), .val (.ref j1), .val (.int d0v), .val (.int (Int32.ofNat dn)), .val (.int ((Int32.ofNat dn) - d0v)), .val (.ref x_a), .val (.ref j1), .val (.ref x_b), .val (.int cv), .unset, .unset]) rfl ?_
    refine XS.aload X989.here hx rfl (hb hby at_164) rfl rfl ?_
    refine XS.iload X989.here hx rfl (hb hby at_166) rfl ?_
    refine st993 _ ?_
    exact kt
  obtain ⟨cq1014, kq1014, q1014a, q1014b, q1014c⟩ := isOf hZ rfl f1001
  obtain ⟨_, _, ⟨T1014, L1014, k1014, n1014⟩, -, X1014, hs1014, hg1014, ⟨Lc1014, hQ1014, l1014, y1014, z1014, crs1014⟩, st1014⟩ := XL1000.virtualBackS hx (y := (⟨"com/example/orbweaver/orbweaver/mapping/JavaSource", "line", "(Ljava/lang/String;)Lcom/example/orbweaver/orbweaver/mapping/JavaSource;"⟩ : MethodName)) (z := (⟨"com/example/orbweaver/orbweaver/mapping/JavaSource", "line", "(Ljava/lang/String;)Lcom/example/orbweaver/orbweaver/mapping/JavaSource;"⟩ : MethodName)) hown (mvT hZ (tw hw 221 rfl)) (mvT hZ (tw hw 168 rfl)) (notFace_of_selects (args := #[]) (mvT hZ (tw hw 170 rfl))) (mvT hZ (tw hw 170 rfl)) (mvT hZ (tw hw 169 rfl)) (by decide) (own_backS1 (s := s) (W := 0) (rmLine l Z a0 hw [] j1 b1 v1 k1 (150) (ct) vs x_v t_v k_v (1) [(.int (nar .byte (cv.toInt8.toInt32)))] (dn) zc T993.heap n0 Z993 hEL f1001 f1004 f1005 f1006 f1007 f1008 f1009 f1010 f1011 hvl (by decide) g_b1 g_v1 E_v V_v C_v A_v rfl (by decide) (Ne.symm ne_v1_t_v) (by omega) (by omega) hcap1 hcap2 hcap3 (by omega) f1012 SC hzc) hZ (tw hw 171 rfl) (tw hw 10 rfl) (by decide) (by decide) hEL cs999.1 f1010.lt y999_v1) q1014a q1014c (g := (mkF m 171 #[.val (.int p0), .val (.int p1), .val (.int p2), .val (.int p3), .val (.int p4), .val (.int fo), .val (.int fn), .val (.ref y1), .val (.ref j1), .val (.int d0v), .val (.int (Int32.ofNat dn)), .val (.int ((Int32.ofNat dn) - d0v)), .val (.ref x_a), .val (.ref j1), .val (.ref x_b), .val (.int cv), .unset, .unset] [(.ref x_v), (.ref j1)])) rfl (by rw [hml]; rfl) (Steps.refl _) (argsL := [(.ref x_v)]) (rest := []) (lenOf pd__Ljava_lang_String__Lcom_example_orbweaver_orbweaver_mapping_JavaSource_ rfl) rfl (by show 2 * 0 + _ ≤ _; exact Nat.le_of_eq rfl) (hb hby at_171) (fun _ _ => ⟨rfl, rfl, (by decide : 76 + 7 ≤ _), (by decide : 7269 + 520 ≤ _)⟩)
  dsimp only [Pt.U, Pt.locs, Pt.cells, Pt.slots] at X1014 l1014 y1014 z1014 st1014 hQ1014 hs1014 hg1014 crs1014
  subst l1014 y1014 z1014
  obtain ⟨X1014, hSi1014, hZ, hown⟩ := rebS hSi (hk999) X1014 hs1014 hg1014 hZ hown
  obtain ⟨rfl, N1014q, KC1014, v_c, k_c, ws_c, ⟨E_c, V_c, C_c, N_c, A_c, X_c⟩, l_c, tk_c, g_v_c, hv_c, y_c⟩ := hQ1014
  have N1014 := Fr.app NL1000 N1014q
  have cs1015 := crs1014
  have cr1015 := cr999.trans cs1015
  have Z1014 := Nat.le_trans Z993 KC1014.1
  have hcp_c : own_gr (own_gr (own_gr (150) (ct + 4 * (dn))) (ct + 4 * (dn) + (1))) (ct + 4 * (dn) + (1) + 1) ≤ 1000 := own_grM (own_grM (own_grM (by decide) (by decide) hcap1) (by decide) hcap2) (by decide) hcap3
  obtain ⟨LL1016, XL1016, NL1016⟩ : ∃ LL, Stand p l e room_1 (s.setVm T1014.vm) m #[(.int p0), (.int p1), (.int p2), (.int p3), (.int p4)] below meth c T1014 LL 83 7789 ∧ Fr n0 LL := ⟨_, X1014, N1014⟩
  have f1017 := (f1004.keep KC1014 (ninS ne_j1_b1 (ninS ne_j1_v1 nin0)))
  have f1018 := (f1012.keep KC1014 (allS g_b1 (allS g_v1 all0)))
  have f1020 := (f1001.keep KC1014)
  have f1021 := (f1002.keep KC1014 (ninS (Ne.symm ne_b1_t_a) (ninS (Ne.symm ne_v1_t_a) nin0)))
  have f1022 := (f1003.keep KC1014)
  obtain ⟨cq1019, kq1019, q1019a, q1019b, q1019c⟩ := isOf hZ rfl f1020
  obtain ⟨_, _, ⟨T1019, L1019, k1019, n1019⟩, -, X1019, ⟨Lc1019, hQ1019, l1019, y1019, z1019⟩, st1019⟩ := XL1016.virtualBack hx (y := (⟨"com/example/orbweaver/orbweaver/mapping/JavaSource", "toString", "()Ljava/lang/String;"⟩ : MethodName)) (z := (⟨"com/example/orbweaver/orbweaver/mapping/JavaSource", "toString", "()Ljava/lang/String;"⟩ : MethodName)) hown (mvT hZ (tw hw 203 rfl)) (mvT hZ (tw hw 204 rfl)) (notFace_of_selects (args := #[]) (mvT hZ (tw hw 206 rfl))) (mvT hZ (tw hw 206 rfl)) (mvT hZ (tw hw 205 rfl)) (by decide) (backOf (W := 0) (rmJToS l Z a0 hw [] j1 b1 v_c k_c (own_gr (own_gr (own_gr (150) (ct + 4 * (dn))) (ct + 4 * (dn) + (1))) (ct + 4 * (dn) + (1) + 1)) (ct + 4 * (dn) + (1) + 1) ws_c zc T1014.heap n0 Z1014 f1017 E_c V_c C_c N_c A_c X_c l_c hcp_c g_b1 g_v_c own_grle.1 ⟨by omega, by rw [hcap4]; omega⟩ f1018 SC hzc) hZ (tw hw 207 rfl) (tw hw 10 rfl) (by decide) (by decide)) q1019a q1019c (g := (mkF m 177 #[.val (.int p0), .val (.int p1), .val (.int p2), .val (.int p3), .val (.int p4), .val (.int fo), .val (.int fn), .val (.ref y1), .val (.ref j1), .val (.int d0v), .val (.int (Int32.ofNat dn)), .val (.int ((Int32.ofNat dn) - d0v)), .val (.ref x_a), .val (.ref j1), .val (.ref x_b), .val (.int cv), .unset, .unset] [(.ref j1)])) rfl (by rw [hml]; rfl) (Steps.refl _) (argsL := []) (rest := []) (lenOf pd___Ljava_lang_String_ rfl) rfl (by show 2 * 0 + _ ≤ _; exact Nat.le_of_eq rfl) (hb hby at_177) (fun _ _ => ⟨rfl, rfl, (by decide : 83 + 2 ≤ _), (by decide : 7789 + 132 ≤ _)⟩)
  dsimp only [Pt.U, Pt.locs, Pt.cells, Pt.slots] at X1019 l1019 y1019 z1019 st1019 hQ1019
  subst l1019 y1019 z1019
  obtain ⟨x_d, rfl, N1019q, EX1019, le_d, t_d, k_d, ⟨E_d, V_d, C_d, A_d⟩, lt_d⟩ := hQ1019
  have N1019 := Fr.app NL1016 N1019q
  have cs1023 := CHr.ext EX1019 cs1015.1
  have cr1023 := cr1015.trans cs1023
  have hk1023 := Nat.le_trans (Nat.le_refl _) cs1023.2.1
  have Z1019 := Nat.le_trans Z1014 EX1019.1
  obtain ⟨LL1024, XL1024, NL1024⟩ : ∃ LL, Stand p l e room_1 (s.setVm T1014.vm) m #[(.int p0), (.int p1), (.int p2), (.int p3), (.int p4)] below meth c T1019 LL 85 7921 ∧ Fr n0 LL := ⟨_, X1019, N1019⟩
  have f1025 := (f1018.ext EX1019)
  have f1026 := ((((EQ989 ▸ f987).ext EX993).keep KC1014 (ninS (Ne.symm ne_b1_x_a) (ninS (Ne.symm ne_v1_x_a) nin0))).ext EX1019)
  have f1027 := ((((EQ989 ▸ f986).ext EX993).keep KC1014 (ninS (Ne.symm ne_b1_x_a) (ninS (Ne.symm ne_v1_x_a) nin0))).ext EX1019)
  have f1028 := (f1022.ext EX1019)
  have f1029 := (f1021.ext EX1019)
  obtain ⟨cq1030, kq1030, q1030a, q1030b, q1030c⟩ := isOf hZ rfl f1028
  obtain ⟨_, _, ⟨T1030, L1030, k1030, n1030⟩, -, X1030, ⟨Lc1030, hQ1030, l1030, y1030, z1030⟩, st1030⟩ := XL1024.virtualBack hx (y := (⟨"java/lang/String", "length", "()I"⟩ : MethodName)) (z := (⟨"java/lang/String", "length", "()I"⟩ : MethodName)) hown (mvT hZ (tw hw 226 rfl)) (mvT hZ (tw hw 68 rfl)) (notFace_of_selects (args := #[]) (mvT hZ (tw hw 70 rfl))) (mvT hZ (tw hw 70 rfl)) (mvT hZ (tw hw 69 rfl)) (by decide) (backOf (W := 0) (rmLen l Z a0 hw [] x_a t_a k_a (Int32.ofNat (ct)) (vs.take ct) zc T1019.heap n0 Z1019 (SC.ext f1025.2) hzc f1026 f1027 f1028 f1029) hZ (tw hw 71 rfl) (tw hw 1 rfl) (by decide) (by decide)) q1030a q1030c (g := (mkF m 184 #[.val (.int p0), .val (.int p1), .val (.int p2), .val (.int p3), .val (.int p4), .val (.int fo), .val (.int fn), .val (.ref y1), .val (.ref j1), .val (.int d0v), .val (.int (Int32.ofNat dn)), .val (.int ((Int32.ofNat dn) - d0v)), .val (.ref x_a), .val (.ref j1), .val (.ref x_b), .val (.int cv), .val (.ref x_d), .unset] [(.ref x_a)])) rfl (by rw [hml]; rfl) (Steps.refl _) (argsL := []) (rest := []) (lenOf pd___I rfl) rfl (by show 2 * 0 + _ ≤ _; exact Nat.le_of_eq rfl) (hb hby at_184) (fun _ _ => ⟨rfl, rfl, (by decide : 85 + 0 ≤ _), (by decide : 7921 + 0 ≤ _)⟩)
  dsimp only [Pt.U, Pt.locs, Pt.cells, Pt.slots] at X1030 l1030 y1030 z1030 st1030 hQ1030
  subst l1030 y1030 z1030
  obtain ⟨rfl, N1030q, EQ1030⟩ := hQ1030
  have N1030 := Fr.app NL1024 N1030q
  have ch1031 : CHv Z EL T1014.vm T1030.heap := by rw [EQ1030]; exact cs1023.1
  have cr1031 : CHr Z EL s.vm h0 T1014.vm T1030.heap := by rw [EQ1030]; exact cr1023
  have hk1031 : T1014.heap.size ≤ T1030.heap.size := by rw [EQ1030]; exact hk1023
  have Z1030 : n0 ≤ T1030.heap.size := by rw [EQ1030]; exact Z1019
  have f1032 := (EQ1030 ▸ f1025)
  have f1033 := (EQ1030 ▸ C_d)
  have f1034 := (EQ1030 ▸ V_d)
  have f1035 := (EQ1030 ▸ E_d)
  have f1036 := (EQ1030 ▸ A_d)
  obtain ⟨cq1037, kq1037, q1037a, q1037b, q1037c⟩ := isOf hZ rfl f1035
  obtain ⟨_, _, ⟨T1037, L1037, k1037, n1037⟩, -, X1037, ⟨Lc1037, hQ1037, l1037, y1037, z1037⟩, st1037⟩ := X1030.virtualBack hx (y := (⟨"java/lang/String", "length", "()I"⟩ : MethodName)) (z := (⟨"java/lang/String", "length", "()I"⟩ : MethodName)) hown (mvT hZ (tw hw 226 rfl)) (mvT hZ (tw hw 68 rfl)) (notFace_of_selects (args := #[]) (mvT hZ (tw hw 70 rfl))) (mvT hZ (tw hw 70 rfl)) (mvT hZ (tw hw 69 rfl)) (by decide) (backOf (W := 0) (rmLen l Z a0 hw [] x_d t_d k_d (Int32.ofNat (ct + 4 * (dn) + (1) + 1)) (ws_c.take (ct + 4 * (dn) + (1) + 1)) zc T1030.heap n0 Z1030 (SC.ext f1032.2) hzc f1033 f1034 f1035 f1036) hZ (tw hw 71 rfl) (tw hw 1 rfl) (by decide) (by decide)) q1037a q1037c (g := (mkF m 191 #[.val (.int p0), .val (.int p1), .val (.int p2), .val (.int p3), .val (.int p4), .val (.int fo), .val (.int fn), .val (.ref y1), .val (.ref j1), .val (.int d0v), .val (.int (Int32.ofNat dn)), .val (.int ((Int32.ofNat dn) - d0v)), .val (.ref x_a), .val (.ref j1), .val (.ref x_b), .val (.int cv), .val (.ref x_d), .val (.int (Int32.ofNat (ct)))] [(.ref x_d)])) rfl (by rw [hml]; rfl) (Steps.refl _) (argsL := []) (rest := []) (lenOf pd___I rfl) rfl (by show 2 * 0 + _ ≤ _; exact Nat.le_of_eq rfl) (hb hby at_191) (fun _ _ => ⟨rfl, rfl, (by decide : 85 + 0 ≤ _), (by decide : 7921 + 0 ≤ _)⟩)
  dsimp only [Pt.U, Pt.locs, Pt.cells, Pt.slots] at X1037 l1037 y1037 z1037 st1037 hQ1037
  subst l1037 y1037 z1037
  obtain ⟨rfl, N1037q, EQ1037⟩ := hQ1037
  have N1037 := Fr.app N1030 N1037q
  have ch1038 : CHv Z EL T1014.vm T1037.heap := by rw [EQ1037]; exact ch1031
  have cr1038 : CHr Z EL s.vm h0 T1014.vm T1037.heap := by rw [EQ1037]; exact cr1031
  have hk1038 : T1014.heap.size ≤ T1037.heap.size := by rw [EQ1037]; exact hk1031
  have Z1037 : n0 ≤ T1037.heap.size := by rw [EQ1037]; exact Z1030
  have hA : (vs.take ct).length = ct := by rw [List.length_take, hvl]; omega
  have hsp : ∀ j, j < 4 * dn → (ws_c.take (ct + 4 * (dn) + (1) + 1)).getD (ct + j) (.int (0 : Int32)) = .int (32 : Int32) := fun j hj => by rw [tk_c]; exact (own_getB (i := j) hA).2.2 hj
  have hcb : (ws_c.take (ct + 4 * (dn) + (1) + 1)).getD (ct + 4 * dn) (.int (0 : Int32)) = .int (nar .byte (cv.toInt8.toInt32)) := by rw [tk_c]; exact (own_getB (i := 0) hA).1
  have hnl : (ws_c.take (ct + 4 * (dn) + (1) + 1)).getD (ct + 4 * dn + 1) (.int (0 : Int32)) = .int (nar .byte ((10 : Int32).toInt8.toInt32)) := by rw [tk_c]; exact (own_getB (i := 0) hA).2.1
  have f1039 := (EQ1037 ▸ f1032)
  have f1040 := (EQ1037 ▸ f1033)
  have f1041 := (EQ1037 ▸ f1034)
  have f1042 := (EQ1037 ▸ f1035)
  have f1043 := (EQ1037 ▸ f1036)
  obtain ⟨_, _, ⟨T1044, L1044, k1044, n1044⟩, -, X1044, ⟨Lc1044, hQ1044, l1044, y1044, z1044⟩, st1044⟩ := Jvm.LawKit.callS X1037 hx (y := (⟨"com/example/orbweaver/orbweaver/mapping/JavaSourceDeeperPinLaw", "at", "(Ljava/lang/String;IIIC)Z"⟩ : MethodName)) hown (mvT hZ (tw hw 227 rfl)) (mvT hZ (tw hw 228 rfl)) (mvT hZ (tw hw 229 rfl)) (mvT hZ (tw hw 230 rfl)) (by decide) (backOf (W := 0) (rmAt l Z a0 hw [] x_d t_d k_d (ws_c.take (ct + 4 * (dn) + (1) + 1)) ct 0 dn cv (nar .byte (cv.toInt8.toInt32)) zc fm T1037.heap n0 Z1037 (SC.ext f1039.2) hzc (SFm.ext f1039.2) rf f1040 f1041 f1042 f1043 hsp hcb hnl hchr (by omega) hdn4 (by decide)) hZ (tw hw 230 rfl) (tw hw 229 rfl) (by decide) (by decide)) (g := (mkF m 217 #[.val (.int p0), .val (.int p1), .val (.int p2), .val (.int p3), .val (.int p4), .val (.int fo), .val (.int fn), .val (.ref y1), .val (.ref j1), .val (.int d0v), .val (.int (Int32.ofNat dn)), .val (.int ((Int32.ofNat dn) - d0v)), .val (.ref x_a), .val (.ref j1), .val (.ref x_b), .val (.int cv), .val (.ref x_d), .val (.int (Int32.ofNat (ct)))] [(.int cv), (.int (Int32.ofNat dn)), (.int (0 : Int32)), (.int (Int32.ofNat (ct))), (.ref x_d)])) rfl (by rw [hml]; rfl) (argsL := [(.ref x_d), (.int (Int32.ofNat (ct))), (.int (0 : Int32)), (.int (Int32.ofNat dn)), (.int cv)]) (rest := []) (lenOf pd__Ljava_lang_String_IIIC_Z rfl) rfl (by show 2 * 0 + _ ≤ _; exact Nat.le_of_eq rfl) (hb hby at_217) (fun _ _ => ⟨rfl, rfl, (by decide : 85 + 0 ≤ _), (by decide : 7921 + 0 ≤ _)⟩)
  dsimp only [Pt.U, Pt.locs, Pt.cells, Pt.slots] at X1044 l1044 y1044 z1044 st1044 hQ1044
  subst l1044 y1044 z1044
  obtain ⟨rfl, N1044q, EQ1044⟩ := hQ1044
  have N1044 := Fr.app N1037 N1044q
  have ch1045 : CHv Z EL T1014.vm T1044.heap := by rw [EQ1044]; exact ch1038
  have cr1045 : CHr Z EL s.vm h0 T1014.vm T1044.heap := by rw [EQ1044]; exact cr1038
  have hk1045 : T1014.heap.size ≤ T1044.heap.size := by rw [EQ1044]; exact hk1038
  have Z1044 : n0 ≤ T1044.heap.size := by rw [EQ1044]; exact Z1037
  have f1046 := (EQ1044 ▸ f1039)
  have f1047 := (EQ1044 ▸ f1040)
  have f1048 := (EQ1044 ▸ f1041)
  have f1049 := (EQ1044 ▸ f1042)
  have f1050 := (EQ1044 ▸ f1043)
  obtain ⟨_, _, ⟨T1051, L1051, k1051, n1051⟩, -, X1051, ⟨Lc1051, hQ1051, l1051, y1051, z1051⟩, st1051⟩ := Jvm.LawKit.callS X1044 hx (y := (⟨"com/example/orbweaver/orbweaver/mapping/JavaSourceDeeperPinLaw", "at", "(Ljava/lang/String;IIIC)Z"⟩ : MethodName)) hown (mvT hZ (tw hw 227 rfl)) (mvT hZ (tw hw 228 rfl)) (mvT hZ (tw hw 229 rfl)) (mvT hZ (tw hw 230 rfl)) (by decide) (backOf (W := 0) (rmAt l Z a0 hw [] x_d t_d k_d (ws_c.take (ct + 4 * (dn) + (1) + 1)) ct 1 dn cv (nar .byte (cv.toInt8.toInt32)) zc fm T1044.heap n0 Z1044 (SC.ext f1046.2) hzc (SFm.ext f1046.2) rf f1047 f1048 f1049 f1050 hsp hcb hnl hchr (by omega) hdn4 (by decide)) hZ (tw hw 230 rfl) (tw hw 229 rfl) (by decide) (by decide)) (g := (mkF m 232 #[.val (.int p0), .val (.int p1), .val (.int p2), .val (.int p3), .val (.int p4), .val (.int fo), .val (.int fn), .val (.ref y1), .val (.ref j1), .val (.int d0v), .val (.int (Int32.ofNat dn)), .val (.int ((Int32.ofNat dn) - d0v)), .val (.ref x_a), .val (.ref j1), .val (.ref x_b), .val (.int cv), .val (.ref x_d), .val (.int (Int32.ofNat (ct)))] [(.int cv), (.int (Int32.ofNat dn)), (.int (1 : Int32)), (.int (Int32.ofNat (ct))), (.ref x_d)])) rfl (by rw [hml]; rfl) (argsL := [(.ref x_d), (.int (Int32.ofNat (ct))), (.int (1 : Int32)), (.int (Int32.ofNat dn)), (.int cv)]) (rest := []) (lenOf pd__Ljava_lang_String_IIIC_Z rfl) rfl (by show 2 * 0 + _ ≤ _; exact Nat.le_of_eq rfl) (hb hby at_232) (fun _ _ => ⟨rfl, rfl, (by decide : 85 + 0 ≤ _), (by decide : 7921 + 0 ≤ _)⟩)
  dsimp only [Pt.U, Pt.locs, Pt.cells, Pt.slots] at X1051 l1051 y1051 z1051 st1051 hQ1051
  subst l1051 y1051 z1051
  obtain ⟨rfl, N1051q, EQ1051⟩ := hQ1051
  have N1051 := Fr.app N1044 N1051q
  have ch1052 : CHv Z EL T1014.vm T1051.heap := by rw [EQ1051]; exact ch1045
  have cr1052 : CHr Z EL s.vm h0 T1014.vm T1051.heap := by rw [EQ1051]; exact cr1045
  have hk1052 : T1014.heap.size ≤ T1051.heap.size := by rw [EQ1051]; exact hk1045
  have Z1051 : n0 ≤ T1051.heap.size := by rw [EQ1051]; exact Z1044
  have f1053 := (EQ1051 ▸ f1046)
  have f1054 := (EQ1051 ▸ f1047)
  have f1055 := (EQ1051 ▸ f1048)
  have f1056 := (EQ1051 ▸ f1049)
  have f1057 := (EQ1051 ▸ f1050)
  obtain ⟨_, _, ⟨T1058, L1058, k1058, n1058⟩, -, X1058, ⟨Lc1058, hQ1058, l1058, y1058, z1058⟩, st1058⟩ := Jvm.LawKit.callS X1051 hx (y := (⟨"com/example/orbweaver/orbweaver/mapping/JavaSourceDeeperPinLaw", "at", "(Ljava/lang/String;IIIC)Z"⟩ : MethodName)) hown (mvT hZ (tw hw 227 rfl)) (mvT hZ (tw hw 228 rfl)) (mvT hZ (tw hw 229 rfl)) (mvT hZ (tw hw 230 rfl)) (by decide) (backOf (W := 0) (rmAt l Z a0 hw [] x_d t_d k_d (ws_c.take (ct + 4 * (dn) + (1) + 1)) ct 2 dn cv (nar .byte (cv.toInt8.toInt32)) zc fm T1051.heap n0 Z1051 (SC.ext f1053.2) hzc (SFm.ext f1053.2) rf f1054 f1055 f1056 f1057 hsp hcb hnl hchr (by omega) hdn4 (by decide)) hZ (tw hw 230 rfl) (tw hw 229 rfl) (by decide) (by decide)) (g := (mkF m 247 #[.val (.int p0), .val (.int p1), .val (.int p2), .val (.int p3), .val (.int p4), .val (.int fo), .val (.int fn), .val (.ref y1), .val (.ref j1), .val (.int d0v), .val (.int (Int32.ofNat dn)), .val (.int ((Int32.ofNat dn) - d0v)), .val (.ref x_a), .val (.ref j1), .val (.ref x_b), .val (.int cv), .val (.ref x_d), .val (.int (Int32.ofNat (ct)))] [(.int cv), (.int (Int32.ofNat dn)), (.int (2 : Int32)), (.int (Int32.ofNat (ct))), (.ref x_d)])) rfl (by rw [hml]; rfl) (argsL := [(.ref x_d), (.int (Int32.ofNat (ct))), (.int (2 : Int32)), (.int (Int32.ofNat dn)), (.int cv)]) (rest := []) (lenOf pd__Ljava_lang_String_IIIC_Z rfl) rfl (by show 2 * 0 + _ ≤ _; exact Nat.le_of_eq rfl) (hb hby at_247) (fun _ _ => ⟨rfl, rfl, (by decide : 85 + 0 ≤ _), (by decide : 7921 + 0 ≤ _)⟩)
  dsimp only [Pt.U, Pt.locs, Pt.cells, Pt.slots] at X1058 l1058 y1058 z1058 st1058 hQ1058
  subst l1058 y1058 z1058
  obtain ⟨rfl, N1058q, EQ1058⟩ := hQ1058
  have N1058 := Fr.app N1051 N1058q
  have ch1059 : CHv Z EL T1014.vm T1058.heap := by rw [EQ1058]; exact ch1052
  have cr1059 : CHr Z EL s.vm h0 T1014.vm T1058.heap := by rw [EQ1058]; exact cr1052
  have hk1059 : T1014.heap.size ≤ T1058.heap.size := by rw [EQ1058]; exact hk1052
  have Z1058 : n0 ≤ T1058.heap.size := by rw [EQ1058]; exact Z1051
  have f1060 := (EQ1058 ▸ f1053)
  have f1061 := (EQ1058 ▸ f1054)
  have f1062 := (EQ1058 ▸ f1055)
  have f1063 := (EQ1058 ▸ f1056)
  have f1064 := (EQ1058 ▸ f1057)
  obtain ⟨_, _, ⟨T1065, L1065, k1065, n1065⟩, -, X1065, ⟨Lc1065, hQ1065, l1065, y1065, z1065⟩, st1065⟩ := Jvm.LawKit.callS X1058 hx (y := (⟨"com/example/orbweaver/orbweaver/mapping/JavaSourceDeeperPinLaw", "at", "(Ljava/lang/String;IIIC)Z"⟩ : MethodName)) hown (mvT hZ (tw hw 227 rfl)) (mvT hZ (tw hw 228 rfl)) (mvT hZ (tw hw 229 rfl)) (mvT hZ (tw hw 230 rfl)) (by decide) (backOf (W := 0) (rmAt l Z a0 hw [] x_d t_d k_d (ws_c.take (ct + 4 * (dn) + (1) + 1)) ct 3 dn cv (nar .byte (cv.toInt8.toInt32)) zc fm T1058.heap n0 Z1058 (SC.ext f1060.2) hzc (SFm.ext f1060.2) rf f1061 f1062 f1063 f1064 hsp hcb hnl hchr (by omega) hdn4 (by decide)) hZ (tw hw 230 rfl) (tw hw 229 rfl) (by decide) (by decide)) (g := (mkF m 262 #[.val (.int p0), .val (.int p1), .val (.int p2), .val (.int p3), .val (.int p4), .val (.int fo), .val (.int fn), .val (.ref y1), .val (.ref j1), .val (.int d0v), .val (.int (Int32.ofNat dn)), .val (.int ((Int32.ofNat dn) - d0v)), .val (.ref x_a), .val (.ref j1), .val (.ref x_b), .val (.int cv), .val (.ref x_d), .val (.int (Int32.ofNat (ct)))] [(.int cv), (.int (Int32.ofNat dn)), (.int (3 : Int32)), (.int (Int32.ofNat (ct))), (.ref x_d)])) rfl (by rw [hml]; rfl) (argsL := [(.ref x_d), (.int (Int32.ofNat (ct))), (.int (3 : Int32)), (.int (Int32.ofNat dn)), (.int cv)]) (rest := []) (lenOf pd__Ljava_lang_String_IIIC_Z rfl) rfl (by show 2 * 0 + _ ≤ _; exact Nat.le_of_eq rfl) (hb hby at_262) (fun _ _ => ⟨rfl, rfl, (by decide : 85 + 0 ≤ _), (by decide : 7921 + 0 ≤ _)⟩)
  dsimp only [Pt.U, Pt.locs, Pt.cells, Pt.slots] at X1065 l1065 y1065 z1065 st1065 hQ1065
  subst l1065 y1065 z1065
  obtain ⟨rfl, N1065q, EQ1065⟩ := hQ1065
  have N1065 := Fr.app N1058 N1065q
  have ch1066 : CHv Z EL T1014.vm T1065.heap := by rw [EQ1065]; exact ch1059
  have cr1066 : CHr Z EL s.vm h0 T1014.vm T1065.heap := by rw [EQ1065]; exact cr1059
  have hk1066 : T1014.heap.size ≤ T1065.heap.size := by rw [EQ1065]; exact hk1059
  have Z1065 : n0 ≤ T1065.heap.size := by rw [EQ1065]; exact Z1058
  have f1067 := (EQ1065 ▸ f1060)
  have f1068 := (EQ1065 ▸ f1061)
  have f1069 := (EQ1065 ▸ f1062)
  have f1070 := (EQ1065 ▸ f1063)
  have f1071 := (EQ1065 ▸ f1064)
  obtain ⟨_, _, ⟨T1072, L1072, k1072, n1072⟩, -, X1072, ⟨Lc1072, hQ1072, l1072, y1072, z1072⟩, st1072⟩ := Jvm.LawKit.callS X1065 hx (y := (⟨"com/example/orbweaver/orbweaver/mapping/JavaSourceDeeperPinLaw", "at", "(Ljava/lang/String;IIIC)Z"⟩ : MethodName)) hown (mvT hZ (tw hw 227 rfl)) (mvT hZ (tw hw 228 rfl)) (mvT hZ (tw hw 229 rfl)) (mvT hZ (tw hw 230 rfl)) (by decide) (backOf (W := 0) (rmAt l Z a0 hw [] x_d t_d k_d (ws_c.take (ct + 4 * (dn) + (1) + 1)) ct 4 dn cv (nar .byte (cv.toInt8.toInt32)) zc fm T1065.heap n0 Z1065 (SC.ext f1067.2) hzc (SFm.ext f1067.2) rf f1068 f1069 f1070 f1071 hsp hcb hnl hchr (by omega) hdn4 (by decide)) hZ (tw hw 230 rfl) (tw hw 229 rfl) (by decide) (by decide)) (g := (mkF m 277 #[.val (.int p0), .val (.int p1), .val (.int p2), .val (.int p3), .val (.int p4), .val (.int fo), .val (.int fn), .val (.ref y1), .val (.ref j1), .val (.int d0v), .val (.int (Int32.ofNat dn)), .val (.int ((Int32.ofNat dn) - d0v)), .val (.ref x_a), .val (.ref j1), .val (.ref x_b), .val (.int cv), .val (.ref x_d), .val (.int (Int32.ofNat (ct)))] [(.int cv), (.int (Int32.ofNat dn)), (.int (4 : Int32)), (.int (Int32.ofNat (ct))), (.ref x_d)])) rfl (by rw [hml]; rfl) (argsL := [(.ref x_d), (.int (Int32.ofNat (ct))), (.int (4 : Int32)), (.int (Int32.ofNat dn)), (.int cv)]) (rest := []) (lenOf pd__Ljava_lang_String_IIIC_Z rfl) rfl (by show 2 * 0 + _ ≤ _; exact Nat.le_of_eq rfl) (hb hby at_277) (fun _ _ => ⟨rfl, rfl, (by decide : 85 + 0 ≤ _), (by decide : 7921 + 0 ≤ _)⟩)
  dsimp only [Pt.U, Pt.locs, Pt.cells, Pt.slots] at X1072 l1072 y1072 z1072 st1072 hQ1072
  subst l1072 y1072 z1072
  obtain ⟨rfl, N1072q, EQ1072⟩ := hQ1072
  have N1072 := Fr.app N1065 N1072q
  have ch1073 : CHv Z EL T1014.vm T1072.heap := by rw [EQ1072]; exact ch1066
  have cr1073 : CHr Z EL s.vm h0 T1014.vm T1072.heap := by rw [EQ1072]; exact cr1066
  have hk1073 : T1014.heap.size ≤ T1072.heap.size := by rw [EQ1072]; exact hk1066
  have Z1072 : n0 ≤ T1072.heap.size := by rw [EQ1072]; exact Z1065
  have f1074 := (EQ1072 ▸ f1067)
  have f1075 := (EQ1072 ▸ f1068)
  have f1076 := (EQ1072 ▸ f1069)
  have f1077 := (EQ1072 ▸ f1070)
  have f1078 := (EQ1072 ▸ f1071)
  obtain ⟨_, _, ⟨T1079, L1079, k1079, n1079⟩, -, X1079, ⟨Lc1079, hQ1079, l1079, y1079, z1079⟩, st1079⟩ := Jvm.LawKit.callS X1072 hx (y := (⟨"com/example/orbweaver/orbweaver/mapping/JavaSourceDeeperPinLaw", "at", "(Ljava/lang/String;IIIC)Z"⟩ : MethodName)) hown (mvT hZ (tw hw 227 rfl)) (mvT hZ (tw hw 228 rfl)) (mvT hZ (tw hw 229 rfl)) (mvT hZ (tw hw 230 rfl)) (by decide) (backOf (W := 0) (rmAt l Z a0 hw [] x_d t_d k_d (ws_c.take (ct + 4 * (dn) + (1) + 1)) ct 5 dn cv (nar .byte (cv.toInt8.toInt32)) zc fm T1072.heap n0 Z1072 (SC.ext f1074.2) hzc (SFm.ext f1074.2) rf f1075 f1076 f1077 f1078 hsp hcb hnl hchr (by omega) hdn4 (by decide)) hZ (tw hw 230 rfl) (tw hw 229 rfl) (by decide) (by decide)) (g := (mkF m 292 #[.val (.int p0), .val (.int p1), .val (.int p2), .val (.int p3), .val (.int p4), .val (.int fo), .val (.int fn), .val (.ref y1), .val (.ref j1), .val (.int d0v), .val (.int (Int32.ofNat dn)), .val (.int ((Int32.ofNat dn) - d0v)), .val (.ref x_a), .val (.ref j1), .val (.ref x_b), .val (.int cv), .val (.ref x_d), .val (.int (Int32.ofNat (ct)))] [(.int cv), (.int (Int32.ofNat dn)), (.int (5 : Int32)), (.int (Int32.ofNat (ct))), (.ref x_d)])) rfl (by rw [hml]; rfl) (argsL := [(.ref x_d), (.int (Int32.ofNat (ct))), (.int (5 : Int32)), (.int (Int32.ofNat dn)), (.int cv)]) (rest := []) (lenOf pd__Ljava_lang_String_IIIC_Z rfl) rfl (by show 2 * 0 + _ ≤ _; exact Nat.le_of_eq rfl) (hb hby at_292) (fun _ _ => ⟨rfl, rfl, (by decide : 85 + 0 ≤ _), (by decide : 7921 + 0 ≤ _)⟩)
  dsimp only [Pt.U, Pt.locs, Pt.cells, Pt.slots] at X1079 l1079 y1079 z1079 st1079 hQ1079
  subst l1079 y1079 z1079
  obtain ⟨rfl, N1079q, EQ1079⟩ := hQ1079
  have N1079 := Fr.app N1072 N1079q
  have ch1080 : CHv Z EL T1014.vm T1079.heap := by rw [EQ1079]; exact ch1073
  have cr1080 : CHr Z EL s.vm h0 T1014.vm T1079.heap := by rw [EQ1079]; exact cr1073
  have hk1080 : T1014.heap.size ≤ T1079.heap.size := by rw [EQ1079]; exact hk1073
  have Z1079 : n0 ≤ T1079.heap.size := by rw [EQ1079]; exact Z1072
  have f1081 := (EQ1079 ▸ f1074)
  have f1082 := (EQ1079 ▸ f1075)
  have f1083 := (EQ1079 ▸ f1076)
  have f1084 := (EQ1079 ▸ f1077)
  have f1085 := (EQ1079 ▸ f1078)
  obtain ⟨_, _, ⟨T1086, L1086, k1086, n1086⟩, -, X1086, ⟨Lc1086, hQ1086, l1086, y1086, z1086⟩, st1086⟩ := Jvm.LawKit.callS X1079 hx (y := (⟨"com/example/orbweaver/orbweaver/mapping/JavaSourceDeeperPinLaw", "at", "(Ljava/lang/String;IIIC)Z"⟩ : MethodName)) hown (mvT hZ (tw hw 227 rfl)) (mvT hZ (tw hw 228 rfl)) (mvT hZ (tw hw 229 rfl)) (mvT hZ (tw hw 230 rfl)) (by decide) (backOf (W := 0) (rmAt l Z a0 hw [] x_d t_d k_d (ws_c.take (ct + 4 * (dn) + (1) + 1)) ct 6 dn cv (nar .byte (cv.toInt8.toInt32)) zc fm T1079.heap n0 Z1079 (SC.ext f1081.2) hzc (SFm.ext f1081.2) rf f1082 f1083 f1084 f1085 hsp hcb hnl hchr (by omega) hdn4 (by decide)) hZ (tw hw 230 rfl) (tw hw 229 rfl) (by decide) (by decide)) (g := (mkF m 308 #[.val (.int p0), .val (.int p1), .val (.int p2), .val (.int p3), .val (.int p4), .val (.int fo), .val (.int fn), .val (.ref y1), .val (.ref j1), .val (.int d0v), .val (.int (Int32.ofNat dn)), .val (.int ((Int32.ofNat dn) - d0v)), .val (.ref x_a), .val (.ref j1), .val (.ref x_b), .val (.int cv), .val (.ref x_d), .val (.int (Int32.ofNat (ct)))] [(.int cv), (.int (Int32.ofNat dn)), (.int (6 : Int32)), (.int (Int32.ofNat (ct))), (.ref x_d)])) rfl (by rw [hml]; rfl) (argsL := [(.ref x_d), (.int (Int32.ofNat (ct))), (.int (6 : Int32)), (.int (Int32.ofNat dn)), (.int cv)]) (rest := []) (lenOf pd__Ljava_lang_String_IIIC_Z rfl) rfl (by show 2 * 0 + _ ≤ _; exact Nat.le_of_eq rfl) (hb hby at_308) (fun _ _ => ⟨rfl, rfl, (by decide : 85 + 0 ≤ _), (by decide : 7921 + 0 ≤ _)⟩)
  dsimp only [Pt.U, Pt.locs, Pt.cells, Pt.slots] at X1086 l1086 y1086 z1086 st1086 hQ1086
  subst l1086 y1086 z1086
  obtain ⟨rfl, N1086q, EQ1086⟩ := hQ1086
  have N1086 := Fr.app N1079 N1086q
  have ch1087 : CHv Z EL T1014.vm T1086.heap := by rw [EQ1086]; exact ch1080
  have cr1087 : CHr Z EL s.vm h0 T1014.vm T1086.heap := by rw [EQ1086]; exact cr1080
  have hk1087 : T1014.heap.size ≤ T1086.heap.size := by rw [EQ1086]; exact hk1080
  have Z1086 : n0 ≤ T1086.heap.size := by rw [EQ1086]; exact Z1079
  have f1088 := (EQ1086 ▸ f1081)
  have f1089 := (EQ1086 ▸ f1082)
  have f1090 := (EQ1086 ▸ f1083)
  have f1091 := (EQ1086 ▸ f1084)
  have f1092 := (EQ1086 ▸ f1085)
  obtain ⟨_, _, ⟨T1093, L1093, k1093, n1093⟩, -, X1093, ⟨Lc1093, hQ1093, l1093, y1093, z1093⟩, st1093⟩ := Jvm.LawKit.callS X1086 hx (y := (⟨"com/example/orbweaver/orbweaver/mapping/JavaSourceDeeperPinLaw", "at", "(Ljava/lang/String;IIIC)Z"⟩ : MethodName)) hown (mvT hZ (tw hw 227 rfl)) (mvT hZ (tw hw 228 rfl)) (mvT hZ (tw hw 229 rfl)) (mvT hZ (tw hw 230 rfl)) (by decide) (backOf (W := 0) (rmAt l Z a0 hw [] x_d t_d k_d (ws_c.take (ct + 4 * (dn) + (1) + 1)) ct 7 dn cv (nar .byte (cv.toInt8.toInt32)) zc fm T1086.heap n0 Z1086 (SC.ext f1088.2) hzc (SFm.ext f1088.2) rf f1089 f1090 f1091 f1092 hsp hcb hnl hchr (by omega) hdn4 (by decide)) hZ (tw hw 230 rfl) (tw hw 229 rfl) (by decide) (by decide)) (g := (mkF m 324 #[.val (.int p0), .val (.int p1), .val (.int p2), .val (.int p3), .val (.int p4), .val (.int fo), .val (.int fn), .val (.ref y1), .val (.ref j1), .val (.int d0v), .val (.int (Int32.ofNat dn)), .val (.int ((Int32.ofNat dn) - d0v)), .val (.ref x_a), .val (.ref j1), .val (.ref x_b), .val (.int cv), .val (.ref x_d), .val (.int (Int32.ofNat (ct)))] [(.int cv), (.int (Int32.ofNat dn)), (.int (7 : Int32)), (.int (Int32.ofNat (ct))), (.ref x_d)])) rfl (by rw [hml]; rfl) (argsL := [(.ref x_d), (.int (Int32.ofNat (ct))), (.int (7 : Int32)), (.int (Int32.ofNat dn)), (.int cv)]) (rest := []) (lenOf pd__Ljava_lang_String_IIIC_Z rfl) rfl (by show 2 * 0 + _ ≤ _; exact Nat.le_of_eq rfl) (hb hby at_324) (fun _ _ => ⟨rfl, rfl, (by decide : 85 + 0 ≤ _), (by decide : 7921 + 0 ≤ _)⟩)
  dsimp only [Pt.U, Pt.locs, Pt.cells, Pt.slots] at X1093 l1093 y1093 z1093 st1093 hQ1093
  subst l1093 y1093 z1093
  obtain ⟨rfl, N1093q, EQ1093⟩ := hQ1093
  have N1093 := Fr.app N1086 N1093q
  have ch1094 : CHv Z EL T1014.vm T1093.heap := by rw [EQ1093]; exact ch1087
  have cr1094 : CHr Z EL s.vm h0 T1014.vm T1093.heap := by rw [EQ1093]; exact cr1087
  have hk1094 : T1014.heap.size ≤ T1093.heap.size := by rw [EQ1093]; exact hk1087
  have Z1093 : n0 ≤ T1093.heap.size := by rw [EQ1093]; exact Z1086
  have f1095 := (EQ1093 ▸ f1088)
  have f1096 := (EQ1093 ▸ f1089)
  have f1097 := (EQ1093 ▸ f1090)
  have f1098 := (EQ1093 ▸ f1091)
  have f1099 := (EQ1093 ▸ f1092)
  obtain ⟨_, _, ⟨T1100, L1100, k1100, n1100⟩, -, X1100, ⟨Lc1100, hQ1100, l1100, y1100, z1100⟩, st1100⟩ := Jvm.LawKit.callS X1093 hx (y := (⟨"com/example/orbweaver/orbweaver/mapping/JavaSourceDeeperPinLaw", "at", "(Ljava/lang/String;IIIC)Z"⟩ : MethodName)) hown (mvT hZ (tw hw 227 rfl)) (mvT hZ (tw hw 228 rfl)) (mvT hZ (tw hw 229 rfl)) (mvT hZ (tw hw 230 rfl)) (by decide) (backOf (W := 0) (rmAt l Z a0 hw [] x_d t_d k_d (ws_c.take (ct + 4 * (dn) + (1) + 1)) ct 8 dn cv (nar .byte (cv.toInt8.toInt32)) zc fm T1093.heap n0 Z1093 (SC.ext f1095.2) hzc (SFm.ext f1095.2) rf f1096 f1097 f1098 f1099 hsp hcb hnl hchr (by omega) hdn4 (by decide)) hZ (tw hw 230 rfl) (tw hw 229 rfl) (by decide) (by decide)) (g := (mkF m 340 #[.val (.int p0), .val (.int p1), .val (.int p2), .val (.int p3), .val (.int p4), .val (.int fo), .val (.int fn), .val (.ref y1), .val (.ref j1), .val (.int d0v), .val (.int (Int32.ofNat dn)), .val (.int ((Int32.ofNat dn) - d0v)), .val (.ref x_a), .val (.ref j1), .val (.ref x_b), .val (.int cv), .val (.ref x_d), .val (.int (Int32.ofNat (ct)))] [(.int cv), (.int (Int32.ofNat dn)), (.int (8 : Int32)), (.int (Int32.ofNat (ct))), (.ref x_d)])) rfl (by rw [hml]; rfl) (argsL := [(.ref x_d), (.int (Int32.ofNat (ct))), (.int (8 : Int32)), (.int (Int32.ofNat dn)), (.int cv)]) (rest := []) (lenOf pd__Ljava_lang_String_IIIC_Z rfl) rfl (by show 2 * 0 + _ ≤ _; exact Nat.le_of_eq rfl) (hb hby at_340) (fun _ _ => ⟨rfl, rfl, (by decide : 85 + 0 ≤ _), (by decide : 7921 + 0 ≤ _)⟩)
  dsimp only [Pt.U, Pt.locs, Pt.cells, Pt.slots] at X1100 l1100 y1100 z1100 st1100 hQ1100
  subst l1100 y1100 z1100
  obtain ⟨rfl, N1100q, EQ1100⟩ := hQ1100
  have N1100 := Fr.app N1093 N1100q
  have ch1101 : CHv Z EL T1014.vm T1100.heap := by rw [EQ1100]; exact ch1094
  have cr1101 : CHr Z EL s.vm h0 T1014.vm T1100.heap := by rw [EQ1100]; exact cr1094
  have hk1101 : T1014.heap.size ≤ T1100.heap.size := by rw [EQ1100]; exact hk1094
  have Z1100 : n0 ≤ T1100.heap.size := by rw [EQ1100]; exact Z1093
  have f1102 := (EQ1100 ▸ f1095)
  have f1103 := (EQ1100 ▸ f1096)
  have f1104 := (EQ1100 ▸ f1097)
  have f1105 := (EQ1100 ▸ f1098)
  have f1106 := (EQ1100 ▸ f1099)
  obtain ⟨_, _, ⟨T1107, L1107, k1107, n1107⟩, -, X1107, ⟨Lc1107, hQ1107, l1107, y1107, z1107⟩, st1107⟩ := Jvm.LawKit.callS X1100 hx (y := (⟨"com/example/orbweaver/orbweaver/mapping/JavaSourceDeeperPinLaw", "at", "(Ljava/lang/String;IIIC)Z"⟩ : MethodName)) hown (mvT hZ (tw hw 227 rfl)) (mvT hZ (tw hw 228 rfl)) (mvT hZ (tw hw 229 rfl)) (mvT hZ (tw hw 230 rfl)) (by decide) (backOf (W := 0) (rmAt l Z a0 hw [] x_d t_d k_d (ws_c.take (ct + 4 * (dn) + (1) + 1)) ct 9 dn cv (nar .byte (cv.toInt8.toInt32)) zc fm T1100.heap n0 Z1100 (SC.ext f1102.2) hzc (SFm.ext f1102.2) rf f1103 f1104 f1105 f1106 hsp hcb hnl hchr (by omega) hdn4 (by decide)) hZ (tw hw 230 rfl) (tw hw 229 rfl) (by decide) (by decide)) (g := (mkF m 356 #[.val (.int p0), .val (.int p1), .val (.int p2), .val (.int p3), .val (.int p4), .val (.int fo), .val (.int fn), .val (.ref y1), .val (.ref j1), .val (.int d0v), .val (.int (Int32.ofNat dn)), .val (.int ((Int32.ofNat dn) - d0v)), .val (.ref x_a), .val (.ref j1), .val (.ref x_b), .val (.int cv), .val (.ref x_d), .val (.int (Int32.ofNat (ct)))] [(.int cv), (.int (Int32.ofNat dn)), (.int (9 : Int32)), (.int (Int32.ofNat (ct))), (.ref x_d)])) rfl (by rw [hml]; rfl) (argsL := [(.ref x_d), (.int (Int32.ofNat (ct))), (.int (9 : Int32)), (.int (Int32.ofNat dn)), (.int cv)]) (rest := []) (lenOf pd__Ljava_lang_String_IIIC_Z rfl) rfl (by show 2 * 0 + _ ≤ _; exact Nat.le_of_eq rfl) (hb hby at_356) (fun _ _ => ⟨rfl, rfl, (by decide : 85 + 0 ≤ _), (by decide : 7921 + 0 ≤ _)⟩)
  dsimp only [Pt.U, Pt.locs, Pt.cells, Pt.slots] at X1107 l1107 y1107 z1107 st1107 hQ1107
  subst l1107 y1107 z1107
  obtain ⟨rfl, N1107q, EQ1107⟩ := hQ1107
  have N1107 := Fr.app N1100 N1107q
  have ch1108 : CHv Z EL T1014.vm T1107.heap := by rw [EQ1107]; exact ch1101
  have cr1108 : CHr Z EL s.vm h0 T1014.vm T1107.heap := by rw [EQ1107]; exact cr1101
  have hk1108 : T1014.heap.size ≤ T1107.heap.size := by rw [EQ1107]; exact hk1101
  have Z1107 : n0 ≤ T1107.heap.size := by rw [EQ1107]; exact Z1100
  have f1109 := (EQ1107 ▸ f1102)
  have f1110 := (EQ1107 ▸ f1103)
  have f1111 := (EQ1107 ▸ f1104)
  have f1112 := (EQ1107 ▸ f1105)
  have f1113 := (EQ1107 ▸ f1106)
  obtain ⟨_, _, ⟨T1114, L1114, k1114, n1114⟩, -, X1114, ⟨Lc1114, hQ1114, l1114, y1114, z1114⟩, st1114⟩ := Jvm.LawKit.callS X1107 hx (y := (⟨"com/example/orbweaver/orbweaver/mapping/JavaSourceDeeperPinLaw", "at", "(Ljava/lang/String;IIIC)Z"⟩ : MethodName)) hown (mvT hZ (tw hw 227 rfl)) (mvT hZ (tw hw 228 rfl)) (mvT hZ (tw hw 229 rfl)) (mvT hZ (tw hw 230 rfl)) (by decide) (backOf (W := 0) (rmAt l Z a0 hw [] x_d t_d k_d (ws_c.take (ct + 4 * (dn) + (1) + 1)) ct 10 dn cv (nar .byte (cv.toInt8.toInt32)) zc fm T1107.heap n0 Z1107 (SC.ext f1109.2) hzc (SFm.ext f1109.2) rf f1110 f1111 f1112 f1113 hsp hcb hnl hchr (by omega) hdn4 (by decide)) hZ (tw hw 230 rfl) (tw hw 229 rfl) (by decide) (by decide)) (g := (mkF m 372 #[.val (.int p0), .val (.int p1), .val (.int p2), .val (.int p3), .val (.int p4), .val (.int fo), .val (.int fn), .val (.ref y1), .val (.ref j1), .val (.int d0v), .val (.int (Int32.ofNat dn)), .val (.int ((Int32.ofNat dn) - d0v)), .val (.ref x_a), .val (.ref j1), .val (.ref x_b), .val (.int cv), .val (.ref x_d), .val (.int (Int32.ofNat (ct)))] [(.int cv), (.int (Int32.ofNat dn)), (.int (10 : Int32)), (.int (Int32.ofNat (ct))), (.ref x_d)])) rfl (by rw [hml]; rfl) (argsL := [(.ref x_d), (.int (Int32.ofNat (ct))), (.int (10 : Int32)), (.int (Int32.ofNat dn)), (.int cv)]) (rest := []) (lenOf pd__Ljava_lang_String_IIIC_Z rfl) rfl (by show 2 * 0 + _ ≤ _; exact Nat.le_of_eq rfl) (hb hby at_372) (fun _ _ => ⟨rfl, rfl, (by decide : 85 + 0 ≤ _), (by decide : 7921 + 0 ≤ _)⟩)
  dsimp only [Pt.U, Pt.locs, Pt.cells, Pt.slots] at X1114 l1114 y1114 z1114 st1114 hQ1114
  subst l1114 y1114 z1114
  obtain ⟨rfl, N1114q, EQ1114⟩ := hQ1114
  have N1114 := Fr.app N1107 N1114q
  have ch1115 : CHv Z EL T1014.vm T1114.heap := by rw [EQ1114]; exact ch1108
  have cr1115 : CHr Z EL s.vm h0 T1014.vm T1114.heap := by rw [EQ1114]; exact cr1108
  have hk1115 : T1014.heap.size ≤ T1114.heap.size := by rw [EQ1114]; exact hk1108
  have Z1114 : n0 ≤ T1114.heap.size := by rw [EQ1114]; exact Z1107
  have f1116 := (EQ1114 ▸ f1109)
  have f1117 := (EQ1114 ▸ f1110)
  have f1118 := (EQ1114 ▸ f1111)
  have f1119 := (EQ1114 ▸ f1112)
  have f1120 := (EQ1114 ▸ f1113)
  obtain ⟨_, _, ⟨T1121, L1121, k1121, n1121⟩, -, X1121, ⟨Lc1121, hQ1121, l1121, y1121, z1121⟩, st1121⟩ := Jvm.LawKit.callS X1114 hx (y := (⟨"com/example/orbweaver/orbweaver/mapping/JavaSourceDeeperPinLaw", "at", "(Ljava/lang/String;IIIC)Z"⟩ : MethodName)) hown (mvT hZ (tw hw 227 rfl)) (mvT hZ (tw hw 228 rfl)) (mvT hZ (tw hw 229 rfl)) (mvT hZ (tw hw 230 rfl)) (by decide) (backOf (W := 0) (rmAt l Z a0 hw [] x_d t_d k_d (ws_c.take (ct + 4 * (dn) + (1) + 1)) ct 11 dn cv (nar .byte (cv.toInt8.toInt32)) zc fm T1114.heap n0 Z1114 (SC.ext f1116.2) hzc (SFm.ext f1116.2) rf f1117 f1118 f1119 f1120 hsp hcb hnl hchr (by omega) hdn4 (by decide)) hZ (tw hw 230 rfl) (tw hw 229 rfl) (by decide) (by decide)) (g := (mkF m 388 #[.val (.int p0), .val (.int p1), .val (.int p2), .val (.int p3), .val (.int p4), .val (.int fo), .val (.int fn), .val (.ref y1), .val (.ref j1), .val (.int d0v), .val (.int (Int32.ofNat dn)), .val (.int ((Int32.ofNat dn) - d0v)), .val (.ref x_a), .val (.ref j1), .val (.ref x_b), .val (.int cv), .val (.ref x_d), .val (.int (Int32.ofNat (ct)))] [(.int cv), (.int (Int32.ofNat dn)), (.int (11 : Int32)), (.int (Int32.ofNat (ct))), (.ref x_d)])) rfl (by rw [hml]; rfl) (argsL := [(.ref x_d), (.int (Int32.ofNat (ct))), (.int (11 : Int32)), (.int (Int32.ofNat dn)), (.int cv)]) (rest := []) (lenOf pd__Ljava_lang_String_IIIC_Z rfl) rfl (by show 2 * 0 + _ ≤ _; exact Nat.le_of_eq rfl) (hb hby at_388) (fun _ _ => ⟨rfl, rfl, (by decide : 85 + 0 ≤ _), (by decide : 7921 + 0 ≤ _)⟩)
  dsimp only [Pt.U, Pt.locs, Pt.cells, Pt.slots] at X1121 l1121 y1121 z1121 st1121 hQ1121
  subst l1121 y1121 z1121
  obtain ⟨rfl, N1121q, EQ1121⟩ := hQ1121
  have N1121 := Fr.app N1114 N1121q
  have ch1122 : CHv Z EL T1014.vm T1121.heap := by rw [EQ1121]; exact ch1115
  have cr1122 : CHr Z EL s.vm h0 T1014.vm T1121.heap := by rw [EQ1121]; exact cr1115
  have hk1122 : T1014.heap.size ≤ T1121.heap.size := by rw [EQ1121]; exact hk1115
  have Z1121 : n0 ≤ T1121.heap.size := by rw [EQ1121]; exact Z1114
  have f1123 := (EQ1121 ▸ f1116)
  have f1124 := (EQ1121 ▸ f1117)
  have f1125 := (EQ1121 ▸ f1118)
  have f1126 := (EQ1121 ▸ f1119)
  have f1127 := (EQ1121 ▸ f1120)
  obtain ⟨_, _, ⟨T1128, L1128, k1128, n1128⟩, -, X1128, ⟨Lc1128, hQ1128, l1128, y1128, z1128⟩, st1128⟩ := Jvm.LawKit.callS X1121 hx (y := (⟨"com/example/orbweaver/orbweaver/mapping/JavaSourceDeeperPinLaw", "at", "(Ljava/lang/String;IIIC)Z"⟩ : MethodName)) hown (mvT hZ (tw hw 227 rfl)) (mvT hZ (tw hw 228 rfl)) (mvT hZ (tw hw 229 rfl)) (mvT hZ (tw hw 230 rfl)) (by decide) (backOf (W := 0) (rmAt l Z a0 hw [] x_d t_d k_d (ws_c.take (ct + 4 * (dn) + (1) + 1)) ct 12 dn cv (nar .byte (cv.toInt8.toInt32)) zc fm T1121.heap n0 Z1121 (SC.ext f1123.2) hzc (SFm.ext f1123.2) rf f1124 f1125 f1126 f1127 hsp hcb hnl hchr (by omega) hdn4 (by decide)) hZ (tw hw 230 rfl) (tw hw 229 rfl) (by decide) (by decide)) (g := (mkF m 404 #[.val (.int p0), .val (.int p1), .val (.int p2), .val (.int p3), .val (.int p4), .val (.int fo), .val (.int fn), .val (.ref y1), .val (.ref j1), .val (.int d0v), .val (.int (Int32.ofNat dn)), .val (.int ((Int32.ofNat dn) - d0v)), .val (.ref x_a), .val (.ref j1), .val (.ref x_b), .val (.int cv), .val (.ref x_d), .val (.int (Int32.ofNat (ct)))] [(.int cv), (.int (Int32.ofNat dn)), (.int (12 : Int32)), (.int (Int32.ofNat (ct))), (.ref x_d)])) rfl (by rw [hml]; rfl) (argsL := [(.ref x_d), (.int (Int32.ofNat (ct))), (.int (12 : Int32)), (.int (Int32.ofNat dn)), (.int cv)]) (rest := []) (lenOf pd__Ljava_lang_String_IIIC_Z rfl) rfl (by show 2 * 0 + _ ≤ _; exact Nat.le_of_eq rfl) (hb hby at_404) (fun _ _ => ⟨rfl, rfl, (by decide : 85 + 0 ≤ _), (by decide : 7921 + 0 ≤ _)⟩)
  dsimp only [Pt.U, Pt.locs, Pt.cells, Pt.slots] at X1128 l1128 y1128 z1128 st1128 hQ1128
  subst l1128 y1128 z1128
  obtain ⟨rfl, N1128q, EQ1128⟩ := hQ1128
  have N1128 := Fr.app N1121 N1128q
  have ch1129 : CHv Z EL T1014.vm T1128.heap := by rw [EQ1128]; exact ch1122
  have cr1129 : CHr Z EL s.vm h0 T1014.vm T1128.heap := by rw [EQ1128]; exact cr1122
  have hk1129 : T1014.heap.size ≤ T1128.heap.size := by rw [EQ1128]; exact hk1122
  have Z1128 : n0 ≤ T1128.heap.size := by rw [EQ1128]; exact Z1121
  have f1130 := (EQ1128 ▸ f1123)
  have f1131 := (EQ1128 ▸ f1124)
  have f1132 := (EQ1128 ▸ f1125)
  have f1133 := (EQ1128 ▸ f1126)
  have f1134 := (EQ1128 ▸ f1127)
  obtain ⟨_, _, ⟨T1135, L1135, k1135, n1135⟩, -, X1135, ⟨Lc1135, hQ1135, l1135, y1135, z1135⟩, st1135⟩ := Jvm.LawKit.callS X1128 hx (y := (⟨"com/example/orbweaver/orbweaver/mapping/JavaSourceDeeperPinLaw", "at", "(Ljava/lang/String;IIIC)Z"⟩ : MethodName)) hown (mvT hZ (tw hw 227 rfl)) (mvT hZ (tw hw 228 rfl)) (mvT hZ (tw hw 229 rfl)) (mvT hZ (tw hw 230 rfl)) (by decide) (backOf (W := 0) (rmAt l Z a0 hw [] x_d t_d k_d (ws_c.take (ct + 4 * (dn) + (1) + 1)) ct 13 dn cv (nar .byte (cv.toInt8.toInt32)) zc fm T1128.heap n0 Z1128 (SC.ext f1130.2) hzc (SFm.ext f1130.2) rf f1131 f1132 f1133 f1134 hsp hcb hnl hchr (by omega) hdn4 (by decide)) hZ (tw hw 230 rfl) (tw hw 229 rfl) (by decide) (by decide)) (g := (mkF m 420 #[.val (.int p0), .val (.int p1), .val (.int p2), .val (.int p3), .val (.int p4), .val (.int fo), .val (.int fn), .val (.ref y1), .val (.ref j1), .val (.int d0v), .val (.int (Int32.ofNat dn)), .val (.int ((Int32.ofNat dn) - d0v)), .val (.ref x_a), .val (.ref j1), .val (.ref x_b), .val (.int cv), .val (.ref x_d), .val (.int (Int32.ofNat (ct)))] [(.int cv), (.int (Int32.ofNat dn)), (.int (13 : Int32)), (.int (Int32.ofNat (ct))), (.ref x_d)])) rfl (by rw [hml]; rfl) (argsL := [(.ref x_d), (.int (Int32.ofNat (ct))), (.int (13 : Int32)), (.int (Int32.ofNat dn)), (.int cv)]) (rest := []) (lenOf pd__Ljava_lang_String_IIIC_Z rfl) rfl (by show 2 * 0 + _ ≤ _; exact Nat.le_of_eq rfl) (hb hby at_420) (fun _ _ => ⟨rfl, rfl, (by decide : 85 + 0 ≤ _), (by decide : 7921 + 0 ≤ _)⟩)
  dsimp only [Pt.U, Pt.locs, Pt.cells, Pt.slots] at X1135 l1135 y1135 z1135 st1135 hQ1135
  subst l1135 y1135 z1135
  obtain ⟨rfl, N1135q, EQ1135⟩ := hQ1135
  have N1135 := Fr.app N1128 N1135q
  have ch1136 : CHv Z EL T1014.vm T1135.heap := by rw [EQ1135]; exact ch1129
  have cr1136 : CHr Z EL s.vm h0 T1014.vm T1135.heap := by rw [EQ1135]; exact cr1129
  have hk1136 : T1014.heap.size ≤ T1135.heap.size := by rw [EQ1135]; exact hk1129
  have Z1135 : n0 ≤ T1135.heap.size := by rw [EQ1135]; exact Z1128
  have f1137 := (EQ1135 ▸ f1130)
  have f1138 := (EQ1135 ▸ f1131)
  have f1139 := (EQ1135 ▸ f1132)
  have f1140 := (EQ1135 ▸ f1133)
  have f1141 := (EQ1135 ▸ f1134)
  obtain ⟨_, _, ⟨T1142, L1142, k1142, n1142⟩, -, X1142, ⟨Lc1142, hQ1142, l1142, y1142, z1142⟩, st1142⟩ := Jvm.LawKit.callS X1135 hx (y := (⟨"com/example/orbweaver/orbweaver/mapping/JavaSourceDeeperPinLaw", "at", "(Ljava/lang/String;IIIC)Z"⟩ : MethodName)) hown (mvT hZ (tw hw 227 rfl)) (mvT hZ (tw hw 228 rfl)) (mvT hZ (tw hw 229 rfl)) (mvT hZ (tw hw 230 rfl)) (by decide) (backOf (W := 0) (rmAt l Z a0 hw [] x_d t_d k_d (ws_c.take (ct + 4 * (dn) + (1) + 1)) ct 14 dn cv (nar .byte (cv.toInt8.toInt32)) zc fm T1135.heap n0 Z1135 (SC.ext f1137.2) hzc (SFm.ext f1137.2) rf f1138 f1139 f1140 f1141 hsp hcb hnl hchr (by omega) hdn4 (by decide)) hZ (tw hw 230 rfl) (tw hw 229 rfl) (by decide) (by decide)) (g := (mkF m 436 #[.val (.int p0), .val (.int p1), .val (.int p2), .val (.int p3), .val (.int p4), .val (.int fo), .val (.int fn), .val (.ref y1), .val (.ref j1), .val (.int d0v), .val (.int (Int32.ofNat dn)), .val (.int ((Int32.ofNat dn) - d0v)), .val (.ref x_a), .val (.ref j1), .val (.ref x_b), .val (.int cv), .val (.ref x_d), .val (.int (Int32.ofNat (ct)))] [(.int cv), (.int (Int32.ofNat dn)), (.int (14 : Int32)), (.int (Int32.ofNat (ct))), (.ref x_d)])) rfl (by rw [hml]; rfl) (argsL := [(.ref x_d), (.int (Int32.ofNat (ct))), (.int (14 : Int32)), (.int (Int32.ofNat dn)), (.int cv)]) (rest := []) (lenOf pd__Ljava_lang_String_IIIC_Z rfl) rfl (by show 2 * 0 + _ ≤ _; exact Nat.le_of_eq rfl) (hb hby at_436) (fun _ _ => ⟨rfl, rfl, (by decide : 85 + 0 ≤ _), (by decide : 7921 + 0 ≤ _)⟩)
  dsimp only [Pt.U, Pt.locs, Pt.cells, Pt.slots] at X1142 l1142 y1142 z1142 st1142 hQ1142
  subst l1142 y1142 z1142
  obtain ⟨rfl, N1142q, EQ1142⟩ := hQ1142
  have N1142 := Fr.app N1135 N1142q
  have ch1143 : CHv Z EL T1014.vm T1142.heap := by rw [EQ1142]; exact ch1136
  have cr1143 : CHr Z EL s.vm h0 T1014.vm T1142.heap := by rw [EQ1142]; exact cr1136
  have hk1143 : T1014.heap.size ≤ T1142.heap.size := by rw [EQ1142]; exact hk1136
  have Z1142 : n0 ≤ T1142.heap.size := by rw [EQ1142]; exact Z1135
  have f1144 := (EQ1142 ▸ f1137)
  have f1145 := (EQ1142 ▸ f1138)
  have f1146 := (EQ1142 ▸ f1139)
  have f1147 := (EQ1142 ▸ f1140)
  have f1148 := (EQ1142 ▸ f1141)
  obtain ⟨_, _, ⟨T1149, L1149, k1149, n1149⟩, -, X1149, ⟨Lc1149, hQ1149, l1149, y1149, z1149⟩, st1149⟩ := Jvm.LawKit.callS X1142 hx (y := (⟨"com/example/orbweaver/orbweaver/mapping/JavaSourceDeeperPinLaw", "at", "(Ljava/lang/String;IIIC)Z"⟩ : MethodName)) hown (mvT hZ (tw hw 227 rfl)) (mvT hZ (tw hw 228 rfl)) (mvT hZ (tw hw 229 rfl)) (mvT hZ (tw hw 230 rfl)) (by decide) (backOf (W := 0) (rmAt l Z a0 hw [] x_d t_d k_d (ws_c.take (ct + 4 * (dn) + (1) + 1)) ct 15 dn cv (nar .byte (cv.toInt8.toInt32)) zc fm T1142.heap n0 Z1142 (SC.ext f1144.2) hzc (SFm.ext f1144.2) rf f1145 f1146 f1147 f1148 hsp hcb hnl hchr (by omega) hdn4 (by decide)) hZ (tw hw 230 rfl) (tw hw 229 rfl) (by decide) (by decide)) (g := (mkF m 452 #[.val (.int p0), .val (.int p1), .val (.int p2), .val (.int p3), .val (.int p4), .val (.int fo), .val (.int fn), .val (.ref y1), .val (.ref j1), .val (.int d0v), .val (.int (Int32.ofNat dn)), .val (.int ((Int32.ofNat dn) - d0v)), .val (.ref x_a), .val (.ref j1), .val (.ref x_b), .val (.int cv), .val (.ref x_d), .val (.int (Int32.ofNat (ct)))] [(.int cv), (.int (Int32.ofNat dn)), (.int (15 : Int32)), (.int (Int32.ofNat (ct))), (.ref x_d)])) rfl (by rw [hml]; rfl) (argsL := [(.ref x_d), (.int (Int32.ofNat (ct))), (.int (15 : Int32)), (.int (Int32.ofNat dn)), (.int cv)]) (rest := []) (lenOf pd__Ljava_lang_String_IIIC_Z rfl) rfl (by show 2 * 0 + _ ≤ _; exact Nat.le_of_eq rfl) (hb hby at_452) (fun _ _ => ⟨rfl, rfl, (by decide : 85 + 0 ≤ _), (by decide : 7921 + 0 ≤ _)⟩)
  dsimp only [Pt.U, Pt.locs, Pt.cells, Pt.slots] at X1149 l1149 y1149 z1149 st1149 hQ1149
  subst l1149 y1149 z1149
  obtain ⟨rfl, N1149q, EQ1149⟩ := hQ1149
  have N1149 := Fr.app N1142 N1149q
  have ch1150 : CHv Z EL T1014.vm T1149.heap := by rw [EQ1149]; exact ch1143
  have cr1150 : CHr Z EL s.vm h0 T1014.vm T1149.heap := by rw [EQ1149]; exact cr1143
  have hk1150 : T1014.heap.size ≤ T1149.heap.size := by rw [EQ1149]; exact hk1143
  have Z1149 : n0 ≤ T1149.heap.size := by rw [EQ1149]; exact Z1142
  have f1151 := (EQ1149 ▸ f1144)
  have f1152 := (EQ1149 ▸ f1145)
  have f1153 := (EQ1149 ▸ f1146)
  have f1154 := (EQ1149 ▸ f1147)
  have f1155 := (EQ1149 ▸ f1148)
  obtain ⟨_, _, ⟨T1156, L1156, k1156, n1156⟩, -, X1156, ⟨Lc1156, hQ1156, l1156, y1156, z1156⟩, st1156⟩ := Jvm.LawKit.callS X1149 hx (y := (⟨"com/example/orbweaver/orbweaver/mapping/JavaSourceDeeperPinLaw", "at", "(Ljava/lang/String;IIIC)Z"⟩ : MethodName)) hown (mvT hZ (tw hw 227 rfl)) (mvT hZ (tw hw 228 rfl)) (mvT hZ (tw hw 229 rfl)) (mvT hZ (tw hw 230 rfl)) (by decide) (backOf (W := 0) (rmAt l Z a0 hw [] x_d t_d k_d (ws_c.take (ct + 4 * (dn) + (1) + 1)) ct 16 dn cv (nar .byte (cv.toInt8.toInt32)) zc fm T1149.heap n0 Z1149 (SC.ext f1151.2) hzc (SFm.ext f1151.2) rf f1152 f1153 f1154 f1155 hsp hcb hnl hchr (by omega) hdn4 (by decide)) hZ (tw hw 230 rfl) (tw hw 229 rfl) (by decide) (by decide)) (g := (mkF m 468 #[.val (.int p0), .val (.int p1), .val (.int p2), .val (.int p3), .val (.int p4), .val (.int fo), .val (.int fn), .val (.ref y1), .val (.ref j1), .val (.int d0v), .val (.int (Int32.ofNat dn)), .val (.int ((Int32.ofNat dn) - d0v)), .val (.ref x_a), .val (.ref j1), .val (.ref x_b), .val (.int cv), .val (.ref x_d), .val (.int (Int32.ofNat (ct)))] [(.int cv), (.int (Int32.ofNat dn)), (.int (16 : Int32)), (.int (Int32.ofNat (ct))), (.ref x_d)])) rfl (by rw [hml]; rfl) (argsL := [(.ref x_d), (.int (Int32.ofNat (ct))), (.int (16 : Int32)), (.int (Int32.ofNat dn)), (.int cv)]) (rest := []) (lenOf pd__Ljava_lang_String_IIIC_Z rfl) rfl (by show 2 * 0 + _ ≤ _; exact Nat.le_of_eq rfl) (hb hby at_468) (fun _ _ => ⟨rfl, rfl, (by decide : 85 + 0 ≤ _), (by decide : 7921 + 0 ≤ _)⟩)
  dsimp only [Pt.U, Pt.locs, Pt.cells, Pt.slots] at X1156 l1156 y1156 z1156 st1156 hQ1156
  subst l1156 y1156 z1156
  obtain ⟨rfl, N1156q, EQ1156⟩ := hQ1156
  have N1156 := Fr.app N1149 N1156q
  have ch1157 : CHv Z EL T1014.vm T1156.heap := by rw [EQ1156]; exact ch1150
  have cr1157 : CHr Z EL s.vm h0 T1014.vm T1156.heap := by rw [EQ1156]; exact cr1150
  have hk1157 : T1014.heap.size ≤ T1156.heap.size := by rw [EQ1156]; exact hk1150
  have Z1156 : n0 ≤ T1156.heap.size := by rw [EQ1156]; exact Z1149
  have f1158 := (EQ1156 ▸ f1151)
  have f1159 := (EQ1156 ▸ f1152)
  have f1160 := (EQ1156 ▸ f1153)
  have f1161 := (EQ1156 ▸ f1154)
  have f1162 := (EQ1156 ▸ f1155)
  obtain ⟨_, _, ⟨T1163, L1163, k1163, n1163⟩, -, X1163, ⟨Lc1163, hQ1163, l1163, y1163, z1163⟩, st1163⟩ := Jvm.LawKit.callS X1156 hx (y := (⟨"com/example/orbweaver/orbweaver/mapping/JavaSourceDeeperPinLaw", "at", "(Ljava/lang/String;IIIC)Z"⟩ : MethodName)) hown (mvT hZ (tw hw 227 rfl)) (mvT hZ (tw hw 228 rfl)) (mvT hZ (tw hw 229 rfl)) (mvT hZ (tw hw 230 rfl)) (by decide) (backOf (W := 0) (rmAt l Z a0 hw [] x_d t_d k_d (ws_c.take (ct + 4 * (dn) + (1) + 1)) ct 17 dn cv (nar .byte (cv.toInt8.toInt32)) zc fm T1156.heap n0 Z1156 (SC.ext f1158.2) hzc (SFm.ext f1158.2) rf f1159 f1160 f1161 f1162 hsp hcb hnl hchr (by omega) hdn4 (by decide)) hZ (tw hw 230 rfl) (tw hw 229 rfl) (by decide) (by decide)) (g := (mkF m 484 #[.val (.int p0), .val (.int p1), .val (.int p2), .val (.int p3), .val (.int p4), .val (.int fo), .val (.int fn), .val (.ref y1), .val (.ref j1), .val (.int d0v), .val (.int (Int32.ofNat dn)), .val (.int ((Int32.ofNat dn) - d0v)), .val (.ref x_a), .val (.ref j1), .val (.ref x_b), .val (.int cv), .val (.ref x_d), .val (.int (Int32.ofNat (ct)))] [(.int cv), (.int (Int32.ofNat dn)), (.int (17 : Int32)), (.int (Int32.ofNat (ct))), (.ref x_d)])) rfl (by rw [hml]; rfl) (argsL := [(.ref x_d), (.int (Int32.ofNat (ct))), (.int (17 : Int32)), (.int (Int32.ofNat dn)), (.int cv)]) (rest := []) (lenOf pd__Ljava_lang_String_IIIC_Z rfl) rfl (by show 2 * 0 + _ ≤ _; exact Nat.le_of_eq rfl) (hb hby at_484) (fun _ _ => ⟨rfl, rfl, (by decide : 85 + 0 ≤ _), (by decide : 7921 + 0 ≤ _)⟩)
  dsimp only [Pt.U, Pt.locs, Pt.cells, Pt.slots] at X1163 l1163 y1163 z1163 st1163 hQ1163
  subst l1163 y1163 z1163
  obtain ⟨rfl, N1163q, EQ1163⟩ := hQ1163
  have N1163 := Fr.app N1156 N1163q
  have ch1164 : CHv Z EL T1014.vm T1163.heap := by rw [EQ1163]; exact ch1157
  have cr1164 : CHr Z EL s.vm h0 T1014.vm T1163.heap := by rw [EQ1163]; exact cr1157
  have hk1164 : T1014.heap.size ≤ T1163.heap.size := by rw [EQ1163]; exact hk1157
  have pre1165 : ∀ t, Steps p.tables e below (T1163.setTop (mkF m 495 #[.val (.int p0), .val (.int p1), .val (.int p2), .val (.int p3), .val (.int p4), .val (.int fo), .val (.int fn), .val (.ref y1), .val (.ref j1), .val (.int d0v), .val (.int (Int32.ofNat dn)), .val (.int ((Int32.ofNat dn) - d0v)), .val (.ref x_a), .val (.ref j1), .val (.ref x_b), .val (.int cv), .val (.ref x_d), .val (.int (Int32.ofNat (ct)))] [(.int (1 : Int32))])) t → Steps p.tables e below (T993.setTop (mkF m 171 #[.val (.int p0), .val (.int p1), .val (.int p2), .val (.int p3), .val (.int p4), .val (.int fo), .val (.int fn), .val (.ref y1), .val (.ref j1), .val (.int d0v), .val (.int (Int32.ofNat dn)), .val (.int ((Int32.ofNat dn) - d0v)), .val (.ref x_a), .val (.ref j1), .val (.ref x_b), .val (.int cv), .unset, .unset] [(.ref x_v), (.ref j1)])) t := by
    intro t kt
    refine st1014.trans ?_
    show Steps p.tables e below (T1014.setTop (mkF m 174 #[.val (.int p0), .val (.int p1), .val (.int p2), .val (.int p3), .val (.int p4), .val (.int fo), .val (.int fn), .val (.ref y1), .val (.ref j1), .val (.int d0v), .val (.int (Int32.ofNat dn)), .val (.int ((Int32.ofNat dn) - d0v)), .val (.ref x_a), .val (.ref j1), .val (.ref x_b), .val (.int cv), .unset, .unset] [(.ref j1)])) _
    refine XS.pop X1014.here hx rfl (hb hby at_174) rfl rfl ?_
    refine XS.aload X1014.here hx rfl (hb hby at_175) rfl rfl ?_
    refine st1019.trans ?_
    show Steps p.tables e below (T1019.setTop (mkF m 180 #[.val (.int p0), .val (.int p1), .val (.int p2), .val (.int p3), .val (.int p4), .val (.int fo), .val (.int fn), .val (.ref y1), .val (.ref j1), .val (.int d0v), .val (.int (Int32.ofNat dn)), .val (.int ((Int32.ofNat dn) - d0v)), .val (.ref x_a), .val (.ref j1), .val (.ref x_b), .val (.int cv), .unset, .unset] [(.ref x_d)])) _
    refine XS.astore X1019.here hx rfl (hb hby at_180) rfl rfl (l' := #[.val (.int p0), .val (.int p1), .val (.int p2), .val (.int p3), .val (.int p4), .val (.int fo), .val (.int fn), .val (.ref y1), .val (.ref j1), .val (.int d0v), .val (.int (Int32.ofNat dn)), .val (.int ((Int32.ofNat dn) - d0v)), .val (.ref x_a), .val (.ref j1), .val (.ref x_b), .val (.int cv), .val (.ref x_d), .unset]) rfl ?_
    refine XS.aload X1019.here hx rfl (hb hby at_182) rfl rfl ?_
    refine st1030.trans ?_
    show Steps p.tables e below (T1030.setTop (mkF m 187 #[.val (.int p0), .val (.int p1), .val (.int p2), .val (.int p3), .val (.int p4), .val (.int fo), .val (.int fn), .val (.ref y1), .val (.ref j1), .val (.int d0v), .val (.int (Int32.ofNat dn)), .val (.int ((Int32.ofNat dn) - d0v)), .val (.ref x_a), .val (.ref j1), .val (.ref x_b), .val (.int cv), .val (.ref x_d), .unset] [(.int (Int32.ofNat (ct)))])) _
    refine XS.istore X1030.here hx rfl (hb hby at_187) rfl (l' := #[.val (.int p0), .val (.int p1), .val (.int p2), .val (.int p3), .val (.int p4), .val (.int fo), .val (.int fn), .val (.ref y1), .val (.ref j1), .val (.int d0v), .val (.int (Int32.ofNat dn)), .val (.int ((Int32.ofNat dn) - d0v)), .val (.ref x_a), .val (.ref j1), .val (.ref x_b), .val (.int cv), .val (.ref x_d), .val (.int (Int32.ofNat (ct)))]) rfl ?_
    refine XS.aload X1030.here hx rfl (hb hby at_189) rfl rfl ?_
    refine st1037.trans ?_
    show Steps p.tables e below (T1037.setTop (mkF m 194 #[.val (.int p0), .val (.int p1), .val (.int p2), .val (.int p3), .val (.int p4), .val (.int fo), .val (.int fn), .val (.ref y1), .val (.ref j1), .val (.int d0v), .val (.int (Int32.ofNat dn)), .val (.int ((Int32.ofNat dn) - d0v)), .val (.ref x_a), .val (.ref j1), .val (.ref x_b), .val (.int cv), .val (.ref x_d), .val (.int (Int32.ofNat (ct)))] [(.int (Int32.ofNat (ct + 4 * (dn) + (1) + 1)))])) _
    refine XS.iload X1037.here hx rfl (hb hby at_194) rfl ?_
    refine XS.iconst X1037.here hx rfl (hb hby at_196) ?_
    refine XS.iload X1037.here hx rfl (hb hby at_197) rfl ?_
    refine XS.imul X1037.here hx rfl (hb hby at_199) rfl ?_
    show Steps p.tables e below (T1037.setTop (mkF m 200 #[.val (.int p0), .val (.int p1), .val (.int p2), .val (.int p3), .val (.int p4), .val (.int fo), .val (.int fn), .val (.ref y1), .val (.ref j1), .val (.int d0v), .val (.int (Int32.ofNat dn)), .val (.int ((Int32.ofNat dn) - d0v)), .val (.ref x_a), .val (.ref j1), .val (.ref x_b), .val (.int cv), .val (.ref x_d), .val (.int (Int32.ofNat (ct)))] [(.int ((4 : Int32) * (Int32.ofNat dn))), (.int (Int32.ofNat (ct))), (.int (Int32.ofNat (ct + 4 * (dn) + (1) + 1)))])) _
    rw [show ((4 : Int32) * (Int32.ofNat dn)) = Int32.ofNat (4 * dn) from (Int32.ofNat_mul 4 dn).symm]
    show Steps p.tables e below (T1037.setTop (mkF m 200 #[.val (.int p0), .val (.int p1), .val (.int p2), .val (.int p3), .val (.int p4), .val (.int fo), .val (.int fn), .val (.ref y1), .val (.ref j1), .val (.int d0v), .val (.int (Int32.ofNat dn)), .val (.int ((Int32.ofNat dn) - d0v)), .val (.ref x_a), .val (.ref j1), .val (.ref x_b), .val (.int cv), .val (.ref x_d), .val (.int (Int32.ofNat (ct)))] [(.int (Int32.ofNat (4 * dn))), (.int (Int32.ofNat (ct))), (.int (Int32.ofNat (ct + 4 * (dn) + (1) + 1)))])) _
    refine XS.iadd X1037.here hx rfl (hb hby at_200) rfl ?_
    refine XS.iconst X1037.here hx rfl (hb hby at_201) ?_
    refine XS.iadd X1037.here hx rfl (hb hby at_202) rfl ?_
    refine XS.icmpYes X1037.here hx rfl (pc0 := 203) (pc' := 208) rfl (hb hby at_203) rfl (teq (by rw [show (2 : Int32) = Int32.ofNat 2 from rfl, own_add, own_add] : (Int32.ofNat (ct + 4 * (dn) + (1) + 1)) = (((Int32.ofNat (ct)) + (Int32.ofNat (4 * dn))) + (2 : Int32)))).1 (by decide) (by decide) ?_
    show Steps p.tables e below (T1037.setTop (mkF m 208 #[.val (.int p0), .val (.int p1), .val (.int p2), .val (.int p3), .val (.int p4), .val (.int fo), .val (.int fn), .val (.ref y1), .val (.ref j1), .val (.int d0v), .val (.int (Int32.ofNat dn)), .val (.int ((Int32.ofNat dn) - d0v)), .val (.ref x_a), .val (.ref j1), .val (.ref x_b), .val (.int cv), .val (.ref x_d), .val (.int (Int32.ofNat (ct)))] [])) _
    refine XS.aload X1037.here hx rfl (hb hby at_208) rfl rfl ?_
    refine XS.iload X1037.here hx rfl (hb hby at_210) rfl ?_
    refine XS.iconst X1037.here hx rfl (hb hby at_212) ?_
    refine XS.iload X1037.here hx rfl (hb hby at_213) rfl ?_
    refine XS.iload X1037.here hx rfl (hb hby at_215) rfl ?_
    refine st1044 _ ?_
    refine XS.ifNo X1044.here hx rfl (hb hby at_220) rfl ((if0 _ _).trans (feq (by decide : ¬ ((1 : Int32) = (0 : Int32)))).1) ?_
    show Steps p.tables e below (T1044.setTop (mkF m 223 #[.val (.int p0), .val (.int p1), .val (.int p2), .val (.int p3), .val (.int p4), .val (.int fo), .val (.int fn), .val (.ref y1), .val (.ref j1), .val (.int d0v), .val (.int (Int32.ofNat dn)), .val (.int ((Int32.ofNat dn) - d0v)), .val (.ref x_a), .val (.ref j1), .val (.ref x_b), .val (.int cv), .val (.ref x_d), .val (.int (Int32.ofNat (ct)))] [])) _
    refine XS.aload X1044.here hx rfl (hb hby at_223) rfl rfl ?_
    refine XS.iload X1044.here hx rfl (hb hby at_225) rfl ?_
    refine XS.iconst X1044.here hx rfl (hb hby at_227) ?_
    refine XS.iload X1044.here hx rfl (hb hby at_228) rfl ?_
    refine XS.iload X1044.here hx rfl (hb hby at_230) rfl ?_
    refine st1051 _ ?_
    refine XS.ifNo X1051.here hx rfl (hb hby at_235) rfl ((if0 _ _).trans (feq (by decide : ¬ ((1 : Int32) = (0 : Int32)))).1) ?_
    show Steps p.tables e below (T1051.setTop (mkF m 238 #[.val (.int p0), .val (.int p1), .val (.int p2), .val (.int p3), .val (.int p4), .val (.int fo), .val (.int fn), .val (.ref y1), .val (.ref j1), .val (.int d0v), .val (.int (Int32.ofNat dn)), .val (.int ((Int32.ofNat dn) - d0v)), .val (.ref x_a), .val (.ref j1), .val (.ref x_b), .val (.int cv), .val (.ref x_d), .val (.int (Int32.ofNat (ct)))] [])) _
    refine XS.aload X1051.here hx rfl (hb hby at_238) rfl rfl ?_
    refine XS.iload X1051.here hx rfl (hb hby at_240) rfl ?_
    refine XS.iconst X1051.here hx rfl (hb hby at_242) ?_
    refine XS.iload X1051.here hx rfl (hb hby at_243) rfl ?_
    refine XS.iload X1051.here hx rfl (hb hby at_245) rfl ?_
    refine st1058 _ ?_
    refine XS.ifNo X1058.here hx rfl (hb hby at_250) rfl ((if0 _ _).trans (feq (by decide : ¬ ((1 : Int32) = (0 : Int32)))).1) ?_
    show Steps p.tables e below (T1058.setTop (mkF m 253 #[.val (.int p0), .val (.int p1), .val (.int p2), .val (.int p3), .val (.int p4), .val (.int fo), .val (.int fn), .val (.ref y1), .val (.ref j1), .val (.int d0v), .val (.int (Int32.ofNat dn)), .val (.int ((Int32.ofNat dn) - d0v)), .val (.ref x_a), .val (.ref j1), .val (.ref x_b), .val (.int cv), .val (.ref x_d), .val (.int (Int32.ofNat (ct)))] [])) _
    refine XS.aload X1058.here hx rfl (hb hby at_253) rfl rfl ?_
    refine XS.iload X1058.here hx rfl (hb hby at_255) rfl ?_
    refine XS.iconst X1058.here hx rfl (hb hby at_257) ?_
    refine XS.iload X1058.here hx rfl (hb hby at_258) rfl ?_
    refine XS.iload X1058.here hx rfl (hb hby at_260) rfl ?_
    refine st1065 _ ?_
    refine XS.ifNo X1065.here hx rfl (hb hby at_265) rfl ((if0 _ _).trans (feq (by decide : ¬ ((1 : Int32) = (0 : Int32)))).1) ?_
    show Steps p.tables e below (T1065.setTop (mkF m 268 #[.val (.int p0), .val (.int p1), .val (.int p2), .val (.int p3), .val (.int p4), .val (.int fo), .val (.int fn), .val (.ref y1), .val (.ref j1), .val (.int d0v), .val (.int (Int32.ofNat dn)), .val (.int ((Int32.ofNat dn) - d0v)), .val (.ref x_a), .val (.ref j1), .val (.ref x_b), .val (.int cv), .val (.ref x_d), .val (.int (Int32.ofNat (ct)))] [])) _
    refine XS.aload X1065.here hx rfl (hb hby at_268) rfl rfl ?_
    refine XS.iload X1065.here hx rfl (hb hby at_270) rfl ?_
    refine XS.iconst X1065.here hx rfl (hb hby at_272) ?_
    refine XS.iload X1065.here hx rfl (hb hby at_273) rfl ?_
    refine XS.iload X1065.here hx rfl (hb hby at_275) rfl ?_
    refine st1072 _ ?_
    refine XS.ifNo X1072.here hx rfl (hb hby at_280) rfl ((if0 _ _).trans (feq (by decide : ¬ ((1 : Int32) = (0 : Int32)))).1) ?_
    show Steps p.tables e below (T1072.setTop (mkF m 283 #[.val (.int p0), .val (.int p1), .val (.int p2), .val (.int p3), .val (.int p4), .val (.int fo), .val (.int fn), .val (.ref y1), .val (.ref j1), .val (.int d0v), .val (.int (Int32.ofNat dn)), .val (.int ((Int32.ofNat dn) - d0v)), .val (.ref x_a), .val (.ref j1), .val (.ref x_b), .val (.int cv), .val (.ref x_d), .val (.int (Int32.ofNat (ct)))] [])) _
    refine XS.aload X1072.here hx rfl (hb hby at_283) rfl rfl ?_
    refine XS.iload X1072.here hx rfl (hb hby at_285) rfl ?_
    refine XS.iconst X1072.here hx rfl (hb hby at_287) ?_
    refine XS.iload X1072.here hx rfl (hb hby at_288) rfl ?_
    refine XS.iload X1072.here hx rfl (hb hby at_290) rfl ?_
    refine st1079 _ ?_
    refine XS.ifNo X1079.here hx rfl (hb hby at_295) rfl ((if0 _ _).trans (feq (by decide : ¬ ((1 : Int32) = (0 : Int32)))).1) ?_
    show Steps p.tables e below (T1079.setTop (mkF m 298 #[.val (.int p0), .val (.int p1), .val (.int p2), .val (.int p3), .val (.int p4), .val (.int fo), .val (.int fn), .val (.ref y1), .val (.ref j1), .val (.int d0v), .val (.int (Int32.ofNat dn)), .val (.int ((Int32.ofNat dn) - d0v)), .val (.ref x_a), .val (.ref j1), .val (.ref x_b), .val (.int cv), .val (.ref x_d), .val (.int (Int32.ofNat (ct)))] [])) _
    refine XS.aload X1079.here hx rfl (hb hby at_298) rfl rfl ?_
    refine XS.iload X1079.here hx rfl (hb hby at_300) rfl ?_
    refine XS.bipush X1079.here hx rfl (hb hby at_302) ?_
    refine XS.iload X1079.here hx rfl (hb hby at_304) rfl ?_
    refine XS.iload X1079.here hx rfl (hb hby at_306) rfl ?_
    refine st1086 _ ?_
    refine XS.ifNo X1086.here hx rfl (hb hby at_311) rfl ((if0 _ _).trans (feq (by decide : ¬ ((1 : Int32) = (0 : Int32)))).1) ?_
    show Steps p.tables e below (T1086.setTop (mkF m 314 #[.val (.int p0), .val (.int p1), .val (.int p2), .val (.int p3), .val (.int p4), .val (.int fo), .val (.int fn), .val (.ref y1), .val (.ref j1), .val (.int d0v), .val (.int (Int32.ofNat dn)), .val (.int ((Int32.ofNat dn) - d0v)), .val (.ref x_a), .val (.ref j1), .val (.ref x_b), .val (.int cv), .val (.ref x_d), .val (.int (Int32.ofNat (ct)))] [])) _
    refine XS.aload X1086.here hx rfl (hb hby at_314) rfl rfl ?_
    refine XS.iload X1086.here hx rfl (hb hby at_316) rfl ?_
    refine XS.bipush X1086.here hx rfl (hb hby at_318) ?_
    refine XS.iload X1086.here hx rfl (hb hby at_320) rfl ?_
    refine XS.iload X1086.here hx rfl (hb hby at_322) rfl ?_
    refine st1093 _ ?_
    refine XS.ifNo X1093.here hx rfl (hb hby at_327) rfl ((if0 _ _).trans (feq (by decide : ¬ ((1 : Int32) = (0 : Int32)))).1) ?_
    show Steps p.tables e below (T1093.setTop (mkF m 330 #[.val (.int p0), .val (.int p1), .val (.int p2), .val (.int p3), .val (.int p4), .val (.int fo), .val (.int fn), .val (.ref y1), .val (.ref j1), .val (.int d0v), .val (.int (Int32.ofNat dn)), .val (.int ((Int32.ofNat dn) - d0v)), .val (.ref x_a), .val (.ref j1), .val (.ref x_b), .val (.int cv), .val (.ref x_d), .val (.int (Int32.ofNat (ct)))] [])) _
    refine XS.aload X1093.here hx rfl (hb hby at_330) rfl rfl ?_
    refine XS.iload X1093.here hx rfl (hb hby at_332) rfl ?_
    refine XS.bipush X1093.here hx rfl (hb hby at_334) ?_
    refine XS.iload X1093.here hx rfl (hb hby at_336) rfl ?_
    refine XS.iload X1093.here hx rfl (hb hby at_338) rfl ?_
    refine st1100 _ ?_
    refine XS.ifNo X1100.here hx rfl (hb hby at_343) rfl ((if0 _ _).trans (feq (by decide : ¬ ((1 : Int32) = (0 : Int32)))).1) ?_
    show Steps p.tables e below (T1100.setTop (mkF m 346 #[.val (.int p0), .val (.int p1), .val (.int p2), .val (.int p3), .val (.int p4), .val (.int fo), .val (.int fn), .val (.ref y1), .val (.ref j1), .val (.int d0v), .val (.int (Int32.ofNat dn)), .val (.int ((Int32.ofNat dn) - d0v)), .val (.ref x_a), .val (.ref j1), .val (.ref x_b), .val (.int cv), .val (.ref x_d), .val (.int (Int32.ofNat (ct)))] [])) _
    refine XS.aload X1100.here hx rfl (hb hby at_346) rfl rfl ?_
    refine XS.iload X1100.here hx rfl (hb hby at_348) rfl ?_
    refine XS.bipush X1100.here hx rfl (hb hby at_350) ?_
    refine XS.iload X1100.here hx rfl (hb hby at_352) rfl ?_
    refine XS.iload X1100.here hx rfl (hb hby at_354) rfl ?_
    refine st1107 _ ?_
    refine XS.ifNo X1107.here hx rfl (hb hby at_359) rfl ((if0 _ _).trans (feq (by decide : ¬ ((1 : Int32) = (0 : Int32)))).1) ?_
    show Steps p.tables e below (T1107.setTop (mkF m 362 #[.val (.int p0), .val (.int p1), .val (.int p2), .val (.int p3), .val (.int p4), .val (.int fo), .val (.int fn), .val (.ref y1), .val (.ref j1), .val (.int d0v), .val (.int (Int32.ofNat dn)), .val (.int ((Int32.ofNat dn) - d0v)), .val (.ref x_a), .val (.ref j1), .val (.ref x_b), .val (.int cv), .val (.ref x_d), .val (.int (Int32.ofNat (ct)))] [])) _
    refine XS.aload X1107.here hx rfl (hb hby at_362) rfl rfl ?_
    refine XS.iload X1107.here hx rfl (hb hby at_364) rfl ?_
    refine XS.bipush X1107.here hx rfl (hb hby at_366) ?_
    refine XS.iload X1107.here hx rfl (hb hby at_368) rfl ?_
    refine XS.iload X1107.here hx rfl (hb hby at_370) rfl ?_
    refine st1114 _ ?_
    refine XS.ifNo X1114.here hx rfl (hb hby at_375) rfl ((if0 _ _).trans (feq (by decide : ¬ ((1 : Int32) = (0 : Int32)))).1) ?_
    show Steps p.tables e below (T1114.setTop (mkF m 378 #[.val (.int p0), .val (.int p1), .val (.int p2), .val (.int p3), .val (.int p4), .val (.int fo), .val (.int fn), .val (.ref y1), .val (.ref j1), .val (.int d0v), .val (.int (Int32.ofNat dn)), .val (.int ((Int32.ofNat dn) - d0v)), .val (.ref x_a), .val (.ref j1), .val (.ref x_b), .val (.int cv), .val (.ref x_d), .val (.int (Int32.ofNat (ct)))] [])) _
    refine XS.aload X1114.here hx rfl (hb hby at_378) rfl rfl ?_
    refine XS.iload X1114.here hx rfl (hb hby at_380) rfl ?_
    refine XS.bipush X1114.here hx rfl (hb hby at_382) ?_
    refine XS.iload X1114.here hx rfl (hb hby at_384) rfl ?_
    refine XS.iload X1114.here hx rfl (hb hby at_386) rfl ?_
    refine st1121 _ ?_
    refine XS.ifNo X1121.here hx rfl (hb hby at_391) rfl ((if0 _ _).trans (feq (by decide : ¬ ((1 : Int32) = (0 : Int32)))).1) ?_
    show Steps p.tables e below (T1121.setTop (mkF m 394 #[.val (.int p0), .val (.int p1), .val (.int p2), .val (.int p3), .val (.int p4), .val (.int fo), .val (.int fn), .val (.ref y1), .val (.ref j1), .val (.int d0v), .val (.int (Int32.ofNat dn)), .val (.int ((Int32.ofNat dn) - d0v)), .val (.ref x_a), .val (.ref j1), .val (.ref x_b), .val (.int cv), .val (.ref x_d), .val (.int (Int32.ofNat (ct)))] [])) _
    refine XS.aload X1121.here hx rfl (hb hby at_394) rfl rfl ?_
    refine XS.iload X1121.here hx rfl (hb hby at_396) rfl ?_
    refine XS.bipush X1121.here hx rfl (hb hby at_398) ?_
    refine XS.iload X1121.here hx rfl (hb hby at_400) rfl ?_
    refine XS.iload X1121.here hx rfl (hb hby at_402) rfl ?_
    refine st1128 _ ?_
    refine XS.ifNo X1128.here hx rfl (hb hby at_407) rfl ((if0 _ _).trans (feq (by decide : ¬ ((1 : Int32) = (0 : Int32)))).1) ?_
    show Steps p.tables e below (T1128.setTop (mkF m 410 #[.val (.int p0), .val (.int p1), .val (.int p2), .val (.int p3), .val (.int p4), .val (.int fo), .val (.int fn), .val (.ref y1), .val (.ref j1), .val (.int d0v), .val (.int (Int32.ofNat dn)), .val (.int ((Int32.ofNat dn) - d0v)), .val (.ref x_a), .val (.ref j1), .val (.ref x_b), .val (.int cv), .val (.ref x_d), .val (.int (Int32.ofNat (ct)))] [])) _
    refine XS.aload X1128.here hx rfl (hb hby at_410) rfl rfl ?_
    refine XS.iload X1128.here hx rfl (hb hby at_412) rfl ?_
    refine XS.bipush X1128.here hx rfl (hb hby at_414) ?_
    refine XS.iload X1128.here hx rfl (hb hby at_416) rfl ?_
    refine XS.iload X1128.here hx rfl (hb hby at_418) rfl ?_
    refine st1135 _ ?_
    refine XS.ifNo X1135.here hx rfl (hb hby at_423) rfl ((if0 _ _).trans (feq (by decide : ¬ ((1 : Int32) = (0 : Int32)))).1) ?_
    show Steps p.tables e below (T1135.setTop (mkF m 426 #[.val (.int p0), .val (.int p1), .val (.int p2), .val (.int p3), .val (.int p4), .val (.int fo), .val (.int fn), .val (.ref y1), .val (.ref j1), .val (.int d0v), .val (.int (Int32.ofNat dn)), .val (.int ((Int32.ofNat dn) - d0v)), .val (.ref x_a), .val (.ref j1), .val (.ref x_b), .val (.int cv), .val (.ref x_d), .val (.int (Int32.ofNat (ct)))] [])) _
    refine XS.aload X1135.here hx rfl (hb hby at_426) rfl rfl ?_
    refine XS.iload X1135.here hx rfl (hb hby at_428) rfl ?_
    refine XS.bipush X1135.here hx rfl (hb hby at_430) ?_
    refine XS.iload X1135.here hx rfl (hb hby at_432) rfl ?_
    refine XS.iload X1135.here hx rfl (hb hby at_434) rfl ?_
    refine st1142 _ ?_
    refine XS.ifNo X1142.here hx rfl (hb hby at_439) rfl ((if0 _ _).trans (feq (by decide : ¬ ((1 : Int32) = (0 : Int32)))).1) ?_
    show Steps p.tables e below (T1142.setTop (mkF m 442 #[.val (.int p0), .val (.int p1), .val (.int p2), .val (.int p3), .val (.int p4), .val (.int fo), .val (.int fn), .val (.ref y1), .val (.ref j1), .val (.int d0v), .val (.int (Int32.ofNat dn)), .val (.int ((Int32.ofNat dn) - d0v)), .val (.ref x_a), .val (.ref j1), .val (.ref x_b), .val (.int cv), .val (.ref x_d), .val (.int (Int32.ofNat (ct)))] [])) _
    refine XS.aload X1142.here hx rfl (hb hby at_442) rfl rfl ?_
    refine XS.iload X1142.here hx rfl (hb hby at_444) rfl ?_
    refine XS.bipush X1142.here hx rfl (hb hby at_446) ?_
    refine XS.iload X1142.here hx rfl (hb hby at_448) rfl ?_
    refine XS.iload X1142.here hx rfl (hb hby at_450) rfl ?_
    refine st1149 _ ?_
    refine XS.ifNo X1149.here hx rfl (hb hby at_455) rfl ((if0 _ _).trans (feq (by decide : ¬ ((1 : Int32) = (0 : Int32)))).1) ?_
    show Steps p.tables e below (T1149.setTop (mkF m 458 #[.val (.int p0), .val (.int p1), .val (.int p2), .val (.int p3), .val (.int p4), .val (.int fo), .val (.int fn), .val (.ref y1), .val (.ref j1), .val (.int d0v), .val (.int (Int32.ofNat dn)), .val (.int ((Int32.ofNat dn) - d0v)), .val (.ref x_a), .val (.ref j1), .val (.ref x_b), .val (.int cv), .val (.ref x_d), .val (.int (Int32.ofNat (ct)))] [])) _
    refine XS.aload X1149.here hx rfl (hb hby at_458) rfl rfl ?_
    refine XS.iload X1149.here hx rfl (hb hby at_460) rfl ?_
    refine XS.bipush X1149.here hx rfl (hb hby at_462) ?_
    refine XS.iload X1149.here hx rfl (hb hby at_464) rfl ?_
    refine XS.iload X1149.here hx rfl (hb hby at_466) rfl ?_
    refine st1156 _ ?_
    refine XS.ifNo X1156.here hx rfl (hb hby at_471) rfl ((if0 _ _).trans (feq (by decide : ¬ ((1 : Int32) = (0 : Int32)))).1) ?_
    show Steps p.tables e below (T1156.setTop (mkF m 474 #[.val (.int p0), .val (.int p1), .val (.int p2), .val (.int p3), .val (.int p4), .val (.int fo), .val (.int fn), .val (.ref y1), .val (.ref j1), .val (.int d0v), .val (.int (Int32.ofNat dn)), .val (.int ((Int32.ofNat dn) - d0v)), .val (.ref x_a), .val (.ref j1), .val (.ref x_b), .val (.int cv), .val (.ref x_d), .val (.int (Int32.ofNat (ct)))] [])) _
    refine XS.aload X1156.here hx rfl (hb hby at_474) rfl rfl ?_
    refine XS.iload X1156.here hx rfl (hb hby at_476) rfl ?_
    refine XS.bipush X1156.here hx rfl (hb hby at_478) ?_
    refine XS.iload X1156.here hx rfl (hb hby at_480) rfl ?_
    refine XS.iload X1156.here hx rfl (hb hby at_482) rfl ?_
    refine st1163 _ ?_
    refine XS.ifNo X1163.here hx rfl (hb hby at_487) rfl ((if0 _ _).trans (feq (by decide : ¬ ((1 : Int32) = (0 : Int32)))).1) ?_
    show Steps p.tables e below (T1163.setTop (mkF m 490 #[.val (.int p0), .val (.int p1), .val (.int p2), .val (.int p3), .val (.int p4), .val (.int fo), .val (.int fn), .val (.ref y1), .val (.ref j1), .val (.int d0v), .val (.int (Int32.ofNat dn)), .val (.int ((Int32.ofNat dn) - d0v)), .val (.ref x_a), .val (.ref j1), .val (.ref x_b), .val (.int cv), .val (.ref x_d), .val (.int (Int32.ofNat (ct)))] [])) _
    refine XS.iconst X1163.here hx rfl (hb hby at_490) ?_
    refine XS.goto X1163.here hx rfl (pc0 := 491) (pc' := 495) rfl (hb hby at_491) (by decide) (by decide) ?_
    exact kt
  obtain ⟨fs, hr, hrun, hended, e1, e2, e3, e4⟩ := X1163.leaveW hSi1014 hk1164 (v := some (.int (1 : Int32))) (fun h => by rw [hret] at h; cases h)
  refine ⟨_, _, (pre1013 _ (pre1165 _ ?_)), hrun, hended, _, _, rfl, ?_, ?_, ⟨e1, e2, e3, e4.mono (by decide) (by decide)⟩⟩
  · show Steps p.tables e below (T1163.setTop (mkF m 495 #[.val (.int p0), .val (.int p1), .val (.int p2), .val (.int p3), .val (.int p4), .val (.int fo), .val (.int fn), .val (.ref y1), .val (.ref j1), .val (.int d0v), .val (.int (Int32.ofNat dn)), .val (.int ((Int32.ofNat dn) - d0v)), .val (.ref x_a), .val (.ref j1), .val (.ref x_b), .val (.int cv), .val (.ref x_d), .val (.int (Int32.ofNat (ct)))] [(.int (1 : Int32))])) _
    exact retN X1163 hx (t := .boolean) hret (by simp) (hb hby at_495) hr
  · show Q0 Z p0 p1 p2 p3 p4 zc fm h0 n0 _ T1163.heap _ T1163.vm
    exact ⟨rfl, N1163⟩
  · have q := cr1164.trans (CHv.at X1163 hZ hEL ch1164)
    show CHr Z EL s.vm s.heap T1163.vm T1163.heap
    rw [hh]
    exact q
theorem ef_0 (m : MethodId) (x0 : Int32) (x1 : Int32) (x2 : Int32) (x3 : Int32) (x4 : Int32) : entryFrame m #[(.int x0), (.int x1), (.int x2), (.int x3), (.int x4)] maxLocals = mkF m 0 #[.val (.int x0), .val (.int x1), .val (.int x2), .val (.int x3), .val (.int x4), .unset, .unset, .unset, .unset, .unset, .unset, .unset, .unset, .unset, .unset, .unset, .unset, .unset] [] := by (first | (simp [entryFrame, mkF, argsToLocals, Value.category, maxLocals]; done) | rfl)
theorem pd__Ljava_lang_String_Ljava_lang_String__V : parseMethodDescriptor "(Ljava/lang/String;Ljava/lang/String;)V" = some ⟨[(.object "java/lang/String"), (.object "java/lang/String")], none⟩ := by decide +kernel
set_option maxRecDepth 65536 in
set_option maxHeartbeats 40000000 in
theorem rm0 (l : Launch) (Z : State) (a0 : Array Value) (hw : ∀ d ∈ tables_1, d.before a0 Z = true) (ws : List Jvm.Cond) (p0 : Int32) (p1 : Int32) (p2 : Int32) (p3 : Int32) (p4 : Int32) (zc : Int32) (fm : Value) (h0 : Heap) (n0 : Nat) (Z0 : n0 ≤ h0.size) (hEL : EW Z a0 EL) (OZ : Old Z n0 h0) (SC : Sta Z Z.heap "java/lang/String" "COMPACT_STRINGS" "Z" (.int zc)) (hzc : ¬ zc = (0 : Int32)) (SFm : Sta Z Z.heap "jdk/internal/util/Preconditions" "SIOOBE_FORMATTER" "Ljava/util/function/BiFunction;" fm) (rf : fm.isRef = true) :
    MetFree l x (head1 (Jvm.Cond.code x code maxLocals ret :: ws) room_1) (fun a U => a = #[(.int p0), (.int p1), (.int p2), (.int p3), (.int p4)] ∧ Z.Warmed39 U.vm ∧ U.heap = h0 ∧ CHv Z EL U.vm h0) (fun _ _ _ _ _ => True) (fun _ U o U' => ∃ v L, o = .returned v ∧ Q0 Z p0 p1 p2 p3 p4 zc fm h0 n0 v U'.heap L U'.vm ∧ CHr Z EL U.vm U.heap U'.vm U'.heap ∧ ReturnedEndW U o U' L room_1.cells room_1.slots) := by
  refine MetFree.of_bodySF (plainFor_of_name pn_com_example_orbweaver_orbweaver_mapping_JavaSourceDeeperPinLaw) hisR ?_
  intro p e s m args below meth c s₁ Bd hml0 hP hK
  obtain ⟨rfl, hZ, hh, hCH⟩ := hP
  have hx := Bd.exec
  have hby := Bd.bytes
  have hml : c.maxLocals = 18 := hml0
  have hown : s.vm.findClass "com/example/orbweaver/orbweaver/mapping/JavaSourceDeeperPinLaw" = some m.cls := findClass_of_methodNamed Bd.named
  have hnm := (name_of_methodNamed Bd.named Bd.method).1
  have X0 : Stand p l e room_1 s m #[(.int p0), (.int p1), (.int p2), (.int p3), (.int p4)] below meth c s₁ [] 0 0 := Stand.of_body Bd
  have e0 : s₁.heap = h0 := by rw [← hh, Bd.state]; rfl
  have N0 := Fr.nil n0
  have pre0 : ∀ t, Steps p.tables e below (s₁.setTop (mkF m 0 #[.val (.int p0), .val (.int p1), .val (.int p2), .val (.int p3), .val (.int p4), .unset, .unset, .unset, .unset, .unset, .unset, .unset, .unset, .unset, .unset, .unset, .unset, .unset] [])) t → Steps p.tables e below (s₁.setTop (entryFrame m #[(.int p0), (.int p1), (.int p2), (.int p3), (.int p4)] maxLocals)) t := fun t k => castTop (ef_0 m p0 p1 p2 p3 p4) k
  have X0 : Stand p l e room_1 (s.setVm s.vm) m #[(.int p0), (.int p1), (.int p2), (.int p3), (.int p4)] below meth c s₁ [] 0 0 := by rw [State.setVm_self]; exact X0
  have hZ : Z.Warmed39 (s.setVm s.vm).vm := hZ
  have hown : (s.setVm s.vm).vm.findClass "com/example/orbweaver/orbweaver/mapping/JavaSourceDeeperPinLaw" = some m.cls := hown
  have hSi0 : s.Since s.vm 0 := (State.WarmedH.refl s).since 0
  obtain ⟨c3v, ec3, hc3, -⟩ := own_ch p3
  obtain ⟨c2v, ec2, hc2, -⟩ := own_ch p2
  obtain ⟨c8v, ec8, hc8, -⟩ := own_ch ((p2.toUInt32 >>> ((8 : Int32) &&& 31).toUInt32).toInt32)
  by_cases cop : (p0 &&& (1 : Int32)) = (0 : Int32)
  · skip
    have pre1166 : ∀ t, Steps p.tables e below (s₁.setTop (mkF m 16 #[.val (.int p0), .val (.int p1), .val (.int p2), .val (.int p3), .val (.int p4), .val (.int (0 : Int32)), .unset, .unset, .unset, .unset, .unset, .unset, .unset, .unset, .unset, .unset, .unset, .unset] [(.int (p0 &&& (2 : Int32)))])) t → Steps p.tables e below (s₁.setTop (mkF m 0 #[.val (.int p0), .val (.int p1), .val (.int p2), .val (.int p3), .val (.int p4), .unset, .unset, .unset, .unset, .unset, .unset, .unset, .unset, .unset, .unset, .unset, .unset, .unset] [])) t := by
      intro t kt
      show Steps p.tables e below (s₁.setTop (mkF m 0 #[.val (.int p0), .val (.int p1), .val (.int p2), .val (.int p3), .val (.int p4), .unset, .unset, .unset, .unset, .unset, .unset, .unset, .unset, .unset, .unset, .unset, .unset, .unset] [])) _
      refine XS.iloadN X0.here hx rfl (hb hby at_0) rfl ?_
      refine XS.iconst X0.here hx rfl (hb hby at_1) ?_
      refine XS.iand X0.here hx rfl (hb hby at_2) rfl ?_
      refine XS.ifYes X0.here hx rfl (pc0 := 3) (pc' := 10) rfl (hb hby at_3) rfl ((if0 _ _).trans (teq (cop : (p0 &&& (1 : Int32)) = (0 : Int32))).1) (by decide) (by decide) ?_
      show Steps p.tables e below (s₁.setTop (mkF m 10 #[.val (.int p0), .val (.int p1), .val (.int p2), .val (.int p3), .val (.int p4), .unset, .unset, .unset, .unset, .unset, .unset, .unset, .unset, .unset, .unset, .unset, .unset, .unset] [])) _
      refine XS.iconst X0.here hx rfl (hb hby at_10) ?_
      refine XS.istore X0.here hx rfl (hb hby at_11) rfl (l' := #[.val (.int p0), .val (.int p1), .val (.int p2), .val (.int p3), .val (.int p4), .val (.int (0 : Int32)), .unset, .unset, .unset, .unset, .unset, .unset, .unset, .unset, .unset, .unset, .unset, .unset]) rfl ?_
      refine XS.iloadN X0.here hx rfl (hb hby at_13) rfl ?_
      refine XS.iconst X0.here hx rfl (hb hby at_14) ?_
      refine XS.iand X0.here hx rfl (hb hby at_15) rfl ?_
      exact kt
    by_cases cnm : (p0 &&& (2 : Int32)) = (0 : Int32)
    · skip
      have pre1167 : ∀ t, Steps p.tables e below (s₁.setTop (mkF m 43 #[.val (.int p0), .val (.int p1), .val (.int p2), .val (.int p3), .val (.int p4), .val (.int (0 : Int32)), .val (.int (0 : Int32)), .unset, .unset, .unset, .unset, .unset, .unset, .unset, .unset, .unset, .unset, .unset] [])) t → Steps p.tables e below (s₁.setTop (mkF m 16 #[.val (.int p0), .val (.int p1), .val (.int p2), .val (.int p3), .val (.int p4), .val (.int (0 : Int32)), .unset, .unset, .unset, .unset, .unset, .unset, .unset, .unset, .unset, .unset, .unset, .unset] [(.int (p0 &&& (2 : Int32)))])) t := by
        intro t kt
        refine XS.ifYes X0.here hx rfl (pc0 := 16) (pc' := 23) rfl (hb hby at_16) rfl ((if0 _ _).trans (teq (cnm : (p0 &&& (2 : Int32)) = (0 : Int32))).1) (by decide) (by decide) ?_
        show Steps p.tables e below (s₁.setTop (mkF m 23 #[.val (.int p0), .val (.int p1), .val (.int p2), .val (.int p3), .val (.int p4), .val (.int (0 : Int32)), .unset, .unset, .unset, .unset, .unset, .unset, .unset, .unset, .unset, .unset, .unset, .unset] [])) _
        refine XS.iconst X0.here hx rfl (hb hby at_23) ?_
        refine XS.istore X0.here hx rfl (hb hby at_24) rfl (l' := #[.val (.int p0), .val (.int p1), .val (.int p2), .val (.int p3), .val (.int p4), .val (.int (0 : Int32)), .val (.int (0 : Int32)), .unset, .unset, .unset, .unset, .unset, .unset, .unset, .unset, .unset, .unset, .unset]) rfl ?_
        show Steps p.tables e below (s₁.setTop (mkF m 26 #[.val (.int p0), .val (.int p1), .val (.int p2), .val (.int p3), .val (.int p4), .val (.int (0 : Int32)), .val (.int (0 : Int32)), .unset, .unset, .unset, .unset, .unset, .unset, .unset, .unset, .unset, .unset, .unset] [])) _
        refine XS.iload X0.here hx rfl (hb hby at_26) rfl ?_
        refine XS.ifYes X0.here hx rfl (pc0 := 28) (pc' := 43) rfl (hb hby at_28) rfl ((if0 _ _).trans (teq (by decide : (0 : Int32) = (0 : Int32))).1) (by decide) (by decide) ?_
        exact kt
      have wS1168 : ∀ a ∈ Bundle.stringAtoms, a.before a0 Z = true := fun d hd => hw d ((by decide +kernel : ∀ d ∈ Bundle.stringAtoms, d ∈ tables_1) d hd)
      obtain ⟨b1168, T1168, h1168, k1168, d1168, kb1168, X1168, e1168, E1168, hSi1168, hk1168, hZ, hown, A1168, FC1168, FV1168, V1168, -, -, crs1168, Lt1168, nn1168, st1168⟩ := ldcCH (s := s) (vm0 := s.vm) X0 hx hZ hown (tw hw 0 rfl) wS1168 e0 hSi0 (Nat.zero_le _) hEL (by decide : ("com/example/orbweaver/orbweaver/mapping/JavaSourceDeeperPinLaw", 17) ∈ EL) hCH (vs := []) (z := (0 : Int32)) ⟨by decide, rfl⟩ (by decide) (by decide) (g := (mkF m 43 #[.val (.int p0), .val (.int p1), .val (.int p2), .val (.int p3), .val (.int p4), .val (.int (0 : Int32)), .val (.int (0 : Int32)), .unset, .unset, .unset, .unset, .unset, .unset, .unset, .unset, .unset, .unset, .unset] [])) rfl (hb hby at_43) (n := 0) (by decide) (by decide) (by decide) (by decide)
      have cs1169 := crs1168
      have cr1169 := (CHr.refl hCH).trans cs1169
      have Z1168 := Nat.le_trans Z0 E1168.1
      have K1168 := (Keep.refl h0 []).ext E1168
      obtain ⟨T1170, h1170, X1170, e1170, E1170, A1170, D1170, -, st1170⟩ := newO X1168 hx hZ hown (tw hw 8 rfl) (tw hw 9 rfl) (tw hw 10 rfl) e1168 (g := (mkF m 47 #[.val (.int p0), .val (.int p1), .val (.int p2), .val (.int p3), .val (.int p4), .val (.int (0 : Int32)), .val (.int (0 : Int32)), .val (.ref b1168), .unset, .unset, .unset, .unset, .unset, .unset, .unset, .unset, .unset, .unset] [])) rfl (hb hby at_47) (by decide) (by decide)
      obtain ⟨b1170, g1170⟩ : ∃ z, z = h1168.size := ⟨_, rfl⟩
      rw [← g1170] at A1170 D1170 st1170
      have g_b1170 : n0 ≤ b1170 := Nat.le_trans Z1168 (Nat.le_of_eq g1170.symm)
      have sz_b1170 : h0.size ≤ b1170 := Nat.le_trans K1168.1 (Nat.le_of_eq g1170.symm)
      have cs1171 := CHr.ext E1170 cs1169.1
      have cr1171 := cr1169.trans cs1171
      have hk1171 := Nat.le_trans hk1168 cs1171.2.1
      have Z1170 := Nat.le_trans Z1168 E1170.1
      have K1170 := K1168.ext E1170
      have F1170_text : Fld Z h1170 b1170 "com/example/orbweaver/orbweaver/mapping/JavaSource" "text" "Ljava/lang/StringBuilder;" .null := D1170 (Or.inr (tw hw 55 rfl)) (ty := (.object "java/lang/StringBuilder")) (by decide)
      have F1170_depth : Fld Z h1170 b1170 "com/example/orbweaver/orbweaver/mapping/JavaSource" "depth" "I" (.int (0 : Int32)) := D1170 (Or.inl (tw hw 174 rfl)) (ty := .int) (by decide)
      have f1172 := ((OZ.ext E1168).ext E1170)
      have f1174 := (A1168.ext E1170)
      have f1175 := (V1168.ext E1170)
      obtain ⟨_, _, ⟨T1173, L1173, k1173, n1173⟩, -, X1173, ⟨Lc1173, hQ1173, l1173, y1173, z1173⟩, st1173⟩ := Jvm.LawKit.callS X1170 hx (y := (⟨"java/lang/String", "valueOf", "(C)Ljava/lang/String;"⟩ : MethodName)) hown (mvT hZ (tw hw 11 rfl)) (mvT hZ (tw hw 12 rfl)) (mvT hZ (tw hw 1 rfl)) (mvT hZ (tw hw 13 rfl)) (by decide) (backOf (W := 2) (rmVoC l Z a0 hw [] c2v zc h1170 n0 Z1170 hc2 (SC.ext f1172.2) hzc) hZ (tw hw 13 rfl) (tw hw 1 rfl) (by decide) (by decide)) (g := (mkF m 57 #[.val (.int p0), .val (.int p1), .val (.int p2), .val (.int p3), .val (.int p4), .val (.int (0 : Int32)), .val (.int (0 : Int32)), .val (.ref b1168), .unset, .unset, .unset, .unset, .unset, .unset, .unset, .unset, .unset, .unset] [(.int c2v), (.ref b1170), (.ref b1170)])) rfl (by rw [hml]; rfl) (argsL := [(.int c2v)]) (rest := [(.ref b1170), (.ref b1170)]) (lenOf pd__C_Ljava_lang_String_ rfl) rfl (by show 2 * 0 + _ ≤ _; exact Nat.le_of_eq rfl) (hb hby at_57) (fun _ _ => ⟨rfl, e1170, (by decide : 3 + 2 ≤ _), (by decide : 6 + 5 ≤ _)⟩)
      dsimp only [Pt.U, Pt.locs, Pt.cells, Pt.slots] at X1173 l1173 y1173 z1173 st1173 hQ1173
      subst l1173 y1173 z1173
      obtain ⟨x_x, rfl, N1173q, EX1173, le_x, t_x, k_x, ⟨E_x, V_x, C_x, A_x⟩, lt_x⟩ := hQ1173
      have N1173 := Fr.app N0 N1173q
      have g_x_x : n0 ≤ x_x := Nat.le_trans Z1170 le_x
      have sz_x_x : h0.size ≤ x_x := Nat.le_trans K1170.1 le_x
      have g_t_x : n0 ≤ t_x := Nat.le_trans Z1170 lt_x
      have sz_t_x : h0.size ≤ t_x := Nat.le_trans K1170.1 lt_x
      have cs1176 := CHr.ext EX1173 cs1171.1
      have cr1176 := cr1171.trans cs1176
      have hk1176 := Nat.le_trans hk1171 cs1176.2.1
      have Z1173 := Nat.le_trans Z1170 EX1173.1
      have K1173 := K1170.ext EX1173
      have f1177 := (A1170.ext EX1173)
      have f1178 := (F1170_text.ext EX1173)
      have f1179 := (F1170_depth.ext EX1173)
      have f1180 := (f1174.ext EX1173)
      have f1181 := ((FV1168.ext E1170).ext EX1173)
      have f1182 := (f1175.ext EX1173)
      have f1183 := (f1172.ext EX1173)
      have pre1184 : ∀ t, Steps p.tables e below (T1173.setTop (mkF m 62 #[.val (.int p0), .val (.int p1), .val (.int p2), .val (.int p3), .val (.int p4), .val (.int (0 : Int32)), .val (.int (0 : Int32)), .val (.ref b1168), .unset, .unset, .unset, .unset, .unset, .unset, .unset, .unset, .unset, .unset] [(.ref b1168), (.ref x_x), (.ref b1170), (.ref b1170)])) t → Steps p.tables e below (s₁.setTop (mkF m 43 #[.val (.int p0), .val (.int p1), .val (.int p2), .val (.int p3), .val (.int p4), .val (.int (0 : Int32)), .val (.int (0 : Int32)), .unset, .unset, .unset, .unset, .unset, .unset, .unset, .unset, .unset, .unset, .unset] [])) t := by
        intro t kt
        show Steps p.tables e below (s₁.setTop (mkF m 43 #[.val (.int p0), .val (.int p1), .val (.int p2), .val (.int p3), .val (.int p4), .val (.int (0 : Int32)), .val (.int (0 : Int32)), .unset, .unset, .unset, .unset, .unset, .unset, .unset, .unset, .unset, .unset, .unset] [])) _
        refine st1168 _ ?_
        show Steps p.tables e below (T1168.setTop (mkF m 45 #[.val (.int p0), .val (.int p1), .val (.int p2), .val (.int p3), .val (.int p4), .val (.int (0 : Int32)), .val (.int (0 : Int32)), .unset, .unset, .unset, .unset, .unset, .unset, .unset, .unset, .unset, .unset, .unset] [(.ref b1168)])) _
        refine XS.astore X1168.here hx rfl (hb hby at_45) rfl rfl (l' := #[.val (.int p0), .val (.int p1), .val (.int p2), .val (.int p3), .val (.int p4), .val (.int (0 : Int32)), .val (.int (0 : Int32)), .val (.ref b1168), .unset, .unset, .unset, .unset, .unset, .unset, .unset, .unset, .unset, .unset]) rfl ?_
        show Steps p.tables e below (T1168.setTop (mkF m 47 #[.val (.int p0), .val (.int p1), .val (.int p2), .val (.int p3), .val (.int p4), .val (.int (0 : Int32)), .val (.int (0 : Int32)), .val (.ref b1168), .unset, .unset, .unset, .unset, .unset, .unset, .unset, .unset, .unset, .unset] [])) _
        refine st1170 _ ?_
        show Steps p.tables e below (T1170.setTop (mkF m 50 #[.val (.int p0), .val (.int p1), .val (.int p2), .val (.int p3), .val (.int p4), .val (.int (0 : Int32)), .val (.int (0 : Int32)), .val (.ref b1168), .unset, .unset, .unset, .unset, .unset, .unset, .unset, .unset, .unset, .unset] [(.ref b1170)])) _
        refine XS.dup X1170.here hx rfl (hb hby at_50) rfl rfl ?_
        refine XS.iloadN X1170.here hx rfl (hb hby at_51) rfl ?_
        refine XS.sipush X1170.here hx rfl (hb hby at_52) ?_
        refine XS.iand X1170.here hx rfl (hb hby at_55) rfl ?_
        refine XS.i2c X1170.here hx rfl (hb hby at_56) rfl ?_
        show Steps p.tables e below (T1170.setTop (mkF m 57 #[.val (.int p0), .val (.int p1), .val (.int p2), .val (.int p3), .val (.int p4), .val (.int (0 : Int32)), .val (.int (0 : Int32)), .val (.ref b1168), .unset, .unset, .unset, .unset, .unset, .unset, .unset, .unset, .unset, .unset] [(.int ((p2 &&& (255 : Int32)).toUInt32.toUInt16.toUInt32.toInt32)), (.ref b1170), (.ref b1170)])) _
        rw [ec2]
        refine st1173 _ ?_
        show Steps p.tables e below (T1173.setTop (mkF m 60 #[.val (.int p0), .val (.int p1), .val (.int p2), .val (.int p3), .val (.int p4), .val (.int (0 : Int32)), .val (.int (0 : Int32)), .val (.ref b1168), .unset, .unset, .unset, .unset, .unset, .unset, .unset, .unset, .unset, .unset] [(.ref x_x), (.ref b1170), (.ref b1170)])) _
        refine XS.aload X1173.here hx rfl (hb hby at_60) rfl rfl ?_
        exact kt
      obtain ⟨_, _, ⟨T1185, L1185, k1185, n1185⟩, -, X1185, hs1185, hg1185, ⟨Lc1185, hQ1185, l1185, y1185, z1185, crs1185⟩, st1185⟩ := X1173.specialBackS hx (y := (⟨"com/example/orbweaver/orbweaver/mapping/JavaSource", "<init>", "(Ljava/lang/String;Ljava/lang/String;)V"⟩ : MethodName)) rfl hown (mvT hZ (tw hw 32 rfl)) (mvT hZ (tw hw 33 rfl)) (mvT hZ (tw hw 34 rfl)) (by decide) (own_backS0 (s := s) (W := 1) (rmCtor0 l Z a0 hw [] b1170 x_x t_x k_x [(.int (nar .byte (c2v.toInt8.toInt32)))] b1168 d1168 kb1168 [] zc T1173.heap n0 Z1173 hEL f1177 f1178 f1179 g_b1170 E_x V_x C_x A_x rfl f1180 f1181 f1182 f1183 SC hzc) hZ (tw hw 34 rfl) (tw hw 10 rfl) (by decide) (by decide) hEL cs1176.1) (g := (mkF m 62 #[.val (.int p0), .val (.int p1), .val (.int p2), .val (.int p3), .val (.int p4), .val (.int (0 : Int32)), .val (.int (0 : Int32)), .val (.ref b1168), .unset, .unset, .unset, .unset, .unset, .unset, .unset, .unset, .unset, .unset] [(.ref b1168), (.ref x_x), (.ref b1170), (.ref b1170)])) rfl (by rw [hml]; rfl) (Steps.refl _) (a := b1170) (argsL := [(.ref x_x), (.ref b1168)]) (rest := [(.ref b1170)]) (lenOf pd__Ljava_lang_String_Ljava_lang_String__V rfl) rfl (by show 2 * 0 + _ ≤ _; exact Nat.le_of_eq rfl) (hb hby at_62) (fun _ _ => ⟨rfl, rfl, (by decide : 5 + 22 ≤ _), (by decide : 11 + 2400 ≤ _)⟩)
      dsimp only [Pt.U, Pt.locs, Pt.cells, Pt.slots] at X1185 l1185 y1185 z1185 st1185 hQ1185 hs1185 hg1185 crs1185
      subst l1185 y1185 z1185
      obtain ⟨X1185, hSi1185, hZ, hown⟩ := rebS hSi1168 (hk1176) X1185 hs1185 hg1185 hZ hown
      obtain ⟨rfl, N1185q, KC1185, b1, v1, k1, vs, ⟨JE1, JT1, JD1⟩, ⟨BE1, BV1, BC1, BN1, BA1, BX1⟩, hvl, lb1, lv1, y_v1⟩ := hQ1185
      have N1185 := Fr.app N1173 N1185q
      have g_b1 : n0 ≤ b1 := Nat.le_trans Z1173 lb1
      have sz_b1 : h0.size ≤ b1 := Nat.le_trans K1173.1 lb1
      have ne_t_x_b1 : t_x ≠ b1 := Nat.ne_of_lt (Nat.lt_of_lt_of_le A_x.lt lb1)
      have ne_x_x_b1 : x_x ≠ b1 := Nat.ne_of_lt (Nat.lt_of_lt_of_le E_x.lt lb1)
      have g_v1 : n0 ≤ v1 := Nat.le_trans Z1173 lv1
      have sz_v1 : h0.size ≤ v1 := Nat.le_trans K1173.1 lv1
      have ne_t_x_v1 : t_x ≠ v1 := Nat.ne_of_lt (Nat.lt_of_lt_of_le A_x.lt lv1)
      have ne_x_x_v1 : x_x ≠ v1 := Nat.ne_of_lt (Nat.lt_of_lt_of_le E_x.lt lv1)
      have cs1186 := crs1185
      have cr1186 := cr1176.trans cs1186
      have Z1185 := Nat.le_trans Z1173 KC1185.1
      have K1185 := K1173.trans KC1185 (allS (Or.inr sz_b1170) all0)
      have ne_b1_v1 : b1 ≠ v1 := BE1.neArv BA1 (tw hw 37 rfl)
      obtain ⟨LL1187, XL1187, NL1187⟩ : ∃ LL, Stand p l e room_1 (s.setVm T1185.vm) m #[(.int p0), (.int p1), (.int p2), (.int p3), (.int p4)] below meth c T1185 LL 27 2411 ∧ Fr n0 LL := ⟨_, X1185, N1185⟩
      have pre1188 : ∀ t, Steps p.tables e below (T1185.setTop (mkF m 96 #[.val (.int p0), .val (.int p1), .val (.int p2), .val (.int p3), .val (.int p4), .val (.int (0 : Int32)), .val (.int (0 : Int32)), .val (.ref b1168), .val (.ref b1170), .val (.int (0 : Int32)), .unset, .unset, .unset, .unset, .unset, .unset, .unset, .unset] [])) t → Steps p.tables e below (T1173.setTop (mkF m 62 #[.val (.int p0), .val (.int p1), .val (.int p2), .val (.int p3), .val (.int p4), .val (.int (0 : Int32)), .val (.int (0 : Int32)), .val (.ref b1168), .unset, .unset, .unset, .unset, .unset, .unset, .unset, .unset, .unset, .unset] [(.ref b1168), (.ref x_x), (.ref b1170), (.ref b1170)])) t := by
        intro t kt
        refine st1185.trans ?_
        show Steps p.tables e below (T1185.setTop (mkF m 65 #[.val (.int p0), .val (.int p1), .val (.int p2), .val (.int p3), .val (.int p4), .val (.int (0 : Int32)), .val (.int (0 : Int32)), .val (.ref b1168), .unset, .unset, .unset, .unset, .unset, .unset, .unset, .unset, .unset, .unset] [(.ref b1170)])) _
        refine XS.astore XL1187.here hx rfl (hb hby at_65) rfl rfl (l' := #[.val (.int p0), .val (.int p1), .val (.int p2), .val (.int p3), .val (.int p4), .val (.int (0 : Int32)), .val (.int (0 : Int32)), .val (.ref b1168), .val (.ref b1170), .unset, .unset, .unset, .unset, .unset, .unset, .unset, .unset, .unset]) rfl ?_
        refine XS.iconst XL1187.here hx rfl (hb hby at_67) ?_
        refine XS.istore XL1187.here hx rfl (hb hby at_68) rfl (l' := #[.val (.int p0), .val (.int p1), .val (.int p2), .val (.int p3), .val (.int p4), .val (.int (0 : Int32)), .val (.int (0 : Int32)), .val (.ref b1168), .val (.ref b1170), .val (.int (0 : Int32)), .unset, .unset, .unset, .unset, .unset, .unset, .unset, .unset]) rfl ?_
        refine XS.iload XL1187.here hx rfl (hb hby at_70) rfl ?_
        refine XS.ifYes XL1187.here hx rfl (pc0 := 72) (pc' := 96) rfl (hb hby at_72) rfl ((if0 _ _).trans (teq (by decide : (0 : Int32) = (0 : Int32))).1) (by decide) (by decide) ?_
        exact kt
      have f1189 := (f1183.keep KC1185 (allS g_b1170 all0))
      obtain ⟨s2, o2, q1, q2, q3, q4⟩ := tail0 p0 p1 p2 p3 p4 zc fm (h0 := h0) (hT := T1185.heap) (ct := 76) (XL1187.more (by decide) (by decide)) hx hZ hw hby hml hown Bd.returns Bd.notSynchronized hh rfl NL1187 hSi1185 (Nat.le_refl _) hEL cs1186.1 cr1186 Z1185 K1185 f1189 SC hzc SFm rf sz_b1170 sz_b1 sz_v1 JE1 JT1 JD1 g_b1170 BE1 BV1 BC1 BN1 BA1 BX1 hvl g_b1 g_v1 y_v1 (by decide) (fun x => by show (0 : Int32) + (x - (0 : Int32)) = x; rw [Int32.sub_zero, Int32.zero_add])
      exact ⟨s2, o2, (pre0 _ (pre1166 _ (pre1167 _ (pre1184 _ (pre1188 _ q1))))), q2, q3, q4⟩
    · skip
      obtain ⟨_, _, ⟨T1190, L1190, k1190, n1190⟩, -, X1190, ⟨Lc1190, hQ1190, l1190, y1190, z1190⟩, st1190⟩ := Jvm.LawKit.callS X0 hx (y := (⟨"java/lang/String", "valueOf", "(C)Ljava/lang/String;"⟩ : MethodName)) hown (mvT hZ (tw hw 11 rfl)) (mvT hZ (tw hw 12 rfl)) (mvT hZ (tw hw 1 rfl)) (mvT hZ (tw hw 13 rfl)) (by decide) (backOf (W := 0) (rmVoC l Z a0 hw [] c3v zc h0 n0 Z0 hc3 (SC.ext OZ.2) hzc) hZ (tw hw 13 rfl) (tw hw 1 rfl) (by decide) (by decide)) (g := (mkF m 37 #[.val (.int p0), .val (.int p1), .val (.int p2), .val (.int p3), .val (.int p4), .val (.int (0 : Int32)), .val (.int (1 : Int32)), .unset, .unset, .unset, .unset, .unset, .unset, .unset, .unset, .unset, .unset, .unset] [(.int c3v)])) rfl (by rw [hml]; rfl) (argsL := [(.int c3v)]) (rest := []) (lenOf pd__C_Ljava_lang_String_ rfl) rfl (by show 2 * 0 + _ ≤ _; exact Nat.le_of_eq rfl) (hb hby at_37) (fun _ _ => ⟨rfl, e0, (by decide : 0 + 2 ≤ _), (by decide : 0 + 5 ≤ _)⟩)
      dsimp only [Pt.U, Pt.locs, Pt.cells, Pt.slots] at X1190 l1190 y1190 z1190 st1190 hQ1190
      subst l1190 y1190 z1190
      obtain ⟨x_y, rfl, N1190q, EX1190, le_y, t_y, k_y, ⟨E_y, V_y, C_y, A_y⟩, lt_y⟩ := hQ1190
      have N1190 := Fr.app N0 N1190q
      have g_x_y : n0 ≤ x_y := Nat.le_trans Z0 le_y
      have sz_x_y : h0.size ≤ x_y := Nat.le_trans (Keep.refl h0 []).1 le_y
      have g_t_y : n0 ≤ t_y := Nat.le_trans Z0 lt_y
      have sz_t_y : h0.size ≤ t_y := Nat.le_trans (Keep.refl h0 []).1 lt_y
      have cs1191 := CHr.ext EX1190 hCH
      have cr1191 := (CHr.refl hCH).trans cs1191
      have hk1191 := Nat.le_trans (Nat.zero_le _) cs1191.2.1
      have Z1190 := Nat.le_trans Z0 EX1190.1
      have K1190 := (Keep.refl h0 []).ext EX1190
      obtain ⟨T1192, h1192, X1192, e1192, E1192, A1192, D1192, -, st1192⟩ := newO X1190 hx hZ hown (tw hw 8 rfl) (tw hw 9 rfl) (tw hw 10 rfl) rfl (g := (mkF m 47 #[.val (.int p0), .val (.int p1), .val (.int p2), .val (.int p3), .val (.int p4), .val (.int (0 : Int32)), .val (.int (1 : Int32)), .val (.ref x_y), .unset, .unset, .unset, .unset, .unset, .unset, .unset, .unset, .unset, .unset] [])) rfl (hb hby at_47) (by decide) (by decide)
      obtain ⟨b1192, g1192⟩ : ∃ z, z = T1190.heap.size := ⟨_, rfl⟩
      rw [← g1192] at A1192 D1192 st1192
      have g_b1192 : n0 ≤ b1192 := Nat.le_trans Z1190 (Nat.le_of_eq g1192.symm)
      have sz_b1192 : h0.size ≤ b1192 := Nat.le_trans K1190.1 (Nat.le_of_eq g1192.symm)
      have cs1193 := CHr.ext E1192 cs1191.1
      have cr1193 := cr1191.trans cs1193
      have hk1193 := Nat.le_trans hk1191 cs1193.2.1
      have Z1192 := Nat.le_trans Z1190 E1192.1
      have K1192 := K1190.ext E1192
      have F1192_text : Fld Z h1192 b1192 "com/example/orbweaver/orbweaver/mapping/JavaSource" "text" "Ljava/lang/StringBuilder;" .null := D1192 (Or.inr (tw hw 55 rfl)) (ty := (.object "java/lang/StringBuilder")) (by decide)
      have F1192_depth : Fld Z h1192 b1192 "com/example/orbweaver/orbweaver/mapping/JavaSource" "depth" "I" (.int (0 : Int32)) := D1192 (Or.inl (tw hw 174 rfl)) (ty := .int) (by decide)
      have f1194 := ((OZ.ext EX1190).ext E1192)
      have f1196 := (A_y.ext E1192)
      have f1197 := (E_y.ext E1192)
      obtain ⟨_, _, ⟨T1195, L1195, k1195, n1195⟩, -, X1195, ⟨Lc1195, hQ1195, l1195, y1195, z1195⟩, st1195⟩ := Jvm.LawKit.callS X1192 hx (y := (⟨"java/lang/String", "valueOf", "(C)Ljava/lang/String;"⟩ : MethodName)) hown (mvT hZ (tw hw 11 rfl)) (mvT hZ (tw hw 12 rfl)) (mvT hZ (tw hw 1 rfl)) (mvT hZ (tw hw 13 rfl)) (by decide) (backOf (W := 2) (rmVoC l Z a0 hw [] c2v zc h1192 n0 Z1192 hc2 (SC.ext f1194.2) hzc) hZ (tw hw 13 rfl) (tw hw 1 rfl) (by decide) (by decide)) (g := (mkF m 57 #[.val (.int p0), .val (.int p1), .val (.int p2), .val (.int p3), .val (.int p4), .val (.int (0 : Int32)), .val (.int (1 : Int32)), .val (.ref x_y), .unset, .unset, .unset, .unset, .unset, .unset, .unset, .unset, .unset, .unset] [(.int c2v), (.ref b1192), (.ref b1192)])) rfl (by rw [hml]; rfl) (argsL := [(.int c2v)]) (rest := [(.ref b1192), (.ref b1192)]) (lenOf pd__C_Ljava_lang_String_ rfl) rfl (by show 2 * 0 + _ ≤ _; exact Nat.le_of_eq rfl) (hb hby at_57) (fun _ _ => ⟨rfl, e1192, (by decide : 3 + 2 ≤ _), (by decide : 7 + 5 ≤ _)⟩)
      dsimp only [Pt.U, Pt.locs, Pt.cells, Pt.slots] at X1195 l1195 y1195 z1195 st1195 hQ1195
      subst l1195 y1195 z1195
      obtain ⟨x_x, rfl, N1195q, EX1195, le_x, t_x, k_x, ⟨E_x, V_x, C_x, A_x⟩, lt_x⟩ := hQ1195
      have N1195 := Fr.app N1190 N1195q
      have g_x_x : n0 ≤ x_x := Nat.le_trans Z1192 le_x
      have sz_x_x : h0.size ≤ x_x := Nat.le_trans K1192.1 le_x
      have ne_t_y_x_x : t_y ≠ x_x := Nat.ne_of_lt (Nat.lt_of_lt_of_le f1196.lt le_x)
      have ne_x_y_x_x : x_y ≠ x_x := Nat.ne_of_lt (Nat.lt_of_lt_of_le f1197.lt le_x)
      have g_t_x : n0 ≤ t_x := Nat.le_trans Z1192 lt_x
      have sz_t_x : h0.size ≤ t_x := Nat.le_trans K1192.1 lt_x
      have ne_t_y_t_x : t_y ≠ t_x := Nat.ne_of_lt (Nat.lt_of_lt_of_le f1196.lt lt_x)
      have ne_x_y_t_x : x_y ≠ t_x := Nat.ne_of_lt (Nat.lt_of_lt_of_le f1197.lt lt_x)
      have cs1198 := CHr.ext EX1195 cs1193.1
      have cr1198 := cr1193.trans cs1198
      have hk1198 := Nat.le_trans hk1193 cs1198.2.1
      have Z1195 := Nat.le_trans Z1192 EX1195.1
      have K1195 := K1192.ext EX1195
      have f1199 := (A1192.ext EX1195)
      have f1200 := (F1192_text.ext EX1195)
      have f1201 := (F1192_depth.ext EX1195)
      have f1202 := (f1197.ext EX1195)
      have f1203 := ((V_y.ext E1192).ext EX1195)
      have f1204 := (f1196.ext EX1195)
      have f1205 := ((C_y.ext E1192).ext EX1195)
      have f1206 := (f1194.ext EX1195)
      have pre1207 : ∀ t, Steps p.tables e below (T1195.setTop (mkF m 62 #[.val (.int p0), .val (.int p1), .val (.int p2), .val (.int p3), .val (.int p4), .val (.int (0 : Int32)), .val (.int (1 : Int32)), .val (.ref x_y), .unset, .unset, .unset, .unset, .unset, .unset, .unset, .unset, .unset, .unset] [(.ref x_y), (.ref x_x), (.ref b1192), (.ref b1192)])) t → Steps p.tables e below (s₁.setTop (mkF m 16 #[.val (.int p0), .val (.int p1), .val (.int p2), .val (.int p3), .val (.int p4), .val (.int (0 : Int32)), .unset, .unset, .unset, .unset, .unset, .unset, .unset, .unset, .unset, .unset, .unset, .unset] [(.int (p0 &&& (2 : Int32)))])) t := by
        intro t kt
        refine XS.ifNo X0.here hx rfl (hb hby at_16) rfl ((if0 _ _).trans (feq (cnm : ¬ ((p0 &&& (2 : Int32)) = (0 : Int32)))).1) ?_
        show Steps p.tables e below (s₁.setTop (mkF m 19 #[.val (.int p0), .val (.int p1), .val (.int p2), .val (.int p3), .val (.int p4), .val (.int (0 : Int32)), .unset, .unset, .unset, .unset, .unset, .unset, .unset, .unset, .unset, .unset, .unset, .unset] [])) _
        refine XS.iconst X0.here hx rfl (hb hby at_19) ?_
        refine XS.goto X0.here hx rfl (pc0 := 20) (pc' := 24) rfl (hb hby at_20) (by decide) (by decide) ?_
        refine XS.istore X0.here hx rfl (hb hby at_24) rfl (l' := #[.val (.int p0), .val (.int p1), .val (.int p2), .val (.int p3), .val (.int p4), .val (.int (0 : Int32)), .val (.int (1 : Int32)), .unset, .unset, .unset, .unset, .unset, .unset, .unset, .unset, .unset, .unset, .unset]) rfl ?_
        show Steps p.tables e below (s₁.setTop (mkF m 26 #[.val (.int p0), .val (.int p1), .val (.int p2), .val (.int p3), .val (.int p4), .val (.int (0 : Int32)), .val (.int (1 : Int32)), .unset, .unset, .unset, .unset, .unset, .unset, .unset, .unset, .unset, .unset, .unset] [])) _
        refine XS.iload X0.here hx rfl (hb hby at_26) rfl ?_
        refine XS.ifNo X0.here hx rfl (hb hby at_28) rfl ((if0 _ _).trans (feq (by decide : ¬ ((1 : Int32) = (0 : Int32)))).1) ?_
        show Steps p.tables e below (s₁.setTop (mkF m 31 #[.val (.int p0), .val (.int p1), .val (.int p2), .val (.int p3), .val (.int p4), .val (.int (0 : Int32)), .val (.int (1 : Int32)), .unset, .unset, .unset, .unset, .unset, .unset, .unset, .unset, .unset, .unset, .unset] [])) _
        refine XS.iloadN X0.here hx rfl (hb hby at_31) rfl ?_
        refine XS.sipush X0.here hx rfl (hb hby at_32) ?_
        refine XS.iand X0.here hx rfl (hb hby at_35) rfl ?_
        refine XS.i2c X0.here hx rfl (hb hby at_36) rfl ?_
        show Steps p.tables e below (s₁.setTop (mkF m 37 #[.val (.int p0), .val (.int p1), .val (.int p2), .val (.int p3), .val (.int p4), .val (.int (0 : Int32)), .val (.int (1 : Int32)), .unset, .unset, .unset, .unset, .unset, .unset, .unset, .unset, .unset, .unset, .unset] [(.int ((p3 &&& (255 : Int32)).toUInt32.toUInt16.toUInt32.toInt32))])) _
        rw [ec3]
        refine st1190 _ ?_
        show Steps p.tables e below (T1190.setTop (mkF m 40 #[.val (.int p0), .val (.int p1), .val (.int p2), .val (.int p3), .val (.int p4), .val (.int (0 : Int32)), .val (.int (1 : Int32)), .unset, .unset, .unset, .unset, .unset, .unset, .unset, .unset, .unset, .unset, .unset] [(.ref x_y)])) _
        refine XS.goto X1190.here hx rfl (pc0 := 40) (pc' := 45) rfl (hb hby at_40) (by decide) (by decide) ?_
        refine XS.astore X1190.here hx rfl (hb hby at_45) rfl rfl (l' := #[.val (.int p0), .val (.int p1), .val (.int p2), .val (.int p3), .val (.int p4), .val (.int (0 : Int32)), .val (.int (1 : Int32)), .val (.ref x_y), .unset, .unset, .unset, .unset, .unset, .unset, .unset, .unset, .unset, .unset]) rfl ?_
        show Steps p.tables e below (T1190.setTop (mkF m 47 #[.val (.int p0), .val (.int p1), .val (.int p2), .val (.int p3), .val (.int p4), .val (.int (0 : Int32)), .val (.int (1 : Int32)), .val (.ref x_y), .unset, .unset, .unset, .unset, .unset, .unset, .unset, .unset, .unset, .unset] [])) _
        refine st1192 _ ?_
        show Steps p.tables e below (T1192.setTop (mkF m 50 #[.val (.int p0), .val (.int p1), .val (.int p2), .val (.int p3), .val (.int p4), .val (.int (0 : Int32)), .val (.int (1 : Int32)), .val (.ref x_y), .unset, .unset, .unset, .unset, .unset, .unset, .unset, .unset, .unset, .unset] [(.ref b1192)])) _
        refine XS.dup X1192.here hx rfl (hb hby at_50) rfl rfl ?_
        refine XS.iloadN X1192.here hx rfl (hb hby at_51) rfl ?_
        refine XS.sipush X1192.here hx rfl (hb hby at_52) ?_
        refine XS.iand X1192.here hx rfl (hb hby at_55) rfl ?_
        refine XS.i2c X1192.here hx rfl (hb hby at_56) rfl ?_
        show Steps p.tables e below (T1192.setTop (mkF m 57 #[.val (.int p0), .val (.int p1), .val (.int p2), .val (.int p3), .val (.int p4), .val (.int (0 : Int32)), .val (.int (1 : Int32)), .val (.ref x_y), .unset, .unset, .unset, .unset, .unset, .unset, .unset, .unset, .unset, .unset] [(.int ((p2 &&& (255 : Int32)).toUInt32.toUInt16.toUInt32.toInt32)), (.ref b1192), (.ref b1192)])) _
        rw [ec2]
        refine st1195 _ ?_
        show Steps p.tables e below (T1195.setTop (mkF m 60 #[.val (.int p0), .val (.int p1), .val (.int p2), .val (.int p3), .val (.int p4), .val (.int (0 : Int32)), .val (.int (1 : Int32)), .val (.ref x_y), .unset, .unset, .unset, .unset, .unset, .unset, .unset, .unset, .unset, .unset] [(.ref x_x), (.ref b1192), (.ref b1192)])) _
        refine XS.aload X1195.here hx rfl (hb hby at_60) rfl rfl ?_
        exact kt
      obtain ⟨_, _, ⟨T1208, L1208, k1208, n1208⟩, -, X1208, hs1208, hg1208, ⟨Lc1208, hQ1208, l1208, y1208, z1208, crs1208⟩, st1208⟩ := X1195.specialBackS hx (y := (⟨"com/example/orbweaver/orbweaver/mapping/JavaSource", "<init>", "(Ljava/lang/String;Ljava/lang/String;)V"⟩ : MethodName)) rfl hown (mvT hZ (tw hw 32 rfl)) (mvT hZ (tw hw 33 rfl)) (mvT hZ (tw hw 34 rfl)) (by decide) (own_backS0 (s := s) (W := 1) (rmCtor1 l Z a0 hw [] b1192 x_x t_x k_x [(.int (nar .byte (c2v.toInt8.toInt32)))] x_y t_y k_y [(.int (nar .byte (c3v.toInt8.toInt32)))] zc T1195.heap n0 Z1195 hEL f1199 f1200 f1201 g_b1192 E_x V_x C_x A_x rfl f1202 f1203 f1204 f1205 rfl f1206 SC hzc) hZ (tw hw 34 rfl) (tw hw 10 rfl) (by decide) (by decide) hEL cs1198.1) (g := (mkF m 62 #[.val (.int p0), .val (.int p1), .val (.int p2), .val (.int p3), .val (.int p4), .val (.int (0 : Int32)), .val (.int (1 : Int32)), .val (.ref x_y), .unset, .unset, .unset, .unset, .unset, .unset, .unset, .unset, .unset, .unset] [(.ref x_y), (.ref x_x), (.ref b1192), (.ref b1192)])) rfl (by rw [hml]; rfl) (Steps.refl _) (a := b1192) (argsL := [(.ref x_x), (.ref x_y)]) (rest := [(.ref b1192)]) (lenOf pd__Ljava_lang_String_Ljava_lang_String__V rfl) rfl (by show 2 * 0 + _ ≤ _; exact Nat.le_of_eq rfl) (hb hby at_62) (fun _ _ => ⟨rfl, rfl, (by decide : 5 + 40 ≤ _), (by decide : 12 + 4200 ≤ _)⟩)
      dsimp only [Pt.U, Pt.locs, Pt.cells, Pt.slots] at X1208 l1208 y1208 z1208 st1208 hQ1208 hs1208 hg1208 crs1208
      subst l1208 y1208 z1208
      obtain ⟨X1208, hSi1208, hZ, hown⟩ := rebS hSi0 (hk1198) X1208 hs1208 hg1208 hZ hown
      obtain ⟨rfl, N1208q, KC1208, b1, v1, k1, vs, ⟨JE1, JT1, JD1⟩, ⟨BE1, BV1, BC1, BN1, BA1, BX1⟩, hvl, lb1, lv1, y_v1⟩ := hQ1208
      have N1208 := Fr.app N1195 N1208q
      have g_b1 : n0 ≤ b1 := Nat.le_trans Z1195 lb1
      have sz_b1 : h0.size ≤ b1 := Nat.le_trans K1195.1 lb1
      have ne_t_x_b1 : t_x ≠ b1 := Nat.ne_of_lt (Nat.lt_of_lt_of_le A_x.lt lb1)
      have ne_t_y_b1 : t_y ≠ b1 := Nat.ne_of_lt (Nat.lt_of_lt_of_le f1204.lt lb1)
      have ne_x_x_b1 : x_x ≠ b1 := Nat.ne_of_lt (Nat.lt_of_lt_of_le E_x.lt lb1)
      have ne_x_y_b1 : x_y ≠ b1 := Nat.ne_of_lt (Nat.lt_of_lt_of_le f1202.lt lb1)
      have g_v1 : n0 ≤ v1 := Nat.le_trans Z1195 lv1
      have sz_v1 : h0.size ≤ v1 := Nat.le_trans K1195.1 lv1
      have ne_t_x_v1 : t_x ≠ v1 := Nat.ne_of_lt (Nat.lt_of_lt_of_le A_x.lt lv1)
      have ne_t_y_v1 : t_y ≠ v1 := Nat.ne_of_lt (Nat.lt_of_lt_of_le f1204.lt lv1)
      have ne_x_x_v1 : x_x ≠ v1 := Nat.ne_of_lt (Nat.lt_of_lt_of_le E_x.lt lv1)
      have ne_x_y_v1 : x_y ≠ v1 := Nat.ne_of_lt (Nat.lt_of_lt_of_le f1202.lt lv1)
      have cs1209 := crs1208
      have cr1209 := cr1198.trans cs1209
      have Z1208 := Nat.le_trans Z1195 KC1208.1
      have K1208 := K1195.trans KC1208 (allS (Or.inr sz_b1192) all0)
      have ne_b1_v1 : b1 ≠ v1 := BE1.neArv BA1 (tw hw 37 rfl)
      obtain ⟨LL1210, XL1210, NL1210⟩ : ∃ LL, Stand p l e room_1 (s.setVm T1208.vm) m #[(.int p0), (.int p1), (.int p2), (.int p3), (.int p4)] below meth c T1208 LL 45 4212 ∧ Fr n0 LL := ⟨_, X1208, N1208⟩
      have pre1211 : ∀ t, Steps p.tables e below (T1208.setTop (mkF m 96 #[.val (.int p0), .val (.int p1), .val (.int p2), .val (.int p3), .val (.int p4), .val (.int (0 : Int32)), .val (.int (1 : Int32)), .val (.ref x_y), .val (.ref b1192), .val (.int (0 : Int32)), .unset, .unset, .unset, .unset, .unset, .unset, .unset, .unset] [])) t → Steps p.tables e below (T1195.setTop (mkF m 62 #[.val (.int p0), .val (.int p1), .val (.int p2), .val (.int p3), .val (.int p4), .val (.int (0 : Int32)), .val (.int (1 : Int32)), .val (.ref x_y), .unset, .unset, .unset, .unset, .unset, .unset, .unset, .unset, .unset, .unset] [(.ref x_y), (.ref x_x), (.ref b1192), (.ref b1192)])) t := by
        intro t kt
        refine st1208.trans ?_
        show Steps p.tables e below (T1208.setTop (mkF m 65 #[.val (.int p0), .val (.int p1), .val (.int p2), .val (.int p3), .val (.int p4), .val (.int (0 : Int32)), .val (.int (1 : Int32)), .val (.ref x_y), .unset, .unset, .unset, .unset, .unset, .unset, .unset, .unset, .unset, .unset] [(.ref b1192)])) _
        refine XS.astore XL1210.here hx rfl (hb hby at_65) rfl rfl (l' := #[.val (.int p0), .val (.int p1), .val (.int p2), .val (.int p3), .val (.int p4), .val (.int (0 : Int32)), .val (.int (1 : Int32)), .val (.ref x_y), .val (.ref b1192), .unset, .unset, .unset, .unset, .unset, .unset, .unset, .unset, .unset]) rfl ?_
        refine XS.iconst XL1210.here hx rfl (hb hby at_67) ?_
        refine XS.istore XL1210.here hx rfl (hb hby at_68) rfl (l' := #[.val (.int p0), .val (.int p1), .val (.int p2), .val (.int p3), .val (.int p4), .val (.int (0 : Int32)), .val (.int (1 : Int32)), .val (.ref x_y), .val (.ref b1192), .val (.int (0 : Int32)), .unset, .unset, .unset, .unset, .unset, .unset, .unset, .unset]) rfl ?_
        refine XS.iload XL1210.here hx rfl (hb hby at_70) rfl ?_
        refine XS.ifYes XL1210.here hx rfl (pc0 := 72) (pc' := 96) rfl (hb hby at_72) rfl ((if0 _ _).trans (teq (by decide : (0 : Int32) = (0 : Int32))).1) (by decide) (by decide) ?_
        exact kt
      have f1212 := (f1206.keep KC1208 (allS g_b1192 all0))
      obtain ⟨s2, o2, q1, q2, q3, q4⟩ := tail0 p0 p1 p2 p3 p4 zc fm (h0 := h0) (hT := T1208.heap) (ct := 88) (XL1210.more (by decide) (by decide)) hx hZ hw hby hml hown Bd.returns Bd.notSynchronized hh rfl NL1210 hSi1208 (Nat.le_refl _) hEL cs1209.1 cr1209 Z1208 K1208 f1212 SC hzc SFm rf sz_b1192 sz_b1 sz_v1 JE1 JT1 JD1 g_b1192 BE1 BV1 BC1 BN1 BA1 BX1 hvl g_b1 g_v1 y_v1 (by decide) (fun x => by show (0 : Int32) + (x - (0 : Int32)) = x; rw [Int32.sub_zero, Int32.zero_add])
      exact ⟨s2, o2, (pre0 _ (pre1166 _ (pre1207 _ (pre1211 _ q1)))), q2, q3, q4⟩
  · skip
    have pre1213 : ∀ t, Steps p.tables e below (s₁.setTop (mkF m 16 #[.val (.int p0), .val (.int p1), .val (.int p2), .val (.int p3), .val (.int p4), .val (.int (1 : Int32)), .unset, .unset, .unset, .unset, .unset, .unset, .unset, .unset, .unset, .unset, .unset, .unset] [(.int (p0 &&& (2 : Int32)))])) t → Steps p.tables e below (s₁.setTop (mkF m 0 #[.val (.int p0), .val (.int p1), .val (.int p2), .val (.int p3), .val (.int p4), .unset, .unset, .unset, .unset, .unset, .unset, .unset, .unset, .unset, .unset, .unset, .unset, .unset] [])) t := by
      intro t kt
      show Steps p.tables e below (s₁.setTop (mkF m 0 #[.val (.int p0), .val (.int p1), .val (.int p2), .val (.int p3), .val (.int p4), .unset, .unset, .unset, .unset, .unset, .unset, .unset, .unset, .unset, .unset, .unset, .unset, .unset] [])) _
      refine XS.iloadN X0.here hx rfl (hb hby at_0) rfl ?_
      refine XS.iconst X0.here hx rfl (hb hby at_1) ?_
      refine XS.iand X0.here hx rfl (hb hby at_2) rfl ?_
      refine XS.ifNo X0.here hx rfl (hb hby at_3) rfl ((if0 _ _).trans (feq (cop : ¬ ((p0 &&& (1 : Int32)) = (0 : Int32)))).1) ?_
      show Steps p.tables e below (s₁.setTop (mkF m 6 #[.val (.int p0), .val (.int p1), .val (.int p2), .val (.int p3), .val (.int p4), .unset, .unset, .unset, .unset, .unset, .unset, .unset, .unset, .unset, .unset, .unset, .unset, .unset] [])) _
      refine XS.iconst X0.here hx rfl (hb hby at_6) ?_
      refine XS.goto X0.here hx rfl (pc0 := 7) (pc' := 11) rfl (hb hby at_7) (by decide) (by decide) ?_
      refine XS.istore X0.here hx rfl (hb hby at_11) rfl (l' := #[.val (.int p0), .val (.int p1), .val (.int p2), .val (.int p3), .val (.int p4), .val (.int (1 : Int32)), .unset, .unset, .unset, .unset, .unset, .unset, .unset, .unset, .unset, .unset, .unset, .unset]) rfl ?_
      refine XS.iloadN X0.here hx rfl (hb hby at_13) rfl ?_
      refine XS.iconst X0.here hx rfl (hb hby at_14) ?_
      refine XS.iand X0.here hx rfl (hb hby at_15) rfl ?_
      exact kt
    by_cases cnm : (p0 &&& (2 : Int32)) = (0 : Int32)
    · skip
      have pre1214 : ∀ t, Steps p.tables e below (s₁.setTop (mkF m 43 #[.val (.int p0), .val (.int p1), .val (.int p2), .val (.int p3), .val (.int p4), .val (.int (1 : Int32)), .val (.int (0 : Int32)), .unset, .unset, .unset, .unset, .unset, .unset, .unset, .unset, .unset, .unset, .unset] [])) t → Steps p.tables e below (s₁.setTop (mkF m 16 #[.val (.int p0), .val (.int p1), .val (.int p2), .val (.int p3), .val (.int p4), .val (.int (1 : Int32)), .unset, .unset, .unset, .unset, .unset, .unset, .unset, .unset, .unset, .unset, .unset, .unset] [(.int (p0 &&& (2 : Int32)))])) t := by
        intro t kt
        refine XS.ifYes X0.here hx rfl (pc0 := 16) (pc' := 23) rfl (hb hby at_16) rfl ((if0 _ _).trans (teq (cnm : (p0 &&& (2 : Int32)) = (0 : Int32))).1) (by decide) (by decide) ?_
        show Steps p.tables e below (s₁.setTop (mkF m 23 #[.val (.int p0), .val (.int p1), .val (.int p2), .val (.int p3), .val (.int p4), .val (.int (1 : Int32)), .unset, .unset, .unset, .unset, .unset, .unset, .unset, .unset, .unset, .unset, .unset, .unset] [])) _
        refine XS.iconst X0.here hx rfl (hb hby at_23) ?_
        refine XS.istore X0.here hx rfl (hb hby at_24) rfl (l' := #[.val (.int p0), .val (.int p1), .val (.int p2), .val (.int p3), .val (.int p4), .val (.int (1 : Int32)), .val (.int (0 : Int32)), .unset, .unset, .unset, .unset, .unset, .unset, .unset, .unset, .unset, .unset, .unset]) rfl ?_
        show Steps p.tables e below (s₁.setTop (mkF m 26 #[.val (.int p0), .val (.int p1), .val (.int p2), .val (.int p3), .val (.int p4), .val (.int (1 : Int32)), .val (.int (0 : Int32)), .unset, .unset, .unset, .unset, .unset, .unset, .unset, .unset, .unset, .unset, .unset] [])) _
        refine XS.iload X0.here hx rfl (hb hby at_26) rfl ?_
        refine XS.ifYes X0.here hx rfl (pc0 := 28) (pc' := 43) rfl (hb hby at_28) rfl ((if0 _ _).trans (teq (by decide : (0 : Int32) = (0 : Int32))).1) (by decide) (by decide) ?_
        exact kt
      have wS1215 : ∀ a ∈ Bundle.stringAtoms, a.before a0 Z = true := fun d hd => hw d ((by decide +kernel : ∀ d ∈ Bundle.stringAtoms, d ∈ tables_1) d hd)
      obtain ⟨b1215, T1215, h1215, k1215, d1215, kb1215, X1215, e1215, E1215, hSi1215, hk1215, hZ, hown, A1215, FC1215, FV1215, V1215, -, -, crs1215, Lt1215, nn1215, st1215⟩ := ldcCH (s := s) (vm0 := s.vm) X0 hx hZ hown (tw hw 0 rfl) wS1215 e0 hSi0 (Nat.zero_le _) hEL (by decide : ("com/example/orbweaver/orbweaver/mapping/JavaSourceDeeperPinLaw", 17) ∈ EL) hCH (vs := []) (z := (0 : Int32)) ⟨by decide, rfl⟩ (by decide) (by decide) (g := (mkF m 43 #[.val (.int p0), .val (.int p1), .val (.int p2), .val (.int p3), .val (.int p4), .val (.int (1 : Int32)), .val (.int (0 : Int32)), .unset, .unset, .unset, .unset, .unset, .unset, .unset, .unset, .unset, .unset, .unset] [])) rfl (hb hby at_43) (n := 0) (by decide) (by decide) (by decide) (by decide)
      have cs1216 := crs1215
      have cr1216 := (CHr.refl hCH).trans cs1216
      have Z1215 := Nat.le_trans Z0 E1215.1
      have K1215 := (Keep.refl h0 []).ext E1215
      obtain ⟨T1217, h1217, X1217, e1217, E1217, A1217, D1217, -, st1217⟩ := newO X1215 hx hZ hown (tw hw 8 rfl) (tw hw 9 rfl) (tw hw 10 rfl) e1215 (g := (mkF m 47 #[.val (.int p0), .val (.int p1), .val (.int p2), .val (.int p3), .val (.int p4), .val (.int (1 : Int32)), .val (.int (0 : Int32)), .val (.ref b1215), .unset, .unset, .unset, .unset, .unset, .unset, .unset, .unset, .unset, .unset] [])) rfl (hb hby at_47) (by decide) (by decide)
      obtain ⟨b1217, g1217⟩ : ∃ z, z = h1215.size := ⟨_, rfl⟩
      rw [← g1217] at A1217 D1217 st1217
      have g_b1217 : n0 ≤ b1217 := Nat.le_trans Z1215 (Nat.le_of_eq g1217.symm)
      have sz_b1217 : h0.size ≤ b1217 := Nat.le_trans K1215.1 (Nat.le_of_eq g1217.symm)
      have cs1218 := CHr.ext E1217 cs1216.1
      have cr1218 := cr1216.trans cs1218
      have hk1218 := Nat.le_trans hk1215 cs1218.2.1
      have Z1217 := Nat.le_trans Z1215 E1217.1
      have K1217 := K1215.ext E1217
      have F1217_text : Fld Z h1217 b1217 "com/example/orbweaver/orbweaver/mapping/JavaSource" "text" "Ljava/lang/StringBuilder;" .null := D1217 (Or.inr (tw hw 55 rfl)) (ty := (.object "java/lang/StringBuilder")) (by decide)
      have F1217_depth : Fld Z h1217 b1217 "com/example/orbweaver/orbweaver/mapping/JavaSource" "depth" "I" (.int (0 : Int32)) := D1217 (Or.inl (tw hw 174 rfl)) (ty := .int) (by decide)
      have f1219 := ((OZ.ext E1215).ext E1217)
      have f1221 := (A1215.ext E1217)
      have f1222 := (V1215.ext E1217)
      obtain ⟨_, _, ⟨T1220, L1220, k1220, n1220⟩, -, X1220, ⟨Lc1220, hQ1220, l1220, y1220, z1220⟩, st1220⟩ := Jvm.LawKit.callS X1217 hx (y := (⟨"java/lang/String", "valueOf", "(C)Ljava/lang/String;"⟩ : MethodName)) hown (mvT hZ (tw hw 11 rfl)) (mvT hZ (tw hw 12 rfl)) (mvT hZ (tw hw 1 rfl)) (mvT hZ (tw hw 13 rfl)) (by decide) (backOf (W := 2) (rmVoC l Z a0 hw [] c2v zc h1217 n0 Z1217 hc2 (SC.ext f1219.2) hzc) hZ (tw hw 13 rfl) (tw hw 1 rfl) (by decide) (by decide)) (g := (mkF m 57 #[.val (.int p0), .val (.int p1), .val (.int p2), .val (.int p3), .val (.int p4), .val (.int (1 : Int32)), .val (.int (0 : Int32)), .val (.ref b1215), .unset, .unset, .unset, .unset, .unset, .unset, .unset, .unset, .unset, .unset] [(.int c2v), (.ref b1217), (.ref b1217)])) rfl (by rw [hml]; rfl) (argsL := [(.int c2v)]) (rest := [(.ref b1217), (.ref b1217)]) (lenOf pd__C_Ljava_lang_String_ rfl) rfl (by show 2 * 0 + _ ≤ _; exact Nat.le_of_eq rfl) (hb hby at_57) (fun _ _ => ⟨rfl, e1217, (by decide : 3 + 2 ≤ _), (by decide : 6 + 5 ≤ _)⟩)
      dsimp only [Pt.U, Pt.locs, Pt.cells, Pt.slots] at X1220 l1220 y1220 z1220 st1220 hQ1220
      subst l1220 y1220 z1220
      obtain ⟨x_x, rfl, N1220q, EX1220, le_x, t_x, k_x, ⟨E_x, V_x, C_x, A_x⟩, lt_x⟩ := hQ1220
      have N1220 := Fr.app N0 N1220q
      have g_x_x : n0 ≤ x_x := Nat.le_trans Z1217 le_x
      have sz_x_x : h0.size ≤ x_x := Nat.le_trans K1217.1 le_x
      have g_t_x : n0 ≤ t_x := Nat.le_trans Z1217 lt_x
      have sz_t_x : h0.size ≤ t_x := Nat.le_trans K1217.1 lt_x
      have cs1223 := CHr.ext EX1220 cs1218.1
      have cr1223 := cr1218.trans cs1223
      have hk1223 := Nat.le_trans hk1218 cs1223.2.1
      have Z1220 := Nat.le_trans Z1217 EX1220.1
      have K1220 := K1217.ext EX1220
      have f1224 := (A1217.ext EX1220)
      have f1225 := (F1217_text.ext EX1220)
      have f1226 := (F1217_depth.ext EX1220)
      have f1227 := (f1221.ext EX1220)
      have f1228 := ((FV1215.ext E1217).ext EX1220)
      have f1229 := (f1222.ext EX1220)
      have f1230 := (f1219.ext EX1220)
      have pre1231 : ∀ t, Steps p.tables e below (T1220.setTop (mkF m 62 #[.val (.int p0), .val (.int p1), .val (.int p2), .val (.int p3), .val (.int p4), .val (.int (1 : Int32)), .val (.int (0 : Int32)), .val (.ref b1215), .unset, .unset, .unset, .unset, .unset, .unset, .unset, .unset, .unset, .unset] [(.ref b1215), (.ref x_x), (.ref b1217), (.ref b1217)])) t → Steps p.tables e below (s₁.setTop (mkF m 43 #[.val (.int p0), .val (.int p1), .val (.int p2), .val (.int p3), .val (.int p4), .val (.int (1 : Int32)), .val (.int (0 : Int32)), .unset, .unset, .unset, .unset, .unset, .unset, .unset, .unset, .unset, .unset, .unset] [])) t := by
        intro t kt
        show Steps p.tables e below (s₁.setTop (mkF m 43 #[.val (.int p0), .val (.int p1), .val (.int p2), .val (.int p3), .val (.int p4), .val (.int (1 : Int32)), .val (.int (0 : Int32)), .unset, .unset, .unset, .unset, .unset, .unset, .unset, .unset, .unset, .unset, .unset] [])) _
        refine st1215 _ ?_
        show Steps p.tables e below (T1215.setTop (mkF m 45 #[.val (.int p0), .val (.int p1), .val (.int p2), .val (.int p3), .val (.int p4), .val (.int (1 : Int32)), .val (.int (0 : Int32)), .unset, .unset, .unset, .unset, .unset, .unset, .unset, .unset, .unset, .unset, .unset] [(.ref b1215)])) _
        refine XS.astore X1215.here hx rfl (hb hby at_45) rfl rfl (l' := #[.val (.int p0), .val (.int p1), .val (.int p2), .val (.int p3), .val (.int p4), .val (.int (1 : Int32)), .val (.int (0 : Int32)), .val (.ref b1215), .unset, .unset, .unset, .unset, .unset, .unset, .unset, .unset, .unset, .unset]) rfl ?_
        show Steps p.tables e below (T1215.setTop (mkF m 47 #[.val (.int p0), .val (.int p1), .val (.int p2), .val (.int p3), .val (.int p4), .val (.int (1 : Int32)), .val (.int (0 : Int32)), .val (.ref b1215), .unset, .unset, .unset, .unset, .unset, .unset, .unset, .unset, .unset, .unset] [])) _
        refine st1217 _ ?_
        show Steps p.tables e below (T1217.setTop (mkF m 50 #[.val (.int p0), .val (.int p1), .val (.int p2), .val (.int p3), .val (.int p4), .val (.int (1 : Int32)), .val (.int (0 : Int32)), .val (.ref b1215), .unset, .unset, .unset, .unset, .unset, .unset, .unset, .unset, .unset, .unset] [(.ref b1217)])) _
        refine XS.dup X1217.here hx rfl (hb hby at_50) rfl rfl ?_
        refine XS.iloadN X1217.here hx rfl (hb hby at_51) rfl ?_
        refine XS.sipush X1217.here hx rfl (hb hby at_52) ?_
        refine XS.iand X1217.here hx rfl (hb hby at_55) rfl ?_
        refine XS.i2c X1217.here hx rfl (hb hby at_56) rfl ?_
        show Steps p.tables e below (T1217.setTop (mkF m 57 #[.val (.int p0), .val (.int p1), .val (.int p2), .val (.int p3), .val (.int p4), .val (.int (1 : Int32)), .val (.int (0 : Int32)), .val (.ref b1215), .unset, .unset, .unset, .unset, .unset, .unset, .unset, .unset, .unset, .unset] [(.int ((p2 &&& (255 : Int32)).toUInt32.toUInt16.toUInt32.toInt32)), (.ref b1217), (.ref b1217)])) _
        rw [ec2]
        refine st1220 _ ?_
        show Steps p.tables e below (T1220.setTop (mkF m 60 #[.val (.int p0), .val (.int p1), .val (.int p2), .val (.int p3), .val (.int p4), .val (.int (1 : Int32)), .val (.int (0 : Int32)), .val (.ref b1215), .unset, .unset, .unset, .unset, .unset, .unset, .unset, .unset, .unset, .unset] [(.ref x_x), (.ref b1217), (.ref b1217)])) _
        refine XS.aload X1220.here hx rfl (hb hby at_60) rfl rfl ?_
        exact kt
      obtain ⟨_, _, ⟨T1232, L1232, k1232, n1232⟩, -, X1232, hs1232, hg1232, ⟨Lc1232, hQ1232, l1232, y1232, z1232, crs1232⟩, st1232⟩ := X1220.specialBackS hx (y := (⟨"com/example/orbweaver/orbweaver/mapping/JavaSource", "<init>", "(Ljava/lang/String;Ljava/lang/String;)V"⟩ : MethodName)) rfl hown (mvT hZ (tw hw 32 rfl)) (mvT hZ (tw hw 33 rfl)) (mvT hZ (tw hw 34 rfl)) (by decide) (own_backS0 (s := s) (W := 1) (rmCtor0 l Z a0 hw [] b1217 x_x t_x k_x [(.int (nar .byte (c2v.toInt8.toInt32)))] b1215 d1215 kb1215 [] zc T1220.heap n0 Z1220 hEL f1224 f1225 f1226 g_b1217 E_x V_x C_x A_x rfl f1227 f1228 f1229 f1230 SC hzc) hZ (tw hw 34 rfl) (tw hw 10 rfl) (by decide) (by decide) hEL cs1223.1) (g := (mkF m 62 #[.val (.int p0), .val (.int p1), .val (.int p2), .val (.int p3), .val (.int p4), .val (.int (1 : Int32)), .val (.int (0 : Int32)), .val (.ref b1215), .unset, .unset, .unset, .unset, .unset, .unset, .unset, .unset, .unset, .unset] [(.ref b1215), (.ref x_x), (.ref b1217), (.ref b1217)])) rfl (by rw [hml]; rfl) (Steps.refl _) (a := b1217) (argsL := [(.ref x_x), (.ref b1215)]) (rest := [(.ref b1217)]) (lenOf pd__Ljava_lang_String_Ljava_lang_String__V rfl) rfl (by show 2 * 0 + _ ≤ _; exact Nat.le_of_eq rfl) (hb hby at_62) (fun _ _ => ⟨rfl, rfl, (by decide : 5 + 22 ≤ _), (by decide : 11 + 2400 ≤ _)⟩)
      dsimp only [Pt.U, Pt.locs, Pt.cells, Pt.slots] at X1232 l1232 y1232 z1232 st1232 hQ1232 hs1232 hg1232 crs1232
      subst l1232 y1232 z1232
      obtain ⟨X1232, hSi1232, hZ, hown⟩ := rebS hSi1215 (hk1223) X1232 hs1232 hg1232 hZ hown
      obtain ⟨rfl, N1232q, KC1232, b1, v1, k1, vs, ⟨JE1, JT1, JD1⟩, ⟨BE1, BV1, BC1, BN1, BA1, BX1⟩, hvl, lb1, lv1, y_v1⟩ := hQ1232
      have N1232 := Fr.app N1220 N1232q
      have g_b1 : n0 ≤ b1 := Nat.le_trans Z1220 lb1
      have sz_b1 : h0.size ≤ b1 := Nat.le_trans K1220.1 lb1
      have ne_t_x_b1 : t_x ≠ b1 := Nat.ne_of_lt (Nat.lt_of_lt_of_le A_x.lt lb1)
      have ne_x_x_b1 : x_x ≠ b1 := Nat.ne_of_lt (Nat.lt_of_lt_of_le E_x.lt lb1)
      have g_v1 : n0 ≤ v1 := Nat.le_trans Z1220 lv1
      have sz_v1 : h0.size ≤ v1 := Nat.le_trans K1220.1 lv1
      have ne_t_x_v1 : t_x ≠ v1 := Nat.ne_of_lt (Nat.lt_of_lt_of_le A_x.lt lv1)
      have ne_x_x_v1 : x_x ≠ v1 := Nat.ne_of_lt (Nat.lt_of_lt_of_le E_x.lt lv1)
      have cs1233 := crs1232
      have cr1233 := cr1223.trans cs1233
      have Z1232 := Nat.le_trans Z1220 KC1232.1
      have K1232 := K1220.trans KC1232 (allS (Or.inr sz_b1217) all0)
      have ne_b1_v1 : b1 ≠ v1 := BE1.neArv BA1 (tw hw 37 rfl)
      obtain ⟨LL1234, XL1234, NL1234⟩ : ∃ LL, Stand p l e room_1 (s.setVm T1232.vm) m #[(.int p0), (.int p1), (.int p2), (.int p3), (.int p4)] below meth c T1232 LL 27 2411 ∧ Fr n0 LL := ⟨_, X1232, N1232⟩
      have f1235 := (f1230.keep KC1232 (allS g_b1217 all0))
      obtain ⟨_, _, ⟨T1236, L1236, k1236, n1236⟩, -, X1236, ⟨Lc1236, hQ1236, l1236, y1236, z1236⟩, st1236⟩ := Jvm.LawKit.callS XL1234 hx (y := (⟨"java/lang/String", "valueOf", "(C)Ljava/lang/String;"⟩ : MethodName)) hown (mvT hZ (tw hw 11 rfl)) (mvT hZ (tw hw 12 rfl)) (mvT hZ (tw hw 1 rfl)) (mvT hZ (tw hw 13 rfl)) (by decide) (backOf (W := 1) (rmVoC l Z a0 hw [] c8v zc T1232.heap n0 Z1232 hc8 (SC.ext f1235.2) hzc) hZ (tw hw 13 rfl) (tw hw 1 rfl) (by decide) (by decide)) (g := (mkF m 86 #[.val (.int p0), .val (.int p1), .val (.int p2), .val (.int p3), .val (.int p4), .val (.int (1 : Int32)), .val (.int (0 : Int32)), .val (.ref b1215), .val (.ref b1217), .val (.int (0 : Int32)), .unset, .unset, .unset, .unset, .unset, .unset, .unset, .unset] [(.int c8v), (.ref b1217)])) rfl (by rw [hml]; rfl) (argsL := [(.int c8v)]) (rest := [(.ref b1217)]) (lenOf pd__C_Ljava_lang_String_ rfl) rfl (by show 2 * 0 + _ ≤ _; exact Nat.le_of_eq rfl) (hb hby at_86) (fun _ _ => ⟨rfl, rfl, (by decide : 27 + 2 ≤ _), (by decide : 2411 + 5 ≤ _)⟩)
      dsimp only [Pt.U, Pt.locs, Pt.cells, Pt.slots] at X1236 l1236 y1236 z1236 st1236 hQ1236
      subst l1236 y1236 z1236
      obtain ⟨x_o, rfl, N1236q, EX1236, le_o, t_o, k_o, ⟨E_o, V_o, C_o, A_o⟩, lt_o⟩ := hQ1236
      have N1236 := Fr.app NL1234 N1236q
      have g_x_o : n0 ≤ x_o := Nat.le_trans Z1232 le_o
      have sz_x_o : h0.size ≤ x_o := Nat.le_trans K1232.1 le_o
      have ne_b1_x_o : b1 ≠ x_o := Nat.ne_of_lt (Nat.lt_of_lt_of_le BE1.lt le_o)
      have ne_v1_x_o : v1 ≠ x_o := Nat.ne_of_lt (Nat.lt_of_lt_of_le BA1.lt le_o)
      have g_t_o : n0 ≤ t_o := Nat.le_trans Z1232 lt_o
      have sz_t_o : h0.size ≤ t_o := Nat.le_trans K1232.1 lt_o
      have ne_b1_t_o : b1 ≠ t_o := Nat.ne_of_lt (Nat.lt_of_lt_of_le BE1.lt lt_o)
      have ne_v1_t_o : v1 ≠ t_o := Nat.ne_of_lt (Nat.lt_of_lt_of_le BA1.lt lt_o)
      have cs1237 := CHr.ext EX1236 cs1233.1
      have cr1237 := cr1233.trans cs1237
      have y1237_v1 := cs1237.safe BA1.lt y_v1
      have hk1237 := Nat.le_trans (Nat.le_refl _) cs1237.2.1
      have Z1236 := Nat.le_trans Z1232 EX1236.1
      have K1236 := K1232.ext EX1236
      have f1238 := (JE1.ext EX1236)
      have f1239 := (JT1.ext EX1236)
      have f1240 := (JD1.ext EX1236)
      have f1241 := (BE1.ext EX1236)
      have f1242 := (BV1.ext EX1236)
      have f1243 := (BC1.ext EX1236)
      have f1244 := (BN1.ext EX1236)
      have f1245 := (BA1.ext EX1236)
      have f1246 := (BX1.ext EX1236)
      have f1247 := (f1235.ext EX1236)
      have pre1248 : ∀ t, Steps p.tables e below (T1236.setTop (mkF m 89 #[.val (.int p0), .val (.int p1), .val (.int p2), .val (.int p3), .val (.int p4), .val (.int (1 : Int32)), .val (.int (0 : Int32)), .val (.ref b1215), .val (.ref b1217), .val (.int (0 : Int32)), .unset, .unset, .unset, .unset, .unset, .unset, .unset, .unset] [(.ref x_o), (.ref b1217)])) t → Steps p.tables e below (T1220.setTop (mkF m 62 #[.val (.int p0), .val (.int p1), .val (.int p2), .val (.int p3), .val (.int p4), .val (.int (1 : Int32)), .val (.int (0 : Int32)), .val (.ref b1215), .unset, .unset, .unset, .unset, .unset, .unset, .unset, .unset, .unset, .unset] [(.ref b1215), (.ref x_x), (.ref b1217), (.ref b1217)])) t := by
        intro t kt
        refine st1232.trans ?_
        show Steps p.tables e below (T1232.setTop (mkF m 65 #[.val (.int p0), .val (.int p1), .val (.int p2), .val (.int p3), .val (.int p4), .val (.int (1 : Int32)), .val (.int (0 : Int32)), .val (.ref b1215), .unset, .unset, .unset, .unset, .unset, .unset, .unset, .unset, .unset, .unset] [(.ref b1217)])) _
        refine XS.astore XL1234.here hx rfl (hb hby at_65) rfl rfl (l' := #[.val (.int p0), .val (.int p1), .val (.int p2), .val (.int p3), .val (.int p4), .val (.int (1 : Int32)), .val (.int (0 : Int32)), .val (.ref b1215), .val (.ref b1217), .unset, .unset, .unset, .unset, .unset, .unset, .unset, .unset, .unset]) rfl ?_
        refine XS.iconst XL1234.here hx rfl (hb hby at_67) ?_
        refine XS.istore XL1234.here hx rfl (hb hby at_68) rfl (l' := #[.val (.int p0), .val (.int p1), .val (.int p2), .val (.int p3), .val (.int p4), .val (.int (1 : Int32)), .val (.int (0 : Int32)), .val (.ref b1215), .val (.ref b1217), .val (.int (0 : Int32)), .unset, .unset, .unset, .unset, .unset, .unset, .unset, .unset]) rfl ?_
        refine XS.iload XL1234.here hx rfl (hb hby at_70) rfl ?_
        refine XS.ifNo XL1234.here hx rfl (hb hby at_72) rfl ((if0 _ _).trans (feq (by decide : ¬ ((1 : Int32) = (0 : Int32)))).1) ?_
        show Steps p.tables e below (T1232.setTop (mkF m 75 #[.val (.int p0), .val (.int p1), .val (.int p2), .val (.int p3), .val (.int p4), .val (.int (1 : Int32)), .val (.int (0 : Int32)), .val (.ref b1215), .val (.ref b1217), .val (.int (0 : Int32)), .unset, .unset, .unset, .unset, .unset, .unset, .unset, .unset] [])) _
        refine XS.aload XL1234.here hx rfl (hb hby at_75) rfl rfl ?_
        refine XS.iloadN XL1234.here hx rfl (hb hby at_77) rfl ?_
        refine XS.bipush XL1234.here hx rfl (hb hby at_78) ?_
        refine XS.iushr XL1234.here hx rfl (hb hby at_80) rfl ?_
        refine XS.sipush XL1234.here hx rfl (hb hby at_81) ?_
        refine XS.iand XL1234.here hx rfl (hb hby at_84) rfl ?_
        refine XS.i2c XL1234.here hx rfl (hb hby at_85) rfl ?_
        show Steps p.tables e below (T1232.setTop (mkF m 86 #[.val (.int p0), .val (.int p1), .val (.int p2), .val (.int p3), .val (.int p4), .val (.int (1 : Int32)), .val (.int (0 : Int32)), .val (.ref b1215), .val (.ref b1217), .val (.int (0 : Int32)), .unset, .unset, .unset, .unset, .unset, .unset, .unset, .unset] [(.int ((((p2.toUInt32 >>> ((8 : Int32) &&& 31).toUInt32).toInt32) &&& (255 : Int32)).toUInt32.toUInt16.toUInt32.toInt32)), (.ref b1217)])) _
        rw [ec8]
        refine st1236 _ ?_
        exact kt
      obtain ⟨cq1249, kq1249, q1249a, q1249b, q1249c⟩ := isOf hZ rfl f1238
      obtain ⟨_, _, ⟨T1249, L1249, k1249, n1249⟩, -, X1249, hs1249, hg1249, ⟨Lc1249, hQ1249, l1249, y1249, z1249, crs1249⟩, st1249⟩ := X1236.virtualBackS hx (y := (⟨"com/example/orbweaver/orbweaver/mapping/JavaSource", "open", "(Ljava/lang/String;)Lcom/example/orbweaver/orbweaver/mapping/JavaSource;"⟩ : MethodName)) (z := (⟨"com/example/orbweaver/orbweaver/mapping/JavaSource", "open", "(Ljava/lang/String;)Lcom/example/orbweaver/orbweaver/mapping/JavaSource;"⟩ : MethodName)) hown (mvT hZ (tw hw 254 rfl)) (mvT hZ (tw hw 255 rfl)) (notFace_of_selects (args := #[]) (mvT hZ (tw hw 257 rfl))) (mvT hZ (tw hw 257 rfl)) (mvT hZ (tw hw 256 rfl)) (by decide) (own_backS1 (s := s) (W := 0) (rmOpen l Z a0 hw [] b1217 b1 v1 k1 76 vs x_o t_o k_o [(.int (nar .byte (c8v.toInt8.toInt32)))] zc T1236.heap n0 Z1236 hEL f1238 f1239 f1240 g_b1217 f1241 f1242 f1243 f1244 f1245 f1246 hvl g_b1 g_v1 E_o V_o C_o A_o rfl (Ne.symm ne_v1_t_o) (by decide) f1247 SC hzc) hZ (tw hw 258 rfl) (tw hw 10 rfl) (by decide) (by decide) hEL cs1237.1 f1245.lt y1237_v1) q1249a q1249c (g := (mkF m 89 #[.val (.int p0), .val (.int p1), .val (.int p2), .val (.int p3), .val (.int p4), .val (.int (1 : Int32)), .val (.int (0 : Int32)), .val (.ref b1215), .val (.ref b1217), .val (.int (0 : Int32)), .unset, .unset, .unset, .unset, .unset, .unset, .unset, .unset] [(.ref x_o), (.ref b1217)])) rfl (by rw [hml]; rfl) (Steps.refl _) (argsL := [(.ref x_o)]) (rest := []) (lenOf pd__Ljava_lang_String__Lcom_example_orbweaver_orbweaver_mapping_JavaSource_ rfl) rfl (by show 2 * 0 + _ ≤ _; exact Nat.le_of_eq rfl) (hb hby at_89) (fun _ _ => ⟨rfl, rfl, (by decide : 29 + 16 ≤ _), (by decide : 2416 + 2000 ≤ _)⟩)
      dsimp only [Pt.U, Pt.locs, Pt.cells, Pt.slots] at X1249 l1249 y1249 z1249 st1249 hQ1249 hs1249 hg1249 crs1249
      subst l1249 y1249 z1249
      obtain ⟨X1249, hSi1249, hZ, hown⟩ := rebS hSi1232 (hk1237) X1249 hs1249 hg1249 hZ hown
      obtain ⟨rfl, N1249q, KC1249, v2, k2, vs2, ⟨JE3, JT3, JD3⟩, ⟨BE3, BV3, BC3, BN3, BA3, BX3⟩, hvl3, g_v2, hv2, y_v2⟩ := hQ1249
      have N1249 := Fr.app N1236 N1249q
      have cs1250 := crs1249
      have cr1250 := cr1237.trans cs1250
      have Z1249 := Nat.le_trans Z1236 KC1249.1
      have K1249 := K1236.trans KC1249 (allS (Or.inr sz_b1217) (allS (Or.inr sz_b1) (allS (Or.inr sz_v1) all0)))
      have sz_v2 : h0.size ≤ v2 := hv2.elim (fun q => by rw [q]; exact sz_v1) (fun q => Nat.le_trans K1236.1 q)
      obtain ⟨LL1251, XL1251, NL1251⟩ : ∃ LL, Stand p l e room_1 (s.setVm T1249.vm) m #[(.int p0), (.int p1), (.int p2), (.int p3), (.int p4)] below meth c T1249 LL 45 4416 ∧ Fr n0 LL := ⟨_, X1249, N1249⟩
      have pre1252 : ∀ t, Steps p.tables e below (T1249.setTop (mkF m 96 #[.val (.int p0), .val (.int p1), .val (.int p2), .val (.int p3), .val (.int p4), .val (.int (1 : Int32)), .val (.int (0 : Int32)), .val (.ref b1215), .val (.ref b1217), .val (.int (1 : Int32)), .unset, .unset, .unset, .unset, .unset, .unset, .unset, .unset] [])) t → Steps p.tables e below (T1236.setTop (mkF m 89 #[.val (.int p0), .val (.int p1), .val (.int p2), .val (.int p3), .val (.int p4), .val (.int (1 : Int32)), .val (.int (0 : Int32)), .val (.ref b1215), .val (.ref b1217), .val (.int (0 : Int32)), .unset, .unset, .unset, .unset, .unset, .unset, .unset, .unset] [(.ref x_o), (.ref b1217)])) t := by
        intro t kt
        refine st1249.trans ?_
        show Steps p.tables e below (T1249.setTop (mkF m 92 #[.val (.int p0), .val (.int p1), .val (.int p2), .val (.int p3), .val (.int p4), .val (.int (1 : Int32)), .val (.int (0 : Int32)), .val (.ref b1215), .val (.ref b1217), .val (.int (0 : Int32)), .unset, .unset, .unset, .unset, .unset, .unset, .unset, .unset] [(.ref b1217)])) _
        refine XS.pop X1249.here hx rfl (hb hby at_92) rfl rfl ?_
        refine XS.iconst X1249.here hx rfl (hb hby at_93) ?_
        refine XS.istore X1249.here hx rfl (hb hby at_94) rfl (l' := #[.val (.int p0), .val (.int p1), .val (.int p2), .val (.int p3), .val (.int p4), .val (.int (1 : Int32)), .val (.int (0 : Int32)), .val (.ref b1215), .val (.ref b1217), .val (.int (1 : Int32)), .unset, .unset, .unset, .unset, .unset, .unset, .unset, .unset]) rfl ?_
        exact kt
      have f1253 := (f1247.keep KC1249 (allS g_b1217 (allS g_b1 (allS g_v1 all0))))
      obtain ⟨s2, o2, q1, q2, q3, q4⟩ := tail0 p0 p1 p2 p3 p4 zc fm (h0 := h0) (hT := T1249.heap) (ct := 80) (XL1251.more (by decide) (by decide)) hx hZ hw hby hml hown Bd.returns Bd.notSynchronized hh rfl NL1251 hSi1249 (Nat.le_refl _) hEL cs1250.1 cr1250 Z1249 K1249 f1253 SC hzc SFm rf sz_b1217 sz_b1 sz_v2 JE3 JT3 JD3 g_b1217 BE3 BV3 BC3 BN3 BA3 BX3 hvl3 g_b1 g_v2 y_v2 (by decide) (fun x => by show ((Int32.ofNat 0) + (1 : Int32)) + (x - (1 : Int32)) = x; rw [show (Int32.ofNat 0) + (1 : Int32) = 1 from by decide, Int32.add_comm, Int32.sub_add_cancel])
      exact ⟨s2, o2, (pre0 _ (pre1213 _ (pre1214 _ (pre1231 _ (pre1248 _ (pre1252 _ q1)))))), q2, q3, q4⟩
    · skip
      obtain ⟨_, _, ⟨T1254, L1254, k1254, n1254⟩, -, X1254, ⟨Lc1254, hQ1254, l1254, y1254, z1254⟩, st1254⟩ := Jvm.LawKit.callS X0 hx (y := (⟨"java/lang/String", "valueOf", "(C)Ljava/lang/String;"⟩ : MethodName)) hown (mvT hZ (tw hw 11 rfl)) (mvT hZ (tw hw 12 rfl)) (mvT hZ (tw hw 1 rfl)) (mvT hZ (tw hw 13 rfl)) (by decide) (backOf (W := 0) (rmVoC l Z a0 hw [] c3v zc h0 n0 Z0 hc3 (SC.ext OZ.2) hzc) hZ (tw hw 13 rfl) (tw hw 1 rfl) (by decide) (by decide)) (g := (mkF m 37 #[.val (.int p0), .val (.int p1), .val (.int p2), .val (.int p3), .val (.int p4), .val (.int (1 : Int32)), .val (.int (1 : Int32)), .unset, .unset, .unset, .unset, .unset, .unset, .unset, .unset, .unset, .unset, .unset] [(.int c3v)])) rfl (by rw [hml]; rfl) (argsL := [(.int c3v)]) (rest := []) (lenOf pd__C_Ljava_lang_String_ rfl) rfl (by show 2 * 0 + _ ≤ _; exact Nat.le_of_eq rfl) (hb hby at_37) (fun _ _ => ⟨rfl, e0, (by decide : 0 + 2 ≤ _), (by decide : 0 + 5 ≤ _)⟩)
      dsimp only [Pt.U, Pt.locs, Pt.cells, Pt.slots] at X1254 l1254 y1254 z1254 st1254 hQ1254
      subst l1254 y1254 z1254
      obtain ⟨x_y, rfl, N1254q, EX1254, le_y, t_y, k_y, ⟨E_y, V_y, C_y, A_y⟩, lt_y⟩ := hQ1254
      have N1254 := Fr.app N0 N1254q
      have g_x_y : n0 ≤ x_y := Nat.le_trans Z0 le_y
      have sz_x_y : h0.size ≤ x_y := Nat.le_trans (Keep.refl h0 []).1 le_y
      have g_t_y : n0 ≤ t_y := Nat.le_trans Z0 lt_y
      have sz_t_y : h0.size ≤ t_y := Nat.le_trans (Keep.refl h0 []).1 lt_y
      have cs1255 := CHr.ext EX1254 hCH
      have cr1255 := (CHr.refl hCH).trans cs1255
      have hk1255 := Nat.le_trans (Nat.zero_le _) cs1255.2.1
      have Z1254 := Nat.le_trans Z0 EX1254.1
      have K1254 := (Keep.refl h0 []).ext EX1254
      obtain ⟨T1256, h1256, X1256, e1256, E1256, A1256, D1256, -, st1256⟩ := newO X1254 hx hZ hown (tw hw 8 rfl) (tw hw 9 rfl) (tw hw 10 rfl) rfl (g := (mkF m 47 #[.val (.int p0), .val (.int p1), .val (.int p2), .val (.int p3), .val (.int p4), .val (.int (1 : Int32)), .val (.int (1 : Int32)), .val (.ref x_y), .unset, .unset, .unset, .unset, .unset, .unset, .unset, .unset, .unset, .unset] [])) rfl (hb hby at_47) (by decide) (by decide)
      obtain ⟨b1256, g1256⟩ : ∃ z, z = T1254.heap.size := ⟨_, rfl⟩
      rw [← g1256] at A1256 D1256 st1256
      have g_b1256 : n0 ≤ b1256 := Nat.le_trans Z1254 (Nat.le_of_eq g1256.symm)
      have sz_b1256 : h0.size ≤ b1256 := Nat.le_trans K1254.1 (Nat.le_of_eq g1256.symm)
      have cs1257 := CHr.ext E1256 cs1255.1
      have cr1257 := cr1255.trans cs1257
      have hk1257 := Nat.le_trans hk1255 cs1257.2.1
      have Z1256 := Nat.le_trans Z1254 E1256.1
      have K1256 := K1254.ext E1256
      have F1256_text : Fld Z h1256 b1256 "com/example/orbweaver/orbweaver/mapping/JavaSource" "text" "Ljava/lang/StringBuilder;" .null := D1256 (Or.inr (tw hw 55 rfl)) (ty := (.object "java/lang/StringBuilder")) (by decide)
      have F1256_depth : Fld Z h1256 b1256 "com/example/orbweaver/orbweaver/mapping/JavaSource" "depth" "I" (.int (0 : Int32)) := D1256 (Or.inl (tw hw 174 rfl)) (ty := .int) (by decide)
      have f1258 := ((OZ.ext EX1254).ext E1256)
      have f1260 := (A_y.ext E1256)
      have f1261 := (E_y.ext E1256)
      obtain ⟨_, _, ⟨T1259, L1259, k1259, n1259⟩, -, X1259, ⟨Lc1259, hQ1259, l1259, y1259, z1259⟩, st1259⟩ := Jvm.LawKit.callS X1256 hx (y := (⟨"java/lang/String", "valueOf", "(C)Ljava/lang/String;"⟩ : MethodName)) hown (mvT hZ (tw hw 11 rfl)) (mvT hZ (tw hw 12 rfl)) (mvT hZ (tw hw 1 rfl)) (mvT hZ (tw hw 13 rfl)) (by decide) (backOf (W := 2) (rmVoC l Z a0 hw [] c2v zc h1256 n0 Z1256 hc2 (SC.ext f1258.2) hzc) hZ (tw hw 13 rfl) (tw hw 1 rfl) (by decide) (by decide)) (g := (mkF m 57 #[.val (.int p0), .val (.int p1), .val (.int p2), .val (.int p3), .val (.int p4), .val (.int (1 : Int32)), .val (.int (1 : Int32)), .val (.ref x_y), .unset, .unset, .unset, .unset, .unset, .unset, .unset, .unset, .unset, .unset] [(.int c2v), (.ref b1256), (.ref b1256)])) rfl (by rw [hml]; rfl) (argsL := [(.int c2v)]) (rest := [(.ref b1256), (.ref b1256)]) (lenOf pd__C_Ljava_lang_String_ rfl) rfl (by show 2 * 0 + _ ≤ _; exact Nat.le_of_eq rfl) (hb hby at_57) (fun _ _ => ⟨rfl, e1256, (by decide : 3 + 2 ≤ _), (by decide : 7 + 5 ≤ _)⟩)
      dsimp only [Pt.U, Pt.locs, Pt.cells, Pt.slots] at X1259 l1259 y1259 z1259 st1259 hQ1259
      subst l1259 y1259 z1259
      obtain ⟨x_x, rfl, N1259q, EX1259, le_x, t_x, k_x, ⟨E_x, V_x, C_x, A_x⟩, lt_x⟩ := hQ1259
      have N1259 := Fr.app N1254 N1259q
      have g_x_x : n0 ≤ x_x := Nat.le_trans Z1256 le_x
      have sz_x_x : h0.size ≤ x_x := Nat.le_trans K1256.1 le_x
      have ne_t_y_x_x : t_y ≠ x_x := Nat.ne_of_lt (Nat.lt_of_lt_of_le f1260.lt le_x)
      have ne_x_y_x_x : x_y ≠ x_x := Nat.ne_of_lt (Nat.lt_of_lt_of_le f1261.lt le_x)
      have g_t_x : n0 ≤ t_x := Nat.le_trans Z1256 lt_x
      have sz_t_x : h0.size ≤ t_x := Nat.le_trans K1256.1 lt_x
      have ne_t_y_t_x : t_y ≠ t_x := Nat.ne_of_lt (Nat.lt_of_lt_of_le f1260.lt lt_x)
      have ne_x_y_t_x : x_y ≠ t_x := Nat.ne_of_lt (Nat.lt_of_lt_of_le f1261.lt lt_x)
      have cs1262 := CHr.ext EX1259 cs1257.1
      have cr1262 := cr1257.trans cs1262
      have hk1262 := Nat.le_trans hk1257 cs1262.2.1
      have Z1259 := Nat.le_trans Z1256 EX1259.1
      have K1259 := K1256.ext EX1259
      have f1263 := (A1256.ext EX1259)
      have f1264 := (F1256_text.ext EX1259)
      have f1265 := (F1256_depth.ext EX1259)
      have f1266 := (f1261.ext EX1259)
      have f1267 := ((V_y.ext E1256).ext EX1259)
      have f1268 := (f1260.ext EX1259)
      have f1269 := ((C_y.ext E1256).ext EX1259)
      have f1270 := (f1258.ext EX1259)
      have pre1271 : ∀ t, Steps p.tables e below (T1259.setTop (mkF m 62 #[.val (.int p0), .val (.int p1), .val (.int p2), .val (.int p3), .val (.int p4), .val (.int (1 : Int32)), .val (.int (1 : Int32)), .val (.ref x_y), .unset, .unset, .unset, .unset, .unset, .unset, .unset, .unset, .unset, .unset] [(.ref x_y), (.ref x_x), (.ref b1256), (.ref b1256)])) t → Steps p.tables e below (s₁.setTop (mkF m 16 #[.val (.int p0), .val (.int p1), .val (.int p2), .val (.int p3), .val (.int p4), .val (.int (1 : Int32)), .unset, .unset, .unset, .unset, .unset, .unset, .unset, .unset, .unset, .unset, .unset, .unset] [(.int (p0 &&& (2 : Int32)))])) t := by
        intro t kt
        refine XS.ifNo X0.here hx rfl (hb hby at_16) rfl ((if0 _ _).trans (feq (cnm : ¬ ((p0 &&& (2 : Int32)) = (0 : Int32)))).1) ?_
        show Steps p.tables e below (s₁.setTop (mkF m 19 #[.val (.int p0), .val (.int p1), .val (.int p2), .val (.int p3), .val (.int p4), .val (.int (1 : Int32)), .unset, .unset, .unset, .unset, .unset, .unset, .unset, .unset, .unset, .unset, .unset, .unset] [])) _
        refine XS.iconst X0.here hx rfl (hb hby at_19) ?_
        refine XS.goto X0.here hx rfl (pc0 := 20) (pc' := 24) rfl (hb hby at_20) (by decide) (by decide) ?_
        refine XS.istore X0.here hx rfl (hb hby at_24) rfl (l' := #[.val (.int p0), .val (.int p1), .val (.int p2), .val (.int p3), .val (.int p4), .val (.int (1 : Int32)), .val (.int (1 : Int32)), .unset, .unset, .unset, .unset, .unset, .unset, .unset, .unset, .unset, .unset, .unset]) rfl ?_
        show Steps p.tables e below (s₁.setTop (mkF m 26 #[.val (.int p0), .val (.int p1), .val (.int p2), .val (.int p3), .val (.int p4), .val (.int (1 : Int32)), .val (.int (1 : Int32)), .unset, .unset, .unset, .unset, .unset, .unset, .unset, .unset, .unset, .unset, .unset] [])) _
        refine XS.iload X0.here hx rfl (hb hby at_26) rfl ?_
        refine XS.ifNo X0.here hx rfl (hb hby at_28) rfl ((if0 _ _).trans (feq (by decide : ¬ ((1 : Int32) = (0 : Int32)))).1) ?_
        show Steps p.tables e below (s₁.setTop (mkF m 31 #[.val (.int p0), .val (.int p1), .val (.int p2), .val (.int p3), .val (.int p4), .val (.int (1 : Int32)), .val (.int (1 : Int32)), .unset, .unset, .unset, .unset, .unset, .unset, .unset, .unset, .unset, .unset, .unset] [])) _
        refine XS.iloadN X0.here hx rfl (hb hby at_31) rfl ?_
        refine XS.sipush X0.here hx rfl (hb hby at_32) ?_
        refine XS.iand X0.here hx rfl (hb hby at_35) rfl ?_
        refine XS.i2c X0.here hx rfl (hb hby at_36) rfl ?_
        show Steps p.tables e below (s₁.setTop (mkF m 37 #[.val (.int p0), .val (.int p1), .val (.int p2), .val (.int p3), .val (.int p4), .val (.int (1 : Int32)), .val (.int (1 : Int32)), .unset, .unset, .unset, .unset, .unset, .unset, .unset, .unset, .unset, .unset, .unset] [(.int ((p3 &&& (255 : Int32)).toUInt32.toUInt16.toUInt32.toInt32))])) _
        rw [ec3]
        refine st1254 _ ?_
        show Steps p.tables e below (T1254.setTop (mkF m 40 #[.val (.int p0), .val (.int p1), .val (.int p2), .val (.int p3), .val (.int p4), .val (.int (1 : Int32)), .val (.int (1 : Int32)), .unset, .unset, .unset, .unset, .unset, .unset, .unset, .unset, .unset, .unset, .unset] [(.ref x_y)])) _
        refine XS.goto X1254.here hx rfl (pc0 := 40) (pc' := 45) rfl (hb hby at_40) (by decide) (by decide) ?_
        refine XS.astore X1254.here hx rfl (hb hby at_45) rfl rfl (l' := #[.val (.int p0), .val (.int p1), .val (.int p2), .val (.int p3), .val (.int p4), .val (.int (1 : Int32)), .val (.int (1 : Int32)), .val (.ref x_y), .unset, .unset, .unset, .unset, .unset, .unset, .unset, .unset, .unset, .unset]) rfl ?_
        show Steps p.tables e below (T1254.setTop (mkF m 47 #[.val (.int p0), .val (.int p1), .val (.int p2), .val (.int p3), .val (.int p4), .val (.int (1 : Int32)), .val (.int (1 : Int32)), .val (.ref x_y), .unset, .unset, .unset, .unset, .unset, .unset, .unset, .unset, .unset, .unset] [])) _
        refine st1256 _ ?_
        show Steps p.tables e below (T1256.setTop (mkF m 50 #[.val (.int p0), .val (.int p1), .val (.int p2), .val (.int p3), .val (.int p4), .val (.int (1 : Int32)), .val (.int (1 : Int32)), .val (.ref x_y), .unset, .unset, .unset, .unset, .unset, .unset, .unset, .unset, .unset, .unset] [(.ref b1256)])) _
        refine XS.dup X1256.here hx rfl (hb hby at_50) rfl rfl ?_
        refine XS.iloadN X1256.here hx rfl (hb hby at_51) rfl ?_
        refine XS.sipush X1256.here hx rfl (hb hby at_52) ?_
        refine XS.iand X1256.here hx rfl (hb hby at_55) rfl ?_
        refine XS.i2c X1256.here hx rfl (hb hby at_56) rfl ?_
        show Steps p.tables e below (T1256.setTop (mkF m 57 #[.val (.int p0), .val (.int p1), .val (.int p2), .val (.int p3), .val (.int p4), .val (.int (1 : Int32)), .val (.int (1 : Int32)), .val (.ref x_y), .unset, .unset, .unset, .unset, .unset, .unset, .unset, .unset, .unset, .unset] [(.int ((p2 &&& (255 : Int32)).toUInt32.toUInt16.toUInt32.toInt32)), (.ref b1256), (.ref b1256)])) _
        rw [ec2]
        refine st1259 _ ?_
        show Steps p.tables e below (T1259.setTop (mkF m 60 #[.val (.int p0), .val (.int p1), .val (.int p2), .val (.int p3), .val (.int p4), .val (.int (1 : Int32)), .val (.int (1 : Int32)), .val (.ref x_y), .unset, .unset, .unset, .unset, .unset, .unset, .unset, .unset, .unset, .unset] [(.ref x_x), (.ref b1256), (.ref b1256)])) _
        refine XS.aload X1259.here hx rfl (hb hby at_60) rfl rfl ?_
        exact kt
      obtain ⟨_, _, ⟨T1272, L1272, k1272, n1272⟩, -, X1272, hs1272, hg1272, ⟨Lc1272, hQ1272, l1272, y1272, z1272, crs1272⟩, st1272⟩ := X1259.specialBackS hx (y := (⟨"com/example/orbweaver/orbweaver/mapping/JavaSource", "<init>", "(Ljava/lang/String;Ljava/lang/String;)V"⟩ : MethodName)) rfl hown (mvT hZ (tw hw 32 rfl)) (mvT hZ (tw hw 33 rfl)) (mvT hZ (tw hw 34 rfl)) (by decide) (own_backS0 (s := s) (W := 1) (rmCtor1 l Z a0 hw [] b1256 x_x t_x k_x [(.int (nar .byte (c2v.toInt8.toInt32)))] x_y t_y k_y [(.int (nar .byte (c3v.toInt8.toInt32)))] zc T1259.heap n0 Z1259 hEL f1263 f1264 f1265 g_b1256 E_x V_x C_x A_x rfl f1266 f1267 f1268 f1269 rfl f1270 SC hzc) hZ (tw hw 34 rfl) (tw hw 10 rfl) (by decide) (by decide) hEL cs1262.1) (g := (mkF m 62 #[.val (.int p0), .val (.int p1), .val (.int p2), .val (.int p3), .val (.int p4), .val (.int (1 : Int32)), .val (.int (1 : Int32)), .val (.ref x_y), .unset, .unset, .unset, .unset, .unset, .unset, .unset, .unset, .unset, .unset] [(.ref x_y), (.ref x_x), (.ref b1256), (.ref b1256)])) rfl (by rw [hml]; rfl) (Steps.refl _) (a := b1256) (argsL := [(.ref x_x), (.ref x_y)]) (rest := [(.ref b1256)]) (lenOf pd__Ljava_lang_String_Ljava_lang_String__V rfl) rfl (by show 2 * 0 + _ ≤ _; exact Nat.le_of_eq rfl) (hb hby at_62) (fun _ _ => ⟨rfl, rfl, (by decide : 5 + 40 ≤ _), (by decide : 12 + 4200 ≤ _)⟩)
      dsimp only [Pt.U, Pt.locs, Pt.cells, Pt.slots] at X1272 l1272 y1272 z1272 st1272 hQ1272 hs1272 hg1272 crs1272
      subst l1272 y1272 z1272
      obtain ⟨X1272, hSi1272, hZ, hown⟩ := rebS hSi0 (hk1262) X1272 hs1272 hg1272 hZ hown
      obtain ⟨rfl, N1272q, KC1272, b1, v1, k1, vs, ⟨JE1, JT1, JD1⟩, ⟨BE1, BV1, BC1, BN1, BA1, BX1⟩, hvl, lb1, lv1, y_v1⟩ := hQ1272
      have N1272 := Fr.app N1259 N1272q
      have g_b1 : n0 ≤ b1 := Nat.le_trans Z1259 lb1
      have sz_b1 : h0.size ≤ b1 := Nat.le_trans K1259.1 lb1
      have ne_t_x_b1 : t_x ≠ b1 := Nat.ne_of_lt (Nat.lt_of_lt_of_le A_x.lt lb1)
      have ne_t_y_b1 : t_y ≠ b1 := Nat.ne_of_lt (Nat.lt_of_lt_of_le f1268.lt lb1)
      have ne_x_x_b1 : x_x ≠ b1 := Nat.ne_of_lt (Nat.lt_of_lt_of_le E_x.lt lb1)
      have ne_x_y_b1 : x_y ≠ b1 := Nat.ne_of_lt (Nat.lt_of_lt_of_le f1266.lt lb1)
      have g_v1 : n0 ≤ v1 := Nat.le_trans Z1259 lv1
      have sz_v1 : h0.size ≤ v1 := Nat.le_trans K1259.1 lv1
      have ne_t_x_v1 : t_x ≠ v1 := Nat.ne_of_lt (Nat.lt_of_lt_of_le A_x.lt lv1)
      have ne_t_y_v1 : t_y ≠ v1 := Nat.ne_of_lt (Nat.lt_of_lt_of_le f1268.lt lv1)
      have ne_x_x_v1 : x_x ≠ v1 := Nat.ne_of_lt (Nat.lt_of_lt_of_le E_x.lt lv1)
      have ne_x_y_v1 : x_y ≠ v1 := Nat.ne_of_lt (Nat.lt_of_lt_of_le f1266.lt lv1)
      have cs1273 := crs1272
      have cr1273 := cr1262.trans cs1273
      have Z1272 := Nat.le_trans Z1259 KC1272.1
      have K1272 := K1259.trans KC1272 (allS (Or.inr sz_b1256) all0)
      have ne_b1_v1 : b1 ≠ v1 := BE1.neArv BA1 (tw hw 37 rfl)
      obtain ⟨LL1274, XL1274, NL1274⟩ : ∃ LL, Stand p l e room_1 (s.setVm T1272.vm) m #[(.int p0), (.int p1), (.int p2), (.int p3), (.int p4)] below meth c T1272 LL 45 4212 ∧ Fr n0 LL := ⟨_, X1272, N1272⟩
      have f1275 := (f1270.keep KC1272 (allS g_b1256 all0))
      obtain ⟨_, _, ⟨T1276, L1276, k1276, n1276⟩, -, X1276, ⟨Lc1276, hQ1276, l1276, y1276, z1276⟩, st1276⟩ := Jvm.LawKit.callS XL1274 hx (y := (⟨"java/lang/String", "valueOf", "(C)Ljava/lang/String;"⟩ : MethodName)) hown (mvT hZ (tw hw 11 rfl)) (mvT hZ (tw hw 12 rfl)) (mvT hZ (tw hw 1 rfl)) (mvT hZ (tw hw 13 rfl)) (by decide) (backOf (W := 1) (rmVoC l Z a0 hw [] c8v zc T1272.heap n0 Z1272 hc8 (SC.ext f1275.2) hzc) hZ (tw hw 13 rfl) (tw hw 1 rfl) (by decide) (by decide)) (g := (mkF m 86 #[.val (.int p0), .val (.int p1), .val (.int p2), .val (.int p3), .val (.int p4), .val (.int (1 : Int32)), .val (.int (1 : Int32)), .val (.ref x_y), .val (.ref b1256), .val (.int (0 : Int32)), .unset, .unset, .unset, .unset, .unset, .unset, .unset, .unset] [(.int c8v), (.ref b1256)])) rfl (by rw [hml]; rfl) (argsL := [(.int c8v)]) (rest := [(.ref b1256)]) (lenOf pd__C_Ljava_lang_String_ rfl) rfl (by show 2 * 0 + _ ≤ _; exact Nat.le_of_eq rfl) (hb hby at_86) (fun _ _ => ⟨rfl, rfl, (by decide : 45 + 2 ≤ _), (by decide : 4212 + 5 ≤ _)⟩)
      dsimp only [Pt.U, Pt.locs, Pt.cells, Pt.slots] at X1276 l1276 y1276 z1276 st1276 hQ1276
      subst l1276 y1276 z1276
      obtain ⟨x_o, rfl, N1276q, EX1276, le_o, t_o, k_o, ⟨E_o, V_o, C_o, A_o⟩, lt_o⟩ := hQ1276
      have N1276 := Fr.app NL1274 N1276q
      have g_x_o : n0 ≤ x_o := Nat.le_trans Z1272 le_o
      have sz_x_o : h0.size ≤ x_o := Nat.le_trans K1272.1 le_o
      have ne_b1_x_o : b1 ≠ x_o := Nat.ne_of_lt (Nat.lt_of_lt_of_le BE1.lt le_o)
      have ne_v1_x_o : v1 ≠ x_o := Nat.ne_of_lt (Nat.lt_of_lt_of_le BA1.lt le_o)
      have g_t_o : n0 ≤ t_o := Nat.le_trans Z1272 lt_o
      have sz_t_o : h0.size ≤ t_o := Nat.le_trans K1272.1 lt_o
      have ne_b1_t_o : b1 ≠ t_o := Nat.ne_of_lt (Nat.lt_of_lt_of_le BE1.lt lt_o)
      have ne_v1_t_o : v1 ≠ t_o := Nat.ne_of_lt (Nat.lt_of_lt_of_le BA1.lt lt_o)
      have cs1277 := CHr.ext EX1276 cs1273.1
      have cr1277 := cr1273.trans cs1277
      have y1277_v1 := cs1277.safe BA1.lt y_v1
      have hk1277 := Nat.le_trans (Nat.le_refl _) cs1277.2.1
      have Z1276 := Nat.le_trans Z1272 EX1276.1
      have K1276 := K1272.ext EX1276
      have f1278 := (JE1.ext EX1276)
      have f1279 := (JT1.ext EX1276)
      have f1280 := (JD1.ext EX1276)
      have f1281 := (BE1.ext EX1276)
      have f1282 := (BV1.ext EX1276)
      have f1283 := (BC1.ext EX1276)
      have f1284 := (BN1.ext EX1276)
      have f1285 := (BA1.ext EX1276)
      have f1286 := (BX1.ext EX1276)
      have f1287 := (f1275.ext EX1276)
      have pre1288 : ∀ t, Steps p.tables e below (T1276.setTop (mkF m 89 #[.val (.int p0), .val (.int p1), .val (.int p2), .val (.int p3), .val (.int p4), .val (.int (1 : Int32)), .val (.int (1 : Int32)), .val (.ref x_y), .val (.ref b1256), .val (.int (0 : Int32)), .unset, .unset, .unset, .unset, .unset, .unset, .unset, .unset] [(.ref x_o), (.ref b1256)])) t → Steps p.tables e below (T1259.setTop (mkF m 62 #[.val (.int p0), .val (.int p1), .val (.int p2), .val (.int p3), .val (.int p4), .val (.int (1 : Int32)), .val (.int (1 : Int32)), .val (.ref x_y), .unset, .unset, .unset, .unset, .unset, .unset, .unset, .unset, .unset, .unset] [(.ref x_y), (.ref x_x), (.ref b1256), (.ref b1256)])) t := by
        intro t kt
        refine st1272.trans ?_
        show Steps p.tables e below (T1272.setTop (mkF m 65 #[.val (.int p0), .val (.int p1), .val (.int p2), .val (.int p3), .val (.int p4), .val (.int (1 : Int32)), .val (.int (1 : Int32)), .val (.ref x_y), .unset, .unset, .unset, .unset, .unset, .unset, .unset, .unset, .unset, .unset] [(.ref b1256)])) _
        refine XS.astore XL1274.here hx rfl (hb hby at_65) rfl rfl (l' := #[.val (.int p0), .val (.int p1), .val (.int p2), .val (.int p3), .val (.int p4), .val (.int (1 : Int32)), .val (.int (1 : Int32)), .val (.ref x_y), .val (.ref b1256), .unset, .unset, .unset, .unset, .unset, .unset, .unset, .unset, .unset]) rfl ?_
        refine XS.iconst XL1274.here hx rfl (hb hby at_67) ?_
        refine XS.istore XL1274.here hx rfl (hb hby at_68) rfl (l' := #[.val (.int p0), .val (.int p1), .val (.int p2), .val (.int p3), .val (.int p4), .val (.int (1 : Int32)), .val (.int (1 : Int32)), .val (.ref x_y), .val (.ref b1256), .val (.int (0 : Int32)), .unset, .unset, .unset, .unset, .unset, .unset, .unset, .unset]) rfl ?_
        refine XS.iload XL1274.here hx rfl (hb hby at_70) rfl ?_
        refine XS.ifNo XL1274.here hx rfl (hb hby at_72) rfl ((if0 _ _).trans (feq (by decide : ¬ ((1 : Int32) = (0 : Int32)))).1) ?_
        show Steps p.tables e below (T1272.setTop (mkF m 75 #[.val (.int p0), .val (.int p1), .val (.int p2), .val (.int p3), .val (.int p4), .val (.int (1 : Int32)), .val (.int (1 : Int32)), .val (.ref x_y), .val (.ref b1256), .val (.int (0 : Int32)), .unset, .unset, .unset, .unset, .unset, .unset, .unset, .unset] [])) _
        refine XS.aload XL1274.here hx rfl (hb hby at_75) rfl rfl ?_
        refine XS.iloadN XL1274.here hx rfl (hb hby at_77) rfl ?_
        refine XS.bipush XL1274.here hx rfl (hb hby at_78) ?_
        refine XS.iushr XL1274.here hx rfl (hb hby at_80) rfl ?_
        refine XS.sipush XL1274.here hx rfl (hb hby at_81) ?_
        refine XS.iand XL1274.here hx rfl (hb hby at_84) rfl ?_
        refine XS.i2c XL1274.here hx rfl (hb hby at_85) rfl ?_
        show Steps p.tables e below (T1272.setTop (mkF m 86 #[.val (.int p0), .val (.int p1), .val (.int p2), .val (.int p3), .val (.int p4), .val (.int (1 : Int32)), .val (.int (1 : Int32)), .val (.ref x_y), .val (.ref b1256), .val (.int (0 : Int32)), .unset, .unset, .unset, .unset, .unset, .unset, .unset, .unset] [(.int ((((p2.toUInt32 >>> ((8 : Int32) &&& 31).toUInt32).toInt32) &&& (255 : Int32)).toUInt32.toUInt16.toUInt32.toInt32)), (.ref b1256)])) _
        rw [ec8]
        refine st1276 _ ?_
        exact kt
      obtain ⟨cq1289, kq1289, q1289a, q1289b, q1289c⟩ := isOf hZ rfl f1278
      obtain ⟨_, _, ⟨T1289, L1289, k1289, n1289⟩, -, X1289, hs1289, hg1289, ⟨Lc1289, hQ1289, l1289, y1289, z1289, crs1289⟩, st1289⟩ := X1276.virtualBackS hx (y := (⟨"com/example/orbweaver/orbweaver/mapping/JavaSource", "open", "(Ljava/lang/String;)Lcom/example/orbweaver/orbweaver/mapping/JavaSource;"⟩ : MethodName)) (z := (⟨"com/example/orbweaver/orbweaver/mapping/JavaSource", "open", "(Ljava/lang/String;)Lcom/example/orbweaver/orbweaver/mapping/JavaSource;"⟩ : MethodName)) hown (mvT hZ (tw hw 254 rfl)) (mvT hZ (tw hw 255 rfl)) (notFace_of_selects (args := #[]) (mvT hZ (tw hw 257 rfl))) (mvT hZ (tw hw 257 rfl)) (mvT hZ (tw hw 256 rfl)) (by decide) (own_backS1 (s := s) (W := 0) (rmOpen l Z a0 hw [] b1256 b1 v1 k1 88 vs x_o t_o k_o [(.int (nar .byte (c8v.toInt8.toInt32)))] zc T1276.heap n0 Z1276 hEL f1278 f1279 f1280 g_b1256 f1281 f1282 f1283 f1284 f1285 f1286 hvl g_b1 g_v1 E_o V_o C_o A_o rfl (Ne.symm ne_v1_t_o) (by decide) f1287 SC hzc) hZ (tw hw 258 rfl) (tw hw 10 rfl) (by decide) (by decide) hEL cs1277.1 f1285.lt y1277_v1) q1289a q1289c (g := (mkF m 89 #[.val (.int p0), .val (.int p1), .val (.int p2), .val (.int p3), .val (.int p4), .val (.int (1 : Int32)), .val (.int (1 : Int32)), .val (.ref x_y), .val (.ref b1256), .val (.int (0 : Int32)), .unset, .unset, .unset, .unset, .unset, .unset, .unset, .unset] [(.ref x_o), (.ref b1256)])) rfl (by rw [hml]; rfl) (Steps.refl _) (argsL := [(.ref x_o)]) (rest := []) (lenOf pd__Ljava_lang_String__Lcom_example_orbweaver_orbweaver_mapping_JavaSource_ rfl) rfl (by show 2 * 0 + _ ≤ _; exact Nat.le_of_eq rfl) (hb hby at_89) (fun _ _ => ⟨rfl, rfl, (by decide : 47 + 16 ≤ _), (by decide : 4217 + 2000 ≤ _)⟩)
      dsimp only [Pt.U, Pt.locs, Pt.cells, Pt.slots] at X1289 l1289 y1289 z1289 st1289 hQ1289 hs1289 hg1289 crs1289
      subst l1289 y1289 z1289
      obtain ⟨X1289, hSi1289, hZ, hown⟩ := rebS hSi1272 (hk1277) X1289 hs1289 hg1289 hZ hown
      obtain ⟨rfl, N1289q, KC1289, v2, k2, vs2, ⟨JE3, JT3, JD3⟩, ⟨BE3, BV3, BC3, BN3, BA3, BX3⟩, hvl3, g_v2, hv2, y_v2⟩ := hQ1289
      have N1289 := Fr.app N1276 N1289q
      have cs1290 := crs1289
      have cr1290 := cr1277.trans cs1290
      have Z1289 := Nat.le_trans Z1276 KC1289.1
      have K1289 := K1276.trans KC1289 (allS (Or.inr sz_b1256) (allS (Or.inr sz_b1) (allS (Or.inr sz_v1) all0)))
      have sz_v2 : h0.size ≤ v2 := hv2.elim (fun q => by rw [q]; exact sz_v1) (fun q => Nat.le_trans K1276.1 q)
      obtain ⟨LL1291, XL1291, NL1291⟩ : ∃ LL, Stand p l e room_1 (s.setVm T1289.vm) m #[(.int p0), (.int p1), (.int p2), (.int p3), (.int p4)] below meth c T1289 LL 63 6217 ∧ Fr n0 LL := ⟨_, X1289, N1289⟩
      have pre1292 : ∀ t, Steps p.tables e below (T1289.setTop (mkF m 96 #[.val (.int p0), .val (.int p1), .val (.int p2), .val (.int p3), .val (.int p4), .val (.int (1 : Int32)), .val (.int (1 : Int32)), .val (.ref x_y), .val (.ref b1256), .val (.int (1 : Int32)), .unset, .unset, .unset, .unset, .unset, .unset, .unset, .unset] [])) t → Steps p.tables e below (T1276.setTop (mkF m 89 #[.val (.int p0), .val (.int p1), .val (.int p2), .val (.int p3), .val (.int p4), .val (.int (1 : Int32)), .val (.int (1 : Int32)), .val (.ref x_y), .val (.ref b1256), .val (.int (0 : Int32)), .unset, .unset, .unset, .unset, .unset, .unset, .unset, .unset] [(.ref x_o), (.ref b1256)])) t := by
        intro t kt
        refine st1289.trans ?_
        show Steps p.tables e below (T1289.setTop (mkF m 92 #[.val (.int p0), .val (.int p1), .val (.int p2), .val (.int p3), .val (.int p4), .val (.int (1 : Int32)), .val (.int (1 : Int32)), .val (.ref x_y), .val (.ref b1256), .val (.int (0 : Int32)), .unset, .unset, .unset, .unset, .unset, .unset, .unset, .unset] [(.ref b1256)])) _
        refine XS.pop X1289.here hx rfl (hb hby at_92) rfl rfl ?_
        refine XS.iconst X1289.here hx rfl (hb hby at_93) ?_
        refine XS.istore X1289.here hx rfl (hb hby at_94) rfl (l' := #[.val (.int p0), .val (.int p1), .val (.int p2), .val (.int p3), .val (.int p4), .val (.int (1 : Int32)), .val (.int (1 : Int32)), .val (.ref x_y), .val (.ref b1256), .val (.int (1 : Int32)), .unset, .unset, .unset, .unset, .unset, .unset, .unset, .unset]) rfl ?_
        exact kt
      have f1293 := (f1287.keep KC1289 (allS g_b1256 (allS g_b1 (allS g_v1 all0))))
      obtain ⟨s2, o2, q1, q2, q3, q4⟩ := tail0 p0 p1 p2 p3 p4 zc fm (h0 := h0) (hT := T1289.heap) (ct := 92) (XL1291.more (by decide) (by decide)) hx hZ hw hby hml hown Bd.returns Bd.notSynchronized hh rfl NL1291 hSi1289 (Nat.le_refl _) hEL cs1290.1 cr1290 Z1289 K1289 f1293 SC hzc SFm rf sz_b1256 sz_b1 sz_v2 JE3 JT3 JD3 g_b1256 BE3 BV3 BC3 BN3 BA3 BX3 hvl3 g_b1 g_v2 y_v2 (by decide) (fun x => by show ((Int32.ofNat 0) + (1 : Int32)) + (x - (1 : Int32)) = x; rw [show (Int32.ofNat 0) + (1 : Int32) = 1 from by decide, Int32.add_comm, Int32.sub_add_cancel])
      exact ⟨s2, o2, (pre0 _ (pre1213 _ (pre1271 _ (pre1288 _ (pre1292 _ q1))))), q2, q3, q4⟩
set_option maxRecDepth 65536 in
set_option maxHeartbeats 40000000 in
theorem comes_1 {Post : Tables → Env → Array Value → State → Outcome → State → Prop} (hpost : ∀ tb e args s v u, (limb_1_1.after args s (.returned v) u = true ∧ limb_1_2.after args s (.returned v) u = true ∧ True) → ReturnedEndW s (.returned v) u (Jvm.fieldLocs frame_1_writes args s ++ Jvm.arrayLocs frame_1_arrays args s ++ Jvm.staticLocs frame_1_statics s) 96 10304 → Post tb e args s (.returned v) u) :
    ArmFor flags0 classFile x code maxLocals ret World_1 tables_1 room_1 Calls_1 rest_1 Pre_1 Post := by
  intro l hfl _ _ p e ha hc hk s m args below hf hA hF happ hP
  obtain ⟨hcalls, hrest, hpre⟩ := hP
  obtain ⟨-, -, -, hnamed, -, -, -, hat⟩ := (Spec.applies_iff hf).mp happ
  obtain ⟨hg, hn⟩ := and_e (Cond.before_iff.mp (show (Jvm.Cond.and given_1 narrow_1).before args s = true from hpre))
  obtain ⟨gc, g0⟩ := and_e hg
  obtain ⟨ga0, g1⟩ := and_e g0
  obtain ⟨ga1, g2⟩ := and_e g1
  obtain ⟨ga2, g3⟩ := and_e g2
  obtain ⟨ga3, g4⟩ := and_e g3
  obtain ⟨w0, w1, w2, w3, w4, rfl⟩ : ∃ w0 w1 w2 w3 w4 : Value, args = #[w0, w1, w2, w3, w4] := by
    have hs : args.size = 5 := by simpa [Cond.value, given_1] using gc
    obtain ⟨L⟩ := args
    match L, hs with
    | [w0, w1, w2, w3, w4], _ => exact ⟨w0, w1, w2, w3, w4, rfl⟩
  have hw := fun d (hd : d ∈ tables_1) => atoms_spec (ws := Jvm.Cond.code x code maxLocals ret :: tables_1) hat d (List.mem_cons_of_mem _ hd)
  have hfit : Fit s := fun {y c} hc i hi => by
    obtain ⟨ha, rfl⟩ := Array.getElem?_eq_some_iff.mp hc
    have q := List.all_eq_true.mp ((Array.all_eq_true_iff_forall_mem.mp hF) _ (Array.getElem_mem ha)) i (List.mem_range.mpr hi)
    simpa [Array.getElem?_eq_getElem hi] using q
  obtain ⟨i0, ei0⟩ := is_v ga0
  obtain rfl : w0 = (.int i0) := Option.some.inj ei0
  obtain ⟨i1, ei1⟩ := is_v ga1
  obtain rfl : w1 = (.int i1) := Option.some.inj ei1
  obtain ⟨i2, ei2⟩ := is_v ga2
  obtain rfl : w2 = (.int i2) := Option.some.inj ei2
  obtain ⟨i3, ei3⟩ := is_v ga3
  obtain rfl : w3 = (.int i3) := Option.some.inj ei3
  obtain ⟨i4, ei4⟩ := is_v g4
  obtain rfl : w4 = (.int i4) := Option.some.inj ei4
  obtain ⟨hsets, -⟩ := atoms_of _ (rest_1_c_eq ▸ (show rest_1_c.before _ s = true from hrest))
  obtain ⟨zc, vzc⟩ := is_v (Cond.before_iff.mp (hsets _ (List.mem_of_getElem? (i := 1) rfl)))
  have SC := Sta.start vzc (Or.inl (hsets _ (List.mem_of_getElem? (i := 0) rfl)))
  have hzc : ¬ zc = (0 : Int32) := fun q => by
      have h2 := not_v (Cond.before_iff.mp (hsets _ (List.mem_of_getElem? (i := 2) rfl)))
      have h3 := (eq_i vzc (Term.int_eval 0) (by rw [q])).symm.trans h2
      simp at h3
  obtain ⟨fm, vfm, rf⟩ := isR_v (Cond.before_iff.mp (hsets _ (List.mem_of_getElem? (i := 8) rfl)))
  have SFm := Sta.start vfm (Or.inl (hsets _ (List.mem_of_getElem? (i := 7) rfl)))
  have hcw : Jvm.Lit.compactW.before #[.int i0, .int i1, .int i2, .int i3, .int i4] s = true := hsets _ (List.mem_of_getElem? (i := 2) rfl)
  have hEL : EW s #[.int i0, .int i1, .int i2, .int i3, .int i4] EL := (EW.cons (tw hw 56 rfl) (by decide) (EW.cons (tw hw 127 rfl) (by decide) (EW.cons (tw hw 252 rfl) (by decide) (EW.cons (tw hw 253 rfl) (by decide) (EW.cons (tw hw 172 rfl) (by decide) (EW.cons (tw hw 259 rfl) (by decide) (EW.cons (tw hw 0 rfl) (by decide) (EW.cons (tw hw 180 rfl) (by decide) EW.nil))))))))
  have hCH : CHv s EL s.vm s.heap := CHv.start hEL hcalls.1 hcw (tw hw 3 rfl) (tw hw 2 rfl)
  obtain ⟨n, o, h1, h2, h3, _, L, rfl, ⟨rfl, N⟩, -, hq⟩ := rm0 l s _ hw tables_1 i0 i1 i2 i3 i4 zc fm s.heap s.heap.size (Nat.le_refl _) hEL (Old.start s) SC hzc SFm rf p e ha hc hk s m _ below hf ((Spec.applies_iff_loose hf).mp happ).1 ⟨rfl, State.Warmed39.refl s, rfl, hCH⟩ trivial
  refine ⟨n, _, h1, h2, h3, hpost _ _ _ _ _ _ ⟨Cond.after_iff.mpr rfl, Cond.after_iff.mpr (eq_i res_at (Term.int_eval (1)) rfl), trivial⟩ ⟨hq.1, hq.2.1, hq.2.2.1, (hq.2.2.2.sift fun y hy => Or.inr (N y hy)).mono (by decide) (by decide)⟩⟩
theorem main_1_1 : Claimed_1_1 := comes_1 fun _ _ _ _ _ _ h hF => ⟨h.1, hF⟩
theorem main_1_2 : Claimed_1_2 := comes_1 fun _ _ _ _ _ _ h hF => ⟨h.2.1, hF⟩
end Jvm.Pilot.@@N@@
namespace Jvm.Pilot.@@N@@
open Jvm Jvm.ClassFile Sem Op Lib Jvm.Free Jvm.Stand Jvm.Pilot.@@N@@.Jvm.D
/-! MADE BY PROGRAM (witnessworld.py) out of the Statement's table words and the real class files: 23 classes; the members and pool entries that the words name. The judged class is class 1, her method 2. -/
namespace start1
open Jvm.ClassFile
def u (s : String) : CpInfo := .utf8 (stringToUtf16 s)
/-- a pool by its gaps: so many unusable entries, then the entry; so many at the end -/
def gap : Nat → List CpInfo → List CpInfo
  | 0, r => r
  | n + 1, r => .unusable :: gap n r
def poolList (es : List (Nat × CpInfo)) (last : Nat) : List CpInfo := es.foldr (fun e r => gap e.1 (e.2 :: r)) (gap last [])
def pool (es : List (Nat × CpInfo)) (last : Nat) : Array CpInfo := ⟨poolList es last⟩
def fileOf (pool : Array CpInfo) (this : Nat) (attrs : Array Attribute := #[]) (ms : Array MethodInfo := #[]) (fl : Nat := 33) (sup : Nat := 0) (ifs : Array Nat := #[]) (fds : Array FieldInfo := #[]) : ClassFile where
  minorVersion := 0
  majorVersion := 65
  constantPool := pool
  accessFlags := fl
  thisClass := this
  superClass := sup
  interfaces := ifs
  fields := fds
  methods := ms
  attributes := attrs
def plain (name : String) (sup : Option ClassId) : Class where
  name := name
  kind := .ordinary
  loader := none
  accessFlags := 33
  super := sup
  interfaces := #[]
  cf := none
  fields := #[]
  methods := #[]
  instanceTypes := #[]
  staticTypes := #[]
  resolved := #[]
  callSites := []
  init := .initialized
  statics := none
  mirror := none

def pool0 : Array CpInfo := pool [(5, u "<init>"), (0, u "()V"), (1, .class_ 10), (1, u "java/lang/Object")] 113

def k0c0 : Code := { maxStack := 0, maxLocals := 1, code := object_method_1_code, exceptionTable := #[], attributes := #[] }
def k0m0 : Method := { name := "<init>", desc := "()V", sig := { parameters := [], returnType := none }, accessFlags := 1, code := some k0c0 }
/-- java/lang/Object -/
def k0 : Class := { plain "java/lang/Object" none with
  accessFlags := 33
  interfaces := #[]
  cf := some (fileOf pool0 8 #[] #[{ accessFlags := 1, nameIndex := 5, descriptorIndex := 6, attributes := #[] }] 33 0 #[] #[])
  fields := #[]
  methods := #[k0m0]
  instanceTypes := #[]
  staticTypes := #[]
  resolved := Array.replicate 124 none
  statics := none }

def pool1 : Array CpInfo := pool [(2, .class_ 4), (1, u "java/lang/Object"), (0, u "<init>"), (0, u "()V"), (0, .methodref 8 9), (0, .class_ 10), (0, .nameAndType 11 12), (0, u "java/lang/String"), (0, u "charAt"), (0, u "(I)C"), (0, .methodref 8 14), (0, .nameAndType 15 16), (0, u "valueOf"), (0, u "(C)Ljava/lang/String;"), (0, .string 18), (0, u ""), (0, .class_ 20), (0, u "com/example/orbweaver/orbweaver/mapping/JavaSource"), (0, .methodref 19 22), (0, .nameAndType 5 23), (0, u "(Ljava/lang/String;Ljava/lang/String;)V"), (0, .methodref 19 25), (0, .nameAndType 26 27), (0, u "open"), (0, u "(Ljava/lang/String;)Lcom/example/orbweaver/orbweaver/mapping/JavaSource;"), (0, .integer 2147483647), (0, .methodref 19 30), (0, .nameAndType 31 32), (0, u "toString"), (0, u "()Ljava/lang/String;"), (0, .methodref 19 34), (0, .nameAndType 35 36), (0, u "deeper"), (0, u "(I)Lcom/example/orbweaver/orbweaver/mapping/JavaSource;"), (0, .methodref 8 38), (0, .nameAndType 39 40), (0, u "equals"), (0, u "(Ljava/lang/Object;)Z"), (0, .methodref 19 42), (0, .nameAndType 43 27), (0, u "line"), (0, .methodref 8 45), (0, .nameAndType 46 47), (0, u "length"), (0, u "()I"), (0, .methodref 49 50), (0, .class_ 51), (0, .nameAndType 52 53), (0, u "com/example/orbweaver/orbweaver/mapping/JavaSourceDeeperPinLaw"), (0, u "at"), (0, u "(Ljava/lang/String;IIIC)Z"), (3, u "law"), (0, u "(IIIII)Z")] 2

def k1m0 : Method := { name := "<init>", desc := "()V", sig := { parameters := [], returnType := none }, accessFlags := 2, code := none }
def k1c1 : Code := { maxStack := 3, maxLocals := 6, code := method_2_code, exceptionTable := #[], attributes := #[] }
def k1m1 : Method := { name := "at", desc := "(Ljava/lang/String;IIIC)Z", sig := { parameters := [(.object "java/lang/String"), .int, .int, .int, .char], returnType := some .boolean }, accessFlags := 10, code := some k1c1 }
def k1c2 : Code := { maxStack := 5, maxLocals := 18, code := code, exceptionTable := #[], attributes := #[] }
def k1m2 : Method := { name := "law", desc := "(IIIII)Z", sig := { parameters := [.int, .int, .int, .int, .int], returnType := some .boolean }, accessFlags := 9, code := some k1c2 }
/-- com/example/orbweaver/orbweaver/mapping/JavaSourceDeeperPinLaw -/
def k1 : Class := { plain "com/example/orbweaver/orbweaver/mapping/JavaSourceDeeperPinLaw" (some 0) with
  accessFlags := 49
  interfaces := #[]
  cf := some (fileOf pool1 49 #[] #[{ accessFlags := 2, nameIndex := 5, descriptorIndex := 6, attributes := #[] }, { accessFlags := 10, nameIndex := 52, descriptorIndex := 53, attributes := #[] }, { accessFlags := 9, nameIndex := 57, descriptorIndex := 58, attributes := #[] }] 49 2 #[] #[])
  fields := #[]
  methods := #[k1m0, k1m1, k1m2]
  instanceTypes := #[]
  staticTypes := #[]
  resolved := Array.replicate 61 none
  statics := none }

def pool2 : Array CpInfo := pool [(1, .class_ 2), (0, u "java/io/Serializable"), (0, .class_ 4), (0, u "java/lang/Object")] 2

/-- java/io/Serializable -/
def k2 : Class := { plain "java/io/Serializable" (some 0) with
  accessFlags := 1537
  interfaces := #[]
  cf := some (fileOf pool2 1 #[] #[] 1537 3 #[] #[])
  fields := #[]
  methods := #[]
  instanceTypes := #[]
  staticTypes := #[]
  resolved := Array.replicate 7 none
  statics := none }

def pool3 : Array CpInfo := pool [(1, .class_ 2), (0, u "java/lang/Comparable"), (0, .class_ 4), (0, u "java/lang/Object")] 7

/-- java/lang/Comparable -/
def k3 : Class := { plain "java/lang/Comparable" (some 0) with
  accessFlags := 1537
  interfaces := #[]
  cf := some (fileOf pool3 1 #[] #[] 1537 3 #[] #[])
  fields := #[]
  methods := #[]
  instanceTypes := #[]
  staticTypes := #[]
  resolved := Array.replicate 12 none
  statics := none }

def pool4 : Array CpInfo := pool [(2, .class_ 4), (1, u "java/lang/CharSequence"), (42, .class_ 48), (0, u "java/lang/CharSequence$1CodePointIterator"), (10, .class_ 60), (0, u "java/lang/CharSequence$1CharIterator"), (5, .class_ 67), (0, u "java/lang/Object")] 63

/-- java/lang/CharSequence -/
def k4 : Class := { plain "java/lang/CharSequence" (some 0) with
  accessFlags := 1537
  interfaces := #[]
  cf := some (fileOf pool4 2 #[.nestMembers #[47, 59]] #[] 1537 66 #[] #[])
  fields := #[]
  methods := #[]
  instanceTypes := #[]
  staticTypes := #[]
  resolved := Array.replicate 131 none
  statics := none }

def pool5 : Array CpInfo := pool [(1, .class_ 2), (0, u "java/lang/constant/Constable"), (0, .class_ 4), (0, u "java/lang/Object")] 6

/-- java/lang/constant/Constable -/
def k5 : Class := { plain "java/lang/constant/Constable" (some 0) with
  accessFlags := 1537
  interfaces := #[]
  cf := some (fileOf pool5 1 #[] #[] 1537 3 #[] #[])
  fields := #[]
  methods := #[]
  instanceTypes := #[]
  staticTypes := #[]
  resolved := Array.replicate 11 none
  statics := none }

def pool6 : Array CpInfo := pool [(1, .class_ 2), (0, u "java/lang/constant/ConstantDesc"), (0, .class_ 4), (0, u "java/lang/Object")] 32

/-- java/lang/constant/ConstantDesc -/
def k6 : Class := { plain "java/lang/constant/ConstantDesc" (some 0) with
  accessFlags := 1537
  interfaces := #[]
  cf := some (fileOf pool6 1 #[] #[] 1537 3 #[] #[])
  fields := #[]
  methods := #[]
  instanceTypes := #[]
  staticTypes := #[]
  resolved := Array.replicate 37 none
  statics := none }

def pool7 : Array CpInfo := pool [(1, .methodref 2 3), (0, .class_ 4), (0, .nameAndType 5 6), (0, u "java/lang/Object"), (0, u "<init>"), (0, u "()V"), (0, .string 8), (0, u ""), (0, .fieldref 10 11), (0, .class_ 12), (0, .nameAndType 13 14), (0, u "java/lang/String"), (0, u "value"), (0, u "[B"), (0, .fieldref 10 16), (0, .nameAndType 17 18), (0, u "coder"), (0, u "B"), (2, u "hash"), (0, u "I"), (2, u "hashIsZero"), (0, u "Z"), (11, .fieldref 10 39), (0, .nameAndType 40 26), (0, u "COMPACT_STRINGS"), (12, u "toBytes"), (0, .methodref 55 56), (0, .class_ 57), (0, .nameAndType 58 59), (0, u "java/util/Arrays"), (0, u "copyOfRange"), (0, u "([BII)[B"), (10, u "([BIII)V"), (36, .class_ 109), (1, u "java/lang/StringLatin1"), (32, u "()Z"), (50, .class_ 195), (1, u "java/lang/System"), (13, .methodref 10 210), (0, .nameAndType 5 211), (0, u "([BB)V"), (0, .methodref 193 213), (0, .nameAndType 214 215), (0, u "arraycopy"), (0, u "(Ljava/lang/Object;ILjava/lang/Object;II)V"), (118, u "()I"), (0, .methodref 10 336), (0, .nameAndType 17 337), (0, u "()B"), (2, u "()[B"), (22, u "([BI)C"), (5, u "(C)Z"), (21, u "(II)V"), (35, u "(I)C"), (61, .methodref 10 490), (0, .nameAndType 5 491), (0, u "(Ljava/lang/AbstractStringBuilder;Ljava/lang/Void;)V"), (0, .methodref 10 493), (0, .nameAndType 494 142), (0, u "isLatin1"), (0, .methodref 107 496), (0, .nameAndType 497 363), (0, u "charAt"), (3, u "checkIndex"), (4, .nameAndType 507 334), (0, u "length"), (24, u "getBytes"), (8, .methodref 107 542), (0, .nameAndType 543 544), (0, u "equals"), (0, u "([B[B)Z"), (4, .methodref 550 506), (0, .class_ 551), (0, u "java/lang/AbstractStringBuilder"), (0, .methodref 550 553), (0, .nameAndType 554 340), (0, u "getValue"), (18, u "(Ljava/lang/Object;)Z"), (1, .class_ 576), (0, u "java/lang/CharSequence"), (22, u "CASE_INSENSITIVE_ORDER"), (0, u "Ljava/util/Comparator;"), (91, u "isEmpty"), (89, u "valueOf"), (0, u "(C)Ljava/lang/String;"), (37, u "([BIB)V"), (69, u "repeat"), (0, u "(I)Ljava/lang/String;"), (50, .integer 2147483647), (71, .methodref 107 1016), (0, .nameAndType 1017 369), (0, u "canEncode"), (0, .methodref 107 1019), (0, .nameAndType 53 1020), (0, u "(C)[B"), (23, .methodref 10 1045), (0, .nameAndType 1046 70), (0, u "repeatCopyRest"), (0, .methodref 550 493), (5, .fieldref 1054 1055), (0, .class_ 1056), (0, .nameAndType 1057 1058), (0, u "jdk/internal/util/Preconditions"), (0, u "SIOOBE_FORMATTER"), (0, u "Ljava/util/function/BiFunction;"), (0, .methodref 1054 1060), (0, .nameAndType 501 1061), (0, u "(IILjava/util/function/BiFunction;)I"), (39, u "serialPersistentFields"), (0, u "[Ljava/io/ObjectStreamField;"), (0, .class_ 1104), (0, u "java/lang/String$CaseInsensitiveComparator"), (1, .class_ 1107), (0, u "java/io/Serializable"), (0, .class_ 1109), (0, u "java/lang/Comparable"), (0, .class_ 1111), (0, u "java/lang/constant/Constable"), (0, .class_ 1113), (0, u "java/lang/constant/ConstantDesc"), (2, u "serialVersionUID"), (0, u "J"), (3, u "REPL"), (0, u "C"), (2, u "LATIN1"), (1, u "UTF16"), (105, u "(Ljava/lang/StringBuilder;)V")] 217

def k7m0 : Method := { name := "<init>", desc := "()V", sig := { parameters := [], returnType := none }, accessFlags := 1, code := none }
def k7c1 : Code := { maxStack := 3, maxLocals := 2, code := jdk_42_method_53_code, exceptionTable := #[], attributes := #[] }
def k7m1 : Method := { name := "<init>", desc := "(Ljava/lang/StringBuilder;)V", sig := { parameters := [(.object "java/lang/StringBuilder")], returnType := none }, accessFlags := 1, code := some k7c1 }
def k7c2 : Code := { maxStack := 2, maxLocals := 1, code := jdk_42_method_54_code, exceptionTable := #[], attributes := #[] }
def k7m2 : Method := { name := "length", desc := "()I", sig := { parameters := [], returnType := some .int }, accessFlags := 1, code := some k7c2 }
def k7c3 : Code := { maxStack := 1, maxLocals := 1, code := jdk_42_method_55_code, exceptionTable := #[], attributes := #[] }
def k7m3 : Method := { name := "isEmpty", desc := "()Z", sig := { parameters := [], returnType := some .boolean }, accessFlags := 1, code := some k7c3 }
def k7c4 : Code := { maxStack := 2, maxLocals := 2, code := jdk_42_method_56_code, exceptionTable := #[], attributes := #[] }
def k7m4 : Method := { name := "charAt", desc := "(I)C", sig := { parameters := [.int], returnType := some .char }, accessFlags := 1, code := some k7c4 }
def k7c5 : Code := { maxStack := 2, maxLocals := 3, code := jdk_42_method_66_code, exceptionTable := #[], attributes := #[] }
def k7m5 : Method := { name := "equals", desc := "(Ljava/lang/Object;)Z", sig := { parameters := [(.object "java/lang/Object")], returnType := some .boolean }, accessFlags := 1, code := some k7c5 }
def k7c6 : Code := { maxStack := 4, maxLocals := 1, code := jdk_42_method_139_code, exceptionTable := #[], attributes := #[] }
def k7m6 : Method := { name := "valueOf", desc := "(C)Ljava/lang/String;", sig := { parameters := [.char], returnType := some (.object "java/lang/String") }, accessFlags := 9, code := some k7c6 }
def k7c7 : Code := { maxStack := 5, maxLocals := 5, code := jdk_42_method_145_code, exceptionTable := #[], attributes := #[] }
def k7m7 : Method := { name := "repeat", desc := "(I)Ljava/lang/String;", sig := { parameters := [.int], returnType := some (.object "java/lang/String") }, accessFlags := 1, code := some k7c7 }
def k7c8 : Code := { maxStack := 6, maxLocals := 4, code := jdk_42_method_146_code, exceptionTable := #[], attributes := #[] }
def k7m8 : Method := { name := "repeatCopyRest", desc := "([BIII)V", sig := { parameters := [(.array .byte), .int, .int, .int], returnType := none }, accessFlags := 8, code := some k7c8 }
def k7c9 : Code := { maxStack := 5, maxLocals := 4, code := jdk_42_method_147_code, exceptionTable := #[], attributes := #[] }
def k7m9 : Method := { name := "getBytes", desc := "([BIB)V", sig := { parameters := [(.array .byte), .int, .byte], returnType := none }, accessFlags := 0, code := some k7c9 }
def k7c10 : Code := { maxStack := 5, maxLocals := 5, code := jdk_42_method_150_code, exceptionTable := #[], attributes := #[] }
def k7m10 : Method := { name := "<init>", desc := "(Ljava/lang/AbstractStringBuilder;Ljava/lang/Void;)V", sig := { parameters := [(.object "java/lang/AbstractStringBuilder"), (.object "java/lang/Void")], returnType := none }, accessFlags := 0, code := some k7c10 }
def k7c11 : Code := { maxStack := 2, maxLocals := 3, code := jdk_42_method_151_code, exceptionTable := #[], attributes := #[] }
def k7m11 : Method := { name := "<init>", desc := "([BB)V", sig := { parameters := [(.array .byte), .byte], returnType := none }, accessFlags := 0, code := some k7c11 }
def k7c12 : Code := { maxStack := 1, maxLocals := 1, code := jdk_42_method_152_code, exceptionTable := #[], attributes := #[] }
def k7m12 : Method := { name := "coder", desc := "()B", sig := { parameters := [], returnType := some .byte }, accessFlags := 0, code := some k7c12 }
def k7c13 : Code := { maxStack := 1, maxLocals := 1, code := jdk_42_method_154_code, exceptionTable := #[], attributes := #[] }
def k7m13 : Method := { name := "isLatin1", desc := "()Z", sig := { parameters := [], returnType := some .boolean }, accessFlags := 0, code := some k7c13 }
def k7c14 : Code := { maxStack := 3, maxLocals := 2, code := jdk_42_method_155_code, exceptionTable := #[], attributes := #[] }
def k7m14 : Method := { name := "checkIndex", desc := "(II)V", sig := { parameters := [.int, .int], returnType := none }, accessFlags := 8, code := some k7c14 }
/-- java/lang/String -/
def k7 : Class := { plain "java/lang/String" (some 0) with
  accessFlags := 49
  interfaces := #[2, 3, 4, 5, 6]
  cf := some (fileOf pool7 10 #[.nestMembers #[1103]] #[{ accessFlags := 1, nameIndex := 5, descriptorIndex := 6, attributes := #[] }, { accessFlags := 1, nameIndex := 5, descriptorIndex := 1233, attributes := #[] }, { accessFlags := 1, nameIndex := 507, descriptorIndex := 334, attributes := #[] }, { accessFlags := 1, nameIndex := 692, descriptorIndex := 142, attributes := #[] }, { accessFlags := 1, nameIndex := 497, descriptorIndex := 427, attributes := #[] }, { accessFlags := 1, nameIndex := 543, descriptorIndex := 573, attributes := #[] }, { accessFlags := 9, nameIndex := 782, descriptorIndex := 783, attributes := #[] }, { accessFlags := 1, nameIndex := 891, descriptorIndex := 892, attributes := #[] }, { accessFlags := 8, nameIndex := 1046, descriptorIndex := 70, attributes := #[] }, { accessFlags := 0, nameIndex := 532, descriptorIndex := 821, attributes := #[] }, { accessFlags := 0, nameIndex := 5, descriptorIndex := 491, attributes := #[] }, { accessFlags := 0, nameIndex := 5, descriptorIndex := 211, attributes := #[] }, { accessFlags := 0, nameIndex := 17, descriptorIndex := 337, attributes := #[] }, { accessFlags := 0, nameIndex := 494, descriptorIndex := 142, attributes := #[] }, { accessFlags := 8, nameIndex := 501, descriptorIndex := 391, attributes := #[] }] 49 2 #[1106, 1108, 575, 1110, 1112] #[{ accessFlags := 18, nameIndex := 13, descriptorIndex := 14, attributes := #[] }, { accessFlags := 18, nameIndex := 17, descriptorIndex := 18, attributes := #[] }, { accessFlags := 2, nameIndex := 21, descriptorIndex := 22, attributes := #[] }, { accessFlags := 2, nameIndex := 25, descriptorIndex := 26, attributes := #[] }, { accessFlags := 26, nameIndex := 1116, descriptorIndex := 1117, attributes := #[] }, { accessFlags := 24, nameIndex := 40, descriptorIndex := 26, attributes := #[] }, { accessFlags := 26, nameIndex := 1101, descriptorIndex := 1102, attributes := #[] }, { accessFlags := 26, nameIndex := 1121, descriptorIndex := 1122, attributes := #[] }, { accessFlags := 25, nameIndex := 599, descriptorIndex := 600, attributes := #[] }, { accessFlags := 24, nameIndex := 1125, descriptorIndex := 18, attributes := #[] }, { accessFlags := 24, nameIndex := 1127, descriptorIndex := 18, attributes := #[] }])
  fields := #[{ name := "value", type := (.array .byte), accessFlags := 18, slot := 0, constantValue := 0 }, { name := "coder", type := .byte, accessFlags := 18, slot := 1, constantValue := 0 }, { name := "hash", type := .int, accessFlags := 2, slot := 2, constantValue := 0 }, { name := "hashIsZero", type := .boolean, accessFlags := 2, slot := 3, constantValue := 0 }, { name := "serialVersionUID", type := .long, accessFlags := 26, slot := 0, constantValue := 0 }, { name := "COMPACT_STRINGS", type := .boolean, accessFlags := 24, slot := 1, constantValue := 0 }, { name := "serialPersistentFields", type := (.array (.object "java/io/ObjectStreamField")), accessFlags := 26, slot := 2, constantValue := 0 }, { name := "REPL", type := .char, accessFlags := 26, slot := 3, constantValue := 0 }, { name := "CASE_INSENSITIVE_ORDER", type := (.object "java/util/Comparator"), accessFlags := 25, slot := 4, constantValue := 0 }, { name := "LATIN1", type := .byte, accessFlags := 24, slot := 5, constantValue := 0 }, { name := "UTF16", type := .byte, accessFlags := 24, slot := 6, constantValue := 0 }]
  methods := #[k7m0, k7m1, k7m2, k7m3, k7m4, k7m5, k7m6, k7m7, k7m8, k7m9, k7m10, k7m11, k7m12, k7m13, k7m14]
  instanceTypes := #[(.array .byte), .byte, .int, .boolean]
  staticTypes := #[.long, .boolean, (.array (.object "java/io/ObjectStreamField")), .char, (.object "java/util/Comparator"), .byte, .byte]
  resolved := Array.replicate 1451 none
  statics := some 0 }

def pool8 : Array CpInfo := pool [(1, .methodref 2 3), (0, .class_ 4), (0, .nameAndType 5 6), (0, u "java/lang/Object"), (0, u "<init>"), (0, u "()V"), (0, .class_ 8), (0, u "java/lang/StringBuilder"), (0, .methodref 7 3), (0, .fieldref 11 12), (0, .class_ 13), (0, .nameAndType 14 15), (0, u "com/example/orbweaver/orbweaver/mapping/JavaSource"), (0, u "text"), (0, u "Ljava/lang/StringBuilder;"), (0, .string 17), (0, u "// Generated by orbweaver idl from "), (0, .methodref 7 19), (0, .nameAndType 20 21), (0, u "append"), (0, u "(Ljava/lang/String;)Ljava/lang/StringBuilder;"), (0, .string 23), (0, u ". Changes are lost when it runs again."), (0, .methodref 7 25), (0, .nameAndType 26 27), (0, u "toString"), (0, u "()Ljava/lang/String;"), (0, .methodref 11 29), (0, .nameAndType 30 31), (0, u "line"), (0, u "(Ljava/lang/String;)Lcom/example/orbweaver/orbweaver/mapping/JavaSource;"), (0, .methodref 33 34), (0, .class_ 35), (0, .nameAndType 36 37), (0, u "java/lang/String"), (0, u "isEmpty"), (0, u "()Z"), (0, .methodref 11 39), (0, .nameAndType 40 41), (0, u "blank"), (0, u "()Lcom/example/orbweaver/orbweaver/mapping/JavaSource;"), (0, .string 43), (0, u "package "), (0, .string 45), (0, u ";"), (0, .string 47), (0, u "    "), (0, .fieldref 11 49), (0, .nameAndType 50 51), (0, u "depth"), (0, u "I"), (0, .methodref 33 53), (0, .nameAndType 54 55), (0, u "repeat"), (0, u "(I)Ljava/lang/String;"), (0, .methodref 7 57), (0, .nameAndType 20 58), (0, u "(C)Ljava/lang/StringBuilder;"), (18, .string 78), (0, u " {"), (4, u "INDENT"), (0, u "Ljava/lang/String;"), (1, u "(Ljava/lang/String;Ljava/lang/String;)V"), (6, u "open"), (2, u "deeper"), (0, u "(I)Lcom/example/orbweaver/orbweaver/mapping/JavaSource;")] 3

def k8c0 : Code := { maxStack := 3, maxLocals := 3, code := prog_171_method_1_code, exceptionTable := #[], attributes := #[] }
def k8m0 : Method := { name := "<init>", desc := "(Ljava/lang/String;Ljava/lang/String;)V", sig := { parameters := [(.object "java/lang/String"), (.object "java/lang/String")], returnType := none }, accessFlags := 0, code := some k8c0 }
def k8c1 : Code := { maxStack := 3, maxLocals := 2, code := prog_171_method_2_code, exceptionTable := #[], attributes := #[] }
def k8m1 : Method := { name := "line", desc := "(Ljava/lang/String;)Lcom/example/orbweaver/orbweaver/mapping/JavaSource;", sig := { parameters := [(.object "java/lang/String")], returnType := some (.object "com/example/orbweaver/orbweaver/mapping/JavaSource") }, accessFlags := 0, code := some k8c1 }
def k8c2 : Code := { maxStack := 2, maxLocals := 1, code := prog_171_method_4_code, exceptionTable := #[], attributes := #[] }
def k8m2 : Method := { name := "blank", desc := "()Lcom/example/orbweaver/orbweaver/mapping/JavaSource;", sig := { parameters := [], returnType := some (.object "com/example/orbweaver/orbweaver/mapping/JavaSource") }, accessFlags := 0, code := some k8c2 }
def k8c3 : Code := { maxStack := 3, maxLocals := 2, code := prog_171_method_5_code, exceptionTable := #[], attributes := #[] }
def k8m3 : Method := { name := "open", desc := "(Ljava/lang/String;)Lcom/example/orbweaver/orbweaver/mapping/JavaSource;", sig := { parameters := [(.object "java/lang/String")], returnType := some (.object "com/example/orbweaver/orbweaver/mapping/JavaSource") }, accessFlags := 0, code := some k8c3 }
def k8c4 : Code := { maxStack := 3, maxLocals := 2, code := prog_171_method_8_code, exceptionTable := #[], attributes := #[] }
def k8m4 : Method := { name := "deeper", desc := "(I)Lcom/example/orbweaver/orbweaver/mapping/JavaSource;", sig := { parameters := [.int], returnType := some (.object "com/example/orbweaver/orbweaver/mapping/JavaSource") }, accessFlags := 0, code := some k8c4 }
def k8c5 : Code := { maxStack := 1, maxLocals := 1, code := prog_171_method_10_code, exceptionTable := #[], attributes := #[] }
def k8m5 : Method := { name := "toString", desc := "()Ljava/lang/String;", sig := { parameters := [], returnType := some (.object "java/lang/String") }, accessFlags := 1, code := some k8c5 }
/-- com/example/orbweaver/orbweaver/mapping/JavaSource -/
def k8 : Class := { plain "com/example/orbweaver/orbweaver/mapping/JavaSource" (some 0) with
  accessFlags := 48
  interfaces := #[]
  cf := some (fileOf pool8 11 #[] #[{ accessFlags := 0, nameIndex := 5, descriptorIndex := 86, attributes := #[] }, { accessFlags := 0, nameIndex := 30, descriptorIndex := 31, attributes := #[] }, { accessFlags := 0, nameIndex := 40, descriptorIndex := 41, attributes := #[] }, { accessFlags := 0, nameIndex := 93, descriptorIndex := 31, attributes := #[] }, { accessFlags := 0, nameIndex := 96, descriptorIndex := 97, attributes := #[] }, { accessFlags := 1, nameIndex := 26, descriptorIndex := 27, attributes := #[] }] 48 2 #[] #[{ accessFlags := 26, nameIndex := 83, descriptorIndex := 84, attributes := #[] }, { accessFlags := 18, nameIndex := 14, descriptorIndex := 15, attributes := #[] }, { accessFlags := 2, nameIndex := 50, descriptorIndex := 51, attributes := #[] }])
  fields := #[{ name := "INDENT", type := (.object "java/lang/String"), accessFlags := 26, slot := 0, constantValue := 0 }, { name := "text", type := (.object "java/lang/StringBuilder"), accessFlags := 18, slot := 0, constantValue := 0 }, { name := "depth", type := .int, accessFlags := 2, slot := 1, constantValue := 0 }]
  methods := #[k8m0, k8m1, k8m2, k8m3, k8m4, k8m5]
  instanceTypes := #[(.object "java/lang/StringBuilder"), .int]
  staticTypes := #[(.object "java/lang/String")]
  resolved := Array.replicate 101 none
  statics := none }

def pool9 : Array CpInfo := pool [(1, .class_ 2), (0, u "java/lang/String"), (1, .class_ 6), (1, u "java/lang/Object"), (0, u "<init>"), (0, u "()V"), (0, .methodref 1 10), (0, .nameAndType 11 12), (0, u "checkIndex"), (0, u "(II)V"), (1, .class_ 16), (1, u "java/lang/StringLatin1"), (36, u "([BI)C"), (36, u "canEncode"), (14, u "(C)Z"), (15, u "$assertionsDisabled"), (0, u "Z"), (98, .class_ 223), (1, u "java/lang/StringLatin1$LinesSpliterator"), (28, u "charAt"), (28, u "equals"), (0, u "([B[B)Z"), (97, u "toBytes"), (1, u "(C)[B"), (7, .class_ 391), (0, u "java/lang/StringLatin1$CharsSpliterator")] 3

def k9m0 : Method := { name := "<init>", desc := "()V", sig := { parameters := [], returnType := none }, accessFlags := 0, code := none }
def k9c1 : Code := { maxStack := 2, maxLocals := 2, code := jdk_43_method_2_code, exceptionTable := #[], attributes := #[] }
def k9m1 : Method := { name := "charAt", desc := "([BI)C", sig := { parameters := [(.array .byte), .int], returnType := some .char }, accessFlags := 9, code := some k9c1 }
def k9c2 : Code := { maxStack := 2, maxLocals := 1, code := jdk_43_method_3_code, exceptionTable := #[], attributes := #[] }
def k9m2 : Method := { name := "canEncode", desc := "(C)Z", sig := { parameters := [.char], returnType := some .boolean }, accessFlags := 9, code := some k9c2 }
def k9c3 : Code := { maxStack := 3, maxLocals := 3, code := jdk_43_method_13_code, exceptionTable := #[], attributes := #[] }
def k9m3 : Method := { name := "equals", desc := "([B[B)Z", sig := { parameters := [(.array .byte), (.array .byte)], returnType := some .boolean }, accessFlags := 9, code := some k9c3 }
def k9c4 : Code := { maxStack := 4, maxLocals := 1, code := jdk_43_method_46_code, exceptionTable := #[], attributes := #[] }
def k9m4 : Method := { name := "toBytes", desc := "(C)[B", sig := { parameters := [.char], returnType := some (.array .byte) }, accessFlags := 9, code := some k9c4 }
/-- java/lang/StringLatin1 -/
def k9 : Class := { plain "java/lang/StringLatin1" (some 0) with
  accessFlags := 48
  interfaces := #[]
  cf := some (fileOf pool9 14 #[.nestMembers #[390, 221]] #[{ accessFlags := 0, nameIndex := 7, descriptorIndex := 8, attributes := #[] }, { accessFlags := 9, nameIndex := 252, descriptorIndex := 53, attributes := #[] }, { accessFlags := 9, nameIndex := 90, descriptorIndex := 105, attributes := #[] }, { accessFlags := 9, nameIndex := 281, descriptorIndex := 282, attributes := #[] }, { accessFlags := 9, nameIndex := 380, descriptorIndex := 382, attributes := #[] }] 48 4 #[] #[{ accessFlags := 4120, nameIndex := 121, descriptorIndex := 122, attributes := #[] }])
  fields := #[{ name := "$assertionsDisabled", type := .boolean, accessFlags := 4120, slot := 0, constantValue := 0 }]
  methods := #[k9m0, k9m1, k9m2, k9m3, k9m4]
  instanceTypes := #[]
  staticTypes := #[.boolean]
  resolved := Array.replicate 395 none
  statics := none }

def pool10 : Array CpInfo := pool [(1, .class_ 2), (0, u "java/lang/Appendable"), (0, .class_ 4), (0, u "java/lang/Object")] 9

/-- java/lang/Appendable -/
def k10 : Class := { plain "java/lang/Appendable" (some 0) with
  accessFlags := 1537
  interfaces := #[]
  cf := some (fileOf pool10 1 #[] #[] 1537 3 #[] #[])
  fields := #[]
  methods := #[]
  instanceTypes := #[]
  staticTypes := #[]
  resolved := Array.replicate 14 none
  statics := none }

def pool11 : Array CpInfo := pool [(1, .class_ 2), (0, u "java/lang/String"), (0, .methodref 4 5), (0, .class_ 6), (0, .nameAndType 7 8), (0, u "java/lang/Object"), (0, u "<init>"), (0, u "()V"), (1, .class_ 12), (1, u "java/lang/AbstractStringBuilder"), (0, u "EMPTYVALUE"), (0, u "[B"), (0, .fieldref 10 16), (0, .nameAndType 17 14), (0, u "value"), (0, .fieldref 1 19), (0, .nameAndType 20 21), (0, u "COMPACT_STRINGS"), (0, u "Z"), (0, .fieldref 10 23), (0, .nameAndType 24 25), (0, u "coder"), (0, u "B"), (6, .methodref 1 33), (0, .nameAndType 34 35), (0, u "length"), (0, u "()I"), (3, .integer 2147483647), (0, .methodref 1 41), (0, .nameAndType 24 42), (0, u "()B"), (2, u "append"), (0, u "(Ljava/lang/String;)Ljava/lang/AbstractStringBuilder;"), (1, .class_ 49), (0, u "java/lang/CharSequence"), (19, u "(Ljava/lang/String;)V"), (5, u "maybeLatin1"), (3, .fieldref 10 80), (0, .nameAndType 81 82), (0, u "count"), (0, u "I"), (0, .methodref 10 84), (0, .nameAndType 85 86), (0, u "isLatin1"), (0, u "()Z"), (1, .class_ 90), (1, u "java/lang/StringLatin1"), (9, .methodref 10 101), (0, .nameAndType 102 103), (0, u "ensureCapacityInternal"), (0, u "(I)V"), (0, .methodref 10 105), (0, .nameAndType 106 107), (0, u "newCapacity"), (0, u "(I)I"), (0, .methodref 109 110), (0, .class_ 111), (0, .nameAndType 112 113), (0, u "java/util/Arrays"), (0, u "copyOf"), (0, u "([BI)[B"), (0, .methodref 115 116), (0, .class_ 117), (0, .nameAndType 118 119), (0, u "jdk/internal/util/ArraysSupport"), (0, u "newLength"), (0, u "(III)I"), (71, .methodref 88 192), (0, .nameAndType 193 194), (0, u "canEncode"), (0, u "(C)Z"), (13, .methodref 10 209), (0, .nameAndType 210 211), (0, u "putStringAt"), (0, u "(ILjava/lang/String;)V"), (5, u "inflateIfNeededFor"), (2, .nameAndType 221 222), (0, u "getBytes"), (0, u "([BIB)V"), (69, u "(C)Ljava/lang/AbstractStringBuilder;"), (104, .methodref 10 398), (0, .nameAndType 217 69), (0, .methodref 1 220), (3, u "()[B"), (40, .class_ 445), (0, u "java/lang/Appendable"), (106, u "getValue")] 56

def k11m0 : Method := { name := "<init>", desc := "()V", sig := { parameters := [], returnType := none }, accessFlags := 0, code := none }
def k11c1 : Code := { maxStack := 2, maxLocals := 2, code := jdk_68_method_2_code, exceptionTable := #[], attributes := #[] }
def k11m1 : Method := { name := "<init>", desc := "(I)V", sig := { parameters := [.int], returnType := none }, accessFlags := 0, code := some k11c1 }
def k11c2 : Code := { maxStack := 1, maxLocals := 1, code := jdk_68_method_6_code, exceptionTable := #[], attributes := #[] }
def k11m2 : Method := { name := "length", desc := "()I", sig := { parameters := [], returnType := some .int }, accessFlags := 1, code := some k11c2 }
def k11c3 : Code := { maxStack := 4, maxLocals := 3, code := jdk_68_method_9_code, exceptionTable := #[], attributes := #[] }
def k11m3 : Method := { name := "ensureCapacityInternal", desc := "(I)V", sig := { parameters := [.int], returnType := none }, accessFlags := 2, code := some k11c3 }
def k11c4 : Code := { maxStack := 5, maxLocals := 6, code := jdk_68_method_10_code, exceptionTable := #[], attributes := #[] }
def k11m4 : Method := { name := "newCapacity", desc := "(I)I", sig := { parameters := [.int], returnType := some .int }, accessFlags := 2, code := some k11c4 }
def k11c5 : Code := { maxStack := 3, maxLocals := 3, code := jdk_68_method_22_code, exceptionTable := #[], attributes := #[] }
def k11m5 : Method := { name := "append", desc := "(Ljava/lang/String;)Ljava/lang/AbstractStringBuilder;", sig := { parameters := [(.object "java/lang/String")], returnType := some (.object "java/lang/AbstractStringBuilder") }, accessFlags := 1, code := some k11c5 }
def k11c6 : Code := { maxStack := 5, maxLocals := 2, code := jdk_68_method_31_code, exceptionTable := #[], attributes := #[] }
def k11m6 : Method := { name := "append", desc := "(C)Ljava/lang/AbstractStringBuilder;", sig := { parameters := [.char], returnType := some (.object "java/lang/AbstractStringBuilder") }, accessFlags := 1, code := some k11c6 }
def k11c7 : Code := { maxStack := 1, maxLocals := 1, code := jdk_68_method_64_code, exceptionTable := #[], attributes := #[] }
def k11m7 : Method := { name := "getValue", desc := "()[B", sig := { parameters := [], returnType := some (.array .byte) }, accessFlags := 16, code := some k11c7 }
def k11c8 : Code := { maxStack := 1, maxLocals := 1, code := jdk_68_method_68_code, exceptionTable := #[], attributes := #[] }
def k11m8 : Method := { name := "isLatin1", desc := "()Z", sig := { parameters := [], returnType := some .boolean }, accessFlags := 16, code := some k11c8 }
def k11c9 : Code := { maxStack := 2, maxLocals := 2, code := jdk_68_method_71_code, exceptionTable := #[], attributes := #[] }
def k11m9 : Method := { name := "inflateIfNeededFor", desc := "(Ljava/lang/String;)V", sig := { parameters := [(.object "java/lang/String")], returnType := none }, accessFlags := 2, code := some k11c9 }
def k11c10 : Code := { maxStack := 4, maxLocals := 3, code := jdk_68_method_73_code, exceptionTable := #[], attributes := #[] }
def k11m10 : Method := { name := "putStringAt", desc := "(ILjava/lang/String;)V", sig := { parameters := [.int, (.object "java/lang/String")], returnType := none }, accessFlags := 2, code := some k11c10 }
/-- java/lang/AbstractStringBuilder -/
def k11 : Class := { plain "java/lang/AbstractStringBuilder" (some 0) with
  accessFlags := 1056
  interfaces := #[10, 4]
  cf := some (fileOf pool11 10 #[] #[{ accessFlags := 0, nameIndex := 7, descriptorIndex := 8, attributes := #[] }, { accessFlags := 0, nameIndex := 7, descriptorIndex := 103, attributes := #[] }, { accessFlags := 1, nameIndex := 34, descriptorIndex := 35, attributes := #[] }, { accessFlags := 2, nameIndex := 102, descriptorIndex := 103, attributes := #[] }, { accessFlags := 2, nameIndex := 106, descriptorIndex := 107, attributes := #[] }, { accessFlags := 1, nameIndex := 45, descriptorIndex := 46, attributes := #[] }, { accessFlags := 1, nameIndex := 45, descriptorIndex := 292, attributes := #[] }, { accessFlags := 16, nameIndex := 552, descriptorIndex := 403, attributes := #[] }, { accessFlags := 16, nameIndex := 85, descriptorIndex := 86, attributes := #[] }, { accessFlags := 2, nameIndex := 217, descriptorIndex := 69, attributes := #[] }, { accessFlags := 2, nameIndex := 210, descriptorIndex := 211, attributes := #[] }] 1056 4 #[444, 48] #[{ accessFlags := 0, nameIndex := 17, descriptorIndex := 14, attributes := #[] }, { accessFlags := 0, nameIndex := 24, descriptorIndex := 25, attributes := #[] }, { accessFlags := 0, nameIndex := 75, descriptorIndex := 21, attributes := #[] }, { accessFlags := 0, nameIndex := 81, descriptorIndex := 82, attributes := #[] }, { accessFlags := 26, nameIndex := 13, descriptorIndex := 14, attributes := #[] }])
  fields := #[{ name := "value", type := (.array .byte), accessFlags := 0, slot := 0, constantValue := 0 }, { name := "coder", type := .byte, accessFlags := 0, slot := 1, constantValue := 0 }, { name := "maybeLatin1", type := .boolean, accessFlags := 0, slot := 2, constantValue := 0 }, { name := "count", type := .int, accessFlags := 0, slot := 3, constantValue := 0 }, { name := "EMPTYVALUE", type := (.array .byte), accessFlags := 26, slot := 0, constantValue := 0 }]
  methods := #[k11m0, k11m1, k11m2, k11m3, k11m4, k11m5, k11m6, k11m7, k11m8, k11m9, k11m10]
  instanceTypes := #[(.array .byte), .byte, .boolean, .int]
  staticTypes := #[(.array .byte)]
  resolved := Array.replicate 609 none
  statics := none }

def pool12 : Array CpInfo := pool [(1, .methodref 2 3), (0, .class_ 4), (0, .nameAndType 5 6), (0, u "java/lang/AbstractStringBuilder"), (0, u "<init>"), (0, u "(I)V"), (11, .class_ 20), (1, u "java/lang/String"), (3, .class_ 26), (1, u "java/lang/StringBuilder"), (0, u "append"), (0, u "(Ljava/lang/String;)Ljava/lang/StringBuilder;"), (0, .methodref 2 30), (0, .nameAndType 27 31), (0, u "(Ljava/lang/String;)Ljava/lang/AbstractStringBuilder;"), (18, .methodref 2 51), (0, .nameAndType 27 52), (0, u "(C)Ljava/lang/AbstractStringBuilder;"), (84, .methodref 18 138), (0, .nameAndType 5 139), (0, u "(Ljava/lang/StringBuilder;)V"), (5, u "()V"), (10, u "()I"), (129, u "(C)Ljava/lang/StringBuilder;"), (56, .methodref 2 344), (0, .nameAndType 345 156), (0, u "length"), (3, .class_ 350), (0, u "java/lang/Appendable"), (0, .class_ 352), (0, u "java/io/Serializable"), (0, .class_ 354), (0, u "java/lang/Comparable"), (0, .class_ 356), (0, u "java/lang/CharSequence"), (0, u "serialVersionUID"), (0, u "J"), (40, u "toString"), (0, u "()Ljava/lang/String;")] 21

def k12c0 : Code := { maxStack := 2, maxLocals := 1, code := jdk_67_method_1_code, exceptionTable := #[], attributes := #[] }
def k12m0 : Method := { name := "<init>", desc := "()V", sig := { parameters := [], returnType := none }, accessFlags := 1, code := some k12c0 }
def k12c1 : Code := { maxStack := 2, maxLocals := 2, code := jdk_67_method_7_code, exceptionTable := #[], attributes := #[] }
def k12m1 : Method := { name := "append", desc := "(Ljava/lang/String;)Ljava/lang/StringBuilder;", sig := { parameters := [(.object "java/lang/String")], returnType := some (.object "java/lang/StringBuilder") }, accessFlags := 1, code := some k12c1 }
def k12c2 : Code := { maxStack := 2, maxLocals := 2, code := jdk_67_method_14_code, exceptionTable := #[], attributes := #[] }
def k12m2 : Method := { name := "append", desc := "(C)Ljava/lang/StringBuilder;", sig := { parameters := [.char], returnType := some (.object "java/lang/StringBuilder") }, accessFlags := 1, code := some k12c2 }
def k12c3 : Code := { maxStack := 3, maxLocals := 1, code := jdk_67_method_42_code, exceptionTable := #[], attributes := #[] }
def k12m3 : Method := { name := "toString", desc := "()Ljava/lang/String;", sig := { parameters := [], returnType := some (.object "java/lang/String") }, accessFlags := 1, code := some k12c3 }
def k12c4 : Code := { maxStack := 1, maxLocals := 1, code := jdk_67_method_93_code, exceptionTable := #[], attributes := #[] }
def k12m4 : Method := { name := "length", desc := "()I", sig := { parameters := [], returnType := some .int }, accessFlags := 4161, code := some k12c4 }
/-- java/lang/StringBuilder -/
def k12 : Class := { plain "java/lang/StringBuilder" (some 11) with
  accessFlags := 49
  interfaces := #[10, 2, 3, 4]
  cf := some (fileOf pool12 24 #[] #[{ accessFlags := 1, nameIndex := 5, descriptorIndex := 145, attributes := #[] }, { accessFlags := 1, nameIndex := 27, descriptorIndex := 28, attributes := #[] }, { accessFlags := 1, nameIndex := 27, descriptorIndex := 286, attributes := #[] }, { accessFlags := 1, nameIndex := 399, descriptorIndex := 400, attributes := #[] }, { accessFlags := 4161, nameIndex := 345, descriptorIndex := 156, attributes := #[] }] 49 2 #[349, 351, 353, 355] #[{ accessFlags := 24, nameIndex := 357, descriptorIndex := 358, attributes := #[] }])
  fields := #[{ name := "serialVersionUID", type := .long, accessFlags := 24, slot := 0, constantValue := 0 }]
  methods := #[k12m0, k12m1, k12m2, k12m3, k12m4]
  instanceTypes := #[(.array .byte), .byte, .boolean, .int]
  staticTypes := #[.long]
  resolved := Array.replicate 422 none
  statics := none }

def pool13 : Array CpInfo := pool [(9, u "<init>"), (6, .class_ 18), (1, u "java/lang/Object"), (0, u "()V"), (1, .class_ 23), (1, u "jdk/internal/util/ArraysSupport"), (0, u "LOG2_ARRAY_LONG_INDEX_SCALE"), (0, u "I"), (2, u "U"), (0, u "Ljdk/internal/misc/Unsafe;"), (8, u "BIG_ENDIAN"), (0, u "Z"), (8, u "LOG2_BYTE_BIT_SIZE"), (4, u "LOG2_ARRAY_INT_INDEX_SCALE"), (54, u "JLA"), (0, u "Ljdk/internal/access/JavaLangAccess;"), (11, u "LOG2_ARRAY_BOOLEAN_INDEX_SCALE"), (9, u "LOG2_ARRAY_BYTE_INDEX_SCALE"), (5, u "LOG2_ARRAY_CHAR_INDEX_SCALE"), (5, u "LOG2_ARRAY_SHORT_INDEX_SCALE"), (18, u "LOG2_ARRAY_FLOAT_INDEX_SCALE"), (24, u "LOG2_ARRAY_DOUBLE_INDEX_SCALE"), (6, .methodref 195 196), (0, .class_ 197), (0, .nameAndType 198 199), (0, u "java/lang/Math"), (0, u "max"), (0, u "(II)I"), (0, .integer 2147483639), (76, u "T_BOOLEAN"), (2, u "T_CHAR"), (1, u "T_FLOAT"), (1, u "T_DOUBLE"), (1, u "T_BYTE"), (1, u "T_SHORT"), (1, u "T_INT"), (1, u "T_LONG"), (1, u "SOFT_MAX_ARRAY_LENGTH"), (56, u "newLength"), (0, u "(III)I")] 25

def k13m0 : Method := { name := "<init>", desc := "()V", sig := { parameters := [], returnType := none }, accessFlags := 2, code := none }
def k13c1 : Code := { maxStack := 3, maxLocals := 4, code := jdk_48_method_27_code, exceptionTable := #[], attributes := #[] }
def k13m1 : Method := { name := "newLength", desc := "(III)I", sig := { parameters := [.int, .int, .int], returnType := some .int }, accessFlags := 9, code := some k13c1 }
/-- jdk/internal/util/ArraysSupport -/
def k13 : Class := { plain "jdk/internal/util/ArraysSupport" (some 0) with
  accessFlags := 33
  interfaces := #[]
  cf := some (fileOf pool13 21 #[] #[{ accessFlags := 2, nameIndex := 9, descriptorIndex := 19, attributes := #[] }, { accessFlags := 9, nameIndex := 351, descriptorIndex := 352, attributes := #[] }] 33 16 #[] #[{ accessFlags := 24, nameIndex := 28, descriptorIndex := 29, attributes := #[] }, { accessFlags := 26, nameIndex := 38, descriptorIndex := 39, attributes := #[] }, { accessFlags := 25, nameIndex := 121, descriptorIndex := 25, attributes := #[] }, { accessFlags := 25, nameIndex := 131, descriptorIndex := 25, attributes := #[] }, { accessFlags := 25, nameIndex := 137, descriptorIndex := 25, attributes := #[] }, { accessFlags := 25, nameIndex := 143, descriptorIndex := 25, attributes := #[] }, { accessFlags := 25, nameIndex := 53, descriptorIndex := 25, attributes := #[] }, { accessFlags := 25, nameIndex := 24, descriptorIndex := 25, attributes := #[] }, { accessFlags := 25, nameIndex := 162, descriptorIndex := 25, attributes := #[] }, { accessFlags := 25, nameIndex := 187, descriptorIndex := 25, attributes := #[] }, { accessFlags := 26, nameIndex := 48, descriptorIndex := 25, attributes := #[] }, { accessFlags := 25, nameIndex := 277, descriptorIndex := 25, attributes := #[] }, { accessFlags := 25, nameIndex := 280, descriptorIndex := 25, attributes := #[] }, { accessFlags := 25, nameIndex := 282, descriptorIndex := 25, attributes := #[] }, { accessFlags := 25, nameIndex := 284, descriptorIndex := 25, attributes := #[] }, { accessFlags := 25, nameIndex := 286, descriptorIndex := 25, attributes := #[] }, { accessFlags := 25, nameIndex := 288, descriptorIndex := 25, attributes := #[] }, { accessFlags := 25, nameIndex := 290, descriptorIndex := 25, attributes := #[] }, { accessFlags := 25, nameIndex := 292, descriptorIndex := 25, attributes := #[] }, { accessFlags := 26, nameIndex := 108, descriptorIndex := 109, attributes := #[] }, { accessFlags := 25, nameIndex := 294, descriptorIndex := 25, attributes := #[] }])
  fields := #[{ name := "U", type := (.object "jdk/internal/misc/Unsafe"), accessFlags := 24, slot := 0, constantValue := 0 }, { name := "BIG_ENDIAN", type := .boolean, accessFlags := 26, slot := 1, constantValue := 0 }, { name := "LOG2_ARRAY_BOOLEAN_INDEX_SCALE", type := .int, accessFlags := 25, slot := 2, constantValue := 0 }, { name := "LOG2_ARRAY_BYTE_INDEX_SCALE", type := .int, accessFlags := 25, slot := 3, constantValue := 0 }, { name := "LOG2_ARRAY_CHAR_INDEX_SCALE", type := .int, accessFlags := 25, slot := 4, constantValue := 0 }, { name := "LOG2_ARRAY_SHORT_INDEX_SCALE", type := .int, accessFlags := 25, slot := 5, constantValue := 0 }, { name := "LOG2_ARRAY_INT_INDEX_SCALE", type := .int, accessFlags := 25, slot := 6, constantValue := 0 }, { name := "LOG2_ARRAY_LONG_INDEX_SCALE", type := .int, accessFlags := 25, slot := 7, constantValue := 0 }, { name := "LOG2_ARRAY_FLOAT_INDEX_SCALE", type := .int, accessFlags := 25, slot := 8, constantValue := 0 }, { name := "LOG2_ARRAY_DOUBLE_INDEX_SCALE", type := .int, accessFlags := 25, slot := 9, constantValue := 0 }, { name := "LOG2_BYTE_BIT_SIZE", type := .int, accessFlags := 26, slot := 10, constantValue := 0 }, { name := "T_BOOLEAN", type := .int, accessFlags := 25, slot := 11, constantValue := 0 }, { name := "T_CHAR", type := .int, accessFlags := 25, slot := 12, constantValue := 0 }, { name := "T_FLOAT", type := .int, accessFlags := 25, slot := 13, constantValue := 0 }, { name := "T_DOUBLE", type := .int, accessFlags := 25, slot := 14, constantValue := 0 }, { name := "T_BYTE", type := .int, accessFlags := 25, slot := 15, constantValue := 0 }, { name := "T_SHORT", type := .int, accessFlags := 25, slot := 16, constantValue := 0 }, { name := "T_INT", type := .int, accessFlags := 25, slot := 17, constantValue := 0 }, { name := "T_LONG", type := .int, accessFlags := 25, slot := 18, constantValue := 0 }, { name := "JLA", type := (.object "jdk/internal/access/JavaLangAccess"), accessFlags := 26, slot := 19, constantValue := 0 }, { name := "SOFT_MAX_ARRAY_LENGTH", type := .int, accessFlags := 25, slot := 20, constantValue := 0 }]
  methods := #[k13m0, k13m1]
  instanceTypes := #[]
  staticTypes := #[(.object "jdk/internal/misc/Unsafe"), .boolean, .int, .int, .int, .int, .int, .int, .int, .int, .int, .int, .int, .int, .int, .int, .int, .int, .int, (.object "jdk/internal/access/JavaLangAccess"), .int]
  resolved := Array.replicate 378 none
  statics := none }

def pool14 : Array CpInfo := pool [(1, .class_ 2), (0, u "java/lang/Math"), (1, .class_ 6), (1, u "java/lang/Object"), (0, u "<init>"), (0, u "()V"), (89, .class_ 100), (1, u "java/lang/Math$RandomNumberGeneratorHolder"), (71, u "negativeZeroFloatBits"), (0, u "J"), (2, u "negativeZeroDoubleBits"), (21, u "max"), (2, u "min"), (43, u "$assertionsDisabled"), (0, u "Z"), (88, u "(II)I"), (2, u "twoToTheDoubleScaleDown"), (0, u "D"), (4, u "twoToTheDoubleScaleUp"), (9, u "E"), (3, u "PI"), (2, u "TAU"), (2, u "DEGREES_TO_RADIANS"), (0, u "RADIANS_TO_DEGREES")] 94

def k14m0 : Method := { name := "<init>", desc := "()V", sig := { parameters := [], returnType := none }, accessFlags := 2, code := none }
def k14c1 : Code := { maxStack := 2, maxLocals := 2, code := jdk_29_method_65_code, exceptionTable := #[], attributes := #[] }
def k14m1 : Method := { name := "max", desc := "(II)I", sig := { parameters := [.int, .int], returnType := some .int }, accessFlags := 9, code := some k14c1 }
def k14c2 : Code := { maxStack := 2, maxLocals := 2, code := jdk_29_method_69_code, exceptionTable := #[], attributes := #[] }
def k14m2 : Method := { name := "min", desc := "(II)I", sig := { parameters := [.int, .int], returnType := some .int }, accessFlags := 9, code := some k14c2 }
/-- java/lang/Math -/
def k14 : Class := { plain "java/lang/Math" (some 0) with
  accessFlags := 49
  interfaces := #[]
  cf := some (fileOf pool14 1 #[.nestMembers #[98]] #[{ accessFlags := 2, nameIndex := 7, descriptorIndex := 8, attributes := #[] }, { accessFlags := 9, nameIndex := 198, descriptorIndex := 335, attributes := #[] }, { accessFlags := 9, nameIndex := 201, descriptorIndex := 335, attributes := #[] }] 49 4 #[] #[{ accessFlags := 25, nameIndex := 354, descriptorIndex := 339, attributes := #[] }, { accessFlags := 25, nameIndex := 358, descriptorIndex := 339, attributes := #[] }, { accessFlags := 25, nameIndex := 361, descriptorIndex := 339, attributes := #[] }, { accessFlags := 26, nameIndex := 364, descriptorIndex := 339, attributes := #[] }, { accessFlags := 26, nameIndex := 365, descriptorIndex := 339, attributes := #[] }, { accessFlags := 26, nameIndex := 172, descriptorIndex := 173, attributes := #[] }, { accessFlags := 26, nameIndex := 176, descriptorIndex := 173, attributes := #[] }, { accessFlags := 8, nameIndex := 344, descriptorIndex := 339, attributes := #[] }, { accessFlags := 8, nameIndex := 338, descriptorIndex := 339, attributes := #[] }, { accessFlags := 4120, nameIndex := 245, descriptorIndex := 246, attributes := #[] }])
  fields := #[{ name := "E", type := .double, accessFlags := 25, slot := 0, constantValue := 0 }, { name := "PI", type := .double, accessFlags := 25, slot := 1, constantValue := 0 }, { name := "TAU", type := .double, accessFlags := 25, slot := 2, constantValue := 0 }, { name := "DEGREES_TO_RADIANS", type := .double, accessFlags := 26, slot := 3, constantValue := 0 }, { name := "RADIANS_TO_DEGREES", type := .double, accessFlags := 26, slot := 4, constantValue := 0 }, { name := "negativeZeroFloatBits", type := .long, accessFlags := 26, slot := 5, constantValue := 0 }, { name := "negativeZeroDoubleBits", type := .long, accessFlags := 26, slot := 6, constantValue := 0 }, { name := "twoToTheDoubleScaleUp", type := .double, accessFlags := 8, slot := 7, constantValue := 0 }, { name := "twoToTheDoubleScaleDown", type := .double, accessFlags := 8, slot := 8, constantValue := 0 }, { name := "$assertionsDisabled", type := .boolean, accessFlags := 4120, slot := 9, constantValue := 0 }]
  methods := #[k14m0, k14m1, k14m2]
  instanceTypes := #[]
  staticTypes := #[.double, .double, .double, .double, .double, .long, .long, .double, .double, .boolean]
  resolved := Array.replicate 460 none
  statics := none }

def pool15 : Array CpInfo := pool [(2, .class_ 4), (1, u "java/lang/Object"), (0, u "<init>"), (0, u "()V"), (7, .class_ 16), (1, u "java/util/Arrays"), (57, .class_ 76), (1, u "java/util/Arrays$NaturalOrder"), (36, .class_ 115), (1, u "java/util/Arrays$LegacyMergeSort"), (1, u "Z"), (21, u "copyOfRange"), (10, .methodref 151 152), (0, .class_ 153), (0, .nameAndType 154 155), (0, u "java/lang/System"), (0, u "arraycopy"), (0, u "(Ljava/lang/Object;ILjava/lang/Object;II)V"), (146, u "copyOf"), (1, .methodref 305 306), (0, .class_ 307), (0, .nameAndType 308 309), (0, u "java/lang/Math"), (0, u "min"), (0, u "(II)I"), (29, .methodref 14 340), (0, .nameAndType 341 342), (0, u "copyOfRangeByte"), (0, u "([BII)[B"), (0, .methodref 14 344), (0, .nameAndType 345 346), (0, u "checkLength"), (0, u "(II)V"), (28, .class_ 376), (0, u "java/util/Arrays$ArrayList"), (68, u "$assertionsDisabled"), (269, u "MIN_ARRAY_SORT_GRAN"), (0, u "I"), (2, u "INSERTIONSORT_THRESHOLD"), (149, u "([BI)[B"), (105, .class_ 976), (0, u "java/util/Arrays$ArrayItr")] 52

def k15m0 : Method := { name := "<init>", desc := "()V", sig := { parameters := [], returnType := none }, accessFlags := 2, code := none }
def k15c1 : Code := { maxStack := 6, maxLocals := 3, code := jdk_65_method_121_code, exceptionTable := #[], attributes := #[] }
def k15m1 : Method := { name := "copyOf", desc := "([BI)[B", sig := { parameters := [(.array .byte), .int], returnType := some (.array .byte) }, accessFlags := 9, code := some k15c1 }
def k15c2 : Code := { maxStack := 4, maxLocals := 2, code := jdk_65_method_131_code, exceptionTable := #[], attributes := #[] }
def k15m2 : Method := { name := "checkLength", desc := "(II)V", sig := { parameters := [.int, .int], returnType := none }, accessFlags := 10, code := some k15c2 }
def k15c3 : Code := { maxStack := 3, maxLocals := 3, code := jdk_65_method_132_code, exceptionTable := #[], attributes := #[] }
def k15m3 : Method := { name := "copyOfRange", desc := "([BII)[B", sig := { parameters := [(.array .byte), .int, .int], returnType := some (.array .byte) }, accessFlags := 9, code := some k15c3 }
def k15c4 : Code := { maxStack := 6, maxLocals := 5, code := jdk_65_method_133_code, exceptionTable := #[], attributes := #[] }
def k15m4 : Method := { name := "copyOfRangeByte", desc := "([BII)[B", sig := { parameters := [(.array .byte), .int, .int], returnType := some (.array .byte) }, accessFlags := 10, code := some k15c4 }
/-- java/util/Arrays -/
def k15 : Class := { plain "java/util/Arrays" (some 0) with
  accessFlags := 49
  interfaces := #[]
  cf := some (fileOf pool15 14 #[.nestMembers #[975, 375, 113, 74]] #[{ accessFlags := 2, nameIndex := 5, descriptorIndex := 6, attributes := #[] }, { accessFlags := 9, nameIndex := 302, descriptorIndex := 869, attributes := #[] }, { accessFlags := 10, nameIndex := 345, descriptorIndex := 346, attributes := #[] }, { accessFlags := 9, nameIndex := 139, descriptorIndex := 342, attributes := #[] }, { accessFlags := 10, nameIndex := 341, descriptorIndex := 342, attributes := #[] }] 49 2 #[] #[{ accessFlags := 26, nameIndex := 715, descriptorIndex := 716, attributes := #[] }, { accessFlags := 26, nameIndex := 719, descriptorIndex := 716, attributes := #[] }, { accessFlags := 4120, nameIndex := 445, descriptorIndex := 117, attributes := #[] }])
  fields := #[{ name := "MIN_ARRAY_SORT_GRAN", type := .int, accessFlags := 26, slot := 0, constantValue := 0 }, { name := "INSERTIONSORT_THRESHOLD", type := .int, accessFlags := 26, slot := 1, constantValue := 0 }, { name := "$assertionsDisabled", type := .boolean, accessFlags := 4120, slot := 2, constantValue := 0 }]
  methods := #[k15m0, k15m1, k15m2, k15m3, k15m4]
  instanceTypes := #[]
  staticTypes := #[.int, .int, .boolean]
  resolved := Array.replicate 1029 none
  statics := none }

def pool16 : Array CpInfo := pool [(2, .class_ 4), (1, u "java/lang/Object"), (0, u "<init>"), (0, u "()V"), (1, .class_ 10), (1, u "java/lang/System"), (0, u "allowSecurityManager"), (0, u "I"), (16, u "cons"), (0, u "Ljava/io/Console;"), (77, .class_ 110), (1, u "java/lang/System$CallersHolder"), (43, u "initialErrStream"), (0, u "Ljava/io/PrintStream;"), (19, u "security"), (0, u "Ljava/lang/SecurityManager;"), (31, .class_ 209), (0, u "java/lang/System$1"), (7, u "props"), (0, u "Ljava/util/Properties;"), (2, u "lineSeparator"), (0, u "Ljava/lang/String;"), (96, .class_ 321), (1, u "java/lang/System$LoggerFinder"), (5, .class_ 328), (0, u "java/lang/System$Logger"), (67, u "err"), (2, u "out"), (91, u "notSupportedJnuEncoding"), (15, u "in"), (17, u "initialIn"), (0, u "Ljava/io/InputStream;"), (35, u "bootLayer"), (0, u "Ljava/lang/ModuleLayer;"), (99, .class_ 664), (0, u "java/lang/System$2"), (9, u "NEVER"), (2, u "MAYBE"), (49, u "arraycopy"), (0, u "(Ljava/lang/Object;ILjava/lang/Object;II)V"), (72, .class_ 802), (0, u "java/lang/System$Logger$Level")] 31

def k16m0 : Method := { name := "<init>", desc := "()V", sig := { parameters := [], returnType := none }, accessFlags := 2, code := none }
def k16m1 : Method := { name := "arraycopy", desc := "(Ljava/lang/Object;ILjava/lang/Object;II)V", sig := { parameters := [(.object "java/lang/Object"), .int, (.object "java/lang/Object"), .int, .int], returnType := none }, accessFlags := 265, code := none }
/-- java/lang/System -/
def k16 : Class := { plain "java/lang/System" (some 0) with
  accessFlags := 49
  interfaces := #[]
  cf := some (fileOf pool16 8 #[.nestMembers #[319, 327, 801, 108, 663, 208]] #[{ accessFlags := 2, nameIndex := 5, descriptorIndex := 6, attributes := #[] }, { accessFlags := 265, nameIndex := 727, descriptorIndex := 728, attributes := #[] }] 49 2 #[] #[{ accessFlags := 25, nameIndex := 507, descriptorIndex := 526, attributes := #[] }, { accessFlags := 25, nameIndex := 399, descriptorIndex := 155, attributes := #[] }, { accessFlags := 25, nameIndex := 396, descriptorIndex := 155, attributes := #[] }, { accessFlags := 10, nameIndex := 525, descriptorIndex := 526, attributes := #[] }, { accessFlags := 26, nameIndex := 674, descriptorIndex := 12, attributes := #[] }, { accessFlags := 26, nameIndex := 677, descriptorIndex := 12, attributes := #[] }, { accessFlags := 10, nameIndex := 11, descriptorIndex := 12, attributes := #[] }, { accessFlags := 74, nameIndex := 175, descriptorIndex := 176, attributes := #[] }, { accessFlags := 10, nameIndex := 491, descriptorIndex := 222, attributes := #[] }, { accessFlags := 74, nameIndex := 29, descriptorIndex := 30, attributes := #[] }, { accessFlags := 74, nameIndex := 154, descriptorIndex := 155, attributes := #[] }, { accessFlags := 10, nameIndex := 217, descriptorIndex := 218, attributes := #[] }, { accessFlags := 10, nameIndex := 221, descriptorIndex := 222, attributes := #[] }, { accessFlags := 8, nameIndex := 562, descriptorIndex := 563, attributes := #[] }])
  fields := #[{ name := "in", type := (.object "java/io/InputStream"), accessFlags := 25, slot := 0, constantValue := 0 }, { name := "out", type := (.object "java/io/PrintStream"), accessFlags := 25, slot := 1, constantValue := 0 }, { name := "err", type := (.object "java/io/PrintStream"), accessFlags := 25, slot := 2, constantValue := 0 }, { name := "initialIn", type := (.object "java/io/InputStream"), accessFlags := 10, slot := 3, constantValue := 0 }, { name := "NEVER", type := .int, accessFlags := 26, slot := 4, constantValue := 0 }, { name := "MAYBE", type := .int, accessFlags := 26, slot := 5, constantValue := 0 }, { name := "allowSecurityManager", type := .int, accessFlags := 10, slot := 6, constantValue := 0 }, { name := "security", type := (.object "java/lang/SecurityManager"), accessFlags := 74, slot := 7, constantValue := 0 }, { name := "notSupportedJnuEncoding", type := (.object "java/lang/String"), accessFlags := 10, slot := 8, constantValue := 0 }, { name := "cons", type := (.object "java/io/Console"), accessFlags := 74, slot := 9, constantValue := 0 }, { name := "initialErrStream", type := (.object "java/io/PrintStream"), accessFlags := 74, slot := 10, constantValue := 0 }, { name := "props", type := (.object "java/util/Properties"), accessFlags := 10, slot := 11, constantValue := 0 }, { name := "lineSeparator", type := (.object "java/lang/String"), accessFlags := 10, slot := 12, constantValue := 0 }, { name := "bootLayer", type := (.object "java/lang/ModuleLayer"), accessFlags := 8, slot := 13, constantValue := 0 }]
  methods := #[k16m0, k16m1]
  instanceTypes := #[]
  staticTypes := #[(.object "java/io/InputStream"), (.object "java/io/PrintStream"), (.object "java/io/PrintStream"), (.object "java/io/InputStream"), .int, .int, .int, (.object "java/lang/SecurityManager"), (.object "java/lang/String"), (.object "java/io/Console"), (.object "java/io/PrintStream"), (.object "java/util/Properties"), (.object "java/lang/String"), (.object "java/lang/ModuleLayer")]
  resolved := Array.replicate 834 none
  statics := none }

def pool17 : Array CpInfo := pool [(2, .class_ 4), (1, u "java/lang/Object"), (0, u "<init>"), (0, u "()V"), (17, .class_ 26), (1, u "jdk/internal/util/Preconditions"), (6, u "checkIndex"), (21, .class_ 56), (0, u "jdk/internal/util/Preconditions$4"), (57, .class_ 115), (0, u "jdk/internal/util/Preconditions$1"), (7, u "SIOOBE_FORMATTER"), (0, u "Ljava/util/function/BiFunction;"), (0, .class_ 126), (0, u "jdk/internal/util/Preconditions$2"), (3, u "AIOOBE_FORMATTER"), (0, .class_ 132), (0, u "jdk/internal/util/Preconditions$3"), (3, u "IOOBE_FORMATTER"), (41, u "(IILjava/util/function/BiFunction;)I")] 15

def k17m0 : Method := { name := "<init>", desc := "()V", sig := { parameters := [], returnType := none }, accessFlags := 1, code := none }
def k17c1 : Code := { maxStack := 3, maxLocals := 3, code := jdk_41_method_11_code, exceptionTable := #[], attributes := #[] }
def k17m1 : Method := { name := "checkIndex", desc := "(IILjava/util/function/BiFunction;)I", sig := { parameters := [.int, .int, (.object "java/util/function/BiFunction")], returnType := some .int }, accessFlags := 9, code := some k17c1 }
/-- jdk/internal/util/Preconditions -/
def k17 : Class := { plain "jdk/internal/util/Preconditions" (some 0) with
  accessFlags := 33
  interfaces := #[]
  cf := some (fileOf pool17 24 #[.nestMembers #[55, 131, 125, 114]] #[{ accessFlags := 1, nameIndex := 5, descriptorIndex := 6, attributes := #[] }, { accessFlags := 9, nameIndex := 33, descriptorIndex := 178, attributes := #[] }] 33 2 #[] #[{ accessFlags := 25, nameIndex := 123, descriptorIndex := 124, attributes := #[] }, { accessFlags := 25, nameIndex := 130, descriptorIndex := 124, attributes := #[] }, { accessFlags := 25, nameIndex := 136, descriptorIndex := 124, attributes := #[] }])
  fields := #[{ name := "SIOOBE_FORMATTER", type := (.object "java/util/function/BiFunction"), accessFlags := 25, slot := 0, constantValue := 0 }, { name := "AIOOBE_FORMATTER", type := (.object "java/util/function/BiFunction"), accessFlags := 25, slot := 1, constantValue := 0 }, { name := "IOOBE_FORMATTER", type := (.object "java/util/function/BiFunction"), accessFlags := 25, slot := 2, constantValue := 0 }]
  methods := #[k17m0, k17m1]
  instanceTypes := #[]
  staticTypes := #[(.object "java/util/function/BiFunction"), (.object "java/util/function/BiFunction"), (.object "java/util/function/BiFunction")]
  resolved := Array.replicate 194 none
  statics := some 1 }

def pool18 : Array CpInfo := pool [(1, u "java/lang/Cloneable"), (0, .class_ 1), (0, u "java/lang/Object"), (0, .class_ 3)] 3

/-- java/lang/Cloneable -/
def k18 : Class := { plain "java/lang/Cloneable" (some 0) with
  accessFlags := 1537
  interfaces := #[]
  cf := some (fileOf pool18 2 #[] #[] 1537 4 #[] #[])
  fields := #[]
  methods := #[]
  instanceTypes := #[]
  staticTypes := #[]
  resolved := Array.replicate 8 none
  statics := none }

/-- the primitive byte -/
def k19 : Class := { plain "byte" none with kind := .primitive 'B', accessFlags := 0x411 }
/-- [B -/
def k20 : Class := { plain "[B" (some 0) with kind := .array 19 .byte, interfaces := #[18, 2], accessFlags := 1041 }

/-- the primitive int -/
def k21 : Class := { plain "int" none with kind := .primitive 'I', accessFlags := 0x411 }
/-- [I -/
def k22 : Class := { plain "[I" (some 0) with kind := .array 21 .int, interfaces := #[18, 2], accessFlags := 1041 }

def heap : Heap := #[{ cls := 7, slots := #[.long 0, .int 1, .null, .int 0, .null, .int 0, .int 0], vm := .statics 7 },
  { cls := 17, slots := #[.null, .null, .null], vm := .statics 17 }]
def classes : Array Class := #[k0, k1, k2, k3, k4, k5, k6, k7, k8, k9, k10, k11, k12, k13, k14, k15, k16, k17, k18, k19, k20, k21, k22]
def interned : List (Array UInt16 × Addr) := []
def slotsUsed : Nat := 10
def theMethod : MethodId := ⟨1, 2⟩
def args0 : Array Value := #[.int 3, .int 7, .int 97, .int 98, .int 99]
def aboutOver (below : List Frame) : State where
  vm := { classes := classes, interned := interned.toArray }
  heap := heap
  slotsUsed := slotsUsed
  threads := #[{ frames := .invoking theMethod args0 :: below }]
def below0 : List Frame := [.native { method := ⟨0, 0⟩, args := #[] }]
def about1 : State := aboutOver below0
def p0 : Program := .bare "" "" ""
def e0 : Env := launch0.env 0 0 0
theorem w_frames : about1.frames = Frame.invoking theMethod args0 :: below0 := rfl
set_option maxRecDepth 65536 in
theorem w_args : argsFit about1.vm theMethod args0 = true := by decide +kernel
set_option maxRecDepth 65536 in
theorem w_heap : heapFits about1 = true := by decide +kernel
set_option maxRecDepth 65536 in
theorem w_runnable : about1.curStatus? = some .runnable := by decide +kernel
set_option maxRecDepth 65536 in
theorem w_alone : about1.alone = true := by decide +kernel
set_option maxRecDepth 65536 in
theorem w_named : about1.methodNamed? x = some theMethod := by decide +kernel
set_option maxRecDepth 65536 in
theorem w_hears : about1.hears theMethod below0 = true := by decide +kernel
set_option maxRecDepth 65536 in
theorem w_ripe : about1.ripe theMethod args0 below0 = true := by decide +kernel
theorem w_running : about1.status = .running := rfl
set_option maxRecDepth 65536 in
theorem w_room : about1.hasRoom e0.platform room_1 = true :=
  launch0.hasRoom_least _ room_1 (by decide +kernel) (by decide +kernel) (by decide +kernel) (by decide +kernel) (by decide +kernel) (by decide +kernel)
theorem allAtoms_all (ts : List Jvm.Cond) (a : Array Jvm.Value) (st : Jvm.State) : (allAtoms ts).before a st = ts.all (fun c => c.before a st) := by
  induction ts with
  | nil => rfl
  | cons c t ih =>
    show (Jvm.Cond.and c (allAtoms t)).before a st = _
    rw [Jvm.Cond.before_and, ih, List.all_cons]
def words1 : List Jvm.Cond := Jvm.Cond.code x code maxLocals ret :: tables_1
/-- a 'code' word, met by the world's own term for the bytes: nothing is compared byte by byte -/
theorem code_word {y : MethodName} {bytes : ByteArray} {mx : Nat} {rt : Option FieldType} {a : Array Value} {s : State} {m : MethodId} {meth : Method} {c : Code} (h1 : s.methodNamed? y = some m) (h2 : s.vm.method? m = some meth) (h3 : meth.code = some c) (h4 : c.code = bytes)
    (h5 : (c.maxLocals == mx && c.exceptionTable.isEmpty && decide (c.maxStack ≤ mostOperands) && decide (meth.sig.returnType = rt) && !meth.locks && decide (parseMethodDescriptor y.desc = some meth.sig)) = true) : (Jvm.Cond.code y bytes mx rt).before a s = true := by
  simp only [Bool.and_eq_true, beq_iff_eq, Bool.not_eq_true', decide_eq_true_eq] at h5
  obtain ⟨⟨⟨⟨⟨g1, g2⟩, g3⟩, g4⟩, g5⟩, g6⟩ := h5
  simp [Cond.before, Cond.holds, Cond.value, h1, h2, h3, h4, g1, g2, g3, g4, g5, g6]
def isCode : Jvm.Cond → Bool
  | .code _ _ _ _ => true
  | _ => false
theorem all_split {L : List Jvm.Cond} {P : Jvm.Cond → Bool} (h1 : L.all (fun c => isCode c || P c) = true) (h2 : ∀ c ∈ L.filter isCode, P c = true) : L.all P = true := by
  refine List.all_eq_true.mpr fun c hc => ?_
  have h := List.all_eq_true.mp h1 c hc
  rcases Bool.eq_false_or_eq_true (isCode c) with hi | hi
  · exact h2 c (List.mem_filter.mpr ⟨hc, hi⟩)
  · simpa [hi] using h
set_option maxRecDepth 65536 in
theorem w_c0 : (Jvm.Cond.code x code maxLocals ret).before args0 about1 = true := code_word (m := ⟨1, 2⟩) (meth := k1m2) (c := k1c2) (by decide +kernel) rfl rfl rfl (by decide +kernel)
set_option maxRecDepth 65536 in
theorem w_c1 : (Jvm.Cond.code ({ cls := "java/lang/String", name := "valueOf", desc := "(C)Ljava/lang/String;" } : Jvm.MethodName) jdk_42_method_139_code (1 : Nat) (Option.some (Jvm.ClassFile.FieldType.object "java/lang/String"))).before args0 about1 = true := code_word (m := ⟨7, 6⟩) (meth := k7m6) (c := k7c6) (by decide +kernel) rfl rfl rfl (by decide +kernel)
set_option maxRecDepth 65536 in
theorem w_c2 : (Jvm.Cond.code ({ cls := "java/lang/StringLatin1", name := "canEncode", desc := "(C)Z" } : Jvm.MethodName) jdk_43_method_3_code (1 : Nat) (Option.some Jvm.ClassFile.FieldType.boolean)).before args0 about1 = true := code_word (m := ⟨9, 2⟩) (meth := k9m2) (c := k9c2) (by decide +kernel) rfl rfl rfl (by decide +kernel)
set_option maxRecDepth 65536 in
theorem w_c3 : (Jvm.Cond.code ({ cls := "java/lang/StringLatin1", name := "toBytes", desc := "(C)[B" } : Jvm.MethodName) jdk_43_method_46_code (1 : Nat) (Option.some (Jvm.ClassFile.FieldType.array Jvm.ClassFile.FieldType.byte))).before args0 about1 = true := code_word (m := ⟨9, 4⟩) (meth := k9m4) (c := k9c4) (by decide +kernel) rfl rfl rfl (by decide +kernel)
set_option maxRecDepth 65536 in
theorem w_c4 : (Jvm.Cond.code ({ cls := "java/lang/String", name := "<init>", desc := "([BB)V" } : Jvm.MethodName) jdk_42_method_151_code (3 : Nat) (Option.none : Option Jvm.ClassFile.FieldType)).before args0 about1 = true := code_word (m := ⟨7, 11⟩) (meth := k7m11) (c := k7c11) (by decide +kernel) rfl rfl rfl (by decide +kernel)
set_option maxRecDepth 65536 in
theorem w_c5 : (Jvm.Cond.code ({ cls := "java/lang/Object", name := "<init>", desc := "()V" } : Jvm.MethodName) object_method_1_code (1 : Nat) (Option.none : Option Jvm.ClassFile.FieldType)).before args0 about1 = true := code_word (m := ⟨0, 0⟩) (meth := k0m0) (c := k0c0) (by decide +kernel) rfl rfl rfl (by decide +kernel)
set_option maxRecDepth 65536 in
theorem w_c6 : (Jvm.Cond.code ({ cls := "com/example/orbweaver/orbweaver/mapping/JavaSource", name := "<init>", desc := "(Ljava/lang/String;Ljava/lang/String;)V" } : Jvm.MethodName) prog_171_method_1_code (3 : Nat) (Option.none : Option Jvm.ClassFile.FieldType)).before args0 about1 = true := code_word (m := ⟨8, 0⟩) (meth := k8m0) (c := k8c0) (by decide +kernel) rfl rfl rfl (by decide +kernel)
set_option maxRecDepth 65536 in
theorem w_c7 : (Jvm.Cond.code ({ cls := "java/lang/StringBuilder", name := "<init>", desc := "()V" } : Jvm.MethodName) jdk_67_method_1_code (1 : Nat) (Option.none : Option Jvm.ClassFile.FieldType)).before args0 about1 = true := code_word (m := ⟨12, 0⟩) (meth := k12m0) (c := k12c0) (by decide +kernel) rfl rfl rfl (by decide +kernel)
set_option maxRecDepth 65536 in
theorem w_c8 : (Jvm.Cond.code ({ cls := "java/lang/AbstractStringBuilder", name := "<init>", desc := "(I)V" } : Jvm.MethodName) jdk_68_method_2_code (2 : Nat) (Option.none : Option Jvm.ClassFile.FieldType)).before args0 about1 = true := code_word (m := ⟨11, 1⟩) (meth := k11m1) (c := k11c1) (by decide +kernel) rfl rfl rfl (by decide +kernel)
set_option maxRecDepth 65536 in
theorem w_c9 : (Jvm.Cond.code ({ cls := "java/lang/StringBuilder", name := "append", desc := "(Ljava/lang/String;)Ljava/lang/StringBuilder;" } : Jvm.MethodName) jdk_67_method_7_code (2 : Nat) (Option.some (Jvm.ClassFile.FieldType.object "java/lang/StringBuilder"))).before args0 about1 = true := code_word (m := ⟨12, 1⟩) (meth := k12m1) (c := k12c1) (by decide +kernel) rfl rfl rfl (by decide +kernel)
set_option maxRecDepth 65536 in
theorem w_c10 : (Jvm.Cond.code ({ cls := "java/lang/AbstractStringBuilder", name := "append", desc := "(Ljava/lang/String;)Ljava/lang/AbstractStringBuilder;" } : Jvm.MethodName) jdk_68_method_22_code (3 : Nat) (Option.some (Jvm.ClassFile.FieldType.object "java/lang/AbstractStringBuilder"))).before args0 about1 = true := code_word (m := ⟨11, 5⟩) (meth := k11m5) (c := k11c5) (by decide +kernel) rfl rfl rfl (by decide +kernel)
set_option maxRecDepth 65536 in
theorem w_c11 : (Jvm.Cond.code ({ cls := "java/lang/String", name := "length", desc := "()I" } : Jvm.MethodName) jdk_42_method_54_code (1 : Nat) (Option.some Jvm.ClassFile.FieldType.int)).before args0 about1 = true := code_word (m := ⟨7, 2⟩) (meth := k7m2) (c := k7c2) (by decide +kernel) rfl rfl rfl (by decide +kernel)
set_option maxRecDepth 65536 in
theorem w_c12 : (Jvm.Cond.code ({ cls := "java/lang/String", name := "coder", desc := "()B" } : Jvm.MethodName) jdk_42_method_152_code (1 : Nat) (Option.some Jvm.ClassFile.FieldType.byte)).before args0 about1 = true := code_word (m := ⟨7, 12⟩) (meth := k7m12) (c := k7c12) (by decide +kernel) rfl rfl rfl (by decide +kernel)
set_option maxRecDepth 65536 in
theorem w_c13 : (Jvm.Cond.code ({ cls := "java/lang/AbstractStringBuilder", name := "ensureCapacityInternal", desc := "(I)V" } : Jvm.MethodName) jdk_68_method_9_code (3 : Nat) (Option.none : Option Jvm.ClassFile.FieldType)).before args0 about1 = true := code_word (m := ⟨11, 3⟩) (meth := k11m3) (c := k11c3) (by decide +kernel) rfl rfl rfl (by decide +kernel)
set_option maxRecDepth 65536 in
theorem w_c14 : (Jvm.Cond.code ({ cls := "java/lang/AbstractStringBuilder", name := "newCapacity", desc := "(I)I" } : Jvm.MethodName) jdk_68_method_10_code (6 : Nat) (Option.some Jvm.ClassFile.FieldType.int)).before args0 about1 = true := code_word (m := ⟨11, 4⟩) (meth := k11m4) (c := k11c4) (by decide +kernel) rfl rfl rfl (by decide +kernel)
set_option maxRecDepth 65536 in
theorem w_c15 : (Jvm.Cond.code ({ cls := "jdk/internal/util/ArraysSupport", name := "newLength", desc := "(III)I" } : Jvm.MethodName) jdk_48_method_27_code (4 : Nat) (Option.some Jvm.ClassFile.FieldType.int)).before args0 about1 = true := code_word (m := ⟨13, 1⟩) (meth := k13m1) (c := k13c1) (by decide +kernel) rfl rfl rfl (by decide +kernel)
set_option maxRecDepth 65536 in
theorem w_c16 : (Jvm.Cond.code ({ cls := "java/lang/Math", name := "max", desc := "(II)I" } : Jvm.MethodName) jdk_29_method_65_code (2 : Nat) (Option.some Jvm.ClassFile.FieldType.int)).before args0 about1 = true := code_word (m := ⟨14, 1⟩) (meth := k14m1) (c := k14c1) (by decide +kernel) rfl rfl rfl (by decide +kernel)
set_option maxRecDepth 65536 in
theorem w_c17 : (Jvm.Cond.code ({ cls := "java/util/Arrays", name := "copyOf", desc := "([BI)[B" } : Jvm.MethodName) jdk_65_method_121_code (3 : Nat) (Option.some (Jvm.ClassFile.FieldType.array Jvm.ClassFile.FieldType.byte))).before args0 about1 = true := code_word (m := ⟨15, 1⟩) (meth := k15m1) (c := k15c1) (by decide +kernel) rfl rfl rfl (by decide +kernel)
set_option maxRecDepth 65536 in
theorem w_c18 : (Jvm.Cond.code ({ cls := "java/lang/Math", name := "min", desc := "(II)I" } : Jvm.MethodName) jdk_29_method_69_code (2 : Nat) (Option.some Jvm.ClassFile.FieldType.int)).before args0 about1 = true := code_word (m := ⟨14, 2⟩) (meth := k14m2) (c := k14c2) (by decide +kernel) rfl rfl rfl (by decide +kernel)
set_option maxRecDepth 65536 in
theorem w_c19 : (Jvm.Cond.code ({ cls := "java/lang/AbstractStringBuilder", name := "putStringAt", desc := "(ILjava/lang/String;)V" } : Jvm.MethodName) jdk_68_method_73_code (3 : Nat) (Option.none : Option Jvm.ClassFile.FieldType)).before args0 about1 = true := code_word (m := ⟨11, 10⟩) (meth := k11m10) (c := k11c10) (by decide +kernel) rfl rfl rfl (by decide +kernel)
set_option maxRecDepth 65536 in
theorem w_c20 : (Jvm.Cond.code ({ cls := "java/lang/AbstractStringBuilder", name := "inflateIfNeededFor", desc := "(Ljava/lang/String;)V" } : Jvm.MethodName) jdk_68_method_71_code (2 : Nat) (Option.none : Option Jvm.ClassFile.FieldType)).before args0 about1 = true := code_word (m := ⟨11, 9⟩) (meth := k11m9) (c := k11c9) (by decide +kernel) rfl rfl rfl (by decide +kernel)
set_option maxRecDepth 65536 in
theorem w_c21 : (Jvm.Cond.code ({ cls := "java/lang/String", name := "getBytes", desc := "([BIB)V" } : Jvm.MethodName) jdk_42_method_147_code (4 : Nat) (Option.none : Option Jvm.ClassFile.FieldType)).before args0 about1 = true := code_word (m := ⟨7, 9⟩) (meth := k7m9) (c := k7c9) (by decide +kernel) rfl rfl rfl (by decide +kernel)
set_option maxRecDepth 65536 in
theorem w_c22 : (Jvm.Cond.code ({ cls := "java/lang/StringBuilder", name := "toString", desc := "()Ljava/lang/String;" } : Jvm.MethodName) jdk_67_method_42_code (1 : Nat) (Option.some (Jvm.ClassFile.FieldType.object "java/lang/String"))).before args0 about1 = true := code_word (m := ⟨12, 3⟩) (meth := k12m3) (c := k12c3) (by decide +kernel) rfl rfl rfl (by decide +kernel)
set_option maxRecDepth 65536 in
theorem w_c23 : (Jvm.Cond.code ({ cls := "java/lang/String", name := "<init>", desc := "(Ljava/lang/StringBuilder;)V" } : Jvm.MethodName) jdk_42_method_53_code (2 : Nat) (Option.none : Option Jvm.ClassFile.FieldType)).before args0 about1 = true := code_word (m := ⟨7, 1⟩) (meth := k7m1) (c := k7c1) (by decide +kernel) rfl rfl rfl (by decide +kernel)
set_option maxRecDepth 65536 in
theorem w_c24 : (Jvm.Cond.code ({ cls := "java/lang/String", name := "<init>", desc := "(Ljava/lang/AbstractStringBuilder;Ljava/lang/Void;)V" } : Jvm.MethodName) jdk_42_method_150_code (5 : Nat) (Option.none : Option Jvm.ClassFile.FieldType)).before args0 about1 = true := code_word (m := ⟨7, 10⟩) (meth := k7m10) (c := k7c10) (by decide +kernel) rfl rfl rfl (by decide +kernel)
set_option maxRecDepth 65536 in
theorem w_c25 : (Jvm.Cond.code ({ cls := "java/lang/AbstractStringBuilder", name := "getValue", desc := "()[B" } : Jvm.MethodName) jdk_68_method_64_code (1 : Nat) (Option.some (Jvm.ClassFile.FieldType.array Jvm.ClassFile.FieldType.byte))).before args0 about1 = true := code_word (m := ⟨11, 7⟩) (meth := k11m7) (c := k11c7) (by decide +kernel) rfl rfl rfl (by decide +kernel)
set_option maxRecDepth 65536 in
theorem w_c26 : (Jvm.Cond.code ({ cls := "java/lang/StringBuilder", name := "length", desc := "()I" } : Jvm.MethodName) jdk_67_method_93_code (1 : Nat) (Option.some Jvm.ClassFile.FieldType.int)).before args0 about1 = true := code_word (m := ⟨12, 4⟩) (meth := k12m4) (c := k12c4) (by decide +kernel) rfl rfl rfl (by decide +kernel)
set_option maxRecDepth 65536 in
theorem w_c27 : (Jvm.Cond.code ({ cls := "java/lang/AbstractStringBuilder", name := "length", desc := "()I" } : Jvm.MethodName) jdk_68_method_6_code (1 : Nat) (Option.some Jvm.ClassFile.FieldType.int)).before args0 about1 = true := code_word (m := ⟨11, 2⟩) (meth := k11m2) (c := k11c2) (by decide +kernel) rfl rfl rfl (by decide +kernel)
set_option maxRecDepth 65536 in
theorem w_c28 : (Jvm.Cond.code ({ cls := "java/lang/AbstractStringBuilder", name := "isLatin1", desc := "()Z" } : Jvm.MethodName) jdk_68_method_68_code (1 : Nat) (Option.some Jvm.ClassFile.FieldType.boolean)).before args0 about1 = true := code_word (m := ⟨11, 8⟩) (meth := k11m8) (c := k11c8) (by decide +kernel) rfl rfl rfl (by decide +kernel)
set_option maxRecDepth 65536 in
theorem w_c29 : (Jvm.Cond.code ({ cls := "java/util/Arrays", name := "copyOfRange", desc := "([BII)[B" } : Jvm.MethodName) jdk_65_method_132_code (3 : Nat) (Option.some (Jvm.ClassFile.FieldType.array Jvm.ClassFile.FieldType.byte))).before args0 about1 = true := code_word (m := ⟨15, 3⟩) (meth := k15m3) (c := k15c3) (by decide +kernel) rfl rfl rfl (by decide +kernel)
set_option maxRecDepth 65536 in
theorem w_c30 : (Jvm.Cond.code ({ cls := "java/util/Arrays", name := "copyOfRangeByte", desc := "([BII)[B" } : Jvm.MethodName) jdk_65_method_133_code (5 : Nat) (Option.some (Jvm.ClassFile.FieldType.array Jvm.ClassFile.FieldType.byte))).before args0 about1 = true := code_word (m := ⟨15, 4⟩) (meth := k15m4) (c := k15c4) (by decide +kernel) rfl rfl rfl (by decide +kernel)
set_option maxRecDepth 65536 in
theorem w_c31 : (Jvm.Cond.code ({ cls := "java/util/Arrays", name := "checkLength", desc := "(II)V" } : Jvm.MethodName) jdk_65_method_131_code (2 : Nat) (Option.none : Option Jvm.ClassFile.FieldType)).before args0 about1 = true := code_word (m := ⟨15, 2⟩) (meth := k15m2) (c := k15c2) (by decide +kernel) rfl rfl rfl (by decide +kernel)
set_option maxRecDepth 65536 in
theorem w_c32 : (Jvm.Cond.code ({ cls := "com/example/orbweaver/orbweaver/mapping/JavaSource", name := "line", desc := "(Ljava/lang/String;)Lcom/example/orbweaver/orbweaver/mapping/JavaSource;" } : Jvm.MethodName) prog_171_method_2_code (2 : Nat) (Option.some (Jvm.ClassFile.FieldType.object "com/example/orbweaver/orbweaver/mapping/JavaSource"))).before args0 about1 = true := code_word (m := ⟨8, 1⟩) (meth := k8m1) (c := k8c1) (by decide +kernel) rfl rfl rfl (by decide +kernel)
set_option maxRecDepth 65536 in
theorem w_c33 : (Jvm.Cond.code ({ cls := "java/lang/String", name := "repeat", desc := "(I)Ljava/lang/String;" } : Jvm.MethodName) jdk_42_method_145_code (5 : Nat) (Option.some (Jvm.ClassFile.FieldType.object "java/lang/String"))).before args0 about1 = true := code_word (m := ⟨7, 7⟩) (meth := k7m7) (c := k7c7) (by decide +kernel) rfl rfl rfl (by decide +kernel)
set_option maxRecDepth 65536 in
theorem w_c34 : (Jvm.Cond.code ({ cls := "java/lang/StringBuilder", name := "append", desc := "(C)Ljava/lang/StringBuilder;" } : Jvm.MethodName) jdk_67_method_14_code (2 : Nat) (Option.some (Jvm.ClassFile.FieldType.object "java/lang/StringBuilder"))).before args0 about1 = true := code_word (m := ⟨12, 2⟩) (meth := k12m2) (c := k12c2) (by decide +kernel) rfl rfl rfl (by decide +kernel)
set_option maxRecDepth 65536 in
theorem w_c35 : (Jvm.Cond.code ({ cls := "java/lang/AbstractStringBuilder", name := "append", desc := "(C)Ljava/lang/AbstractStringBuilder;" } : Jvm.MethodName) jdk_68_method_31_code (2 : Nat) (Option.some (Jvm.ClassFile.FieldType.object "java/lang/AbstractStringBuilder"))).before args0 about1 = true := code_word (m := ⟨11, 6⟩) (meth := k11m6) (c := k11c6) (by decide +kernel) rfl rfl rfl (by decide +kernel)
set_option maxRecDepth 65536 in
theorem w_c36 : (Jvm.Cond.code ({ cls := "java/lang/String", name := "isEmpty", desc := "()Z" } : Jvm.MethodName) jdk_42_method_55_code (1 : Nat) (Option.some Jvm.ClassFile.FieldType.boolean)).before args0 about1 = true := code_word (m := ⟨7, 3⟩) (meth := k7m3) (c := k7c3) (by decide +kernel) rfl rfl rfl (by decide +kernel)
set_option maxRecDepth 65536 in
theorem w_c37 : (Jvm.Cond.code ({ cls := "com/example/orbweaver/orbweaver/mapping/JavaSource", name := "blank", desc := "()Lcom/example/orbweaver/orbweaver/mapping/JavaSource;" } : Jvm.MethodName) prog_171_method_4_code (1 : Nat) (Option.some (Jvm.ClassFile.FieldType.object "com/example/orbweaver/orbweaver/mapping/JavaSource"))).before args0 about1 = true := code_word (m := ⟨8, 2⟩) (meth := k8m2) (c := k8c2) (by decide +kernel) rfl rfl rfl (by decide +kernel)
set_option maxRecDepth 65536 in
theorem w_c38 : (Jvm.Cond.code ({ cls := "com/example/orbweaver/orbweaver/mapping/JavaSource", name := "toString", desc := "()Ljava/lang/String;" } : Jvm.MethodName) prog_171_method_10_code (1 : Nat) (Option.some (Jvm.ClassFile.FieldType.object "java/lang/String"))).before args0 about1 = true := code_word (m := ⟨8, 5⟩) (meth := k8m5) (c := k8c5) (by decide +kernel) rfl rfl rfl (by decide +kernel)
set_option maxRecDepth 65536 in
theorem w_c39 : (Jvm.Cond.code ({ cls := "com/example/orbweaver/orbweaver/mapping/JavaSource", name := "deeper", desc := "(I)Lcom/example/orbweaver/orbweaver/mapping/JavaSource;" } : Jvm.MethodName) prog_171_method_8_code (2 : Nat) (Option.some (Jvm.ClassFile.FieldType.object "com/example/orbweaver/orbweaver/mapping/JavaSource"))).before args0 about1 = true := code_word (m := ⟨8, 4⟩) (meth := k8m4) (c := k8c4) (by decide +kernel) rfl rfl rfl (by decide +kernel)
set_option maxRecDepth 65536 in
theorem w_c40 : (Jvm.Cond.code ({ cls := "java/lang/String", name := "equals", desc := "(Ljava/lang/Object;)Z" } : Jvm.MethodName) jdk_42_method_66_code (3 : Nat) (Option.some Jvm.ClassFile.FieldType.boolean)).before args0 about1 = true := code_word (m := ⟨7, 5⟩) (meth := k7m5) (c := k7c5) (by decide +kernel) rfl rfl rfl (by decide +kernel)
set_option maxRecDepth 65536 in
theorem w_c41 : (Jvm.Cond.code ({ cls := "java/lang/StringLatin1", name := "equals", desc := "([B[B)Z" } : Jvm.MethodName) jdk_43_method_13_code (3 : Nat) (Option.some Jvm.ClassFile.FieldType.boolean)).before args0 about1 = true := code_word (m := ⟨9, 3⟩) (meth := k9m3) (c := k9c3) (by decide +kernel) rfl rfl rfl (by decide +kernel)
set_option maxRecDepth 65536 in
theorem w_c42 : (Jvm.Cond.code ({ cls := "java/lang/String", name := "repeatCopyRest", desc := "([BIII)V" } : Jvm.MethodName) jdk_42_method_146_code (4 : Nat) (Option.none : Option Jvm.ClassFile.FieldType)).before args0 about1 = true := code_word (m := ⟨7, 8⟩) (meth := k7m8) (c := k7c8) (by decide +kernel) rfl rfl rfl (by decide +kernel)
set_option maxRecDepth 65536 in
theorem w_c43 : (Jvm.Cond.code ({ cls := "com/example/orbweaver/orbweaver/mapping/JavaSourceDeeperPinLaw", name := "at", desc := "(Ljava/lang/String;IIIC)Z" } : Jvm.MethodName) method_2_code (6 : Nat) (Option.some Jvm.ClassFile.FieldType.boolean)).before args0 about1 = true := code_word (m := ⟨1, 1⟩) (meth := k1m1) (c := k1c1) (by decide +kernel) rfl rfl rfl (by decide +kernel)
set_option maxRecDepth 65536 in
theorem w_c44 : (Jvm.Cond.code ({ cls := "java/lang/String", name := "charAt", desc := "(I)C" } : Jvm.MethodName) jdk_42_method_56_code (2 : Nat) (Option.some Jvm.ClassFile.FieldType.char)).before args0 about1 = true := code_word (m := ⟨7, 4⟩) (meth := k7m4) (c := k7c4) (by decide +kernel) rfl rfl rfl (by decide +kernel)
set_option maxRecDepth 65536 in
theorem w_c45 : (Jvm.Cond.code ({ cls := "java/lang/String", name := "isLatin1", desc := "()Z" } : Jvm.MethodName) jdk_42_method_154_code (1 : Nat) (Option.some Jvm.ClassFile.FieldType.boolean)).before args0 about1 = true := code_word (m := ⟨7, 13⟩) (meth := k7m13) (c := k7c13) (by decide +kernel) rfl rfl rfl (by decide +kernel)
set_option maxRecDepth 65536 in
theorem w_c46 : (Jvm.Cond.code ({ cls := "java/lang/StringLatin1", name := "charAt", desc := "([BI)C" } : Jvm.MethodName) jdk_43_method_2_code (2 : Nat) (Option.some Jvm.ClassFile.FieldType.char)).before args0 about1 = true := code_word (m := ⟨9, 1⟩) (meth := k9m1) (c := k9c1) (by decide +kernel) rfl rfl rfl (by decide +kernel)
set_option maxRecDepth 65536 in
theorem w_c47 : (Jvm.Cond.code ({ cls := "java/lang/String", name := "checkIndex", desc := "(II)V" } : Jvm.MethodName) jdk_42_method_155_code (2 : Nat) (Option.none : Option Jvm.ClassFile.FieldType)).before args0 about1 = true := code_word (m := ⟨7, 14⟩) (meth := k7m14) (c := k7c14) (by decide +kernel) rfl rfl rfl (by decide +kernel)
set_option maxRecDepth 65536 in
theorem w_c48 : (Jvm.Cond.code ({ cls := "jdk/internal/util/Preconditions", name := "checkIndex", desc := "(IILjava/util/function/BiFunction;)I" } : Jvm.MethodName) jdk_41_method_11_code (3 : Nat) (Option.some Jvm.ClassFile.FieldType.int)).before args0 about1 = true := code_word (m := ⟨17, 1⟩) (meth := k17m1) (c := k17c1) (by decide +kernel) rfl rfl rfl (by decide +kernel)
set_option maxRecDepth 65536 in
theorem w_c49 : (Jvm.Cond.code ({ cls := "com/example/orbweaver/orbweaver/mapping/JavaSource", name := "open", desc := "(Ljava/lang/String;)Lcom/example/orbweaver/orbweaver/mapping/JavaSource;" } : Jvm.MethodName) prog_171_method_5_code (2 : Nat) (Option.some (Jvm.ClassFile.FieldType.object "com/example/orbweaver/orbweaver/mapping/JavaSource"))).before args0 about1 = true := code_word (m := ⟨8, 3⟩) (meth := k8m3) (c := k8c3) (by decide +kernel) rfl rfl rfl (by decide +kernel)
def codes1 : List Jvm.Cond := [Jvm.Cond.code x code maxLocals ret, Jvm.Cond.code ({ cls := "java/lang/String", name := "valueOf", desc := "(C)Ljava/lang/String;" } : Jvm.MethodName) jdk_42_method_139_code (1 : Nat) (Option.some (Jvm.ClassFile.FieldType.object "java/lang/String")), Jvm.Cond.code ({ cls := "java/lang/StringLatin1", name := "canEncode", desc := "(C)Z" } : Jvm.MethodName) jdk_43_method_3_code (1 : Nat) (Option.some Jvm.ClassFile.FieldType.boolean), Jvm.Cond.code ({ cls := "java/lang/StringLatin1", name := "toBytes", desc := "(C)[B" } : Jvm.MethodName) jdk_43_method_46_code (1 : Nat) (Option.some (Jvm.ClassFile.FieldType.array Jvm.ClassFile.FieldType.byte)), Jvm.Cond.code ({ cls := "java/lang/String", name := "<init>", desc := "([BB)V" } : Jvm.MethodName) jdk_42_method_151_code (3 : Nat) (Option.none : Option Jvm.ClassFile.FieldType), Jvm.Cond.code ({ cls := "java/lang/Object", name := "<init>", desc := "()V" } : Jvm.MethodName) object_method_1_code (1 : Nat) (Option.none : Option Jvm.ClassFile.FieldType), Jvm.Cond.code ({ cls := "com/example/orbweaver/orbweaver/mapping/JavaSource", name := "<init>", desc := "(Ljava/lang/String;Ljava/lang/String;)V" } : Jvm.MethodName) prog_171_method_1_code (3 : Nat) (Option.none : Option Jvm.ClassFile.FieldType), Jvm.Cond.code ({ cls := "java/lang/StringBuilder", name := "<init>", desc := "()V" } : Jvm.MethodName) jdk_67_method_1_code (1 : Nat) (Option.none : Option Jvm.ClassFile.FieldType), Jvm.Cond.code ({ cls := "java/lang/AbstractStringBuilder", name := "<init>", desc := "(I)V" } : Jvm.MethodName) jdk_68_method_2_code (2 : Nat) (Option.none : Option Jvm.ClassFile.FieldType), Jvm.Cond.code ({ cls := "java/lang/StringBuilder", name := "append", desc := "(Ljava/lang/String;)Ljava/lang/StringBuilder;" } : Jvm.MethodName) jdk_67_method_7_code (2 : Nat) (Option.some (Jvm.ClassFile.FieldType.object "java/lang/StringBuilder")), Jvm.Cond.code ({ cls := "java/lang/AbstractStringBuilder", name := "append", desc := "(Ljava/lang/String;)Ljava/lang/AbstractStringBuilder;" } : Jvm.MethodName) jdk_68_method_22_code (3 : Nat) (Option.some (Jvm.ClassFile.FieldType.object "java/lang/AbstractStringBuilder")), Jvm.Cond.code ({ cls := "java/lang/String", name := "length", desc := "()I" } : Jvm.MethodName) jdk_42_method_54_code (1 : Nat) (Option.some Jvm.ClassFile.FieldType.int), Jvm.Cond.code ({ cls := "java/lang/String", name := "coder", desc := "()B" } : Jvm.MethodName) jdk_42_method_152_code (1 : Nat) (Option.some Jvm.ClassFile.FieldType.byte), Jvm.Cond.code ({ cls := "java/lang/AbstractStringBuilder", name := "ensureCapacityInternal", desc := "(I)V" } : Jvm.MethodName) jdk_68_method_9_code (3 : Nat) (Option.none : Option Jvm.ClassFile.FieldType), Jvm.Cond.code ({ cls := "java/lang/AbstractStringBuilder", name := "newCapacity", desc := "(I)I" } : Jvm.MethodName) jdk_68_method_10_code (6 : Nat) (Option.some Jvm.ClassFile.FieldType.int), Jvm.Cond.code ({ cls := "jdk/internal/util/ArraysSupport", name := "newLength", desc := "(III)I" } : Jvm.MethodName) jdk_48_method_27_code (4 : Nat) (Option.some Jvm.ClassFile.FieldType.int), Jvm.Cond.code ({ cls := "java/lang/Math", name := "max", desc := "(II)I" } : Jvm.MethodName) jdk_29_method_65_code (2 : Nat) (Option.some Jvm.ClassFile.FieldType.int), Jvm.Cond.code ({ cls := "java/util/Arrays", name := "copyOf", desc := "([BI)[B" } : Jvm.MethodName) jdk_65_method_121_code (3 : Nat) (Option.some (Jvm.ClassFile.FieldType.array Jvm.ClassFile.FieldType.byte)), Jvm.Cond.code ({ cls := "java/lang/Math", name := "min", desc := "(II)I" } : Jvm.MethodName) jdk_29_method_69_code (2 : Nat) (Option.some Jvm.ClassFile.FieldType.int), Jvm.Cond.code ({ cls := "java/lang/AbstractStringBuilder", name := "putStringAt", desc := "(ILjava/lang/String;)V" } : Jvm.MethodName) jdk_68_method_73_code (3 : Nat) (Option.none : Option Jvm.ClassFile.FieldType), Jvm.Cond.code ({ cls := "java/lang/AbstractStringBuilder", name := "inflateIfNeededFor", desc := "(Ljava/lang/String;)V" } : Jvm.MethodName) jdk_68_method_71_code (2 : Nat) (Option.none : Option Jvm.ClassFile.FieldType), Jvm.Cond.code ({ cls := "java/lang/String", name := "getBytes", desc := "([BIB)V" } : Jvm.MethodName) jdk_42_method_147_code (4 : Nat) (Option.none : Option Jvm.ClassFile.FieldType), Jvm.Cond.code ({ cls := "java/lang/StringBuilder", name := "toString", desc := "()Ljava/lang/String;" } : Jvm.MethodName) jdk_67_method_42_code (1 : Nat) (Option.some (Jvm.ClassFile.FieldType.object "java/lang/String")), Jvm.Cond.code ({ cls := "java/lang/String", name := "<init>", desc := "(Ljava/lang/StringBuilder;)V" } : Jvm.MethodName) jdk_42_method_53_code (2 : Nat) (Option.none : Option Jvm.ClassFile.FieldType), Jvm.Cond.code ({ cls := "java/lang/String", name := "<init>", desc := "(Ljava/lang/AbstractStringBuilder;Ljava/lang/Void;)V" } : Jvm.MethodName) jdk_42_method_150_code (5 : Nat) (Option.none : Option Jvm.ClassFile.FieldType), Jvm.Cond.code ({ cls := "java/lang/AbstractStringBuilder", name := "getValue", desc := "()[B" } : Jvm.MethodName) jdk_68_method_64_code (1 : Nat) (Option.some (Jvm.ClassFile.FieldType.array Jvm.ClassFile.FieldType.byte)), Jvm.Cond.code ({ cls := "java/lang/StringBuilder", name := "length", desc := "()I" } : Jvm.MethodName) jdk_67_method_93_code (1 : Nat) (Option.some Jvm.ClassFile.FieldType.int), Jvm.Cond.code ({ cls := "java/lang/AbstractStringBuilder", name := "length", desc := "()I" } : Jvm.MethodName) jdk_68_method_6_code (1 : Nat) (Option.some Jvm.ClassFile.FieldType.int), Jvm.Cond.code ({ cls := "java/lang/AbstractStringBuilder", name := "isLatin1", desc := "()Z" } : Jvm.MethodName) jdk_68_method_68_code (1 : Nat) (Option.some Jvm.ClassFile.FieldType.boolean), Jvm.Cond.code ({ cls := "java/util/Arrays", name := "copyOfRange", desc := "([BII)[B" } : Jvm.MethodName) jdk_65_method_132_code (3 : Nat) (Option.some (Jvm.ClassFile.FieldType.array Jvm.ClassFile.FieldType.byte)), Jvm.Cond.code ({ cls := "java/util/Arrays", name := "copyOfRangeByte", desc := "([BII)[B" } : Jvm.MethodName) jdk_65_method_133_code (5 : Nat) (Option.some (Jvm.ClassFile.FieldType.array Jvm.ClassFile.FieldType.byte)), Jvm.Cond.code ({ cls := "java/util/Arrays", name := "checkLength", desc := "(II)V" } : Jvm.MethodName) jdk_65_method_131_code (2 : Nat) (Option.none : Option Jvm.ClassFile.FieldType), Jvm.Cond.code ({ cls := "com/example/orbweaver/orbweaver/mapping/JavaSource", name := "line", desc := "(Ljava/lang/String;)Lcom/example/orbweaver/orbweaver/mapping/JavaSource;" } : Jvm.MethodName) prog_171_method_2_code (2 : Nat) (Option.some (Jvm.ClassFile.FieldType.object "com/example/orbweaver/orbweaver/mapping/JavaSource")), Jvm.Cond.code ({ cls := "java/lang/String", name := "repeat", desc := "(I)Ljava/lang/String;" } : Jvm.MethodName) jdk_42_method_145_code (5 : Nat) (Option.some (Jvm.ClassFile.FieldType.object "java/lang/String")), Jvm.Cond.code ({ cls := "java/lang/StringBuilder", name := "append", desc := "(C)Ljava/lang/StringBuilder;" } : Jvm.MethodName) jdk_67_method_14_code (2 : Nat) (Option.some (Jvm.ClassFile.FieldType.object "java/lang/StringBuilder")), Jvm.Cond.code ({ cls := "java/lang/AbstractStringBuilder", name := "append", desc := "(C)Ljava/lang/AbstractStringBuilder;" } : Jvm.MethodName) jdk_68_method_31_code (2 : Nat) (Option.some (Jvm.ClassFile.FieldType.object "java/lang/AbstractStringBuilder")), Jvm.Cond.code ({ cls := "java/lang/String", name := "isEmpty", desc := "()Z" } : Jvm.MethodName) jdk_42_method_55_code (1 : Nat) (Option.some Jvm.ClassFile.FieldType.boolean), Jvm.Cond.code ({ cls := "com/example/orbweaver/orbweaver/mapping/JavaSource", name := "blank", desc := "()Lcom/example/orbweaver/orbweaver/mapping/JavaSource;" } : Jvm.MethodName) prog_171_method_4_code (1 : Nat) (Option.some (Jvm.ClassFile.FieldType.object "com/example/orbweaver/orbweaver/mapping/JavaSource")), Jvm.Cond.code ({ cls := "com/example/orbweaver/orbweaver/mapping/JavaSource", name := "toString", desc := "()Ljava/lang/String;" } : Jvm.MethodName) prog_171_method_10_code (1 : Nat) (Option.some (Jvm.ClassFile.FieldType.object "java/lang/String")), Jvm.Cond.code ({ cls := "com/example/orbweaver/orbweaver/mapping/JavaSource", name := "deeper", desc := "(I)Lcom/example/orbweaver/orbweaver/mapping/JavaSource;" } : Jvm.MethodName) prog_171_method_8_code (2 : Nat) (Option.some (Jvm.ClassFile.FieldType.object "com/example/orbweaver/orbweaver/mapping/JavaSource")), Jvm.Cond.code ({ cls := "java/lang/String", name := "equals", desc := "(Ljava/lang/Object;)Z" } : Jvm.MethodName) jdk_42_method_66_code (3 : Nat) (Option.some Jvm.ClassFile.FieldType.boolean), Jvm.Cond.code ({ cls := "java/lang/StringLatin1", name := "equals", desc := "([B[B)Z" } : Jvm.MethodName) jdk_43_method_13_code (3 : Nat) (Option.some Jvm.ClassFile.FieldType.boolean), Jvm.Cond.code ({ cls := "java/lang/String", name := "repeatCopyRest", desc := "([BIII)V" } : Jvm.MethodName) jdk_42_method_146_code (4 : Nat) (Option.none : Option Jvm.ClassFile.FieldType), Jvm.Cond.code ({ cls := "com/example/orbweaver/orbweaver/mapping/JavaSourceDeeperPinLaw", name := "at", desc := "(Ljava/lang/String;IIIC)Z" } : Jvm.MethodName) method_2_code (6 : Nat) (Option.some Jvm.ClassFile.FieldType.boolean), Jvm.Cond.code ({ cls := "java/lang/String", name := "charAt", desc := "(I)C" } : Jvm.MethodName) jdk_42_method_56_code (2 : Nat) (Option.some Jvm.ClassFile.FieldType.char), Jvm.Cond.code ({ cls := "java/lang/String", name := "isLatin1", desc := "()Z" } : Jvm.MethodName) jdk_42_method_154_code (1 : Nat) (Option.some Jvm.ClassFile.FieldType.boolean), Jvm.Cond.code ({ cls := "java/lang/StringLatin1", name := "charAt", desc := "([BI)C" } : Jvm.MethodName) jdk_43_method_2_code (2 : Nat) (Option.some Jvm.ClassFile.FieldType.char), Jvm.Cond.code ({ cls := "java/lang/String", name := "checkIndex", desc := "(II)V" } : Jvm.MethodName) jdk_42_method_155_code (2 : Nat) (Option.none : Option Jvm.ClassFile.FieldType), Jvm.Cond.code ({ cls := "jdk/internal/util/Preconditions", name := "checkIndex", desc := "(IILjava/util/function/BiFunction;)I" } : Jvm.MethodName) jdk_41_method_11_code (3 : Nat) (Option.some Jvm.ClassFile.FieldType.int), Jvm.Cond.code ({ cls := "com/example/orbweaver/orbweaver/mapping/JavaSource", name := "open", desc := "(Ljava/lang/String;)Lcom/example/orbweaver/orbweaver/mapping/JavaSource;" } : Jvm.MethodName) prog_171_method_5_code (2 : Nat) (Option.some (Jvm.ClassFile.FieldType.object "com/example/orbweaver/orbweaver/mapping/JavaSource"))]
set_option maxRecDepth 65536 in
theorem codes_eq : words1.filter isCode = codes1 := rfl
theorem w_codes : ∀ c ∈ words1.filter isCode, c.before args0 about1 = true := by
  rw [codes_eq]
  intro c hc
  simp only [codes1, List.mem_cons, List.not_mem_nil, or_false] at hc
  rcases hc with rfl | rfl | rfl | rfl | rfl | rfl | rfl | rfl | rfl | rfl | rfl | rfl | rfl | rfl | rfl | rfl | rfl | rfl | rfl | rfl | rfl | rfl | rfl | rfl | rfl | rfl | rfl | rfl | rfl | rfl | rfl | rfl | rfl | rfl | rfl | rfl | rfl | rfl | rfl | rfl | rfl | rfl | rfl | rfl | rfl | rfl | rfl | rfl | rfl | rfl
  · exact w_c0
  · exact w_c1
  · exact w_c2
  · exact w_c3
  · exact w_c4
  · exact w_c5
  · exact w_c6
  · exact w_c7
  · exact w_c8
  · exact w_c9
  · exact w_c10
  · exact w_c11
  · exact w_c12
  · exact w_c13
  · exact w_c14
  · exact w_c15
  · exact w_c16
  · exact w_c17
  · exact w_c18
  · exact w_c19
  · exact w_c20
  · exact w_c21
  · exact w_c22
  · exact w_c23
  · exact w_c24
  · exact w_c25
  · exact w_c26
  · exact w_c27
  · exact w_c28
  · exact w_c29
  · exact w_c30
  · exact w_c31
  · exact w_c32
  · exact w_c33
  · exact w_c34
  · exact w_c35
  · exact w_c36
  · exact w_c37
  · exact w_c38
  · exact w_c39
  · exact w_c40
  · exact w_c41
  · exact w_c42
  · exact w_c43
  · exact w_c44
  · exact w_c45
  · exact w_c46
  · exact w_c47
  · exact w_c48
  · exact w_c49
set_option maxRecDepth 65536 in
theorem w_t1 : (words1.take 24).all (fun c => isCode c || c.before args0 about1) = true := by decide +kernel
set_option maxRecDepth 65536 in
theorem w_t2 : ((words1.drop 24).take 24).all (fun c => isCode c || c.before args0 about1) = true := by decide +kernel
set_option maxRecDepth 65536 in
theorem w_t3 : (((words1.drop 24).drop 24).take 24).all (fun c => isCode c || c.before args0 about1) = true := by decide +kernel
set_option maxRecDepth 65536 in
theorem w_t4 : ((((words1.drop 24).drop 24).drop 24).take 24).all (fun c => isCode c || c.before args0 about1) = true := by decide +kernel
set_option maxRecDepth 65536 in
theorem w_t5 : (((((words1.drop 24).drop 24).drop 24).drop 24).take 24).all (fun c => isCode c || c.before args0 about1) = true := by decide +kernel
set_option maxRecDepth 65536 in
theorem w_t6 : ((((((words1.drop 24).drop 24).drop 24).drop 24).drop 24).take 24).all (fun c => isCode c || c.before args0 about1) = true := by decide +kernel
set_option maxRecDepth 65536 in
theorem w_t7 : (((((((words1.drop 24).drop 24).drop 24).drop 24).drop 24).drop 24).take 24).all (fun c => isCode c || c.before args0 about1) = true := by decide +kernel
set_option maxRecDepth 65536 in
theorem w_t8 : ((((((((words1.drop 24).drop 24).drop 24).drop 24).drop 24).drop 24).drop 24).take 24).all (fun c => isCode c || c.before args0 about1) = true := by decide +kernel
set_option maxRecDepth 65536 in
theorem w_t9 : (((((((((words1.drop 24).drop 24).drop 24).drop 24).drop 24).drop 24).drop 24).drop 24).take 24).all (fun c => isCode c || c.before args0 about1) = true := by decide +kernel
set_option maxRecDepth 65536 in
theorem w_t10 : ((((((((((words1.drop 24).drop 24).drop 24).drop 24).drop 24).drop 24).drop 24).drop 24).drop 24).take 24).all (fun c => isCode c || c.before args0 about1) = true := by decide +kernel
set_option maxRecDepth 65536 in
theorem w_t11 : ((((((((((words1.drop 24).drop 24).drop 24).drop 24).drop 24).drop 24).drop 24).drop 24).drop 24).drop 24).all (fun c => isCode c || c.before args0 about1) = true := by decide +kernel
theorem w_tables : (allAtoms (Jvm.Cond.code x code maxLocals ret :: tables_1)).before args0 about1 = true := by
  rw [allAtoms_all]
  show words1.all (fun c => c.before args0 about1) = true
  refine all_split ?_ w_codes
  rw [← List.take_append_drop 24 words1, List.all_append, w_t1, ← List.take_append_drop 24 (words1.drop 24), List.all_append, w_t2, ← List.take_append_drop 24 ((words1.drop 24).drop 24), List.all_append, w_t3, ← List.take_append_drop 24 (((words1.drop 24).drop 24).drop 24), List.all_append, w_t4, ← List.take_append_drop 24 ((((words1.drop 24).drop 24).drop 24).drop 24), List.all_append, w_t5, ← List.take_append_drop 24 (((((words1.drop 24).drop 24).drop 24).drop 24).drop 24), List.all_append, w_t6, ← List.take_append_drop 24 ((((((words1.drop 24).drop 24).drop 24).drop 24).drop 24).drop 24), List.all_append, w_t7, ← List.take_append_drop 24 (((((((words1.drop 24).drop 24).drop 24).drop 24).drop 24).drop 24).drop 24), List.all_append, w_t8, ← List.take_append_drop 24 ((((((((words1.drop 24).drop 24).drop 24).drop 24).drop 24).drop 24).drop 24).drop 24), List.all_append, w_t9, ← List.take_append_drop 24 (((((((((words1.drop 24).drop 24).drop 24).drop 24).drop 24).drop 24).drop 24).drop 24).drop 24), List.all_append, w_t10, w_t11]
  rfl
set_option maxRecDepth 65536 in
theorem w_rest : rest_1_c.before args0 about1 = true := by decide +kernel
set_option maxRecDepth 65536 in
theorem w_case : (Jvm.Cond.and given_1 narrow_1).before args0 about1 = true := by decide +kernel
set_option maxRecDepth 65536 in
theorem w_consts : constsHeld consts_1 about1 := Jvm.Lit.constsHeldB_iff.mp (by decide +kernel)
theorem w_applies : (headSpec (Jvm.Cond.code x code maxLocals ret :: tables_1) room_1).applies x e0.platform about1 = true :=
  (Spec.applies_iff w_frames).mpr ⟨w_running, w_runnable, w_alone, w_named, w_hears, w_ripe, w_room, w_tables⟩
theorem atStart : AtStart classFile x code maxLocals ret World_1 tables_1 room_1 Calls_1 rest_1 Pre_1 launch0 p0 e0 about1 theMethod args0 below0 :=
  ⟨lists_1, trivial, launch0.admits_env _ _ _, launch0.least_env, fairChoices_fair.cas, fairChoices_fair.clock, w_frames, w_args, w_heap, w_applies, ⟨w_consts, trivial⟩, w_rest, w_case⟩
end start1
theorem witness_1 : WitnessClaimed_1 := ⟨start1.p0, start1.e0, start1.about1, start1.theMethod, start1.args0, start1.below0, start1.atStart⟩
end Jvm.Pilot.@@N@@
