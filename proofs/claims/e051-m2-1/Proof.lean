import JvmDerived
import JvmDerived.Pilot.@@N@@Statement
import JvmDerived.Pilot.@@N@@Code
set_option linter.unusedVariables false
set_option linter.unusedSimpArgs false
namespace Jvm.Pilot.@@N@@
open Jvm Jvm.ClassFile Sem Op Lib Jvm.Free Jvm.Stand Jvm.LawKit Jvm.RoadKit Bundle Jvm.Pilot.@@N@@.Jvm.D
theorem own_keq {h0 h h' : Heap} {ws : List Addr} (e : h' = h) (K : Keep h0 h ws) : Keep h0 h' ws := e ▸ K

theorem own_nf {a0 args : Array Value} {s Z : State} {C : String} {y0 z y : MethodName} (h : (Cond.selects C y0 z).before args s = true) (e : z.cls = y.cls) : NotFace s y := fun r0 h0 => by
  obtain ⟨c2, r2, m2, q1, q2, q3, q4, kP, hkP, hkPi⟩ := Cond.selects_spec h
  have e1 := findClass_of_methodNamed q3
  have e2 := findClass_of_methodNamed h0
  rw [e, e2] at e1
  exact ⟨kP, (Option.some.inj e1) ▸ hkP, hkPi⟩
theorem own_gc {p : Program} {l : Launch} {e : Env} {R : Room} {s : State} {m : MethodId} {args : Array Value} {below : List Frame} {meth : Method} {c : Code} {T : State} {locs : List Loc} {cells slots : Nat} {Z : State} {a0 : Array Value} {h : Heap} {a : Addr}
    (X : Stand p l e R s m args below meth c T locs cells slots) (hx : p.tables.exec = Jvm.exec) (hZ : Z.Warmed39 s.vm) {own C : String} {index : Nat} (hown : s.vm.findClass own = some m.cls)
    (w1 : (Cond.methodLink own index ⟨"java/lang/Object", "getClass", "()Ljava/lang/Class;"⟩).before a0 Z = true) (w2 : (Cond.declares ⟨"java/lang/Object", "getClass", "()Ljava/lang/Class;"⟩).before a0 Z = true) (w4 : (Cond.selects C ⟨"java/lang/Object", "getClass", "()Ljava/lang/Class;"⟩ ⟨"java/lang/Object", "getClass", "()Ljava/lang/Class;"⟩).before a0 Z = true)
    (w5 : (Cond.instanceMethod ⟨"java/lang/Object", "getClass", "()Ljava/lang/Class;"⟩).before a0 Z = true) (w6 : (Cond.native ⟨"java/lang/Object", "getClass", "()Ljava/lang/Class;"⟩).before a0 Z = true) (eT : T.heap = h) (E : Exa Z h a C) {mr : Addr} (M : ∃ (c : ClassId) (k : Class), Z.vm.findClass C = some c ∧ Z.vm.classes[c]? = some k ∧ k.mirror = some mr)
    {g : JFrame} (hg : g.method = m) (hsize : g.locals.size = c.maxLocals) {rest : List Value} (hs : g.stack = .ref a :: rest) (hd : decode c.code g.pc = .ok (.invokevirtual index, 3)) (hf : 1 ≤ R.frames) {W : Nat} (hW : 2 * g.monitorRoom + (rest.map fun v => v.category).sum ≤ W) (hl : W + (nativeFrameWords "java/lang/Object" "getClass" 1 + 11) ≤ R.locals) :
    ∃ T', Stand p l e R s m args below meth c T' locs cells slots ∧ T'.heap = h ∧ ∀ target, Steps p.tables e below (T'.setTop { g with pc := g.pc + 3, stack := .ref mr :: rest }) target → Steps p.tables e below (T.setTop g) target := by
  obtain ⟨cB, kB, i1, i2, i3⟩ := isOf hZ eT E
  obtain ⟨cc, kc, m1, m2, m3⟩ := M
  rw [hZ.alike.findClass] at i1
  cases i1.symm.trans m1
  obtain ⟨k', q, ek⟩ := hZ.alike.2.2 _ _ m2
  obtain ⟨vm', X', st⟩ := X.getClassOf hx hown (mvT hZ w1) (mvT hZ w2) (notFace_of_selects (args := #[]) (mvT hZ w4)) (mvT hZ w4) (mvT hZ w5) (mvT hZ w6) (by rw [hZ.alike.findClass]; exact m1) i3 q (by rw [ek]; exact m3) hg hsize hs hd hf (by omega)
  exact ⟨_, X', eT, st⟩
theorem ef_of0 (m : MethodId) (x0 : Int32) : entryFrame m #[(.int x0)] 1 = mkF m 0 #[.val (.int x0)] [] := by (first | (simp [entryFrame, mkF, argsToLocals, Value.category]; done) | rfl)
def Qof0 (Z : State) (aR : Addr) (h0 : Heap) (n0 : Nat) (v : Option Value) (h : Heap) (L : List Loc) : Prop := v = some (.ref aR) ∧ Fr n0 L ∧ h = h0
theorem pn_com_example_formal_model_bench_formalmodelbench_engine_BoolValue : plainName "com/example/formal_model_bench/formalmodelbench/engine/BoolValue" = true := by first | (simp [plainName, overriddenIn]; done) | decide +kernel
theorem d1_0 : decode prog_6_method_2_code 0 = .ok (.iload_n 0, 1) := by decide +kernel
theorem d1_1 : decode prog_6_method_2_code 1 = .ok (.ifCond .eq 9, 3) := by decide +kernel
theorem d1_10 : decode prog_6_method_2_code 10 = .ok (.getstatic 17, 3) := by decide +kernel
theorem d1_13 : decode prog_6_method_2_code 13 = .ok (.areturn, 1) := by decide +kernel
set_option maxRecDepth 65536 in
set_option maxHeartbeats 40000000 in
theorem rmof0 (l : Launch) (Z : State) (a0 : Array Value) (hw : ∀ d ∈ tables_1, d.before a0 Z = true) (ws : List Jvm.Cond) (aR : Addr) (h0 : Heap) (n0 : Nat) (Z0 : n0 ≤ h0.size) (S : Sta Z h0 "com/example/formal_model_bench/formalmodelbench/engine/BoolValue" "FALSE" "Lcom/example/formal_model_bench/formalmodelbench/engine/BoolValue;" (.ref aR)) :
    MetFree l (⟨"com/example/formal_model_bench/formalmodelbench/engine/BoolValue", "of", "(Z)Lcom/example/formal_model_bench/formalmodelbench/engine/BoolValue;"⟩ : MethodName) (head1 (Jvm.Cond.code (⟨"com/example/formal_model_bench/formalmodelbench/engine/BoolValue", "of", "(Z)Lcom/example/formal_model_bench/formalmodelbench/engine/BoolValue;"⟩ : MethodName) prog_6_method_2_code 1 (some (.object "com/example/formal_model_bench/formalmodelbench/engine/BoolValue")) :: ws) ({ frames := 0, cells := 0, slots := 0, locals := 0 } : Room)) (fun a U => a = #[(.int (0 : Int32))] ∧ Z.Warmed39 U.vm ∧ U.heap = h0) (fun _ _ _ _ _ => True) (fun _ U o U' => ∃ v L, o = .returned v ∧ Qof0 Z aR h0 n0 v U'.heap L ∧ FrameEnd U o U' L ({ frames := 0, cells := 0, slots := 0, locals := 0 } : Room).cells ({ frames := 0, cells := 0, slots := 0, locals := 0 } : Room).slots) := by
  refine MetFree.of_bodySF (plainFor_of_name pn_com_example_formal_model_bench_formalmodelbench_engine_BoolValue) hisR ?_
  intro p e s m args below meth c s₁ Bd hml0 hP hK
  obtain ⟨rfl, hZ, hh⟩ := hP
  have hx := Bd.exec
  have hby := Bd.bytes
  have hml : c.maxLocals = 1 := hml0
  have hown : s.vm.findClass "com/example/formal_model_bench/formalmodelbench/engine/BoolValue" = some m.cls := findClass_of_methodNamed Bd.named
  have hnm := (name_of_methodNamed Bd.named Bd.method).1
  have X0 : Stand p l e ({ frames := 0, cells := 0, slots := 0, locals := 0 } : Room) s m #[(.int (0 : Int32))] below meth c s₁ [] 0 0 := Stand.of_body Bd
  have e0 : s₁.heap = h0 := by rw [← hh, Bd.state]; rfl
  have N0 := Fr.nil n0
  have pre0 : ∀ t, Steps p.tables e below (s₁.setTop (mkF m 0 #[.val (.int (0 : Int32))] [])) t → Steps p.tables e below (s₁.setTop (entryFrame m #[(.int (0 : Int32))] 1)) t := fun t k => castTop (ef_of0 m (0 : Int32)) k
  obtain ⟨T1, X1, e1, st1⟩ := getS2 X0 hx hZ hown (host := "") (Or.inl (hw _ (List.mem_of_getElem? (i := 4) rfl))) Via.refl e0 S (g := (mkF m 10 #[.val (.int (0 : Int32))] [])) rfl (hb hby d1_10)
  have pre2 : ∀ t, Steps p.tables e below (T1.setTop (mkF m 13 #[.val (.int (0 : Int32))] [(.ref aR)])) t → Steps p.tables e below (s₁.setTop (mkF m 0 #[.val (.int (0 : Int32))] [])) t := by
    intro t kt
    show Steps p.tables e below (s₁.setTop (mkF m 0 #[.val (.int (0 : Int32))] [])) _
    refine XS.iloadN X0.here hx rfl (hb hby d1_0) rfl ?_
    show Steps p.tables e below (s₁.setTop (mkF m 1 #[.val (.int (0 : Int32))] [(.int (0 : Int32))])) _
    refine XS.ifYes X0.here hx rfl (pc0 := 1) (pc' := 10) rfl (hb hby d1_1) rfl ((if0 _ _).trans (teq (rfl : (0 : Int32) = (0 : Int32))).1) (by decide) (by decide) ?_
    show Steps p.tables e below (s₁.setTop (mkF m 10 #[.val (.int (0 : Int32))] [])) _
    refine st1 _ ?_
    exact kt
  obtain ⟨fs, hr, hrun, hended, hW, hsame⟩ := X1.leave (v := some (.ref aR)) (fun h => by rw [Bd.returns] at h; cases h)
  refine ⟨_, _, (pre0 _ (pre2 _ ?_)), hrun, hended, _, _, rfl, ?_, ⟨_, rfl⟩, hW, hsame.mono (by decide) (by decide)⟩
  · show Steps p.tables e below (T1.setTop (mkF m 13 #[.val (.int (0 : Int32))] [(.ref aR)])) _
    exact retOut X1 hx (t := (.object "com/example/formal_model_bench/formalmodelbench/engine/BoolValue")) Bd.returns rfl (Or.inr (Or.inr (Or.inr (Or.inr ⟨rfl, rfl, rfl⟩)))) (hb hby d1_13) hr
  · show Qof0 Z aR h0 n0 _ T1.heap _
    rw [e1]
    exact ⟨rfl, N0, rfl⟩
theorem ef_val0 (m : MethodId) (x0 : Addr) : entryFrame m #[(.ref x0)] 1 = mkF m 0 #[.val (.ref x0)] [] := by (first | (simp [entryFrame, mkF, argsToLocals, Value.category]; done) | rfl)
def Qval0 (Z : State) (a1 : Addr) (h0 : Heap) (n0 : Nat) (v : Option Value) (h : Heap) (L : List Loc) : Prop := v = some (.int (0 : Int32)) ∧ Fr n0 L ∧ h = h0
theorem d2_0 : decode prog_6_method_3_code 0 = .ok (.aload_n 0, 1) := by decide +kernel
theorem d2_1 : decode prog_6_method_3_code 1 = .ok (.getfield 7, 3) := by decide +kernel
theorem d2_4 : decode prog_6_method_3_code 4 = .ok (.ireturn, 1) := by decide +kernel
set_option maxRecDepth 65536 in
set_option maxHeartbeats 40000000 in
theorem rmval0 (l : Launch) (Z : State) (a0 : Array Value) (hw : ∀ d ∈ tables_1, d.before a0 Z = true) (ws : List Jvm.Cond) (a1 : Addr) (h0 : Heap) (n0 : Nat) (Z0 : n0 ≤ h0.size) (F : Fld Z h0 a1 "com/example/formal_model_bench/formalmodelbench/engine/BoolValue" "value" "Z" (.int (0 : Int32))) :
    MetFree l (⟨"com/example/formal_model_bench/formalmodelbench/engine/BoolValue", "value", "()Z"⟩ : MethodName) (head1 (Jvm.Cond.code (⟨"com/example/formal_model_bench/formalmodelbench/engine/BoolValue", "value", "()Z"⟩ : MethodName) prog_6_method_3_code 1 (some .boolean) :: ws) ({ frames := 0, cells := 0, slots := 0, locals := 0 } : Room)) (fun a U => a = #[(.ref a1)] ∧ Z.Warmed39 U.vm ∧ U.heap = h0) (fun _ _ _ _ _ => True) (fun _ U o U' => ∃ v L, o = .returned v ∧ Qval0 Z a1 h0 n0 v U'.heap L ∧ FrameEnd U o U' L ({ frames := 0, cells := 0, slots := 0, locals := 0 } : Room).cells ({ frames := 0, cells := 0, slots := 0, locals := 0 } : Room).slots) := by
  refine MetFree.of_bodySF (plainFor_of_name pn_com_example_formal_model_bench_formalmodelbench_engine_BoolValue) hisR ?_
  intro p e s m args below meth c s₁ Bd hml0 hP hK
  obtain ⟨rfl, hZ, hh⟩ := hP
  have hx := Bd.exec
  have hby := Bd.bytes
  have hml : c.maxLocals = 1 := hml0
  have hown : s.vm.findClass "com/example/formal_model_bench/formalmodelbench/engine/BoolValue" = some m.cls := findClass_of_methodNamed Bd.named
  have hnm := (name_of_methodNamed Bd.named Bd.method).1
  have X0 : Stand p l e ({ frames := 0, cells := 0, slots := 0, locals := 0 } : Room) s m #[(.ref a1)] below meth c s₁ [] 0 0 := Stand.of_body Bd
  have e0 : s₁.heap = h0 := by rw [← hh, Bd.state]; rfl
  have N0 := Fr.nil n0
  have pre0 : ∀ t, Steps p.tables e below (s₁.setTop (mkF m 0 #[.val (.ref a1)] [])) t → Steps p.tables e below (s₁.setTop (entryFrame m #[(.ref a1)] 1)) t := fun t k => castTop (ef_val0 m a1) k
  obtain ⟨T3, X3, e3, st3⟩ := getF X0 hx hZ hown (host := "") (Or.inl (hw _ (List.mem_of_getElem? (i := 13) rfl))) Via.refl e0 F (g := (mkF m 1 #[.val (.ref a1)] [(.ref a1)])) rfl rfl (hb hby d2_1)
  have pre4 : ∀ t, Steps p.tables e below (T3.setTop (mkF m 4 #[.val (.ref a1)] [(.int (0 : Int32))])) t → Steps p.tables e below (s₁.setTop (mkF m 0 #[.val (.ref a1)] [])) t := by
    intro t kt
    show Steps p.tables e below (s₁.setTop (mkF m 0 #[.val (.ref a1)] [])) _
    refine XS.aloadN X0.here hx rfl (hb hby d2_0) rfl rfl ?_
    show Steps p.tables e below (s₁.setTop (mkF m 1 #[.val (.ref a1)] [(.ref a1)])) _
    refine st3 _ ?_
    exact kt
  obtain ⟨fs, hr, hrun, hended, hW, hsame⟩ := X3.leave (v := some (.int (0 : Int32))) (fun h => by rw [Bd.returns] at h; cases h)
  refine ⟨_, _, (pre0 _ (pre4 _ ?_)), hrun, hended, _, _, rfl, ?_, ⟨_, rfl⟩, hW, hsame.mono (by decide) (by decide)⟩
  · show Steps p.tables e below (T3.setTop (mkF m 4 #[.val (.ref a1)] [(.int (0 : Int32))])) _
    exact retN X3 hx (t := .boolean) Bd.returns (by simp) (hb hby d2_4) hr
  · show Qval0 Z a1 h0 n0 _ T3.heap _
    rw [e3]
    exact ⟨rfl, N0, rfl⟩
theorem ef_of1 (m : MethodId) (x0 : Int32) : entryFrame m #[(.int x0)] 1 = mkF m 0 #[.val (.int x0)] [] := by (first | (simp [entryFrame, mkF, argsToLocals, Value.category]; done) | rfl)
def Qof1 (Z : State) (aR : Addr) (h0 : Heap) (n0 : Nat) (v : Option Value) (h : Heap) (L : List Loc) : Prop := v = some (.ref aR) ∧ Fr n0 L ∧ h = h0
theorem d1_4 : decode prog_6_method_2_code 4 = .ok (.getstatic 13, 3) := by decide +kernel
theorem d1_7 : decode prog_6_method_2_code 7 = .ok (.goto 6, 3) := by decide +kernel
set_option maxRecDepth 65536 in
set_option maxHeartbeats 40000000 in
theorem rmof1 (l : Launch) (Z : State) (a0 : Array Value) (hw : ∀ d ∈ tables_1, d.before a0 Z = true) (ws : List Jvm.Cond) (aR : Addr) (h0 : Heap) (n0 : Nat) (Z0 : n0 ≤ h0.size) (S : Sta Z h0 "com/example/formal_model_bench/formalmodelbench/engine/BoolValue" "TRUE" "Lcom/example/formal_model_bench/formalmodelbench/engine/BoolValue;" (.ref aR)) :
    MetFree l (⟨"com/example/formal_model_bench/formalmodelbench/engine/BoolValue", "of", "(Z)Lcom/example/formal_model_bench/formalmodelbench/engine/BoolValue;"⟩ : MethodName) (head1 (Jvm.Cond.code (⟨"com/example/formal_model_bench/formalmodelbench/engine/BoolValue", "of", "(Z)Lcom/example/formal_model_bench/formalmodelbench/engine/BoolValue;"⟩ : MethodName) prog_6_method_2_code 1 (some (.object "com/example/formal_model_bench/formalmodelbench/engine/BoolValue")) :: ws) ({ frames := 0, cells := 0, slots := 0, locals := 0 } : Room)) (fun a U => a = #[(.int (1 : Int32))] ∧ Z.Warmed39 U.vm ∧ U.heap = h0) (fun _ _ _ _ _ => True) (fun _ U o U' => ∃ v L, o = .returned v ∧ Qof1 Z aR h0 n0 v U'.heap L ∧ FrameEnd U o U' L ({ frames := 0, cells := 0, slots := 0, locals := 0 } : Room).cells ({ frames := 0, cells := 0, slots := 0, locals := 0 } : Room).slots) := by
  refine MetFree.of_bodySF (plainFor_of_name pn_com_example_formal_model_bench_formalmodelbench_engine_BoolValue) hisR ?_
  intro p e s m args below meth c s₁ Bd hml0 hP hK
  obtain ⟨rfl, hZ, hh⟩ := hP
  have hx := Bd.exec
  have hby := Bd.bytes
  have hml : c.maxLocals = 1 := hml0
  have hown : s.vm.findClass "com/example/formal_model_bench/formalmodelbench/engine/BoolValue" = some m.cls := findClass_of_methodNamed Bd.named
  have hnm := (name_of_methodNamed Bd.named Bd.method).1
  have X0 : Stand p l e ({ frames := 0, cells := 0, slots := 0, locals := 0 } : Room) s m #[(.int (1 : Int32))] below meth c s₁ [] 0 0 := Stand.of_body Bd
  have e0 : s₁.heap = h0 := by rw [← hh, Bd.state]; rfl
  have N0 := Fr.nil n0
  have pre0 : ∀ t, Steps p.tables e below (s₁.setTop (mkF m 0 #[.val (.int (1 : Int32))] [])) t → Steps p.tables e below (s₁.setTop (entryFrame m #[(.int (1 : Int32))] 1)) t := fun t k => castTop (ef_of1 m (1 : Int32)) k
  obtain ⟨T5, X5, e5, st5⟩ := getS2 X0 hx hZ hown (host := "") (Or.inl (hw _ (List.mem_of_getElem? (i := 6) rfl))) Via.refl e0 S (g := (mkF m 4 #[.val (.int (1 : Int32))] [])) rfl (hb hby d1_4)
  have pre6 : ∀ t, Steps p.tables e below (T5.setTop (mkF m 13 #[.val (.int (1 : Int32))] [(.ref aR)])) t → Steps p.tables e below (s₁.setTop (mkF m 0 #[.val (.int (1 : Int32))] [])) t := by
    intro t kt
    show Steps p.tables e below (s₁.setTop (mkF m 0 #[.val (.int (1 : Int32))] [])) _
    refine XS.iloadN X0.here hx rfl (hb hby d1_0) rfl ?_
    show Steps p.tables e below (s₁.setTop (mkF m 1 #[.val (.int (1 : Int32))] [(.int (1 : Int32))])) _
    refine XS.ifNo X0.here hx rfl (hb hby d1_1) rfl ((if0 _ _).trans (feq (by decide : ¬ ((1 : Int32) = (0 : Int32)))).1) ?_
    show Steps p.tables e below (s₁.setTop (mkF m 4 #[.val (.int (1 : Int32))] [])) _
    refine st5 _ ?_
    show Steps p.tables e below (T5.setTop (mkF m 7 #[.val (.int (1 : Int32))] [(.ref aR)])) _
    refine XS.goto X5.here hx rfl (pc0 := 7) (pc' := 13) rfl (hb hby d1_7) (by decide) (by decide) ?_
    exact kt
  obtain ⟨fs, hr, hrun, hended, hW, hsame⟩ := X5.leave (v := some (.ref aR)) (fun h => by rw [Bd.returns] at h; cases h)
  refine ⟨_, _, (pre0 _ (pre6 _ ?_)), hrun, hended, _, _, rfl, ?_, ⟨_, rfl⟩, hW, hsame.mono (by decide) (by decide)⟩
  · show Steps p.tables e below (T5.setTop (mkF m 13 #[.val (.int (1 : Int32))] [(.ref aR)])) _
    exact retOut X5 hx (t := (.object "com/example/formal_model_bench/formalmodelbench/engine/BoolValue")) Bd.returns rfl (Or.inr (Or.inr (Or.inr (Or.inr ⟨rfl, rfl, rfl⟩)))) (hb hby d1_13) hr
  · show Qof1 Z aR h0 n0 _ T5.heap _
    rw [e5]
    exact ⟨rfl, N0, rfl⟩
theorem ef_val1 (m : MethodId) (x0 : Addr) : entryFrame m #[(.ref x0)] 1 = mkF m 0 #[.val (.ref x0)] [] := by (first | (simp [entryFrame, mkF, argsToLocals, Value.category]; done) | rfl)
def Qval1 (Z : State) (a1 : Addr) (h0 : Heap) (n0 : Nat) (v : Option Value) (h : Heap) (L : List Loc) : Prop := v = some (.int (1 : Int32)) ∧ Fr n0 L ∧ h = h0
set_option maxRecDepth 65536 in
set_option maxHeartbeats 40000000 in
theorem rmval1 (l : Launch) (Z : State) (a0 : Array Value) (hw : ∀ d ∈ tables_1, d.before a0 Z = true) (ws : List Jvm.Cond) (a1 : Addr) (h0 : Heap) (n0 : Nat) (Z0 : n0 ≤ h0.size) (F : Fld Z h0 a1 "com/example/formal_model_bench/formalmodelbench/engine/BoolValue" "value" "Z" (.int (1 : Int32))) :
    MetFree l (⟨"com/example/formal_model_bench/formalmodelbench/engine/BoolValue", "value", "()Z"⟩ : MethodName) (head1 (Jvm.Cond.code (⟨"com/example/formal_model_bench/formalmodelbench/engine/BoolValue", "value", "()Z"⟩ : MethodName) prog_6_method_3_code 1 (some .boolean) :: ws) ({ frames := 0, cells := 0, slots := 0, locals := 0 } : Room)) (fun a U => a = #[(.ref a1)] ∧ Z.Warmed39 U.vm ∧ U.heap = h0) (fun _ _ _ _ _ => True) (fun _ U o U' => ∃ v L, o = .returned v ∧ Qval1 Z a1 h0 n0 v U'.heap L ∧ FrameEnd U o U' L ({ frames := 0, cells := 0, slots := 0, locals := 0 } : Room).cells ({ frames := 0, cells := 0, slots := 0, locals := 0 } : Room).slots) := by
  refine MetFree.of_bodySF (plainFor_of_name pn_com_example_formal_model_bench_formalmodelbench_engine_BoolValue) hisR ?_
  intro p e s m args below meth c s₁ Bd hml0 hP hK
  obtain ⟨rfl, hZ, hh⟩ := hP
  have hx := Bd.exec
  have hby := Bd.bytes
  have hml : c.maxLocals = 1 := hml0
  have hown : s.vm.findClass "com/example/formal_model_bench/formalmodelbench/engine/BoolValue" = some m.cls := findClass_of_methodNamed Bd.named
  have hnm := (name_of_methodNamed Bd.named Bd.method).1
  have X0 : Stand p l e ({ frames := 0, cells := 0, slots := 0, locals := 0 } : Room) s m #[(.ref a1)] below meth c s₁ [] 0 0 := Stand.of_body Bd
  have e0 : s₁.heap = h0 := by rw [← hh, Bd.state]; rfl
  have N0 := Fr.nil n0
  have pre0 : ∀ t, Steps p.tables e below (s₁.setTop (mkF m 0 #[.val (.ref a1)] [])) t → Steps p.tables e below (s₁.setTop (entryFrame m #[(.ref a1)] 1)) t := fun t k => castTop (ef_val1 m a1) k
  obtain ⟨T7, X7, e7, st7⟩ := getF X0 hx hZ hown (host := "") (Or.inl (hw _ (List.mem_of_getElem? (i := 13) rfl))) Via.refl e0 F (g := (mkF m 1 #[.val (.ref a1)] [(.ref a1)])) rfl rfl (hb hby d2_1)
  have pre8 : ∀ t, Steps p.tables e below (T7.setTop (mkF m 4 #[.val (.ref a1)] [(.int (1 : Int32))])) t → Steps p.tables e below (s₁.setTop (mkF m 0 #[.val (.ref a1)] [])) t := by
    intro t kt
    show Steps p.tables e below (s₁.setTop (mkF m 0 #[.val (.ref a1)] [])) _
    refine XS.aloadN X0.here hx rfl (hb hby d2_0) rfl rfl ?_
    show Steps p.tables e below (s₁.setTop (mkF m 1 #[.val (.ref a1)] [(.ref a1)])) _
    refine st7 _ ?_
    exact kt
  obtain ⟨fs, hr, hrun, hended, hW, hsame⟩ := X7.leave (v := some (.int (1 : Int32))) (fun h => by rw [Bd.returns] at h; cases h)
  refine ⟨_, _, (pre0 _ (pre8 _ ?_)), hrun, hended, _, _, rfl, ?_, ⟨_, rfl⟩, hW, hsame.mono (by decide) (by decide)⟩
  · show Steps p.tables e below (T7.setTop (mkF m 4 #[.val (.ref a1)] [(.int (1 : Int32))])) _
    exact retN X7 hx (t := .boolean) Bd.returns (by simp) (hb hby d2_4) hr
  · show Qval1 Z a1 h0 n0 _ T7.heap _
    rw [e7]
    exact ⟨rfl, N0, rfl⟩
theorem ef_kind (m : MethodId) (x0 : Addr) : entryFrame m #[(.ref x0)] 1 = mkF m 0 #[.val (.ref x0)] [] := by (first | (simp [entryFrame, mkF, argsToLocals, Value.category]; done) | rfl)
def Qkind (Z : State) (a1 : Addr) (aK : Addr) (h0 : Heap) (n0 : Nat) (v : Option Value) (h : Heap) (L : List Loc) : Prop := v = some (.ref aK) ∧ Fr n0 L ∧ h = h0
theorem d4_0 : decode prog_6_method_4_code 0 = .ok (.getstatic 20, 3) := by decide +kernel
theorem d4_3 : decode prog_6_method_4_code 3 = .ok (.areturn, 1) := by decide +kernel
set_option maxRecDepth 65536 in
set_option maxHeartbeats 40000000 in
theorem rmkind (l : Launch) (Z : State) (a0 : Array Value) (hw : ∀ d ∈ tables_1, d.before a0 Z = true) (ws : List Jvm.Cond) (a1 : Addr) (aK : Addr) (h0 : Heap) (n0 : Nat) (Z0 : n0 ≤ h0.size) (S : Sta Z h0 "com/example/formal_model_bench/formalmodelbench/engine/Value$Kind" "BOOL" "Lcom/example/formal_model_bench/formalmodelbench/engine/Value$Kind;" (.ref aK)) :
    MetFree l (⟨"com/example/formal_model_bench/formalmodelbench/engine/BoolValue", "kind", "()Lcom/example/formal_model_bench/formalmodelbench/engine/Value$Kind;"⟩ : MethodName) (head1 (Jvm.Cond.code (⟨"com/example/formal_model_bench/formalmodelbench/engine/BoolValue", "kind", "()Lcom/example/formal_model_bench/formalmodelbench/engine/Value$Kind;"⟩ : MethodName) prog_6_method_4_code 1 (some (.object "com/example/formal_model_bench/formalmodelbench/engine/Value$Kind")) :: ws) ({ frames := 0, cells := 0, slots := 0, locals := 0 } : Room)) (fun a U => a = #[(.ref a1)] ∧ Z.Warmed39 U.vm ∧ U.heap = h0) (fun _ _ _ _ _ => True) (fun _ U o U' => ∃ v L, o = .returned v ∧ Qkind Z a1 aK h0 n0 v U'.heap L ∧ FrameEnd U o U' L ({ frames := 0, cells := 0, slots := 0, locals := 0 } : Room).cells ({ frames := 0, cells := 0, slots := 0, locals := 0 } : Room).slots) := by
  refine MetFree.of_bodySF (plainFor_of_name pn_com_example_formal_model_bench_formalmodelbench_engine_BoolValue) hisR ?_
  intro p e s m args below meth c s₁ Bd hml0 hP hK
  obtain ⟨rfl, hZ, hh⟩ := hP
  have hx := Bd.exec
  have hby := Bd.bytes
  have hml : c.maxLocals = 1 := hml0
  have hown : s.vm.findClass "com/example/formal_model_bench/formalmodelbench/engine/BoolValue" = some m.cls := findClass_of_methodNamed Bd.named
  have hnm := (name_of_methodNamed Bd.named Bd.method).1
  have X0 : Stand p l e ({ frames := 0, cells := 0, slots := 0, locals := 0 } : Room) s m #[(.ref a1)] below meth c s₁ [] 0 0 := Stand.of_body Bd
  have e0 : s₁.heap = h0 := by rw [← hh, Bd.state]; rfl
  have N0 := Fr.nil n0
  have pre0 : ∀ t, Steps p.tables e below (s₁.setTop (mkF m 0 #[.val (.ref a1)] [])) t → Steps p.tables e below (s₁.setTop (entryFrame m #[(.ref a1)] 1)) t := fun t k => castTop (ef_kind m a1) k
  obtain ⟨T9, X9, e9, st9⟩ := getS2 X0 hx hZ hown (host := "") (Or.inl (hw _ (List.mem_of_getElem? (i := 28) rfl))) Via.refl e0 S (g := (mkF m 0 #[.val (.ref a1)] [])) rfl (hb hby d4_0)
  have pre10 : ∀ t, Steps p.tables e below (T9.setTop (mkF m 3 #[.val (.ref a1)] [(.ref aK)])) t → Steps p.tables e below (s₁.setTop (mkF m 0 #[.val (.ref a1)] [])) t := by
    intro t kt
    show Steps p.tables e below (s₁.setTop (mkF m 0 #[.val (.ref a1)] [])) _
    refine st9 _ ?_
    exact kt
  obtain ⟨fs, hr, hrun, hended, hW, hsame⟩ := X9.leave (v := some (.ref aK)) (fun h => by rw [Bd.returns] at h; cases h)
  refine ⟨_, _, (pre0 _ (pre10 _ ?_)), hrun, hended, _, _, rfl, ?_, ⟨_, rfl⟩, hW, hsame.mono (by decide) (by decide)⟩
  · show Steps p.tables e below (T9.setTop (mkF m 3 #[.val (.ref a1)] [(.ref aK)])) _
    exact retOut X9 hx (t := (.object "com/example/formal_model_bench/formalmodelbench/engine/Value$Kind")) Bd.returns rfl (Or.inr (Or.inr (Or.inr (Or.inr ⟨rfl, rfl, rfl⟩)))) (hb hby d4_3) hr
  · show Qkind Z a1 aK h0 n0 _ T9.heap _
    rw [e9]
    exact ⟨rfl, N0, rfl⟩
theorem ef_ec (m : MethodId) (x0 : Addr) (x1 : Addr) : entryFrame m #[(.ref x0), (.ref x1)] 4 = mkF m 0 #[.val (.ref x0), .val (.ref x1), .unset, .unset] [] := by (first | (simp [entryFrame, mkF, argsToLocals, Value.category]; done) | rfl)
def Qec (Z : State) (aK : Addr) (wo : Int32) (h0 : Heap) (n0 : Nat) (v : Option Value) (h : Heap) (L : List Loc) : Prop := v = some (.int (wo - wo)) ∧ Fr n0 L ∧ h = h0
theorem pn_java_lang_Enum : plainName "java/lang/Enum" = true := by first | (simp [plainName, overriddenIn]; done) | decide +kernel
theorem d5_0 : decode jdk_37_method_8_code 0 = .ok (.aload_n 1, 1) := by decide +kernel
theorem d5_1 : decode jdk_37_method_8_code 1 = .ok (.astore_n 2, 1) := by decide +kernel
theorem d5_2 : decode jdk_37_method_8_code 2 = .ok (.aload_n 0, 1) := by decide +kernel
theorem d5_3 : decode jdk_37_method_8_code 3 = .ok (.astore_n 3, 1) := by decide +kernel
theorem d5_4 : decode jdk_37_method_8_code 4 = .ok (.aload_n 3, 1) := by decide +kernel
theorem d5_5 : decode jdk_37_method_8_code 5 = .ok (.invokevirtual 29, 3) := by decide +kernel
theorem d5_8 : decode jdk_37_method_8_code 8 = .ok (.aload_n 2, 1) := by decide +kernel
theorem d5_9 : decode jdk_37_method_8_code 9 = .ok (.invokevirtual 29, 3) := by decide +kernel
theorem d5_12 : decode jdk_37_method_8_code 12 = .ok (.if_acmp .eq 22, 3) := by decide +kernel
theorem d5_34 : decode jdk_37_method_8_code 34 = .ok (.aload_n 3, 1) := by decide +kernel
theorem d5_35 : decode jdk_37_method_8_code 35 = .ok (.getfield 7, 3) := by decide +kernel
theorem d5_38 : decode jdk_37_method_8_code 38 = .ok (.aload_n 2, 1) := by decide +kernel
theorem d5_39 : decode jdk_37_method_8_code 39 = .ok (.getfield 7, 3) := by decide +kernel
theorem d5_42 : decode jdk_37_method_8_code 42 = .ok (.isub, 1) := by decide +kernel
theorem d5_43 : decode jdk_37_method_8_code 43 = .ok (.ireturn, 1) := by decide +kernel
set_option maxRecDepth 65536 in
set_option maxHeartbeats 40000000 in
theorem rmec (l : Launch) (Z : State) (a0 : Array Value) (hw : ∀ d ∈ tables_1, d.before a0 Z = true) (ws : List Jvm.Cond) (aK : Addr) (wo : Int32) (h0 : Heap) (n0 : Nat) (Z0 : n0 ≤ h0.size) (E : Exa Z h0 aK "com/example/formal_model_bench/formalmodelbench/engine/Value$Kind") (F : Fld Z h0 aK "java/lang/Enum" "ordinal" "I" (.int wo)) (M : MirrorMade Z "com/example/formal_model_bench/formalmodelbench/engine/Value$Kind") :
    MetFree l (⟨"java/lang/Enum", "compareTo", "(Ljava/lang/Enum;)I"⟩ : MethodName) (head1 (Jvm.Cond.code (⟨"java/lang/Enum", "compareTo", "(Ljava/lang/Enum;)I"⟩ : MethodName) jdk_37_method_8_code 4 (some .int) :: ws) ({ frames := 1, cells := 0, slots := 0, locals := 40 } : Room)) (fun a U => a = #[(.ref aK), (.ref aK)] ∧ Z.Warmed39 U.vm ∧ U.heap = h0) (fun _ _ _ _ _ => True) (fun _ U o U' => ∃ v L, o = .returned v ∧ Qec Z aK wo h0 n0 v U'.heap L ∧ FrameEnd U o U' L ({ frames := 1, cells := 0, slots := 0, locals := 40 } : Room).cells ({ frames := 1, cells := 0, slots := 0, locals := 40 } : Room).slots) := by
  refine MetFree.of_bodySF (plainFor_of_name pn_java_lang_Enum) hisR ?_
  intro p e s m args below meth c s₁ Bd hml0 hP hK
  obtain ⟨rfl, hZ, hh⟩ := hP
  have hx := Bd.exec
  have hby := Bd.bytes
  have hml : c.maxLocals = 4 := hml0
  have hown : s.vm.findClass "java/lang/Enum" = some m.cls := findClass_of_methodNamed Bd.named
  have hnm := (name_of_methodNamed Bd.named Bd.method).1
  have X0 : Stand p l e ({ frames := 1, cells := 0, slots := 0, locals := 40 } : Room) s m #[(.ref aK), (.ref aK)] below meth c s₁ [] 0 0 := Stand.of_body Bd
  have e0 : s₁.heap = h0 := by rw [← hh, Bd.state]; rfl
  have N0 := Fr.nil n0
  have pre0 : ∀ t, Steps p.tables e below (s₁.setTop (mkF m 0 #[.val (.ref aK), .val (.ref aK), .unset, .unset] [])) t → Steps p.tables e below (s₁.setTop (entryFrame m #[(.ref aK), (.ref aK)] 4)) t := fun t k => castTop (ef_ec m aK aK) k
  obtain ⟨mc, mk, mm, hm1, hm2, hm3, -⟩ := M
  obtain ⟨T11, X11, e11, st11⟩ := own_gc X0 hx hZ hown (hw _ (List.mem_of_getElem? (i := 38) rfl)) (hw _ (List.mem_of_getElem? (i := 39) rfl)) (hw _ (List.mem_of_getElem? (i := 41) rfl)) (hw _ (List.mem_of_getElem? (i := 40) rfl)) (hw _ (List.mem_of_getElem? (i := 42) rfl)) e0 E ⟨mc, mk, hm1, hm2, hm3⟩ (g := (mkF m 5 #[.val (.ref aK), .val (.ref aK), .val (.ref aK), .val (.ref aK)] [(.ref aK)])) rfl (by rw [hml]; rfl) rfl (hb hby d5_5) (by decide) (W := 0) (by show 2 * 0 + _ ≤ _; exact Nat.le_of_eq rfl) (by decide)
  obtain ⟨T12, X12, e12, st12⟩ := own_gc X11 hx hZ hown (hw _ (List.mem_of_getElem? (i := 38) rfl)) (hw _ (List.mem_of_getElem? (i := 39) rfl)) (hw _ (List.mem_of_getElem? (i := 41) rfl)) (hw _ (List.mem_of_getElem? (i := 40) rfl)) (hw _ (List.mem_of_getElem? (i := 42) rfl)) e11 E ⟨mc, mk, hm1, hm2, hm3⟩ (g := (mkF m 9 #[.val (.ref aK), .val (.ref aK), .val (.ref aK), .val (.ref aK)] [(.ref aK), (.ref mm)])) rfl (by rw [hml]; rfl) rfl (hb hby d5_9) (by decide) (W := 1) (by show 2 * 0 + _ ≤ _; exact Nat.le_of_eq rfl) (by decide)
  obtain ⟨T13, X13, e13, st13⟩ := getF X12 hx hZ hown (host := "") (Or.inl (hw _ (List.mem_of_getElem? (i := 44) rfl))) Via.refl e12 F (g := (mkF m 35 #[.val (.ref aK), .val (.ref aK), .val (.ref aK), .val (.ref aK)] [(.ref aK)])) rfl rfl (hb hby d5_35)
  obtain ⟨T14, X14, e14, st14⟩ := getF X13 hx hZ hown (host := "") (Or.inl (hw _ (List.mem_of_getElem? (i := 44) rfl))) Via.refl e13 F (g := (mkF m 39 #[.val (.ref aK), .val (.ref aK), .val (.ref aK), .val (.ref aK)] [(.ref aK), (.int wo)])) rfl rfl (hb hby d5_39)
  have pre15 : ∀ t, Steps p.tables e below (T14.setTop (mkF m 43 #[.val (.ref aK), .val (.ref aK), .val (.ref aK), .val (.ref aK)] [(.int (wo - wo))])) t → Steps p.tables e below (s₁.setTop (mkF m 0 #[.val (.ref aK), .val (.ref aK), .unset, .unset] [])) t := by
    intro t kt
    show Steps p.tables e below (s₁.setTop (mkF m 0 #[.val (.ref aK), .val (.ref aK), .unset, .unset] [])) _
    refine XS.aloadN X0.here hx rfl (hb hby d5_0) rfl rfl ?_
    show Steps p.tables e below (s₁.setTop (mkF m 1 #[.val (.ref aK), .val (.ref aK), .unset, .unset] [(.ref aK)])) _
    refine XS.astoreN X0.here hx rfl (hb hby d5_1) rfl rfl (l' := #[.val (.ref aK), .val (.ref aK), .val (.ref aK), .unset]) rfl ?_
    show Steps p.tables e below (s₁.setTop (mkF m 2 #[.val (.ref aK), .val (.ref aK), .val (.ref aK), .unset] [])) _
    refine XS.aloadN X0.here hx rfl (hb hby d5_2) rfl rfl ?_
    show Steps p.tables e below (s₁.setTop (mkF m 3 #[.val (.ref aK), .val (.ref aK), .val (.ref aK), .unset] [(.ref aK)])) _
    refine XS.astoreN X0.here hx rfl (hb hby d5_3) rfl rfl (l' := #[.val (.ref aK), .val (.ref aK), .val (.ref aK), .val (.ref aK)]) rfl ?_
    show Steps p.tables e below (s₁.setTop (mkF m 4 #[.val (.ref aK), .val (.ref aK), .val (.ref aK), .val (.ref aK)] [])) _
    refine XS.aloadN X0.here hx rfl (hb hby d5_4) rfl rfl ?_
    show Steps p.tables e below (s₁.setTop (mkF m 5 #[.val (.ref aK), .val (.ref aK), .val (.ref aK), .val (.ref aK)] [(.ref aK)])) _
    refine st11 _ ?_
    show Steps p.tables e below (T11.setTop (mkF m 8 #[.val (.ref aK), .val (.ref aK), .val (.ref aK), .val (.ref aK)] [(.ref mm)])) _
    refine XS.aloadN X11.here hx rfl (hb hby d5_8) rfl rfl ?_
    show Steps p.tables e below (T11.setTop (mkF m 9 #[.val (.ref aK), .val (.ref aK), .val (.ref aK), .val (.ref aK)] [(.ref aK), (.ref mm)])) _
    refine st12 _ ?_
    show Steps p.tables e below (T12.setTop (mkF m 12 #[.val (.ref aK), .val (.ref aK), .val (.ref aK), .val (.ref aK)] [(.ref mm), (.ref mm)])) _
    refine Jvm.RoadKit.acmp (g := (mkF m 12 #[.val (.ref aK), .val (.ref aK), .val (.ref aK), .val (.ref aK)] [(.ref mm), (.ref mm)])) X12 hx rfl rfl rfl (pc0 := 12) (pc' := 34) (same := true) rfl (hb hby d5_12) rfl (decide_eq_true rfl) (by decide) (by decide) ?_
    show Steps p.tables e below (T12.setTop (mkF m 34 #[.val (.ref aK), .val (.ref aK), .val (.ref aK), .val (.ref aK)] [])) _
    refine XS.aloadN X12.here hx rfl (hb hby d5_34) rfl rfl ?_
    show Steps p.tables e below (T12.setTop (mkF m 35 #[.val (.ref aK), .val (.ref aK), .val (.ref aK), .val (.ref aK)] [(.ref aK)])) _
    refine st13 _ ?_
    show Steps p.tables e below (T13.setTop (mkF m 38 #[.val (.ref aK), .val (.ref aK), .val (.ref aK), .val (.ref aK)] [(.int wo)])) _
    refine XS.aloadN X13.here hx rfl (hb hby d5_38) rfl rfl ?_
    show Steps p.tables e below (T13.setTop (mkF m 39 #[.val (.ref aK), .val (.ref aK), .val (.ref aK), .val (.ref aK)] [(.ref aK), (.int wo)])) _
    refine st14 _ ?_
    show Steps p.tables e below (T14.setTop (mkF m 42 #[.val (.ref aK), .val (.ref aK), .val (.ref aK), .val (.ref aK)] [(.int wo), (.int wo)])) _
    refine XS.isub X14.here hx rfl (hb hby d5_42) rfl ?_
    exact kt
  obtain ⟨fs, hr, hrun, hended, hW, hsame⟩ := X14.leave (v := some (.int (wo - wo))) (fun h => by rw [Bd.returns] at h; cases h)
  refine ⟨_, _, (pre0 _ (pre15 _ ?_)), hrun, hended, _, _, rfl, ?_, ⟨_, rfl⟩, hW, hsame.mono (by decide) (by decide)⟩
  · show Steps p.tables e below (T14.setTop (mkF m 43 #[.val (.ref aK), .val (.ref aK), .val (.ref aK), .val (.ref aK)] [(.int (wo - wo))])) _
    exact retOut X14 hx (t := .int) Bd.returns rfl (Or.inl ⟨rfl, Or.inl rfl, _, rfl⟩) (hb hby d5_43) hr
  · show Qec Z aK wo h0 n0 _ T14.heap _
    rw [e14]
    exact ⟨rfl, N0, rfl⟩
theorem ef_bc0 (m : MethodId) (x0 : Int32) (x1 : Int32) : entryFrame m #[(.int x0), (.int x1)] 2 = mkF m 0 #[.val (.int x0), .val (.int x1)] [] := by (first | (simp [entryFrame, mkF, argsToLocals, Value.category]; done) | rfl)
def Qbc0 (Z : State)  (h0 : Heap) (n0 : Nat) (v : Option Value) (h : Heap) (L : List Loc) : Prop := v = some (.int (-1 : Int32)) ∧ Fr n0 L ∧ h = h0
theorem pn_java_lang_Boolean : plainName "java/lang/Boolean" = true := by first | (simp [plainName, overriddenIn]; done) | decide +kernel
theorem d7_0 : decode jdk_2055_method_14_code 0 = .ok (.iload_n 0, 1) := by decide +kernel
theorem d7_1 : decode jdk_2055_method_14_code 1 = .ok (.iload_n 1, 1) := by decide +kernel
theorem d7_2 : decode jdk_2055_method_14_code 2 = .ok (.if_icmp .ne 7, 3) := by decide +kernel
theorem d7_9 : decode jdk_2055_method_14_code 9 = .ok (.iload_n 0, 1) := by decide +kernel
theorem d7_10 : decode jdk_2055_method_14_code 10 = .ok (.ifCond .eq 7, 3) := by decide +kernel
theorem d7_17 : decode jdk_2055_method_14_code 17 = .ok (.iconst (-1), 1) := by decide +kernel
theorem d7_18 : decode jdk_2055_method_14_code 18 = .ok (.ireturn, 1) := by decide +kernel
set_option maxRecDepth 65536 in
set_option maxHeartbeats 40000000 in
theorem rmbc0 (l : Launch) (Z : State) (a0 : Array Value) (hw : ∀ d ∈ tables_1, d.before a0 Z = true) (ws : List Jvm.Cond)  (h0 : Heap) (n0 : Nat) (Z0 : n0 ≤ h0.size)  :
    MetFree l (⟨"java/lang/Boolean", "compare", "(ZZ)I"⟩ : MethodName) (head1 (Jvm.Cond.code (⟨"java/lang/Boolean", "compare", "(ZZ)I"⟩ : MethodName) jdk_2055_method_14_code 2 (some .int) :: ws) ({ frames := 0, cells := 0, slots := 0, locals := 0 } : Room)) (fun a U => a = #[(.int (0 : Int32)), (.int (1 : Int32))] ∧ Z.Warmed39 U.vm ∧ U.heap = h0) (fun _ _ _ _ _ => True) (fun _ U o U' => ∃ v L, o = .returned v ∧ Qbc0 Z  h0 n0 v U'.heap L ∧ FrameEnd U o U' L ({ frames := 0, cells := 0, slots := 0, locals := 0 } : Room).cells ({ frames := 0, cells := 0, slots := 0, locals := 0 } : Room).slots) := by
  refine MetFree.of_bodySF (plainFor_of_name pn_java_lang_Boolean) hisR ?_
  intro p e s m args below meth c s₁ Bd hml0 hP hK
  obtain ⟨rfl, hZ, hh⟩ := hP
  have hx := Bd.exec
  have hby := Bd.bytes
  have hml : c.maxLocals = 2 := hml0
  have hown : s.vm.findClass "java/lang/Boolean" = some m.cls := findClass_of_methodNamed Bd.named
  have hnm := (name_of_methodNamed Bd.named Bd.method).1
  have X0 : Stand p l e ({ frames := 0, cells := 0, slots := 0, locals := 0 } : Room) s m #[(.int (0 : Int32)), (.int (1 : Int32))] below meth c s₁ [] 0 0 := Stand.of_body Bd
  have e0 : s₁.heap = h0 := by rw [← hh, Bd.state]; rfl
  have N0 := Fr.nil n0
  have pre0 : ∀ t, Steps p.tables e below (s₁.setTop (mkF m 0 #[.val (.int (0 : Int32)), .val (.int (1 : Int32))] [])) t → Steps p.tables e below (s₁.setTop (entryFrame m #[(.int (0 : Int32)), (.int (1 : Int32))] 2)) t := fun t k => castTop (ef_bc0 m (0 : Int32) (1 : Int32)) k
  have pre16 : ∀ t, Steps p.tables e below (s₁.setTop (mkF m 18 #[.val (.int (0 : Int32)), .val (.int (1 : Int32))] [(.int (-1 : Int32))])) t → Steps p.tables e below (s₁.setTop (mkF m 0 #[.val (.int (0 : Int32)), .val (.int (1 : Int32))] [])) t := by
    intro t kt
    show Steps p.tables e below (s₁.setTop (mkF m 0 #[.val (.int (0 : Int32)), .val (.int (1 : Int32))] [])) _
    refine XS.iloadN X0.here hx rfl (hb hby d7_0) rfl ?_
    show Steps p.tables e below (s₁.setTop (mkF m 1 #[.val (.int (0 : Int32)), .val (.int (1 : Int32))] [(.int (0 : Int32))])) _
    refine XS.iloadN X0.here hx rfl (hb hby d7_1) rfl ?_
    show Steps p.tables e below (s₁.setTop (mkF m 2 #[.val (.int (0 : Int32)), .val (.int (1 : Int32))] [(.int (1 : Int32)), (.int (0 : Int32))])) _
    refine XS.icmpYes X0.here hx rfl (pc0 := 2) (pc' := 9) rfl (hb hby d7_2) rfl (feq (by decide : ¬ ((0 : Int32) = (1 : Int32)))).2 (by decide) (by decide) ?_
    show Steps p.tables e below (s₁.setTop (mkF m 9 #[.val (.int (0 : Int32)), .val (.int (1 : Int32))] [])) _
    refine XS.iloadN X0.here hx rfl (hb hby d7_9) rfl ?_
    show Steps p.tables e below (s₁.setTop (mkF m 10 #[.val (.int (0 : Int32)), .val (.int (1 : Int32))] [(.int (0 : Int32))])) _
    refine XS.ifYes X0.here hx rfl (pc0 := 10) (pc' := 17) rfl (hb hby d7_10) rfl ((if0 _ _).trans (teq (rfl : (0 : Int32) = (0 : Int32))).1) (by decide) (by decide) ?_
    show Steps p.tables e below (s₁.setTop (mkF m 17 #[.val (.int (0 : Int32)), .val (.int (1 : Int32))] [])) _
    refine XS.iconst X0.here hx rfl (hb hby d7_17) ?_
    exact kt
  obtain ⟨fs, hr, hrun, hended, hW, hsame⟩ := X0.leave (v := some (.int (-1 : Int32))) (fun h => by rw [Bd.returns] at h; cases h)
  refine ⟨_, _, (pre0 _ (pre16 _ ?_)), hrun, hended, _, _, rfl, ?_, ⟨_, rfl⟩, hW, hsame.mono (by decide) (by decide)⟩
  · show Steps p.tables e below (s₁.setTop (mkF m 18 #[.val (.int (0 : Int32)), .val (.int (1 : Int32))] [(.int (-1 : Int32))])) _
    exact retOut X0 hx (t := .int) Bd.returns rfl (Or.inl ⟨rfl, Or.inl rfl, _, rfl⟩) (hb hby d7_18) hr
  · show Qbc0 Z h0 n0 _ s₁.heap _
    rw [e0]
    exact ⟨rfl, N0, rfl⟩
theorem ef_cs0 (m : MethodId) (x0 : Addr) (x1 : Addr) : entryFrame m #[(.ref x0), (.ref x1)] 2 = mkF m 0 #[.val (.ref x0), .val (.ref x1)] [] := by (first | (simp [entryFrame, mkF, argsToLocals, Value.category]; done) | rfl)
def Qcs0 (Z : State) (a1 : Addr) (a2 : Addr) (h0 : Heap) (n0 : Nat) (v : Option Value) (h : Heap) (L : List Loc) : Prop := v = some (.int (-1 : Int32)) ∧ Fr n0 L ∧ h = h0
theorem d6_0 : decode prog_6_method_5_code 0 = .ok (.aload_n 0, 1) := by decide +kernel
theorem d6_1 : decode prog_6_method_5_code 1 = .ok (.getfield 7, 3) := by decide +kernel
theorem d6_4 : decode prog_6_method_5_code 4 = .ok (.aload_n 1, 1) := by decide +kernel
theorem d6_5 : decode prog_6_method_5_code 5 = .ok (.checkcast 8, 3) := by decide +kernel
theorem d6_8 : decode prog_6_method_5_code 8 = .ok (.getfield 7, 3) := by decide +kernel
theorem d6_11 : decode prog_6_method_5_code 11 = .ok (.invokestatic 26, 3) := by decide +kernel
theorem pd__ZZ_I : parseMethodDescriptor "(ZZ)I" = some ⟨[.boolean, .boolean], some .int⟩ := by decide +kernel
theorem d6_14 : decode prog_6_method_5_code 14 = .ok (.ireturn, 1) := by decide +kernel
set_option maxRecDepth 65536 in
set_option maxHeartbeats 40000000 in
theorem rmcs0 (l : Launch) (Z : State) (a0 : Array Value) (hw : ∀ d ∈ tables_1, d.before a0 Z = true) (ws : List Jvm.Cond) (a1 : Addr) (a2 : Addr) (h0 : Heap) (n0 : Nat) (Z0 : n0 ≤ h0.size) (E1 : Exa Z h0 a1 "com/example/formal_model_bench/formalmodelbench/engine/BoolValue") (E2 : Exa Z h0 a2 "com/example/formal_model_bench/formalmodelbench/engine/BoolValue") (F1 : Fld Z h0 a1 "com/example/formal_model_bench/formalmodelbench/engine/BoolValue" "value" "Z" (.int (0 : Int32))) (F2 : Fld Z h0 a2 "com/example/formal_model_bench/formalmodelbench/engine/BoolValue" "value" "Z" (.int (1 : Int32))) :
    MetFree l (⟨"com/example/formal_model_bench/formalmodelbench/engine/BoolValue", "compareSameKind", "(Lcom/example/formal_model_bench/formalmodelbench/engine/Value;)I"⟩ : MethodName) (head1 (Jvm.Cond.code (⟨"com/example/formal_model_bench/formalmodelbench/engine/BoolValue", "compareSameKind", "(Lcom/example/formal_model_bench/formalmodelbench/engine/Value;)I"⟩ : MethodName) prog_6_method_5_code 2 (some .int) :: ws) ({ frames := 1, cells := 0, slots := 0, locals := 16 } : Room)) (fun a U => a = #[(.ref a1), (.ref a2)] ∧ Z.Warmed39 U.vm ∧ U.heap = h0) (fun _ _ _ _ _ => True) (fun _ U o U' => ∃ v L, o = .returned v ∧ Qcs0 Z a1 a2 h0 n0 v U'.heap L ∧ FrameEnd U o U' L ({ frames := 1, cells := 0, slots := 0, locals := 16 } : Room).cells ({ frames := 1, cells := 0, slots := 0, locals := 16 } : Room).slots) := by
  refine MetFree.of_bodySF (plainFor_of_name pn_com_example_formal_model_bench_formalmodelbench_engine_BoolValue) hisR ?_
  intro p e s m args below meth c s₁ Bd hml0 hP hK
  obtain ⟨rfl, hZ, hh⟩ := hP
  have hx := Bd.exec
  have hby := Bd.bytes
  have hml : c.maxLocals = 2 := hml0
  have hown : s.vm.findClass "com/example/formal_model_bench/formalmodelbench/engine/BoolValue" = some m.cls := findClass_of_methodNamed Bd.named
  have hnm := (name_of_methodNamed Bd.named Bd.method).1
  have X0 : Stand p l e ({ frames := 1, cells := 0, slots := 0, locals := 16 } : Room) s m #[(.ref a1), (.ref a2)] below meth c s₁ [] 0 0 := Stand.of_body Bd
  have e0 : s₁.heap = h0 := by rw [← hh, Bd.state]; rfl
  have N0 := Fr.nil n0
  have pre0 : ∀ t, Steps p.tables e below (s₁.setTop (mkF m 0 #[.val (.ref a1), .val (.ref a2)] [])) t → Steps p.tables e below (s₁.setTop (entryFrame m #[(.ref a1), (.ref a2)] 2)) t := fun t k => castTop (ef_cs0 m a1 a2) k
  obtain ⟨T17, X17, e17, st17⟩ := getF X0 hx hZ hown (host := "") (Or.inl (hw _ (List.mem_of_getElem? (i := 13) rfl))) Via.refl e0 F1 (g := (mkF m 1 #[.val (.ref a1), .val (.ref a2)] [(.ref a1)])) rfl rfl (hb hby d6_1)
  obtain ⟨T18, X18, e18, st18⟩ := castY X17 hx hZ hown (hw _ (List.mem_of_getElem? (i := 51) rfl)) e17 (Ins.self E2) (g := (mkF m 5 #[.val (.ref a1), .val (.ref a2)] [(.ref a2), (.int (0 : Int32))])) rfl rfl (hb hby d6_5)
  obtain ⟨T19, X19, e19, st19⟩ := getF X18 hx hZ hown (host := "") (Or.inl (hw _ (List.mem_of_getElem? (i := 13) rfl))) Via.refl e18 F2 (g := (mkF m 8 #[.val (.ref a1), .val (.ref a2)] [(.ref a2), (.int (0 : Int32))])) rfl rfl (hb hby d6_8)
  obtain ⟨_, _, ⟨T20, L20, k20, n20⟩, -, X20, ⟨Lc20, hQ20, l20, y20, z20⟩, st20⟩ := Jvm.LawKit.callS X19 hx (y := (⟨"java/lang/Boolean", "compare", "(ZZ)I"⟩ : MethodName)) hown (mvT hZ (hw _ (List.mem_of_getElem? (i := 53) rfl))) (mvT hZ (hw _ (List.mem_of_getElem? (i := 54) rfl))) (mvT hZ (hw _ (List.mem_of_getElem? (i := 55) rfl))) (mvT hZ (hw _ (List.mem_of_getElem? (i := 56) rfl))) (by decide) (backOf (W := 0) (rmbc0 l Z a0 hw [] h0 n0 Z0) hZ (hw _ (List.mem_of_getElem? (i := 56) rfl)) (hw _ (List.mem_of_getElem? (i := 55) rfl)) (by decide) (by decide)) (g := (mkF m 11 #[.val (.ref a1), .val (.ref a2)] [(.int (1 : Int32)), (.int (0 : Int32))])) rfl (by rw [hml]; rfl) (argsL := [(.int (0 : Int32)), (.int (1 : Int32))]) (rest := []) (lenOf pd__ZZ_I rfl) rfl (by show 2 * 0 + _ ≤ _; exact Nat.le_of_eq rfl) (hb hby d6_11) (fun _ _ => ⟨rfl, e19, (by decide : 0 + 0 ≤ _), (by decide : 0 + 0 ≤ _)⟩)
  dsimp only [Pt.U, Pt.locs, Pt.cells, Pt.slots] at X20 l20 y20 z20 st20 hQ20
  subst l20 y20 z20
  obtain ⟨rfl, N20q, EQ20⟩ := hQ20
  have N20 := Fr.app N0 N20q
  have Z20 : n0 ≤ T20.heap.size := by rw [EQ20]; exact Z0
  have K20 := own_keq EQ20 (Keep.refl h0 [])
  have pre21 : ∀ t, Steps p.tables e below (T20.setTop (mkF m 14 #[.val (.ref a1), .val (.ref a2)] [(.int (-1 : Int32))])) t → Steps p.tables e below (s₁.setTop (mkF m 0 #[.val (.ref a1), .val (.ref a2)] [])) t := by
    intro t kt
    show Steps p.tables e below (s₁.setTop (mkF m 0 #[.val (.ref a1), .val (.ref a2)] [])) _
    refine XS.aloadN X0.here hx rfl (hb hby d6_0) rfl rfl ?_
    show Steps p.tables e below (s₁.setTop (mkF m 1 #[.val (.ref a1), .val (.ref a2)] [(.ref a1)])) _
    refine st17 _ ?_
    show Steps p.tables e below (T17.setTop (mkF m 4 #[.val (.ref a1), .val (.ref a2)] [(.int (0 : Int32))])) _
    refine XS.aloadN X17.here hx rfl (hb hby d6_4) rfl rfl ?_
    show Steps p.tables e below (T17.setTop (mkF m 5 #[.val (.ref a1), .val (.ref a2)] [(.ref a2), (.int (0 : Int32))])) _
    refine st18 _ ?_
    show Steps p.tables e below (T18.setTop (mkF m 8 #[.val (.ref a1), .val (.ref a2)] [(.ref a2), (.int (0 : Int32))])) _
    refine st19 _ ?_
    show Steps p.tables e below (T19.setTop (mkF m 11 #[.val (.ref a1), .val (.ref a2)] [(.int (1 : Int32)), (.int (0 : Int32))])) _
    refine st20 _ ?_
    exact kt
  obtain ⟨fs, hr, hrun, hended, hW, hsame⟩ := X20.leave (v := some (.int (-1 : Int32))) (fun h => by rw [Bd.returns] at h; cases h)
  refine ⟨_, _, (pre0 _ (pre21 _ ?_)), hrun, hended, _, _, rfl, ?_, ⟨_, rfl⟩, hW, hsame.mono (by decide) (by decide)⟩
  · show Steps p.tables e below (T20.setTop (mkF m 14 #[.val (.ref a1), .val (.ref a2)] [(.int (-1 : Int32))])) _
    exact retOut X20 hx (t := .int) Bd.returns rfl (Or.inl ⟨rfl, Or.inl rfl, _, rfl⟩) (hb hby d6_14) hr
  · show Qcs0 Z a1 a2 h0 n0 _ T20.heap _
    exact ⟨rfl, N20, EQ20⟩
theorem ef_cmp0 (m : MethodId) (x0 : Addr) (x1 : Addr) : entryFrame m #[(.ref x0), (.ref x1)] 3 = mkF m 0 #[.val (.ref x0), .val (.ref x1), .unset] [] := by (first | (simp [entryFrame, mkF, argsToLocals, Value.category]; done) | rfl)
def Qcmp0 (Z : State) (a1 : Addr) (a2 : Addr) (aK : Addr) (wo : Int32) (h0 : Heap) (n0 : Nat) (v : Option Value) (h : Heap) (L : List Loc) : Prop := v = some (.int (-1 : Int32)) ∧ Fr n0 L ∧ h = h0
theorem pn_com_example_formal_model_bench_formalmodelbench_engine_Value : plainName "com/example/formal_model_bench/formalmodelbench/engine/Value" = true := by first | (simp [plainName, overriddenIn]; done) | decide +kernel
theorem d3_0 : decode prog_103_method_4_code 0 = .ok (.aload_n 0, 1) := by decide +kernel
theorem d3_1 : decode prog_103_method_4_code 1 = .ok (.invokevirtual 7, 3) := by decide +kernel
theorem pd___Lcom_example_formal_model_bench_formalmodelbench_engine_Value_Kind_ : parseMethodDescriptor "()Lcom/example/formal_model_bench/formalmodelbench/engine/Value$Kind;" = some ⟨[], some (.object "com/example/formal_model_bench/formalmodelbench/engine/Value$Kind")⟩ := by decide +kernel
theorem d3_4 : decode prog_103_method_4_code 4 = .ok (.aload_n 1, 1) := by decide +kernel
theorem d3_5 : decode prog_103_method_4_code 5 = .ok (.invokevirtual 7, 3) := by decide +kernel
theorem d3_8 : decode prog_103_method_4_code 8 = .ok (.invokevirtual 13, 3) := by decide +kernel
theorem pd__Ljava_lang_Enum__I : parseMethodDescriptor "(Ljava/lang/Enum;)I" = some ⟨[(.object "java/lang/Enum")], some .int⟩ := by decide +kernel
theorem d3_11 : decode prog_103_method_4_code 11 = .ok (.istore_n 2, 1) := by decide +kernel
theorem d3_12 : decode prog_103_method_4_code 12 = .ok (.iload_n 2, 1) := by decide +kernel
theorem d3_13 : decode prog_103_method_4_code 13 = .ok (.ifCond .eq 7, 3) := by decide +kernel
theorem d3_20 : decode prog_103_method_4_code 20 = .ok (.aload_n 0, 1) := by decide +kernel
theorem d3_21 : decode prog_103_method_4_code 21 = .ok (.aload_n 1, 1) := by decide +kernel
theorem d3_22 : decode prog_103_method_4_code 22 = .ok (.invokevirtual 19, 3) := by decide +kernel
theorem pd__Lcom_example_formal_model_bench_formalmodelbench_engine_Value__I : parseMethodDescriptor "(Lcom/example/formal_model_bench/formalmodelbench/engine/Value;)I" = some ⟨[(.object "com/example/formal_model_bench/formalmodelbench/engine/Value")], some .int⟩ := by decide +kernel
theorem d3_25 : decode prog_103_method_4_code 25 = .ok (.ireturn, 1) := by decide +kernel
set_option maxRecDepth 65536 in
set_option maxHeartbeats 40000000 in
theorem rmcmp0 (l : Launch) (Z : State) (a0 : Array Value) (hw : ∀ d ∈ tables_1, d.before a0 Z = true) (ws : List Jvm.Cond) (a1 : Addr) (a2 : Addr) (aK : Addr) (wo : Int32) (h0 : Heap) (n0 : Nat) (Z0 : n0 ≤ h0.size) (E1 : Exa Z h0 a1 "com/example/formal_model_bench/formalmodelbench/engine/BoolValue") (E2 : Exa Z h0 a2 "com/example/formal_model_bench/formalmodelbench/engine/BoolValue") (F1 : Fld Z h0 a1 "com/example/formal_model_bench/formalmodelbench/engine/BoolValue" "value" "Z" (.int (0 : Int32))) (F2 : Fld Z h0 a2 "com/example/formal_model_bench/formalmodelbench/engine/BoolValue" "value" "Z" (.int (1 : Int32))) (SK : Sta Z h0 "com/example/formal_model_bench/formalmodelbench/engine/Value$Kind" "BOOL" "Lcom/example/formal_model_bench/formalmodelbench/engine/Value$Kind;" (.ref aK)) (EK : Exa Z h0 aK "com/example/formal_model_bench/formalmodelbench/engine/Value$Kind") (FK : Fld Z h0 aK "java/lang/Enum" "ordinal" "I" (.int wo)) (M : MirrorMade Z "com/example/formal_model_bench/formalmodelbench/engine/Value$Kind") :
    MetFree l (⟨"com/example/formal_model_bench/formalmodelbench/engine/Value", "compareTo", "(Lcom/example/formal_model_bench/formalmodelbench/engine/Value;)I"⟩ : MethodName) (head1 (Jvm.Cond.code (⟨"com/example/formal_model_bench/formalmodelbench/engine/Value", "compareTo", "(Lcom/example/formal_model_bench/formalmodelbench/engine/Value;)I"⟩ : MethodName) prog_103_method_4_code 3 (some .int) :: ws) ({ frames := 2, cells := 0, slots := 0, locals := 64 } : Room)) (fun a U => a = #[(.ref a1), (.ref a2)] ∧ Z.Warmed39 U.vm ∧ U.heap = h0) (fun _ _ _ _ _ => True) (fun _ U o U' => ∃ v L, o = .returned v ∧ Qcmp0 Z a1 a2 aK wo h0 n0 v U'.heap L ∧ FrameEnd U o U' L ({ frames := 2, cells := 0, slots := 0, locals := 64 } : Room).cells ({ frames := 2, cells := 0, slots := 0, locals := 64 } : Room).slots) := by
  refine MetFree.of_bodySF (plainFor_of_name pn_com_example_formal_model_bench_formalmodelbench_engine_Value) hisR ?_
  intro p e s m args below meth c s₁ Bd hml0 hP hK
  obtain ⟨rfl, hZ, hh⟩ := hP
  have hx := Bd.exec
  have hby := Bd.bytes
  have hml : c.maxLocals = 3 := hml0
  have hown : s.vm.findClass "com/example/formal_model_bench/formalmodelbench/engine/Value" = some m.cls := findClass_of_methodNamed Bd.named
  have hnm := (name_of_methodNamed Bd.named Bd.method).1
  have X0 : Stand p l e ({ frames := 2, cells := 0, slots := 0, locals := 64 } : Room) s m #[(.ref a1), (.ref a2)] below meth c s₁ [] 0 0 := Stand.of_body Bd
  have e0 : s₁.heap = h0 := by rw [← hh, Bd.state]; rfl
  have N0 := Fr.nil n0
  have pre0 : ∀ t, Steps p.tables e below (s₁.setTop (mkF m 0 #[.val (.ref a1), .val (.ref a2), .unset] [])) t → Steps p.tables e below (s₁.setTop (entryFrame m #[(.ref a1), (.ref a2)] 3)) t := fun t k => castTop (ef_cmp0 m a1 a2) k
  obtain ⟨cq22, kq22, q22a, q22b, q22c⟩ := isOf hZ e0 E1
  obtain ⟨_, _, ⟨T22, L22, k22, n22⟩, -, X22, ⟨Lc22, hQ22, l22, y22, z22⟩, st22⟩ := X0.virtualBack hx (y := (⟨"com/example/formal_model_bench/formalmodelbench/engine/Value", "kind", "()Lcom/example/formal_model_bench/formalmodelbench/engine/Value$Kind;"⟩ : MethodName)) (z := (⟨"com/example/formal_model_bench/formalmodelbench/engine/BoolValue", "kind", "()Lcom/example/formal_model_bench/formalmodelbench/engine/Value$Kind;"⟩ : MethodName)) hown (mvT hZ (hw _ (List.mem_of_getElem? (i := 23) rfl))) (mvT hZ (hw _ (List.mem_of_getElem? (i := 24) rfl))) (own_nf (a0 := a0) (Z := Z) (args := #[]) (mvT hZ (hw _ (List.mem_of_getElem? (i := 20) rfl))) rfl) (mvT hZ (hw _ (List.mem_of_getElem? (i := 25) rfl))) (mvT hZ (hw _ (List.mem_of_getElem? (i := 26) rfl))) (by decide) (backOf (W := 0) (rmkind l Z a0 hw [] a1 aK h0 n0 Z0 SK) hZ (hw _ (List.mem_of_getElem? (i := 27) rfl)) (hw _ (List.mem_of_getElem? (i := 2) rfl)) (by decide) (by decide)) q22a q22c (g := (mkF m 1 #[.val (.ref a1), .val (.ref a2), .unset] [(.ref a1)])) rfl (by rw [hml]; rfl) (Steps.refl _) (argsL := []) (rest := []) (lenOf pd___Lcom_example_formal_model_bench_formalmodelbench_engine_Value_Kind_ rfl) rfl (by show 2 * 0 + _ ≤ _; exact Nat.le_of_eq rfl) (hb hby d3_1) (fun _ _ => ⟨rfl, e0, (by decide : 0 + 0 ≤ _), (by decide : 0 + 0 ≤ _)⟩)
  dsimp only [Pt.U, Pt.locs, Pt.cells, Pt.slots] at X22 l22 y22 z22 st22 hQ22
  subst l22 y22 z22
  obtain ⟨rfl, N22q, EQ22⟩ := hQ22
  have N22 := Fr.app N0 N22q
  have Z22 : n0 ≤ T22.heap.size := by rw [EQ22]; exact Z0
  have K22 := own_keq EQ22 (Keep.refl h0 [])
  have f23 := (EQ22 ▸ SK)
  have f25 := (EQ22 ▸ E2)
  obtain ⟨cq24, kq24, q24a, q24b, q24c⟩ := isOf hZ rfl f25
  obtain ⟨_, _, ⟨T24, L24, k24, n24⟩, -, X24, ⟨Lc24, hQ24, l24, y24, z24⟩, st24⟩ := X22.virtualBack hx (y := (⟨"com/example/formal_model_bench/formalmodelbench/engine/Value", "kind", "()Lcom/example/formal_model_bench/formalmodelbench/engine/Value$Kind;"⟩ : MethodName)) (z := (⟨"com/example/formal_model_bench/formalmodelbench/engine/BoolValue", "kind", "()Lcom/example/formal_model_bench/formalmodelbench/engine/Value$Kind;"⟩ : MethodName)) hown (mvT hZ (hw _ (List.mem_of_getElem? (i := 23) rfl))) (mvT hZ (hw _ (List.mem_of_getElem? (i := 24) rfl))) (own_nf (a0 := a0) (Z := Z) (args := #[]) (mvT hZ (hw _ (List.mem_of_getElem? (i := 20) rfl))) rfl) (mvT hZ (hw _ (List.mem_of_getElem? (i := 25) rfl))) (mvT hZ (hw _ (List.mem_of_getElem? (i := 26) rfl))) (by decide) (backOf (W := 1) (rmkind l Z a0 hw [] a2 aK T22.heap n0 Z22 f23) hZ (hw _ (List.mem_of_getElem? (i := 27) rfl)) (hw _ (List.mem_of_getElem? (i := 2) rfl)) (by decide) (by decide)) q24a q24c (g := (mkF m 5 #[.val (.ref a1), .val (.ref a2), .unset] [(.ref a2), (.ref aK)])) rfl (by rw [hml]; rfl) (Steps.refl _) (argsL := []) (rest := [(.ref aK)]) (lenOf pd___Lcom_example_formal_model_bench_formalmodelbench_engine_Value_Kind_ rfl) rfl (by show 2 * 0 + _ ≤ _; exact Nat.le_of_eq rfl) (hb hby d3_5) (fun _ _ => ⟨rfl, rfl, (by decide : 0 + 0 ≤ _), (by decide : 0 + 0 ≤ _)⟩)
  dsimp only [Pt.U, Pt.locs, Pt.cells, Pt.slots] at X24 l24 y24 z24 st24 hQ24
  subst l24 y24 z24
  obtain ⟨rfl, N24q, EQ24⟩ := hQ24
  have N24 := Fr.app N22 N24q
  have Z24 : n0 ≤ T24.heap.size := by rw [EQ24]; exact Z22
  have K24 := own_keq EQ24 K22
  have f26 := (EQ24 ▸ (EQ22 ▸ EK))
  have f27 := (EQ24 ▸ (EQ22 ▸ FK))
  obtain ⟨cq28, kq28, q28a, q28b, q28c⟩ := isOf hZ rfl f26
  obtain ⟨_, _, ⟨T28, L28, k28, n28⟩, -, X28, ⟨Lc28, hQ28, l28, y28, z28⟩, st28⟩ := X24.virtualBackUp hx (x := (⟨"com/example/formal_model_bench/formalmodelbench/engine/Value$Kind", "compareTo", "(Ljava/lang/Enum;)I"⟩ : MethodName)) (y := (⟨"java/lang/Enum", "compareTo", "(Ljava/lang/Enum;)I"⟩ : MethodName)) hown (mvT hZ (hw _ (List.mem_of_getElem? (i := 31) rfl))) (mvT hZ (hw _ (List.mem_of_getElem? (i := 32) rfl))) (mvT hZ (hw _ (List.mem_of_getElem? (i := 33) rfl))) (by decide) (mvT hZ (hw _ (List.mem_of_getElem? (i := 35) rfl))) (mvT hZ (hw _ (List.mem_of_getElem? (i := 34) rfl))) (backOf (W := 0) (rmec l Z a0 hw [] aK wo T24.heap n0 Z24 f26 f27 M) hZ (hw _ (List.mem_of_getElem? (i := 37) rfl)) (hw _ (List.mem_of_getElem? (i := 36) rfl)) (by decide) (by decide)) q28a q28c (g := (mkF m 8 #[.val (.ref a1), .val (.ref a2), .unset] [(.ref aK), (.ref aK)])) rfl (by rw [hml]; rfl) (Steps.refl _) (argsL := [(.ref aK)]) (rest := []) (lenOf pd__Ljava_lang_Enum__I rfl) rfl (by show 2 * 0 + _ ≤ _; exact Nat.le_of_eq rfl) (hb hby d3_8) (fun _ _ => ⟨rfl, rfl, (by decide : 0 + 0 ≤ _), (by decide : 0 + 0 ≤ _)⟩)
  dsimp only [Pt.U, Pt.locs, Pt.cells, Pt.slots] at X28 l28 y28 z28 st28 hQ28
  subst l28 y28 z28
  obtain ⟨rfl, N28q, EQ28⟩ := hQ28
  have N28 := Fr.app N24 N28q
  have Z28 : n0 ≤ T28.heap.size := by rw [EQ28]; exact Z24
  have K28 := own_keq EQ28 K24
  have f29 := (EQ28 ▸ (EQ24 ▸ (EQ22 ▸ E1)))
  have f30 := (EQ28 ▸ (EQ24 ▸ f25))
  have f31 := (EQ28 ▸ (EQ24 ▸ (EQ22 ▸ F1)))
  have f32 := (EQ28 ▸ (EQ24 ▸ (EQ22 ▸ F2)))
  obtain ⟨cq33, kq33, q33a, q33b, q33c⟩ := isOf hZ rfl f29
  obtain ⟨_, _, ⟨T33, L33, k33, n33⟩, -, X33, ⟨Lc33, hQ33, l33, y33, z33⟩, st33⟩ := X28.virtualBack hx (y := (⟨"com/example/formal_model_bench/formalmodelbench/engine/Value", "compareSameKind", "(Lcom/example/formal_model_bench/formalmodelbench/engine/Value;)I"⟩ : MethodName)) (z := (⟨"com/example/formal_model_bench/formalmodelbench/engine/BoolValue", "compareSameKind", "(Lcom/example/formal_model_bench/formalmodelbench/engine/Value;)I"⟩ : MethodName)) hown (mvT hZ (hw _ (List.mem_of_getElem? (i := 46) rfl))) (mvT hZ (hw _ (List.mem_of_getElem? (i := 47) rfl))) (own_nf (a0 := a0) (Z := Z) (args := #[]) (mvT hZ (hw _ (List.mem_of_getElem? (i := 20) rfl))) rfl) (mvT hZ (hw _ (List.mem_of_getElem? (i := 48) rfl))) (mvT hZ (hw _ (List.mem_of_getElem? (i := 49) rfl))) (by decide) (backOf (W := 0) (rmcs0 l Z a0 hw [] a1 a2 T28.heap n0 Z28 f29 f30 f31 f32) hZ (hw _ (List.mem_of_getElem? (i := 50) rfl)) (hw _ (List.mem_of_getElem? (i := 2) rfl)) (by decide) (by decide)) q33a q33c (g := (mkF m 22 #[.val (.ref a1), .val (.ref a2), .val (.int (wo - wo))] [(.ref a2), (.ref a1)])) rfl (by rw [hml]; rfl) (Steps.refl _) (argsL := [(.ref a2)]) (rest := []) (lenOf pd__Lcom_example_formal_model_bench_formalmodelbench_engine_Value__I rfl) rfl (by show 2 * 0 + _ ≤ _; exact Nat.le_of_eq rfl) (hb hby d3_22) (fun _ _ => ⟨rfl, rfl, (by decide : 0 + 0 ≤ _), (by decide : 0 + 0 ≤ _)⟩)
  dsimp only [Pt.U, Pt.locs, Pt.cells, Pt.slots] at X33 l33 y33 z33 st33 hQ33
  subst l33 y33 z33
  obtain ⟨rfl, N33q, EQ33⟩ := hQ33
  have N33 := Fr.app N28 N33q
  have Z33 : n0 ≤ T33.heap.size := by rw [EQ33]; exact Z28
  have K33 := own_keq EQ33 K28
  have pre34 : ∀ t, Steps p.tables e below (T33.setTop (mkF m 25 #[.val (.ref a1), .val (.ref a2), .val (.int (wo - wo))] [(.int (-1 : Int32))])) t → Steps p.tables e below (s₁.setTop (mkF m 0 #[.val (.ref a1), .val (.ref a2), .unset] [])) t := by
    intro t kt
    show Steps p.tables e below (s₁.setTop (mkF m 0 #[.val (.ref a1), .val (.ref a2), .unset] [])) _
    refine XS.aloadN X0.here hx rfl (hb hby d3_0) rfl rfl ?_
    show Steps p.tables e below (s₁.setTop (mkF m 1 #[.val (.ref a1), .val (.ref a2), .unset] [(.ref a1)])) _
    refine st22.trans ?_
    show Steps p.tables e below (T22.setTop (mkF m 4 #[.val (.ref a1), .val (.ref a2), .unset] [(.ref aK)])) _
    refine XS.aloadN X22.here hx rfl (hb hby d3_4) rfl rfl ?_
    show Steps p.tables e below (T22.setTop (mkF m 5 #[.val (.ref a1), .val (.ref a2), .unset] [(.ref a2), (.ref aK)])) _
    refine st24.trans ?_
    show Steps p.tables e below (T24.setTop (mkF m 8 #[.val (.ref a1), .val (.ref a2), .unset] [(.ref aK), (.ref aK)])) _
    refine st28.trans ?_
    show Steps p.tables e below (T28.setTop (mkF m 11 #[.val (.ref a1), .val (.ref a2), .unset] [(.int (wo - wo))])) _
    refine XS.istoreN X28.here hx rfl (hb hby d3_11) rfl (l' := #[.val (.ref a1), .val (.ref a2), .val (.int (wo - wo))]) rfl ?_
    show Steps p.tables e below (T28.setTop (mkF m 12 #[.val (.ref a1), .val (.ref a2), .val (.int (wo - wo))] [])) _
    refine XS.iloadN X28.here hx rfl (hb hby d3_12) rfl ?_
    show Steps p.tables e below (T28.setTop (mkF m 13 #[.val (.ref a1), .val (.ref a2), .val (.int (wo - wo))] [(.int (wo - wo))])) _
    refine XS.ifYes X28.here hx rfl (pc0 := 13) (pc' := 20) rfl (hb hby d3_13) rfl ((if0 _ _).trans (teq (by simp : (wo - wo) = (0 : Int32))).1) (by decide) (by decide) ?_
    show Steps p.tables e below (T28.setTop (mkF m 20 #[.val (.ref a1), .val (.ref a2), .val (.int (wo - wo))] [])) _
    refine XS.aloadN X28.here hx rfl (hb hby d3_20) rfl rfl ?_
    show Steps p.tables e below (T28.setTop (mkF m 21 #[.val (.ref a1), .val (.ref a2), .val (.int (wo - wo))] [(.ref a1)])) _
    refine XS.aloadN X28.here hx rfl (hb hby d3_21) rfl rfl ?_
    show Steps p.tables e below (T28.setTop (mkF m 22 #[.val (.ref a1), .val (.ref a2), .val (.int (wo - wo))] [(.ref a2), (.ref a1)])) _
    refine st33.trans ?_
    exact kt
  obtain ⟨fs, hr, hrun, hended, hW, hsame⟩ := X33.leave (v := some (.int (-1 : Int32))) (fun h => by rw [Bd.returns] at h; cases h)
  refine ⟨_, _, (pre0 _ (pre34 _ ?_)), hrun, hended, _, _, rfl, ?_, ⟨_, rfl⟩, hW, hsame.mono (by decide) (by decide)⟩
  · show Steps p.tables e below (T33.setTop (mkF m 25 #[.val (.ref a1), .val (.ref a2), .val (.int (wo - wo))] [(.int (-1 : Int32))])) _
    exact retOut X33 hx (t := .int) Bd.returns rfl (Or.inl ⟨rfl, Or.inl rfl, _, rfl⟩) (hb hby d3_25) hr
  · show Qcmp0 Z a1 a2 aK wo h0 n0 _ T33.heap _
    exact ⟨rfl, N33, by rw [EQ33, EQ28, EQ24, EQ22]⟩
theorem ef_bc1 (m : MethodId) (x0 : Int32) (x1 : Int32) : entryFrame m #[(.int x0), (.int x1)] 2 = mkF m 0 #[.val (.int x0), .val (.int x1)] [] := by (first | (simp [entryFrame, mkF, argsToLocals, Value.category]; done) | rfl)
def Qbc1 (Z : State)  (h0 : Heap) (n0 : Nat) (v : Option Value) (h : Heap) (L : List Loc) : Prop := v = some (.int (1 : Int32)) ∧ Fr n0 L ∧ h = h0
theorem d7_13 : decode jdk_2055_method_14_code 13 = .ok (.iconst 1, 1) := by decide +kernel
theorem d7_14 : decode jdk_2055_method_14_code 14 = .ok (.goto 4, 3) := by decide +kernel
set_option maxRecDepth 65536 in
set_option maxHeartbeats 40000000 in
theorem rmbc1 (l : Launch) (Z : State) (a0 : Array Value) (hw : ∀ d ∈ tables_1, d.before a0 Z = true) (ws : List Jvm.Cond)  (h0 : Heap) (n0 : Nat) (Z0 : n0 ≤ h0.size)  :
    MetFree l (⟨"java/lang/Boolean", "compare", "(ZZ)I"⟩ : MethodName) (head1 (Jvm.Cond.code (⟨"java/lang/Boolean", "compare", "(ZZ)I"⟩ : MethodName) jdk_2055_method_14_code 2 (some .int) :: ws) ({ frames := 0, cells := 0, slots := 0, locals := 0 } : Room)) (fun a U => a = #[(.int (1 : Int32)), (.int (0 : Int32))] ∧ Z.Warmed39 U.vm ∧ U.heap = h0) (fun _ _ _ _ _ => True) (fun _ U o U' => ∃ v L, o = .returned v ∧ Qbc1 Z  h0 n0 v U'.heap L ∧ FrameEnd U o U' L ({ frames := 0, cells := 0, slots := 0, locals := 0 } : Room).cells ({ frames := 0, cells := 0, slots := 0, locals := 0 } : Room).slots) := by
  refine MetFree.of_bodySF (plainFor_of_name pn_java_lang_Boolean) hisR ?_
  intro p e s m args below meth c s₁ Bd hml0 hP hK
  obtain ⟨rfl, hZ, hh⟩ := hP
  have hx := Bd.exec
  have hby := Bd.bytes
  have hml : c.maxLocals = 2 := hml0
  have hown : s.vm.findClass "java/lang/Boolean" = some m.cls := findClass_of_methodNamed Bd.named
  have hnm := (name_of_methodNamed Bd.named Bd.method).1
  have X0 : Stand p l e ({ frames := 0, cells := 0, slots := 0, locals := 0 } : Room) s m #[(.int (1 : Int32)), (.int (0 : Int32))] below meth c s₁ [] 0 0 := Stand.of_body Bd
  have e0 : s₁.heap = h0 := by rw [← hh, Bd.state]; rfl
  have N0 := Fr.nil n0
  have pre0 : ∀ t, Steps p.tables e below (s₁.setTop (mkF m 0 #[.val (.int (1 : Int32)), .val (.int (0 : Int32))] [])) t → Steps p.tables e below (s₁.setTop (entryFrame m #[(.int (1 : Int32)), (.int (0 : Int32))] 2)) t := fun t k => castTop (ef_bc1 m (1 : Int32) (0 : Int32)) k
  have pre35 : ∀ t, Steps p.tables e below (s₁.setTop (mkF m 18 #[.val (.int (1 : Int32)), .val (.int (0 : Int32))] [(.int (1 : Int32))])) t → Steps p.tables e below (s₁.setTop (mkF m 0 #[.val (.int (1 : Int32)), .val (.int (0 : Int32))] [])) t := by
    intro t kt
    show Steps p.tables e below (s₁.setTop (mkF m 0 #[.val (.int (1 : Int32)), .val (.int (0 : Int32))] [])) _
    refine XS.iloadN X0.here hx rfl (hb hby d7_0) rfl ?_
    show Steps p.tables e below (s₁.setTop (mkF m 1 #[.val (.int (1 : Int32)), .val (.int (0 : Int32))] [(.int (1 : Int32))])) _
    refine XS.iloadN X0.here hx rfl (hb hby d7_1) rfl ?_
    show Steps p.tables e below (s₁.setTop (mkF m 2 #[.val (.int (1 : Int32)), .val (.int (0 : Int32))] [(.int (0 : Int32)), (.int (1 : Int32))])) _
    refine XS.icmpYes X0.here hx rfl (pc0 := 2) (pc' := 9) rfl (hb hby d7_2) rfl (feq (by decide : ¬ ((1 : Int32) = (0 : Int32)))).2 (by decide) (by decide) ?_
    show Steps p.tables e below (s₁.setTop (mkF m 9 #[.val (.int (1 : Int32)), .val (.int (0 : Int32))] [])) _
    refine XS.iloadN X0.here hx rfl (hb hby d7_9) rfl ?_
    show Steps p.tables e below (s₁.setTop (mkF m 10 #[.val (.int (1 : Int32)), .val (.int (0 : Int32))] [(.int (1 : Int32))])) _
    refine XS.ifNo X0.here hx rfl (hb hby d7_10) rfl ((if0 _ _).trans (feq (by decide : ¬ ((1 : Int32) = (0 : Int32)))).1) ?_
    show Steps p.tables e below (s₁.setTop (mkF m 13 #[.val (.int (1 : Int32)), .val (.int (0 : Int32))] [])) _
    refine XS.iconst X0.here hx rfl (hb hby d7_13) ?_
    show Steps p.tables e below (s₁.setTop (mkF m 14 #[.val (.int (1 : Int32)), .val (.int (0 : Int32))] [(.int (1 : Int32))])) _
    refine XS.goto X0.here hx rfl (pc0 := 14) (pc' := 18) rfl (hb hby d7_14) (by decide) (by decide) ?_
    exact kt
  obtain ⟨fs, hr, hrun, hended, hW, hsame⟩ := X0.leave (v := some (.int (1 : Int32))) (fun h => by rw [Bd.returns] at h; cases h)
  refine ⟨_, _, (pre0 _ (pre35 _ ?_)), hrun, hended, _, _, rfl, ?_, ⟨_, rfl⟩, hW, hsame.mono (by decide) (by decide)⟩
  · show Steps p.tables e below (s₁.setTop (mkF m 18 #[.val (.int (1 : Int32)), .val (.int (0 : Int32))] [(.int (1 : Int32))])) _
    exact retOut X0 hx (t := .int) Bd.returns rfl (Or.inl ⟨rfl, Or.inl rfl, _, rfl⟩) (hb hby d7_18) hr
  · show Qbc1 Z h0 n0 _ s₁.heap _
    rw [e0]
    exact ⟨rfl, N0, rfl⟩
theorem ef_cs1 (m : MethodId) (x0 : Addr) (x1 : Addr) : entryFrame m #[(.ref x0), (.ref x1)] 2 = mkF m 0 #[.val (.ref x0), .val (.ref x1)] [] := by (first | (simp [entryFrame, mkF, argsToLocals, Value.category]; done) | rfl)
def Qcs1 (Z : State) (a1 : Addr) (a2 : Addr) (h0 : Heap) (n0 : Nat) (v : Option Value) (h : Heap) (L : List Loc) : Prop := v = some (.int (1 : Int32)) ∧ Fr n0 L ∧ h = h0
set_option maxRecDepth 65536 in
set_option maxHeartbeats 40000000 in
theorem rmcs1 (l : Launch) (Z : State) (a0 : Array Value) (hw : ∀ d ∈ tables_1, d.before a0 Z = true) (ws : List Jvm.Cond) (a1 : Addr) (a2 : Addr) (h0 : Heap) (n0 : Nat) (Z0 : n0 ≤ h0.size) (E1 : Exa Z h0 a1 "com/example/formal_model_bench/formalmodelbench/engine/BoolValue") (E2 : Exa Z h0 a2 "com/example/formal_model_bench/formalmodelbench/engine/BoolValue") (F1 : Fld Z h0 a1 "com/example/formal_model_bench/formalmodelbench/engine/BoolValue" "value" "Z" (.int (1 : Int32))) (F2 : Fld Z h0 a2 "com/example/formal_model_bench/formalmodelbench/engine/BoolValue" "value" "Z" (.int (0 : Int32))) :
    MetFree l (⟨"com/example/formal_model_bench/formalmodelbench/engine/BoolValue", "compareSameKind", "(Lcom/example/formal_model_bench/formalmodelbench/engine/Value;)I"⟩ : MethodName) (head1 (Jvm.Cond.code (⟨"com/example/formal_model_bench/formalmodelbench/engine/BoolValue", "compareSameKind", "(Lcom/example/formal_model_bench/formalmodelbench/engine/Value;)I"⟩ : MethodName) prog_6_method_5_code 2 (some .int) :: ws) ({ frames := 1, cells := 0, slots := 0, locals := 16 } : Room)) (fun a U => a = #[(.ref a1), (.ref a2)] ∧ Z.Warmed39 U.vm ∧ U.heap = h0) (fun _ _ _ _ _ => True) (fun _ U o U' => ∃ v L, o = .returned v ∧ Qcs1 Z a1 a2 h0 n0 v U'.heap L ∧ FrameEnd U o U' L ({ frames := 1, cells := 0, slots := 0, locals := 16 } : Room).cells ({ frames := 1, cells := 0, slots := 0, locals := 16 } : Room).slots) := by
  refine MetFree.of_bodySF (plainFor_of_name pn_com_example_formal_model_bench_formalmodelbench_engine_BoolValue) hisR ?_
  intro p e s m args below meth c s₁ Bd hml0 hP hK
  obtain ⟨rfl, hZ, hh⟩ := hP
  have hx := Bd.exec
  have hby := Bd.bytes
  have hml : c.maxLocals = 2 := hml0
  have hown : s.vm.findClass "com/example/formal_model_bench/formalmodelbench/engine/BoolValue" = some m.cls := findClass_of_methodNamed Bd.named
  have hnm := (name_of_methodNamed Bd.named Bd.method).1
  have X0 : Stand p l e ({ frames := 1, cells := 0, slots := 0, locals := 16 } : Room) s m #[(.ref a1), (.ref a2)] below meth c s₁ [] 0 0 := Stand.of_body Bd
  have e0 : s₁.heap = h0 := by rw [← hh, Bd.state]; rfl
  have N0 := Fr.nil n0
  have pre0 : ∀ t, Steps p.tables e below (s₁.setTop (mkF m 0 #[.val (.ref a1), .val (.ref a2)] [])) t → Steps p.tables e below (s₁.setTop (entryFrame m #[(.ref a1), (.ref a2)] 2)) t := fun t k => castTop (ef_cs1 m a1 a2) k
  obtain ⟨T36, X36, e36, st36⟩ := getF X0 hx hZ hown (host := "") (Or.inl (hw _ (List.mem_of_getElem? (i := 13) rfl))) Via.refl e0 F1 (g := (mkF m 1 #[.val (.ref a1), .val (.ref a2)] [(.ref a1)])) rfl rfl (hb hby d6_1)
  obtain ⟨T37, X37, e37, st37⟩ := castY X36 hx hZ hown (hw _ (List.mem_of_getElem? (i := 51) rfl)) e36 (Ins.self E2) (g := (mkF m 5 #[.val (.ref a1), .val (.ref a2)] [(.ref a2), (.int (1 : Int32))])) rfl rfl (hb hby d6_5)
  obtain ⟨T38, X38, e38, st38⟩ := getF X37 hx hZ hown (host := "") (Or.inl (hw _ (List.mem_of_getElem? (i := 13) rfl))) Via.refl e37 F2 (g := (mkF m 8 #[.val (.ref a1), .val (.ref a2)] [(.ref a2), (.int (1 : Int32))])) rfl rfl (hb hby d6_8)
  obtain ⟨_, _, ⟨T39, L39, k39, n39⟩, -, X39, ⟨Lc39, hQ39, l39, y39, z39⟩, st39⟩ := Jvm.LawKit.callS X38 hx (y := (⟨"java/lang/Boolean", "compare", "(ZZ)I"⟩ : MethodName)) hown (mvT hZ (hw _ (List.mem_of_getElem? (i := 53) rfl))) (mvT hZ (hw _ (List.mem_of_getElem? (i := 54) rfl))) (mvT hZ (hw _ (List.mem_of_getElem? (i := 55) rfl))) (mvT hZ (hw _ (List.mem_of_getElem? (i := 56) rfl))) (by decide) (backOf (W := 0) (rmbc1 l Z a0 hw [] h0 n0 Z0) hZ (hw _ (List.mem_of_getElem? (i := 56) rfl)) (hw _ (List.mem_of_getElem? (i := 55) rfl)) (by decide) (by decide)) (g := (mkF m 11 #[.val (.ref a1), .val (.ref a2)] [(.int (0 : Int32)), (.int (1 : Int32))])) rfl (by rw [hml]; rfl) (argsL := [(.int (1 : Int32)), (.int (0 : Int32))]) (rest := []) (lenOf pd__ZZ_I rfl) rfl (by show 2 * 0 + _ ≤ _; exact Nat.le_of_eq rfl) (hb hby d6_11) (fun _ _ => ⟨rfl, e38, (by decide : 0 + 0 ≤ _), (by decide : 0 + 0 ≤ _)⟩)
  dsimp only [Pt.U, Pt.locs, Pt.cells, Pt.slots] at X39 l39 y39 z39 st39 hQ39
  subst l39 y39 z39
  obtain ⟨rfl, N39q, EQ39⟩ := hQ39
  have N39 := Fr.app N0 N39q
  have Z39 : n0 ≤ T39.heap.size := by rw [EQ39]; exact Z0
  have K39 := own_keq EQ39 (Keep.refl h0 [])
  have pre40 : ∀ t, Steps p.tables e below (T39.setTop (mkF m 14 #[.val (.ref a1), .val (.ref a2)] [(.int (1 : Int32))])) t → Steps p.tables e below (s₁.setTop (mkF m 0 #[.val (.ref a1), .val (.ref a2)] [])) t := by
    intro t kt
    show Steps p.tables e below (s₁.setTop (mkF m 0 #[.val (.ref a1), .val (.ref a2)] [])) _
    refine XS.aloadN X0.here hx rfl (hb hby d6_0) rfl rfl ?_
    show Steps p.tables e below (s₁.setTop (mkF m 1 #[.val (.ref a1), .val (.ref a2)] [(.ref a1)])) _
    refine st36 _ ?_
    show Steps p.tables e below (T36.setTop (mkF m 4 #[.val (.ref a1), .val (.ref a2)] [(.int (1 : Int32))])) _
    refine XS.aloadN X36.here hx rfl (hb hby d6_4) rfl rfl ?_
    show Steps p.tables e below (T36.setTop (mkF m 5 #[.val (.ref a1), .val (.ref a2)] [(.ref a2), (.int (1 : Int32))])) _
    refine st37 _ ?_
    show Steps p.tables e below (T37.setTop (mkF m 8 #[.val (.ref a1), .val (.ref a2)] [(.ref a2), (.int (1 : Int32))])) _
    refine st38 _ ?_
    show Steps p.tables e below (T38.setTop (mkF m 11 #[.val (.ref a1), .val (.ref a2)] [(.int (0 : Int32)), (.int (1 : Int32))])) _
    refine st39 _ ?_
    exact kt
  obtain ⟨fs, hr, hrun, hended, hW, hsame⟩ := X39.leave (v := some (.int (1 : Int32))) (fun h => by rw [Bd.returns] at h; cases h)
  refine ⟨_, _, (pre0 _ (pre40 _ ?_)), hrun, hended, _, _, rfl, ?_, ⟨_, rfl⟩, hW, hsame.mono (by decide) (by decide)⟩
  · show Steps p.tables e below (T39.setTop (mkF m 14 #[.val (.ref a1), .val (.ref a2)] [(.int (1 : Int32))])) _
    exact retOut X39 hx (t := .int) Bd.returns rfl (Or.inl ⟨rfl, Or.inl rfl, _, rfl⟩) (hb hby d6_14) hr
  · show Qcs1 Z a1 a2 h0 n0 _ T39.heap _
    exact ⟨rfl, N39, EQ39⟩
theorem ef_cmp1 (m : MethodId) (x0 : Addr) (x1 : Addr) : entryFrame m #[(.ref x0), (.ref x1)] 3 = mkF m 0 #[.val (.ref x0), .val (.ref x1), .unset] [] := by (first | (simp [entryFrame, mkF, argsToLocals, Value.category]; done) | rfl)
def Qcmp1 (Z : State) (a1 : Addr) (a2 : Addr) (aK : Addr) (wo : Int32) (h0 : Heap) (n0 : Nat) (v : Option Value) (h : Heap) (L : List Loc) : Prop := v = some (.int (1 : Int32)) ∧ Fr n0 L ∧ h = h0
set_option maxRecDepth 65536 in
set_option maxHeartbeats 40000000 in
theorem rmcmp1 (l : Launch) (Z : State) (a0 : Array Value) (hw : ∀ d ∈ tables_1, d.before a0 Z = true) (ws : List Jvm.Cond) (a1 : Addr) (a2 : Addr) (aK : Addr) (wo : Int32) (h0 : Heap) (n0 : Nat) (Z0 : n0 ≤ h0.size) (E1 : Exa Z h0 a1 "com/example/formal_model_bench/formalmodelbench/engine/BoolValue") (E2 : Exa Z h0 a2 "com/example/formal_model_bench/formalmodelbench/engine/BoolValue") (F1 : Fld Z h0 a1 "com/example/formal_model_bench/formalmodelbench/engine/BoolValue" "value" "Z" (.int (1 : Int32))) (F2 : Fld Z h0 a2 "com/example/formal_model_bench/formalmodelbench/engine/BoolValue" "value" "Z" (.int (0 : Int32))) (SK : Sta Z h0 "com/example/formal_model_bench/formalmodelbench/engine/Value$Kind" "BOOL" "Lcom/example/formal_model_bench/formalmodelbench/engine/Value$Kind;" (.ref aK)) (EK : Exa Z h0 aK "com/example/formal_model_bench/formalmodelbench/engine/Value$Kind") (FK : Fld Z h0 aK "java/lang/Enum" "ordinal" "I" (.int wo)) (M : MirrorMade Z "com/example/formal_model_bench/formalmodelbench/engine/Value$Kind") :
    MetFree l (⟨"com/example/formal_model_bench/formalmodelbench/engine/Value", "compareTo", "(Lcom/example/formal_model_bench/formalmodelbench/engine/Value;)I"⟩ : MethodName) (head1 (Jvm.Cond.code (⟨"com/example/formal_model_bench/formalmodelbench/engine/Value", "compareTo", "(Lcom/example/formal_model_bench/formalmodelbench/engine/Value;)I"⟩ : MethodName) prog_103_method_4_code 3 (some .int) :: ws) ({ frames := 2, cells := 0, slots := 0, locals := 64 } : Room)) (fun a U => a = #[(.ref a1), (.ref a2)] ∧ Z.Warmed39 U.vm ∧ U.heap = h0) (fun _ _ _ _ _ => True) (fun _ U o U' => ∃ v L, o = .returned v ∧ Qcmp1 Z a1 a2 aK wo h0 n0 v U'.heap L ∧ FrameEnd U o U' L ({ frames := 2, cells := 0, slots := 0, locals := 64 } : Room).cells ({ frames := 2, cells := 0, slots := 0, locals := 64 } : Room).slots) := by
  refine MetFree.of_bodySF (plainFor_of_name pn_com_example_formal_model_bench_formalmodelbench_engine_Value) hisR ?_
  intro p e s m args below meth c s₁ Bd hml0 hP hK
  obtain ⟨rfl, hZ, hh⟩ := hP
  have hx := Bd.exec
  have hby := Bd.bytes
  have hml : c.maxLocals = 3 := hml0
  have hown : s.vm.findClass "com/example/formal_model_bench/formalmodelbench/engine/Value" = some m.cls := findClass_of_methodNamed Bd.named
  have hnm := (name_of_methodNamed Bd.named Bd.method).1
  have X0 : Stand p l e ({ frames := 2, cells := 0, slots := 0, locals := 64 } : Room) s m #[(.ref a1), (.ref a2)] below meth c s₁ [] 0 0 := Stand.of_body Bd
  have e0 : s₁.heap = h0 := by rw [← hh, Bd.state]; rfl
  have N0 := Fr.nil n0
  have pre0 : ∀ t, Steps p.tables e below (s₁.setTop (mkF m 0 #[.val (.ref a1), .val (.ref a2), .unset] [])) t → Steps p.tables e below (s₁.setTop (entryFrame m #[(.ref a1), (.ref a2)] 3)) t := fun t k => castTop (ef_cmp1 m a1 a2) k
  obtain ⟨cq41, kq41, q41a, q41b, q41c⟩ := isOf hZ e0 E1
  obtain ⟨_, _, ⟨T41, L41, k41, n41⟩, -, X41, ⟨Lc41, hQ41, l41, y41, z41⟩, st41⟩ := X0.virtualBack hx (y := (⟨"com/example/formal_model_bench/formalmodelbench/engine/Value", "kind", "()Lcom/example/formal_model_bench/formalmodelbench/engine/Value$Kind;"⟩ : MethodName)) (z := (⟨"com/example/formal_model_bench/formalmodelbench/engine/BoolValue", "kind", "()Lcom/example/formal_model_bench/formalmodelbench/engine/Value$Kind;"⟩ : MethodName)) hown (mvT hZ (hw _ (List.mem_of_getElem? (i := 23) rfl))) (mvT hZ (hw _ (List.mem_of_getElem? (i := 24) rfl))) (own_nf (a0 := a0) (Z := Z) (args := #[]) (mvT hZ (hw _ (List.mem_of_getElem? (i := 20) rfl))) rfl) (mvT hZ (hw _ (List.mem_of_getElem? (i := 25) rfl))) (mvT hZ (hw _ (List.mem_of_getElem? (i := 26) rfl))) (by decide) (backOf (W := 0) (rmkind l Z a0 hw [] a1 aK h0 n0 Z0 SK) hZ (hw _ (List.mem_of_getElem? (i := 27) rfl)) (hw _ (List.mem_of_getElem? (i := 2) rfl)) (by decide) (by decide)) q41a q41c (g := (mkF m 1 #[.val (.ref a1), .val (.ref a2), .unset] [(.ref a1)])) rfl (by rw [hml]; rfl) (Steps.refl _) (argsL := []) (rest := []) (lenOf pd___Lcom_example_formal_model_bench_formalmodelbench_engine_Value_Kind_ rfl) rfl (by show 2 * 0 + _ ≤ _; exact Nat.le_of_eq rfl) (hb hby d3_1) (fun _ _ => ⟨rfl, e0, (by decide : 0 + 0 ≤ _), (by decide : 0 + 0 ≤ _)⟩)
  dsimp only [Pt.U, Pt.locs, Pt.cells, Pt.slots] at X41 l41 y41 z41 st41 hQ41
  subst l41 y41 z41
  obtain ⟨rfl, N41q, EQ41⟩ := hQ41
  have N41 := Fr.app N0 N41q
  have Z41 : n0 ≤ T41.heap.size := by rw [EQ41]; exact Z0
  have K41 := own_keq EQ41 (Keep.refl h0 [])
  have f42 := (EQ41 ▸ SK)
  have f44 := (EQ41 ▸ E2)
  obtain ⟨cq43, kq43, q43a, q43b, q43c⟩ := isOf hZ rfl f44
  obtain ⟨_, _, ⟨T43, L43, k43, n43⟩, -, X43, ⟨Lc43, hQ43, l43, y43, z43⟩, st43⟩ := X41.virtualBack hx (y := (⟨"com/example/formal_model_bench/formalmodelbench/engine/Value", "kind", "()Lcom/example/formal_model_bench/formalmodelbench/engine/Value$Kind;"⟩ : MethodName)) (z := (⟨"com/example/formal_model_bench/formalmodelbench/engine/BoolValue", "kind", "()Lcom/example/formal_model_bench/formalmodelbench/engine/Value$Kind;"⟩ : MethodName)) hown (mvT hZ (hw _ (List.mem_of_getElem? (i := 23) rfl))) (mvT hZ (hw _ (List.mem_of_getElem? (i := 24) rfl))) (own_nf (a0 := a0) (Z := Z) (args := #[]) (mvT hZ (hw _ (List.mem_of_getElem? (i := 20) rfl))) rfl) (mvT hZ (hw _ (List.mem_of_getElem? (i := 25) rfl))) (mvT hZ (hw _ (List.mem_of_getElem? (i := 26) rfl))) (by decide) (backOf (W := 1) (rmkind l Z a0 hw [] a2 aK T41.heap n0 Z41 f42) hZ (hw _ (List.mem_of_getElem? (i := 27) rfl)) (hw _ (List.mem_of_getElem? (i := 2) rfl)) (by decide) (by decide)) q43a q43c (g := (mkF m 5 #[.val (.ref a1), .val (.ref a2), .unset] [(.ref a2), (.ref aK)])) rfl (by rw [hml]; rfl) (Steps.refl _) (argsL := []) (rest := [(.ref aK)]) (lenOf pd___Lcom_example_formal_model_bench_formalmodelbench_engine_Value_Kind_ rfl) rfl (by show 2 * 0 + _ ≤ _; exact Nat.le_of_eq rfl) (hb hby d3_5) (fun _ _ => ⟨rfl, rfl, (by decide : 0 + 0 ≤ _), (by decide : 0 + 0 ≤ _)⟩)
  dsimp only [Pt.U, Pt.locs, Pt.cells, Pt.slots] at X43 l43 y43 z43 st43 hQ43
  subst l43 y43 z43
  obtain ⟨rfl, N43q, EQ43⟩ := hQ43
  have N43 := Fr.app N41 N43q
  have Z43 : n0 ≤ T43.heap.size := by rw [EQ43]; exact Z41
  have K43 := own_keq EQ43 K41
  have f45 := (EQ43 ▸ (EQ41 ▸ EK))
  have f46 := (EQ43 ▸ (EQ41 ▸ FK))
  obtain ⟨cq47, kq47, q47a, q47b, q47c⟩ := isOf hZ rfl f45
  obtain ⟨_, _, ⟨T47, L47, k47, n47⟩, -, X47, ⟨Lc47, hQ47, l47, y47, z47⟩, st47⟩ := X43.virtualBackUp hx (x := (⟨"com/example/formal_model_bench/formalmodelbench/engine/Value$Kind", "compareTo", "(Ljava/lang/Enum;)I"⟩ : MethodName)) (y := (⟨"java/lang/Enum", "compareTo", "(Ljava/lang/Enum;)I"⟩ : MethodName)) hown (mvT hZ (hw _ (List.mem_of_getElem? (i := 31) rfl))) (mvT hZ (hw _ (List.mem_of_getElem? (i := 32) rfl))) (mvT hZ (hw _ (List.mem_of_getElem? (i := 33) rfl))) (by decide) (mvT hZ (hw _ (List.mem_of_getElem? (i := 35) rfl))) (mvT hZ (hw _ (List.mem_of_getElem? (i := 34) rfl))) (backOf (W := 0) (rmec l Z a0 hw [] aK wo T43.heap n0 Z43 f45 f46 M) hZ (hw _ (List.mem_of_getElem? (i := 37) rfl)) (hw _ (List.mem_of_getElem? (i := 36) rfl)) (by decide) (by decide)) q47a q47c (g := (mkF m 8 #[.val (.ref a1), .val (.ref a2), .unset] [(.ref aK), (.ref aK)])) rfl (by rw [hml]; rfl) (Steps.refl _) (argsL := [(.ref aK)]) (rest := []) (lenOf pd__Ljava_lang_Enum__I rfl) rfl (by show 2 * 0 + _ ≤ _; exact Nat.le_of_eq rfl) (hb hby d3_8) (fun _ _ => ⟨rfl, rfl, (by decide : 0 + 0 ≤ _), (by decide : 0 + 0 ≤ _)⟩)
  dsimp only [Pt.U, Pt.locs, Pt.cells, Pt.slots] at X47 l47 y47 z47 st47 hQ47
  subst l47 y47 z47
  obtain ⟨rfl, N47q, EQ47⟩ := hQ47
  have N47 := Fr.app N43 N47q
  have Z47 : n0 ≤ T47.heap.size := by rw [EQ47]; exact Z43
  have K47 := own_keq EQ47 K43
  have f48 := (EQ47 ▸ (EQ43 ▸ (EQ41 ▸ E1)))
  have f49 := (EQ47 ▸ (EQ43 ▸ f44))
  have f50 := (EQ47 ▸ (EQ43 ▸ (EQ41 ▸ F1)))
  have f51 := (EQ47 ▸ (EQ43 ▸ (EQ41 ▸ F2)))
  obtain ⟨cq52, kq52, q52a, q52b, q52c⟩ := isOf hZ rfl f48
  obtain ⟨_, _, ⟨T52, L52, k52, n52⟩, -, X52, ⟨Lc52, hQ52, l52, y52, z52⟩, st52⟩ := X47.virtualBack hx (y := (⟨"com/example/formal_model_bench/formalmodelbench/engine/Value", "compareSameKind", "(Lcom/example/formal_model_bench/formalmodelbench/engine/Value;)I"⟩ : MethodName)) (z := (⟨"com/example/formal_model_bench/formalmodelbench/engine/BoolValue", "compareSameKind", "(Lcom/example/formal_model_bench/formalmodelbench/engine/Value;)I"⟩ : MethodName)) hown (mvT hZ (hw _ (List.mem_of_getElem? (i := 46) rfl))) (mvT hZ (hw _ (List.mem_of_getElem? (i := 47) rfl))) (own_nf (a0 := a0) (Z := Z) (args := #[]) (mvT hZ (hw _ (List.mem_of_getElem? (i := 20) rfl))) rfl) (mvT hZ (hw _ (List.mem_of_getElem? (i := 48) rfl))) (mvT hZ (hw _ (List.mem_of_getElem? (i := 49) rfl))) (by decide) (backOf (W := 0) (rmcs1 l Z a0 hw [] a1 a2 T47.heap n0 Z47 f48 f49 f50 f51) hZ (hw _ (List.mem_of_getElem? (i := 50) rfl)) (hw _ (List.mem_of_getElem? (i := 2) rfl)) (by decide) (by decide)) q52a q52c (g := (mkF m 22 #[.val (.ref a1), .val (.ref a2), .val (.int (wo - wo))] [(.ref a2), (.ref a1)])) rfl (by rw [hml]; rfl) (Steps.refl _) (argsL := [(.ref a2)]) (rest := []) (lenOf pd__Lcom_example_formal_model_bench_formalmodelbench_engine_Value__I rfl) rfl (by show 2 * 0 + _ ≤ _; exact Nat.le_of_eq rfl) (hb hby d3_22) (fun _ _ => ⟨rfl, rfl, (by decide : 0 + 0 ≤ _), (by decide : 0 + 0 ≤ _)⟩)
  dsimp only [Pt.U, Pt.locs, Pt.cells, Pt.slots] at X52 l52 y52 z52 st52 hQ52
  subst l52 y52 z52
  obtain ⟨rfl, N52q, EQ52⟩ := hQ52
  have N52 := Fr.app N47 N52q
  have Z52 : n0 ≤ T52.heap.size := by rw [EQ52]; exact Z47
  have K52 := own_keq EQ52 K47
  have pre53 : ∀ t, Steps p.tables e below (T52.setTop (mkF m 25 #[.val (.ref a1), .val (.ref a2), .val (.int (wo - wo))] [(.int (1 : Int32))])) t → Steps p.tables e below (s₁.setTop (mkF m 0 #[.val (.ref a1), .val (.ref a2), .unset] [])) t := by
    intro t kt
    show Steps p.tables e below (s₁.setTop (mkF m 0 #[.val (.ref a1), .val (.ref a2), .unset] [])) _
    refine XS.aloadN X0.here hx rfl (hb hby d3_0) rfl rfl ?_
    show Steps p.tables e below (s₁.setTop (mkF m 1 #[.val (.ref a1), .val (.ref a2), .unset] [(.ref a1)])) _
    refine st41.trans ?_
    show Steps p.tables e below (T41.setTop (mkF m 4 #[.val (.ref a1), .val (.ref a2), .unset] [(.ref aK)])) _
    refine XS.aloadN X41.here hx rfl (hb hby d3_4) rfl rfl ?_
    show Steps p.tables e below (T41.setTop (mkF m 5 #[.val (.ref a1), .val (.ref a2), .unset] [(.ref a2), (.ref aK)])) _
    refine st43.trans ?_
    show Steps p.tables e below (T43.setTop (mkF m 8 #[.val (.ref a1), .val (.ref a2), .unset] [(.ref aK), (.ref aK)])) _
    refine st47.trans ?_
    show Steps p.tables e below (T47.setTop (mkF m 11 #[.val (.ref a1), .val (.ref a2), .unset] [(.int (wo - wo))])) _
    refine XS.istoreN X47.here hx rfl (hb hby d3_11) rfl (l' := #[.val (.ref a1), .val (.ref a2), .val (.int (wo - wo))]) rfl ?_
    show Steps p.tables e below (T47.setTop (mkF m 12 #[.val (.ref a1), .val (.ref a2), .val (.int (wo - wo))] [])) _
    refine XS.iloadN X47.here hx rfl (hb hby d3_12) rfl ?_
    show Steps p.tables e below (T47.setTop (mkF m 13 #[.val (.ref a1), .val (.ref a2), .val (.int (wo - wo))] [(.int (wo - wo))])) _
    refine XS.ifYes X47.here hx rfl (pc0 := 13) (pc' := 20) rfl (hb hby d3_13) rfl ((if0 _ _).trans (teq (by simp : (wo - wo) = (0 : Int32))).1) (by decide) (by decide) ?_
    show Steps p.tables e below (T47.setTop (mkF m 20 #[.val (.ref a1), .val (.ref a2), .val (.int (wo - wo))] [])) _
    refine XS.aloadN X47.here hx rfl (hb hby d3_20) rfl rfl ?_
    show Steps p.tables e below (T47.setTop (mkF m 21 #[.val (.ref a1), .val (.ref a2), .val (.int (wo - wo))] [(.ref a1)])) _
    refine XS.aloadN X47.here hx rfl (hb hby d3_21) rfl rfl ?_
    show Steps p.tables e below (T47.setTop (mkF m 22 #[.val (.ref a1), .val (.ref a2), .val (.int (wo - wo))] [(.ref a2), (.ref a1)])) _
    refine st52.trans ?_
    exact kt
  obtain ⟨fs, hr, hrun, hended, hW, hsame⟩ := X52.leave (v := some (.int (1 : Int32))) (fun h => by rw [Bd.returns] at h; cases h)
  refine ⟨_, _, (pre0 _ (pre53 _ ?_)), hrun, hended, _, _, rfl, ?_, ⟨_, rfl⟩, hW, hsame.mono (by decide) (by decide)⟩
  · show Steps p.tables e below (T52.setTop (mkF m 25 #[.val (.ref a1), .val (.ref a2), .val (.int (wo - wo))] [(.int (1 : Int32))])) _
    exact retOut X52 hx (t := .int) Bd.returns rfl (Or.inl ⟨rfl, Or.inl rfl, _, rfl⟩) (hb hby d3_25) hr
  · show Qcmp1 Z a1 a2 aK wo h0 n0 _ T52.heap _
    exact ⟨rfl, N52, by rw [EQ52, EQ47, EQ43, EQ41]⟩
theorem ef_0 (m : MethodId) (x0 : Int32) : entryFrame m #[(.int x0)] maxLocals = mkF m 0 #[.val (.int x0), .unset, .unset, .unset, .unset, .unset, .unset, .unset, .unset, .unset] [] := by (first | (simp [entryFrame, mkF, argsToLocals, Value.category, maxLocals]; done) | rfl)
def Q0 (Z : State) (p1 : Int32) (aF : Addr) (aT : Addr) (aK : Addr) (wo : Int32) (h0 : Heap) (n0 : Nat) (v : Option Value) (h : Heap) (L : List Loc) : Prop := v = some (.int (1 : Int32)) ∧ Fr n0 L
theorem pn_com_example_formal_model_bench_formalmodelbench_engine_BoolValueOfPinLaw : plainName "com/example/formal_model_bench/formalmodelbench/engine/BoolValueOfPinLaw" = true := by first | (simp [plainName, overriddenIn]; done) | decide +kernel
theorem pd__Z_Lcom_example_formal_model_bench_formalmodelbench_engine_BoolValue_ : parseMethodDescriptor "(Z)Lcom/example/formal_model_bench/formalmodelbench/engine/BoolValue;" = some ⟨[.boolean], some (.object "com/example/formal_model_bench/formalmodelbench/engine/BoolValue")⟩ := by decide +kernel
theorem pd___Z : parseMethodDescriptor "()Z" = some ⟨[], some .boolean⟩ := by decide +kernel
set_option maxRecDepth 65536 in
set_option maxHeartbeats 40000000 in
theorem rm0 (l : Launch) (Z : State) (a0 : Array Value) (hw : ∀ d ∈ tables_1, d.before a0 Z = true) (ws : List Jvm.Cond) (p1 : Int32) (aF : Addr) (aT : Addr) (aK : Addr) (wo : Int32) (h0 : Heap) (n0 : Nat) (Z0 : n0 ≤ h0.size) (SF : Sta Z h0 "com/example/formal_model_bench/formalmodelbench/engine/BoolValue" "FALSE" "Lcom/example/formal_model_bench/formalmodelbench/engine/BoolValue;" (.ref aF)) (ST : Sta Z h0 "com/example/formal_model_bench/formalmodelbench/engine/BoolValue" "TRUE" "Lcom/example/formal_model_bench/formalmodelbench/engine/BoolValue;" (.ref aT)) (EF : Exa Z h0 aF "com/example/formal_model_bench/formalmodelbench/engine/BoolValue") (ET : Exa Z h0 aT "com/example/formal_model_bench/formalmodelbench/engine/BoolValue") (FF : Fld Z h0 aF "com/example/formal_model_bench/formalmodelbench/engine/BoolValue" "value" "Z" (.int (0 : Int32))) (FT : Fld Z h0 aT "com/example/formal_model_bench/formalmodelbench/engine/BoolValue" "value" "Z" (.int (1 : Int32))) (SK : Sta Z h0 "com/example/formal_model_bench/formalmodelbench/engine/Value$Kind" "BOOL" "Lcom/example/formal_model_bench/formalmodelbench/engine/Value$Kind;" (.ref aK)) (EK : Exa Z h0 aK "com/example/formal_model_bench/formalmodelbench/engine/Value$Kind") (FK : Fld Z h0 aK "java/lang/Enum" "ordinal" "I" (.int wo)) (M : MirrorMade Z "com/example/formal_model_bench/formalmodelbench/engine/Value$Kind") :
    MetFree l x (head1 (Jvm.Cond.code x code maxLocals ret :: ws) room_1) (fun a U => a = #[(.int p1)] ∧ Z.Warmed39 U.vm ∧ U.heap = h0) (fun _ _ _ _ _ => True) (fun _ U o U' => ∃ v L, o = .returned v ∧ Q0 Z p1 aF aT aK wo h0 n0 v U'.heap L ∧ FrameEnd U o U' L room_1.cells room_1.slots) := by
  refine MetFree.of_bodySF (plainFor_of_name pn_com_example_formal_model_bench_formalmodelbench_engine_BoolValueOfPinLaw) hisR ?_
  intro p e s m args below meth c s₁ Bd hml0 hP hK
  obtain ⟨rfl, hZ, hh⟩ := hP
  have hx := Bd.exec
  have hby := Bd.bytes
  have hml : c.maxLocals = 10 := hml0
  have hown : s.vm.findClass "com/example/formal_model_bench/formalmodelbench/engine/BoolValueOfPinLaw" = some m.cls := findClass_of_methodNamed Bd.named
  have hnm := (name_of_methodNamed Bd.named Bd.method).1
  have X0 : Stand p l e room_1 s m #[(.int p1)] below meth c s₁ [] 0 0 := Stand.of_body Bd
  have e0 : s₁.heap = h0 := by rw [← hh, Bd.state]; rfl
  have N0 := Fr.nil n0
  have pre0 : ∀ t, Steps p.tables e below (s₁.setTop (mkF m 0 #[.val (.int p1), .unset, .unset, .unset, .unset, .unset, .unset, .unset, .unset, .unset] [])) t → Steps p.tables e below (s₁.setTop (entryFrame m #[(.int p1)] maxLocals)) t := fun t k => castTop (ef_0 m p1) k
  have pre54 : ∀ t, Steps p.tables e below (s₁.setTop (mkF m 3 #[.val (.int p1), .unset, .unset, .unset, .unset, .unset, .unset, .unset, .unset, .unset] [(.int (p1 &&& (1 : Int32)))])) t → Steps p.tables e below (s₁.setTop (mkF m 0 #[.val (.int p1), .unset, .unset, .unset, .unset, .unset, .unset, .unset, .unset, .unset] [])) t := by
    intro t kt
    show Steps p.tables e below (s₁.setTop (mkF m 0 #[.val (.int p1), .unset, .unset, .unset, .unset, .unset, .unset, .unset, .unset, .unset] [])) _
    refine XS.iloadN X0.here hx rfl (hb hby at_0) rfl ?_
    show Steps p.tables e below (s₁.setTop (mkF m 1 #[.val (.int p1), .unset, .unset, .unset, .unset, .unset, .unset, .unset, .unset, .unset] [(.int p1)])) _
    refine XS.iconst X0.here hx rfl (hb hby at_1) ?_
    show Steps p.tables e below (s₁.setTop (mkF m 2 #[.val (.int p1), .unset, .unset, .unset, .unset, .unset, .unset, .unset, .unset, .unset] [(.int (1 : Int32)), (.int p1)])) _
    refine XS.iand X0.here hx rfl (hb hby at_2) rfl ?_
    exact kt
  by_cases c3 : (p1 &&& (1 : Int32)) = (0 : Int32)
  · skip
    obtain ⟨_, _, ⟨T55, L55, k55, n55⟩, -, X55, ⟨Lc55, hQ55, l55, y55, z55⟩, st55⟩ := Jvm.LawKit.callS X0 hx (y := (⟨"com/example/formal_model_bench/formalmodelbench/engine/BoolValue", "of", "(Z)Lcom/example/formal_model_bench/formalmodelbench/engine/BoolValue;"⟩ : MethodName)) hown (mvT hZ (hw _ (List.mem_of_getElem? (i := 0) rfl))) (mvT hZ (hw _ (List.mem_of_getElem? (i := 1) rfl))) (mvT hZ (hw _ (List.mem_of_getElem? (i := 2) rfl))) (mvT hZ (hw _ (List.mem_of_getElem? (i := 3) rfl))) (by decide) (backOf (W := 0) (rmof0 l Z a0 hw [] aF h0 n0 Z0 SF) hZ (hw _ (List.mem_of_getElem? (i := 3) rfl)) (hw _ (List.mem_of_getElem? (i := 2) rfl)) (by decide) (by decide)) (g := (mkF m 13 #[.val (.int p1), .val (.int (0 : Int32)), .unset, .unset, .unset, .unset, .unset, .unset, .unset, .unset] [(.int (0 : Int32))])) rfl (by rw [hml]; rfl) (argsL := [(.int (0 : Int32))]) (rest := []) (lenOf pd__Z_Lcom_example_formal_model_bench_formalmodelbench_engine_BoolValue_ rfl) rfl (by show 2 * 0 + _ ≤ _; exact Nat.le_of_eq rfl) (hb hby at_13) (fun _ _ => ⟨rfl, e0, (by decide : 0 + 0 ≤ _), (by decide : 0 + 0 ≤ _)⟩)
    dsimp only [Pt.U, Pt.locs, Pt.cells, Pt.slots] at X55 l55 y55 z55 st55 hQ55
    subst l55 y55 z55
    obtain ⟨rfl, N55q, EQ55⟩ := hQ55
    have N55 := Fr.app N0 N55q
    have Z55 : n0 ≤ T55.heap.size := by rw [EQ55]; exact Z0
    have K55 := own_keq EQ55 (Keep.refl h0 [])
    have f56 := (EQ55 ▸ SF)
    obtain ⟨_, _, ⟨T57, L57, k57, n57⟩, -, X57, ⟨Lc57, hQ57, l57, y57, z57⟩, st57⟩ := Jvm.LawKit.callS X55 hx (y := (⟨"com/example/formal_model_bench/formalmodelbench/engine/BoolValue", "of", "(Z)Lcom/example/formal_model_bench/formalmodelbench/engine/BoolValue;"⟩ : MethodName)) hown (mvT hZ (hw _ (List.mem_of_getElem? (i := 0) rfl))) (mvT hZ (hw _ (List.mem_of_getElem? (i := 1) rfl))) (mvT hZ (hw _ (List.mem_of_getElem? (i := 2) rfl))) (mvT hZ (hw _ (List.mem_of_getElem? (i := 3) rfl))) (by decide) (backOf (W := 0) (rmof0 l Z a0 hw [] aF T55.heap n0 Z55 f56) hZ (hw _ (List.mem_of_getElem? (i := 3) rfl)) (hw _ (List.mem_of_getElem? (i := 2) rfl)) (by decide) (by decide)) (g := (mkF m 18 #[.val (.int p1), .val (.int (0 : Int32)), .val (.ref aF), .unset, .unset, .unset, .unset, .unset, .unset, .unset] [(.int (0 : Int32))])) rfl (by rw [hml]; rfl) (argsL := [(.int (0 : Int32))]) (rest := []) (lenOf pd__Z_Lcom_example_formal_model_bench_formalmodelbench_engine_BoolValue_ rfl) rfl (by show 2 * 0 + _ ≤ _; exact Nat.le_of_eq rfl) (hb hby at_18) (fun _ _ => ⟨rfl, rfl, (by decide : 0 + 0 ≤ _), (by decide : 0 + 0 ≤ _)⟩)
    dsimp only [Pt.U, Pt.locs, Pt.cells, Pt.slots] at X57 l57 y57 z57 st57 hQ57
    subst l57 y57 z57
    obtain ⟨rfl, N57q, EQ57⟩ := hQ57
    have N57 := Fr.app N55 N57q
    have Z57 : n0 ≤ T57.heap.size := by rw [EQ57]; exact Z55
    have K57 := own_keq EQ57 K55
    have f58 := (EQ57 ▸ (EQ55 ▸ ST))
    obtain ⟨_, _, ⟨T59, L59, k59, n59⟩, -, X59, ⟨Lc59, hQ59, l59, y59, z59⟩, st59⟩ := Jvm.LawKit.callS X57 hx (y := (⟨"com/example/formal_model_bench/formalmodelbench/engine/BoolValue", "of", "(Z)Lcom/example/formal_model_bench/formalmodelbench/engine/BoolValue;"⟩ : MethodName)) hown (mvT hZ (hw _ (List.mem_of_getElem? (i := 0) rfl))) (mvT hZ (hw _ (List.mem_of_getElem? (i := 1) rfl))) (mvT hZ (hw _ (List.mem_of_getElem? (i := 2) rfl))) (mvT hZ (hw _ (List.mem_of_getElem? (i := 3) rfl))) (by decide) (backOf (W := 0) (rmof1 l Z a0 hw [] aT T57.heap n0 Z57 f58) hZ (hw _ (List.mem_of_getElem? (i := 3) rfl)) (hw _ (List.mem_of_getElem? (i := 2) rfl)) (by decide) (by decide)) (g := (mkF m 31 #[.val (.int p1), .val (.int (0 : Int32)), .val (.ref aF), .val (.ref aF), .unset, .unset, .unset, .unset, .unset, .unset] [(.int (1 : Int32))])) rfl (by rw [hml]; rfl) (argsL := [(.int (1 : Int32))]) (rest := []) (lenOf pd__Z_Lcom_example_formal_model_bench_formalmodelbench_engine_BoolValue_ rfl) rfl (by show 2 * 0 + _ ≤ _; exact Nat.le_of_eq rfl) (hb hby at_31) (fun _ _ => ⟨rfl, rfl, (by decide : 0 + 0 ≤ _), (by decide : 0 + 0 ≤ _)⟩)
    dsimp only [Pt.U, Pt.locs, Pt.cells, Pt.slots] at X59 l59 y59 z59 st59 hQ59
    subst l59 y59 z59
    obtain ⟨rfl, N59q, EQ59⟩ := hQ59
    have N59 := Fr.app N57 N59q
    have Z59 : n0 ≤ T59.heap.size := by rw [EQ59]; exact Z57
    have K59 := own_keq EQ59 K57
    have f60 := (EQ59 ▸ (EQ57 ▸ (EQ55 ▸ FF)))
    have f62 := (EQ59 ▸ (EQ57 ▸ (EQ55 ▸ EF)))
    obtain ⟨cq61, kq61, q61a, q61b, q61c⟩ := isOf hZ rfl f62
    obtain ⟨_, _, ⟨T61, L61, k61, n61⟩, -, X61, ⟨Lc61, hQ61, l61, y61, z61⟩, st61⟩ := X59.virtualBack hx (y := (⟨"com/example/formal_model_bench/formalmodelbench/engine/BoolValue", "value", "()Z"⟩ : MethodName)) (z := (⟨"com/example/formal_model_bench/formalmodelbench/engine/BoolValue", "value", "()Z"⟩ : MethodName)) hown (mvT hZ (hw _ (List.mem_of_getElem? (i := 8) rfl))) (mvT hZ (hw _ (List.mem_of_getElem? (i := 9) rfl))) (notFace_of_selects (args := #[]) (mvT hZ (hw _ (List.mem_of_getElem? (i := 11) rfl)))) (mvT hZ (hw _ (List.mem_of_getElem? (i := 11) rfl))) (mvT hZ (hw _ (List.mem_of_getElem? (i := 10) rfl))) (by decide) (backOf (W := 0) (rmval0 l Z a0 hw [] aF T59.heap n0 Z59 f60) hZ (hw _ (List.mem_of_getElem? (i := 12) rfl)) (hw _ (List.mem_of_getElem? (i := 2) rfl)) (by decide) (by decide)) q61a q61c (g := (mkF m 48 #[.val (.int p1), .val (.int (0 : Int32)), .val (.ref aF), .val (.ref aF), .val (.ref aT), .unset, .unset, .unset, .unset, .unset] [(.ref aF)])) rfl (by rw [hml]; rfl) (Steps.refl _) (argsL := []) (rest := []) (lenOf pd___Z rfl) rfl (by show 2 * 0 + _ ≤ _; exact Nat.le_of_eq rfl) (hb hby at_48) (fun _ _ => ⟨rfl, rfl, (by decide : 0 + 0 ≤ _), (by decide : 0 + 0 ≤ _)⟩)
    dsimp only [Pt.U, Pt.locs, Pt.cells, Pt.slots] at X61 l61 y61 z61 st61 hQ61
    subst l61 y61 z61
    obtain ⟨rfl, N61q, EQ61⟩ := hQ61
    have N61 := Fr.app N59 N61q
    have Z61 : n0 ≤ T61.heap.size := by rw [EQ61]; exact Z59
    have K61 := own_keq EQ61 K59
    have f63 := (EQ61 ▸ (EQ59 ▸ (EQ57 ▸ (EQ55 ▸ FT))))
    have f65 := (EQ61 ▸ (EQ59 ▸ (EQ57 ▸ (EQ55 ▸ ET))))
    obtain ⟨cq64, kq64, q64a, q64b, q64c⟩ := isOf hZ rfl f65
    obtain ⟨_, _, ⟨T64, L64, k64, n64⟩, -, X64, ⟨Lc64, hQ64, l64, y64, z64⟩, st64⟩ := X61.virtualBack hx (y := (⟨"com/example/formal_model_bench/formalmodelbench/engine/BoolValue", "value", "()Z"⟩ : MethodName)) (z := (⟨"com/example/formal_model_bench/formalmodelbench/engine/BoolValue", "value", "()Z"⟩ : MethodName)) hown (mvT hZ (hw _ (List.mem_of_getElem? (i := 8) rfl))) (mvT hZ (hw _ (List.mem_of_getElem? (i := 9) rfl))) (notFace_of_selects (args := #[]) (mvT hZ (hw _ (List.mem_of_getElem? (i := 11) rfl)))) (mvT hZ (hw _ (List.mem_of_getElem? (i := 11) rfl))) (mvT hZ (hw _ (List.mem_of_getElem? (i := 10) rfl))) (by decide) (backOf (W := 0) (rmval1 l Z a0 hw [] aT T61.heap n0 Z61 f63) hZ (hw _ (List.mem_of_getElem? (i := 12) rfl)) (hw _ (List.mem_of_getElem? (i := 2) rfl)) (by decide) (by decide)) q64a q64c (g := (mkF m 64 #[.val (.int p1), .val (.int (0 : Int32)), .val (.ref aF), .val (.ref aF), .val (.ref aT), .val (.int (1 : Int32)), .unset, .unset, .unset, .unset] [(.ref aT)])) rfl (by rw [hml]; rfl) (Steps.refl _) (argsL := []) (rest := []) (lenOf pd___Z rfl) rfl (by show 2 * 0 + _ ≤ _; exact Nat.le_of_eq rfl) (hb hby at_64) (fun _ _ => ⟨rfl, rfl, (by decide : 0 + 0 ≤ _), (by decide : 0 + 0 ≤ _)⟩)
    dsimp only [Pt.U, Pt.locs, Pt.cells, Pt.slots] at X64 l64 y64 z64 st64 hQ64
    subst l64 y64 z64
    obtain ⟨rfl, N64q, EQ64⟩ := hQ64
    have N64 := Fr.app N61 N64q
    have Z64 : n0 ≤ T64.heap.size := by rw [EQ64]; exact Z61
    have K64 := own_keq EQ64 K61
    have f66 := (EQ64 ▸ (EQ61 ▸ (EQ59 ▸ (EQ57 ▸ f56))))
    obtain ⟨T67, X67, e67, st67⟩ := getS2 X64 hx hZ hown (host := "") (Or.inl (hw _ (List.mem_of_getElem? (i := 15) rfl))) Via.refl rfl f66 (g := (mkF m 109 #[.val (.int p1), .val (.int (0 : Int32)), .val (.ref aF), .val (.ref aF), .val (.ref aT), .val (.int (1 : Int32)), .val (.int (1 : Int32)), .val (.int (1 : Int32)), .unset, .unset] [(.ref aF)])) rfl (hb hby at_109)
    have f68 := (EQ64 ▸ (EQ61 ▸ f62))
    have f69 := (EQ64 ▸ f65)
    have f70 := (EQ64 ▸ (EQ61 ▸ f60))
    have f71 := (EQ64 ▸ f63)
    have f72 := (EQ64 ▸ (EQ61 ▸ (EQ59 ▸ (EQ57 ▸ (EQ55 ▸ SK)))))
    have f73 := (EQ64 ▸ (EQ61 ▸ (EQ59 ▸ (EQ57 ▸ (EQ55 ▸ EK)))))
    have f74 := (EQ64 ▸ (EQ61 ▸ (EQ59 ▸ (EQ57 ▸ (EQ55 ▸ FK)))))
    obtain ⟨cq75, kq75, q75a, q75b, q75c⟩ := isOf hZ e67 f68
    obtain ⟨_, _, ⟨T75, L75, k75, n75⟩, -, X75, ⟨Lc75, hQ75, l75, y75, z75⟩, st75⟩ := X67.virtualBackUp hx (x := (⟨"com/example/formal_model_bench/formalmodelbench/engine/BoolValue", "compareTo", "(Lcom/example/formal_model_bench/formalmodelbench/engine/Value;)I"⟩ : MethodName)) (y := (⟨"com/example/formal_model_bench/formalmodelbench/engine/Value", "compareTo", "(Lcom/example/formal_model_bench/formalmodelbench/engine/Value;)I"⟩ : MethodName)) hown (mvT hZ (hw _ (List.mem_of_getElem? (i := 16) rfl))) (mvT hZ (hw _ (List.mem_of_getElem? (i := 17) rfl))) (mvT hZ (hw _ (List.mem_of_getElem? (i := 18) rfl))) (by decide) (mvT hZ (hw _ (List.mem_of_getElem? (i := 20) rfl))) (mvT hZ (hw _ (List.mem_of_getElem? (i := 19) rfl))) (backOf (W := 0) (rmcmp0 l Z a0 hw [] aF aT aK wo T64.heap n0 Z64 f68 f69 f70 f71 f72 f73 f74 M) hZ (hw _ (List.mem_of_getElem? (i := 22) rfl)) (hw _ (List.mem_of_getElem? (i := 21) rfl)) (by decide) (by decide)) q75a q75c (g := (mkF m 125 #[.val (.int p1), .val (.int (0 : Int32)), .val (.ref aF), .val (.ref aF), .val (.ref aT), .val (.int (1 : Int32)), .val (.int (1 : Int32)), .val (.int (1 : Int32)), .val (.int (1 : Int32)), .unset] [(.ref aT), (.ref aF)])) rfl (by rw [hml]; rfl) (Steps.refl _) (argsL := [(.ref aT)]) (rest := []) (lenOf pd__Lcom_example_formal_model_bench_formalmodelbench_engine_Value__I rfl) rfl (by show 2 * 0 + _ ≤ _; exact Nat.le_of_eq rfl) (hb hby at_125) (fun _ _ => ⟨rfl, e67, (by decide : 0 + 0 ≤ _), (by decide : 0 + 0 ≤ _)⟩)
    dsimp only [Pt.U, Pt.locs, Pt.cells, Pt.slots] at X75 l75 y75 z75 st75 hQ75
    subst l75 y75 z75
    obtain ⟨rfl, N75q, EQ75⟩ := hQ75
    have N75 := Fr.app N64 N75q
    have Z75 : n0 ≤ T75.heap.size := by rw [EQ75]; exact Z64
    have K75 := own_keq EQ75 K64
    have pre76 : ∀ t, Steps p.tables e below (T75.setTop (mkF m 185 #[.val (.int p1), .val (.int (0 : Int32)), .val (.ref aF), .val (.ref aF), .val (.ref aT), .val (.int (1 : Int32)), .val (.int (1 : Int32)), .val (.int (1 : Int32)), .val (.int (1 : Int32)), .val (.int (1 : Int32))] [(.int (1 : Int32))])) t → Steps p.tables e below (s₁.setTop (mkF m 3 #[.val (.int p1), .unset, .unset, .unset, .unset, .unset, .unset, .unset, .unset, .unset] [(.int (p1 &&& (1 : Int32)))])) t := by
      intro t kt
      show Steps p.tables e below (s₁.setTop (mkF m 3 #[.val (.int p1), .unset, .unset, .unset, .unset, .unset, .unset, .unset, .unset, .unset] [(.int (p1 &&& (1 : Int32)))])) _
      refine XS.ifYes X0.here hx rfl (pc0 := 3) (pc' := 10) rfl (hb hby at_3) rfl ((if0 _ _).trans (teq (c3 : (p1 &&& (1 : Int32)) = (0 : Int32))).1) (by decide) (by decide) ?_
      show Steps p.tables e below (s₁.setTop (mkF m 10 #[.val (.int p1), .unset, .unset, .unset, .unset, .unset, .unset, .unset, .unset, .unset] [])) _
      refine XS.iconst X0.here hx rfl (hb hby at_10) ?_
      show Steps p.tables e below (s₁.setTop (mkF m 11 #[.val (.int p1), .unset, .unset, .unset, .unset, .unset, .unset, .unset, .unset, .unset] [(.int (0 : Int32))])) _
      refine XS.istoreN X0.here hx rfl (hb hby at_11) rfl (l' := #[.val (.int p1), .val (.int (0 : Int32)), .unset, .unset, .unset, .unset, .unset, .unset, .unset, .unset]) rfl ?_
      show Steps p.tables e below (s₁.setTop (mkF m 12 #[.val (.int p1), .val (.int (0 : Int32)), .unset, .unset, .unset, .unset, .unset, .unset, .unset, .unset] [])) _
      refine XS.iloadN X0.here hx rfl (hb hby at_12) rfl ?_
      show Steps p.tables e below (s₁.setTop (mkF m 13 #[.val (.int p1), .val (.int (0 : Int32)), .unset, .unset, .unset, .unset, .unset, .unset, .unset, .unset] [(.int (0 : Int32))])) _
      refine st55 _ ?_
      show Steps p.tables e below (T55.setTop (mkF m 16 #[.val (.int p1), .val (.int (0 : Int32)), .unset, .unset, .unset, .unset, .unset, .unset, .unset, .unset] [(.ref aF)])) _
      refine XS.astoreN X55.here hx rfl (hb hby at_16) rfl rfl (l' := #[.val (.int p1), .val (.int (0 : Int32)), .val (.ref aF), .unset, .unset, .unset, .unset, .unset, .unset, .unset]) rfl ?_
      show Steps p.tables e below (T55.setTop (mkF m 17 #[.val (.int p1), .val (.int (0 : Int32)), .val (.ref aF), .unset, .unset, .unset, .unset, .unset, .unset, .unset] [])) _
      refine XS.iloadN X55.here hx rfl (hb hby at_17) rfl ?_
      show Steps p.tables e below (T55.setTop (mkF m 18 #[.val (.int p1), .val (.int (0 : Int32)), .val (.ref aF), .unset, .unset, .unset, .unset, .unset, .unset, .unset] [(.int (0 : Int32))])) _
      refine st57 _ ?_
      show Steps p.tables e below (T57.setTop (mkF m 21 #[.val (.int p1), .val (.int (0 : Int32)), .val (.ref aF), .unset, .unset, .unset, .unset, .unset, .unset, .unset] [(.ref aF)])) _
      refine XS.astoreN X57.here hx rfl (hb hby at_21) rfl rfl (l' := #[.val (.int p1), .val (.int (0 : Int32)), .val (.ref aF), .val (.ref aF), .unset, .unset, .unset, .unset, .unset, .unset]) rfl ?_
      show Steps p.tables e below (T57.setTop (mkF m 22 #[.val (.int p1), .val (.int (0 : Int32)), .val (.ref aF), .val (.ref aF), .unset, .unset, .unset, .unset, .unset, .unset] [])) _
      refine XS.iloadN X57.here hx rfl (hb hby at_22) rfl ?_
      show Steps p.tables e below (T57.setTop (mkF m 23 #[.val (.int p1), .val (.int (0 : Int32)), .val (.ref aF), .val (.ref aF), .unset, .unset, .unset, .unset, .unset, .unset] [(.int (0 : Int32))])) _
      refine XS.ifNo X57.here hx rfl (hb hby at_23) rfl ((if0 _ _).trans (teq (rfl : (0 : Int32) = (0 : Int32))).2) ?_
      show Steps p.tables e below (T57.setTop (mkF m 26 #[.val (.int p1), .val (.int (0 : Int32)), .val (.ref aF), .val (.ref aF), .unset, .unset, .unset, .unset, .unset, .unset] [])) _
      refine XS.iconst X57.here hx rfl (hb hby at_26) ?_
      show Steps p.tables e below (T57.setTop (mkF m 27 #[.val (.int p1), .val (.int (0 : Int32)), .val (.ref aF), .val (.ref aF), .unset, .unset, .unset, .unset, .unset, .unset] [(.int (1 : Int32))])) _
      refine XS.goto X57.here hx rfl (pc0 := 27) (pc' := 31) rfl (hb hby at_27) (by decide) (by decide) ?_
      show Steps p.tables e below (T57.setTop (mkF m 31 #[.val (.int p1), .val (.int (0 : Int32)), .val (.ref aF), .val (.ref aF), .unset, .unset, .unset, .unset, .unset, .unset] [(.int (1 : Int32))])) _
      refine st59 _ ?_
      show Steps p.tables e below (T59.setTop (mkF m 34 #[.val (.int p1), .val (.int (0 : Int32)), .val (.ref aF), .val (.ref aF), .unset, .unset, .unset, .unset, .unset, .unset] [(.ref aT)])) _
      refine XS.astore X59.here hx rfl (hb hby at_34) rfl rfl (l' := #[.val (.int p1), .val (.int (0 : Int32)), .val (.ref aF), .val (.ref aF), .val (.ref aT), .unset, .unset, .unset, .unset, .unset]) rfl ?_
      show Steps p.tables e below (T59.setTop (mkF m 36 #[.val (.int p1), .val (.int (0 : Int32)), .val (.ref aF), .val (.ref aF), .val (.ref aT), .unset, .unset, .unset, .unset, .unset] [])) _
      refine XS.aloadN X59.here hx rfl (hb hby at_36) rfl rfl ?_
      show Steps p.tables e below (T59.setTop (mkF m 37 #[.val (.int p1), .val (.int (0 : Int32)), .val (.ref aF), .val (.ref aF), .val (.ref aT), .unset, .unset, .unset, .unset, .unset] [(.ref aF)])) _
      refine XS.ifnullNo X59.here hx rfl (hb hby at_37) rfl ?_
      show Steps p.tables e below (T59.setTop (mkF m 40 #[.val (.int p1), .val (.int (0 : Int32)), .val (.ref aF), .val (.ref aF), .val (.ref aT), .unset, .unset, .unset, .unset, .unset] [])) _
      refine XS.aload X59.here hx rfl (hb hby at_40) rfl rfl ?_
      show Steps p.tables e below (T59.setTop (mkF m 42 #[.val (.int p1), .val (.int (0 : Int32)), .val (.ref aF), .val (.ref aF), .val (.ref aT), .unset, .unset, .unset, .unset, .unset] [(.ref aT)])) _
      refine XS.ifnonnullYes X59.here hx rfl (pc0 := 42) (pc' := 47) rfl (hb hby at_42) rfl (by decide) (by decide) ?_
      show Steps p.tables e below (T59.setTop (mkF m 47 #[.val (.int p1), .val (.int (0 : Int32)), .val (.ref aF), .val (.ref aF), .val (.ref aT), .unset, .unset, .unset, .unset, .unset] [])) _
      refine XS.aloadN X59.here hx rfl (hb hby at_47) rfl rfl ?_
      show Steps p.tables e below (T59.setTop (mkF m 48 #[.val (.int p1), .val (.int (0 : Int32)), .val (.ref aF), .val (.ref aF), .val (.ref aT), .unset, .unset, .unset, .unset, .unset] [(.ref aF)])) _
      refine st61.trans ?_
      show Steps p.tables e below (T61.setTop (mkF m 51 #[.val (.int p1), .val (.int (0 : Int32)), .val (.ref aF), .val (.ref aF), .val (.ref aT), .unset, .unset, .unset, .unset, .unset] [(.int (0 : Int32))])) _
      refine XS.iloadN X61.here hx rfl (hb hby at_51) rfl ?_
      show Steps p.tables e below (T61.setTop (mkF m 52 #[.val (.int p1), .val (.int (0 : Int32)), .val (.ref aF), .val (.ref aF), .val (.ref aT), .unset, .unset, .unset, .unset, .unset] [(.int (0 : Int32)), (.int (0 : Int32))])) _
      refine XS.icmpNo X61.here hx rfl (hb hby at_52) rfl (teq (rfl : (0 : Int32) = (0 : Int32))).2 ?_
      show Steps p.tables e below (T61.setTop (mkF m 55 #[.val (.int p1), .val (.int (0 : Int32)), .val (.ref aF), .val (.ref aF), .val (.ref aT), .unset, .unset, .unset, .unset, .unset] [])) _
      refine XS.iconst X61.here hx rfl (hb hby at_55) ?_
      show Steps p.tables e below (T61.setTop (mkF m 56 #[.val (.int p1), .val (.int (0 : Int32)), .val (.ref aF), .val (.ref aF), .val (.ref aT), .unset, .unset, .unset, .unset, .unset] [(.int (1 : Int32))])) _
      refine XS.goto X61.here hx rfl (pc0 := 56) (pc' := 60) rfl (hb hby at_56) (by decide) (by decide) ?_
      show Steps p.tables e below (T61.setTop (mkF m 60 #[.val (.int p1), .val (.int (0 : Int32)), .val (.ref aF), .val (.ref aF), .val (.ref aT), .unset, .unset, .unset, .unset, .unset] [(.int (1 : Int32))])) _
      refine XS.istore X61.here hx rfl (hb hby at_60) rfl (l' := #[.val (.int p1), .val (.int (0 : Int32)), .val (.ref aF), .val (.ref aF), .val (.ref aT), .val (.int (1 : Int32)), .unset, .unset, .unset, .unset]) rfl ?_
      show Steps p.tables e below (T61.setTop (mkF m 62 #[.val (.int p1), .val (.int (0 : Int32)), .val (.ref aF), .val (.ref aF), .val (.ref aT), .val (.int (1 : Int32)), .unset, .unset, .unset, .unset] [])) _
      refine XS.aload X61.here hx rfl (hb hby at_62) rfl rfl ?_
      show Steps p.tables e below (T61.setTop (mkF m 64 #[.val (.int p1), .val (.int (0 : Int32)), .val (.ref aF), .val (.ref aF), .val (.ref aT), .val (.int (1 : Int32)), .unset, .unset, .unset, .unset] [(.ref aT)])) _
      refine st64.trans ?_
      show Steps p.tables e below (T64.setTop (mkF m 67 #[.val (.int p1), .val (.int (0 : Int32)), .val (.ref aF), .val (.ref aF), .val (.ref aT), .val (.int (1 : Int32)), .unset, .unset, .unset, .unset] [(.int (1 : Int32))])) _
      refine XS.iloadN X64.here hx rfl (hb hby at_67) rfl ?_
      show Steps p.tables e below (T64.setTop (mkF m 68 #[.val (.int p1), .val (.int (0 : Int32)), .val (.ref aF), .val (.ref aF), .val (.ref aT), .val (.int (1 : Int32)), .unset, .unset, .unset, .unset] [(.int (0 : Int32)), (.int (1 : Int32))])) _
      refine XS.ifNo X64.here hx rfl (hb hby at_68) rfl ((if0 _ _).trans (teq (rfl : (0 : Int32) = (0 : Int32))).2) ?_
      show Steps p.tables e below (T64.setTop (mkF m 71 #[.val (.int p1), .val (.int (0 : Int32)), .val (.ref aF), .val (.ref aF), .val (.ref aT), .val (.int (1 : Int32)), .unset, .unset, .unset, .unset] [(.int (1 : Int32))])) _
      refine XS.iconst X64.here hx rfl (hb hby at_71) ?_
      show Steps p.tables e below (T64.setTop (mkF m 72 #[.val (.int p1), .val (.int (0 : Int32)), .val (.ref aF), .val (.ref aF), .val (.ref aT), .val (.int (1 : Int32)), .unset, .unset, .unset, .unset] [(.int (1 : Int32)), (.int (1 : Int32))])) _
      refine XS.goto X64.here hx rfl (pc0 := 72) (pc' := 76) rfl (hb hby at_72) (by decide) (by decide) ?_
      show Steps p.tables e below (T64.setTop (mkF m 76 #[.val (.int p1), .val (.int (0 : Int32)), .val (.ref aF), .val (.ref aF), .val (.ref aT), .val (.int (1 : Int32)), .unset, .unset, .unset, .unset] [(.int (1 : Int32)), (.int (1 : Int32))])) _
      refine XS.icmpNo X64.here hx rfl (hb hby at_76) rfl (teq (rfl : (1 : Int32) = (1 : Int32))).2 ?_
      show Steps p.tables e below (T64.setTop (mkF m 79 #[.val (.int p1), .val (.int (0 : Int32)), .val (.ref aF), .val (.ref aF), .val (.ref aT), .val (.int (1 : Int32)), .unset, .unset, .unset, .unset] [])) _
      refine XS.iconst X64.here hx rfl (hb hby at_79) ?_
      show Steps p.tables e below (T64.setTop (mkF m 80 #[.val (.int p1), .val (.int (0 : Int32)), .val (.ref aF), .val (.ref aF), .val (.ref aT), .val (.int (1 : Int32)), .unset, .unset, .unset, .unset] [(.int (1 : Int32))])) _
      refine XS.goto X64.here hx rfl (pc0 := 80) (pc' := 84) rfl (hb hby at_80) (by decide) (by decide) ?_
      show Steps p.tables e below (T64.setTop (mkF m 84 #[.val (.int p1), .val (.int (0 : Int32)), .val (.ref aF), .val (.ref aF), .val (.ref aT), .val (.int (1 : Int32)), .unset, .unset, .unset, .unset] [(.int (1 : Int32))])) _
      refine XS.istore X64.here hx rfl (hb hby at_84) rfl (l' := #[.val (.int p1), .val (.int (0 : Int32)), .val (.ref aF), .val (.ref aF), .val (.ref aT), .val (.int (1 : Int32)), .val (.int (1 : Int32)), .unset, .unset, .unset]) rfl ?_
      show Steps p.tables e below (T64.setTop (mkF m 86 #[.val (.int p1), .val (.int (0 : Int32)), .val (.ref aF), .val (.ref aF), .val (.ref aT), .val (.int (1 : Int32)), .val (.int (1 : Int32)), .unset, .unset, .unset] [])) _
      refine XS.aloadN X64.here hx rfl (hb hby at_86) rfl rfl ?_
      show Steps p.tables e below (T64.setTop (mkF m 87 #[.val (.int p1), .val (.int (0 : Int32)), .val (.ref aF), .val (.ref aF), .val (.ref aT), .val (.int (1 : Int32)), .val (.int (1 : Int32)), .unset, .unset, .unset] [(.ref aF)])) _
      refine XS.aloadN X64.here hx rfl (hb hby at_87) rfl rfl ?_
      show Steps p.tables e below (T64.setTop (mkF m 88 #[.val (.int p1), .val (.int (0 : Int32)), .val (.ref aF), .val (.ref aF), .val (.ref aT), .val (.int (1 : Int32)), .val (.int (1 : Int32)), .unset, .unset, .unset] [(.ref aF), (.ref aF)])) _
      refine Jvm.RoadKit.acmp (g := (mkF m 88 #[.val (.int p1), .val (.int (0 : Int32)), .val (.ref aF), .val (.ref aF), .val (.ref aT), .val (.int (1 : Int32)), .val (.int (1 : Int32)), .unset, .unset, .unset] [(.ref aF), (.ref aF)])) X64 hx rfl rfl rfl (pc0 := 88) (pc' := 91) (same := true) rfl (hb hby at_88) rfl (decide_eq_true rfl) (by decide) (by decide) ?_
      show Steps p.tables e below (T64.setTop (mkF m 91 #[.val (.int p1), .val (.int (0 : Int32)), .val (.ref aF), .val (.ref aF), .val (.ref aT), .val (.int (1 : Int32)), .val (.int (1 : Int32)), .unset, .unset, .unset] [])) _
      refine XS.iconst X64.here hx rfl (hb hby at_91) ?_
      show Steps p.tables e below (T64.setTop (mkF m 92 #[.val (.int p1), .val (.int (0 : Int32)), .val (.ref aF), .val (.ref aF), .val (.ref aT), .val (.int (1 : Int32)), .val (.int (1 : Int32)), .unset, .unset, .unset] [(.int (1 : Int32))])) _
      refine XS.goto X64.here hx rfl (pc0 := 92) (pc' := 96) rfl (hb hby at_92) (by decide) (by decide) ?_
      show Steps p.tables e below (T64.setTop (mkF m 96 #[.val (.int p1), .val (.int (0 : Int32)), .val (.ref aF), .val (.ref aF), .val (.ref aT), .val (.int (1 : Int32)), .val (.int (1 : Int32)), .unset, .unset, .unset] [(.int (1 : Int32))])) _
      refine XS.istore X64.here hx rfl (hb hby at_96) rfl (l' := #[.val (.int p1), .val (.int (0 : Int32)), .val (.ref aF), .val (.ref aF), .val (.ref aT), .val (.int (1 : Int32)), .val (.int (1 : Int32)), .val (.int (1 : Int32)), .unset, .unset]) rfl ?_
      show Steps p.tables e below (T64.setTop (mkF m 98 #[.val (.int p1), .val (.int (0 : Int32)), .val (.ref aF), .val (.ref aF), .val (.ref aT), .val (.int (1 : Int32)), .val (.int (1 : Int32)), .val (.int (1 : Int32)), .unset, .unset] [])) _
      refine XS.aloadN X64.here hx rfl (hb hby at_98) rfl rfl ?_
      show Steps p.tables e below (T64.setTop (mkF m 99 #[.val (.int p1), .val (.int (0 : Int32)), .val (.ref aF), .val (.ref aF), .val (.ref aT), .val (.int (1 : Int32)), .val (.int (1 : Int32)), .val (.int (1 : Int32)), .unset, .unset] [(.ref aF)])) _
      refine XS.iloadN X64.here hx rfl (hb hby at_99) rfl ?_
      show Steps p.tables e below (T64.setTop (mkF m 100 #[.val (.int p1), .val (.int (0 : Int32)), .val (.ref aF), .val (.ref aF), .val (.ref aT), .val (.int (1 : Int32)), .val (.int (1 : Int32)), .val (.int (1 : Int32)), .unset, .unset] [(.int (0 : Int32)), (.ref aF)])) _
      refine XS.ifYes X64.here hx rfl (pc0 := 100) (pc' := 109) rfl (hb hby at_100) rfl ((if0 _ _).trans (teq (rfl : (0 : Int32) = (0 : Int32))).1) (by decide) (by decide) ?_
      show Steps p.tables e below (T64.setTop (mkF m 109 #[.val (.int p1), .val (.int (0 : Int32)), .val (.ref aF), .val (.ref aF), .val (.ref aT), .val (.int (1 : Int32)), .val (.int (1 : Int32)), .val (.int (1 : Int32)), .unset, .unset] [(.ref aF)])) _
      refine st67 _ ?_
      show Steps p.tables e below (T67.setTop (mkF m 112 #[.val (.int p1), .val (.int (0 : Int32)), .val (.ref aF), .val (.ref aF), .val (.ref aT), .val (.int (1 : Int32)), .val (.int (1 : Int32)), .val (.int (1 : Int32)), .unset, .unset] [(.ref aF), (.ref aF)])) _
      refine Jvm.RoadKit.acmp (g := (mkF m 112 #[.val (.int p1), .val (.int (0 : Int32)), .val (.ref aF), .val (.ref aF), .val (.ref aT), .val (.int (1 : Int32)), .val (.int (1 : Int32)), .val (.int (1 : Int32)), .unset, .unset] [(.ref aF), (.ref aF)])) X67 hx rfl rfl rfl (pc0 := 112) (pc' := 115) (same := true) rfl (hb hby at_112) rfl (decide_eq_true rfl) (by decide) (by decide) ?_
      show Steps p.tables e below (T67.setTop (mkF m 115 #[.val (.int p1), .val (.int (0 : Int32)), .val (.ref aF), .val (.ref aF), .val (.ref aT), .val (.int (1 : Int32)), .val (.int (1 : Int32)), .val (.int (1 : Int32)), .unset, .unset] [])) _
      refine XS.iconst X67.here hx rfl (hb hby at_115) ?_
      show Steps p.tables e below (T67.setTop (mkF m 116 #[.val (.int p1), .val (.int (0 : Int32)), .val (.ref aF), .val (.ref aF), .val (.ref aT), .val (.int (1 : Int32)), .val (.int (1 : Int32)), .val (.int (1 : Int32)), .unset, .unset] [(.int (1 : Int32))])) _
      refine XS.goto X67.here hx rfl (pc0 := 116) (pc' := 120) rfl (hb hby at_116) (by decide) (by decide) ?_
      show Steps p.tables e below (T67.setTop (mkF m 120 #[.val (.int p1), .val (.int (0 : Int32)), .val (.ref aF), .val (.ref aF), .val (.ref aT), .val (.int (1 : Int32)), .val (.int (1 : Int32)), .val (.int (1 : Int32)), .unset, .unset] [(.int (1 : Int32))])) _
      refine XS.istore X67.here hx rfl (hb hby at_120) rfl (l' := #[.val (.int p1), .val (.int (0 : Int32)), .val (.ref aF), .val (.ref aF), .val (.ref aT), .val (.int (1 : Int32)), .val (.int (1 : Int32)), .val (.int (1 : Int32)), .val (.int (1 : Int32)), .unset]) rfl ?_
      show Steps p.tables e below (T67.setTop (mkF m 122 #[.val (.int p1), .val (.int (0 : Int32)), .val (.ref aF), .val (.ref aF), .val (.ref aT), .val (.int (1 : Int32)), .val (.int (1 : Int32)), .val (.int (1 : Int32)), .val (.int (1 : Int32)), .unset] [])) _
      refine XS.aloadN X67.here hx rfl (hb hby at_122) rfl rfl ?_
      show Steps p.tables e below (T67.setTop (mkF m 123 #[.val (.int p1), .val (.int (0 : Int32)), .val (.ref aF), .val (.ref aF), .val (.ref aT), .val (.int (1 : Int32)), .val (.int (1 : Int32)), .val (.int (1 : Int32)), .val (.int (1 : Int32)), .unset] [(.ref aF)])) _
      refine XS.aload X67.here hx rfl (hb hby at_123) rfl rfl ?_
      show Steps p.tables e below (T67.setTop (mkF m 125 #[.val (.int p1), .val (.int (0 : Int32)), .val (.ref aF), .val (.ref aF), .val (.ref aT), .val (.int (1 : Int32)), .val (.int (1 : Int32)), .val (.int (1 : Int32)), .val (.int (1 : Int32)), .unset] [(.ref aT), (.ref aF)])) _
      refine st75.trans ?_
      show Steps p.tables e below (T75.setTop (mkF m 128 #[.val (.int p1), .val (.int (0 : Int32)), .val (.ref aF), .val (.ref aF), .val (.ref aT), .val (.int (1 : Int32)), .val (.int (1 : Int32)), .val (.int (1 : Int32)), .val (.int (1 : Int32)), .unset] [(.int (-1 : Int32))])) _
      refine XS.ifNo X75.here hx rfl (hb hby at_128) rfl ((if0 _ _).trans (tlt (by decide : (-1 : Int32) < (0 : Int32))).2.1) ?_
      show Steps p.tables e below (T75.setTop (mkF m 131 #[.val (.int p1), .val (.int (0 : Int32)), .val (.ref aF), .val (.ref aF), .val (.ref aT), .val (.int (1 : Int32)), .val (.int (1 : Int32)), .val (.int (1 : Int32)), .val (.int (1 : Int32)), .unset] [])) _
      refine XS.iconst X75.here hx rfl (hb hby at_131) ?_
      show Steps p.tables e below (T75.setTop (mkF m 132 #[.val (.int p1), .val (.int (0 : Int32)), .val (.ref aF), .val (.ref aF), .val (.ref aT), .val (.int (1 : Int32)), .val (.int (1 : Int32)), .val (.int (1 : Int32)), .val (.int (1 : Int32)), .unset] [(.int (1 : Int32))])) _
      refine XS.goto X75.here hx rfl (pc0 := 132) (pc' := 136) rfl (hb hby at_132) (by decide) (by decide) ?_
      show Steps p.tables e below (T75.setTop (mkF m 136 #[.val (.int p1), .val (.int (0 : Int32)), .val (.ref aF), .val (.ref aF), .val (.ref aT), .val (.int (1 : Int32)), .val (.int (1 : Int32)), .val (.int (1 : Int32)), .val (.int (1 : Int32)), .unset] [(.int (1 : Int32))])) _
      refine XS.iloadN X75.here hx rfl (hb hby at_136) rfl ?_
      show Steps p.tables e below (T75.setTop (mkF m 137 #[.val (.int p1), .val (.int (0 : Int32)), .val (.ref aF), .val (.ref aF), .val (.ref aT), .val (.int (1 : Int32)), .val (.int (1 : Int32)), .val (.int (1 : Int32)), .val (.int (1 : Int32)), .unset] [(.int (0 : Int32)), (.int (1 : Int32))])) _
      refine XS.ifNo X75.here hx rfl (hb hby at_137) rfl ((if0 _ _).trans (teq (rfl : (0 : Int32) = (0 : Int32))).2) ?_
      show Steps p.tables e below (T75.setTop (mkF m 140 #[.val (.int p1), .val (.int (0 : Int32)), .val (.ref aF), .val (.ref aF), .val (.ref aT), .val (.int (1 : Int32)), .val (.int (1 : Int32)), .val (.int (1 : Int32)), .val (.int (1 : Int32)), .unset] [(.int (1 : Int32))])) _
      refine XS.iconst X75.here hx rfl (hb hby at_140) ?_
      show Steps p.tables e below (T75.setTop (mkF m 141 #[.val (.int p1), .val (.int (0 : Int32)), .val (.ref aF), .val (.ref aF), .val (.ref aT), .val (.int (1 : Int32)), .val (.int (1 : Int32)), .val (.int (1 : Int32)), .val (.int (1 : Int32)), .unset] [(.int (1 : Int32)), (.int (1 : Int32))])) _
      refine XS.goto X75.here hx rfl (pc0 := 141) (pc' := 145) rfl (hb hby at_141) (by decide) (by decide) ?_
      show Steps p.tables e below (T75.setTop (mkF m 145 #[.val (.int p1), .val (.int (0 : Int32)), .val (.ref aF), .val (.ref aF), .val (.ref aT), .val (.int (1 : Int32)), .val (.int (1 : Int32)), .val (.int (1 : Int32)), .val (.int (1 : Int32)), .unset] [(.int (1 : Int32)), (.int (1 : Int32))])) _
      refine XS.icmpNo X75.here hx rfl (hb hby at_145) rfl (teq (rfl : (1 : Int32) = (1 : Int32))).2 ?_
      show Steps p.tables e below (T75.setTop (mkF m 148 #[.val (.int p1), .val (.int (0 : Int32)), .val (.ref aF), .val (.ref aF), .val (.ref aT), .val (.int (1 : Int32)), .val (.int (1 : Int32)), .val (.int (1 : Int32)), .val (.int (1 : Int32)), .unset] [])) _
      refine XS.iconst X75.here hx rfl (hb hby at_148) ?_
      show Steps p.tables e below (T75.setTop (mkF m 149 #[.val (.int p1), .val (.int (0 : Int32)), .val (.ref aF), .val (.ref aF), .val (.ref aT), .val (.int (1 : Int32)), .val (.int (1 : Int32)), .val (.int (1 : Int32)), .val (.int (1 : Int32)), .unset] [(.int (1 : Int32))])) _
      refine XS.goto X75.here hx rfl (pc0 := 149) (pc' := 153) rfl (hb hby at_149) (by decide) (by decide) ?_
      show Steps p.tables e below (T75.setTop (mkF m 153 #[.val (.int p1), .val (.int (0 : Int32)), .val (.ref aF), .val (.ref aF), .val (.ref aT), .val (.int (1 : Int32)), .val (.int (1 : Int32)), .val (.int (1 : Int32)), .val (.int (1 : Int32)), .unset] [(.int (1 : Int32))])) _
      refine XS.istore X75.here hx rfl (hb hby at_153) rfl (l' := #[.val (.int p1), .val (.int (0 : Int32)), .val (.ref aF), .val (.ref aF), .val (.ref aT), .val (.int (1 : Int32)), .val (.int (1 : Int32)), .val (.int (1 : Int32)), .val (.int (1 : Int32)), .val (.int (1 : Int32))]) rfl ?_
      show Steps p.tables e below (T75.setTop (mkF m 155 #[.val (.int p1), .val (.int (0 : Int32)), .val (.ref aF), .val (.ref aF), .val (.ref aT), .val (.int (1 : Int32)), .val (.int (1 : Int32)), .val (.int (1 : Int32)), .val (.int (1 : Int32)), .val (.int (1 : Int32))] [])) _
      refine XS.iload X75.here hx rfl (hb hby at_155) rfl ?_
      show Steps p.tables e below (T75.setTop (mkF m 157 #[.val (.int p1), .val (.int (0 : Int32)), .val (.ref aF), .val (.ref aF), .val (.ref aT), .val (.int (1 : Int32)), .val (.int (1 : Int32)), .val (.int (1 : Int32)), .val (.int (1 : Int32)), .val (.int (1 : Int32))] [(.int (1 : Int32))])) _
      refine XS.ifNo X75.here hx rfl (hb hby at_157) rfl ((if0 _ _).trans (feq (by decide : ¬ ((1 : Int32) = (0 : Int32)))).1) ?_
      show Steps p.tables e below (T75.setTop (mkF m 160 #[.val (.int p1), .val (.int (0 : Int32)), .val (.ref aF), .val (.ref aF), .val (.ref aT), .val (.int (1 : Int32)), .val (.int (1 : Int32)), .val (.int (1 : Int32)), .val (.int (1 : Int32)), .val (.int (1 : Int32))] [])) _
      refine XS.iload X75.here hx rfl (hb hby at_160) rfl ?_
      show Steps p.tables e below (T75.setTop (mkF m 162 #[.val (.int p1), .val (.int (0 : Int32)), .val (.ref aF), .val (.ref aF), .val (.ref aT), .val (.int (1 : Int32)), .val (.int (1 : Int32)), .val (.int (1 : Int32)), .val (.int (1 : Int32)), .val (.int (1 : Int32))] [(.int (1 : Int32))])) _
      refine XS.ifNo X75.here hx rfl (hb hby at_162) rfl ((if0 _ _).trans (feq (by decide : ¬ ((1 : Int32) = (0 : Int32)))).1) ?_
      show Steps p.tables e below (T75.setTop (mkF m 165 #[.val (.int p1), .val (.int (0 : Int32)), .val (.ref aF), .val (.ref aF), .val (.ref aT), .val (.int (1 : Int32)), .val (.int (1 : Int32)), .val (.int (1 : Int32)), .val (.int (1 : Int32)), .val (.int (1 : Int32))] [])) _
      refine XS.iload X75.here hx rfl (hb hby at_165) rfl ?_
      show Steps p.tables e below (T75.setTop (mkF m 167 #[.val (.int p1), .val (.int (0 : Int32)), .val (.ref aF), .val (.ref aF), .val (.ref aT), .val (.int (1 : Int32)), .val (.int (1 : Int32)), .val (.int (1 : Int32)), .val (.int (1 : Int32)), .val (.int (1 : Int32))] [(.int (1 : Int32))])) _
      refine XS.ifNo X75.here hx rfl (hb hby at_167) rfl ((if0 _ _).trans (feq (by decide : ¬ ((1 : Int32) = (0 : Int32)))).1) ?_
      show Steps p.tables e below (T75.setTop (mkF m 170 #[.val (.int p1), .val (.int (0 : Int32)), .val (.ref aF), .val (.ref aF), .val (.ref aT), .val (.int (1 : Int32)), .val (.int (1 : Int32)), .val (.int (1 : Int32)), .val (.int (1 : Int32)), .val (.int (1 : Int32))] [])) _
      refine XS.iload X75.here hx rfl (hb hby at_170) rfl ?_
      show Steps p.tables e below (T75.setTop (mkF m 172 #[.val (.int p1), .val (.int (0 : Int32)), .val (.ref aF), .val (.ref aF), .val (.ref aT), .val (.int (1 : Int32)), .val (.int (1 : Int32)), .val (.int (1 : Int32)), .val (.int (1 : Int32)), .val (.int (1 : Int32))] [(.int (1 : Int32))])) _
      refine XS.ifNo X75.here hx rfl (hb hby at_172) rfl ((if0 _ _).trans (feq (by decide : ¬ ((1 : Int32) = (0 : Int32)))).1) ?_
      show Steps p.tables e below (T75.setTop (mkF m 175 #[.val (.int p1), .val (.int (0 : Int32)), .val (.ref aF), .val (.ref aF), .val (.ref aT), .val (.int (1 : Int32)), .val (.int (1 : Int32)), .val (.int (1 : Int32)), .val (.int (1 : Int32)), .val (.int (1 : Int32))] [])) _
      refine XS.iload X75.here hx rfl (hb hby at_175) rfl ?_
      show Steps p.tables e below (T75.setTop (mkF m 177 #[.val (.int p1), .val (.int (0 : Int32)), .val (.ref aF), .val (.ref aF), .val (.ref aT), .val (.int (1 : Int32)), .val (.int (1 : Int32)), .val (.int (1 : Int32)), .val (.int (1 : Int32)), .val (.int (1 : Int32))] [(.int (1 : Int32))])) _
      refine XS.ifNo X75.here hx rfl (hb hby at_177) rfl ((if0 _ _).trans (feq (by decide : ¬ ((1 : Int32) = (0 : Int32)))).1) ?_
      show Steps p.tables e below (T75.setTop (mkF m 180 #[.val (.int p1), .val (.int (0 : Int32)), .val (.ref aF), .val (.ref aF), .val (.ref aT), .val (.int (1 : Int32)), .val (.int (1 : Int32)), .val (.int (1 : Int32)), .val (.int (1 : Int32)), .val (.int (1 : Int32))] [])) _
      refine XS.iconst X75.here hx rfl (hb hby at_180) ?_
      show Steps p.tables e below (T75.setTop (mkF m 181 #[.val (.int p1), .val (.int (0 : Int32)), .val (.ref aF), .val (.ref aF), .val (.ref aT), .val (.int (1 : Int32)), .val (.int (1 : Int32)), .val (.int (1 : Int32)), .val (.int (1 : Int32)), .val (.int (1 : Int32))] [(.int (1 : Int32))])) _
      refine XS.goto X75.here hx rfl (pc0 := 181) (pc' := 185) rfl (hb hby at_181) (by decide) (by decide) ?_
      exact kt
    obtain ⟨fs, hr, hrun, hended, hW, hsame⟩ := X75.leave (v := some (.int (1 : Int32))) (fun h => by rw [Bd.returns] at h; cases h)
    refine ⟨_, _, (pre0 _ (pre54 _ (pre76 _ ?_))), hrun, hended, _, _, rfl, ?_, ⟨_, rfl⟩, hW, hsame.mono (by decide) (by decide)⟩
    · show Steps p.tables e below (T75.setTop (mkF m 185 #[.val (.int p1), .val (.int (0 : Int32)), .val (.ref aF), .val (.ref aF), .val (.ref aT), .val (.int (1 : Int32)), .val (.int (1 : Int32)), .val (.int (1 : Int32)), .val (.int (1 : Int32)), .val (.int (1 : Int32))] [(.int (1 : Int32))])) _
      exact retN X75 hx (t := .boolean) Bd.returns (by simp) (hb hby at_185) hr
    · show Q0 Z p1 aF aT aK wo h0 n0 _ T75.heap _
      exact ⟨rfl, N75⟩
  · skip
    obtain ⟨_, _, ⟨T77, L77, k77, n77⟩, -, X77, ⟨Lc77, hQ77, l77, y77, z77⟩, st77⟩ := Jvm.LawKit.callS X0 hx (y := (⟨"com/example/formal_model_bench/formalmodelbench/engine/BoolValue", "of", "(Z)Lcom/example/formal_model_bench/formalmodelbench/engine/BoolValue;"⟩ : MethodName)) hown (mvT hZ (hw _ (List.mem_of_getElem? (i := 0) rfl))) (mvT hZ (hw _ (List.mem_of_getElem? (i := 1) rfl))) (mvT hZ (hw _ (List.mem_of_getElem? (i := 2) rfl))) (mvT hZ (hw _ (List.mem_of_getElem? (i := 3) rfl))) (by decide) (backOf (W := 0) (rmof1 l Z a0 hw [] aT h0 n0 Z0 ST) hZ (hw _ (List.mem_of_getElem? (i := 3) rfl)) (hw _ (List.mem_of_getElem? (i := 2) rfl)) (by decide) (by decide)) (g := (mkF m 13 #[.val (.int p1), .val (.int (1 : Int32)), .unset, .unset, .unset, .unset, .unset, .unset, .unset, .unset] [(.int (1 : Int32))])) rfl (by rw [hml]; rfl) (argsL := [(.int (1 : Int32))]) (rest := []) (lenOf pd__Z_Lcom_example_formal_model_bench_formalmodelbench_engine_BoolValue_ rfl) rfl (by show 2 * 0 + _ ≤ _; exact Nat.le_of_eq rfl) (hb hby at_13) (fun _ _ => ⟨rfl, e0, (by decide : 0 + 0 ≤ _), (by decide : 0 + 0 ≤ _)⟩)
    dsimp only [Pt.U, Pt.locs, Pt.cells, Pt.slots] at X77 l77 y77 z77 st77 hQ77
    subst l77 y77 z77
    obtain ⟨rfl, N77q, EQ77⟩ := hQ77
    have N77 := Fr.app N0 N77q
    have Z77 : n0 ≤ T77.heap.size := by rw [EQ77]; exact Z0
    have K77 := own_keq EQ77 (Keep.refl h0 [])
    have f78 := (EQ77 ▸ ST)
    obtain ⟨_, _, ⟨T79, L79, k79, n79⟩, -, X79, ⟨Lc79, hQ79, l79, y79, z79⟩, st79⟩ := Jvm.LawKit.callS X77 hx (y := (⟨"com/example/formal_model_bench/formalmodelbench/engine/BoolValue", "of", "(Z)Lcom/example/formal_model_bench/formalmodelbench/engine/BoolValue;"⟩ : MethodName)) hown (mvT hZ (hw _ (List.mem_of_getElem? (i := 0) rfl))) (mvT hZ (hw _ (List.mem_of_getElem? (i := 1) rfl))) (mvT hZ (hw _ (List.mem_of_getElem? (i := 2) rfl))) (mvT hZ (hw _ (List.mem_of_getElem? (i := 3) rfl))) (by decide) (backOf (W := 0) (rmof1 l Z a0 hw [] aT T77.heap n0 Z77 f78) hZ (hw _ (List.mem_of_getElem? (i := 3) rfl)) (hw _ (List.mem_of_getElem? (i := 2) rfl)) (by decide) (by decide)) (g := (mkF m 18 #[.val (.int p1), .val (.int (1 : Int32)), .val (.ref aT), .unset, .unset, .unset, .unset, .unset, .unset, .unset] [(.int (1 : Int32))])) rfl (by rw [hml]; rfl) (argsL := [(.int (1 : Int32))]) (rest := []) (lenOf pd__Z_Lcom_example_formal_model_bench_formalmodelbench_engine_BoolValue_ rfl) rfl (by show 2 * 0 + _ ≤ _; exact Nat.le_of_eq rfl) (hb hby at_18) (fun _ _ => ⟨rfl, rfl, (by decide : 0 + 0 ≤ _), (by decide : 0 + 0 ≤ _)⟩)
    dsimp only [Pt.U, Pt.locs, Pt.cells, Pt.slots] at X79 l79 y79 z79 st79 hQ79
    subst l79 y79 z79
    obtain ⟨rfl, N79q, EQ79⟩ := hQ79
    have N79 := Fr.app N77 N79q
    have Z79 : n0 ≤ T79.heap.size := by rw [EQ79]; exact Z77
    have K79 := own_keq EQ79 K77
    have f80 := (EQ79 ▸ (EQ77 ▸ SF))
    obtain ⟨_, _, ⟨T81, L81, k81, n81⟩, -, X81, ⟨Lc81, hQ81, l81, y81, z81⟩, st81⟩ := Jvm.LawKit.callS X79 hx (y := (⟨"com/example/formal_model_bench/formalmodelbench/engine/BoolValue", "of", "(Z)Lcom/example/formal_model_bench/formalmodelbench/engine/BoolValue;"⟩ : MethodName)) hown (mvT hZ (hw _ (List.mem_of_getElem? (i := 0) rfl))) (mvT hZ (hw _ (List.mem_of_getElem? (i := 1) rfl))) (mvT hZ (hw _ (List.mem_of_getElem? (i := 2) rfl))) (mvT hZ (hw _ (List.mem_of_getElem? (i := 3) rfl))) (by decide) (backOf (W := 0) (rmof0 l Z a0 hw [] aF T79.heap n0 Z79 f80) hZ (hw _ (List.mem_of_getElem? (i := 3) rfl)) (hw _ (List.mem_of_getElem? (i := 2) rfl)) (by decide) (by decide)) (g := (mkF m 31 #[.val (.int p1), .val (.int (1 : Int32)), .val (.ref aT), .val (.ref aT), .unset, .unset, .unset, .unset, .unset, .unset] [(.int (0 : Int32))])) rfl (by rw [hml]; rfl) (argsL := [(.int (0 : Int32))]) (rest := []) (lenOf pd__Z_Lcom_example_formal_model_bench_formalmodelbench_engine_BoolValue_ rfl) rfl (by show 2 * 0 + _ ≤ _; exact Nat.le_of_eq rfl) (hb hby at_31) (fun _ _ => ⟨rfl, rfl, (by decide : 0 + 0 ≤ _), (by decide : 0 + 0 ≤ _)⟩)
    dsimp only [Pt.U, Pt.locs, Pt.cells, Pt.slots] at X81 l81 y81 z81 st81 hQ81
    subst l81 y81 z81
    obtain ⟨rfl, N81q, EQ81⟩ := hQ81
    have N81 := Fr.app N79 N81q
    have Z81 : n0 ≤ T81.heap.size := by rw [EQ81]; exact Z79
    have K81 := own_keq EQ81 K79
    have f82 := (EQ81 ▸ (EQ79 ▸ (EQ77 ▸ FT)))
    have f84 := (EQ81 ▸ (EQ79 ▸ (EQ77 ▸ ET)))
    obtain ⟨cq83, kq83, q83a, q83b, q83c⟩ := isOf hZ rfl f84
    obtain ⟨_, _, ⟨T83, L83, k83, n83⟩, -, X83, ⟨Lc83, hQ83, l83, y83, z83⟩, st83⟩ := X81.virtualBack hx (y := (⟨"com/example/formal_model_bench/formalmodelbench/engine/BoolValue", "value", "()Z"⟩ : MethodName)) (z := (⟨"com/example/formal_model_bench/formalmodelbench/engine/BoolValue", "value", "()Z"⟩ : MethodName)) hown (mvT hZ (hw _ (List.mem_of_getElem? (i := 8) rfl))) (mvT hZ (hw _ (List.mem_of_getElem? (i := 9) rfl))) (notFace_of_selects (args := #[]) (mvT hZ (hw _ (List.mem_of_getElem? (i := 11) rfl)))) (mvT hZ (hw _ (List.mem_of_getElem? (i := 11) rfl))) (mvT hZ (hw _ (List.mem_of_getElem? (i := 10) rfl))) (by decide) (backOf (W := 0) (rmval1 l Z a0 hw [] aT T81.heap n0 Z81 f82) hZ (hw _ (List.mem_of_getElem? (i := 12) rfl)) (hw _ (List.mem_of_getElem? (i := 2) rfl)) (by decide) (by decide)) q83a q83c (g := (mkF m 48 #[.val (.int p1), .val (.int (1 : Int32)), .val (.ref aT), .val (.ref aT), .val (.ref aF), .unset, .unset, .unset, .unset, .unset] [(.ref aT)])) rfl (by rw [hml]; rfl) (Steps.refl _) (argsL := []) (rest := []) (lenOf pd___Z rfl) rfl (by show 2 * 0 + _ ≤ _; exact Nat.le_of_eq rfl) (hb hby at_48) (fun _ _ => ⟨rfl, rfl, (by decide : 0 + 0 ≤ _), (by decide : 0 + 0 ≤ _)⟩)
    dsimp only [Pt.U, Pt.locs, Pt.cells, Pt.slots] at X83 l83 y83 z83 st83 hQ83
    subst l83 y83 z83
    obtain ⟨rfl, N83q, EQ83⟩ := hQ83
    have N83 := Fr.app N81 N83q
    have Z83 : n0 ≤ T83.heap.size := by rw [EQ83]; exact Z81
    have K83 := own_keq EQ83 K81
    have f85 := (EQ83 ▸ (EQ81 ▸ (EQ79 ▸ (EQ77 ▸ FF))))
    have f87 := (EQ83 ▸ (EQ81 ▸ (EQ79 ▸ (EQ77 ▸ EF))))
    obtain ⟨cq86, kq86, q86a, q86b, q86c⟩ := isOf hZ rfl f87
    obtain ⟨_, _, ⟨T86, L86, k86, n86⟩, -, X86, ⟨Lc86, hQ86, l86, y86, z86⟩, st86⟩ := X83.virtualBack hx (y := (⟨"com/example/formal_model_bench/formalmodelbench/engine/BoolValue", "value", "()Z"⟩ : MethodName)) (z := (⟨"com/example/formal_model_bench/formalmodelbench/engine/BoolValue", "value", "()Z"⟩ : MethodName)) hown (mvT hZ (hw _ (List.mem_of_getElem? (i := 8) rfl))) (mvT hZ (hw _ (List.mem_of_getElem? (i := 9) rfl))) (notFace_of_selects (args := #[]) (mvT hZ (hw _ (List.mem_of_getElem? (i := 11) rfl)))) (mvT hZ (hw _ (List.mem_of_getElem? (i := 11) rfl))) (mvT hZ (hw _ (List.mem_of_getElem? (i := 10) rfl))) (by decide) (backOf (W := 0) (rmval0 l Z a0 hw [] aF T83.heap n0 Z83 f85) hZ (hw _ (List.mem_of_getElem? (i := 12) rfl)) (hw _ (List.mem_of_getElem? (i := 2) rfl)) (by decide) (by decide)) q86a q86c (g := (mkF m 64 #[.val (.int p1), .val (.int (1 : Int32)), .val (.ref aT), .val (.ref aT), .val (.ref aF), .val (.int (1 : Int32)), .unset, .unset, .unset, .unset] [(.ref aF)])) rfl (by rw [hml]; rfl) (Steps.refl _) (argsL := []) (rest := []) (lenOf pd___Z rfl) rfl (by show 2 * 0 + _ ≤ _; exact Nat.le_of_eq rfl) (hb hby at_64) (fun _ _ => ⟨rfl, rfl, (by decide : 0 + 0 ≤ _), (by decide : 0 + 0 ≤ _)⟩)
    dsimp only [Pt.U, Pt.locs, Pt.cells, Pt.slots] at X86 l86 y86 z86 st86 hQ86
    subst l86 y86 z86
    obtain ⟨rfl, N86q, EQ86⟩ := hQ86
    have N86 := Fr.app N83 N86q
    have Z86 : n0 ≤ T86.heap.size := by rw [EQ86]; exact Z83
    have K86 := own_keq EQ86 K83
    have f88 := (EQ86 ▸ (EQ83 ▸ (EQ81 ▸ (EQ79 ▸ f78))))
    obtain ⟨T89, X89, e89, st89⟩ := getS2 X86 hx hZ hown (host := "") (Or.inl (hw _ (List.mem_of_getElem? (i := 57) rfl))) Via.refl rfl f88 (g := (mkF m 103 #[.val (.int p1), .val (.int (1 : Int32)), .val (.ref aT), .val (.ref aT), .val (.ref aF), .val (.int (1 : Int32)), .val (.int (1 : Int32)), .val (.int (1 : Int32)), .unset, .unset] [(.ref aT)])) rfl (hb hby at_103)
    have f90 := (EQ86 ▸ (EQ83 ▸ f84))
    have f91 := (EQ86 ▸ f87)
    have f92 := (EQ86 ▸ (EQ83 ▸ f82))
    have f93 := (EQ86 ▸ f85)
    have f94 := (EQ86 ▸ (EQ83 ▸ (EQ81 ▸ (EQ79 ▸ (EQ77 ▸ SK)))))
    have f95 := (EQ86 ▸ (EQ83 ▸ (EQ81 ▸ (EQ79 ▸ (EQ77 ▸ EK)))))
    have f96 := (EQ86 ▸ (EQ83 ▸ (EQ81 ▸ (EQ79 ▸ (EQ77 ▸ FK)))))
    obtain ⟨cq97, kq97, q97a, q97b, q97c⟩ := isOf hZ e89 f90
    obtain ⟨_, _, ⟨T97, L97, k97, n97⟩, -, X97, ⟨Lc97, hQ97, l97, y97, z97⟩, st97⟩ := X89.virtualBackUp hx (x := (⟨"com/example/formal_model_bench/formalmodelbench/engine/BoolValue", "compareTo", "(Lcom/example/formal_model_bench/formalmodelbench/engine/Value;)I"⟩ : MethodName)) (y := (⟨"com/example/formal_model_bench/formalmodelbench/engine/Value", "compareTo", "(Lcom/example/formal_model_bench/formalmodelbench/engine/Value;)I"⟩ : MethodName)) hown (mvT hZ (hw _ (List.mem_of_getElem? (i := 16) rfl))) (mvT hZ (hw _ (List.mem_of_getElem? (i := 17) rfl))) (mvT hZ (hw _ (List.mem_of_getElem? (i := 18) rfl))) (by decide) (mvT hZ (hw _ (List.mem_of_getElem? (i := 20) rfl))) (mvT hZ (hw _ (List.mem_of_getElem? (i := 19) rfl))) (backOf (W := 0) (rmcmp1 l Z a0 hw [] aT aF aK wo T86.heap n0 Z86 f90 f91 f92 f93 f94 f95 f96 M) hZ (hw _ (List.mem_of_getElem? (i := 22) rfl)) (hw _ (List.mem_of_getElem? (i := 21) rfl)) (by decide) (by decide)) q97a q97c (g := (mkF m 125 #[.val (.int p1), .val (.int (1 : Int32)), .val (.ref aT), .val (.ref aT), .val (.ref aF), .val (.int (1 : Int32)), .val (.int (1 : Int32)), .val (.int (1 : Int32)), .val (.int (1 : Int32)), .unset] [(.ref aF), (.ref aT)])) rfl (by rw [hml]; rfl) (Steps.refl _) (argsL := [(.ref aF)]) (rest := []) (lenOf pd__Lcom_example_formal_model_bench_formalmodelbench_engine_Value__I rfl) rfl (by show 2 * 0 + _ ≤ _; exact Nat.le_of_eq rfl) (hb hby at_125) (fun _ _ => ⟨rfl, e89, (by decide : 0 + 0 ≤ _), (by decide : 0 + 0 ≤ _)⟩)
    dsimp only [Pt.U, Pt.locs, Pt.cells, Pt.slots] at X97 l97 y97 z97 st97 hQ97
    subst l97 y97 z97
    obtain ⟨rfl, N97q, EQ97⟩ := hQ97
    have N97 := Fr.app N86 N97q
    have Z97 : n0 ≤ T97.heap.size := by rw [EQ97]; exact Z86
    have K97 := own_keq EQ97 K86
    have pre98 : ∀ t, Steps p.tables e below (T97.setTop (mkF m 185 #[.val (.int p1), .val (.int (1 : Int32)), .val (.ref aT), .val (.ref aT), .val (.ref aF), .val (.int (1 : Int32)), .val (.int (1 : Int32)), .val (.int (1 : Int32)), .val (.int (1 : Int32)), .val (.int (1 : Int32))] [(.int (1 : Int32))])) t → Steps p.tables e below (s₁.setTop (mkF m 3 #[.val (.int p1), .unset, .unset, .unset, .unset, .unset, .unset, .unset, .unset, .unset] [(.int (p1 &&& (1 : Int32)))])) t := by
      intro t kt
      show Steps p.tables e below (s₁.setTop (mkF m 3 #[.val (.int p1), .unset, .unset, .unset, .unset, .unset, .unset, .unset, .unset, .unset] [(.int (p1 &&& (1 : Int32)))])) _
      refine XS.ifNo X0.here hx rfl (hb hby at_3) rfl ((if0 _ _).trans (feq (c3 : ¬ ((p1 &&& (1 : Int32)) = (0 : Int32)))).1) ?_
      show Steps p.tables e below (s₁.setTop (mkF m 6 #[.val (.int p1), .unset, .unset, .unset, .unset, .unset, .unset, .unset, .unset, .unset] [])) _
      refine XS.iconst X0.here hx rfl (hb hby at_6) ?_
      show Steps p.tables e below (s₁.setTop (mkF m 7 #[.val (.int p1), .unset, .unset, .unset, .unset, .unset, .unset, .unset, .unset, .unset] [(.int (1 : Int32))])) _
      refine XS.goto X0.here hx rfl (pc0 := 7) (pc' := 11) rfl (hb hby at_7) (by decide) (by decide) ?_
      show Steps p.tables e below (s₁.setTop (mkF m 11 #[.val (.int p1), .unset, .unset, .unset, .unset, .unset, .unset, .unset, .unset, .unset] [(.int (1 : Int32))])) _
      refine XS.istoreN X0.here hx rfl (hb hby at_11) rfl (l' := #[.val (.int p1), .val (.int (1 : Int32)), .unset, .unset, .unset, .unset, .unset, .unset, .unset, .unset]) rfl ?_
      show Steps p.tables e below (s₁.setTop (mkF m 12 #[.val (.int p1), .val (.int (1 : Int32)), .unset, .unset, .unset, .unset, .unset, .unset, .unset, .unset] [])) _
      refine XS.iloadN X0.here hx rfl (hb hby at_12) rfl ?_
      show Steps p.tables e below (s₁.setTop (mkF m 13 #[.val (.int p1), .val (.int (1 : Int32)), .unset, .unset, .unset, .unset, .unset, .unset, .unset, .unset] [(.int (1 : Int32))])) _
      refine st77 _ ?_
      show Steps p.tables e below (T77.setTop (mkF m 16 #[.val (.int p1), .val (.int (1 : Int32)), .unset, .unset, .unset, .unset, .unset, .unset, .unset, .unset] [(.ref aT)])) _
      refine XS.astoreN X77.here hx rfl (hb hby at_16) rfl rfl (l' := #[.val (.int p1), .val (.int (1 : Int32)), .val (.ref aT), .unset, .unset, .unset, .unset, .unset, .unset, .unset]) rfl ?_
      show Steps p.tables e below (T77.setTop (mkF m 17 #[.val (.int p1), .val (.int (1 : Int32)), .val (.ref aT), .unset, .unset, .unset, .unset, .unset, .unset, .unset] [])) _
      refine XS.iloadN X77.here hx rfl (hb hby at_17) rfl ?_
      show Steps p.tables e below (T77.setTop (mkF m 18 #[.val (.int p1), .val (.int (1 : Int32)), .val (.ref aT), .unset, .unset, .unset, .unset, .unset, .unset, .unset] [(.int (1 : Int32))])) _
      refine st79 _ ?_
      show Steps p.tables e below (T79.setTop (mkF m 21 #[.val (.int p1), .val (.int (1 : Int32)), .val (.ref aT), .unset, .unset, .unset, .unset, .unset, .unset, .unset] [(.ref aT)])) _
      refine XS.astoreN X79.here hx rfl (hb hby at_21) rfl rfl (l' := #[.val (.int p1), .val (.int (1 : Int32)), .val (.ref aT), .val (.ref aT), .unset, .unset, .unset, .unset, .unset, .unset]) rfl ?_
      show Steps p.tables e below (T79.setTop (mkF m 22 #[.val (.int p1), .val (.int (1 : Int32)), .val (.ref aT), .val (.ref aT), .unset, .unset, .unset, .unset, .unset, .unset] [])) _
      refine XS.iloadN X79.here hx rfl (hb hby at_22) rfl ?_
      show Steps p.tables e below (T79.setTop (mkF m 23 #[.val (.int p1), .val (.int (1 : Int32)), .val (.ref aT), .val (.ref aT), .unset, .unset, .unset, .unset, .unset, .unset] [(.int (1 : Int32))])) _
      refine XS.ifYes X79.here hx rfl (pc0 := 23) (pc' := 30) rfl (hb hby at_23) rfl ((if0 _ _).trans (feq (by decide : ¬ ((1 : Int32) = (0 : Int32)))).2) (by decide) (by decide) ?_
      show Steps p.tables e below (T79.setTop (mkF m 30 #[.val (.int p1), .val (.int (1 : Int32)), .val (.ref aT), .val (.ref aT), .unset, .unset, .unset, .unset, .unset, .unset] [])) _
      refine XS.iconst X79.here hx rfl (hb hby at_30) ?_
      show Steps p.tables e below (T79.setTop (mkF m 31 #[.val (.int p1), .val (.int (1 : Int32)), .val (.ref aT), .val (.ref aT), .unset, .unset, .unset, .unset, .unset, .unset] [(.int (0 : Int32))])) _
      refine st81 _ ?_
      show Steps p.tables e below (T81.setTop (mkF m 34 #[.val (.int p1), .val (.int (1 : Int32)), .val (.ref aT), .val (.ref aT), .unset, .unset, .unset, .unset, .unset, .unset] [(.ref aF)])) _
      refine XS.astore X81.here hx rfl (hb hby at_34) rfl rfl (l' := #[.val (.int p1), .val (.int (1 : Int32)), .val (.ref aT), .val (.ref aT), .val (.ref aF), .unset, .unset, .unset, .unset, .unset]) rfl ?_
      show Steps p.tables e below (T81.setTop (mkF m 36 #[.val (.int p1), .val (.int (1 : Int32)), .val (.ref aT), .val (.ref aT), .val (.ref aF), .unset, .unset, .unset, .unset, .unset] [])) _
      refine XS.aloadN X81.here hx rfl (hb hby at_36) rfl rfl ?_
      show Steps p.tables e below (T81.setTop (mkF m 37 #[.val (.int p1), .val (.int (1 : Int32)), .val (.ref aT), .val (.ref aT), .val (.ref aF), .unset, .unset, .unset, .unset, .unset] [(.ref aT)])) _
      refine XS.ifnullNo X81.here hx rfl (hb hby at_37) rfl ?_
      show Steps p.tables e below (T81.setTop (mkF m 40 #[.val (.int p1), .val (.int (1 : Int32)), .val (.ref aT), .val (.ref aT), .val (.ref aF), .unset, .unset, .unset, .unset, .unset] [])) _
      refine XS.aload X81.here hx rfl (hb hby at_40) rfl rfl ?_
      show Steps p.tables e below (T81.setTop (mkF m 42 #[.val (.int p1), .val (.int (1 : Int32)), .val (.ref aT), .val (.ref aT), .val (.ref aF), .unset, .unset, .unset, .unset, .unset] [(.ref aF)])) _
      refine XS.ifnonnullYes X81.here hx rfl (pc0 := 42) (pc' := 47) rfl (hb hby at_42) rfl (by decide) (by decide) ?_
      show Steps p.tables e below (T81.setTop (mkF m 47 #[.val (.int p1), .val (.int (1 : Int32)), .val (.ref aT), .val (.ref aT), .val (.ref aF), .unset, .unset, .unset, .unset, .unset] [])) _
      refine XS.aloadN X81.here hx rfl (hb hby at_47) rfl rfl ?_
      show Steps p.tables e below (T81.setTop (mkF m 48 #[.val (.int p1), .val (.int (1 : Int32)), .val (.ref aT), .val (.ref aT), .val (.ref aF), .unset, .unset, .unset, .unset, .unset] [(.ref aT)])) _
      refine st83.trans ?_
      show Steps p.tables e below (T83.setTop (mkF m 51 #[.val (.int p1), .val (.int (1 : Int32)), .val (.ref aT), .val (.ref aT), .val (.ref aF), .unset, .unset, .unset, .unset, .unset] [(.int (1 : Int32))])) _
      refine XS.iloadN X83.here hx rfl (hb hby at_51) rfl ?_
      show Steps p.tables e below (T83.setTop (mkF m 52 #[.val (.int p1), .val (.int (1 : Int32)), .val (.ref aT), .val (.ref aT), .val (.ref aF), .unset, .unset, .unset, .unset, .unset] [(.int (1 : Int32)), (.int (1 : Int32))])) _
      refine XS.icmpNo X83.here hx rfl (hb hby at_52) rfl (teq (rfl : (1 : Int32) = (1 : Int32))).2 ?_
      show Steps p.tables e below (T83.setTop (mkF m 55 #[.val (.int p1), .val (.int (1 : Int32)), .val (.ref aT), .val (.ref aT), .val (.ref aF), .unset, .unset, .unset, .unset, .unset] [])) _
      refine XS.iconst X83.here hx rfl (hb hby at_55) ?_
      show Steps p.tables e below (T83.setTop (mkF m 56 #[.val (.int p1), .val (.int (1 : Int32)), .val (.ref aT), .val (.ref aT), .val (.ref aF), .unset, .unset, .unset, .unset, .unset] [(.int (1 : Int32))])) _
      refine XS.goto X83.here hx rfl (pc0 := 56) (pc' := 60) rfl (hb hby at_56) (by decide) (by decide) ?_
      show Steps p.tables e below (T83.setTop (mkF m 60 #[.val (.int p1), .val (.int (1 : Int32)), .val (.ref aT), .val (.ref aT), .val (.ref aF), .unset, .unset, .unset, .unset, .unset] [(.int (1 : Int32))])) _
      refine XS.istore X83.here hx rfl (hb hby at_60) rfl (l' := #[.val (.int p1), .val (.int (1 : Int32)), .val (.ref aT), .val (.ref aT), .val (.ref aF), .val (.int (1 : Int32)), .unset, .unset, .unset, .unset]) rfl ?_
      show Steps p.tables e below (T83.setTop (mkF m 62 #[.val (.int p1), .val (.int (1 : Int32)), .val (.ref aT), .val (.ref aT), .val (.ref aF), .val (.int (1 : Int32)), .unset, .unset, .unset, .unset] [])) _
      refine XS.aload X83.here hx rfl (hb hby at_62) rfl rfl ?_
      show Steps p.tables e below (T83.setTop (mkF m 64 #[.val (.int p1), .val (.int (1 : Int32)), .val (.ref aT), .val (.ref aT), .val (.ref aF), .val (.int (1 : Int32)), .unset, .unset, .unset, .unset] [(.ref aF)])) _
      refine st86.trans ?_
      show Steps p.tables e below (T86.setTop (mkF m 67 #[.val (.int p1), .val (.int (1 : Int32)), .val (.ref aT), .val (.ref aT), .val (.ref aF), .val (.int (1 : Int32)), .unset, .unset, .unset, .unset] [(.int (0 : Int32))])) _
      refine XS.iloadN X86.here hx rfl (hb hby at_67) rfl ?_
      show Steps p.tables e below (T86.setTop (mkF m 68 #[.val (.int p1), .val (.int (1 : Int32)), .val (.ref aT), .val (.ref aT), .val (.ref aF), .val (.int (1 : Int32)), .unset, .unset, .unset, .unset] [(.int (1 : Int32)), (.int (0 : Int32))])) _
      refine XS.ifYes X86.here hx rfl (pc0 := 68) (pc' := 75) rfl (hb hby at_68) rfl ((if0 _ _).trans (feq (by decide : ¬ ((1 : Int32) = (0 : Int32)))).2) (by decide) (by decide) ?_
      show Steps p.tables e below (T86.setTop (mkF m 75 #[.val (.int p1), .val (.int (1 : Int32)), .val (.ref aT), .val (.ref aT), .val (.ref aF), .val (.int (1 : Int32)), .unset, .unset, .unset, .unset] [(.int (0 : Int32))])) _
      refine XS.iconst X86.here hx rfl (hb hby at_75) ?_
      show Steps p.tables e below (T86.setTop (mkF m 76 #[.val (.int p1), .val (.int (1 : Int32)), .val (.ref aT), .val (.ref aT), .val (.ref aF), .val (.int (1 : Int32)), .unset, .unset, .unset, .unset] [(.int (0 : Int32)), (.int (0 : Int32))])) _
      refine XS.icmpNo X86.here hx rfl (hb hby at_76) rfl (teq (rfl : (0 : Int32) = (0 : Int32))).2 ?_
      show Steps p.tables e below (T86.setTop (mkF m 79 #[.val (.int p1), .val (.int (1 : Int32)), .val (.ref aT), .val (.ref aT), .val (.ref aF), .val (.int (1 : Int32)), .unset, .unset, .unset, .unset] [])) _
      refine XS.iconst X86.here hx rfl (hb hby at_79) ?_
      show Steps p.tables e below (T86.setTop (mkF m 80 #[.val (.int p1), .val (.int (1 : Int32)), .val (.ref aT), .val (.ref aT), .val (.ref aF), .val (.int (1 : Int32)), .unset, .unset, .unset, .unset] [(.int (1 : Int32))])) _
      refine XS.goto X86.here hx rfl (pc0 := 80) (pc' := 84) rfl (hb hby at_80) (by decide) (by decide) ?_
      show Steps p.tables e below (T86.setTop (mkF m 84 #[.val (.int p1), .val (.int (1 : Int32)), .val (.ref aT), .val (.ref aT), .val (.ref aF), .val (.int (1 : Int32)), .unset, .unset, .unset, .unset] [(.int (1 : Int32))])) _
      refine XS.istore X86.here hx rfl (hb hby at_84) rfl (l' := #[.val (.int p1), .val (.int (1 : Int32)), .val (.ref aT), .val (.ref aT), .val (.ref aF), .val (.int (1 : Int32)), .val (.int (1 : Int32)), .unset, .unset, .unset]) rfl ?_
      show Steps p.tables e below (T86.setTop (mkF m 86 #[.val (.int p1), .val (.int (1 : Int32)), .val (.ref aT), .val (.ref aT), .val (.ref aF), .val (.int (1 : Int32)), .val (.int (1 : Int32)), .unset, .unset, .unset] [])) _
      refine XS.aloadN X86.here hx rfl (hb hby at_86) rfl rfl ?_
      show Steps p.tables e below (T86.setTop (mkF m 87 #[.val (.int p1), .val (.int (1 : Int32)), .val (.ref aT), .val (.ref aT), .val (.ref aF), .val (.int (1 : Int32)), .val (.int (1 : Int32)), .unset, .unset, .unset] [(.ref aT)])) _
      refine XS.aloadN X86.here hx rfl (hb hby at_87) rfl rfl ?_
      show Steps p.tables e below (T86.setTop (mkF m 88 #[.val (.int p1), .val (.int (1 : Int32)), .val (.ref aT), .val (.ref aT), .val (.ref aF), .val (.int (1 : Int32)), .val (.int (1 : Int32)), .unset, .unset, .unset] [(.ref aT), (.ref aT)])) _
      refine Jvm.RoadKit.acmp (g := (mkF m 88 #[.val (.int p1), .val (.int (1 : Int32)), .val (.ref aT), .val (.ref aT), .val (.ref aF), .val (.int (1 : Int32)), .val (.int (1 : Int32)), .unset, .unset, .unset] [(.ref aT), (.ref aT)])) X86 hx rfl rfl rfl (pc0 := 88) (pc' := 91) (same := true) rfl (hb hby at_88) rfl (decide_eq_true rfl) (by decide) (by decide) ?_
      show Steps p.tables e below (T86.setTop (mkF m 91 #[.val (.int p1), .val (.int (1 : Int32)), .val (.ref aT), .val (.ref aT), .val (.ref aF), .val (.int (1 : Int32)), .val (.int (1 : Int32)), .unset, .unset, .unset] [])) _
      refine XS.iconst X86.here hx rfl (hb hby at_91) ?_
      show Steps p.tables e below (T86.setTop (mkF m 92 #[.val (.int p1), .val (.int (1 : Int32)), .val (.ref aT), .val (.ref aT), .val (.ref aF), .val (.int (1 : Int32)), .val (.int (1 : Int32)), .unset, .unset, .unset] [(.int (1 : Int32))])) _
      refine XS.goto X86.here hx rfl (pc0 := 92) (pc' := 96) rfl (hb hby at_92) (by decide) (by decide) ?_
      show Steps p.tables e below (T86.setTop (mkF m 96 #[.val (.int p1), .val (.int (1 : Int32)), .val (.ref aT), .val (.ref aT), .val (.ref aF), .val (.int (1 : Int32)), .val (.int (1 : Int32)), .unset, .unset, .unset] [(.int (1 : Int32))])) _
      refine XS.istore X86.here hx rfl (hb hby at_96) rfl (l' := #[.val (.int p1), .val (.int (1 : Int32)), .val (.ref aT), .val (.ref aT), .val (.ref aF), .val (.int (1 : Int32)), .val (.int (1 : Int32)), .val (.int (1 : Int32)), .unset, .unset]) rfl ?_
      show Steps p.tables e below (T86.setTop (mkF m 98 #[.val (.int p1), .val (.int (1 : Int32)), .val (.ref aT), .val (.ref aT), .val (.ref aF), .val (.int (1 : Int32)), .val (.int (1 : Int32)), .val (.int (1 : Int32)), .unset, .unset] [])) _
      refine XS.aloadN X86.here hx rfl (hb hby at_98) rfl rfl ?_
      show Steps p.tables e below (T86.setTop (mkF m 99 #[.val (.int p1), .val (.int (1 : Int32)), .val (.ref aT), .val (.ref aT), .val (.ref aF), .val (.int (1 : Int32)), .val (.int (1 : Int32)), .val (.int (1 : Int32)), .unset, .unset] [(.ref aT)])) _
      refine XS.iloadN X86.here hx rfl (hb hby at_99) rfl ?_
      show Steps p.tables e below (T86.setTop (mkF m 100 #[.val (.int p1), .val (.int (1 : Int32)), .val (.ref aT), .val (.ref aT), .val (.ref aF), .val (.int (1 : Int32)), .val (.int (1 : Int32)), .val (.int (1 : Int32)), .unset, .unset] [(.int (1 : Int32)), (.ref aT)])) _
      refine XS.ifNo X86.here hx rfl (hb hby at_100) rfl ((if0 _ _).trans (feq (by decide : ¬ ((1 : Int32) = (0 : Int32)))).1) ?_
      show Steps p.tables e below (T86.setTop (mkF m 103 #[.val (.int p1), .val (.int (1 : Int32)), .val (.ref aT), .val (.ref aT), .val (.ref aF), .val (.int (1 : Int32)), .val (.int (1 : Int32)), .val (.int (1 : Int32)), .unset, .unset] [(.ref aT)])) _
      refine st89 _ ?_
      show Steps p.tables e below (T89.setTop (mkF m 106 #[.val (.int p1), .val (.int (1 : Int32)), .val (.ref aT), .val (.ref aT), .val (.ref aF), .val (.int (1 : Int32)), .val (.int (1 : Int32)), .val (.int (1 : Int32)), .unset, .unset] [(.ref aT), (.ref aT)])) _
      refine XS.goto X89.here hx rfl (pc0 := 106) (pc' := 112) rfl (hb hby at_106) (by decide) (by decide) ?_
      show Steps p.tables e below (T89.setTop (mkF m 112 #[.val (.int p1), .val (.int (1 : Int32)), .val (.ref aT), .val (.ref aT), .val (.ref aF), .val (.int (1 : Int32)), .val (.int (1 : Int32)), .val (.int (1 : Int32)), .unset, .unset] [(.ref aT), (.ref aT)])) _
      refine Jvm.RoadKit.acmp (g := (mkF m 112 #[.val (.int p1), .val (.int (1 : Int32)), .val (.ref aT), .val (.ref aT), .val (.ref aF), .val (.int (1 : Int32)), .val (.int (1 : Int32)), .val (.int (1 : Int32)), .unset, .unset] [(.ref aT), (.ref aT)])) X89 hx rfl rfl rfl (pc0 := 112) (pc' := 115) (same := true) rfl (hb hby at_112) rfl (decide_eq_true rfl) (by decide) (by decide) ?_
      show Steps p.tables e below (T89.setTop (mkF m 115 #[.val (.int p1), .val (.int (1 : Int32)), .val (.ref aT), .val (.ref aT), .val (.ref aF), .val (.int (1 : Int32)), .val (.int (1 : Int32)), .val (.int (1 : Int32)), .unset, .unset] [])) _
      refine XS.iconst X89.here hx rfl (hb hby at_115) ?_
      show Steps p.tables e below (T89.setTop (mkF m 116 #[.val (.int p1), .val (.int (1 : Int32)), .val (.ref aT), .val (.ref aT), .val (.ref aF), .val (.int (1 : Int32)), .val (.int (1 : Int32)), .val (.int (1 : Int32)), .unset, .unset] [(.int (1 : Int32))])) _
      refine XS.goto X89.here hx rfl (pc0 := 116) (pc' := 120) rfl (hb hby at_116) (by decide) (by decide) ?_
      show Steps p.tables e below (T89.setTop (mkF m 120 #[.val (.int p1), .val (.int (1 : Int32)), .val (.ref aT), .val (.ref aT), .val (.ref aF), .val (.int (1 : Int32)), .val (.int (1 : Int32)), .val (.int (1 : Int32)), .unset, .unset] [(.int (1 : Int32))])) _
      refine XS.istore X89.here hx rfl (hb hby at_120) rfl (l' := #[.val (.int p1), .val (.int (1 : Int32)), .val (.ref aT), .val (.ref aT), .val (.ref aF), .val (.int (1 : Int32)), .val (.int (1 : Int32)), .val (.int (1 : Int32)), .val (.int (1 : Int32)), .unset]) rfl ?_
      show Steps p.tables e below (T89.setTop (mkF m 122 #[.val (.int p1), .val (.int (1 : Int32)), .val (.ref aT), .val (.ref aT), .val (.ref aF), .val (.int (1 : Int32)), .val (.int (1 : Int32)), .val (.int (1 : Int32)), .val (.int (1 : Int32)), .unset] [])) _
      refine XS.aloadN X89.here hx rfl (hb hby at_122) rfl rfl ?_
      show Steps p.tables e below (T89.setTop (mkF m 123 #[.val (.int p1), .val (.int (1 : Int32)), .val (.ref aT), .val (.ref aT), .val (.ref aF), .val (.int (1 : Int32)), .val (.int (1 : Int32)), .val (.int (1 : Int32)), .val (.int (1 : Int32)), .unset] [(.ref aT)])) _
      refine XS.aload X89.here hx rfl (hb hby at_123) rfl rfl ?_
      show Steps p.tables e below (T89.setTop (mkF m 125 #[.val (.int p1), .val (.int (1 : Int32)), .val (.ref aT), .val (.ref aT), .val (.ref aF), .val (.int (1 : Int32)), .val (.int (1 : Int32)), .val (.int (1 : Int32)), .val (.int (1 : Int32)), .unset] [(.ref aF), (.ref aT)])) _
      refine st97.trans ?_
      show Steps p.tables e below (T97.setTop (mkF m 128 #[.val (.int p1), .val (.int (1 : Int32)), .val (.ref aT), .val (.ref aT), .val (.ref aF), .val (.int (1 : Int32)), .val (.int (1 : Int32)), .val (.int (1 : Int32)), .val (.int (1 : Int32)), .unset] [(.int (1 : Int32))])) _
      refine XS.ifYes X97.here hx rfl (pc0 := 128) (pc' := 135) rfl (hb hby at_128) rfl ((if0 _ _).trans (flt (by decide : ¬ ((1 : Int32) < (0 : Int32)))).2.1) (by decide) (by decide) ?_
      show Steps p.tables e below (T97.setTop (mkF m 135 #[.val (.int p1), .val (.int (1 : Int32)), .val (.ref aT), .val (.ref aT), .val (.ref aF), .val (.int (1 : Int32)), .val (.int (1 : Int32)), .val (.int (1 : Int32)), .val (.int (1 : Int32)), .unset] [])) _
      refine XS.iconst X97.here hx rfl (hb hby at_135) ?_
      show Steps p.tables e below (T97.setTop (mkF m 136 #[.val (.int p1), .val (.int (1 : Int32)), .val (.ref aT), .val (.ref aT), .val (.ref aF), .val (.int (1 : Int32)), .val (.int (1 : Int32)), .val (.int (1 : Int32)), .val (.int (1 : Int32)), .unset] [(.int (0 : Int32))])) _
      refine XS.iloadN X97.here hx rfl (hb hby at_136) rfl ?_
      show Steps p.tables e below (T97.setTop (mkF m 137 #[.val (.int p1), .val (.int (1 : Int32)), .val (.ref aT), .val (.ref aT), .val (.ref aF), .val (.int (1 : Int32)), .val (.int (1 : Int32)), .val (.int (1 : Int32)), .val (.int (1 : Int32)), .unset] [(.int (1 : Int32)), (.int (0 : Int32))])) _
      refine XS.ifYes X97.here hx rfl (pc0 := 137) (pc' := 144) rfl (hb hby at_137) rfl ((if0 _ _).trans (feq (by decide : ¬ ((1 : Int32) = (0 : Int32)))).2) (by decide) (by decide) ?_
      show Steps p.tables e below (T97.setTop (mkF m 144 #[.val (.int p1), .val (.int (1 : Int32)), .val (.ref aT), .val (.ref aT), .val (.ref aF), .val (.int (1 : Int32)), .val (.int (1 : Int32)), .val (.int (1 : Int32)), .val (.int (1 : Int32)), .unset] [(.int (0 : Int32))])) _
      refine XS.iconst X97.here hx rfl (hb hby at_144) ?_
      show Steps p.tables e below (T97.setTop (mkF m 145 #[.val (.int p1), .val (.int (1 : Int32)), .val (.ref aT), .val (.ref aT), .val (.ref aF), .val (.int (1 : Int32)), .val (.int (1 : Int32)), .val (.int (1 : Int32)), .val (.int (1 : Int32)), .unset] [(.int (0 : Int32)), (.int (0 : Int32))])) _
      refine XS.icmpNo X97.here hx rfl (hb hby at_145) rfl (teq (rfl : (0 : Int32) = (0 : Int32))).2 ?_
      show Steps p.tables e below (T97.setTop (mkF m 148 #[.val (.int p1), .val (.int (1 : Int32)), .val (.ref aT), .val (.ref aT), .val (.ref aF), .val (.int (1 : Int32)), .val (.int (1 : Int32)), .val (.int (1 : Int32)), .val (.int (1 : Int32)), .unset] [])) _
      refine XS.iconst X97.here hx rfl (hb hby at_148) ?_
      show Steps p.tables e below (T97.setTop (mkF m 149 #[.val (.int p1), .val (.int (1 : Int32)), .val (.ref aT), .val (.ref aT), .val (.ref aF), .val (.int (1 : Int32)), .val (.int (1 : Int32)), .val (.int (1 : Int32)), .val (.int (1 : Int32)), .unset] [(.int (1 : Int32))])) _
      refine XS.goto X97.here hx rfl (pc0 := 149) (pc' := 153) rfl (hb hby at_149) (by decide) (by decide) ?_
      show Steps p.tables e below (T97.setTop (mkF m 153 #[.val (.int p1), .val (.int (1 : Int32)), .val (.ref aT), .val (.ref aT), .val (.ref aF), .val (.int (1 : Int32)), .val (.int (1 : Int32)), .val (.int (1 : Int32)), .val (.int (1 : Int32)), .unset] [(.int (1 : Int32))])) _
      refine XS.istore X97.here hx rfl (hb hby at_153) rfl (l' := #[.val (.int p1), .val (.int (1 : Int32)), .val (.ref aT), .val (.ref aT), .val (.ref aF), .val (.int (1 : Int32)), .val (.int (1 : Int32)), .val (.int (1 : Int32)), .val (.int (1 : Int32)), .val (.int (1 : Int32))]) rfl ?_
      show Steps p.tables e below (T97.setTop (mkF m 155 #[.val (.int p1), .val (.int (1 : Int32)), .val (.ref aT), .val (.ref aT), .val (.ref aF), .val (.int (1 : Int32)), .val (.int (1 : Int32)), .val (.int (1 : Int32)), .val (.int (1 : Int32)), .val (.int (1 : Int32))] [])) _
      refine XS.iload X97.here hx rfl (hb hby at_155) rfl ?_
      show Steps p.tables e below (T97.setTop (mkF m 157 #[.val (.int p1), .val (.int (1 : Int32)), .val (.ref aT), .val (.ref aT), .val (.ref aF), .val (.int (1 : Int32)), .val (.int (1 : Int32)), .val (.int (1 : Int32)), .val (.int (1 : Int32)), .val (.int (1 : Int32))] [(.int (1 : Int32))])) _
      refine XS.ifNo X97.here hx rfl (hb hby at_157) rfl ((if0 _ _).trans (feq (by decide : ¬ ((1 : Int32) = (0 : Int32)))).1) ?_
      show Steps p.tables e below (T97.setTop (mkF m 160 #[.val (.int p1), .val (.int (1 : Int32)), .val (.ref aT), .val (.ref aT), .val (.ref aF), .val (.int (1 : Int32)), .val (.int (1 : Int32)), .val (.int (1 : Int32)), .val (.int (1 : Int32)), .val (.int (1 : Int32))] [])) _
      refine XS.iload X97.here hx rfl (hb hby at_160) rfl ?_
      show Steps p.tables e below (T97.setTop (mkF m 162 #[.val (.int p1), .val (.int (1 : Int32)), .val (.ref aT), .val (.ref aT), .val (.ref aF), .val (.int (1 : Int32)), .val (.int (1 : Int32)), .val (.int (1 : Int32)), .val (.int (1 : Int32)), .val (.int (1 : Int32))] [(.int (1 : Int32))])) _
      refine XS.ifNo X97.here hx rfl (hb hby at_162) rfl ((if0 _ _).trans (feq (by decide : ¬ ((1 : Int32) = (0 : Int32)))).1) ?_
      show Steps p.tables e below (T97.setTop (mkF m 165 #[.val (.int p1), .val (.int (1 : Int32)), .val (.ref aT), .val (.ref aT), .val (.ref aF), .val (.int (1 : Int32)), .val (.int (1 : Int32)), .val (.int (1 : Int32)), .val (.int (1 : Int32)), .val (.int (1 : Int32))] [])) _
      refine XS.iload X97.here hx rfl (hb hby at_165) rfl ?_
      show Steps p.tables e below (T97.setTop (mkF m 167 #[.val (.int p1), .val (.int (1 : Int32)), .val (.ref aT), .val (.ref aT), .val (.ref aF), .val (.int (1 : Int32)), .val (.int (1 : Int32)), .val (.int (1 : Int32)), .val (.int (1 : Int32)), .val (.int (1 : Int32))] [(.int (1 : Int32))])) _
      refine XS.ifNo X97.here hx rfl (hb hby at_167) rfl ((if0 _ _).trans (feq (by decide : ¬ ((1 : Int32) = (0 : Int32)))).1) ?_
      show Steps p.tables e below (T97.setTop (mkF m 170 #[.val (.int p1), .val (.int (1 : Int32)), .val (.ref aT), .val (.ref aT), .val (.ref aF), .val (.int (1 : Int32)), .val (.int (1 : Int32)), .val (.int (1 : Int32)), .val (.int (1 : Int32)), .val (.int (1 : Int32))] [])) _
      refine XS.iload X97.here hx rfl (hb hby at_170) rfl ?_
      show Steps p.tables e below (T97.setTop (mkF m 172 #[.val (.int p1), .val (.int (1 : Int32)), .val (.ref aT), .val (.ref aT), .val (.ref aF), .val (.int (1 : Int32)), .val (.int (1 : Int32)), .val (.int (1 : Int32)), .val (.int (1 : Int32)), .val (.int (1 : Int32))] [(.int (1 : Int32))])) _
      refine XS.ifNo X97.here hx rfl (hb hby at_172) rfl ((if0 _ _).trans (feq (by decide : ¬ ((1 : Int32) = (0 : Int32)))).1) ?_
      show Steps p.tables e below (T97.setTop (mkF m 175 #[.val (.int p1), .val (.int (1 : Int32)), .val (.ref aT), .val (.ref aT), .val (.ref aF), .val (.int (1 : Int32)), .val (.int (1 : Int32)), .val (.int (1 : Int32)), .val (.int (1 : Int32)), .val (.int (1 : Int32))] [])) _
      refine XS.iload X97.here hx rfl (hb hby at_175) rfl ?_
      show Steps p.tables e below (T97.setTop (mkF m 177 #[.val (.int p1), .val (.int (1 : Int32)), .val (.ref aT), .val (.ref aT), .val (.ref aF), .val (.int (1 : Int32)), .val (.int (1 : Int32)), .val (.int (1 : Int32)), .val (.int (1 : Int32)), .val (.int (1 : Int32))] [(.int (1 : Int32))])) _
      refine XS.ifNo X97.here hx rfl (hb hby at_177) rfl ((if0 _ _).trans (feq (by decide : ¬ ((1 : Int32) = (0 : Int32)))).1) ?_
      show Steps p.tables e below (T97.setTop (mkF m 180 #[.val (.int p1), .val (.int (1 : Int32)), .val (.ref aT), .val (.ref aT), .val (.ref aF), .val (.int (1 : Int32)), .val (.int (1 : Int32)), .val (.int (1 : Int32)), .val (.int (1 : Int32)), .val (.int (1 : Int32))] [])) _
      refine XS.iconst X97.here hx rfl (hb hby at_180) ?_
      show Steps p.tables e below (T97.setTop (mkF m 181 #[.val (.int p1), .val (.int (1 : Int32)), .val (.ref aT), .val (.ref aT), .val (.ref aF), .val (.int (1 : Int32)), .val (.int (1 : Int32)), .val (.int (1 : Int32)), .val (.int (1 : Int32)), .val (.int (1 : Int32))] [(.int (1 : Int32))])) _
      refine XS.goto X97.here hx rfl (pc0 := 181) (pc' := 185) rfl (hb hby at_181) (by decide) (by decide) ?_
      exact kt
    obtain ⟨fs, hr, hrun, hended, hW, hsame⟩ := X97.leave (v := some (.int (1 : Int32))) (fun h => by rw [Bd.returns] at h; cases h)
    refine ⟨_, _, (pre0 _ (pre54 _ (pre98 _ ?_))), hrun, hended, _, _, rfl, ?_, ⟨_, rfl⟩, hW, hsame.mono (by decide) (by decide)⟩
    · show Steps p.tables e below (T97.setTop (mkF m 185 #[.val (.int p1), .val (.int (1 : Int32)), .val (.ref aT), .val (.ref aT), .val (.ref aF), .val (.int (1 : Int32)), .val (.int (1 : Int32)), .val (.int (1 : Int32)), .val (.int (1 : Int32)), .val (.int (1 : Int32))] [(.int (1 : Int32))])) _
      exact retN X97 hx (t := .boolean) Bd.returns (by simp) (hb hby at_185) hr
    · show Q0 Z p1 aF aT aK wo h0 n0 _ T97.heap _
      exact ⟨rfl, N97⟩
theorem own_fld {args : Array Value} {s : State} {t : Term} {a : Addr} {C n d : String} {k : Int32} (h : (Cond.eq (.field t C n d) (.int k)).value args s none s [] = some true) (ht : t.eval args s none [] s = some (.ref a)) : Fld s s.heap a C n d (.int k) := by
  refine Fld.start ?_
  rw [← fld_at (args := args) (first := s) (o := none) (idx := []) (C := C) (n := n) (dd := d) ht]
  simp only [Cond.value] at h
  cases hv : (Term.field t C n d).eval args s none [] s with
  | none => simp [hv] at h
  | some v =>
    rw [hv] at h
    cases v <;> simp_all [Term.eval]
set_option maxRecDepth 65536 in
set_option maxHeartbeats 40000000 in
theorem comes_1 {Post : Tables → Env → Array Value → State → Outcome → State → Prop} (hpost : ∀ tb e args s v u, (limb_1_1.after args s (.returned v) u = true ∧ limb_1_2.after args s (.returned v) u = true ∧ True) → FrameEnd s (.returned v) u (Jvm.fieldLocs frame_1_writes args s ++ Jvm.arrayLocs frame_1_arrays args s ++ Jvm.staticLocs frame_1_statics s) 0 0 → Post tb e args s (.returned v) u) :
    ArmFor flags0 classFile x code maxLocals ret World_1 tables_1 room_1 Calls_1 rest_1 Pre_1 Post := by
  intro l hfl _ _ p e ha hc hk s m args below hf hA hF happ hP
  obtain ⟨hcalls, hrest, hpre⟩ := hP
  obtain ⟨-, -, -, hnamed, -, -, -, hat⟩ := (Spec.applies_iff hf).mp happ
  obtain ⟨hg, hn⟩ := and_e (Cond.before_iff.mp (show (Jvm.Cond.and given_1 narrow_1).before args s = true from hpre))
  obtain ⟨gc, g0⟩ := and_e hg
  obtain ⟨w0, rfl⟩ : ∃ w0 : Value, args = #[w0] := by
    have hs : args.size = 1 := by simpa [Cond.value, given_1] using gc
    obtain ⟨L⟩ := args
    match L, hs with
    | [w0], _ => exact ⟨w0, rfl⟩
  have hw := fun d (hd : d ∈ tables_1) => atoms_spec (ws := Jvm.Cond.code x code maxLocals ret :: tables_1) hat d (List.mem_cons_of_mem _ hd)
  have hfit : Fit s := fun {y c} hc i hi => by
    obtain ⟨ha, rfl⟩ := Array.getElem?_eq_some_iff.mp hc
    have q := List.all_eq_true.mp ((Array.all_eq_true_iff_forall_mem.mp hF) _ (Array.getElem_mem ha)) i (List.mem_range.mpr hi)
    simpa [Array.getElem?_eq_getElem hi] using q
  obtain ⟨i0, ei0⟩ := is_v g0
  obtain rfl : w0 = (.int i0) := Option.some.inj ei0
  obtain ⟨n1, m1⟩ := and_e hn
  obtain ⟨n2, m2⟩ := and_e m1
  obtain ⟨n3, m3⟩ := and_e m2
  obtain ⟨n4, m4⟩ := and_e m3
  obtain ⟨n5, n6⟩ := and_e m4
  obtain ⟨aF, vF⟩ := exa_v n1
  obtain ⟨aT, vT⟩ := exa_v n2
  obtain ⟨aK, vK⟩ := exa_v n5
  have SF := Sta.start vF (Or.inr ⟨(hw _ (List.mem_of_getElem? (i := 2) rfl)), (hw _ (List.mem_of_getElem? (i := 5) rfl))⟩)
  have ST := Sta.start vT (Or.inr ⟨(hw _ (List.mem_of_getElem? (i := 2) rfl)), (hw _ (List.mem_of_getElem? (i := 7) rfl))⟩)
  have SK := Sta.start vK (Or.inr ⟨(hw _ (List.mem_of_getElem? (i := 29) rfl)), (hw _ (List.mem_of_getElem? (i := 30) rfl))⟩)
  have EF := Exa.start vF n1
  have ET := Exa.start vT n2
  have EK := Exa.start vK n5
  have FF := own_fld n3 vF
  have FT := own_fld n4 vT
  have FK := own_fld n6 vK
  have M : MirrorMade s "com/example/formal_model_bench/formalmodelbench/engine/Value$Kind" := hcalls.1
  obtain ⟨n, o, h1, h2, h3, _, L, rfl, ⟨rfl, N⟩, hq⟩ := rm0 l s _ hw tables_1 i0 aF aT aK 1 s.heap s.heap.size (Nat.le_refl _) SF ST EF ET FF FT SK EK FK M p e ha hc hk s m _ below hf ((Spec.applies_iff_loose hf).mp happ).1 ⟨rfl, State.Warmed39.refl s, rfl⟩ trivial
  refine ⟨n, _, h1, h2, h3, hpost _ _ _ _ _ _ ⟨Cond.after_iff.mpr rfl, Cond.after_iff.mpr (eq_i res_at (Term.int_eval (1)) rfl), trivial⟩ ⟨hq.1, hq.2.1, (hq.2.2.sift fun y hy => Or.inr (N y hy)).mono (by decide) (by decide)⟩⟩
theorem main_1_1 : Claimed_1_1 := comes_1 fun _ _ _ _ _ _ h hF => ⟨h.1, hF⟩
theorem main_1_2 : Claimed_1_2 := comes_1 fun _ _ _ _ _ _ h hF => ⟨h.2.1, hF⟩
end Jvm.Pilot.@@N@@
namespace Jvm.Pilot.@@N@@
open Jvm Jvm.ClassFile Sem Op Lib Jvm.Free Jvm.Stand Jvm.Pilot.@@N@@.Jvm.D
/-! MADE BY PROGRAM (witnessworld.py) out of the Statement's table words and the real class files: 16 classes; the members and pool entries that the words name. The judged class is class 1, her method 1. -/
namespace start1
open Jvm.ClassFile
def u (s : String) : CpInfo := .utf8 (stringToUtf16 s)
/-- a pool by its gaps: so many unusable entries, then the entry; so many at the end -/
def gap : Nat → List CpInfo → List CpInfo
  | 0, r => r
  | n + 1, r => .unusable :: gap n r
def poolList (es : List (Nat × CpInfo)) (last : Nat) : List CpInfo := es.foldr (fun e r => gap e.1 (e.2 :: r)) (gap last [])
def pool (es : List (Nat × CpInfo)) (last : Nat) : Array CpInfo := ⟨poolList es last⟩
def fileOf (pool : Array CpInfo) (this : Nat) (attrs : Array Attribute := #[]) (ms : Array MethodInfo := #[]) (fl : Nat := 33) (sup : Nat := 0) (ifs : Array Nat := #[]) (fds : Array FieldInfo := #[]) : ClassFile where
  minorVersion := 0
  majorVersion := 65
  constantPool := pool
  accessFlags := fl
  thisClass := this
  superClass := sup
  interfaces := ifs
  fields := fds
  methods := ms
  attributes := attrs
def plain (name : String) (sup : Option ClassId) : Class where
  name := name
  kind := .ordinary
  loader := none
  accessFlags := 33
  super := sup
  interfaces := #[]
  cf := none
  fields := #[]
  methods := #[]
  instanceTypes := #[]
  staticTypes := #[]
  resolved := #[]
  callSites := []
  init := .initialized
  statics := none
  mirror := none

def pool0 : Array CpInfo := pool [(5, u "<init>"), (0, u "()V"), (1, .class_ 10), (1, u "java/lang/Object"), (0, u "getClass"), (0, u "()Ljava/lang/Class;")] 111

def k0m0 : Method := { name := "<init>", desc := "()V", sig := { parameters := [], returnType := none }, accessFlags := 1, code := none }
def k0m1 : Method := { name := "getClass", desc := "()Ljava/lang/Class;", sig := { parameters := [], returnType := some (.object "java/lang/Class") }, accessFlags := 273, code := none }
/-- java/lang/Object -/
def k0 : Class := { plain "java/lang/Object" none with
  accessFlags := 33
  interfaces := #[]
  cf := some (fileOf pool0 8 #[] #[{ accessFlags := 1, nameIndex := 5, descriptorIndex := 6, attributes := #[] }, { accessFlags := 273, nameIndex := 11, descriptorIndex := 12, attributes := #[] }] 33 0 #[] #[])
  fields := #[]
  methods := #[k0m0, k0m1]
  instanceTypes := #[]
  staticTypes := #[]
  resolved := Array.replicate 124 none
  statics := none }

def pool1 : Array CpInfo := pool [(2, .class_ 4), (1, u "java/lang/Object"), (0, u "<init>"), (0, u "()V"), (0, .methodref 8 9), (0, .class_ 10), (0, .nameAndType 11 12), (0, u "com/example/formal_model_bench/formalmodelbench/engine/BoolValue"), (0, u "of"), (0, u "(Z)Lcom/example/formal_model_bench/formalmodelbench/engine/BoolValue;"), (0, .methodref 8 14), (0, .nameAndType 15 16), (0, u "value"), (0, u "()Z"), (0, .fieldref 8 18), (0, .nameAndType 19 20), (0, u "TRUE"), (0, u "Lcom/example/formal_model_bench/formalmodelbench/engine/BoolValue;"), (0, .fieldref 8 22), (0, .nameAndType 23 20), (0, u "FALSE"), (0, .methodref 8 25), (0, .nameAndType 26 27), (0, u "compareTo"), (0, u "(Lcom/example/formal_model_bench/formalmodelbench/engine/Value;)I"), (0, .class_ 29), (0, u "com/example/formal_model_bench/formalmodelbench/engine/BoolValueOfPinLaw"), (2, u "law"), (0, u "(I)Z")] 3

def k1m0 : Method := { name := "<init>", desc := "()V", sig := { parameters := [], returnType := none }, accessFlags := 2, code := none }
def k1c1 : Code := { maxStack := 2, maxLocals := 10, code := code, exceptionTable := #[], attributes := #[] }
def k1m1 : Method := { name := "law", desc := "(I)Z", sig := { parameters := [.int], returnType := some .boolean }, accessFlags := 9, code := some k1c1 }
/-- com/example/formal_model_bench/formalmodelbench/engine/BoolValueOfPinLaw -/
def k1 : Class := { plain "com/example/formal_model_bench/formalmodelbench/engine/BoolValueOfPinLaw" (some 0) with
  accessFlags := 49
  interfaces := #[]
  cf := some (fileOf pool1 28 #[] #[{ accessFlags := 2, nameIndex := 5, descriptorIndex := 6, attributes := #[] }, { accessFlags := 9, nameIndex := 32, descriptorIndex := 33, attributes := #[] }] 49 2 #[] #[])
  fields := #[]
  methods := #[k1m0, k1m1]
  instanceTypes := #[]
  staticTypes := #[]
  resolved := Array.replicate 37 none
  statics := none }

def pool2 : Array CpInfo := pool [(1, .class_ 2), (0, u "java/lang/Comparable"), (0, .class_ 4), (0, u "java/lang/Object")] 7

/-- java/lang/Comparable -/
def k2 : Class := { plain "java/lang/Comparable" (some 0) with
  accessFlags := 1537
  interfaces := #[]
  cf := some (fileOf pool2 1 #[] #[] 1537 3 #[] #[])
  fields := #[]
  methods := #[]
  instanceTypes := #[]
  staticTypes := #[]
  resolved := Array.replicate 12 none
  statics := none }

def pool3 : Array CpInfo := pool [(2, .class_ 4), (1, u "java/lang/Object"), (0, u "<init>"), (0, u "()V"), (0, .methodref 8 9), (0, .class_ 10), (0, .nameAndType 11 12), (0, u "com/example/formal_model_bench/formalmodelbench/engine/Value"), (0, u "kind"), (0, u "()Lcom/example/formal_model_bench/formalmodelbench/engine/Value$Kind;"), (0, .methodref 14 15), (0, .class_ 16), (0, .nameAndType 17 18), (0, u "com/example/formal_model_bench/formalmodelbench/engine/Value$Kind"), (0, u "compareTo"), (0, u "(Ljava/lang/Enum;)I"), (0, .methodref 8 20), (0, .nameAndType 21 22), (0, u "compareSameKind"), (0, u "(Lcom/example/formal_model_bench/formalmodelbench/engine/Value;)I"), (2, .class_ 26), (0, u "java/lang/Comparable")] 18

def k3m0 : Method := { name := "<init>", desc := "()V", sig := { parameters := [], returnType := none }, accessFlags := 0, code := none }
def k3m1 : Method := { name := "kind", desc := "()Lcom/example/formal_model_bench/formalmodelbench/engine/Value$Kind;", sig := { parameters := [], returnType := some (.object "com/example/formal_model_bench/formalmodelbench/engine/Value$Kind") }, accessFlags := 1024, code := none }
def k3m2 : Method := { name := "compareSameKind", desc := "(Lcom/example/formal_model_bench/formalmodelbench/engine/Value;)I", sig := { parameters := [(.object "com/example/formal_model_bench/formalmodelbench/engine/Value")], returnType := some .int }, accessFlags := 1024, code := none }
def k3c3 : Code := { maxStack := 2, maxLocals := 3, code := prog_103_method_4_code, exceptionTable := #[], attributes := #[] }
def k3m3 : Method := { name := "compareTo", desc := "(Lcom/example/formal_model_bench/formalmodelbench/engine/Value;)I", sig := { parameters := [(.object "com/example/formal_model_bench/formalmodelbench/engine/Value")], returnType := some .int }, accessFlags := 17, code := some k3c3 }
/-- com/example/formal_model_bench/formalmodelbench/engine/Value -/
def k3 : Class := { plain "com/example/formal_model_bench/formalmodelbench/engine/Value" (some 0) with
  accessFlags := 1057
  interfaces := #[2]
  cf := some (fileOf pool3 8 #[.nestMembers #[14]] #[{ accessFlags := 0, nameIndex := 5, descriptorIndex := 6, attributes := #[] }, { accessFlags := 1024, nameIndex := 11, descriptorIndex := 12, attributes := #[] }, { accessFlags := 1024, nameIndex := 21, descriptorIndex := 22, attributes := #[] }, { accessFlags := 17, nameIndex := 17, descriptorIndex := 22, attributes := #[] }] 1057 2 #[25] #[])
  fields := #[]
  methods := #[k3m0, k3m1, k3m2, k3m3]
  instanceTypes := #[]
  staticTypes := #[]
  resolved := Array.replicate 45 none
  statics := none }

def pool4 : Array CpInfo := pool [(2, .class_ 4), (1, u "com/example/formal_model_bench/formalmodelbench/engine/Value"), (2, .fieldref 8 9), (0, .class_ 10), (0, .nameAndType 11 12), (0, u "com/example/formal_model_bench/formalmodelbench/engine/BoolValue"), (0, u "value"), (0, u "Z"), (0, .fieldref 8 14), (0, .nameAndType 15 16), (0, u "TRUE"), (0, u "Lcom/example/formal_model_bench/formalmodelbench/engine/BoolValue;"), (0, .fieldref 8 18), (0, .nameAndType 19 16), (0, u "FALSE"), (0, .fieldref 21 22), (0, .class_ 23), (0, .nameAndType 24 25), (0, u "com/example/formal_model_bench/formalmodelbench/engine/Value$Kind"), (0, u "BOOL"), (0, u "Lcom/example/formal_model_bench/formalmodelbench/engine/Value$Kind;"), (0, .methodref 27 28), (0, .class_ 29), (0, .nameAndType 30 31), (0, u "java/lang/Boolean"), (0, u "compare"), (0, u "(ZZ)I"), (13, u "of"), (0, u "(Z)Lcom/example/formal_model_bench/formalmodelbench/engine/BoolValue;"), (1, u "()Z"), (0, u "kind"), (0, u "()Lcom/example/formal_model_bench/formalmodelbench/engine/Value$Kind;"), (0, u "compareSameKind"), (0, u "(Lcom/example/formal_model_bench/formalmodelbench/engine/Value;)I")] 7

def k4c0 : Code := { maxStack := 1, maxLocals := 1, code := prog_6_method_2_code, exceptionTable := #[], attributes := #[] }
def k4m0 : Method := { name := "of", desc := "(Z)Lcom/example/formal_model_bench/formalmodelbench/engine/BoolValue;", sig := { parameters := [.boolean], returnType := some (.object "com/example/formal_model_bench/formalmodelbench/engine/BoolValue") }, accessFlags := 9, code := some k4c0 }
def k4c1 : Code := { maxStack := 1, maxLocals := 1, code := prog_6_method_3_code, exceptionTable := #[], attributes := #[] }
def k4m1 : Method := { name := "value", desc := "()Z", sig := { parameters := [], returnType := some .boolean }, accessFlags := 1, code := some k4c1 }
def k4c2 : Code := { maxStack := 1, maxLocals := 1, code := prog_6_method_4_code, exceptionTable := #[], attributes := #[] }
def k4m2 : Method := { name := "kind", desc := "()Lcom/example/formal_model_bench/formalmodelbench/engine/Value$Kind;", sig := { parameters := [], returnType := some (.object "com/example/formal_model_bench/formalmodelbench/engine/Value$Kind") }, accessFlags := 0, code := some k4c2 }
def k4c3 : Code := { maxStack := 2, maxLocals := 2, code := prog_6_method_5_code, exceptionTable := #[], attributes := #[] }
def k4m3 : Method := { name := "compareSameKind", desc := "(Lcom/example/formal_model_bench/formalmodelbench/engine/Value;)I", sig := { parameters := [(.object "com/example/formal_model_bench/formalmodelbench/engine/Value")], returnType := some .int }, accessFlags := 0, code := some k4c3 }
/-- com/example/formal_model_bench/formalmodelbench/engine/BoolValue -/
def k4 : Class := { plain "com/example/formal_model_bench/formalmodelbench/engine/BoolValue" (some 3) with
  accessFlags := 49
  interfaces := #[]
  cf := some (fileOf pool4 8 #[] #[{ accessFlags := 9, nameIndex := 45, descriptorIndex := 46, attributes := #[] }, { accessFlags := 1, nameIndex := 11, descriptorIndex := 48, attributes := #[] }, { accessFlags := 0, nameIndex := 49, descriptorIndex := 50, attributes := #[] }, { accessFlags := 0, nameIndex := 51, descriptorIndex := 52, attributes := #[] }] 49 2 #[] #[{ accessFlags := 25, nameIndex := 15, descriptorIndex := 16, attributes := #[] }, { accessFlags := 25, nameIndex := 19, descriptorIndex := 16, attributes := #[] }, { accessFlags := 18, nameIndex := 11, descriptorIndex := 12, attributes := #[] }])
  fields := #[{ name := "TRUE", type := (.object "com/example/formal_model_bench/formalmodelbench/engine/BoolValue"), accessFlags := 25, slot := 0, constantValue := 0 }, { name := "FALSE", type := (.object "com/example/formal_model_bench/formalmodelbench/engine/BoolValue"), accessFlags := 25, slot := 1, constantValue := 0 }, { name := "value", type := .boolean, accessFlags := 18, slot := 0, constantValue := 0 }]
  methods := #[k4m0, k4m1, k4m2, k4m3]
  instanceTypes := #[.boolean]
  staticTypes := #[(.object "com/example/formal_model_bench/formalmodelbench/engine/BoolValue"), (.object "com/example/formal_model_bench/formalmodelbench/engine/BoolValue")]
  resolved := Array.replicate 60 none
  statics := some 0 }

def pool5 : Array CpInfo := pool [(1, .class_ 2), (0, u "java/lang/constant/Constable"), (0, .class_ 4), (0, u "java/lang/Object")] 6

/-- java/lang/constant/Constable -/
def k5 : Class := { plain "java/lang/constant/Constable" (some 0) with
  accessFlags := 1537
  interfaces := #[]
  cf := some (fileOf pool5 1 #[] #[] 1537 3 #[] #[])
  fields := #[]
  methods := #[]
  instanceTypes := #[]
  staticTypes := #[]
  resolved := Array.replicate 11 none
  statics := none }

def pool6 : Array CpInfo := pool [(1, .class_ 2), (0, u "java/io/Serializable"), (0, .class_ 4), (0, u "java/lang/Object")] 2

/-- java/io/Serializable -/
def k6 : Class := { plain "java/io/Serializable" (some 0) with
  accessFlags := 1537
  interfaces := #[]
  cf := some (fileOf pool6 1 #[] #[] 1537 3 #[] #[])
  fields := #[]
  methods := #[]
  instanceTypes := #[]
  staticTypes := #[]
  resolved := Array.replicate 7 none
  statics := none }

def pool7 : Array CpInfo := pool [(2, .class_ 4), (1, u "java/lang/Enum"), (0, u "name"), (0, u "Ljava/lang/String;"), (0, .fieldref 2 8), (0, .nameAndType 9 10), (0, u "ordinal"), (0, u "I"), (1, .class_ 14), (1, u "java/lang/Object"), (4, u "hash"), (9, .methodref 12 30), (0, .nameAndType 31 32), (0, u "getClass"), (0, u "()Ljava/lang/Class;"), (70, u "compareTo"), (0, u "(Ljava/lang/Enum;)I"), (1, .class_ 108), (1, u "java/lang/Enum$EnumDesc"), (2, .class_ 112), (0, u "java/lang/constant/Constable"), (0, .class_ 114), (0, u "java/lang/Comparable"), (0, .class_ 116), (0, u "java/io/Serializable")] 87

def k7c0 : Code := { maxStack := 2, maxLocals := 4, code := jdk_37_method_8_code, exceptionTable := #[], attributes := #[] }
def k7m0 : Method := { name := "compareTo", desc := "(Ljava/lang/Enum;)I", sig := { parameters := [(.object "java/lang/Enum")], returnType := some .int }, accessFlags := 17, code := some k7c0 }
/-- java/lang/Enum -/
def k7 : Class := { plain "java/lang/Enum" (some 0) with
  accessFlags := 1057
  interfaces := #[5, 2, 6]
  cf := some (fileOf pool7 2 #[.nestMembers #[106]] #[{ accessFlags := 17, nameIndex := 103, descriptorIndex := 104, attributes := #[] }] 1057 12 #[111, 113, 115] #[{ accessFlags := 18, nameIndex := 5, descriptorIndex := 6, attributes := #[] }, { accessFlags := 18, nameIndex := 9, descriptorIndex := 10, attributes := #[] }, { accessFlags := 2, nameIndex := 19, descriptorIndex := 10, attributes := #[] }])
  fields := #[{ name := "name", type := (.object "java/lang/String"), accessFlags := 18, slot := 0, constantValue := 0 }, { name := "ordinal", type := .int, accessFlags := 18, slot := 1, constantValue := 0 }, { name := "hash", type := .int, accessFlags := 2, slot := 2, constantValue := 0 }]
  methods := #[k7m0]
  instanceTypes := #[(.object "java/lang/String"), .int, .int]
  staticTypes := #[]
  resolved := Array.replicate 204 none
  statics := none }

def pool8 : Array CpInfo := pool [(1, .class_ 2), (0, u "com/example/formal_model_bench/formalmodelbench/engine/Value$Kind"), (2, u "NIL"), (0, u "Lcom/example/formal_model_bench/formalmodelbench/engine/Value$Kind;"), (2, u "BOOL"), (2, u "NUMBER"), (2, u "CHAR"), (2, u "QUOTE"), (2, u "TOKEN"), (2, u "SEQ"), (2, u "SET"), (2, u "MAP"), (2, u "TUPLE"), (2, u "RECORD"), (2, u "OBJECT"), (2, u "FUNCTION"), (2, u "CLOSURE"), (2, u "$VALUES"), (0, u "[Lcom/example/formal_model_bench/formalmodelbench/engine/Value$Kind;"), (6, .class_ 58), (1, u "java/lang/Enum"), (37, .class_ 97), (0, u "com/example/formal_model_bench/formalmodelbench/engine/Value")] 2

/-- com/example/formal_model_bench/formalmodelbench/engine/Value$Kind -/
def k8 : Class := { plain "com/example/formal_model_bench/formalmodelbench/engine/Value$Kind" (some 7) with
  accessFlags := 16432
  interfaces := #[]
  cf := some (fileOf pool8 1 #[.nestHost 96] #[] 16432 56 #[] #[{ accessFlags := 16409, nameIndex := 5, descriptorIndex := 6, attributes := #[] }, { accessFlags := 16409, nameIndex := 9, descriptorIndex := 6, attributes := #[] }, { accessFlags := 16409, nameIndex := 12, descriptorIndex := 6, attributes := #[] }, { accessFlags := 16409, nameIndex := 15, descriptorIndex := 6, attributes := #[] }, { accessFlags := 16409, nameIndex := 18, descriptorIndex := 6, attributes := #[] }, { accessFlags := 16409, nameIndex := 21, descriptorIndex := 6, attributes := #[] }, { accessFlags := 16409, nameIndex := 24, descriptorIndex := 6, attributes := #[] }, { accessFlags := 16409, nameIndex := 27, descriptorIndex := 6, attributes := #[] }, { accessFlags := 16409, nameIndex := 30, descriptorIndex := 6, attributes := #[] }, { accessFlags := 16409, nameIndex := 33, descriptorIndex := 6, attributes := #[] }, { accessFlags := 16409, nameIndex := 36, descriptorIndex := 6, attributes := #[] }, { accessFlags := 16409, nameIndex := 39, descriptorIndex := 6, attributes := #[] }, { accessFlags := 16409, nameIndex := 42, descriptorIndex := 6, attributes := #[] }, { accessFlags := 16409, nameIndex := 45, descriptorIndex := 6, attributes := #[] }, { accessFlags := 4122, nameIndex := 48, descriptorIndex := 49, attributes := #[] }])
  fields := #[{ name := "NIL", type := (.object "com/example/formal_model_bench/formalmodelbench/engine/Value$Kind"), accessFlags := 16409, slot := 0, constantValue := 0 }, { name := "BOOL", type := (.object "com/example/formal_model_bench/formalmodelbench/engine/Value$Kind"), accessFlags := 16409, slot := 1, constantValue := 0 }, { name := "NUMBER", type := (.object "com/example/formal_model_bench/formalmodelbench/engine/Value$Kind"), accessFlags := 16409, slot := 2, constantValue := 0 }, { name := "CHAR", type := (.object "com/example/formal_model_bench/formalmodelbench/engine/Value$Kind"), accessFlags := 16409, slot := 3, constantValue := 0 }, { name := "QUOTE", type := (.object "com/example/formal_model_bench/formalmodelbench/engine/Value$Kind"), accessFlags := 16409, slot := 4, constantValue := 0 }, { name := "TOKEN", type := (.object "com/example/formal_model_bench/formalmodelbench/engine/Value$Kind"), accessFlags := 16409, slot := 5, constantValue := 0 }, { name := "SEQ", type := (.object "com/example/formal_model_bench/formalmodelbench/engine/Value$Kind"), accessFlags := 16409, slot := 6, constantValue := 0 }, { name := "SET", type := (.object "com/example/formal_model_bench/formalmodelbench/engine/Value$Kind"), accessFlags := 16409, slot := 7, constantValue := 0 }, { name := "MAP", type := (.object "com/example/formal_model_bench/formalmodelbench/engine/Value$Kind"), accessFlags := 16409, slot := 8, constantValue := 0 }, { name := "TUPLE", type := (.object "com/example/formal_model_bench/formalmodelbench/engine/Value$Kind"), accessFlags := 16409, slot := 9, constantValue := 0 }, { name := "RECORD", type := (.object "com/example/formal_model_bench/formalmodelbench/engine/Value$Kind"), accessFlags := 16409, slot := 10, constantValue := 0 }, { name := "OBJECT", type := (.object "com/example/formal_model_bench/formalmodelbench/engine/Value$Kind"), accessFlags := 16409, slot := 11, constantValue := 0 }, { name := "FUNCTION", type := (.object "com/example/formal_model_bench/formalmodelbench/engine/Value$Kind"), accessFlags := 16409, slot := 12, constantValue := 0 }, { name := "CLOSURE", type := (.object "com/example/formal_model_bench/formalmodelbench/engine/Value$Kind"), accessFlags := 16409, slot := 13, constantValue := 0 }, { name := "$VALUES", type := (.array (.object "com/example/formal_model_bench/formalmodelbench/engine/Value$Kind")), accessFlags := 4122, slot := 14, constantValue := 0 }]
  methods := #[]
  instanceTypes := #[(.object "java/lang/String"), .int, .int]
  staticTypes := #[(.object "com/example/formal_model_bench/formalmodelbench/engine/Value$Kind"), (.object "com/example/formal_model_bench/formalmodelbench/engine/Value$Kind"), (.object "com/example/formal_model_bench/formalmodelbench/engine/Value$Kind"), (.object "com/example/formal_model_bench/formalmodelbench/engine/Value$Kind"), (.object "com/example/formal_model_bench/formalmodelbench/engine/Value$Kind"), (.object "com/example/formal_model_bench/formalmodelbench/engine/Value$Kind"), (.object "com/example/formal_model_bench/formalmodelbench/engine/Value$Kind"), (.object "com/example/formal_model_bench/formalmodelbench/engine/Value$Kind"), (.object "com/example/formal_model_bench/formalmodelbench/engine/Value$Kind"), (.object "com/example/formal_model_bench/formalmodelbench/engine/Value$Kind"), (.object "com/example/formal_model_bench/formalmodelbench/engine/Value$Kind"), (.object "com/example/formal_model_bench/formalmodelbench/engine/Value$Kind"), (.object "com/example/formal_model_bench/formalmodelbench/engine/Value$Kind"), (.object "com/example/formal_model_bench/formalmodelbench/engine/Value$Kind"), (.array (.object "com/example/formal_model_bench/formalmodelbench/engine/Value$Kind"))]
  resolved := Array.replicate 100 none
  mirror := some 2
  statics := some 1 }

def pool9 : Array CpInfo := pool [(2, .class_ 4), (1, u "java/lang/Object"), (3, .class_ 10), (1, u "java/lang/Boolean"), (0, u "value"), (0, u "Z"), (16, u "TRUE"), (0, u "Ljava/lang/Boolean;"), (2, u "FALSE"), (24, u "compare"), (0, u "(ZZ)I"), (27, u "TYPE"), (0, u "Ljava/lang/Class;"), (0, .class_ 90), (0, u "java/io/Serializable"), (0, .class_ 92), (0, u "java/lang/Comparable"), (0, .class_ 94), (0, u "java/lang/constant/Constable"), (2, u "serialVersionUID"), (0, u "J")] 53

def k9c0 : Code := { maxStack := 2, maxLocals := 2, code := jdk_2055_method_14_code, exceptionTable := #[], attributes := #[] }
def k9m0 : Method := { name := "compare", desc := "(ZZ)I", sig := { parameters := [.boolean, .boolean], returnType := some .int }, accessFlags := 9, code := some k9c0 }
/-- java/lang/Boolean -/
def k9 : Class := { plain "java/lang/Boolean" (some 0) with
  accessFlags := 49
  interfaces := #[6, 2, 5]
  cf := some (fileOf pool9 8 #[] #[{ accessFlags := 9, nameIndex := 58, descriptorIndex := 59, attributes := #[] }] 49 2 #[89, 91, 93] #[{ accessFlags := 25, nameIndex := 29, descriptorIndex := 30, attributes := #[] }, { accessFlags := 25, nameIndex := 33, descriptorIndex := 30, attributes := #[] }, { accessFlags := 25, nameIndex := 87, descriptorIndex := 88, attributes := #[] }, { accessFlags := 18, nameIndex := 11, descriptorIndex := 12, attributes := #[] }, { accessFlags := 26, nameIndex := 97, descriptorIndex := 98, attributes := #[] }])
  fields := #[{ name := "TRUE", type := (.object "java/lang/Boolean"), accessFlags := 25, slot := 0, constantValue := 0 }, { name := "FALSE", type := (.object "java/lang/Boolean"), accessFlags := 25, slot := 1, constantValue := 0 }, { name := "TYPE", type := (.object "java/lang/Class"), accessFlags := 25, slot := 2, constantValue := 0 }, { name := "value", type := .boolean, accessFlags := 18, slot := 0, constantValue := 0 }, { name := "serialVersionUID", type := .long, accessFlags := 26, slot := 3, constantValue := 0 }]
  methods := #[k9m0]
  instanceTypes := #[.boolean]
  staticTypes := #[(.object "java/lang/Boolean"), (.object "java/lang/Boolean"), (.object "java/lang/Class"), .long]
  resolved := Array.replicate 152 none
  statics := none }

def pool10 : Array CpInfo := pool [(1, .class_ 2), (0, u "java/lang/Class"), (0, .class_ 4), (0, u "java/lang/Object")] 0

/-- java/lang/Class -/
def k10 : Class := { plain "java/lang/Class" (some 0) with
  accessFlags := 49
  interfaces := #[]
  cf := some (fileOf pool10 1 #[] #[] 49 3 #[] #[])
  fields := #[]
  methods := #[]
  instanceTypes := #[]
  staticTypes := #[]
  resolved := Array.replicate 5 none
  statics := none }

def pool11 : Array CpInfo := pool [(1, u "java/lang/Cloneable"), (0, .class_ 1), (0, u "java/lang/Object"), (0, .class_ 3)] 3

/-- java/lang/Cloneable -/
def k11 : Class := { plain "java/lang/Cloneable" (some 0) with
  accessFlags := 1537
  interfaces := #[]
  cf := some (fileOf pool11 2 #[] #[] 1537 4 #[] #[])
  fields := #[]
  methods := #[]
  instanceTypes := #[]
  staticTypes := #[]
  resolved := Array.replicate 8 none
  statics := none }

/-- the primitive byte -/
def k12 : Class := { plain "byte" none with kind := .primitive 'B', accessFlags := 0x411 }
/-- [B -/
def k13 : Class := { plain "[B" (some 0) with kind := .array 12 .byte, interfaces := #[11, 6], accessFlags := 1041 }

/-- the primitive int -/
def k14 : Class := { plain "int" none with kind := .primitive 'I', accessFlags := 0x411 }
/-- [I -/
def k15 : Class := { plain "[I" (some 0) with kind := .array 14 .int, interfaces := #[11, 6], accessFlags := 1041 }

def heap : Heap := #[{ cls := 4, slots := #[.ref 4, .ref 3], vm := .statics 4 },
  { cls := 8, slots := #[.null, .ref 5, .null, .null, .null, .null, .null, .null, .null, .null, .null, .null, .null, .null, .null], vm := .statics 8 },
  { cls := 10, slots := #[], vm := .mirror 8 },
  { cls := 4, slots := #[.int 0], vm := .none },
  { cls := 4, slots := #[.int 1], vm := .none },
  { cls := 8, slots := #[.null, .int 1, .int 0], vm := .none }]
def classes : Array Class := #[k0, k1, k2, k3, k4, k5, k6, k7, k8, k9, k10, k11, k12, k13, k14, k15]
def interned : List (Array UInt16 × Addr) := []
def slotsUsed : Nat := 22
def theMethod : MethodId := ⟨1, 1⟩
def args0 : Array Value := #[.int 5]
def aboutOver (below : List Frame) : State where
  vm := { classes := classes, interned := interned.toArray }
  heap := heap
  slotsUsed := slotsUsed
  threads := #[{ frames := .invoking theMethod args0 :: below }]
def below0 : List Frame := [.native { method := ⟨0, 0⟩, args := #[] }]
def about1 : State := aboutOver below0
def p0 : Program := .bare "" "" ""
def e0 : Env := launch0.env 0 0 0
theorem w_frames : about1.frames = Frame.invoking theMethod args0 :: below0 := rfl
set_option maxRecDepth 65536 in
theorem w_args : argsFit about1.vm theMethod args0 = true := by decide +kernel
set_option maxRecDepth 65536 in
theorem w_heap : heapFits about1 = true := by decide +kernel
set_option maxRecDepth 65536 in
theorem w_runnable : about1.curStatus? = some .runnable := by decide +kernel
set_option maxRecDepth 65536 in
theorem w_alone : about1.alone = true := by decide +kernel
set_option maxRecDepth 65536 in
theorem w_named : about1.methodNamed? x = some theMethod := by decide +kernel
set_option maxRecDepth 65536 in
theorem w_hears : about1.hears theMethod below0 = true := by decide +kernel
set_option maxRecDepth 65536 in
theorem w_ripe : about1.ripe theMethod args0 below0 = true := by decide +kernel
theorem w_running : about1.status = .running := rfl
set_option maxRecDepth 65536 in
theorem w_room : about1.hasRoom e0.platform room_1 = true :=
  launch0.hasRoom_least _ room_1 (by decide +kernel) (by decide +kernel) (by decide +kernel) (by decide +kernel) (by decide +kernel) (by decide +kernel)
theorem allAtoms_all (ts : List Jvm.Cond) (a : Array Jvm.Value) (st : Jvm.State) : (allAtoms ts).before a st = ts.all (fun c => c.before a st) := by
  induction ts with
  | nil => rfl
  | cons c t ih =>
    show (Jvm.Cond.and c (allAtoms t)).before a st = _
    rw [Jvm.Cond.before_and, ih, List.all_cons]
def words1 : List Jvm.Cond := Jvm.Cond.code x code maxLocals ret :: tables_1
/-- a 'code' word, met by the world's own term for the bytes: nothing is compared byte by byte -/
theorem code_word {y : MethodName} {bytes : ByteArray} {mx : Nat} {rt : Option FieldType} {a : Array Value} {s : State} {m : MethodId} {meth : Method} {c : Code} (h1 : s.methodNamed? y = some m) (h2 : s.vm.method? m = some meth) (h3 : meth.code = some c) (h4 : c.code = bytes)
    (h5 : (c.maxLocals == mx && c.exceptionTable.isEmpty && decide (c.maxStack ≤ mostOperands) && decide (meth.sig.returnType = rt) && !meth.locks && decide (parseMethodDescriptor y.desc = some meth.sig)) = true) : (Jvm.Cond.code y bytes mx rt).before a s = true := by
  simp only [Bool.and_eq_true, beq_iff_eq, Bool.not_eq_true', decide_eq_true_eq] at h5
  obtain ⟨⟨⟨⟨⟨g1, g2⟩, g3⟩, g4⟩, g5⟩, g6⟩ := h5
  simp [Cond.before, Cond.holds, Cond.value, h1, h2, h3, h4, g1, g2, g3, g4, g5, g6]
def isCode : Jvm.Cond → Bool
  | .code _ _ _ _ => true
  | _ => false
theorem all_split {L : List Jvm.Cond} {P : Jvm.Cond → Bool} (h1 : L.all (fun c => isCode c || P c) = true) (h2 : ∀ c ∈ L.filter isCode, P c = true) : L.all P = true := by
  refine List.all_eq_true.mpr fun c hc => ?_
  have h := List.all_eq_true.mp h1 c hc
  rcases Bool.eq_false_or_eq_true (isCode c) with hi | hi
  · exact h2 c (List.mem_filter.mpr ⟨hc, hi⟩)
  · simpa [hi] using h
set_option maxRecDepth 65536 in
theorem w_c0 : (Jvm.Cond.code x code maxLocals ret).before args0 about1 = true := code_word (m := ⟨1, 1⟩) (meth := k1m1) (c := k1c1) (by decide +kernel) rfl rfl rfl (by decide +kernel)
set_option maxRecDepth 65536 in
theorem w_c1 : (Jvm.Cond.code ({ cls := "com/example/formal_model_bench/formalmodelbench/engine/BoolValue", name := "of", desc := "(Z)Lcom/example/formal_model_bench/formalmodelbench/engine/BoolValue;" } : Jvm.MethodName) prog_6_method_2_code (1 : Nat) (Option.some (Jvm.ClassFile.FieldType.object "com/example/formal_model_bench/formalmodelbench/engine/BoolValue"))).before args0 about1 = true := code_word (m := ⟨4, 0⟩) (meth := k4m0) (c := k4c0) (by decide +kernel) rfl rfl rfl (by decide +kernel)
set_option maxRecDepth 65536 in
theorem w_c2 : (Jvm.Cond.code ({ cls := "com/example/formal_model_bench/formalmodelbench/engine/BoolValue", name := "value", desc := "()Z" } : Jvm.MethodName) prog_6_method_3_code (1 : Nat) (Option.some Jvm.ClassFile.FieldType.boolean)).before args0 about1 = true := code_word (m := ⟨4, 1⟩) (meth := k4m1) (c := k4c1) (by decide +kernel) rfl rfl rfl (by decide +kernel)
set_option maxRecDepth 65536 in
theorem w_c3 : (Jvm.Cond.code ({ cls := "com/example/formal_model_bench/formalmodelbench/engine/Value", name := "compareTo", desc := "(Lcom/example/formal_model_bench/formalmodelbench/engine/Value;)I" } : Jvm.MethodName) prog_103_method_4_code (3 : Nat) (Option.some Jvm.ClassFile.FieldType.int)).before args0 about1 = true := code_word (m := ⟨3, 3⟩) (meth := k3m3) (c := k3c3) (by decide +kernel) rfl rfl rfl (by decide +kernel)
set_option maxRecDepth 65536 in
theorem w_c4 : (Jvm.Cond.code ({ cls := "com/example/formal_model_bench/formalmodelbench/engine/BoolValue", name := "kind", desc := "()Lcom/example/formal_model_bench/formalmodelbench/engine/Value$Kind;" } : Jvm.MethodName) prog_6_method_4_code (1 : Nat) (Option.some (Jvm.ClassFile.FieldType.object "com/example/formal_model_bench/formalmodelbench/engine/Value$Kind"))).before args0 about1 = true := code_word (m := ⟨4, 2⟩) (meth := k4m2) (c := k4c2) (by decide +kernel) rfl rfl rfl (by decide +kernel)
set_option maxRecDepth 65536 in
theorem w_c5 : (Jvm.Cond.code ({ cls := "java/lang/Enum", name := "compareTo", desc := "(Ljava/lang/Enum;)I" } : Jvm.MethodName) jdk_37_method_8_code (4 : Nat) (Option.some Jvm.ClassFile.FieldType.int)).before args0 about1 = true := code_word (m := ⟨7, 0⟩) (meth := k7m0) (c := k7c0) (by decide +kernel) rfl rfl rfl (by decide +kernel)
set_option maxRecDepth 65536 in
theorem w_c6 : (Jvm.Cond.code ({ cls := "com/example/formal_model_bench/formalmodelbench/engine/BoolValue", name := "compareSameKind", desc := "(Lcom/example/formal_model_bench/formalmodelbench/engine/Value;)I" } : Jvm.MethodName) prog_6_method_5_code (2 : Nat) (Option.some Jvm.ClassFile.FieldType.int)).before args0 about1 = true := code_word (m := ⟨4, 3⟩) (meth := k4m3) (c := k4c3) (by decide +kernel) rfl rfl rfl (by decide +kernel)
set_option maxRecDepth 65536 in
theorem w_c7 : (Jvm.Cond.code ({ cls := "java/lang/Boolean", name := "compare", desc := "(ZZ)I" } : Jvm.MethodName) jdk_2055_method_14_code (2 : Nat) (Option.some Jvm.ClassFile.FieldType.int)).before args0 about1 = true := code_word (m := ⟨9, 0⟩) (meth := k9m0) (c := k9c0) (by decide +kernel) rfl rfl rfl (by decide +kernel)
def codes1 : List Jvm.Cond := [Jvm.Cond.code x code maxLocals ret, Jvm.Cond.code ({ cls := "com/example/formal_model_bench/formalmodelbench/engine/BoolValue", name := "of", desc := "(Z)Lcom/example/formal_model_bench/formalmodelbench/engine/BoolValue;" } : Jvm.MethodName) prog_6_method_2_code (1 : Nat) (Option.some (Jvm.ClassFile.FieldType.object "com/example/formal_model_bench/formalmodelbench/engine/BoolValue")), Jvm.Cond.code ({ cls := "com/example/formal_model_bench/formalmodelbench/engine/BoolValue", name := "value", desc := "()Z" } : Jvm.MethodName) prog_6_method_3_code (1 : Nat) (Option.some Jvm.ClassFile.FieldType.boolean), Jvm.Cond.code ({ cls := "com/example/formal_model_bench/formalmodelbench/engine/Value", name := "compareTo", desc := "(Lcom/example/formal_model_bench/formalmodelbench/engine/Value;)I" } : Jvm.MethodName) prog_103_method_4_code (3 : Nat) (Option.some Jvm.ClassFile.FieldType.int), Jvm.Cond.code ({ cls := "com/example/formal_model_bench/formalmodelbench/engine/BoolValue", name := "kind", desc := "()Lcom/example/formal_model_bench/formalmodelbench/engine/Value$Kind;" } : Jvm.MethodName) prog_6_method_4_code (1 : Nat) (Option.some (Jvm.ClassFile.FieldType.object "com/example/formal_model_bench/formalmodelbench/engine/Value$Kind")), Jvm.Cond.code ({ cls := "java/lang/Enum", name := "compareTo", desc := "(Ljava/lang/Enum;)I" } : Jvm.MethodName) jdk_37_method_8_code (4 : Nat) (Option.some Jvm.ClassFile.FieldType.int), Jvm.Cond.code ({ cls := "com/example/formal_model_bench/formalmodelbench/engine/BoolValue", name := "compareSameKind", desc := "(Lcom/example/formal_model_bench/formalmodelbench/engine/Value;)I" } : Jvm.MethodName) prog_6_method_5_code (2 : Nat) (Option.some Jvm.ClassFile.FieldType.int), Jvm.Cond.code ({ cls := "java/lang/Boolean", name := "compare", desc := "(ZZ)I" } : Jvm.MethodName) jdk_2055_method_14_code (2 : Nat) (Option.some Jvm.ClassFile.FieldType.int)]
set_option maxRecDepth 65536 in
theorem codes_eq : words1.filter isCode = codes1 := rfl
theorem w_codes : ∀ c ∈ words1.filter isCode, c.before args0 about1 = true := by
  rw [codes_eq]
  intro c hc
  simp only [codes1, List.mem_cons, List.not_mem_nil, or_false] at hc
  rcases hc with rfl | rfl | rfl | rfl | rfl | rfl | rfl | rfl
  · exact w_c0
  · exact w_c1
  · exact w_c2
  · exact w_c3
  · exact w_c4
  · exact w_c5
  · exact w_c6
  · exact w_c7
set_option maxRecDepth 65536 in
theorem w_t1 : (words1.take 24).all (fun c => isCode c || c.before args0 about1) = true := by decide +kernel
set_option maxRecDepth 65536 in
theorem w_t2 : ((words1.drop 24).take 24).all (fun c => isCode c || c.before args0 about1) = true := by decide +kernel
set_option maxRecDepth 65536 in
theorem w_t3 : ((words1.drop 24).drop 24).all (fun c => isCode c || c.before args0 about1) = true := by decide +kernel
theorem w_tables : (allAtoms (Jvm.Cond.code x code maxLocals ret :: tables_1)).before args0 about1 = true := by
  rw [allAtoms_all]
  show words1.all (fun c => c.before args0 about1) = true
  refine all_split ?_ w_codes
  rw [← List.take_append_drop 24 words1, List.all_append, w_t1, ← List.take_append_drop 24 (words1.drop 24), List.all_append, w_t2, w_t3]
  rfl
set_option maxRecDepth 65536 in
theorem w_case : (Jvm.Cond.and given_1 narrow_1).before args0 about1 = true := by decide +kernel
theorem w_applies : (headSpec (Jvm.Cond.code x code maxLocals ret :: tables_1) room_1).applies x e0.platform about1 = true :=
  (Spec.applies_iff w_frames).mpr ⟨w_running, w_runnable, w_alone, w_named, w_hears, w_ripe, w_room, w_tables⟩
theorem atStart : AtStart classFile x code maxLocals ret World_1 tables_1 room_1 Calls_1 rest_1 Pre_1 launch0 p0 e0 about1 theMethod args0 below0 :=
  ⟨lists_1, trivial, launch0.admits_env _ _ _, launch0.least_env, fairChoices_fair.cas, fairChoices_fair.clock, w_frames, w_args, w_heap, w_applies, ⟨⟨8, k8, 2, by decide +kernel, rfl, rfl, _, rfl, rfl⟩, trivial⟩, trivial, w_case⟩
end start1
theorem witness_1 : WitnessClaimed_1 := ⟨start1.p0, start1.e0, start1.about1, start1.theMethod, start1.args0, start1.below0, start1.atStart⟩
end Jvm.Pilot.@@N@@
