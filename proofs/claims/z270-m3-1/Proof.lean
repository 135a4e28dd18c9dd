import JvmDerived
import JvmDerived.Pilot.@@N@@Statement
import JvmDerived.Pilot.@@N@@Code
set_option linter.unusedVariables false
set_option linter.unusedSimpArgs false
namespace Jvm.Pilot.@@N@@
open Jvm Jvm.ClassFile Sem Op Lib Jvm.Free Jvm.Stand Jvm.LawKit Jvm.RoadKit Jvm.Free.Fl Bundle Jvm.Pilot.@@N@@.Jvm.D
theorem d_jdk_30_method_1_code_0 : decode jdk_30_method_1_code 0 = .ok (.aload_n 0, 1) := by decide +kernel
theorem d_jdk_30_method_1_code_1 : decode jdk_30_method_1_code 1 = .ok (.invokespecial 1, 3) := by decide +kernel
theorem d_jdk_30_method_1_code_4 : decode jdk_30_method_1_code 4 = .ok (.return_, 1) := by decide +kernel
theorem pn_java_lang_Record : plainName "java/lang/Record" = true := by first | (simp [plainName, overriddenIn]; done) | decide +kernel
theorem ef_rec (m : MethodId) (x0 : Addr) : entryFrame m #[(.ref x0)] 1 = mkF m 0 #[.val (.ref x0)] [] := by first | (simp [entryFrame, mkF, argsToLocals, Value.category]; done) | rfl
def Q_rec (Z : State) (a1 : Addr) (h0 : Heap) (n0 : Nat) (v : Option Value) (h : Heap) (L : List Loc) : Prop := v = none ∧ Fr n0 L ∧ h = h0
set_option maxRecDepth 65536 in
set_option maxHeartbeats 40000000 in
theorem rm_rec (l : Launch) (Z : State) (a0 : Array Value) (hw : ∀ d ∈ tables_1, d.before a0 Z = true) (ws : List Jvm.Cond) (a1 : Addr) (h0 : Heap) (n0 : Nat) (Z0 : n0 ≤ h0.size)  :
    MetFree l (⟨"java/lang/Record", "<init>", "()V"⟩ : MethodName) (head1 (Jvm.Cond.code (⟨"java/lang/Record", "<init>", "()V"⟩ : MethodName) jdk_30_method_1_code 1 none :: ws) ({ frames := 1, cells := 0, slots := 0, locals := 12 } : Room)) (fun a U => a = #[(.ref a1)] ∧ Z.Warmed39 U.vm ∧ U.heap = h0) (fun _ _ _ _ _ => True) (fun _ U o U' => ∃ v L, o = .returned v ∧ Q_rec Z a1 h0 n0 v U'.heap L ∧ FrameEnd U o U' L ({ frames := 1, cells := 0, slots := 0, locals := 12 } : Room).cells ({ frames := 1, cells := 0, slots := 0, locals := 12 } : Room).slots) := by
  refine MetFree.of_bodySF (plainFor_of_name pn_java_lang_Record) hisR ?_
  intro p e s m args below meth c s₁ Bd hml0 hP hK
  obtain ⟨rfl, hZ, hh⟩ := hP
  have hx := Bd.exec
  have hby := Bd.bytes
  have hml : c.maxLocals = 1 := hml0
  have hown : s.vm.findClass "java/lang/Record" = some m.cls := findClass_of_methodNamed Bd.named
  have hnm := (name_of_methodNamed Bd.named Bd.method).1
  have X0 : Stand p l e ({ frames := 1, cells := 0, slots := 0, locals := 12 } : Room) s m #[(.ref a1)] below meth c s₁ [] 0 0 := Stand.of_body Bd
  have e0 : s₁.heap = h0 := by rw [← hh, Bd.state]; rfl
  have N0 := Fr.nil n0
  have P0 : Keep h0 h0 [] := Keep.refl _ _
  have pre0 : ∀ t, Steps p.tables e below (s₁.setTop (mkF m 0 #[.val (.ref a1)] [])) t → Steps p.tables e below (s₁.setTop (entryFrame m #[(.ref a1)] 1)) t := fun t k => castTop (ef_rec m a1) k
  obtain ⟨T1, X1, e1, st1⟩ := initO X0 hx hZ hown (hw _ (List.mem_of_getElem? (i := 13) rfl)) (hw _ (List.mem_of_getElem? (i := 14) rfl)) (hw _ (List.mem_of_getElem? (i := 15) rfl)) e0 (g := (mkF m 1 #[.val (.ref a1)] [(.ref a1)])) rfl (by rw [hml]; rfl) rfl (hb hby d_jdk_30_method_1_code_1) (by decide) (W := 0) (by show 2 * 0 + _ ≤ _; exact Nat.le_of_eq rfl) (by decide)
  obtain ⟨fs, hr, hrun, hended, hW, hsame⟩ := X1.leave (v := none) (fun _ => rfl)
  refine ⟨_, _, pre0 _ ?_, hrun, hended, _, _, rfl, ?_, ⟨_, rfl⟩, hW, hsame.mono (by decide) (by decide)⟩
  · show Steps p.tables e below (s₁.setTop (mkF m 0 #[.val (.ref a1)] [])) _
    refine XS.aloadN X0.here hx rfl (hb hby d_jdk_30_method_1_code_0) rfl rfl ?_
    show Steps p.tables e below (s₁.setTop (mkF m 1 #[.val (.ref a1)] [(.ref a1)])) _
    refine st1 _ ?_
    show Steps p.tables e below (T1.setTop (mkF m 4 #[.val (.ref a1)] [])) _
    exact X1.returnOut hx Bd.returns (hb hby d_jdk_30_method_1_code_4) hr
  · show Q_rec Z a1 h0 n0 _ T1.heap _
    rw [e1]
    exact ⟨rfl, N0, rfl⟩
theorem d_prog_116_method_2_code_0 : decode prog_116_method_2_code 0 = .ok (.iload_n 0, 1) := by decide +kernel
theorem d_prog_116_method_2_code_1 : decode prog_116_method_2_code 1 = .ok (.ifCond .ge 17, 3) := by decide +kernel
theorem d_prog_116_method_2_code_18 : decode prog_116_method_2_code 18 = .ok (.iload_n 0, 1) := by decide +kernel
theorem d_prog_116_method_2_code_19 : decode prog_116_method_2_code 19 = .ok (.ireturn, 1) := by decide +kernel
theorem pn_com_example_sievegrad_sievegrad_core_ResidualClipping : plainName "com/example/sievegrad/sievegrad/core/ResidualClipping" = true := by first | (simp [plainName, overriddenIn]; done) | decide +kernel
theorem ef_rqe (m : MethodId) (x0 : Int32) : entryFrame m #[(.int x0)] 1 = mkF m 0 #[.val (.int x0)] [] := by first | (simp [entryFrame, mkF, argsToLocals, Value.category]; done) | rfl
def Q_rqe (Z : State) (k1 : Int32) (h0 : Heap) (n0 : Nat) (v : Option Value) (h : Heap) (L : List Loc) : Prop := v = some (.int k1) ∧ Fr n0 L ∧ h = h0
set_option maxRecDepth 65536 in
set_option maxHeartbeats 40000000 in
theorem rm_rqe (l : Launch) (Z : State) (a0 : Array Value) (hw : ∀ d ∈ tables_1, d.before a0 Z = true) (ws : List Jvm.Cond) (k1 : Int32) (h0 : Heap) (n0 : Nat) (Z0 : n0 ≤ h0.size) (hk : ¬ (k1 < (0 : Int32))) :
    MetFree l (⟨"com/example/sievegrad/sievegrad/core/ResidualClipping", "requireEvery", "(I)I"⟩ : MethodName) (head1 (Jvm.Cond.code (⟨"com/example/sievegrad/sievegrad/core/ResidualClipping", "requireEvery", "(I)I"⟩ : MethodName) prog_116_method_2_code 1 (some .int) :: ws) ({ frames := 0, cells := 0, slots := 0, locals := 0 } : Room)) (fun a U => a = #[(.int k1)] ∧ Z.Warmed39 U.vm ∧ U.heap = h0) (fun _ _ _ _ _ => True) (fun _ U o U' => ∃ v L, o = .returned v ∧ Q_rqe Z k1 h0 n0 v U'.heap L ∧ FrameEnd U o U' L ({ frames := 0, cells := 0, slots := 0, locals := 0 } : Room).cells ({ frames := 0, cells := 0, slots := 0, locals := 0 } : Room).slots) := by
  refine MetFree.of_bodySF (plainFor_of_name pn_com_example_sievegrad_sievegrad_core_ResidualClipping) hisR ?_
  intro p e s m args below meth c s₁ Bd hml0 hP hK
  obtain ⟨rfl, hZ, hh⟩ := hP
  have hx := Bd.exec
  have hby := Bd.bytes
  have hml : c.maxLocals = 1 := hml0
  have hown : s.vm.findClass "com/example/sievegrad/sievegrad/core/ResidualClipping" = some m.cls := findClass_of_methodNamed Bd.named
  have hnm := (name_of_methodNamed Bd.named Bd.method).1
  have X0 : Stand p l e ({ frames := 0, cells := 0, slots := 0, locals := 0 } : Room) s m #[(.int k1)] below meth c s₁ [] 0 0 := Stand.of_body Bd
  have e0 : s₁.heap = h0 := by rw [← hh, Bd.state]; rfl
  have N0 := Fr.nil n0
  have P0 : Keep h0 h0 [] := Keep.refl _ _
  have pre0 : ∀ t, Steps p.tables e below (s₁.setTop (mkF m 0 #[.val (.int k1)] [])) t → Steps p.tables e below (s₁.setTop (entryFrame m #[(.int k1)] 1)) t := fun t k => castTop (ef_rqe m k1) k
  obtain ⟨fs, hr, hrun, hended, hW, hsame⟩ := X0.leave (v := some (.int k1)) (fun h => by rw [Bd.returns] at h; cases h)
  refine ⟨_, _, pre0 _ ?_, hrun, hended, _, _, rfl, ?_, ⟨_, rfl⟩, hW, hsame.mono (by decide) (by decide)⟩
  · show Steps p.tables e below (s₁.setTop (mkF m 0 #[.val (.int k1)] [])) _
    refine XS.iloadN X0.here hx rfl (hb hby d_prog_116_method_2_code_0) rfl ?_
    show Steps p.tables e below (s₁.setTop (mkF m 1 #[.val (.int k1)] [(.int k1)])) _
    refine XS.ifYes X0.here hx rfl (pc0 := 1) (pc' := 18) rfl (hb hby d_prog_116_method_2_code_1) rfl ((if0 _ _).trans (flt (hk : ¬ (k1 < (0 : Int32)))).2.1) (by decide) (by decide) ?_
    show Steps p.tables e below (s₁.setTop (mkF m 18 #[.val (.int k1)] [])) _
    refine XS.iloadN X0.here hx rfl (hb hby d_prog_116_method_2_code_18) rfl ?_
    show Steps p.tables e below (s₁.setTop (mkF m 19 #[.val (.int k1)] [(.int k1)])) _
    exact retOut X0 hx (t := .int) (i := .ireturn) Bd.returns rfl (Or.inl ⟨rfl, Or.inl rfl, _, rfl⟩) (hb hby d_prog_116_method_2_code_19) hr
  · show Q_rqe Z k1 h0 n0 _ s₁.heap _
    rw [e0]
    exact ⟨rfl, N0, rfl⟩
theorem own_inf {f : UInt32} (h : Fin32 f) : ¬ ((0 : Int32) < cmpValue (FP.fcmp (f &&& 0x7fffffff) (2139095039 : UInt32)) .l) := by
  have q := (le_maxF_iff h.noNaN).mpr h
  rw [show (2139095039 : UInt32) = maxF from rfl]
  generalize FP.fcmp (f &&& 0x7fffffff) maxF = r at *
  rcases r with _ | (_ | _ | _)
  · simp [relLe] at q
  · decide
  · decide
  · simp [relLe] at q
theorem d_jdk_118_method_7_code_0 : decode jdk_118_method_7_code 0 = .ok (.fload_n 0, 1) := by decide +kernel
theorem d_jdk_118_method_7_code_1 : decode jdk_118_method_7_code 1 = .ok (.invokestatic 11, 3) := by decide +kernel
theorem pd_28F29F : parseMethodDescriptor "(F)F" = some ⟨[.float], some .float⟩ := by decide +kernel
theorem d_jdk_118_method_7_code_4 : decode jdk_118_method_7_code 4 = .ok (.ldc 49, 2) := by decide +kernel
theorem d_jdk_118_method_7_code_6 : decode jdk_118_method_7_code 6 = .ok (.fcmp .l, 1) := by decide +kernel
theorem d_jdk_118_method_7_code_7 : decode jdk_118_method_7_code 7 = .ok (.ifCond .le 7, 3) := by decide +kernel
theorem d_jdk_118_method_7_code_14 : decode jdk_118_method_7_code 14 = .ok (.iconst 0, 1) := by decide +kernel
theorem d_jdk_118_method_7_code_15 : decode jdk_118_method_7_code 15 = .ok (.ireturn, 1) := by decide +kernel
theorem ef_inf (m : MethodId) (x0 : UInt32) : entryFrame m #[(.float x0)] 1 = mkF m 0 #[.val (.float x0)] [] := by first | (simp [entryFrame, mkF, argsToLocals, Value.category]; done) | rfl
def Q_inf (Z : State) (f1 : UInt32) (h0 : Heap) (n0 : Nat) (v : Option Value) (h : Heap) (L : List Loc) : Prop := v = some (.int (0 : Int32)) ∧ Fr n0 L ∧ h = h0
set_option maxRecDepth 65536 in
set_option maxHeartbeats 40000000 in
theorem rm_inf (l : Launch) (Z : State) (a0 : Array Value) (hw : ∀ d ∈ tables_1, d.before a0 Z = true) (ws : List Jvm.Cond) (f1 : UInt32) (h0 : Heap) (n0 : Nat) (Z0 : n0 ≤ h0.size) (hf : Fin32 f1) :
    MetFree l (⟨"java/lang/Float", "isInfinite", "(F)Z"⟩ : MethodName) (head1 (Jvm.Cond.code (⟨"java/lang/Float", "isInfinite", "(F)Z"⟩ : MethodName) jdk_118_method_7_code 1 (some .boolean) :: ws) ({ frames := 1, cells := 0, slots := 0, locals := 12 } : Room)) (fun a U => a = #[(.float f1)] ∧ Z.Warmed39 U.vm ∧ U.heap = h0) (fun _ _ _ _ _ => True) (fun _ U o U' => ∃ v L, o = .returned v ∧ Q_inf Z f1 h0 n0 v U'.heap L ∧ FrameEnd U o U' L ({ frames := 1, cells := 0, slots := 0, locals := 12 } : Room).cells ({ frames := 1, cells := 0, slots := 0, locals := 12 } : Room).slots) := by
  refine MetFree.of_bodySF (by decide +kernel) hisR ?_
  intro p e s m args below meth c s₁ Bd hml0 hP hK
  obtain ⟨rfl, hZ, hh⟩ := hP
  have hx := Bd.exec
  have hby := Bd.bytes
  have hml : c.maxLocals = 1 := hml0
  have hown : s.vm.findClass "java/lang/Float" = some m.cls := findClass_of_methodNamed Bd.named
  have hnm := (name_of_methodNamed Bd.named Bd.method).1
  have X0 : Stand p l e ({ frames := 1, cells := 0, slots := 0, locals := 12 } : Room) s m #[(.float f1)] below meth c s₁ [] 0 0 := Stand.of_body Bd
  have e0 : s₁.heap = h0 := by rw [← hh, Bd.state]; rfl
  have N0 := Fr.nil n0
  have P0 : Keep h0 h0 [] := Keep.refl _ _
  have pre0 : ∀ t, Steps p.tables e below (s₁.setTop (mkF m 0 #[.val (.float f1)] [])) t → Steps p.tables e below (s₁.setTop (entryFrame m #[(.float f1)] 1)) t := fun t k => castTop (ef_inf m f1) k
  obtain ⟨T1, X1, e1, st1⟩ := natS X0 hx hZ (a0 := a0) hown (hw _ (List.mem_of_getElem? (i := 26) rfl)) (hw _ (List.mem_of_getElem? (i := 27) rfl)) (hw _ (List.mem_of_getElem? (i := 28) rfl)) (hw _ (List.mem_of_getElem? (i := 29) rfl)) (by decide) e0 (W := 0) (F := fun a' => a' = #[.float f1] ∧ NoNaN32 f1) (val := (.float (f1 &&& 0x7fffffff))) (fun hcw => Abs.pays f1 hcw (by decide) (by decide)) (g := (mkF m 1 #[.val (.float f1)] [(.float f1)])) rfl (by rw [hml]; rfl) (argsL := [(.float f1)]) (rest := []) (lenOf pd_28F29F rfl) rfl (by show 2 * 0 + _ ≤ _; exact Nat.le_of_eq rfl) (hb hby d_jdk_118_method_7_code_1) (by decide) (by decide) ⟨rfl, hf.noNaN⟩ rfl
  obtain ⟨fs, hr, hrun, hended, hW, hsame⟩ := X1.leave (v := some (.int (0 : Int32))) (fun h => by rw [Bd.returns] at h; cases h)
  refine ⟨_, _, pre0 _ ?_, hrun, hended, _, _, rfl, ?_, ⟨_, rfl⟩, hW, hsame.mono (by decide) (by decide)⟩
  · show Steps p.tables e below (s₁.setTop (mkF m 0 #[.val (.float f1)] [])) _
    refine XS.floadN X0.here hx rfl (hb hby d_jdk_118_method_7_code_0) rfl ?_
    show Steps p.tables e below (s₁.setTop (mkF m 1 #[.val (.float f1)] [(.float f1)])) _
    refine st1 _ ?_
    show Steps p.tables e below (T1.setTop (mkF m 4 #[.val (.float f1)] [(.float (f1 &&& 0x7fffffff))])) _
    refine X1.ldcFloatC hx hown (mvT hZ (hw _ (List.mem_of_getElem? (i := 30) rfl))) (g := (mkF m 4 #[.val (.float f1)] [(.float (f1 &&& 0x7fffffff))])) rfl (hb hby d_jdk_118_method_7_code_4) _ ?_
    show Steps p.tables e below (T1.setTop (mkF m 6 #[.val (.float f1)] [(.float (2139095039 : UInt32)), (.float (f1 &&& 0x7fffffff))])) _
    refine XS.fcmpS X1.here hx rfl (hb hby d_jdk_118_method_7_code_6) rfl rfl ?_
    show Steps p.tables e below (T1.setTop (mkF m 7 #[.val (.float f1)] [(.int (cmpValue (FP.fcmp (f1 &&& 0x7fffffff) (2139095039 : UInt32)) .l))])) _
    refine XS.ifYes X1.here hx rfl (pc0 := 7) (pc' := 14) rfl (hb hby d_jdk_118_method_7_code_7) rfl ((if0 _ _).trans (flt (own_inf hf : ¬ ((0 : Int32) < (cmpValue (FP.fcmp (f1 &&& 0x7fffffff) (2139095039 : UInt32)) .l)))).2.2.2) (by decide) (by decide) ?_
    show Steps p.tables e below (T1.setTop (mkF m 14 #[.val (.float f1)] [])) _
    refine XS.iconst X1.here hx rfl (hb hby d_jdk_118_method_7_code_14) ?_
    show Steps p.tables e below (T1.setTop (mkF m 15 #[.val (.float f1)] [(.int (0 : Int32))])) _
    exact retOut X1 hx (t := .boolean) (i := .ireturn) Bd.returns rfl (Or.inl ⟨rfl, Or.inr (Or.inl rfl), _, rfl⟩) (hb hby d_jdk_118_method_7_code_15) hr
  · show Q_inf Z f1 h0 n0 _ T1.heap _
    rw [e1]
    exact ⟨rfl, N0, rfl⟩
theorem d_prog_116_method_3_code_0 : decode prog_116_method_3_code 0 = .ok (.fload_n 0, 1) := by decide +kernel
theorem d_prog_116_method_3_code_1 : decode prog_116_method_3_code 1 = .ok (.fconst 0, 1) := by decide +kernel
theorem d_prog_116_method_3_code_2 : decode prog_116_method_3_code 2 = .ok (.fcmp .l, 1) := by decide +kernel
theorem d_prog_116_method_3_code_3 : decode prog_116_method_3_code 3 = .ok (.ifCond .le 10, 3) := by decide +kernel
theorem d_prog_116_method_3_code_6 : decode prog_116_method_3_code 6 = .ok (.fload_n 0, 1) := by decide +kernel
theorem d_prog_116_method_3_code_7 : decode prog_116_method_3_code 7 = .ok (.invokestatic 34, 3) := by decide +kernel
theorem pd_28F29Z : parseMethodDescriptor "(F)Z" = some ⟨[.float], some .boolean⟩ := by decide +kernel
theorem d_prog_116_method_3_code_10 : decode prog_116_method_3_code 10 = .ok (.ifCond .eq 17, 3) := by decide +kernel
theorem d_prog_116_method_3_code_27 : decode prog_116_method_3_code 27 = .ok (.fload_n 0, 1) := by decide +kernel
theorem d_prog_116_method_3_code_28 : decode prog_116_method_3_code 28 = .ok (.freturn, 1) := by decide +kernel
theorem ef_rqm (m : MethodId) (x0 : UInt32) : entryFrame m #[(.float x0)] 1 = mkF m 0 #[.val (.float x0)] [] := by first | (simp [entryFrame, mkF, argsToLocals, Value.category]; done) | rfl
def Q_rqm (Z : State) (f1 : UInt32) (h0 : Heap) (n0 : Nat) (v : Option Value) (h : Heap) (L : List Loc) : Prop := v = some (.float f1) ∧ Fr n0 L ∧ h = h0
set_option maxRecDepth 65536 in
set_option maxHeartbeats 40000000 in
theorem rm_rqm (l : Launch) (Z : State) (a0 : Array Value) (hw : ∀ d ∈ tables_1, d.before a0 Z = true) (ws : List Jvm.Cond) (f1 : UInt32) (h0 : Heap) (n0 : Nat) (Z0 : n0 ≤ h0.size) (hf : Fin32 f1) (hp : cmpValue (FP.fcmp f1 FP.fconst0) .l = 1) :
    MetFree l (⟨"com/example/sievegrad/sievegrad/core/ResidualClipping", "requireMultiple", "(F)F"⟩ : MethodName) (head1 (Jvm.Cond.code (⟨"com/example/sievegrad/sievegrad/core/ResidualClipping", "requireMultiple", "(F)F"⟩ : MethodName) prog_116_method_3_code 1 (some .float) :: ws) ({ frames := 2, cells := 0, slots := 0, locals := 24 } : Room)) (fun a U => a = #[(.float f1)] ∧ Z.Warmed39 U.vm ∧ U.heap = h0) (fun _ _ _ _ _ => True) (fun _ U o U' => ∃ v L, o = .returned v ∧ Q_rqm Z f1 h0 n0 v U'.heap L ∧ FrameEnd U o U' L ({ frames := 2, cells := 0, slots := 0, locals := 24 } : Room).cells ({ frames := 2, cells := 0, slots := 0, locals := 24 } : Room).slots) := by
  refine MetFree.of_bodySF (plainFor_of_name pn_com_example_sievegrad_sievegrad_core_ResidualClipping) hisR ?_
  intro p e s m args below meth c s₁ Bd hml0 hP hK
  obtain ⟨rfl, hZ, hh⟩ := hP
  have hx := Bd.exec
  have hby := Bd.bytes
  have hml : c.maxLocals = 1 := hml0
  have hown : s.vm.findClass "com/example/sievegrad/sievegrad/core/ResidualClipping" = some m.cls := findClass_of_methodNamed Bd.named
  have hnm := (name_of_methodNamed Bd.named Bd.method).1
  have X0 : Stand p l e ({ frames := 2, cells := 0, slots := 0, locals := 24 } : Room) s m #[(.float f1)] below meth c s₁ [] 0 0 := Stand.of_body Bd
  have e0 : s₁.heap = h0 := by rw [← hh, Bd.state]; rfl
  have N0 := Fr.nil n0
  have P0 : Keep h0 h0 [] := Keep.refl _ _
  have pre0 : ∀ t, Steps p.tables e below (s₁.setTop (mkF m 0 #[.val (.float f1)] [])) t → Steps p.tables e below (s₁.setTop (entryFrame m #[(.float f1)] 1)) t := fun t k => castTop (ef_rqm m f1) k
  obtain ⟨_, _, ⟨T1, L1, k1, n1⟩, -, X1, ⟨Lc1, hQ1, l1, y1, z1⟩, st1⟩ := Jvm.LawKit.callS X0 hx (y := (⟨"java/lang/Float", "isInfinite", "(F)Z"⟩ : MethodName)) hown (mvT hZ (hw _ (List.mem_of_getElem? (i := 22) rfl))) (mvT hZ (hw _ (List.mem_of_getElem? (i := 23) rfl))) (mvT hZ (hw _ (List.mem_of_getElem? (i := 24) rfl))) (mvT hZ (hw _ (List.mem_of_getElem? (i := 25) rfl))) (by decide) (backOf (W := 0) (rm_inf l Z a0 hw [] f1 h0 n0 (Nat.le_trans Z0 P0.1) hf) hZ (hw _ (List.mem_of_getElem? (i := 25) rfl)) (hw _ (List.mem_of_getElem? (i := 24) rfl)) (by decide) (by decide)) (g := (mkF m 7 #[.val (.float f1)] [(.float f1)])) rfl (by rw [hml]; rfl) (argsL := [(.float f1)]) (rest := []) (lenOf pd_28F29Z rfl) rfl (by show 2 * 0 + _ ≤ _; exact Nat.le_of_eq rfl) (hb hby d_prog_116_method_3_code_7) (fun _ _ => ⟨rfl, e0, (by decide : 0 + 0 ≤ _), (by decide : 0 + 0 ≤ _)⟩)
  dsimp only [Pt.U, Pt.locs, Pt.cells, Pt.slots] at X1 l1 y1 z1 st1 hQ1
  subst l1 y1 z1
  obtain ⟨rfl, N1q, e1⟩ := hQ1
  have N1 := Fr.app N0 N1q
  obtain ⟨fs, hr, hrun, hended, hW, hsame⟩ := X1.leave (v := some (.float f1)) (fun h => by rw [Bd.returns] at h; cases h)
  refine ⟨_, _, pre0 _ ?_, hrun, hended, _, _, rfl, ?_, ⟨_, rfl⟩, hW, hsame.mono (by decide) (by decide)⟩
  · show Steps p.tables e below (s₁.setTop (mkF m 0 #[.val (.float f1)] [])) _
    refine XS.floadN X0.here hx rfl (hb hby d_prog_116_method_3_code_0) rfl ?_
    show Steps p.tables e below (s₁.setTop (mkF m 1 #[.val (.float f1)] [(.float f1)])) _
    refine XS.fconst0 X0.here hx rfl (hb hby d_prog_116_method_3_code_1) rfl ?_
    show Steps p.tables e below (s₁.setTop (mkF m 2 #[.val (.float f1)] [(.float FP.fconst0), (.float f1)])) _
    refine XS.fcmpS X0.here hx rfl (hb hby d_prog_116_method_3_code_2) rfl hp ?_
    show Steps p.tables e below (s₁.setTop (mkF m 3 #[.val (.float f1)] [(.int (1 : Int32))])) _
    refine XS.ifNo X0.here hx rfl (hb hby d_prog_116_method_3_code_3) rfl ((if0 _ _).trans (tlt (by decide : (0 : Int32) < (1 : Int32))).2.2.2) ?_
    show Steps p.tables e below (s₁.setTop (mkF m 6 #[.val (.float f1)] [])) _
    refine XS.floadN X0.here hx rfl (hb hby d_prog_116_method_3_code_6) rfl ?_
    show Steps p.tables e below (s₁.setTop (mkF m 7 #[.val (.float f1)] [(.float f1)])) _
    refine st1 _ ?_
    show Steps p.tables e below (T1.setTop (mkF m 10 #[.val (.float f1)] [(.int (0 : Int32))])) _
    refine XS.ifYes X1.here hx rfl (pc0 := 10) (pc' := 27) rfl (hb hby d_prog_116_method_3_code_10) rfl ((if0 _ _).trans (teq (by decide : (0 : Int32) = (0 : Int32))).1) (by decide) (by decide) ?_
    show Steps p.tables e below (T1.setTop (mkF m 27 #[.val (.float f1)] [])) _
    refine XS.floadN X1.here hx rfl (hb hby d_prog_116_method_3_code_27) rfl ?_
    show Steps p.tables e below (T1.setTop (mkF m 28 #[.val (.float f1)] [(.float f1)])) _
    exact retOut X1 hx (t := .float) (i := .freturn) Bd.returns rfl (Or.inr (Or.inr (Or.inr (Or.inl ⟨rfl, rfl, _, rfl⟩)))) (hb hby d_prog_116_method_3_code_28) hr
  · show Q_rqm Z f1 h0 n0 _ T1.heap _
    rw [e1]
    exact ⟨rfl, N1, rfl⟩
theorem d_prog_116_method_1_code_0 : decode prog_116_method_1_code 0 = .ok (.aload_n 0, 1) := by decide +kernel
theorem d_prog_116_method_1_code_1 : decode prog_116_method_1_code 1 = .ok (.invokespecial 1, 3) := by decide +kernel
theorem pd_2829V : parseMethodDescriptor "()V" = some ⟨[], none⟩ := by decide +kernel
theorem d_prog_116_method_1_code_4 : decode prog_116_method_1_code 4 = .ok (.iload_n 1, 1) := by decide +kernel
theorem d_prog_116_method_1_code_5 : decode prog_116_method_1_code 5 = .ok (.invokestatic 7, 3) := by decide +kernel
theorem pd_28I29I : parseMethodDescriptor "(I)I" = some ⟨[.int], some .int⟩ := by decide +kernel
theorem d_prog_116_method_1_code_8 : decode prog_116_method_1_code 8 = .ok (.pop, 1) := by decide +kernel
theorem d_prog_116_method_1_code_9 : decode prog_116_method_1_code 9 = .ok (.fload_n 2, 1) := by decide +kernel
theorem d_prog_116_method_1_code_10 : decode prog_116_method_1_code 10 = .ok (.invokestatic 13, 3) := by decide +kernel
theorem d_prog_116_method_1_code_13 : decode prog_116_method_1_code 13 = .ok (.pop, 1) := by decide +kernel
theorem d_prog_116_method_1_code_14 : decode prog_116_method_1_code 14 = .ok (.aload_n 0, 1) := by decide +kernel
theorem d_prog_116_method_1_code_15 : decode prog_116_method_1_code 15 = .ok (.iload_n 1, 1) := by decide +kernel
theorem d_prog_116_method_1_code_16 : decode prog_116_method_1_code 16 = .ok (.putfield 17, 3) := by decide +kernel
theorem d_prog_116_method_1_code_19 : decode prog_116_method_1_code 19 = .ok (.aload_n 0, 1) := by decide +kernel
theorem d_prog_116_method_1_code_20 : decode prog_116_method_1_code 20 = .ok (.fload_n 2, 1) := by decide +kernel
theorem d_prog_116_method_1_code_21 : decode prog_116_method_1_code 21 = .ok (.putfield 21, 3) := by decide +kernel
theorem d_prog_116_method_1_code_24 : decode prog_116_method_1_code 24 = .ok (.return_, 1) := by decide +kernel
theorem ef_ini (m : MethodId) (x0 : Addr) (x1 : Int32) (x2 : UInt32) : entryFrame m #[(.ref x0), (.int x1), (.float x2)] 3 = mkF m 0 #[.val (.ref x0), .val (.int x1), .val (.float x2)] [] := by first | (simp [entryFrame, mkF, argsToLocals, Value.category]; done) | rfl
def Q_ini (Z : State) (a1 : Addr) (k1 : Int32) (f1 : UInt32) (u1 : Value) (u2 : Value) (h0 : Heap) (n0 : Nat) (v : Option Value) (h : Heap) (L : List Loc) : Prop := v = none ∧ Fr n0 L ∧ Keep h0 h [a1] ∧ (Exa Z h a1 "com/example/sievegrad/sievegrad/core/ResidualClipping") ∧ (Fld Z h a1 "com/example/sievegrad/sievegrad/core/ResidualClipping" "every" "I" (.int k1))
set_option maxRecDepth 65536 in
set_option maxHeartbeats 40000000 in
theorem rm_ini (l : Launch) (Z : State) (a0 : Array Value) (hw : ∀ d ∈ tables_1, d.before a0 Z = true) (ws : List Jvm.Cond) (a1 : Addr) (k1 : Int32) (f1 : UInt32) (u1 : Value) (u2 : Value) (h0 : Heap) (n0 : Nat) (Z0 : n0 ≤ h0.size) (pE0 : Exa Z h0 a1 "com/example/sievegrad/sievegrad/core/ResidualClipping") (pF1 : Fld Z h0 a1 "com/example/sievegrad/sievegrad/core/ResidualClipping" "every" "I" u1) (pF2 : Fld Z h0 a1 "com/example/sievegrad/sievegrad/core/ResidualClipping" "multiple" "F" u2) (pg3 : n0 ≤ a1) (hk : ¬ (k1 < (0 : Int32))) (hf : Fin32 f1) (hp : cmpValue (FP.fcmp f1 FP.fconst0) .l = 1) :
    MetFree l (⟨"com/example/sievegrad/sievegrad/core/ResidualClipping", "<init>", "(IF)V"⟩ : MethodName) (head1 (Jvm.Cond.code (⟨"com/example/sievegrad/sievegrad/core/ResidualClipping", "<init>", "(IF)V"⟩ : MethodName) prog_116_method_1_code 3 none :: ws) ({ frames := 3, cells := 0, slots := 0, locals := 36 } : Room)) (fun a U => a = #[(.ref a1), (.int k1), (.float f1)] ∧ Z.Warmed39 U.vm ∧ U.heap = h0) (fun _ _ _ _ _ => True) (fun _ U o U' => ∃ v L, o = .returned v ∧ Q_ini Z a1 k1 f1 u1 u2 h0 n0 v U'.heap L ∧ FrameEnd U o U' L ({ frames := 3, cells := 0, slots := 0, locals := 36 } : Room).cells ({ frames := 3, cells := 0, slots := 0, locals := 36 } : Room).slots) := by
  refine MetFree.of_bodySF (plainFor_of_name pn_com_example_sievegrad_sievegrad_core_ResidualClipping) hisR ?_
  intro p e s m args below meth c s₁ Bd hml0 hP hK
  obtain ⟨rfl, hZ, hh⟩ := hP
  have hx := Bd.exec
  have hby := Bd.bytes
  have hml : c.maxLocals = 3 := hml0
  have hown : s.vm.findClass "com/example/sievegrad/sievegrad/core/ResidualClipping" = some m.cls := findClass_of_methodNamed Bd.named
  have hnm := (name_of_methodNamed Bd.named Bd.method).1
  have X0 : Stand p l e ({ frames := 3, cells := 0, slots := 0, locals := 36 } : Room) s m #[(.ref a1), (.int k1), (.float f1)] below meth c s₁ [] 0 0 := Stand.of_body Bd
  have e0 : s₁.heap = h0 := by rw [← hh, Bd.state]; rfl
  have N0 := Fr.nil n0
  have P0 : Keep h0 h0 [a1] := Keep.refl _ _
  have pre0 : ∀ t, Steps p.tables e below (s₁.setTop (mkF m 0 #[.val (.ref a1), .val (.int k1), .val (.float f1)] [])) t → Steps p.tables e below (s₁.setTop (entryFrame m #[(.ref a1), (.int k1), (.float f1)] 3)) t := fun t k => castTop (ef_ini m a1 k1 f1) k
  obtain ⟨_, _, ⟨T1, L1, k1, n1⟩, -, X1, ⟨Lc1, hQ1, l1, y1, z1⟩, st1⟩ := X0.specialBack hx (y := (⟨"java/lang/Record", "<init>", "()V"⟩ : MethodName)) rfl hown (mvT hZ (hw _ (List.mem_of_getElem? (i := 8) rfl))) (mvT hZ (hw _ (List.mem_of_getElem? (i := 9) rfl))) (mvT hZ (hw _ (List.mem_of_getElem? (i := 12) rfl))) (by decide) (backOf (W := 0) (rm_rec l Z a0 hw [] a1 h0 n0 (Nat.le_trans Z0 P0.1) ) hZ (hw _ (List.mem_of_getElem? (i := 12) rfl)) (hw _ (List.mem_of_getElem? (i := 11) rfl)) (by decide) (by decide)) (g := (mkF m 1 #[.val (.ref a1), .val (.int k1), .val (.float f1)] [(.ref a1)])) rfl (by rw [hml]; rfl) (Steps.refl _) (a := a1) (argsL := []) (rest := []) (lenOf pd_2829V rfl) rfl (by show 2 * 0 + _ ≤ _; exact Nat.le_of_eq rfl) (hb hby d_prog_116_method_1_code_1) (fun _ _ => ⟨rfl, e0, (by decide : 0 + 0 ≤ _), (by decide : 0 + 0 ≤ _)⟩)
  dsimp only [Pt.U, Pt.locs, Pt.cells, Pt.slots] at X1 l1 y1 z1 st1 hQ1
  subst l1 y1 z1
  obtain ⟨rfl, N1q, e1⟩ := hQ1
  have N1 := Fr.app N0 N1q
  obtain ⟨_, _, ⟨T2, L2, k2, n2⟩, -, X2, ⟨Lc2, hQ2, l2, y2, z2⟩, st2⟩ := Jvm.LawKit.callS X1 hx (y := (⟨"com/example/sievegrad/sievegrad/core/ResidualClipping", "requireEvery", "(I)I"⟩ : MethodName)) hown (mvT hZ (hw _ (List.mem_of_getElem? (i := 16) rfl))) (mvT hZ (hw _ (List.mem_of_getElem? (i := 17) rfl))) (mvT hZ (hw _ (List.mem_of_getElem? (i := 4) rfl))) (mvT hZ (hw _ (List.mem_of_getElem? (i := 18) rfl))) (by decide) (backOf (W := 0) (rm_rqe l Z a0 hw [] k1 h0 n0 (Nat.le_trans Z0 P0.1) hk) hZ (hw _ (List.mem_of_getElem? (i := 18) rfl)) (hw _ (List.mem_of_getElem? (i := 4) rfl)) (by decide) (by decide)) (g := (mkF m 5 #[.val (.ref a1), .val (.int k1), .val (.float f1)] [(.int k1)])) rfl (by rw [hml]; rfl) (argsL := [(.int k1)]) (rest := []) (lenOf pd_28I29I rfl) rfl (by show 2 * 0 + _ ≤ _; exact Nat.le_of_eq rfl) (hb hby d_prog_116_method_1_code_5) (fun _ _ => ⟨rfl, e1, (by decide : 0 + 0 ≤ _), (by decide : 0 + 0 ≤ _)⟩)
  dsimp only [Pt.U, Pt.locs, Pt.cells, Pt.slots] at X2 l2 y2 z2 st2 hQ2
  subst l2 y2 z2
  obtain ⟨rfl, N2q, e2⟩ := hQ2
  have N2 := Fr.app N1 N2q
  obtain ⟨_, _, ⟨T3, L3, k3, n3⟩, -, X3, ⟨Lc3, hQ3, l3, y3, z3⟩, st3⟩ := Jvm.LawKit.callS X2 hx (y := (⟨"com/example/sievegrad/sievegrad/core/ResidualClipping", "requireMultiple", "(F)F"⟩ : MethodName)) hown (mvT hZ (hw _ (List.mem_of_getElem? (i := 19) rfl))) (mvT hZ (hw _ (List.mem_of_getElem? (i := 20) rfl))) (mvT hZ (hw _ (List.mem_of_getElem? (i := 4) rfl))) (mvT hZ (hw _ (List.mem_of_getElem? (i := 21) rfl))) (by decide) (backOf (W := 0) (rm_rqm l Z a0 hw [] f1 h0 n0 (Nat.le_trans Z0 P0.1) hf hp) hZ (hw _ (List.mem_of_getElem? (i := 21) rfl)) (hw _ (List.mem_of_getElem? (i := 4) rfl)) (by decide) (by decide)) (g := (mkF m 10 #[.val (.ref a1), .val (.int k1), .val (.float f1)] [(.float f1)])) rfl (by rw [hml]; rfl) (argsL := [(.float f1)]) (rest := []) (lenOf pd_28F29F rfl) rfl (by show 2 * 0 + _ ≤ _; exact Nat.le_of_eq rfl) (hb hby d_prog_116_method_1_code_10) (fun _ _ => ⟨rfl, e2, (by decide : 0 + 0 ≤ _), (by decide : 0 + 0 ≤ _)⟩)
  dsimp only [Pt.U, Pt.locs, Pt.cells, Pt.slots] at X3 l3 y3 z3 st3 hQ3
  subst l3 y3 z3
  obtain ⟨rfl, N3q, e3⟩ := hQ3
  have N3 := Fr.app N2 N3q
  obtain ⟨T4, h4, X4, e4, W4, st4⟩ := putF X3 hx hZ hown (host := "") (Or.inl (hw _ (List.mem_of_getElem? (i := 31) rfl))) Via.refl e3 pF1 pE0 (Or.inr ⟨(hw _ (List.mem_of_getElem? (i := 32) rfl)), rfl, hnm⟩) (hw _ (List.mem_of_getElem? (i := 3) rfl)) (ty := .int) (by decide) rfl rfl (g := (mkF m 16 #[.val (.ref a1), .val (.int k1), .val (.float f1)] [(.int k1), (.ref a1)])) rfl rfl (hb hby d_prog_116_method_1_code_16)
  have P5 : Keep h0 h4 [a1] := P0.wr W4 (Or.inl (List.mem_of_getElem? (i := 0) rfl))
  have F6 : Fld Z h4 a1 "com/example/sievegrad/sievegrad/core/ResidualClipping" "every" "I" (.int k1) := Fld.same W4 pF1
  have N4 := Fr.snoc X4 N3 pg3
  have F7 : Fld Z h4 a1 "com/example/sievegrad/sievegrad/core/ResidualClipping" "multiple" "F" u2 := (Fld.other W4 pF2 (Or.inr (slot_ne (t := .float) (t' := .int) (C := "com/example/sievegrad/sievegrad/core/ResidualClipping") (a0 := a0) (Or.inr (hw _ (List.mem_of_getElem? (i := 34) rfl))) (Or.inr (hw _ (List.mem_of_getElem? (i := 32) rfl))) (by decide) (by decide) (by decide))))
  have E8 : Exa Z h4 a1 "com/example/sievegrad/sievegrad/core/ResidualClipping" := (Exa.wr W4 pE0)
  obtain ⟨T9, h9, X9, e9, W9, st9⟩ := putF X4 hx hZ hown (host := "") (Or.inl (hw _ (List.mem_of_getElem? (i := 33) rfl))) Via.refl e4 F7 E8 (Or.inr ⟨(hw _ (List.mem_of_getElem? (i := 34) rfl)), rfl, hnm⟩) (hw _ (List.mem_of_getElem? (i := 3) rfl)) (ty := .float) (by decide) rfl rfl (g := (mkF m 21 #[.val (.ref a1), .val (.int k1), .val (.float f1)] [(.float f1), (.ref a1)])) rfl rfl (hb hby d_prog_116_method_1_code_21)
  have P10 : Keep h0 h9 [a1] := P5.wr W9 (Or.inl (List.mem_of_getElem? (i := 0) rfl))
  have F11 : Fld Z h9 a1 "com/example/sievegrad/sievegrad/core/ResidualClipping" "multiple" "F" (.float f1) := Fld.same W9 F7
  have N9 := Fr.snoc X9 N4 pg3
  have E12 : Exa Z h9 a1 "com/example/sievegrad/sievegrad/core/ResidualClipping" := (Exa.wr W9 E8)
  have F13 : Fld Z h9 a1 "com/example/sievegrad/sievegrad/core/ResidualClipping" "every" "I" (.int k1) := (Fld.other W9 F6 (Or.inr (slot_ne (t := .int) (t' := .float) (C := "com/example/sievegrad/sievegrad/core/ResidualClipping") (a0 := a0) (Or.inr (hw _ (List.mem_of_getElem? (i := 32) rfl))) (Or.inr (hw _ (List.mem_of_getElem? (i := 34) rfl))) (by decide) (by decide) (by decide))))
  obtain ⟨fs, hr, hrun, hended, hW, hsame⟩ := X9.leave (v := none) (fun _ => rfl)
  refine ⟨_, _, pre0 _ ?_, hrun, hended, _, _, rfl, ?_, ⟨_, rfl⟩, hW, hsame.mono (by decide) (by decide)⟩
  · show Steps p.tables e below (s₁.setTop (mkF m 0 #[.val (.ref a1), .val (.int k1), .val (.float f1)] [])) _
    refine XS.aloadN X0.here hx rfl (hb hby d_prog_116_method_1_code_0) rfl rfl ?_
    show Steps p.tables e below (s₁.setTop (mkF m 1 #[.val (.ref a1), .val (.int k1), .val (.float f1)] [(.ref a1)])) _
    refine st1.trans ?_
    show Steps p.tables e below (T1.setTop (mkF m 4 #[.val (.ref a1), .val (.int k1), .val (.float f1)] [])) _
    refine XS.iloadN X1.here hx rfl (hb hby d_prog_116_method_1_code_4) rfl ?_
    show Steps p.tables e below (T1.setTop (mkF m 5 #[.val (.ref a1), .val (.int k1), .val (.float f1)] [(.int k1)])) _
    refine st2 _ ?_
    show Steps p.tables e below (T2.setTop (mkF m 8 #[.val (.ref a1), .val (.int k1), .val (.float f1)] [(.int k1)])) _
    refine XS.pop X2.here hx rfl (hb hby d_prog_116_method_1_code_8) rfl rfl ?_
    show Steps p.tables e below (T2.setTop (mkF m 9 #[.val (.ref a1), .val (.int k1), .val (.float f1)] [])) _
    refine XS.floadN X2.here hx rfl (hb hby d_prog_116_method_1_code_9) rfl ?_
    show Steps p.tables e below (T2.setTop (mkF m 10 #[.val (.ref a1), .val (.int k1), .val (.float f1)] [(.float f1)])) _
    refine st3 _ ?_
    show Steps p.tables e below (T3.setTop (mkF m 13 #[.val (.ref a1), .val (.int k1), .val (.float f1)] [(.float f1)])) _
    refine XS.pop X3.here hx rfl (hb hby d_prog_116_method_1_code_13) rfl rfl ?_
    show Steps p.tables e below (T3.setTop (mkF m 14 #[.val (.ref a1), .val (.int k1), .val (.float f1)] [])) _
    refine XS.aloadN X3.here hx rfl (hb hby d_prog_116_method_1_code_14) rfl rfl ?_
    show Steps p.tables e below (T3.setTop (mkF m 15 #[.val (.ref a1), .val (.int k1), .val (.float f1)] [(.ref a1)])) _
    refine XS.iloadN X3.here hx rfl (hb hby d_prog_116_method_1_code_15) rfl ?_
    show Steps p.tables e below (T3.setTop (mkF m 16 #[.val (.ref a1), .val (.int k1), .val (.float f1)] [(.int k1), (.ref a1)])) _
    refine st4 _ ?_
    show Steps p.tables e below (T4.setTop (mkF m 19 #[.val (.ref a1), .val (.int k1), .val (.float f1)] [])) _
    refine XS.aloadN X4.here hx rfl (hb hby d_prog_116_method_1_code_19) rfl rfl ?_
    show Steps p.tables e below (T4.setTop (mkF m 20 #[.val (.ref a1), .val (.int k1), .val (.float f1)] [(.ref a1)])) _
    refine XS.floadN X4.here hx rfl (hb hby d_prog_116_method_1_code_20) rfl ?_
    show Steps p.tables e below (T4.setTop (mkF m 21 #[.val (.ref a1), .val (.int k1), .val (.float f1)] [(.float f1), (.ref a1)])) _
    refine st9 _ ?_
    show Steps p.tables e below (T9.setTop (mkF m 24 #[.val (.ref a1), .val (.int k1), .val (.float f1)] [])) _
    exact X9.returnOut hx Bd.returns (hb hby d_prog_116_method_1_code_24) hr
  · show Q_ini Z a1 k1 f1 u1 u2 h0 n0 _ T9.heap _
    rw [e9]
    exact ⟨rfl, N9, P10, E12, F13⟩
theorem own_nz {k1 : Int32} (h : (0 : Int32) < k1) : (k1).toInt64 ≠ 0 := fun q => by
  have h1 := Int32.lt_iff_toInt_lt.mp h
  have h2 := congrArg Int64.toInt q
  rw [Int32.toInt_toInt64] at h2
  rw [show (0 : Int32).toInt = 0 by decide] at h1
  rw [show (0 : Int64).toInt = 0 by decide] at h2
  omega
theorem d_prog_116_method_4_code_0 : decode prog_116_method_4_code 0 = .ok (.aload_n 0, 1) := by decide +kernel
theorem d_prog_116_method_4_code_1 : decode prog_116_method_4_code 1 = .ok (.getfield 17, 3) := by decide +kernel
theorem d_prog_116_method_4_code_4 : decode prog_116_method_4_code 4 = .ok (.ifCond .le 19, 3) := by decide +kernel
theorem d_prog_116_method_4_code_23 : decode prog_116_method_4_code 23 = .ok (.iconst 0, 1) := by decide +kernel
theorem d_prog_116_method_4_code_24 : decode prog_116_method_4_code 24 = .ok (.ireturn, 1) := by decide +kernel
theorem ef_cl0 (m : MethodId) (x0 : Addr) (x1 : Int64) : entryFrame m #[(.ref x0), (.long x1)] 3 = mkF m 0 #[.val (.ref x0), .val (.long x1), .second] [] := by first | (simp [entryFrame, mkF, argsToLocals, Value.category]; done) | rfl
def Q_cl0 (Z : State) (a1 : Addr) (k1 : Int32) (j1 : Int64) (r : Int32) (h0 : Heap) (n0 : Nat) (v : Option Value) (h : Heap) (L : List Loc) : Prop := v = some (.int r) ∧ Fr n0 L ∧ h = h0
set_option maxRecDepth 65536 in
set_option maxHeartbeats 40000000 in
theorem rm_cl0 (l : Launch) (Z : State) (a0 : Array Value) (hw : ∀ d ∈ tables_1, d.before a0 Z = true) (ws : List Jvm.Cond) (a1 : Addr) (k1 : Int32) (j1 : Int64) (r : Int32) (h0 : Heap) (n0 : Nat) (Z0 : n0 ≤ h0.size) (pF0 : Fld Z h0 a1 "com/example/sievegrad/sievegrad/core/ResidualClipping" "every" "I" (.int k1)) (h1 : ¬ ((0 : Int32) < k1)) (hrr : r = 0) :
    MetFree l (⟨"com/example/sievegrad/sievegrad/core/ResidualClipping", "clipsAfter", "(J)Z"⟩ : MethodName) (head1 (Jvm.Cond.code (⟨"com/example/sievegrad/sievegrad/core/ResidualClipping", "clipsAfter", "(J)Z"⟩ : MethodName) prog_116_method_4_code 3 (some .boolean) :: ws) ({ frames := 0, cells := 0, slots := 0, locals := 0 } : Room)) (fun a U => a = #[(.ref a1), (.long j1)] ∧ Z.Warmed39 U.vm ∧ U.heap = h0) (fun _ _ _ _ _ => True) (fun _ U o U' => ∃ v L, o = .returned v ∧ Q_cl0 Z a1 k1 j1 r h0 n0 v U'.heap L ∧ FrameEnd U o U' L ({ frames := 0, cells := 0, slots := 0, locals := 0 } : Room).cells ({ frames := 0, cells := 0, slots := 0, locals := 0 } : Room).slots) := by
  refine MetFree.of_bodySF (plainFor_of_name pn_com_example_sievegrad_sievegrad_core_ResidualClipping) hisR ?_
  intro p e s m args below meth c s₁ Bd hml0 hP hK
  obtain ⟨rfl, hZ, hh⟩ := hP
  have hx := Bd.exec
  have hby := Bd.bytes
  have hml : c.maxLocals = 3 := hml0
  have hown : s.vm.findClass "com/example/sievegrad/sievegrad/core/ResidualClipping" = some m.cls := findClass_of_methodNamed Bd.named
  have hnm := (name_of_methodNamed Bd.named Bd.method).1
  have X0 : Stand p l e ({ frames := 0, cells := 0, slots := 0, locals := 0 } : Room) s m #[(.ref a1), (.long j1)] below meth c s₁ [] 0 0 := Stand.of_body Bd
  have e0 : s₁.heap = h0 := by rw [← hh, Bd.state]; rfl
  have N0 := Fr.nil n0
  have P0 : Keep h0 h0 [] := Keep.refl _ _
  have pre0 : ∀ t, Steps p.tables e below (s₁.setTop (mkF m 0 #[.val (.ref a1), .val (.long j1), .second] [])) t → Steps p.tables e below (s₁.setTop (entryFrame m #[(.ref a1), (.long j1)] 3)) t := fun t k => castTop (ef_cl0 m a1 j1) k
  obtain ⟨T1, X1, e1, st1⟩ := getF X0 hx hZ hown (host := "") (Or.inl (hw _ (List.mem_of_getElem? (i := 31) rfl))) Via.refl e0 pF0 (g := (mkF m 1 #[.val (.ref a1), .val (.long j1), .second] [(.ref a1)])) rfl rfl (hb hby d_prog_116_method_4_code_1)
  obtain ⟨fs, hr, hrun, hended, hW, hsame⟩ := X1.leave (v := some (.int (0 : Int32))) (fun h => by rw [Bd.returns] at h; cases h)
  refine ⟨_, _, pre0 _ ?_, hrun, hended, _, _, rfl, ?_, ⟨_, rfl⟩, hW, hsame.mono (by decide) (by decide)⟩
  · show Steps p.tables e below (s₁.setTop (mkF m 0 #[.val (.ref a1), .val (.long j1), .second] [])) _
    refine XS.aloadN X0.here hx rfl (hb hby d_prog_116_method_4_code_0) rfl rfl ?_
    show Steps p.tables e below (s₁.setTop (mkF m 1 #[.val (.ref a1), .val (.long j1), .second] [(.ref a1)])) _
    refine st1 _ ?_
    show Steps p.tables e below (T1.setTop (mkF m 4 #[.val (.ref a1), .val (.long j1), .second] [(.int k1)])) _
    refine XS.ifYes X1.here hx rfl (pc0 := 4) (pc' := 23) rfl (hb hby d_prog_116_method_4_code_4) rfl ((if0 _ _).trans (flt (h1 : ¬ ((0 : Int32) < k1))).2.2.2) (by decide) (by decide) ?_
    show Steps p.tables e below (T1.setTop (mkF m 23 #[.val (.ref a1), .val (.long j1), .second] [])) _
    refine XS.iconst X1.here hx rfl (hb hby d_prog_116_method_4_code_23) ?_
    show Steps p.tables e below (T1.setTop (mkF m 24 #[.val (.ref a1), .val (.long j1), .second] [(.int (0 : Int32))])) _
    exact retOut X1 hx (t := .boolean) (i := .ireturn) Bd.returns rfl (Or.inl ⟨rfl, Or.inr (Or.inl rfl), _, rfl⟩) (hb hby d_prog_116_method_4_code_24) hr
  · show Q_cl0 Z a1 k1 j1 r h0 n0 _ T1.heap _
    rw [e1]
    exact ⟨(by rw [hrr]), N0, rfl⟩
theorem d_prog_116_method_4_code_7 : decode prog_116_method_4_code 7 = .ok (.lload_n 1, 1) := by decide +kernel
theorem d_prog_116_method_4_code_8 : decode prog_116_method_4_code 8 = .ok (.aload_n 0, 1) := by decide +kernel
theorem d_prog_116_method_4_code_9 : decode prog_116_method_4_code 9 = .ok (.getfield 17, 3) := by decide +kernel
theorem d_prog_116_method_4_code_12 : decode prog_116_method_4_code 12 = .ok (.i2l, 1) := by decide +kernel
theorem d_prog_116_method_4_code_13 : decode prog_116_method_4_code 13 = .ok (.lrem, 1) := by decide +kernel
theorem d_prog_116_method_4_code_14 : decode prog_116_method_4_code 14 = .ok (.lconst 0, 1) := by decide +kernel
theorem d_prog_116_method_4_code_15 : decode prog_116_method_4_code 15 = .ok (.lcmp, 1) := by decide +kernel
theorem d_prog_116_method_4_code_16 : decode prog_116_method_4_code 16 = .ok (.ifCond .ne 7, 3) := by decide +kernel
theorem d_prog_116_method_4_code_19 : decode prog_116_method_4_code 19 = .ok (.iconst 1, 1) := by decide +kernel
theorem d_prog_116_method_4_code_20 : decode prog_116_method_4_code 20 = .ok (.goto 4, 3) := by decide +kernel
theorem ef_cl1 (m : MethodId) (x0 : Addr) (x1 : Int64) : entryFrame m #[(.ref x0), (.long x1)] 3 = mkF m 0 #[.val (.ref x0), .val (.long x1), .second] [] := by first | (simp [entryFrame, mkF, argsToLocals, Value.category]; done) | rfl
set_option maxRecDepth 65536 in
set_option maxHeartbeats 40000000 in
theorem rm_cl1 (l : Launch) (Z : State) (a0 : Array Value) (hw : ∀ d ∈ tables_1, d.before a0 Z = true) (ws : List Jvm.Cond) (a1 : Addr) (k1 : Int32) (j1 : Int64) (r : Int32) (h0 : Heap) (n0 : Nat) (Z0 : n0 ≤ h0.size) (pF0 : Fld Z h0 a1 "com/example/sievegrad/sievegrad/core/ResidualClipping" "every" "I" (.int k1)) (h1 : (0 : Int32) < k1) (h2 : (lcmpW (j1 - (j1 / (k1).toInt64) * (k1).toInt64) (0 : Int64)) = (0 : Int32)) (hrr : r = 1) :
    MetFree l (⟨"com/example/sievegrad/sievegrad/core/ResidualClipping", "clipsAfter", "(J)Z"⟩ : MethodName) (head1 (Jvm.Cond.code (⟨"com/example/sievegrad/sievegrad/core/ResidualClipping", "clipsAfter", "(J)Z"⟩ : MethodName) prog_116_method_4_code 3 (some .boolean) :: ws) ({ frames := 0, cells := 0, slots := 0, locals := 0 } : Room)) (fun a U => a = #[(.ref a1), (.long j1)] ∧ Z.Warmed39 U.vm ∧ U.heap = h0) (fun _ _ _ _ _ => True) (fun _ U o U' => ∃ v L, o = .returned v ∧ Q_cl0 Z a1 k1 j1 r h0 n0 v U'.heap L ∧ FrameEnd U o U' L ({ frames := 0, cells := 0, slots := 0, locals := 0 } : Room).cells ({ frames := 0, cells := 0, slots := 0, locals := 0 } : Room).slots) := by
  refine MetFree.of_bodySF (plainFor_of_name pn_com_example_sievegrad_sievegrad_core_ResidualClipping) hisR ?_
  intro p e s m args below meth c s₁ Bd hml0 hP hK
  obtain ⟨rfl, hZ, hh⟩ := hP
  have hx := Bd.exec
  have hby := Bd.bytes
  have hml : c.maxLocals = 3 := hml0
  have hown : s.vm.findClass "com/example/sievegrad/sievegrad/core/ResidualClipping" = some m.cls := findClass_of_methodNamed Bd.named
  have hnm := (name_of_methodNamed Bd.named Bd.method).1
  have X0 : Stand p l e ({ frames := 0, cells := 0, slots := 0, locals := 0 } : Room) s m #[(.ref a1), (.long j1)] below meth c s₁ [] 0 0 := Stand.of_body Bd
  have e0 : s₁.heap = h0 := by rw [← hh, Bd.state]; rfl
  have N0 := Fr.nil n0
  have P0 : Keep h0 h0 [] := Keep.refl _ _
  have pre0 : ∀ t, Steps p.tables e below (s₁.setTop (mkF m 0 #[.val (.ref a1), .val (.long j1), .second] [])) t → Steps p.tables e below (s₁.setTop (entryFrame m #[(.ref a1), (.long j1)] 3)) t := fun t k => castTop (ef_cl1 m a1 j1) k
  obtain ⟨T1, X1, e1, st1⟩ := getF X0 hx hZ hown (host := "") (Or.inl (hw _ (List.mem_of_getElem? (i := 31) rfl))) Via.refl e0 pF0 (g := (mkF m 1 #[.val (.ref a1), .val (.long j1), .second] [(.ref a1)])) rfl rfl (hb hby d_prog_116_method_4_code_1)
  obtain ⟨T2, X2, e2, st2⟩ := getF X1 hx hZ hown (host := "") (Or.inl (hw _ (List.mem_of_getElem? (i := 31) rfl))) Via.refl e1 pF0 (g := (mkF m 9 #[.val (.ref a1), .val (.long j1), .second] [(.ref a1), (.long j1)])) rfl rfl (hb hby d_prog_116_method_4_code_9)
  obtain ⟨fs, hr, hrun, hended, hW, hsame⟩ := X2.leave (v := some (.int (1 : Int32))) (fun h => by rw [Bd.returns] at h; cases h)
  refine ⟨_, _, pre0 _ ?_, hrun, hended, _, _, rfl, ?_, ⟨_, rfl⟩, hW, hsame.mono (by decide) (by decide)⟩
  · show Steps p.tables e below (s₁.setTop (mkF m 0 #[.val (.ref a1), .val (.long j1), .second] [])) _
    refine XS.aloadN X0.here hx rfl (hb hby d_prog_116_method_4_code_0) rfl rfl ?_
    show Steps p.tables e below (s₁.setTop (mkF m 1 #[.val (.ref a1), .val (.long j1), .second] [(.ref a1)])) _
    refine st1 _ ?_
    show Steps p.tables e below (T1.setTop (mkF m 4 #[.val (.ref a1), .val (.long j1), .second] [(.int k1)])) _
    refine XS.ifNo X1.here hx rfl (hb hby d_prog_116_method_4_code_4) rfl ((if0 _ _).trans (tlt (h1 : (0 : Int32) < k1)).2.2.2) ?_
    show Steps p.tables e below (T1.setTop (mkF m 7 #[.val (.ref a1), .val (.long j1), .second] [])) _
    refine XS.lloadN X1.here hx rfl (hb hby d_prog_116_method_4_code_7) rfl ?_
    show Steps p.tables e below (T1.setTop (mkF m 8 #[.val (.ref a1), .val (.long j1), .second] [(.long j1)])) _
    refine XS.aloadN X1.here hx rfl (hb hby d_prog_116_method_4_code_8) rfl rfl ?_
    show Steps p.tables e below (T1.setTop (mkF m 9 #[.val (.ref a1), .val (.long j1), .second] [(.ref a1), (.long j1)])) _
    refine st2 _ ?_
    show Steps p.tables e below (T2.setTop (mkF m 12 #[.val (.ref a1), .val (.long j1), .second] [(.int k1), (.long j1)])) _
    refine XS.i2l X2.here hx rfl (hb hby d_prog_116_method_4_code_12) rfl ?_
    show Steps p.tables e below (T2.setTop (mkF m 13 #[.val (.ref a1), .val (.long j1), .second] [(.long (k1).toInt64), (.long j1)])) _
    refine XS.lrem X2.here hx rfl (hb hby d_prog_116_method_4_code_13) rfl (own_nz h1) ?_
    show Steps p.tables e below (T2.setTop (mkF m 14 #[.val (.ref a1), .val (.long j1), .second] [(.long (j1 - (j1 / (k1).toInt64) * (k1).toInt64))])) _
    refine XS.lconst X2.here hx rfl (hb hby d_prog_116_method_4_code_14) ?_
    show Steps p.tables e below (T2.setTop (mkF m 15 #[.val (.ref a1), .val (.long j1), .second] [(.long (0 : Int64)), (.long (j1 - (j1 / (k1).toInt64) * (k1).toInt64))])) _
    refine XS.lcmp X2.here hx rfl (hb hby d_prog_116_method_4_code_15) rfl ?_
    show Steps p.tables e below (T2.setTop (mkF m 16 #[.val (.ref a1), .val (.long j1), .second] [(.int (lcmpW (j1 - (j1 / (k1).toInt64) * (k1).toInt64) (0 : Int64)))])) _
    refine XS.ifNo X2.here hx rfl (hb hby d_prog_116_method_4_code_16) rfl ((if0 _ _).trans (teq (h2 : (lcmpW (j1 - (j1 / (k1).toInt64) * (k1).toInt64) (0 : Int64)) = (0 : Int32))).2) ?_
    show Steps p.tables e below (T2.setTop (mkF m 19 #[.val (.ref a1), .val (.long j1), .second] [])) _
    refine XS.iconst X2.here hx rfl (hb hby d_prog_116_method_4_code_19) ?_
    show Steps p.tables e below (T2.setTop (mkF m 20 #[.val (.ref a1), .val (.long j1), .second] [(.int (1 : Int32))])) _
    refine XS.goto X2.here hx rfl (pc0 := 20) (pc' := 24) rfl (hb hby d_prog_116_method_4_code_20) (by decide) (by decide) ?_
    show Steps p.tables e below (T2.setTop (mkF m 24 #[.val (.ref a1), .val (.long j1), .second] [(.int (1 : Int32))])) _
    exact retOut X2 hx (t := .boolean) (i := .ireturn) Bd.returns rfl (Or.inl ⟨rfl, Or.inr (Or.inl rfl), _, rfl⟩) (hb hby d_prog_116_method_4_code_24) hr
  · show Q_cl0 Z a1 k1 j1 r h0 n0 _ T2.heap _
    rw [e2]
    exact ⟨(by rw [hrr]), N0, rfl⟩
theorem ef_cl2 (m : MethodId) (x0 : Addr) (x1 : Int64) : entryFrame m #[(.ref x0), (.long x1)] 3 = mkF m 0 #[.val (.ref x0), .val (.long x1), .second] [] := by first | (simp [entryFrame, mkF, argsToLocals, Value.category]; done) | rfl
set_option maxRecDepth 65536 in
set_option maxHeartbeats 40000000 in
theorem rm_cl2 (l : Launch) (Z : State) (a0 : Array Value) (hw : ∀ d ∈ tables_1, d.before a0 Z = true) (ws : List Jvm.Cond) (a1 : Addr) (k1 : Int32) (j1 : Int64) (r : Int32) (h0 : Heap) (n0 : Nat) (Z0 : n0 ≤ h0.size) (pF0 : Fld Z h0 a1 "com/example/sievegrad/sievegrad/core/ResidualClipping" "every" "I" (.int k1)) (h1 : (0 : Int32) < k1) (h2 : ¬ ((lcmpW (j1 - (j1 / (k1).toInt64) * (k1).toInt64) (0 : Int64)) = (0 : Int32))) (hrr : r = 0) :
    MetFree l (⟨"com/example/sievegrad/sievegrad/core/ResidualClipping", "clipsAfter", "(J)Z"⟩ : MethodName) (head1 (Jvm.Cond.code (⟨"com/example/sievegrad/sievegrad/core/ResidualClipping", "clipsAfter", "(J)Z"⟩ : MethodName) prog_116_method_4_code 3 (some .boolean) :: ws) ({ frames := 0, cells := 0, slots := 0, locals := 0 } : Room)) (fun a U => a = #[(.ref a1), (.long j1)] ∧ Z.Warmed39 U.vm ∧ U.heap = h0) (fun _ _ _ _ _ => True) (fun _ U o U' => ∃ v L, o = .returned v ∧ Q_cl0 Z a1 k1 j1 r h0 n0 v U'.heap L ∧ FrameEnd U o U' L ({ frames := 0, cells := 0, slots := 0, locals := 0 } : Room).cells ({ frames := 0, cells := 0, slots := 0, locals := 0 } : Room).slots) := by
  refine MetFree.of_bodySF (plainFor_of_name pn_com_example_sievegrad_sievegrad_core_ResidualClipping) hisR ?_
  intro p e s m args below meth c s₁ Bd hml0 hP hK
  obtain ⟨rfl, hZ, hh⟩ := hP
  have hx := Bd.exec
  have hby := Bd.bytes
  have hml : c.maxLocals = 3 := hml0
  have hown : s.vm.findClass "com/example/sievegrad/sievegrad/core/ResidualClipping" = some m.cls := findClass_of_methodNamed Bd.named
  have hnm := (name_of_methodNamed Bd.named Bd.method).1
  have X0 : Stand p l e ({ frames := 0, cells := 0, slots := 0, locals := 0 } : Room) s m #[(.ref a1), (.long j1)] below meth c s₁ [] 0 0 := Stand.of_body Bd
  have e0 : s₁.heap = h0 := by rw [← hh, Bd.state]; rfl
  have N0 := Fr.nil n0
  have P0 : Keep h0 h0 [] := Keep.refl _ _
  have pre0 : ∀ t, Steps p.tables e below (s₁.setTop (mkF m 0 #[.val (.ref a1), .val (.long j1), .second] [])) t → Steps p.tables e below (s₁.setTop (entryFrame m #[(.ref a1), (.long j1)] 3)) t := fun t k => castTop (ef_cl2 m a1 j1) k
  obtain ⟨T1, X1, e1, st1⟩ := getF X0 hx hZ hown (host := "") (Or.inl (hw _ (List.mem_of_getElem? (i := 31) rfl))) Via.refl e0 pF0 (g := (mkF m 1 #[.val (.ref a1), .val (.long j1), .second] [(.ref a1)])) rfl rfl (hb hby d_prog_116_method_4_code_1)
  obtain ⟨T2, X2, e2, st2⟩ := getF X1 hx hZ hown (host := "") (Or.inl (hw _ (List.mem_of_getElem? (i := 31) rfl))) Via.refl e1 pF0 (g := (mkF m 9 #[.val (.ref a1), .val (.long j1), .second] [(.ref a1), (.long j1)])) rfl rfl (hb hby d_prog_116_method_4_code_9)
  obtain ⟨fs, hr, hrun, hended, hW, hsame⟩ := X2.leave (v := some (.int (0 : Int32))) (fun h => by rw [Bd.returns] at h; cases h)
  refine ⟨_, _, pre0 _ ?_, hrun, hended, _, _, rfl, ?_, ⟨_, rfl⟩, hW, hsame.mono (by decide) (by decide)⟩
  · show Steps p.tables e below (s₁.setTop (mkF m 0 #[.val (.ref a1), .val (.long j1), .second] [])) _
    refine XS.aloadN X0.here hx rfl (hb hby d_prog_116_method_4_code_0) rfl rfl ?_
    show Steps p.tables e below (s₁.setTop (mkF m 1 #[.val (.ref a1), .val (.long j1), .second] [(.ref a1)])) _
    refine st1 _ ?_
    show Steps p.tables e below (T1.setTop (mkF m 4 #[.val (.ref a1), .val (.long j1), .second] [(.int k1)])) _
    refine XS.ifNo X1.here hx rfl (hb hby d_prog_116_method_4_code_4) rfl ((if0 _ _).trans (tlt (h1 : (0 : Int32) < k1)).2.2.2) ?_
    show Steps p.tables e below (T1.setTop (mkF m 7 #[.val (.ref a1), .val (.long j1), .second] [])) _
    refine XS.lloadN X1.here hx rfl (hb hby d_prog_116_method_4_code_7) rfl ?_
    show Steps p.tables e below (T1.setTop (mkF m 8 #[.val (.ref a1), .val (.long j1), .second] [(.long j1)])) _
    refine XS.aloadN X1.here hx rfl (hb hby d_prog_116_method_4_code_8) rfl rfl ?_
    show Steps p.tables e below (T1.setTop (mkF m 9 #[.val (.ref a1), .val (.long j1), .second] [(.ref a1), (.long j1)])) _
    refine st2 _ ?_
    show Steps p.tables e below (T2.setTop (mkF m 12 #[.val (.ref a1), .val (.long j1), .second] [(.int k1), (.long j1)])) _
    refine XS.i2l X2.here hx rfl (hb hby d_prog_116_method_4_code_12) rfl ?_
    show Steps p.tables e below (T2.setTop (mkF m 13 #[.val (.ref a1), .val (.long j1), .second] [(.long (k1).toInt64), (.long j1)])) _
    refine XS.lrem X2.here hx rfl (hb hby d_prog_116_method_4_code_13) rfl (own_nz h1) ?_
    show Steps p.tables e below (T2.setTop (mkF m 14 #[.val (.ref a1), .val (.long j1), .second] [(.long (j1 - (j1 / (k1).toInt64) * (k1).toInt64))])) _
    refine XS.lconst X2.here hx rfl (hb hby d_prog_116_method_4_code_14) ?_
    show Steps p.tables e below (T2.setTop (mkF m 15 #[.val (.ref a1), .val (.long j1), .second] [(.long (0 : Int64)), (.long (j1 - (j1 / (k1).toInt64) * (k1).toInt64))])) _
    refine XS.lcmp X2.here hx rfl (hb hby d_prog_116_method_4_code_15) rfl ?_
    show Steps p.tables e below (T2.setTop (mkF m 16 #[.val (.ref a1), .val (.long j1), .second] [(.int (lcmpW (j1 - (j1 / (k1).toInt64) * (k1).toInt64) (0 : Int64)))])) _
    refine XS.ifYes X2.here hx rfl (pc0 := 16) (pc' := 23) rfl (hb hby d_prog_116_method_4_code_16) rfl ((if0 _ _).trans (feq (h2 : ¬ ((lcmpW (j1 - (j1 / (k1).toInt64) * (k1).toInt64) (0 : Int64)) = (0 : Int32)))).2) (by decide) (by decide) ?_
    show Steps p.tables e below (T2.setTop (mkF m 23 #[.val (.ref a1), .val (.long j1), .second] [])) _
    refine XS.iconst X2.here hx rfl (hb hby d_prog_116_method_4_code_23) ?_
    show Steps p.tables e below (T2.setTop (mkF m 24 #[.val (.ref a1), .val (.long j1), .second] [(.int (0 : Int32))])) _
    exact retOut X2 hx (t := .boolean) (i := .ireturn) Bd.returns rfl (Or.inl ⟨rfl, Or.inr (Or.inl rfl), _, rfl⟩) (hb hby d_prog_116_method_4_code_24) hr
  · show Q_cl0 Z a1 k1 j1 r h0 n0 _ T2.heap _
    rw [e2]
    exact ⟨(by rw [hrr]), N0, rfl⟩
set_option maxRecDepth 65536 in
theorem rm_clip (l : Launch) (Z : State) (a0 : Array Value) (hw : ∀ d ∈ tables_1, d.before a0 Z = true) (ws : List Jvm.Cond) (a1 : Addr) (k1 : Int32) (j1 : Int64) (r : Int32) (h0 : Heap) (n0 : Nat) (Z0 : n0 ≤ h0.size) (pF0 : Fld Z h0 a1 "com/example/sievegrad/sievegrad/core/ResidualClipping" "every" "I" (.int k1)) (hj : (¬ ((0 : Int32) < k1) ∧ r = 0) ∨ ((0 : Int32) < k1 ∧ (lcmpW (j1 - (j1 / (k1).toInt64) * (k1).toInt64) (0 : Int64)) = (0 : Int32) ∧ r = 1) ∨ ((0 : Int32) < k1 ∧ ¬ ((lcmpW (j1 - (j1 / (k1).toInt64) * (k1).toInt64) (0 : Int64)) = (0 : Int32)) ∧ r = 0)) :
    MetFree l (⟨"com/example/sievegrad/sievegrad/core/ResidualClipping", "clipsAfter", "(J)Z"⟩ : MethodName) (head1 (Jvm.Cond.code (⟨"com/example/sievegrad/sievegrad/core/ResidualClipping", "clipsAfter", "(J)Z"⟩ : MethodName) prog_116_method_4_code 3 (some .boolean) :: ws) ({ frames := 0, cells := 0, slots := 0, locals := 0 } : Room)) (fun a U => a = #[(.ref a1), (.long j1)] ∧ Z.Warmed39 U.vm ∧ U.heap = h0) (fun _ _ _ _ _ => True) (fun _ U o U' => ∃ v L, o = .returned v ∧ Q_cl0 Z a1 k1 j1 r h0 n0 v U'.heap L ∧ FrameEnd U o U' L ({ frames := 0, cells := 0, slots := 0, locals := 0 } : Room).cells ({ frames := 0, cells := 0, slots := 0, locals := 0 } : Room).slots) := by
  rcases hj with ⟨h1, hrr⟩ | ⟨h1, h2, hrr⟩ | ⟨h1, h2, hrr⟩
  · exact rm_cl0 l Z a0 hw ws a1 k1 j1 r h0 n0 Z0 pF0 h1 hrr
  · exact rm_cl1 l Z a0 hw ws a1 k1 j1 r h0 n0 Z0 pF0 h1 h2 hrr
  · exact rm_cl2 l Z a0 hw ws a1 k1 j1 r h0 n0 Z0 pF0 h1 h2 hrr
def own_k (b r v : Int64) : Int64 := if b < r then 0 else (b - r) / v
theorem own_ev (p : Int32) : ¬ ((p &&& (2147483647 : Int32)) < (0 : Int32)) := fun q => by
  have h := c_and p (2147483647 : Int32) (by decide)
  have h1 := Int32.lt_iff_toInt_lt.mp q
  rw [show (0 : Int32).toInt = 0 by decide] at h1
  omega
theorem own_pos {v : Int32} (h : ¬ (v < (0 : Int32))) (h2 : ¬ (v = (0 : Int32))) : (0 : Int32) < v := by
  rw [Int32.lt_iff_toInt_lt] at h ⊢
  rw [← Int32.toInt_inj] at h2
  rw [show (0 : Int32).toInt = 0 by decide] at h h2 ⊢
  omega
theorem own_rem {v x : Int32} {y : Int64} (hv : (0 : Int32) < v) (hx : ¬ (x < (0 : Int32))) (hy : 0 ≤ y.toInt) :
    (own_k y (x % v).toInt64 v.toInt64 * v.toInt64 + (x % v).toInt64) - ((own_k y (x % v).toInt64 v.toInt64 * v.toInt64 + (x % v).toInt64) / v.toInt64) * v.toInt64 = (x % v).toInt64 := by
  have hv1 := Int32.lt_iff_toInt_lt.mp hv
  have hx1 : ¬ (x.toInt < (0 : Int32).toInt) := fun q => hx (Int32.lt_iff_toInt_lt.mpr q)
  rw [show (0 : Int32).toInt = 0 by decide] at hv1 hx1
  have hr := (c_iremV x v).1 (by omega) hv1
  have hvr := rng32 v
  have e1 : v.toInt64.toInt = v.toInt := Int32.toInt_toInt64 v
  have e2 : (x % v).toInt64.toInt = (x % v).toInt := Int32.toInt_toInt64 _
  generalize (x % v).toInt64 = r at *
  have hk : 0 ≤ (own_k y r v.toInt64).toInt ∧ (own_k y r v.toInt64).toInt * v.toInt ≤ 9223372036854775807 - r.toInt := by
    unfold own_k
    split
    · rw [show (0 : Int64).toInt = 0 by decide]; omega
    · rename_i h
      have h1 : ¬ (y.toInt < r.toInt) := fun q => h (Int64.lt_iff_toInt_lt.mpr q)
      have ry := rng64 y
      have es : (y - r).toInt = y.toInt - r.toInt := by
        have := c_lsub y r; have := rng64 (y - r); omega
      have hd : v.toInt64 ≠ -1 := fun q => by
        have := congrArg Int64.toInt q; rw [e1, show (-1 : Int64).toInt = -1 by decide] at this; omega
      have ed := (c_ldiv (y - r) v.toInt64 v.toInt e1 hd).1 (by omega)
      rw [ed, es]
      have m1 := Int.ediv_mul_le (y.toInt - r.toInt) (show v.toInt ≠ 0 by omega)
      have m2 := Int.ediv_nonneg (show 0 ≤ y.toInt - r.toInt by omega) (show 0 ≤ v.toInt by omega)
      exact ⟨m2, by omega⟩
  generalize own_k y r v.toInt64 = k at *
  have hm0 : 0 ≤ k.toInt * v.toInt := Int.mul_nonneg hk.1 (by omega)
  have em : (k * v.toInt64).toInt = k.toInt * v.toInt := by
    have h1 := c_lmul k v.toInt64; rw [e1] at h1
    have h2 := rng64 (k * v.toInt64)
    generalize k.toInt * v.toInt = M at *
    omega
  have ea : (k * v.toInt64 + r).toInt = k.toInt * v.toInt + r.toInt := by
    have h1 := c_ladd (k * v.toInt64) r; rw [em] at h1
    have h2 := rng64 (k * v.toInt64 + r)
    generalize k.toInt * v.toInt = M at *
    omega
  apply Int64.toInt_inj.mp
  rw [(c_lrem (k * v.toInt64 + r) v.toInt64 v.toInt e1).1 (by rw [ea]; omega), ea, Int.add_comm, Int.add_mul_emod_self_right]
  exact Int.emod_eq_of_lt (by omega) (by omega)
theorem own_y (y : Int64) : 0 ≤ (y &&& (9223372036854775807 : Int64)).toInt := by
  rw [c_maskL y (9223372036854775807 : Int64) 63 (by decide) (by decide)]
  exact Int.emod_nonneg _ (by decide)
theorem own_f (p : Int32) : cmpValue (FP.fcmp (FP.i2f ((p &&& (65535 : Int32)) + (1 : Int32))) FP.fconst0) .l = 1 := by
  have h1 := c_and p (65535 : Int32) (by decide)
  rw [show (65535 : Int32).toInt = 65535 by decide] at h1
  have h2 := c_iadd (p &&& (65535 : Int32)) 1
  have r2 := rng32 ((p &&& (65535 : Int32)) + (1 : Int32))
  rw [show (1 : Int32).toInt = 1 by decide] at h2
  have hb : B24 ((p &&& (65535 : Int32)) + (1 : Int32)).toInt64 := by unfold B24; rw [Int32.toInt_toInt64]; omega
  have hz : B24 (0 : Int64) := by unfold B24; decide
  rw [i2f_w, show FP.fconst0 = FP.l2f 0 from (l2f_zero).symm, fcmpV_w hb hz]
  have hlt : (0 : Int64) < ((p &&& (65535 : Int32)) + (1 : Int32)).toInt64 := by
    rw [Int64.lt_iff_toInt_lt, Int32.toInt_toInt64, show (0 : Int64).toInt = 0 by decide]; omega
  show (if _ > _ then (1 : Int32) else _) = 1
  rw [if_pos hlt]
theorem pd_28IF29V : parseMethodDescriptor "(IF)V" = some ⟨[.int, .float], none⟩ := by decide +kernel
theorem pd_28J29Z : parseMethodDescriptor "(J)Z" = some ⟨[.long], some .boolean⟩ := by decide +kernel
theorem pn_com_example_sievegrad_sievegrad_core_ResidualClippingClipsAfterPinLaw : plainName "com/example/sievegrad/sievegrad/core/ResidualClippingClipsAfterPinLaw" = true := by first | (simp [plainName, overriddenIn]; done) | decide +kernel
theorem ef_lawA (m : MethodId) (x0 : Int32) (x1 : Int32) (x2 : Int64) (x3 : Int32) : entryFrame m #[(.int x0), (.int x1), (.long x2), (.int x3)] maxLocals = mkF m 0 #[.val (.int x0), .val (.int x1), .val (.long x2), .second, .val (.int x3), .unset, .unset, .unset, .unset, .unset, .unset, .unset, .unset, .unset, .unset, .unset] [] := by first | (simp [entryFrame, mkF, argsToLocals, Value.category, maxLocals]; done) | rfl
def Q_lawA (Z : State) (p1 : Int32) (p2 : Int32) (p3 : Int64) (p4 : Int32) (h0 : Heap) (n0 : Nat) (v : Option Value) (h : Heap) (L : List Loc) : Prop := v = some (.int (1 : Int32)) ∧ Fr n0 L
set_option maxRecDepth 65536 in
set_option maxHeartbeats 40000000 in
theorem rm_lawA (l : Launch) (Z : State) (a0 : Array Value) (hw : ∀ d ∈ tables_1, d.before a0 Z = true) (ws : List Jvm.Cond) (p1 : Int32) (p2 : Int32) (p3 : Int64) (p4 : Int32) (h0 : Heap) (n0 : Nat) (Z0 : n0 ≤ h0.size) (hc38 : (p1 &&& (2147483647 : Int32)) = (0 : Int32)) :
    MetFree l x (head1 (Jvm.Cond.code x code maxLocals ret :: ws) room_1) (fun a U => a = #[(.int p1), (.int p2), (.long p3), (.int p4)] ∧ Z.Warmed39 U.vm ∧ U.heap = h0) (fun _ _ _ _ _ => True) (fun _ U o U' => ∃ v L, o = .returned v ∧ Q_lawA Z p1 p2 p3 p4 h0 n0 v U'.heap L ∧ FrameEnd U o U' L room_1.cells room_1.slots) := by
  refine MetFree.of_bodySF (plainFor_of_name pn_com_example_sievegrad_sievegrad_core_ResidualClippingClipsAfterPinLaw) hisR ?_
  intro p e s m args below meth c s₁ Bd hml0 hP hK
  obtain ⟨rfl, hZ, hh⟩ := hP
  have hx := Bd.exec
  have hby := Bd.bytes
  have hml : c.maxLocals = 16 := hml0
  have hown : s.vm.findClass "com/example/sievegrad/sievegrad/core/ResidualClippingClipsAfterPinLaw" = some m.cls := findClass_of_methodNamed Bd.named
  have hnm := (name_of_methodNamed Bd.named Bd.method).1
  have X0 : Stand p l e room_1 s m #[(.int p1), (.int p2), (.long p3), (.int p4)] below meth c s₁ [] 0 0 := Stand.of_body Bd
  have e0 : s₁.heap = h0 := by rw [← hh, Bd.state]; rfl
  have N0 := Fr.nil n0
  have P0 : Keep h0 h0 [] := Keep.refl _ _
  have pre0 : ∀ t, Steps p.tables e below (s₁.setTop (mkF m 0 #[.val (.int p1), .val (.int p2), .val (.long p3), .second, .val (.int p4), .unset, .unset, .unset, .unset, .unset, .unset, .unset, .unset, .unset, .unset, .unset] [])) t → Steps p.tables e below (s₁.setTop (entryFrame m #[(.int p1), (.int p2), (.long p3), (.int p4)] maxLocals)) t := fun t k => castTop (ef_lawA m p1 p2 p3 p4) k
  obtain ⟨T1, h1, X1, e1, E1, A1, D1, -, st1⟩ := newO X0 hx hZ hown (hw _ (List.mem_of_getElem? (i := 2) rfl)) (hw _ (List.mem_of_getElem? (i := 3) rfl)) (hw _ (List.mem_of_getElem? (i := 4) rfl)) e0 (g := (mkF m 16 #[.val (.int p1), .val (.int p2), .val (.long p3), .second, .val (.int p4), .val (.int (p1 &&& (2147483647 : Int32))), .val (.float (FP.i2f ((p4 &&& (65535 : Int32)) + (1 : Int32)))), .unset, .unset, .unset, .unset, .unset, .unset, .unset, .unset, .unset] [])) rfl (hb hby at_16) (by decide) (by decide)
  obtain ⟨bc, g1⟩ : ∃ z, z = h0.size := ⟨_, rfl⟩
  rw [← g1] at A1 D1 st1
  have ge_bc : n0 ≤ bc := Nat.le_trans (Nat.le_trans Z0 P0.1) (Nat.le_of_eq g1.symm)
  have sz_bc : h0.size ≤ bc := Nat.le_trans P0.1 (Nat.le_of_eq g1.symm)
  have P2 : Keep h0 h1 [] := P0.ext E1
  have F3 : Fld Z h1 bc "com/example/sievegrad/sievegrad/core/ResidualClipping" "every" "I" (.int (0 : Int32)) := D1 (Or.inr (hw _ (List.mem_of_getElem? (i := 32) rfl))) (ty := .int) (by decide)
  have F4 : Fld Z h1 bc "com/example/sievegrad/sievegrad/core/ResidualClipping" "multiple" "F" (.float (0 : UInt32)) := D1 (Or.inr (hw _ (List.mem_of_getElem? (i := 34) rfl))) (ty := .float) (by decide)
  obtain ⟨_, _, ⟨T5, L5, k5, n5⟩, -, X5, ⟨Lc5, hQ5, l5, y5, z5⟩, st5⟩ := X1.specialBack hx (y := (⟨"com/example/sievegrad/sievegrad/core/ResidualClipping", "<init>", "(IF)V"⟩ : MethodName)) rfl hown (mvT hZ (hw _ (List.mem_of_getElem? (i := 5) rfl))) (mvT hZ (hw _ (List.mem_of_getElem? (i := 6) rfl))) (mvT hZ (hw _ (List.mem_of_getElem? (i := 7) rfl))) (by decide) (backOf (W := 1) (rm_ini l Z a0 hw [] bc (p1 &&& (2147483647 : Int32)) (FP.i2f ((p4 &&& (65535 : Int32)) + (1 : Int32))) (.int (0 : Int32)) (.float (0 : UInt32)) h1 n0 (Nat.le_trans Z0 P2.1) A1 F3 F4 ge_bc (own_ev p1) (i2f_fin _) (own_f p4)) hZ (hw _ (List.mem_of_getElem? (i := 7) rfl)) (hw _ (List.mem_of_getElem? (i := 4) rfl)) (by decide) (by decide)) (g := (mkF m 24 #[.val (.int p1), .val (.int p2), .val (.long p3), .second, .val (.int p4), .val (.int (p1 &&& (2147483647 : Int32))), .val (.float (FP.i2f ((p4 &&& (65535 : Int32)) + (1 : Int32)))), .unset, .unset, .unset, .unset, .unset, .unset, .unset, .unset, .unset] [(.float (FP.i2f ((p4 &&& (65535 : Int32)) + (1 : Int32)))), (.int (p1 &&& (2147483647 : Int32))), (.ref bc), (.ref bc)])) rfl (by rw [hml]; rfl) (Steps.refl _) (a := bc) (argsL := [(.int (p1 &&& (2147483647 : Int32))), (.float (FP.i2f ((p4 &&& (65535 : Int32)) + (1 : Int32))))]) (rest := [(.ref bc)]) (lenOf pd_28IF29V rfl) rfl (by show 2 * 0 + _ ≤ _; exact Nat.le_of_eq rfl) (hb hby at_24) (fun _ _ => ⟨rfl, e1, (by decide : 1 + 0 ≤ _), (by decide : 2 + 0 ≤ _)⟩)
  dsimp only [Pt.U, Pt.locs, Pt.cells, Pt.slots] at X5 l5 y5 z5 st5 hQ5
  subst l5 y5 z5
  obtain ⟨rfl, N5q, K5, r5_0, r5_1⟩ := hQ5
  have N5 := Fr.app N0 N5q
  have P6 : Keep h0 T5.heap [] := P2.trans K5 (allS (Or.inr sz_bc) all0)
  obtain ⟨cq7, kq7, q7a, q7b, q7c⟩ := isOf hZ rfl r5_0
  obtain ⟨_, _, ⟨T7, L7, k7, n7⟩, -, X7, ⟨Lc7, hQ7, l7, y7, z7⟩, st7⟩ := X5.virtualBack hx (y := (⟨"com/example/sievegrad/sievegrad/core/ResidualClipping", "clipsAfter", "(J)Z"⟩ : MethodName)) (z := (⟨"com/example/sievegrad/sievegrad/core/ResidualClipping", "clipsAfter", "(J)Z"⟩ : MethodName)) hown (mvT hZ (hw _ (List.mem_of_getElem? (i := 36) rfl))) (mvT hZ (hw _ (List.mem_of_getElem? (i := 37) rfl))) (notFace_of_selects (args := #[]) (mvT hZ (hw _ (List.mem_of_getElem? (i := 39) rfl)))) (mvT hZ (hw _ (List.mem_of_getElem? (i := 39) rfl))) (mvT hZ (hw _ (List.mem_of_getElem? (i := 38) rfl))) (by decide) (backOf (W := 0) (rm_clip l Z a0 hw [] bc (p1 &&& (2147483647 : Int32)) (p3 &&& (9223372036854775807 : Int64)) (0 : Int32) T5.heap n0 (Nat.le_trans Z0 P6.1) r5_1 (Or.inl ⟨(by rw [hc38]; decide), rfl⟩)) hZ (hw _ (List.mem_of_getElem? (i := 40) rfl)) (hw _ (List.mem_of_getElem? (i := 4) rfl)) (by decide) (by decide)) q7a q7c (g := (mkF m 45 #[.val (.int p1), .val (.int p2), .val (.long p3), .second, .val (.int p4), .val (.int (p1 &&& (2147483647 : Int32))), .val (.float (FP.i2f ((p4 &&& (65535 : Int32)) + (1 : Int32)))), .val (.ref bc), .val (.long (p3 &&& (9223372036854775807 : Int64))), .second, .unset, .unset, .unset, .unset, .unset, .unset] [(.long (p3 &&& (9223372036854775807 : Int64))), (.ref bc)])) rfl (by rw [hml]; rfl) (Steps.refl _) (argsL := [(.long (p3 &&& (9223372036854775807 : Int64)))]) (rest := []) (lenOf pd_28J29Z rfl) rfl (by show 2 * 0 + _ ≤ _; exact Nat.le_of_eq rfl) (hb hby at_45) (fun _ _ => ⟨rfl, rfl, (by decide : 1 + 0 ≤ _), (by decide : 2 + 0 ≤ _)⟩)
  dsimp only [Pt.U, Pt.locs, Pt.cells, Pt.slots] at X7 l7 y7 z7 st7 hQ7
  subst l7 y7 z7
  obtain ⟨rfl, N7q, e7⟩ := hQ7
  have N7 := Fr.app N5 N7q
  obtain ⟨fs, hr, hrun, hended, hW, hsame⟩ := X7.leave (v := some (.int (1 : Int32))) (fun h => by rw [Bd.returns] at h; cases h)
  refine ⟨_, _, pre0 _ ?_, hrun, hended, _, _, rfl, ?_, ⟨_, rfl⟩, hW, hsame.mono (by decide) (by decide)⟩
  · show Steps p.tables e below (s₁.setTop (mkF m 0 #[.val (.int p1), .val (.int p2), .val (.long p3), .second, .val (.int p4), .unset, .unset, .unset, .unset, .unset, .unset, .unset, .unset, .unset, .unset, .unset] [])) _
    refine XS.iloadN X0.here hx rfl (hb hby at_0) rfl ?_
    show Steps p.tables e below (s₁.setTop (mkF m 1 #[.val (.int p1), .val (.int p2), .val (.long p3), .second, .val (.int p4), .unset, .unset, .unset, .unset, .unset, .unset, .unset, .unset, .unset, .unset, .unset] [(.int p1)])) _
    refine X0.ldcInt hx hown (mvT hZ (hw _ (List.mem_of_getElem? (i := 0) rfl))) (g := (mkF m 1 #[.val (.int p1), .val (.int p2), .val (.long p3), .second, .val (.int p4), .unset, .unset, .unset, .unset, .unset, .unset, .unset, .unset, .unset, .unset, .unset] [(.int p1)])) rfl (hb hby at_1) _ ?_
    show Steps p.tables e below (s₁.setTop (mkF m 3 #[.val (.int p1), .val (.int p2), .val (.long p3), .second, .val (.int p4), .unset, .unset, .unset, .unset, .unset, .unset, .unset, .unset, .unset, .unset, .unset] [(.int (2147483647 : Int32)), (.int p1)])) _
    refine XS.iand X0.here hx rfl (hb hby at_3) rfl ?_
    show Steps p.tables e below (s₁.setTop (mkF m 4 #[.val (.int p1), .val (.int p2), .val (.long p3), .second, .val (.int p4), .unset, .unset, .unset, .unset, .unset, .unset, .unset, .unset, .unset, .unset, .unset] [(.int (p1 &&& (2147483647 : Int32)))])) _
    refine XS.istore X0.here hx rfl (hb hby at_4) rfl (l' := #[.val (.int p1), .val (.int p2), .val (.long p3), .second, .val (.int p4), .val (.int (p1 &&& (2147483647 : Int32))), .unset, .unset, .unset, .unset, .unset, .unset, .unset, .unset, .unset, .unset]) rfl ?_
    show Steps p.tables e below (s₁.setTop (mkF m 6 #[.val (.int p1), .val (.int p2), .val (.long p3), .second, .val (.int p4), .val (.int (p1 &&& (2147483647 : Int32))), .unset, .unset, .unset, .unset, .unset, .unset, .unset, .unset, .unset, .unset] [])) _
    refine XS.iload X0.here hx rfl (hb hby at_6) rfl ?_
    show Steps p.tables e below (s₁.setTop (mkF m 8 #[.val (.int p1), .val (.int p2), .val (.long p3), .second, .val (.int p4), .val (.int (p1 &&& (2147483647 : Int32))), .unset, .unset, .unset, .unset, .unset, .unset, .unset, .unset, .unset, .unset] [(.int p4)])) _
    refine X0.ldcInt hx hown (mvT hZ (hw _ (List.mem_of_getElem? (i := 1) rfl))) (g := (mkF m 8 #[.val (.int p1), .val (.int p2), .val (.long p3), .second, .val (.int p4), .val (.int (p1 &&& (2147483647 : Int32))), .unset, .unset, .unset, .unset, .unset, .unset, .unset, .unset, .unset, .unset] [(.int p4)])) rfl (hb hby at_8) _ ?_
    show Steps p.tables e below (s₁.setTop (mkF m 10 #[.val (.int p1), .val (.int p2), .val (.long p3), .second, .val (.int p4), .val (.int (p1 &&& (2147483647 : Int32))), .unset, .unset, .unset, .unset, .unset, .unset, .unset, .unset, .unset, .unset] [(.int (65535 : Int32)), (.int p4)])) _
    refine XS.iand X0.here hx rfl (hb hby at_10) rfl ?_
    show Steps p.tables e below (s₁.setTop (mkF m 11 #[.val (.int p1), .val (.int p2), .val (.long p3), .second, .val (.int p4), .val (.int (p1 &&& (2147483647 : Int32))), .unset, .unset, .unset, .unset, .unset, .unset, .unset, .unset, .unset, .unset] [(.int (p4 &&& (65535 : Int32)))])) _
    refine XS.iconst X0.here hx rfl (hb hby at_11) ?_
    show Steps p.tables e below (s₁.setTop (mkF m 12 #[.val (.int p1), .val (.int p2), .val (.long p3), .second, .val (.int p4), .val (.int (p1 &&& (2147483647 : Int32))), .unset, .unset, .unset, .unset, .unset, .unset, .unset, .unset, .unset, .unset] [(.int (1 : Int32)), (.int (p4 &&& (65535 : Int32)))])) _
    refine XS.iadd X0.here hx rfl (hb hby at_12) rfl ?_
    show Steps p.tables e below (s₁.setTop (mkF m 13 #[.val (.int p1), .val (.int p2), .val (.long p3), .second, .val (.int p4), .val (.int (p1 &&& (2147483647 : Int32))), .unset, .unset, .unset, .unset, .unset, .unset, .unset, .unset, .unset, .unset] [(.int ((p4 &&& (65535 : Int32)) + (1 : Int32)))])) _
    refine XS.i2fS X0.here hx rfl (hb hby at_13) rfl rfl ?_
    show Steps p.tables e below (s₁.setTop (mkF m 14 #[.val (.int p1), .val (.int p2), .val (.long p3), .second, .val (.int p4), .val (.int (p1 &&& (2147483647 : Int32))), .unset, .unset, .unset, .unset, .unset, .unset, .unset, .unset, .unset, .unset] [(.float (FP.i2f ((p4 &&& (65535 : Int32)) + (1 : Int32))))])) _
    refine XS.fstore X0.here hx rfl (hb hby at_14) rfl (l' := #[.val (.int p1), .val (.int p2), .val (.long p3), .second, .val (.int p4), .val (.int (p1 &&& (2147483647 : Int32))), .val (.float (FP.i2f ((p4 &&& (65535 : Int32)) + (1 : Int32)))), .unset, .unset, .unset, .unset, .unset, .unset, .unset, .unset, .unset]) rfl ?_
    show Steps p.tables e below (s₁.setTop (mkF m 16 #[.val (.int p1), .val (.int p2), .val (.long p3), .second, .val (.int p4), .val (.int (p1 &&& (2147483647 : Int32))), .val (.float (FP.i2f ((p4 &&& (65535 : Int32)) + (1 : Int32)))), .unset, .unset, .unset, .unset, .unset, .unset, .unset, .unset, .unset] [])) _
    refine st1 _ ?_
    show Steps p.tables e below (T1.setTop (mkF m 19 #[.val (.int p1), .val (.int p2), .val (.long p3), .second, .val (.int p4), .val (.int (p1 &&& (2147483647 : Int32))), .val (.float (FP.i2f ((p4 &&& (65535 : Int32)) + (1 : Int32)))), .unset, .unset, .unset, .unset, .unset, .unset, .unset, .unset, .unset] [(.ref bc)])) _
    refine XS.dup X1.here hx rfl (hb hby at_19) rfl rfl ?_
    show Steps p.tables e below (T1.setTop (mkF m 20 #[.val (.int p1), .val (.int p2), .val (.long p3), .second, .val (.int p4), .val (.int (p1 &&& (2147483647 : Int32))), .val (.float (FP.i2f ((p4 &&& (65535 : Int32)) + (1 : Int32)))), .unset, .unset, .unset, .unset, .unset, .unset, .unset, .unset, .unset] [(.ref bc), (.ref bc)])) _
    refine XS.iload X1.here hx rfl (hb hby at_20) rfl ?_
    show Steps p.tables e below (T1.setTop (mkF m 22 #[.val (.int p1), .val (.int p2), .val (.long p3), .second, .val (.int p4), .val (.int (p1 &&& (2147483647 : Int32))), .val (.float (FP.i2f ((p4 &&& (65535 : Int32)) + (1 : Int32)))), .unset, .unset, .unset, .unset, .unset, .unset, .unset, .unset, .unset] [(.int (p1 &&& (2147483647 : Int32))), (.ref bc), (.ref bc)])) _
    refine XS.fload X1.here hx rfl (hb hby at_22) rfl ?_
    show Steps p.tables e below (T1.setTop (mkF m 24 #[.val (.int p1), .val (.int p2), .val (.long p3), .second, .val (.int p4), .val (.int (p1 &&& (2147483647 : Int32))), .val (.float (FP.i2f ((p4 &&& (65535 : Int32)) + (1 : Int32)))), .unset, .unset, .unset, .unset, .unset, .unset, .unset, .unset, .unset] [(.float (FP.i2f ((p4 &&& (65535 : Int32)) + (1 : Int32)))), (.int (p1 &&& (2147483647 : Int32))), (.ref bc), (.ref bc)])) _
    refine st5.trans ?_
    show Steps p.tables e below (T5.setTop (mkF m 27 #[.val (.int p1), .val (.int p2), .val (.long p3), .second, .val (.int p4), .val (.int (p1 &&& (2147483647 : Int32))), .val (.float (FP.i2f ((p4 &&& (65535 : Int32)) + (1 : Int32)))), .unset, .unset, .unset, .unset, .unset, .unset, .unset, .unset, .unset] [(.ref bc)])) _
    refine XS.astore X5.here hx rfl (hb hby at_27) rfl rfl (l' := #[.val (.int p1), .val (.int p2), .val (.long p3), .second, .val (.int p4), .val (.int (p1 &&& (2147483647 : Int32))), .val (.float (FP.i2f ((p4 &&& (65535 : Int32)) + (1 : Int32)))), .val (.ref bc), .unset, .unset, .unset, .unset, .unset, .unset, .unset, .unset]) rfl ?_
    show Steps p.tables e below (T5.setTop (mkF m 29 #[.val (.int p1), .val (.int p2), .val (.long p3), .second, .val (.int p4), .val (.int (p1 &&& (2147483647 : Int32))), .val (.float (FP.i2f ((p4 &&& (65535 : Int32)) + (1 : Int32)))), .val (.ref bc), .unset, .unset, .unset, .unset, .unset, .unset, .unset, .unset] [])) _
    refine XS.lloadN X5.here hx rfl (hb hby at_29) rfl ?_
    show Steps p.tables e below (T5.setTop (mkF m 30 #[.val (.int p1), .val (.int p2), .val (.long p3), .second, .val (.int p4), .val (.int (p1 &&& (2147483647 : Int32))), .val (.float (FP.i2f ((p4 &&& (65535 : Int32)) + (1 : Int32)))), .val (.ref bc), .unset, .unset, .unset, .unset, .unset, .unset, .unset, .unset] [(.long p3)])) _
    refine X5.ldc2Long hx hown (mvT hZ (hw _ (List.mem_of_getElem? (i := 35) rfl))) (g := (mkF m 30 #[.val (.int p1), .val (.int p2), .val (.long p3), .second, .val (.int p4), .val (.int (p1 &&& (2147483647 : Int32))), .val (.float (FP.i2f ((p4 &&& (65535 : Int32)) + (1 : Int32)))), .val (.ref bc), .unset, .unset, .unset, .unset, .unset, .unset, .unset, .unset] [(.long p3)])) rfl (hb hby at_30) _ ?_
    show Steps p.tables e below (T5.setTop (mkF m 33 #[.val (.int p1), .val (.int p2), .val (.long p3), .second, .val (.int p4), .val (.int (p1 &&& (2147483647 : Int32))), .val (.float (FP.i2f ((p4 &&& (65535 : Int32)) + (1 : Int32)))), .val (.ref bc), .unset, .unset, .unset, .unset, .unset, .unset, .unset, .unset] [(.long (9223372036854775807 : Int64)), (.long p3)])) _
    refine XS.land X5.here hx rfl (hb hby at_33) rfl ?_
    show Steps p.tables e below (T5.setTop (mkF m 34 #[.val (.int p1), .val (.int p2), .val (.long p3), .second, .val (.int p4), .val (.int (p1 &&& (2147483647 : Int32))), .val (.float (FP.i2f ((p4 &&& (65535 : Int32)) + (1 : Int32)))), .val (.ref bc), .unset, .unset, .unset, .unset, .unset, .unset, .unset, .unset] [(.long (p3 &&& (9223372036854775807 : Int64)))])) _
    refine XS.lstore X5.here hx rfl (hb hby at_34) rfl (l' := #[.val (.int p1), .val (.int p2), .val (.long p3), .second, .val (.int p4), .val (.int (p1 &&& (2147483647 : Int32))), .val (.float (FP.i2f ((p4 &&& (65535 : Int32)) + (1 : Int32)))), .val (.ref bc), .val (.long (p3 &&& (9223372036854775807 : Int64))), .second, .unset, .unset, .unset, .unset, .unset, .unset]) rfl ?_
    show Steps p.tables e below (T5.setTop (mkF m 36 #[.val (.int p1), .val (.int p2), .val (.long p3), .second, .val (.int p4), .val (.int (p1 &&& (2147483647 : Int32))), .val (.float (FP.i2f ((p4 &&& (65535 : Int32)) + (1 : Int32)))), .val (.ref bc), .val (.long (p3 &&& (9223372036854775807 : Int64))), .second, .unset, .unset, .unset, .unset, .unset, .unset] [])) _
    refine XS.iload X5.here hx rfl (hb hby at_36) rfl ?_
    show Steps p.tables e below (T5.setTop (mkF m 38 #[.val (.int p1), .val (.int p2), .val (.long p3), .second, .val (.int p4), .val (.int (p1 &&& (2147483647 : Int32))), .val (.float (FP.i2f ((p4 &&& (65535 : Int32)) + (1 : Int32)))), .val (.ref bc), .val (.long (p3 &&& (9223372036854775807 : Int64))), .second, .unset, .unset, .unset, .unset, .unset, .unset] [(.int (p1 &&& (2147483647 : Int32)))])) _
    refine XS.ifNo X5.here hx rfl (hb hby at_38) rfl ((if0 _ _).trans (teq (hc38 : (p1 &&& (2147483647 : Int32)) = (0 : Int32))).2) ?_
    show Steps p.tables e below (T5.setTop (mkF m 41 #[.val (.int p1), .val (.int p2), .val (.long p3), .second, .val (.int p4), .val (.int (p1 &&& (2147483647 : Int32))), .val (.float (FP.i2f ((p4 &&& (65535 : Int32)) + (1 : Int32)))), .val (.ref bc), .val (.long (p3 &&& (9223372036854775807 : Int64))), .second, .unset, .unset, .unset, .unset, .unset, .unset] [])) _
    refine XS.aload X5.here hx rfl (hb hby at_41) rfl rfl ?_
    show Steps p.tables e below (T5.setTop (mkF m 43 #[.val (.int p1), .val (.int p2), .val (.long p3), .second, .val (.int p4), .val (.int (p1 &&& (2147483647 : Int32))), .val (.float (FP.i2f ((p4 &&& (65535 : Int32)) + (1 : Int32)))), .val (.ref bc), .val (.long (p3 &&& (9223372036854775807 : Int64))), .second, .unset, .unset, .unset, .unset, .unset, .unset] [(.ref bc)])) _
    refine XS.lload X5.here hx rfl (hb hby at_43) rfl ?_
    show Steps p.tables e below (T5.setTop (mkF m 45 #[.val (.int p1), .val (.int p2), .val (.long p3), .second, .val (.int p4), .val (.int (p1 &&& (2147483647 : Int32))), .val (.float (FP.i2f ((p4 &&& (65535 : Int32)) + (1 : Int32)))), .val (.ref bc), .val (.long (p3 &&& (9223372036854775807 : Int64))), .second, .unset, .unset, .unset, .unset, .unset, .unset] [(.long (p3 &&& (9223372036854775807 : Int64))), (.ref bc)])) _
    refine st7.trans ?_
    show Steps p.tables e below (T7.setTop (mkF m 48 #[.val (.int p1), .val (.int p2), .val (.long p3), .second, .val (.int p4), .val (.int (p1 &&& (2147483647 : Int32))), .val (.float (FP.i2f ((p4 &&& (65535 : Int32)) + (1 : Int32)))), .val (.ref bc), .val (.long (p3 &&& (9223372036854775807 : Int64))), .second, .unset, .unset, .unset, .unset, .unset, .unset] [(.int (0 : Int32))])) _
    refine XS.ifNo X7.here hx rfl (hb hby at_48) rfl ((if0 _ _).trans (teq (by decide : (0 : Int32) = (0 : Int32))).2) ?_
    show Steps p.tables e below (T7.setTop (mkF m 51 #[.val (.int p1), .val (.int p2), .val (.long p3), .second, .val (.int p4), .val (.int (p1 &&& (2147483647 : Int32))), .val (.float (FP.i2f ((p4 &&& (65535 : Int32)) + (1 : Int32)))), .val (.ref bc), .val (.long (p3 &&& (9223372036854775807 : Int64))), .second, .unset, .unset, .unset, .unset, .unset, .unset] [])) _
    refine XS.iconst X7.here hx rfl (hb hby at_51) ?_
    show Steps p.tables e below (T7.setTop (mkF m 52 #[.val (.int p1), .val (.int p2), .val (.long p3), .second, .val (.int p4), .val (.int (p1 &&& (2147483647 : Int32))), .val (.float (FP.i2f ((p4 &&& (65535 : Int32)) + (1 : Int32)))), .val (.ref bc), .val (.long (p3 &&& (9223372036854775807 : Int64))), .second, .unset, .unset, .unset, .unset, .unset, .unset] [(.int (1 : Int32))])) _
    refine XS.goto X7.here hx rfl (pc0 := 52) (pc' := 56) rfl (hb hby at_52) (by decide) (by decide) ?_
    show Steps p.tables e below (T7.setTop (mkF m 56 #[.val (.int p1), .val (.int p2), .val (.long p3), .second, .val (.int p4), .val (.int (p1 &&& (2147483647 : Int32))), .val (.float (FP.i2f ((p4 &&& (65535 : Int32)) + (1 : Int32)))), .val (.ref bc), .val (.long (p3 &&& (9223372036854775807 : Int64))), .second, .unset, .unset, .unset, .unset, .unset, .unset] [(.int (1 : Int32))])) _
    exact retOut X7 hx (t := .boolean) (i := .ireturn) Bd.returns rfl (Or.inl ⟨rfl, Or.inr (Or.inl rfl), _, rfl⟩) (hb hby at_56) hr
  · show Q_lawA Z p1 p2 p3 p4 h0 n0 _ T7.heap _
    rw [e7]
    exact ⟨rfl, N7⟩
theorem ef_lawB (m : MethodId) (x0 : Int32) (x1 : Int32) (x2 : Int64) (x3 : Int32) : entryFrame m #[(.int x0), (.int x1), (.long x2), (.int x3)] maxLocals = mkF m 0 #[.val (.int x0), .val (.int x1), .val (.long x2), .second, .val (.int x3), .unset, .unset, .unset, .unset, .unset, .unset, .unset, .unset, .unset, .unset, .unset] [] := by first | (simp [entryFrame, mkF, argsToLocals, Value.category, maxLocals]; done) | rfl
def Q_lawB (Z : State) (p1 : Int32) (p2 : Int32) (p3 : Int64) (p4 : Int32) (h0 : Heap) (n0 : Nat) (v : Option Value) (h : Heap) (L : List Loc) : Prop := v = some (.int (1 : Int32)) ∧ Fr n0 L
set_option maxRecDepth 65536 in
set_option maxHeartbeats 40000000 in
theorem rm_lawB (l : Launch) (Z : State) (a0 : Array Value) (hw : ∀ d ∈ tables_1, d.before a0 Z = true) (ws : List Jvm.Cond) (p1 : Int32) (p2 : Int32) (p3 : Int64) (p4 : Int32) (h0 : Heap) (n0 : Nat) (Z0 : n0 ≤ h0.size) (hc38 : ¬ ((p1 &&& (2147483647 : Int32)) = (0 : Int32))) (hc105 : (lcmpW (((own_k (p3 &&& (9223372036854775807 : Int64)) (((p2 &&& (2147483647 : Int32)) % (p1 &&& (2147483647 : Int32)))).toInt64 ((p1 &&& (2147483647 : Int32))).toInt64) * ((p1 &&& (2147483647 : Int32))).toInt64) + (((p2 &&& (2147483647 : Int32)) % (p1 &&& (2147483647 : Int32)))).toInt64) (0 : Int64)) = (0 : Int32)) :
    MetFree l x (head1 (Jvm.Cond.code x code maxLocals ret :: ws) room_1) (fun a U => a = #[(.int p1), (.int p2), (.long p3), (.int p4)] ∧ Z.Warmed39 U.vm ∧ U.heap = h0) (fun _ _ _ _ _ => True) (fun _ U o U' => ∃ v L, o = .returned v ∧ Q_lawB Z p1 p2 p3 p4 h0 n0 v U'.heap L ∧ FrameEnd U o U' L room_1.cells room_1.slots) := by
  refine MetFree.of_bodySF (plainFor_of_name pn_com_example_sievegrad_sievegrad_core_ResidualClippingClipsAfterPinLaw) hisR ?_
  intro p e s m args below meth c s₁ Bd hml0 hP hK
  obtain ⟨rfl, hZ, hh⟩ := hP
  have hx := Bd.exec
  have hby := Bd.bytes
  have hml : c.maxLocals = 16 := hml0
  have hown : s.vm.findClass "com/example/sievegrad/sievegrad/core/ResidualClippingClipsAfterPinLaw" = some m.cls := findClass_of_methodNamed Bd.named
  have hnm := (name_of_methodNamed Bd.named Bd.method).1
  have X0 : Stand p l e room_1 s m #[(.int p1), (.int p2), (.long p3), (.int p4)] below meth c s₁ [] 0 0 := Stand.of_body Bd
  have e0 : s₁.heap = h0 := by rw [← hh, Bd.state]; rfl
  have N0 := Fr.nil n0
  have P0 : Keep h0 h0 [] := Keep.refl _ _
  have pre0 : ∀ t, Steps p.tables e below (s₁.setTop (mkF m 0 #[.val (.int p1), .val (.int p2), .val (.long p3), .second, .val (.int p4), .unset, .unset, .unset, .unset, .unset, .unset, .unset, .unset, .unset, .unset, .unset] [])) t → Steps p.tables e below (s₁.setTop (entryFrame m #[(.int p1), (.int p2), (.long p3), (.int p4)] maxLocals)) t := fun t k => castTop (ef_lawB m p1 p2 p3 p4) k
  obtain ⟨T1, h1, X1, e1, E1, A1, D1, -, st1⟩ := newO X0 hx hZ hown (hw _ (List.mem_of_getElem? (i := 2) rfl)) (hw _ (List.mem_of_getElem? (i := 3) rfl)) (hw _ (List.mem_of_getElem? (i := 4) rfl)) e0 (g := (mkF m 16 #[.val (.int p1), .val (.int p2), .val (.long p3), .second, .val (.int p4), .val (.int (p1 &&& (2147483647 : Int32))), .val (.float (FP.i2f ((p4 &&& (65535 : Int32)) + (1 : Int32)))), .unset, .unset, .unset, .unset, .unset, .unset, .unset, .unset, .unset] [])) rfl (hb hby at_16) (by decide) (by decide)
  obtain ⟨bc, g1⟩ : ∃ z, z = h0.size := ⟨_, rfl⟩
  rw [← g1] at A1 D1 st1
  have ge_bc : n0 ≤ bc := Nat.le_trans (Nat.le_trans Z0 P0.1) (Nat.le_of_eq g1.symm)
  have sz_bc : h0.size ≤ bc := Nat.le_trans P0.1 (Nat.le_of_eq g1.symm)
  have P2 : Keep h0 h1 [] := P0.ext E1
  have F3 : Fld Z h1 bc "com/example/sievegrad/sievegrad/core/ResidualClipping" "every" "I" (.int (0 : Int32)) := D1 (Or.inr (hw _ (List.mem_of_getElem? (i := 32) rfl))) (ty := .int) (by decide)
  have F4 : Fld Z h1 bc "com/example/sievegrad/sievegrad/core/ResidualClipping" "multiple" "F" (.float (0 : UInt32)) := D1 (Or.inr (hw _ (List.mem_of_getElem? (i := 34) rfl))) (ty := .float) (by decide)
  obtain ⟨_, _, ⟨T5, L5, k5, n5⟩, -, X5, ⟨Lc5, hQ5, l5, y5, z5⟩, st5⟩ := X1.specialBack hx (y := (⟨"com/example/sievegrad/sievegrad/core/ResidualClipping", "<init>", "(IF)V"⟩ : MethodName)) rfl hown (mvT hZ (hw _ (List.mem_of_getElem? (i := 5) rfl))) (mvT hZ (hw _ (List.mem_of_getElem? (i := 6) rfl))) (mvT hZ (hw _ (List.mem_of_getElem? (i := 7) rfl))) (by decide) (backOf (W := 1) (rm_ini l Z a0 hw [] bc (p1 &&& (2147483647 : Int32)) (FP.i2f ((p4 &&& (65535 : Int32)) + (1 : Int32))) (.int (0 : Int32)) (.float (0 : UInt32)) h1 n0 (Nat.le_trans Z0 P2.1) A1 F3 F4 ge_bc (own_ev p1) (i2f_fin _) (own_f p4)) hZ (hw _ (List.mem_of_getElem? (i := 7) rfl)) (hw _ (List.mem_of_getElem? (i := 4) rfl)) (by decide) (by decide)) (g := (mkF m 24 #[.val (.int p1), .val (.int p2), .val (.long p3), .second, .val (.int p4), .val (.int (p1 &&& (2147483647 : Int32))), .val (.float (FP.i2f ((p4 &&& (65535 : Int32)) + (1 : Int32)))), .unset, .unset, .unset, .unset, .unset, .unset, .unset, .unset, .unset] [(.float (FP.i2f ((p4 &&& (65535 : Int32)) + (1 : Int32)))), (.int (p1 &&& (2147483647 : Int32))), (.ref bc), (.ref bc)])) rfl (by rw [hml]; rfl) (Steps.refl _) (a := bc) (argsL := [(.int (p1 &&& (2147483647 : Int32))), (.float (FP.i2f ((p4 &&& (65535 : Int32)) + (1 : Int32))))]) (rest := [(.ref bc)]) (lenOf pd_28IF29V rfl) rfl (by show 2 * 0 + _ ≤ _; exact Nat.le_of_eq rfl) (hb hby at_24) (fun _ _ => ⟨rfl, e1, (by decide : 1 + 0 ≤ _), (by decide : 2 + 0 ≤ _)⟩)
  dsimp only [Pt.U, Pt.locs, Pt.cells, Pt.slots] at X5 l5 y5 z5 st5 hQ5
  subst l5 y5 z5
  obtain ⟨rfl, N5q, K5, r5_0, r5_1⟩ := hQ5
  have N5 := Fr.app N0 N5q
  have P6 : Keep h0 T5.heap [] := P2.trans K5 (allS (Or.inr sz_bc) all0)
  obtain ⟨kv, rfl, mg7⟩ : ∃ kv : Int64, (kv = (own_k (p3 &&& (9223372036854775807 : Int64)) (((p2 &&& (2147483647 : Int32)) % (p1 &&& (2147483647 : Int32)))).toInt64 ((p1 &&& (2147483647 : Int32))).toInt64)) ∧ ∀ t, Steps p.tables e below (T5.setTop (mkF m 90 #[.val (.int p1), .val (.int p2), .val (.long p3), .second, .val (.int p4), .val (.int (p1 &&& (2147483647 : Int32))), .val (.float (FP.i2f ((p4 &&& (65535 : Int32)) + (1 : Int32)))), .val (.ref bc), .val (.long (p3 &&& (9223372036854775807 : Int64))), .second, .val (.long (((p2 &&& (2147483647 : Int32)) % (p1 &&& (2147483647 : Int32)))).toInt64), .second, .val (.long kv), .second, .unset, .unset] [])) t → Steps p.tables e below (T5.setTop (mkF m 72 #[.val (.int p1), .val (.int p2), .val (.long p3), .second, .val (.int p4), .val (.int (p1 &&& (2147483647 : Int32))), .val (.float (FP.i2f ((p4 &&& (65535 : Int32)) + (1 : Int32)))), .val (.ref bc), .val (.long (p3 &&& (9223372036854775807 : Int64))), .second, .val (.long (((p2 &&& (2147483647 : Int32)) % (p1 &&& (2147483647 : Int32)))).toInt64), .second, .unset, .unset, .unset, .unset] [(.int (lcmpW (p3 &&& (9223372036854775807 : Int64)) (((p2 &&& (2147483647 : Int32)) % (p1 &&& (2147483647 : Int32)))).toInt64))])) t := by
    by_cases hc72 : (lcmpW (p3 &&& (9223372036854775807 : Int64)) (((p2 &&& (2147483647 : Int32)) % (p1 &&& (2147483647 : Int32)))).toInt64) < (0 : Int32)
    ·
      refine ⟨(0 : Int64), (by unfold own_k; rw [if_pos ((lw_lt _ _).mp hc72)]), fun t k => ?_⟩
      show Steps p.tables e below (T5.setTop (mkF m 72 #[.val (.int p1), .val (.int p2), .val (.long p3), .second, .val (.int p4), .val (.int (p1 &&& (2147483647 : Int32))), .val (.float (FP.i2f ((p4 &&& (65535 : Int32)) + (1 : Int32)))), .val (.ref bc), .val (.long (p3 &&& (9223372036854775807 : Int64))), .second, .val (.long (((p2 &&& (2147483647 : Int32)) % (p1 &&& (2147483647 : Int32)))).toInt64), .second, .unset, .unset, .unset, .unset] [(.int (lcmpW (p3 &&& (9223372036854775807 : Int64)) (((p2 &&& (2147483647 : Int32)) % (p1 &&& (2147483647 : Int32)))).toInt64))])) _
      refine XS.ifYes X5.here hx rfl (pc0 := 72) (pc' := 87) rfl (hb hby at_72) rfl ((if0 _ _).trans (tlt (hc72 : (lcmpW (p3 &&& (9223372036854775807 : Int64)) (((p2 &&& (2147483647 : Int32)) % (p1 &&& (2147483647 : Int32)))).toInt64) < (0 : Int32))).1) (by decide) (by decide) ?_
      show Steps p.tables e below (T5.setTop (mkF m 87 #[.val (.int p1), .val (.int p2), .val (.long p3), .second, .val (.int p4), .val (.int (p1 &&& (2147483647 : Int32))), .val (.float (FP.i2f ((p4 &&& (65535 : Int32)) + (1 : Int32)))), .val (.ref bc), .val (.long (p3 &&& (9223372036854775807 : Int64))), .second, .val (.long (((p2 &&& (2147483647 : Int32)) % (p1 &&& (2147483647 : Int32)))).toInt64), .second, .unset, .unset, .unset, .unset] [])) _
      refine XS.lconst X5.here hx rfl (hb hby at_87) ?_
      show Steps p.tables e below (T5.setTop (mkF m 88 #[.val (.int p1), .val (.int p2), .val (.long p3), .second, .val (.int p4), .val (.int (p1 &&& (2147483647 : Int32))), .val (.float (FP.i2f ((p4 &&& (65535 : Int32)) + (1 : Int32)))), .val (.ref bc), .val (.long (p3 &&& (9223372036854775807 : Int64))), .second, .val (.long (((p2 &&& (2147483647 : Int32)) % (p1 &&& (2147483647 : Int32)))).toInt64), .second, .unset, .unset, .unset, .unset] [(.long (0 : Int64))])) _
      refine XS.lstore X5.here hx rfl (hb hby at_88) rfl (l' := #[.val (.int p1), .val (.int p2), .val (.long p3), .second, .val (.int p4), .val (.int (p1 &&& (2147483647 : Int32))), .val (.float (FP.i2f ((p4 &&& (65535 : Int32)) + (1 : Int32)))), .val (.ref bc), .val (.long (p3 &&& (9223372036854775807 : Int64))), .second, .val (.long (((p2 &&& (2147483647 : Int32)) % (p1 &&& (2147483647 : Int32)))).toInt64), .second, .val (.long (0 : Int64)), .second, .unset, .unset]) rfl ?_
      exact k
    ·
      refine ⟨(((p3 &&& (9223372036854775807 : Int64)) - (((p2 &&& (2147483647 : Int32)) % (p1 &&& (2147483647 : Int32)))).toInt64) / ((p1 &&& (2147483647 : Int32))).toInt64), (by unfold own_k; rw [if_neg (fun q => hc72 ((lw_lt _ _).mpr q))]), fun t k => ?_⟩
      show Steps p.tables e below (T5.setTop (mkF m 72 #[.val (.int p1), .val (.int p2), .val (.long p3), .second, .val (.int p4), .val (.int (p1 &&& (2147483647 : Int32))), .val (.float (FP.i2f ((p4 &&& (65535 : Int32)) + (1 : Int32)))), .val (.ref bc), .val (.long (p3 &&& (9223372036854775807 : Int64))), .second, .val (.long (((p2 &&& (2147483647 : Int32)) % (p1 &&& (2147483647 : Int32)))).toInt64), .second, .unset, .unset, .unset, .unset] [(.int (lcmpW (p3 &&& (9223372036854775807 : Int64)) (((p2 &&& (2147483647 : Int32)) % (p1 &&& (2147483647 : Int32)))).toInt64))])) _
      refine XS.ifNo X5.here hx rfl (hb hby at_72) rfl ((if0 _ _).trans (flt (hc72 : ¬ ((lcmpW (p3 &&& (9223372036854775807 : Int64)) (((p2 &&& (2147483647 : Int32)) % (p1 &&& (2147483647 : Int32)))).toInt64) < (0 : Int32)))).1) ?_
      show Steps p.tables e below (T5.setTop (mkF m 75 #[.val (.int p1), .val (.int p2), .val (.long p3), .second, .val (.int p4), .val (.int (p1 &&& (2147483647 : Int32))), .val (.float (FP.i2f ((p4 &&& (65535 : Int32)) + (1 : Int32)))), .val (.ref bc), .val (.long (p3 &&& (9223372036854775807 : Int64))), .second, .val (.long (((p2 &&& (2147483647 : Int32)) % (p1 &&& (2147483647 : Int32)))).toInt64), .second, .unset, .unset, .unset, .unset] [])) _
      refine XS.lload X5.here hx rfl (hb hby at_75) rfl ?_
      show Steps p.tables e below (T5.setTop (mkF m 77 #[.val (.int p1), .val (.int p2), .val (.long p3), .second, .val (.int p4), .val (.int (p1 &&& (2147483647 : Int32))), .val (.float (FP.i2f ((p4 &&& (65535 : Int32)) + (1 : Int32)))), .val (.ref bc), .val (.long (p3 &&& (9223372036854775807 : Int64))), .second, .val (.long (((p2 &&& (2147483647 : Int32)) % (p1 &&& (2147483647 : Int32)))).toInt64), .second, .unset, .unset, .unset, .unset] [(.long (p3 &&& (9223372036854775807 : Int64)))])) _
      refine XS.lload X5.here hx rfl (hb hby at_77) rfl ?_
      show Steps p.tables e below (T5.setTop (mkF m 79 #[.val (.int p1), .val (.int p2), .val (.long p3), .second, .val (.int p4), .val (.int (p1 &&& (2147483647 : Int32))), .val (.float (FP.i2f ((p4 &&& (65535 : Int32)) + (1 : Int32)))), .val (.ref bc), .val (.long (p3 &&& (9223372036854775807 : Int64))), .second, .val (.long (((p2 &&& (2147483647 : Int32)) % (p1 &&& (2147483647 : Int32)))).toInt64), .second, .unset, .unset, .unset, .unset] [(.long (((p2 &&& (2147483647 : Int32)) % (p1 &&& (2147483647 : Int32)))).toInt64), (.long (p3 &&& (9223372036854775807 : Int64)))])) _
      refine XS.lsub X5.here hx rfl (hb hby at_79) rfl ?_
      show Steps p.tables e below (T5.setTop (mkF m 80 #[.val (.int p1), .val (.int p2), .val (.long p3), .second, .val (.int p4), .val (.int (p1 &&& (2147483647 : Int32))), .val (.float (FP.i2f ((p4 &&& (65535 : Int32)) + (1 : Int32)))), .val (.ref bc), .val (.long (p3 &&& (9223372036854775807 : Int64))), .second, .val (.long (((p2 &&& (2147483647 : Int32)) % (p1 &&& (2147483647 : Int32)))).toInt64), .second, .unset, .unset, .unset, .unset] [(.long ((p3 &&& (9223372036854775807 : Int64)) - (((p2 &&& (2147483647 : Int32)) % (p1 &&& (2147483647 : Int32)))).toInt64))])) _
      refine XS.iload X5.here hx rfl (hb hby at_80) rfl ?_
      show Steps p.tables e below (T5.setTop (mkF m 82 #[.val (.int p1), .val (.int p2), .val (.long p3), .second, .val (.int p4), .val (.int (p1 &&& (2147483647 : Int32))), .val (.float (FP.i2f ((p4 &&& (65535 : Int32)) + (1 : Int32)))), .val (.ref bc), .val (.long (p3 &&& (9223372036854775807 : Int64))), .second, .val (.long (((p2 &&& (2147483647 : Int32)) % (p1 &&& (2147483647 : Int32)))).toInt64), .second, .unset, .unset, .unset, .unset] [(.int (p1 &&& (2147483647 : Int32))), (.long ((p3 &&& (9223372036854775807 : Int64)) - (((p2 &&& (2147483647 : Int32)) % (p1 &&& (2147483647 : Int32)))).toInt64))])) _
      refine XS.i2l X5.here hx rfl (hb hby at_82) rfl ?_
      show Steps p.tables e below (T5.setTop (mkF m 83 #[.val (.int p1), .val (.int p2), .val (.long p3), .second, .val (.int p4), .val (.int (p1 &&& (2147483647 : Int32))), .val (.float (FP.i2f ((p4 &&& (65535 : Int32)) + (1 : Int32)))), .val (.ref bc), .val (.long (p3 &&& (9223372036854775807 : Int64))), .second, .val (.long (((p2 &&& (2147483647 : Int32)) % (p1 &&& (2147483647 : Int32)))).toInt64), .second, .unset, .unset, .unset, .unset] [(.long ((p1 &&& (2147483647 : Int32))).toInt64), (.long ((p3 &&& (9223372036854775807 : Int64)) - (((p2 &&& (2147483647 : Int32)) % (p1 &&& (2147483647 : Int32)))).toInt64))])) _
      refine XS.ldiv X5.here hx rfl (hb hby at_83) rfl (own_nz (own_pos (own_ev p1) hc38)) ?_
      show Steps p.tables e below (T5.setTop (mkF m 84 #[.val (.int p1), .val (.int p2), .val (.long p3), .second, .val (.int p4), .val (.int (p1 &&& (2147483647 : Int32))), .val (.float (FP.i2f ((p4 &&& (65535 : Int32)) + (1 : Int32)))), .val (.ref bc), .val (.long (p3 &&& (9223372036854775807 : Int64))), .second, .val (.long (((p2 &&& (2147483647 : Int32)) % (p1 &&& (2147483647 : Int32)))).toInt64), .second, .unset, .unset, .unset, .unset] [(.long (((p3 &&& (9223372036854775807 : Int64)) - (((p2 &&& (2147483647 : Int32)) % (p1 &&& (2147483647 : Int32)))).toInt64) / ((p1 &&& (2147483647 : Int32))).toInt64))])) _
      refine XS.goto X5.here hx rfl (pc0 := 84) (pc' := 88) rfl (hb hby at_84) (by decide) (by decide) ?_
      show Steps p.tables e below (T5.setTop (mkF m 88 #[.val (.int p1), .val (.int p2), .val (.long p3), .second, .val (.int p4), .val (.int (p1 &&& (2147483647 : Int32))), .val (.float (FP.i2f ((p4 &&& (65535 : Int32)) + (1 : Int32)))), .val (.ref bc), .val (.long (p3 &&& (9223372036854775807 : Int64))), .second, .val (.long (((p2 &&& (2147483647 : Int32)) % (p1 &&& (2147483647 : Int32)))).toInt64), .second, .unset, .unset, .unset, .unset] [(.long (((p3 &&& (9223372036854775807 : Int64)) - (((p2 &&& (2147483647 : Int32)) % (p1 &&& (2147483647 : Int32)))).toInt64) / ((p1 &&& (2147483647 : Int32))).toInt64))])) _
      refine XS.lstore X5.here hx rfl (hb hby at_88) rfl (l' := #[.val (.int p1), .val (.int p2), .val (.long p3), .second, .val (.int p4), .val (.int (p1 &&& (2147483647 : Int32))), .val (.float (FP.i2f ((p4 &&& (65535 : Int32)) + (1 : Int32)))), .val (.ref bc), .val (.long (p3 &&& (9223372036854775807 : Int64))), .second, .val (.long (((p2 &&& (2147483647 : Int32)) % (p1 &&& (2147483647 : Int32)))).toInt64), .second, .val (.long (((p3 &&& (9223372036854775807 : Int64)) - (((p2 &&& (2147483647 : Int32)) % (p1 &&& (2147483647 : Int32)))).toInt64) / ((p1 &&& (2147483647 : Int32))).toInt64)), .second, .unset, .unset]) rfl ?_
      exact k
  obtain ⟨fs, hr, hrun, hended, hW, hsame⟩ := X5.leave (v := some (.int (1 : Int32))) (fun h => by rw [Bd.returns] at h; cases h)
  refine ⟨_, _, pre0 _ ?_, hrun, hended, _, _, rfl, ?_, ⟨_, rfl⟩, hW, hsame.mono (by decide) (by decide)⟩
  · show Steps p.tables e below (s₁.setTop (mkF m 0 #[.val (.int p1), .val (.int p2), .val (.long p3), .second, .val (.int p4), .unset, .unset, .unset, .unset, .unset, .unset, .unset, .unset, .unset, .unset, .unset] [])) _
    refine XS.iloadN X0.here hx rfl (hb hby at_0) rfl ?_
    show Steps p.tables e below (s₁.setTop (mkF m 1 #[.val (.int p1), .val (.int p2), .val (.long p3), .second, .val (.int p4), .unset, .unset, .unset, .unset, .unset, .unset, .unset, .unset, .unset, .unset, .unset] [(.int p1)])) _
    refine X0.ldcInt hx hown (mvT hZ (hw _ (List.mem_of_getElem? (i := 0) rfl))) (g := (mkF m 1 #[.val (.int p1), .val (.int p2), .val (.long p3), .second, .val (.int p4), .unset, .unset, .unset, .unset, .unset, .unset, .unset, .unset, .unset, .unset, .unset] [(.int p1)])) rfl (hb hby at_1) _ ?_
    show Steps p.tables e below (s₁.setTop (mkF m 3 #[.val (.int p1), .val (.int p2), .val (.long p3), .second, .val (.int p4), .unset, .unset, .unset, .unset, .unset, .unset, .unset, .unset, .unset, .unset, .unset] [(.int (2147483647 : Int32)), (.int p1)])) _
    refine XS.iand X0.here hx rfl (hb hby at_3) rfl ?_
    show Steps p.tables e below (s₁.setTop (mkF m 4 #[.val (.int p1), .val (.int p2), .val (.long p3), .second, .val (.int p4), .unset, .unset, .unset, .unset, .unset, .unset, .unset, .unset, .unset, .unset, .unset] [(.int (p1 &&& (2147483647 : Int32)))])) _
    refine XS.istore X0.here hx rfl (hb hby at_4) rfl (l' := #[.val (.int p1), .val (.int p2), .val (.long p3), .second, .val (.int p4), .val (.int (p1 &&& (2147483647 : Int32))), .unset, .unset, .unset, .unset, .unset, .unset, .unset, .unset, .unset, .unset]) rfl ?_
    show Steps p.tables e below (s₁.setTop (mkF m 6 #[.val (.int p1), .val (.int p2), .val (.long p3), .second, .val (.int p4), .val (.int (p1 &&& (2147483647 : Int32))), .unset, .unset, .unset, .unset, .unset, .unset, .unset, .unset, .unset, .unset] [])) _
    refine XS.iload X0.here hx rfl (hb hby at_6) rfl ?_
    show Steps p.tables e below (s₁.setTop (mkF m 8 #[.val (.int p1), .val (.int p2), .val (.long p3), .second, .val (.int p4), .val (.int (p1 &&& (2147483647 : Int32))), .unset, .unset, .unset, .unset, .unset, .unset, .unset, .unset, .unset, .unset] [(.int p4)])) _
    refine X0.ldcInt hx hown (mvT hZ (hw _ (List.mem_of_getElem? (i := 1) rfl))) (g := (mkF m 8 #[.val (.int p1), .val (.int p2), .val (.long p3), .second, .val (.int p4), .val (.int (p1 &&& (2147483647 : Int32))), .unset, .unset, .unset, .unset, .unset, .unset, .unset, .unset, .unset, .unset] [(.int p4)])) rfl (hb hby at_8) _ ?_
    show Steps p.tables e below (s₁.setTop (mkF m 10 #[.val (.int p1), .val (.int p2), .val (.long p3), .second, .val (.int p4), .val (.int (p1 &&& (2147483647 : Int32))), .unset, .unset, .unset, .unset, .unset, .unset, .unset, .unset, .unset, .unset] [(.int (65535 : Int32)), (.int p4)])) _
    refine XS.iand X0.here hx rfl (hb hby at_10) rfl ?_
    show Steps p.tables e below (s₁.setTop (mkF m 11 #[.val (.int p1), .val (.int p2), .val (.long p3), .second, .val (.int p4), .val (.int (p1 &&& (2147483647 : Int32))), .unset, .unset, .unset, .unset, .unset, .unset, .unset, .unset, .unset, .unset] [(.int (p4 &&& (65535 : Int32)))])) _
    refine XS.iconst X0.here hx rfl (hb hby at_11) ?_
    show Steps p.tables e below (s₁.setTop (mkF m 12 #[.val (.int p1), .val (.int p2), .val (.long p3), .second, .val (.int p4), .val (.int (p1 &&& (2147483647 : Int32))), .unset, .unset, .unset, .unset, .unset, .unset, .unset, .unset, .unset, .unset] [(.int (1 : Int32)), (.int (p4 &&& (65535 : Int32)))])) _
    refine XS.iadd X0.here hx rfl (hb hby at_12) rfl ?_
    show Steps p.tables e below (s₁.setTop (mkF m 13 #[.val (.int p1), .val (.int p2), .val (.long p3), .second, .val (.int p4), .val (.int (p1 &&& (2147483647 : Int32))), .unset, .unset, .unset, .unset, .unset, .unset, .unset, .unset, .unset, .unset] [(.int ((p4 &&& (65535 : Int32)) + (1 : Int32)))])) _
    refine XS.i2fS X0.here hx rfl (hb hby at_13) rfl rfl ?_
    show Steps p.tables e below (s₁.setTop (mkF m 14 #[.val (.int p1), .val (.int p2), .val (.long p3), .second, .val (.int p4), .val (.int (p1 &&& (2147483647 : Int32))), .unset, .unset, .unset, .unset, .unset, .unset, .unset, .unset, .unset, .unset] [(.float (FP.i2f ((p4 &&& (65535 : Int32)) + (1 : Int32))))])) _
    refine XS.fstore X0.here hx rfl (hb hby at_14) rfl (l' := #[.val (.int p1), .val (.int p2), .val (.long p3), .second, .val (.int p4), .val (.int (p1 &&& (2147483647 : Int32))), .val (.float (FP.i2f ((p4 &&& (65535 : Int32)) + (1 : Int32)))), .unset, .unset, .unset, .unset, .unset, .unset, .unset, .unset, .unset]) rfl ?_
    show Steps p.tables e below (s₁.setTop (mkF m 16 #[.val (.int p1), .val (.int p2), .val (.long p3), .second, .val (.int p4), .val (.int (p1 &&& (2147483647 : Int32))), .val (.float (FP.i2f ((p4 &&& (65535 : Int32)) + (1 : Int32)))), .unset, .unset, .unset, .unset, .unset, .unset, .unset, .unset, .unset] [])) _
    refine st1 _ ?_
    show Steps p.tables e below (T1.setTop (mkF m 19 #[.val (.int p1), .val (.int p2), .val (.long p3), .second, .val (.int p4), .val (.int (p1 &&& (2147483647 : Int32))), .val (.float (FP.i2f ((p4 &&& (65535 : Int32)) + (1 : Int32)))), .unset, .unset, .unset, .unset, .unset, .unset, .unset, .unset, .unset] [(.ref bc)])) _
    refine XS.dup X1.here hx rfl (hb hby at_19) rfl rfl ?_
    show Steps p.tables e below (T1.setTop (mkF m 20 #[.val (.int p1), .val (.int p2), .val (.long p3), .second, .val (.int p4), .val (.int (p1 &&& (2147483647 : Int32))), .val (.float (FP.i2f ((p4 &&& (65535 : Int32)) + (1 : Int32)))), .unset, .unset, .unset, .unset, .unset, .unset, .unset, .unset, .unset] [(.ref bc), (.ref bc)])) _
    refine XS.iload X1.here hx rfl (hb hby at_20) rfl ?_
    show Steps p.tables e below (T1.setTop (mkF m 22 #[.val (.int p1), .val (.int p2), .val (.long p3), .second, .val (.int p4), .val (.int (p1 &&& (2147483647 : Int32))), .val (.float (FP.i2f ((p4 &&& (65535 : Int32)) + (1 : Int32)))), .unset, .unset, .unset, .unset, .unset, .unset, .unset, .unset, .unset] [(.int (p1 &&& (2147483647 : Int32))), (.ref bc), (.ref bc)])) _
    refine XS.fload X1.here hx rfl (hb hby at_22) rfl ?_
    show Steps p.tables e below (T1.setTop (mkF m 24 #[.val (.int p1), .val (.int p2), .val (.long p3), .second, .val (.int p4), .val (.int (p1 &&& (2147483647 : Int32))), .val (.float (FP.i2f ((p4 &&& (65535 : Int32)) + (1 : Int32)))), .unset, .unset, .unset, .unset, .unset, .unset, .unset, .unset, .unset] [(.float (FP.i2f ((p4 &&& (65535 : Int32)) + (1 : Int32)))), (.int (p1 &&& (2147483647 : Int32))), (.ref bc), (.ref bc)])) _
    refine st5.trans ?_
    show Steps p.tables e below (T5.setTop (mkF m 27 #[.val (.int p1), .val (.int p2), .val (.long p3), .second, .val (.int p4), .val (.int (p1 &&& (2147483647 : Int32))), .val (.float (FP.i2f ((p4 &&& (65535 : Int32)) + (1 : Int32)))), .unset, .unset, .unset, .unset, .unset, .unset, .unset, .unset, .unset] [(.ref bc)])) _
    refine XS.astore X5.here hx rfl (hb hby at_27) rfl rfl (l' := #[.val (.int p1), .val (.int p2), .val (.long p3), .second, .val (.int p4), .val (.int (p1 &&& (2147483647 : Int32))), .val (.float (FP.i2f ((p4 &&& (65535 : Int32)) + (1 : Int32)))), .val (.ref bc), .unset, .unset, .unset, .unset, .unset, .unset, .unset, .unset]) rfl ?_
    show Steps p.tables e below (T5.setTop (mkF m 29 #[.val (.int p1), .val (.int p2), .val (.long p3), .second, .val (.int p4), .val (.int (p1 &&& (2147483647 : Int32))), .val (.float (FP.i2f ((p4 &&& (65535 : Int32)) + (1 : Int32)))), .val (.ref bc), .unset, .unset, .unset, .unset, .unset, .unset, .unset, .unset] [])) _
    refine XS.lloadN X5.here hx rfl (hb hby at_29) rfl ?_
    show Steps p.tables e below (T5.setTop (mkF m 30 #[.val (.int p1), .val (.int p2), .val (.long p3), .second, .val (.int p4), .val (.int (p1 &&& (2147483647 : Int32))), .val (.float (FP.i2f ((p4 &&& (65535 : Int32)) + (1 : Int32)))), .val (.ref bc), .unset, .unset, .unset, .unset, .unset, .unset, .unset, .unset] [(.long p3)])) _
    refine X5.ldc2Long hx hown (mvT hZ (hw _ (List.mem_of_getElem? (i := 35) rfl))) (g := (mkF m 30 #[.val (.int p1), .val (.int p2), .val (.long p3), .second, .val (.int p4), .val (.int (p1 &&& (2147483647 : Int32))), .val (.float (FP.i2f ((p4 &&& (65535 : Int32)) + (1 : Int32)))), .val (.ref bc), .unset, .unset, .unset, .unset, .unset, .unset, .unset, .unset] [(.long p3)])) rfl (hb hby at_30) _ ?_
    show Steps p.tables e below (T5.setTop (mkF m 33 #[.val (.int p1), .val (.int p2), .val (.long p3), .second, .val (.int p4), .val (.int (p1 &&& (2147483647 : Int32))), .val (.float (FP.i2f ((p4 &&& (65535 : Int32)) + (1 : Int32)))), .val (.ref bc), .unset, .unset, .unset, .unset, .unset, .unset, .unset, .unset] [(.long (9223372036854775807 : Int64)), (.long p3)])) _
    refine XS.land X5.here hx rfl (hb hby at_33) rfl ?_
    show Steps p.tables e below (T5.setTop (mkF m 34 #[.val (.int p1), .val (.int p2), .val (.long p3), .second, .val (.int p4), .val (.int (p1 &&& (2147483647 : Int32))), .val (.float (FP.i2f ((p4 &&& (65535 : Int32)) + (1 : Int32)))), .val (.ref bc), .unset, .unset, .unset, .unset, .unset, .unset, .unset, .unset] [(.long (p3 &&& (9223372036854775807 : Int64)))])) _
    refine XS.lstore X5.here hx rfl (hb hby at_34) rfl (l' := #[.val (.int p1), .val (.int p2), .val (.long p3), .second, .val (.int p4), .val (.int (p1 &&& (2147483647 : Int32))), .val (.float (FP.i2f ((p4 &&& (65535 : Int32)) + (1 : Int32)))), .val (.ref bc), .val (.long (p3 &&& (9223372036854775807 : Int64))), .second, .unset, .unset, .unset, .unset, .unset, .unset]) rfl ?_
    show Steps p.tables e below (T5.setTop (mkF m 36 #[.val (.int p1), .val (.int p2), .val (.long p3), .second, .val (.int p4), .val (.int (p1 &&& (2147483647 : Int32))), .val (.float (FP.i2f ((p4 &&& (65535 : Int32)) + (1 : Int32)))), .val (.ref bc), .val (.long (p3 &&& (9223372036854775807 : Int64))), .second, .unset, .unset, .unset, .unset, .unset, .unset] [])) _
    refine XS.iload X5.here hx rfl (hb hby at_36) rfl ?_
    show Steps p.tables e below (T5.setTop (mkF m 38 #[.val (.int p1), .val (.int p2), .val (.long p3), .second, .val (.int p4), .val (.int (p1 &&& (2147483647 : Int32))), .val (.float (FP.i2f ((p4 &&& (65535 : Int32)) + (1 : Int32)))), .val (.ref bc), .val (.long (p3 &&& (9223372036854775807 : Int64))), .second, .unset, .unset, .unset, .unset, .unset, .unset] [(.int (p1 &&& (2147483647 : Int32)))])) _
    refine XS.ifYes X5.here hx rfl (pc0 := 38) (pc' := 57) rfl (hb hby at_38) rfl ((if0 _ _).trans (feq (hc38 : ¬ ((p1 &&& (2147483647 : Int32)) = (0 : Int32)))).2) (by decide) (by decide) ?_
    show Steps p.tables e below (T5.setTop (mkF m 57 #[.val (.int p1), .val (.int p2), .val (.long p3), .second, .val (.int p4), .val (.int (p1 &&& (2147483647 : Int32))), .val (.float (FP.i2f ((p4 &&& (65535 : Int32)) + (1 : Int32)))), .val (.ref bc), .val (.long (p3 &&& (9223372036854775807 : Int64))), .second, .unset, .unset, .unset, .unset, .unset, .unset] [])) _
    refine XS.iloadN X5.here hx rfl (hb hby at_57) rfl ?_
    show Steps p.tables e below (T5.setTop (mkF m 58 #[.val (.int p1), .val (.int p2), .val (.long p3), .second, .val (.int p4), .val (.int (p1 &&& (2147483647 : Int32))), .val (.float (FP.i2f ((p4 &&& (65535 : Int32)) + (1 : Int32)))), .val (.ref bc), .val (.long (p3 &&& (9223372036854775807 : Int64))), .second, .unset, .unset, .unset, .unset, .unset, .unset] [(.int p2)])) _
    refine X5.ldcInt hx hown (mvT hZ (hw _ (List.mem_of_getElem? (i := 0) rfl))) (g := (mkF m 58 #[.val (.int p1), .val (.int p2), .val (.long p3), .second, .val (.int p4), .val (.int (p1 &&& (2147483647 : Int32))), .val (.float (FP.i2f ((p4 &&& (65535 : Int32)) + (1 : Int32)))), .val (.ref bc), .val (.long (p3 &&& (9223372036854775807 : Int64))), .second, .unset, .unset, .unset, .unset, .unset, .unset] [(.int p2)])) rfl (hb hby at_58) _ ?_
    show Steps p.tables e below (T5.setTop (mkF m 60 #[.val (.int p1), .val (.int p2), .val (.long p3), .second, .val (.int p4), .val (.int (p1 &&& (2147483647 : Int32))), .val (.float (FP.i2f ((p4 &&& (65535 : Int32)) + (1 : Int32)))), .val (.ref bc), .val (.long (p3 &&& (9223372036854775807 : Int64))), .second, .unset, .unset, .unset, .unset, .unset, .unset] [(.int (2147483647 : Int32)), (.int p2)])) _
    refine XS.iand X5.here hx rfl (hb hby at_60) rfl ?_
    show Steps p.tables e below (T5.setTop (mkF m 61 #[.val (.int p1), .val (.int p2), .val (.long p3), .second, .val (.int p4), .val (.int (p1 &&& (2147483647 : Int32))), .val (.float (FP.i2f ((p4 &&& (65535 : Int32)) + (1 : Int32)))), .val (.ref bc), .val (.long (p3 &&& (9223372036854775807 : Int64))), .second, .unset, .unset, .unset, .unset, .unset, .unset] [(.int (p2 &&& (2147483647 : Int32)))])) _
    refine XS.iload X5.here hx rfl (hb hby at_61) rfl ?_
    show Steps p.tables e below (T5.setTop (mkF m 63 #[.val (.int p1), .val (.int p2), .val (.long p3), .second, .val (.int p4), .val (.int (p1 &&& (2147483647 : Int32))), .val (.float (FP.i2f ((p4 &&& (65535 : Int32)) + (1 : Int32)))), .val (.ref bc), .val (.long (p3 &&& (9223372036854775807 : Int64))), .second, .unset, .unset, .unset, .unset, .unset, .unset] [(.int (p1 &&& (2147483647 : Int32))), (.int (p2 &&& (2147483647 : Int32)))])) _
    refine iremM X5 hx (g := (mkF m 63 #[.val (.int p1), .val (.int p2), .val (.long p3), .second, .val (.int p4), .val (.int (p1 &&& (2147483647 : Int32))), .val (.float (FP.i2f ((p4 &&& (65535 : Int32)) + (1 : Int32)))), .val (.ref bc), .val (.long (p3 &&& (9223372036854775807 : Int64))), .second, .unset, .unset, .unset, .unset, .unset, .unset] [(.int (p1 &&& (2147483647 : Int32))), (.int (p2 &&& (2147483647 : Int32)))])) rfl (hb hby at_63) rfl hc38 ?_
    show Steps p.tables e below (T5.setTop (mkF m 64 #[.val (.int p1), .val (.int p2), .val (.long p3), .second, .val (.int p4), .val (.int (p1 &&& (2147483647 : Int32))), .val (.float (FP.i2f ((p4 &&& (65535 : Int32)) + (1 : Int32)))), .val (.ref bc), .val (.long (p3 &&& (9223372036854775807 : Int64))), .second, .unset, .unset, .unset, .unset, .unset, .unset] [(.int ((p2 &&& (2147483647 : Int32)) % (p1 &&& (2147483647 : Int32))))])) _
    refine XS.i2l X5.here hx rfl (hb hby at_64) rfl ?_
    show Steps p.tables e below (T5.setTop (mkF m 65 #[.val (.int p1), .val (.int p2), .val (.long p3), .second, .val (.int p4), .val (.int (p1 &&& (2147483647 : Int32))), .val (.float (FP.i2f ((p4 &&& (65535 : Int32)) + (1 : Int32)))), .val (.ref bc), .val (.long (p3 &&& (9223372036854775807 : Int64))), .second, .unset, .unset, .unset, .unset, .unset, .unset] [(.long (((p2 &&& (2147483647 : Int32)) % (p1 &&& (2147483647 : Int32)))).toInt64)])) _
    refine XS.lstore X5.here hx rfl (hb hby at_65) rfl (l' := #[.val (.int p1), .val (.int p2), .val (.long p3), .second, .val (.int p4), .val (.int (p1 &&& (2147483647 : Int32))), .val (.float (FP.i2f ((p4 &&& (65535 : Int32)) + (1 : Int32)))), .val (.ref bc), .val (.long (p3 &&& (9223372036854775807 : Int64))), .second, .val (.long (((p2 &&& (2147483647 : Int32)) % (p1 &&& (2147483647 : Int32)))).toInt64), .second, .unset, .unset, .unset, .unset]) rfl ?_
    show Steps p.tables e below (T5.setTop (mkF m 67 #[.val (.int p1), .val (.int p2), .val (.long p3), .second, .val (.int p4), .val (.int (p1 &&& (2147483647 : Int32))), .val (.float (FP.i2f ((p4 &&& (65535 : Int32)) + (1 : Int32)))), .val (.ref bc), .val (.long (p3 &&& (9223372036854775807 : Int64))), .second, .val (.long (((p2 &&& (2147483647 : Int32)) % (p1 &&& (2147483647 : Int32)))).toInt64), .second, .unset, .unset, .unset, .unset] [])) _
    refine XS.lload X5.here hx rfl (hb hby at_67) rfl ?_
    show Steps p.tables e below (T5.setTop (mkF m 69 #[.val (.int p1), .val (.int p2), .val (.long p3), .second, .val (.int p4), .val (.int (p1 &&& (2147483647 : Int32))), .val (.float (FP.i2f ((p4 &&& (65535 : Int32)) + (1 : Int32)))), .val (.ref bc), .val (.long (p3 &&& (9223372036854775807 : Int64))), .second, .val (.long (((p2 &&& (2147483647 : Int32)) % (p1 &&& (2147483647 : Int32)))).toInt64), .second, .unset, .unset, .unset, .unset] [(.long (p3 &&& (9223372036854775807 : Int64)))])) _
    refine XS.lload X5.here hx rfl (hb hby at_69) rfl ?_
    show Steps p.tables e below (T5.setTop (mkF m 71 #[.val (.int p1), .val (.int p2), .val (.long p3), .second, .val (.int p4), .val (.int (p1 &&& (2147483647 : Int32))), .val (.float (FP.i2f ((p4 &&& (65535 : Int32)) + (1 : Int32)))), .val (.ref bc), .val (.long (p3 &&& (9223372036854775807 : Int64))), .second, .val (.long (((p2 &&& (2147483647 : Int32)) % (p1 &&& (2147483647 : Int32)))).toInt64), .second, .unset, .unset, .unset, .unset] [(.long (((p2 &&& (2147483647 : Int32)) % (p1 &&& (2147483647 : Int32)))).toInt64), (.long (p3 &&& (9223372036854775807 : Int64)))])) _
    refine XS.lcmp X5.here hx rfl (hb hby at_71) rfl ?_
    show Steps p.tables e below (T5.setTop (mkF m 72 #[.val (.int p1), .val (.int p2), .val (.long p3), .second, .val (.int p4), .val (.int (p1 &&& (2147483647 : Int32))), .val (.float (FP.i2f ((p4 &&& (65535 : Int32)) + (1 : Int32)))), .val (.ref bc), .val (.long (p3 &&& (9223372036854775807 : Int64))), .second, .val (.long (((p2 &&& (2147483647 : Int32)) % (p1 &&& (2147483647 : Int32)))).toInt64), .second, .unset, .unset, .unset, .unset] [(.int (lcmpW (p3 &&& (9223372036854775807 : Int64)) (((p2 &&& (2147483647 : Int32)) % (p1 &&& (2147483647 : Int32)))).toInt64))])) _
    refine mg7 _ ?_
    show Steps p.tables e below (T5.setTop (mkF m 90 #[.val (.int p1), .val (.int p2), .val (.long p3), .second, .val (.int p4), .val (.int (p1 &&& (2147483647 : Int32))), .val (.float (FP.i2f ((p4 &&& (65535 : Int32)) + (1 : Int32)))), .val (.ref bc), .val (.long (p3 &&& (9223372036854775807 : Int64))), .second, .val (.long (((p2 &&& (2147483647 : Int32)) % (p1 &&& (2147483647 : Int32)))).toInt64), .second, .val (.long (own_k (p3 &&& (9223372036854775807 : Int64)) (((p2 &&& (2147483647 : Int32)) % (p1 &&& (2147483647 : Int32)))).toInt64 ((p1 &&& (2147483647 : Int32))).toInt64)), .second, .unset, .unset] [])) _
    refine XS.lload X5.here hx rfl (hb hby at_90) rfl ?_
    show Steps p.tables e below (T5.setTop (mkF m 92 #[.val (.int p1), .val (.int p2), .val (.long p3), .second, .val (.int p4), .val (.int (p1 &&& (2147483647 : Int32))), .val (.float (FP.i2f ((p4 &&& (65535 : Int32)) + (1 : Int32)))), .val (.ref bc), .val (.long (p3 &&& (9223372036854775807 : Int64))), .second, .val (.long (((p2 &&& (2147483647 : Int32)) % (p1 &&& (2147483647 : Int32)))).toInt64), .second, .val (.long (own_k (p3 &&& (9223372036854775807 : Int64)) (((p2 &&& (2147483647 : Int32)) % (p1 &&& (2147483647 : Int32)))).toInt64 ((p1 &&& (2147483647 : Int32))).toInt64)), .second, .unset, .unset] [(.long (own_k (p3 &&& (9223372036854775807 : Int64)) (((p2 &&& (2147483647 : Int32)) % (p1 &&& (2147483647 : Int32)))).toInt64 ((p1 &&& (2147483647 : Int32))).toInt64))])) _
    refine XS.iload X5.here hx rfl (hb hby at_92) rfl ?_
    show Steps p.tables e below (T5.setTop (mkF m 94 #[.val (.int p1), .val (.int p2), .val (.long p3), .second, .val (.int p4), .val (.int (p1 &&& (2147483647 : Int32))), .val (.float (FP.i2f ((p4 &&& (65535 : Int32)) + (1 : Int32)))), .val (.ref bc), .val (.long (p3 &&& (9223372036854775807 : Int64))), .second, .val (.long (((p2 &&& (2147483647 : Int32)) % (p1 &&& (2147483647 : Int32)))).toInt64), .second, .val (.long (own_k (p3 &&& (9223372036854775807 : Int64)) (((p2 &&& (2147483647 : Int32)) % (p1 &&& (2147483647 : Int32)))).toInt64 ((p1 &&& (2147483647 : Int32))).toInt64)), .second, .unset, .unset] [(.int (p1 &&& (2147483647 : Int32))), (.long (own_k (p3 &&& (9223372036854775807 : Int64)) (((p2 &&& (2147483647 : Int32)) % (p1 &&& (2147483647 : Int32)))).toInt64 ((p1 &&& (2147483647 : Int32))).toInt64))])) _
    refine XS.i2l X5.here hx rfl (hb hby at_94) rfl ?_
    show Steps p.tables e below (T5.setTop (mkF m 95 #[.val (.int p1), .val (.int p2), .val (.long p3), .second, .val (.int p4), .val (.int (p1 &&& (2147483647 : Int32))), .val (.float (FP.i2f ((p4 &&& (65535 : Int32)) + (1 : Int32)))), .val (.ref bc), .val (.long (p3 &&& (9223372036854775807 : Int64))), .second, .val (.long (((p2 &&& (2147483647 : Int32)) % (p1 &&& (2147483647 : Int32)))).toInt64), .second, .val (.long (own_k (p3 &&& (9223372036854775807 : Int64)) (((p2 &&& (2147483647 : Int32)) % (p1 &&& (2147483647 : Int32)))).toInt64 ((p1 &&& (2147483647 : Int32))).toInt64)), .second, .unset, .unset] [(.long ((p1 &&& (2147483647 : Int32))).toInt64), (.long (own_k (p3 &&& (9223372036854775807 : Int64)) (((p2 &&& (2147483647 : Int32)) % (p1 &&& (2147483647 : Int32)))).toInt64 ((p1 &&& (2147483647 : Int32))).toInt64))])) _
    refine XS.lmul X5.here hx rfl (hb hby at_95) rfl ?_
    show Steps p.tables e below (T5.setTop (mkF m 96 #[.val (.int p1), .val (.int p2), .val (.long p3), .second, .val (.int p4), .val (.int (p1 &&& (2147483647 : Int32))), .val (.float (FP.i2f ((p4 &&& (65535 : Int32)) + (1 : Int32)))), .val (.ref bc), .val (.long (p3 &&& (9223372036854775807 : Int64))), .second, .val (.long (((p2 &&& (2147483647 : Int32)) % (p1 &&& (2147483647 : Int32)))).toInt64), .second, .val (.long (own_k (p3 &&& (9223372036854775807 : Int64)) (((p2 &&& (2147483647 : Int32)) % (p1 &&& (2147483647 : Int32)))).toInt64 ((p1 &&& (2147483647 : Int32))).toInt64)), .second, .unset, .unset] [(.long ((own_k (p3 &&& (9223372036854775807 : Int64)) (((p2 &&& (2147483647 : Int32)) % (p1 &&& (2147483647 : Int32)))).toInt64 ((p1 &&& (2147483647 : Int32))).toInt64) * ((p1 &&& (2147483647 : Int32))).toInt64))])) _
    refine XS.lload X5.here hx rfl (hb hby at_96) rfl ?_
    show Steps p.tables e below (T5.setTop (mkF m 98 #[.val (.int p1), .val (.int p2), .val (.long p3), .second, .val (.int p4), .val (.int (p1 &&& (2147483647 : Int32))), .val (.float (FP.i2f ((p4 &&& (65535 : Int32)) + (1 : Int32)))), .val (.ref bc), .val (.long (p3 &&& (9223372036854775807 : Int64))), .second, .val (.long (((p2 &&& (2147483647 : Int32)) % (p1 &&& (2147483647 : Int32)))).toInt64), .second, .val (.long (own_k (p3 &&& (9223372036854775807 : Int64)) (((p2 &&& (2147483647 : Int32)) % (p1 &&& (2147483647 : Int32)))).toInt64 ((p1 &&& (2147483647 : Int32))).toInt64)), .second, .unset, .unset] [(.long (((p2 &&& (2147483647 : Int32)) % (p1 &&& (2147483647 : Int32)))).toInt64), (.long ((own_k (p3 &&& (9223372036854775807 : Int64)) (((p2 &&& (2147483647 : Int32)) % (p1 &&& (2147483647 : Int32)))).toInt64 ((p1 &&& (2147483647 : Int32))).toInt64) * ((p1 &&& (2147483647 : Int32))).toInt64))])) _
    refine XS.ladd X5.here hx rfl (hb hby at_98) rfl ?_
    show Steps p.tables e below (T5.setTop (mkF m 99 #[.val (.int p1), .val (.int p2), .val (.long p3), .second, .val (.int p4), .val (.int (p1 &&& (2147483647 : Int32))), .val (.float (FP.i2f ((p4 &&& (65535 : Int32)) + (1 : Int32)))), .val (.ref bc), .val (.long (p3 &&& (9223372036854775807 : Int64))), .second, .val (.long (((p2 &&& (2147483647 : Int32)) % (p1 &&& (2147483647 : Int32)))).toInt64), .second, .val (.long (own_k (p3 &&& (9223372036854775807 : Int64)) (((p2 &&& (2147483647 : Int32)) % (p1 &&& (2147483647 : Int32)))).toInt64 ((p1 &&& (2147483647 : Int32))).toInt64)), .second, .unset, .unset] [(.long (((own_k (p3 &&& (9223372036854775807 : Int64)) (((p2 &&& (2147483647 : Int32)) % (p1 &&& (2147483647 : Int32)))).toInt64 ((p1 &&& (2147483647 : Int32))).toInt64) * ((p1 &&& (2147483647 : Int32))).toInt64) + (((p2 &&& (2147483647 : Int32)) % (p1 &&& (2147483647 : Int32)))).toInt64))])) _
    refine XS.lstore X5.here hx rfl (hb hby at_99) rfl (l' := #[.val (.int p1), .val (.int p2), .val (.long p3), .second, .val (.int p4), .val (.int (p1 &&& (2147483647 : Int32))), .val (.float (FP.i2f ((p4 &&& (65535 : Int32)) + (1 : Int32)))), .val (.ref bc), .val (.long (p3 &&& (9223372036854775807 : Int64))), .second, .val (.long (((p2 &&& (2147483647 : Int32)) % (p1 &&& (2147483647 : Int32)))).toInt64), .second, .val (.long (own_k (p3 &&& (9223372036854775807 : Int64)) (((p2 &&& (2147483647 : Int32)) % (p1 &&& (2147483647 : Int32)))).toInt64 ((p1 &&& (2147483647 : Int32))).toInt64)), .second, .val (.long (((own_k (p3 &&& (9223372036854775807 : Int64)) (((p2 &&& (2147483647 : Int32)) % (p1 &&& (2147483647 : Int32)))).toInt64 ((p1 &&& (2147483647 : Int32))).toInt64) * ((p1 &&& (2147483647 : Int32))).toInt64) + (((p2 &&& (2147483647 : Int32)) % (p1 &&& (2147483647 : Int32)))).toInt64)), .second]) rfl ?_
    show Steps p.tables e below (T5.setTop (mkF m 101 #[.val (.int p1), .val (.int p2), .val (.long p3), .second, .val (.int p4), .val (.int (p1 &&& (2147483647 : Int32))), .val (.float (FP.i2f ((p4 &&& (65535 : Int32)) + (1 : Int32)))), .val (.ref bc), .val (.long (p3 &&& (9223372036854775807 : Int64))), .second, .val (.long (((p2 &&& (2147483647 : Int32)) % (p1 &&& (2147483647 : Int32)))).toInt64), .second, .val (.long (own_k (p3 &&& (9223372036854775807 : Int64)) (((p2 &&& (2147483647 : Int32)) % (p1 &&& (2147483647 : Int32)))).toInt64 ((p1 &&& (2147483647 : Int32))).toInt64)), .second, .val (.long (((own_k (p3 &&& (9223372036854775807 : Int64)) (((p2 &&& (2147483647 : Int32)) % (p1 &&& (2147483647 : Int32)))).toInt64 ((p1 &&& (2147483647 : Int32))).toInt64) * ((p1 &&& (2147483647 : Int32))).toInt64) + (((p2 &&& (2147483647 : Int32)) % (p1 &&& (2147483647 : Int32)))).toInt64)), .second] [])) _
    refine XS.lload X5.here hx rfl (hb hby at_101) rfl ?_
    show Steps p.tables e below (T5.setTop (mkF m 103 #[.val (.int p1), .val (.int p2), .val (.long p3), .second, .val (.int p4), .val (.int (p1 &&& (2147483647 : Int32))), .val (.float (FP.i2f ((p4 &&& (65535 : Int32)) + (1 : Int32)))), .val (.ref bc), .val (.long (p3 &&& (9223372036854775807 : Int64))), .second, .val (.long (((p2 &&& (2147483647 : Int32)) % (p1 &&& (2147483647 : Int32)))).toInt64), .second, .val (.long (own_k (p3 &&& (9223372036854775807 : Int64)) (((p2 &&& (2147483647 : Int32)) % (p1 &&& (2147483647 : Int32)))).toInt64 ((p1 &&& (2147483647 : Int32))).toInt64)), .second, .val (.long (((own_k (p3 &&& (9223372036854775807 : Int64)) (((p2 &&& (2147483647 : Int32)) % (p1 &&& (2147483647 : Int32)))).toInt64 ((p1 &&& (2147483647 : Int32))).toInt64) * ((p1 &&& (2147483647 : Int32))).toInt64) + (((p2 &&& (2147483647 : Int32)) % (p1 &&& (2147483647 : Int32)))).toInt64)), .second] [(.long (((own_k (p3 &&& (9223372036854775807 : Int64)) (((p2 &&& (2147483647 : Int32)) % (p1 &&& (2147483647 : Int32)))).toInt64 ((p1 &&& (2147483647 : Int32))).toInt64) * ((p1 &&& (2147483647 : Int32))).toInt64) + (((p2 &&& (2147483647 : Int32)) % (p1 &&& (2147483647 : Int32)))).toInt64))])) _
    refine XS.lconst X5.here hx rfl (hb hby at_103) ?_
    show Steps p.tables e below (T5.setTop (mkF m 104 #[.val (.int p1), .val (.int p2), .val (.long p3), .second, .val (.int p4), .val (.int (p1 &&& (2147483647 : Int32))), .val (.float (FP.i2f ((p4 &&& (65535 : Int32)) + (1 : Int32)))), .val (.ref bc), .val (.long (p3 &&& (9223372036854775807 : Int64))), .second, .val (.long (((p2 &&& (2147483647 : Int32)) % (p1 &&& (2147483647 : Int32)))).toInt64), .second, .val (.long (own_k (p3 &&& (9223372036854775807 : Int64)) (((p2 &&& (2147483647 : Int32)) % (p1 &&& (2147483647 : Int32)))).toInt64 ((p1 &&& (2147483647 : Int32))).toInt64)), .second, .val (.long (((own_k (p3 &&& (9223372036854775807 : Int64)) (((p2 &&& (2147483647 : Int32)) % (p1 &&& (2147483647 : Int32)))).toInt64 ((p1 &&& (2147483647 : Int32))).toInt64) * ((p1 &&& (2147483647 : Int32))).toInt64) + (((p2 &&& (2147483647 : Int32)) % (p1 &&& (2147483647 : Int32)))).toInt64)), .second] [(.long (0 : Int64)), (.long (((own_k (p3 &&& (9223372036854775807 : Int64)) (((p2 &&& (2147483647 : Int32)) % (p1 &&& (2147483647 : Int32)))).toInt64 ((p1 &&& (2147483647 : Int32))).toInt64) * ((p1 &&& (2147483647 : Int32))).toInt64) + (((p2 &&& (2147483647 : Int32)) % (p1 &&& (2147483647 : Int32)))).toInt64))])) _
    refine XS.lcmp X5.here hx rfl (hb hby at_104) rfl ?_
    show Steps p.tables e below (T5.setTop (mkF m 105 #[.val (.int p1), .val (.int p2), .val (.long p3), .second, .val (.int p4), .val (.int (p1 &&& (2147483647 : Int32))), .val (.float (FP.i2f ((p4 &&& (65535 : Int32)) + (1 : Int32)))), .val (.ref bc), .val (.long (p3 &&& (9223372036854775807 : Int64))), .second, .val (.long (((p2 &&& (2147483647 : Int32)) % (p1 &&& (2147483647 : Int32)))).toInt64), .second, .val (.long (own_k (p3 &&& (9223372036854775807 : Int64)) (((p2 &&& (2147483647 : Int32)) % (p1 &&& (2147483647 : Int32)))).toInt64 ((p1 &&& (2147483647 : Int32))).toInt64)), .second, .val (.long (((own_k (p3 &&& (9223372036854775807 : Int64)) (((p2 &&& (2147483647 : Int32)) % (p1 &&& (2147483647 : Int32)))).toInt64 ((p1 &&& (2147483647 : Int32))).toInt64) * ((p1 &&& (2147483647 : Int32))).toInt64) + (((p2 &&& (2147483647 : Int32)) % (p1 &&& (2147483647 : Int32)))).toInt64)), .second] [(.int (lcmpW (((own_k (p3 &&& (9223372036854775807 : Int64)) (((p2 &&& (2147483647 : Int32)) % (p1 &&& (2147483647 : Int32)))).toInt64 ((p1 &&& (2147483647 : Int32))).toInt64) * ((p1 &&& (2147483647 : Int32))).toInt64) + (((p2 &&& (2147483647 : Int32)) % (p1 &&& (2147483647 : Int32)))).toInt64) (0 : Int64)))])) _
    refine XS.ifNo X5.here hx rfl (hb hby at_105) rfl ((if0 _ _).trans (teq (hc105 : (lcmpW (((own_k (p3 &&& (9223372036854775807 : Int64)) (((p2 &&& (2147483647 : Int32)) % (p1 &&& (2147483647 : Int32)))).toInt64 ((p1 &&& (2147483647 : Int32))).toInt64) * ((p1 &&& (2147483647 : Int32))).toInt64) + (((p2 &&& (2147483647 : Int32)) % (p1 &&& (2147483647 : Int32)))).toInt64) (0 : Int64)) = (0 : Int32))).2) ?_
    show Steps p.tables e below (T5.setTop (mkF m 108 #[.val (.int p1), .val (.int p2), .val (.long p3), .second, .val (.int p4), .val (.int (p1 &&& (2147483647 : Int32))), .val (.float (FP.i2f ((p4 &&& (65535 : Int32)) + (1 : Int32)))), .val (.ref bc), .val (.long (p3 &&& (9223372036854775807 : Int64))), .second, .val (.long (((p2 &&& (2147483647 : Int32)) % (p1 &&& (2147483647 : Int32)))).toInt64), .second, .val (.long (own_k (p3 &&& (9223372036854775807 : Int64)) (((p2 &&& (2147483647 : Int32)) % (p1 &&& (2147483647 : Int32)))).toInt64 ((p1 &&& (2147483647 : Int32))).toInt64)), .second, .val (.long (((own_k (p3 &&& (9223372036854775807 : Int64)) (((p2 &&& (2147483647 : Int32)) % (p1 &&& (2147483647 : Int32)))).toInt64 ((p1 &&& (2147483647 : Int32))).toInt64) * ((p1 &&& (2147483647 : Int32))).toInt64) + (((p2 &&& (2147483647 : Int32)) % (p1 &&& (2147483647 : Int32)))).toInt64)), .second] [])) _
    refine XS.iconst X5.here hx rfl (hb hby at_108) ?_
    show Steps p.tables e below (T5.setTop (mkF m 109 #[.val (.int p1), .val (.int p2), .val (.long p3), .second, .val (.int p4), .val (.int (p1 &&& (2147483647 : Int32))), .val (.float (FP.i2f ((p4 &&& (65535 : Int32)) + (1 : Int32)))), .val (.ref bc), .val (.long (p3 &&& (9223372036854775807 : Int64))), .second, .val (.long (((p2 &&& (2147483647 : Int32)) % (p1 &&& (2147483647 : Int32)))).toInt64), .second, .val (.long (own_k (p3 &&& (9223372036854775807 : Int64)) (((p2 &&& (2147483647 : Int32)) % (p1 &&& (2147483647 : Int32)))).toInt64 ((p1 &&& (2147483647 : Int32))).toInt64)), .second, .val (.long (((own_k (p3 &&& (9223372036854775807 : Int64)) (((p2 &&& (2147483647 : Int32)) % (p1 &&& (2147483647 : Int32)))).toInt64 ((p1 &&& (2147483647 : Int32))).toInt64) * ((p1 &&& (2147483647 : Int32))).toInt64) + (((p2 &&& (2147483647 : Int32)) % (p1 &&& (2147483647 : Int32)))).toInt64)), .second] [(.int (1 : Int32))])) _
    exact retOut X5 hx (t := .boolean) (i := .ireturn) Bd.returns rfl (Or.inl ⟨rfl, Or.inr (Or.inl rfl), _, rfl⟩) (hb hby at_109) hr
  · show Q_lawB Z p1 p2 p3 p4 h0 n0 _ T5.heap _
    skip
    exact ⟨rfl, N5⟩
theorem ef_lawC (m : MethodId) (x0 : Int32) (x1 : Int32) (x2 : Int64) (x3 : Int32) : entryFrame m #[(.int x0), (.int x1), (.long x2), (.int x3)] maxLocals = mkF m 0 #[.val (.int x0), .val (.int x1), .val (.long x2), .second, .val (.int x3), .unset, .unset, .unset, .unset, .unset, .unset, .unset, .unset, .unset, .unset, .unset] [] := by first | (simp [entryFrame, mkF, argsToLocals, Value.category, maxLocals]; done) | rfl
def Q_lawC (Z : State) (p1 : Int32) (p2 : Int32) (p3 : Int64) (p4 : Int32) (h0 : Heap) (n0 : Nat) (v : Option Value) (h : Heap) (L : List Loc) : Prop := v = some (.int (1 : Int32)) ∧ Fr n0 L
set_option maxRecDepth 65536 in
set_option maxHeartbeats 40000000 in
theorem rm_lawC (l : Launch) (Z : State) (a0 : Array Value) (hw : ∀ d ∈ tables_1, d.before a0 Z = true) (ws : List Jvm.Cond) (p1 : Int32) (p2 : Int32) (p3 : Int64) (p4 : Int32) (h0 : Heap) (n0 : Nat) (Z0 : n0 ≤ h0.size) (hc38 : ¬ ((p1 &&& (2147483647 : Int32)) = (0 : Int32))) (hc105 : ¬ ((lcmpW (((own_k (p3 &&& (9223372036854775807 : Int64)) (((p2 &&& (2147483647 : Int32)) % (p1 &&& (2147483647 : Int32)))).toInt64 ((p1 &&& (2147483647 : Int32))).toInt64) * ((p1 &&& (2147483647 : Int32))).toInt64) + (((p2 &&& (2147483647 : Int32)) % (p1 &&& (2147483647 : Int32)))).toInt64) (0 : Int64)) = (0 : Int32))) (hc121 : (lcmpW (((p2 &&& (2147483647 : Int32)) % (p1 &&& (2147483647 : Int32)))).toInt64 (0 : Int64)) = (0 : Int32)) :
    MetFree l x (head1 (Jvm.Cond.code x code maxLocals ret :: ws) room_1) (fun a U => a = #[(.int p1), (.int p2), (.long p3), (.int p4)] ∧ Z.Warmed39 U.vm ∧ U.heap = h0) (fun _ _ _ _ _ => True) (fun _ U o U' => ∃ v L, o = .returned v ∧ Q_lawC Z p1 p2 p3 p4 h0 n0 v U'.heap L ∧ FrameEnd U o U' L room_1.cells room_1.slots) := by
  refine MetFree.of_bodySF (plainFor_of_name pn_com_example_sievegrad_sievegrad_core_ResidualClippingClipsAfterPinLaw) hisR ?_
  intro p e s m args below meth c s₁ Bd hml0 hP hK
  obtain ⟨rfl, hZ, hh⟩ := hP
  have hx := Bd.exec
  have hby := Bd.bytes
  have hml : c.maxLocals = 16 := hml0
  have hown : s.vm.findClass "com/example/sievegrad/sievegrad/core/ResidualClippingClipsAfterPinLaw" = some m.cls := findClass_of_methodNamed Bd.named
  have hnm := (name_of_methodNamed Bd.named Bd.method).1
  have X0 : Stand p l e room_1 s m #[(.int p1), (.int p2), (.long p3), (.int p4)] below meth c s₁ [] 0 0 := Stand.of_body Bd
  have e0 : s₁.heap = h0 := by rw [← hh, Bd.state]; rfl
  have N0 := Fr.nil n0
  have P0 : Keep h0 h0 [] := Keep.refl _ _
  have pre0 : ∀ t, Steps p.tables e below (s₁.setTop (mkF m 0 #[.val (.int p1), .val (.int p2), .val (.long p3), .second, .val (.int p4), .unset, .unset, .unset, .unset, .unset, .unset, .unset, .unset, .unset, .unset, .unset] [])) t → Steps p.tables e below (s₁.setTop (entryFrame m #[(.int p1), (.int p2), (.long p3), (.int p4)] maxLocals)) t := fun t k => castTop (ef_lawC m p1 p2 p3 p4) k
  obtain ⟨T1, h1, X1, e1, E1, A1, D1, -, st1⟩ := newO X0 hx hZ hown (hw _ (List.mem_of_getElem? (i := 2) rfl)) (hw _ (List.mem_of_getElem? (i := 3) rfl)) (hw _ (List.mem_of_getElem? (i := 4) rfl)) e0 (g := (mkF m 16 #[.val (.int p1), .val (.int p2), .val (.long p3), .second, .val (.int p4), .val (.int (p1 &&& (2147483647 : Int32))), .val (.float (FP.i2f ((p4 &&& (65535 : Int32)) + (1 : Int32)))), .unset, .unset, .unset, .unset, .unset, .unset, .unset, .unset, .unset] [])) rfl (hb hby at_16) (by decide) (by decide)
  obtain ⟨bc, g1⟩ : ∃ z, z = h0.size := ⟨_, rfl⟩
  rw [← g1] at A1 D1 st1
  have ge_bc : n0 ≤ bc := Nat.le_trans (Nat.le_trans Z0 P0.1) (Nat.le_of_eq g1.symm)
  have sz_bc : h0.size ≤ bc := Nat.le_trans P0.1 (Nat.le_of_eq g1.symm)
  have P2 : Keep h0 h1 [] := P0.ext E1
  have F3 : Fld Z h1 bc "com/example/sievegrad/sievegrad/core/ResidualClipping" "every" "I" (.int (0 : Int32)) := D1 (Or.inr (hw _ (List.mem_of_getElem? (i := 32) rfl))) (ty := .int) (by decide)
  have F4 : Fld Z h1 bc "com/example/sievegrad/sievegrad/core/ResidualClipping" "multiple" "F" (.float (0 : UInt32)) := D1 (Or.inr (hw _ (List.mem_of_getElem? (i := 34) rfl))) (ty := .float) (by decide)
  obtain ⟨_, _, ⟨T5, L5, k5, n5⟩, -, X5, ⟨Lc5, hQ5, l5, y5, z5⟩, st5⟩ := X1.specialBack hx (y := (⟨"com/example/sievegrad/sievegrad/core/ResidualClipping", "<init>", "(IF)V"⟩ : MethodName)) rfl hown (mvT hZ (hw _ (List.mem_of_getElem? (i := 5) rfl))) (mvT hZ (hw _ (List.mem_of_getElem? (i := 6) rfl))) (mvT hZ (hw _ (List.mem_of_getElem? (i := 7) rfl))) (by decide) (backOf (W := 1) (rm_ini l Z a0 hw [] bc (p1 &&& (2147483647 : Int32)) (FP.i2f ((p4 &&& (65535 : Int32)) + (1 : Int32))) (.int (0 : Int32)) (.float (0 : UInt32)) h1 n0 (Nat.le_trans Z0 P2.1) A1 F3 F4 ge_bc (own_ev p1) (i2f_fin _) (own_f p4)) hZ (hw _ (List.mem_of_getElem? (i := 7) rfl)) (hw _ (List.mem_of_getElem? (i := 4) rfl)) (by decide) (by decide)) (g := (mkF m 24 #[.val (.int p1), .val (.int p2), .val (.long p3), .second, .val (.int p4), .val (.int (p1 &&& (2147483647 : Int32))), .val (.float (FP.i2f ((p4 &&& (65535 : Int32)) + (1 : Int32)))), .unset, .unset, .unset, .unset, .unset, .unset, .unset, .unset, .unset] [(.float (FP.i2f ((p4 &&& (65535 : Int32)) + (1 : Int32)))), (.int (p1 &&& (2147483647 : Int32))), (.ref bc), (.ref bc)])) rfl (by rw [hml]; rfl) (Steps.refl _) (a := bc) (argsL := [(.int (p1 &&& (2147483647 : Int32))), (.float (FP.i2f ((p4 &&& (65535 : Int32)) + (1 : Int32))))]) (rest := [(.ref bc)]) (lenOf pd_28IF29V rfl) rfl (by show 2 * 0 + _ ≤ _; exact Nat.le_of_eq rfl) (hb hby at_24) (fun _ _ => ⟨rfl, e1, (by decide : 1 + 0 ≤ _), (by decide : 2 + 0 ≤ _)⟩)
  dsimp only [Pt.U, Pt.locs, Pt.cells, Pt.slots] at X5 l5 y5 z5 st5 hQ5
  subst l5 y5 z5
  obtain ⟨rfl, N5q, K5, r5_0, r5_1⟩ := hQ5
  have N5 := Fr.app N0 N5q
  have P6 : Keep h0 T5.heap [] := P2.trans K5 (allS (Or.inr sz_bc) all0)
  obtain ⟨kv, rfl, mg7⟩ : ∃ kv : Int64, (kv = (own_k (p3 &&& (9223372036854775807 : Int64)) (((p2 &&& (2147483647 : Int32)) % (p1 &&& (2147483647 : Int32)))).toInt64 ((p1 &&& (2147483647 : Int32))).toInt64)) ∧ ∀ t, Steps p.tables e below (T5.setTop (mkF m 90 #[.val (.int p1), .val (.int p2), .val (.long p3), .second, .val (.int p4), .val (.int (p1 &&& (2147483647 : Int32))), .val (.float (FP.i2f ((p4 &&& (65535 : Int32)) + (1 : Int32)))), .val (.ref bc), .val (.long (p3 &&& (9223372036854775807 : Int64))), .second, .val (.long (((p2 &&& (2147483647 : Int32)) % (p1 &&& (2147483647 : Int32)))).toInt64), .second, .val (.long kv), .second, .unset, .unset] [])) t → Steps p.tables e below (T5.setTop (mkF m 72 #[.val (.int p1), .val (.int p2), .val (.long p3), .second, .val (.int p4), .val (.int (p1 &&& (2147483647 : Int32))), .val (.float (FP.i2f ((p4 &&& (65535 : Int32)) + (1 : Int32)))), .val (.ref bc), .val (.long (p3 &&& (9223372036854775807 : Int64))), .second, .val (.long (((p2 &&& (2147483647 : Int32)) % (p1 &&& (2147483647 : Int32)))).toInt64), .second, .unset, .unset, .unset, .unset] [(.int (lcmpW (p3 &&& (9223372036854775807 : Int64)) (((p2 &&& (2147483647 : Int32)) % (p1 &&& (2147483647 : Int32)))).toInt64))])) t := by
    by_cases hc72 : (lcmpW (p3 &&& (9223372036854775807 : Int64)) (((p2 &&& (2147483647 : Int32)) % (p1 &&& (2147483647 : Int32)))).toInt64) < (0 : Int32)
    ·
      refine ⟨(0 : Int64), (by unfold own_k; rw [if_pos ((lw_lt _ _).mp hc72)]), fun t k => ?_⟩
      show Steps p.tables e below (T5.setTop (mkF m 72 #[.val (.int p1), .val (.int p2), .val (.long p3), .second, .val (.int p4), .val (.int (p1 &&& (2147483647 : Int32))), .val (.float (FP.i2f ((p4 &&& (65535 : Int32)) + (1 : Int32)))), .val (.ref bc), .val (.long (p3 &&& (9223372036854775807 : Int64))), .second, .val (.long (((p2 &&& (2147483647 : Int32)) % (p1 &&& (2147483647 : Int32)))).toInt64), .second, .unset, .unset, .unset, .unset] [(.int (lcmpW (p3 &&& (9223372036854775807 : Int64)) (((p2 &&& (2147483647 : Int32)) % (p1 &&& (2147483647 : Int32)))).toInt64))])) _
      refine XS.ifYes X5.here hx rfl (pc0 := 72) (pc' := 87) rfl (hb hby at_72) rfl ((if0 _ _).trans (tlt (hc72 : (lcmpW (p3 &&& (9223372036854775807 : Int64)) (((p2 &&& (2147483647 : Int32)) % (p1 &&& (2147483647 : Int32)))).toInt64) < (0 : Int32))).1) (by decide) (by decide) ?_
      show Steps p.tables e below (T5.setTop (mkF m 87 #[.val (.int p1), .val (.int p2), .val (.long p3), .second, .val (.int p4), .val (.int (p1 &&& (2147483647 : Int32))), .val (.float (FP.i2f ((p4 &&& (65535 : Int32)) + (1 : Int32)))), .val (.ref bc), .val (.long (p3 &&& (9223372036854775807 : Int64))), .second, .val (.long (((p2 &&& (2147483647 : Int32)) % (p1 &&& (2147483647 : Int32)))).toInt64), .second, .unset, .unset, .unset, .unset] [])) _
      refine XS.lconst X5.here hx rfl (hb hby at_87) ?_
      show Steps p.tables e below (T5.setTop (mkF m 88 #[.val (.int p1), .val (.int p2), .val (.long p3), .second, .val (.int p4), .val (.int (p1 &&& (2147483647 : Int32))), .val (.float (FP.i2f ((p4 &&& (65535 : Int32)) + (1 : Int32)))), .val (.ref bc), .val (.long (p3 &&& (9223372036854775807 : Int64))), .second, .val (.long (((p2 &&& (2147483647 : Int32)) % (p1 &&& (2147483647 : Int32)))).toInt64), .second, .unset, .unset, .unset, .unset] [(.long (0 : Int64))])) _
      refine XS.lstore X5.here hx rfl (hb hby at_88) rfl (l' := #[.val (.int p1), .val (.int p2), .val (.long p3), .second, .val (.int p4), .val (.int (p1 &&& (2147483647 : Int32))), .val (.float (FP.i2f ((p4 &&& (65535 : Int32)) + (1 : Int32)))), .val (.ref bc), .val (.long (p3 &&& (9223372036854775807 : Int64))), .second, .val (.long (((p2 &&& (2147483647 : Int32)) % (p1 &&& (2147483647 : Int32)))).toInt64), .second, .val (.long (0 : Int64)), .second, .unset, .unset]) rfl ?_
      exact k
    ·
      refine ⟨(((p3 &&& (9223372036854775807 : Int64)) - (((p2 &&& (2147483647 : Int32)) % (p1 &&& (2147483647 : Int32)))).toInt64) / ((p1 &&& (2147483647 : Int32))).toInt64), (by unfold own_k; rw [if_neg (fun q => hc72 ((lw_lt _ _).mpr q))]), fun t k => ?_⟩
      show Steps p.tables e below (T5.setTop (mkF m 72 #[.val (.int p1), .val (.int p2), .val (.long p3), .second, .val (.int p4), .val (.int (p1 &&& (2147483647 : Int32))), .val (.float (FP.i2f ((p4 &&& (65535 : Int32)) + (1 : Int32)))), .val (.ref bc), .val (.long (p3 &&& (9223372036854775807 : Int64))), .second, .val (.long (((p2 &&& (2147483647 : Int32)) % (p1 &&& (2147483647 : Int32)))).toInt64), .second, .unset, .unset, .unset, .unset] [(.int (lcmpW (p3 &&& (9223372036854775807 : Int64)) (((p2 &&& (2147483647 : Int32)) % (p1 &&& (2147483647 : Int32)))).toInt64))])) _
      refine XS.ifNo X5.here hx rfl (hb hby at_72) rfl ((if0 _ _).trans (flt (hc72 : ¬ ((lcmpW (p3 &&& (9223372036854775807 : Int64)) (((p2 &&& (2147483647 : Int32)) % (p1 &&& (2147483647 : Int32)))).toInt64) < (0 : Int32)))).1) ?_
      show Steps p.tables e below (T5.setTop (mkF m 75 #[.val (.int p1), .val (.int p2), .val (.long p3), .second, .val (.int p4), .val (.int (p1 &&& (2147483647 : Int32))), .val (.float (FP.i2f ((p4 &&& (65535 : Int32)) + (1 : Int32)))), .val (.ref bc), .val (.long (p3 &&& (9223372036854775807 : Int64))), .second, .val (.long (((p2 &&& (2147483647 : Int32)) % (p1 &&& (2147483647 : Int32)))).toInt64), .second, .unset, .unset, .unset, .unset] [])) _
      refine XS.lload X5.here hx rfl (hb hby at_75) rfl ?_
      show Steps p.tables e below (T5.setTop (mkF m 77 #[.val (.int p1), .val (.int p2), .val (.long p3), .second, .val (.int p4), .val (.int (p1 &&& (2147483647 : Int32))), .val (.float (FP.i2f ((p4 &&& (65535 : Int32)) + (1 : Int32)))), .val (.ref bc), .val (.long (p3 &&& (9223372036854775807 : Int64))), .second, .val (.long (((p2 &&& (2147483647 : Int32)) % (p1 &&& (2147483647 : Int32)))).toInt64), .second, .unset, .unset, .unset, .unset] [(.long (p3 &&& (9223372036854775807 : Int64)))])) _
      refine XS.lload X5.here hx rfl (hb hby at_77) rfl ?_
      show Steps p.tables e below (T5.setTop (mkF m 79 #[.val (.int p1), .val (.int p2), .val (.long p3), .second, .val (.int p4), .val (.int (p1 &&& (2147483647 : Int32))), .val (.float (FP.i2f ((p4 &&& (65535 : Int32)) + (1 : Int32)))), .val (.ref bc), .val (.long (p3 &&& (9223372036854775807 : Int64))), .second, .val (.long (((p2 &&& (2147483647 : Int32)) % (p1 &&& (2147483647 : Int32)))).toInt64), .second, .unset, .unset, .unset, .unset] [(.long (((p2 &&& (2147483647 : Int32)) % (p1 &&& (2147483647 : Int32)))).toInt64), (.long (p3 &&& (9223372036854775807 : Int64)))])) _
      refine XS.lsub X5.here hx rfl (hb hby at_79) rfl ?_
      show Steps p.tables e below (T5.setTop (mkF m 80 #[.val (.int p1), .val (.int p2), .val (.long p3), .second, .val (.int p4), .val (.int (p1 &&& (2147483647 : Int32))), .val (.float (FP.i2f ((p4 &&& (65535 : Int32)) + (1 : Int32)))), .val (.ref bc), .val (.long (p3 &&& (9223372036854775807 : Int64))), .second, .val (.long (((p2 &&& (2147483647 : Int32)) % (p1 &&& (2147483647 : Int32)))).toInt64), .second, .unset, .unset, .unset, .unset] [(.long ((p3 &&& (9223372036854775807 : Int64)) - (((p2 &&& (2147483647 : Int32)) % (p1 &&& (2147483647 : Int32)))).toInt64))])) _
      refine XS.iload X5.here hx rfl (hb hby at_80) rfl ?_
      show Steps p.tables e below (T5.setTop (mkF m 82 #[.val (.int p1), .val (.int p2), .val (.long p3), .second, .val (.int p4), .val (.int (p1 &&& (2147483647 : Int32))), .val (.float (FP.i2f ((p4 &&& (65535 : Int32)) + (1 : Int32)))), .val (.ref bc), .val (.long (p3 &&& (9223372036854775807 : Int64))), .second, .val (.long (((p2 &&& (2147483647 : Int32)) % (p1 &&& (2147483647 : Int32)))).toInt64), .second, .unset, .unset, .unset, .unset] [(.int (p1 &&& (2147483647 : Int32))), (.long ((p3 &&& (9223372036854775807 : Int64)) - (((p2 &&& (2147483647 : Int32)) % (p1 &&& (2147483647 : Int32)))).toInt64))])) _
      refine XS.i2l X5.here hx rfl (hb hby at_82) rfl ?_
      show Steps p.tables e below (T5.setTop (mkF m 83 #[.val (.int p1), .val (.int p2), .val (.long p3), .second, .val (.int p4), .val (.int (p1 &&& (2147483647 : Int32))), .val (.float (FP.i2f ((p4 &&& (65535 : Int32)) + (1 : Int32)))), .val (.ref bc), .val (.long (p3 &&& (9223372036854775807 : Int64))), .second, .val (.long (((p2 &&& (2147483647 : Int32)) % (p1 &&& (2147483647 : Int32)))).toInt64), .second, .unset, .unset, .unset, .unset] [(.long ((p1 &&& (2147483647 : Int32))).toInt64), (.long ((p3 &&& (9223372036854775807 : Int64)) - (((p2 &&& (2147483647 : Int32)) % (p1 &&& (2147483647 : Int32)))).toInt64))])) _
      refine XS.ldiv X5.here hx rfl (hb hby at_83) rfl (own_nz (own_pos (own_ev p1) hc38)) ?_
      show Steps p.tables e below (T5.setTop (mkF m 84 #[.val (.int p1), .val (.int p2), .val (.long p3), .second, .val (.int p4), .val (.int (p1 &&& (2147483647 : Int32))), .val (.float (FP.i2f ((p4 &&& (65535 : Int32)) + (1 : Int32)))), .val (.ref bc), .val (.long (p3 &&& (9223372036854775807 : Int64))), .second, .val (.long (((p2 &&& (2147483647 : Int32)) % (p1 &&& (2147483647 : Int32)))).toInt64), .second, .unset, .unset, .unset, .unset] [(.long (((p3 &&& (9223372036854775807 : Int64)) - (((p2 &&& (2147483647 : Int32)) % (p1 &&& (2147483647 : Int32)))).toInt64) / ((p1 &&& (2147483647 : Int32))).toInt64))])) _
      refine XS.goto X5.here hx rfl (pc0 := 84) (pc' := 88) rfl (hb hby at_84) (by decide) (by decide) ?_
      show Steps p.tables e below (T5.setTop (mkF m 88 #[.val (.int p1), .val (.int p2), .val (.long p3), .second, .val (.int p4), .val (.int (p1 &&& (2147483647 : Int32))), .val (.float (FP.i2f ((p4 &&& (65535 : Int32)) + (1 : Int32)))), .val (.ref bc), .val (.long (p3 &&& (9223372036854775807 : Int64))), .second, .val (.long (((p2 &&& (2147483647 : Int32)) % (p1 &&& (2147483647 : Int32)))).toInt64), .second, .unset, .unset, .unset, .unset] [(.long (((p3 &&& (9223372036854775807 : Int64)) - (((p2 &&& (2147483647 : Int32)) % (p1 &&& (2147483647 : Int32)))).toInt64) / ((p1 &&& (2147483647 : Int32))).toInt64))])) _
      refine XS.lstore X5.here hx rfl (hb hby at_88) rfl (l' := #[.val (.int p1), .val (.int p2), .val (.long p3), .second, .val (.int p4), .val (.int (p1 &&& (2147483647 : Int32))), .val (.float (FP.i2f ((p4 &&& (65535 : Int32)) + (1 : Int32)))), .val (.ref bc), .val (.long (p3 &&& (9223372036854775807 : Int64))), .second, .val (.long (((p2 &&& (2147483647 : Int32)) % (p1 &&& (2147483647 : Int32)))).toInt64), .second, .val (.long (((p3 &&& (9223372036854775807 : Int64)) - (((p2 &&& (2147483647 : Int32)) % (p1 &&& (2147483647 : Int32)))).toInt64) / ((p1 &&& (2147483647 : Int32))).toInt64)), .second, .unset, .unset]) rfl ?_
      exact k
  obtain ⟨cq8, kq8, q8a, q8b, q8c⟩ := isOf hZ rfl r5_0
  obtain ⟨_, _, ⟨T8, L8, k8, n8⟩, -, X8, ⟨Lc8, hQ8, l8, y8, z8⟩, st8⟩ := X5.virtualBack hx (y := (⟨"com/example/sievegrad/sievegrad/core/ResidualClipping", "clipsAfter", "(J)Z"⟩ : MethodName)) (z := (⟨"com/example/sievegrad/sievegrad/core/ResidualClipping", "clipsAfter", "(J)Z"⟩ : MethodName)) hown (mvT hZ (hw _ (List.mem_of_getElem? (i := 36) rfl))) (mvT hZ (hw _ (List.mem_of_getElem? (i := 37) rfl))) (notFace_of_selects (args := #[]) (mvT hZ (hw _ (List.mem_of_getElem? (i := 39) rfl)))) (mvT hZ (hw _ (List.mem_of_getElem? (i := 39) rfl))) (mvT hZ (hw _ (List.mem_of_getElem? (i := 38) rfl))) (by decide) (backOf (W := 0) (rm_clip l Z a0 hw [] bc (p1 &&& (2147483647 : Int32)) (((own_k (p3 &&& (9223372036854775807 : Int64)) (((p2 &&& (2147483647 : Int32)) % (p1 &&& (2147483647 : Int32)))).toInt64 ((p1 &&& (2147483647 : Int32))).toInt64) * ((p1 &&& (2147483647 : Int32))).toInt64) + (((p2 &&& (2147483647 : Int32)) % (p1 &&& (2147483647 : Int32)))).toInt64) (1 : Int32) T5.heap n0 (Nat.le_trans Z0 P6.1) r5_1 (Or.inr (Or.inl ⟨own_pos (own_ev p1) hc38, (by rw [(own_rem (own_pos (own_ev p1) hc38) (own_ev p2) (own_y p3))]; exact hc121), rfl⟩))) hZ (hw _ (List.mem_of_getElem? (i := 40) rfl)) (hw _ (List.mem_of_getElem? (i := 4) rfl)) (by decide) (by decide)) q8a q8c (g := (mkF m 114 #[.val (.int p1), .val (.int p2), .val (.long p3), .second, .val (.int p4), .val (.int (p1 &&& (2147483647 : Int32))), .val (.float (FP.i2f ((p4 &&& (65535 : Int32)) + (1 : Int32)))), .val (.ref bc), .val (.long (p3 &&& (9223372036854775807 : Int64))), .second, .val (.long (((p2 &&& (2147483647 : Int32)) % (p1 &&& (2147483647 : Int32)))).toInt64), .second, .val (.long (own_k (p3 &&& (9223372036854775807 : Int64)) (((p2 &&& (2147483647 : Int32)) % (p1 &&& (2147483647 : Int32)))).toInt64 ((p1 &&& (2147483647 : Int32))).toInt64)), .second, .val (.long (((own_k (p3 &&& (9223372036854775807 : Int64)) (((p2 &&& (2147483647 : Int32)) % (p1 &&& (2147483647 : Int32)))).toInt64 ((p1 &&& (2147483647 : Int32))).toInt64) * ((p1 &&& (2147483647 : Int32))).toInt64) + (((p2 &&& (2147483647 : Int32)) % (p1 &&& (2147483647 : Int32)))).toInt64)), .second] [(.long (((own_k (p3 &&& (9223372036854775807 : Int64)) (((p2 &&& (2147483647 : Int32)) % (p1 &&& (2147483647 : Int32)))).toInt64 ((p1 &&& (2147483647 : Int32))).toInt64) * ((p1 &&& (2147483647 : Int32))).toInt64) + (((p2 &&& (2147483647 : Int32)) % (p1 &&& (2147483647 : Int32)))).toInt64)), (.ref bc)])) rfl (by rw [hml]; rfl) (Steps.refl _) (argsL := [(.long (((own_k (p3 &&& (9223372036854775807 : Int64)) (((p2 &&& (2147483647 : Int32)) % (p1 &&& (2147483647 : Int32)))).toInt64 ((p1 &&& (2147483647 : Int32))).toInt64) * ((p1 &&& (2147483647 : Int32))).toInt64) + (((p2 &&& (2147483647 : Int32)) % (p1 &&& (2147483647 : Int32)))).toInt64))]) (rest := []) (lenOf pd_28J29Z rfl) rfl (by show 2 * 0 + _ ≤ _; exact Nat.le_of_eq rfl) (hb hby at_114) (fun _ _ => ⟨rfl, rfl, (by decide : 1 + 0 ≤ _), (by decide : 2 + 0 ≤ _)⟩)
  dsimp only [Pt.U, Pt.locs, Pt.cells, Pt.slots] at X8 l8 y8 z8 st8 hQ8
  subst l8 y8 z8
  obtain ⟨rfl, N8q, e8⟩ := hQ8
  have N8 := Fr.app N5 N8q
  obtain ⟨fs, hr, hrun, hended, hW, hsame⟩ := X8.leave (v := some (.int (1 : Int32))) (fun h => by rw [Bd.returns] at h; cases h)
  refine ⟨_, _, pre0 _ ?_, hrun, hended, _, _, rfl, ?_, ⟨_, rfl⟩, hW, hsame.mono (by decide) (by decide)⟩
  · show Steps p.tables e below (s₁.setTop (mkF m 0 #[.val (.int p1), .val (.int p2), .val (.long p3), .second, .val (.int p4), .unset, .unset, .unset, .unset, .unset, .unset, .unset, .unset, .unset, .unset, .unset] [])) _
    refine XS.iloadN X0.here hx rfl (hb hby at_0) rfl ?_
    show Steps p.tables e below (s₁.setTop (mkF m 1 #[.val (.int p1), .val (.int p2), .val (.long p3), .second, .val (.int p4), .unset, .unset, .unset, .unset, .unset, .unset, .unset, .unset, .unset, .unset, .unset] [(.int p1)])) _
    refine X0.ldcInt hx hown (mvT hZ (hw _ (List.mem_of_getElem? (i := 0) rfl))) (g := (mkF m 1 #[.val (.int p1), .val (.int p2), .val (.long p3), .second, .val (.int p4), .unset, .unset, .unset, .unset, .unset, .unset, .unset, .unset, .unset, .unset, .unset] [(.int p1)])) rfl (hb hby at_1) _ ?_
    show Steps p.tables e below (s₁.setTop (mkF m 3 #[.val (.int p1), .val (.int p2), .val (.long p3), .second, .val (.int p4), .unset, .unset, .unset, .unset, .unset, .unset, .unset, .unset, .unset, .unset, .unset] [(.int (2147483647 : Int32)), (.int p1)])) _
    refine XS.iand X0.here hx rfl (hb hby at_3) rfl ?_
    show Steps p.tables e below (s₁.setTop (mkF m 4 #[.val (.int p1), .val (.int p2), .val (.long p3), .second, .val (.int p4), .unset, .unset, .unset, .unset, .unset, .unset, .unset, .unset, .unset, .unset, .unset] [(.int (p1 &&& (2147483647 : Int32)))])) _
    refine XS.istore X0.here hx rfl (hb hby at_4) rfl (l' := #[.val (.int p1), .val (.int p2), .val (.long p3), .second, .val (.int p4), .val (.int (p1 &&& (2147483647 : Int32))), .unset, .unset, .unset, .unset, .unset, .unset, .unset, .unset, .unset, .unset]) rfl ?_
    show Steps p.tables e below (s₁.setTop (mkF m 6 #[.val (.int p1), .val (.int p2), .val (.long p3), .second, .val (.int p4), .val (.int (p1 &&& (2147483647 : Int32))), .unset, .unset, .unset, .unset, .unset, .unset, .unset, .unset, .unset, .unset] [])) _
    refine XS.iload X0.here hx rfl (hb hby at_6) rfl ?_
    show Steps p.tables e below (s₁.setTop (mkF m 8 #[.val (.int p1), .val (.int p2), .val (.long p3), .second, .val (.int p4), .val (.int (p1 &&& (2147483647 : Int32))), .unset, .unset, .unset, .unset, .unset, .unset, .unset, .unset, .unset, .unset] [(.int p4)])) _
    refine X0.ldcInt hx hown (mvT hZ (hw _ (List.mem_of_getElem? (i := 1) rfl))) (g := (mkF m 8 #[.val (.int p1), .val (.int p2), .val (.long p3), .second, .val (.int p4), .val (.int (p1 &&& (2147483647 : Int32))), .unset, .unset, .unset, .unset, .unset, .unset, .unset, .unset, .unset, .unset] [(.int p4)])) rfl (hb hby at_8) _ ?_
    show Steps p.tables e below (s₁.setTop (mkF m 10 #[.val (.int p1), .val (.int p2), .val (.long p3), .second, .val (.int p4), .val (.int (p1 &&& (2147483647 : Int32))), .unset, .unset, .unset, .unset, .unset, .unset, .unset, .unset, .unset, .unset] [(.int (65535 : Int32)), (.int p4)])) _
    refine XS.iand X0.here hx rfl (hb hby at_10) rfl ?_
    show Steps p.tables e below (s₁.setTop (mkF m 11 #[.val (.int p1), .val (.int p2), .val (.long p3), .second, .val (.int p4), .val (.int (p1 &&& (2147483647 : Int32))), .unset, .unset, .unset, .unset, .unset, .unset, .unset, .unset, .unset, .unset] [(.int (p4 &&& (65535 : Int32)))])) _
    refine XS.iconst X0.here hx rfl (hb hby at_11) ?_
    show Steps p.tables e below (s₁.setTop (mkF m 12 #[.val (.int p1), .val (.int p2), .val (.long p3), .second, .val (.int p4), .val (.int (p1 &&& (2147483647 : Int32))), .unset, .unset, .unset, .unset, .unset, .unset, .unset, .unset, .unset, .unset] [(.int (1 : Int32)), (.int (p4 &&& (65535 : Int32)))])) _
    refine XS.iadd X0.here hx rfl (hb hby at_12) rfl ?_
    show Steps p.tables e below (s₁.setTop (mkF m 13 #[.val (.int p1), .val (.int p2), .val (.long p3), .second, .val (.int p4), .val (.int (p1 &&& (2147483647 : Int32))), .unset, .unset, .unset, .unset, .unset, .unset, .unset, .unset, .unset, .unset] [(.int ((p4 &&& (65535 : Int32)) + (1 : Int32)))])) _
    refine XS.i2fS X0.here hx rfl (hb hby at_13) rfl rfl ?_
    show Steps p.tables e below (s₁.setTop (mkF m 14 #[.val (.int p1), .val (.int p2), .val (.long p3), .second, .val (.int p4), .val (.int (p1 &&& (2147483647 : Int32))), .unset, .unset, .unset, .unset, .unset, .unset, .unset, .unset, .unset, .unset] [(.float (FP.i2f ((p4 &&& (65535 : Int32)) + (1 : Int32))))])) _
    refine XS.fstore X0.here hx rfl (hb hby at_14) rfl (l' := #[.val (.int p1), .val (.int p2), .val (.long p3), .second, .val (.int p4), .val (.int (p1 &&& (2147483647 : Int32))), .val (.float (FP.i2f ((p4 &&& (65535 : Int32)) + (1 : Int32)))), .unset, .unset, .unset, .unset, .unset, .unset, .unset, .unset, .unset]) rfl ?_
    show Steps p.tables e below (s₁.setTop (mkF m 16 #[.val (.int p1), .val (.int p2), .val (.long p3), .second, .val (.int p4), .val (.int (p1 &&& (2147483647 : Int32))), .val (.float (FP.i2f ((p4 &&& (65535 : Int32)) + (1 : Int32)))), .unset, .unset, .unset, .unset, .unset, .unset, .unset, .unset, .unset] [])) _
    refine st1 _ ?_
    show Steps p.tables e below (T1.setTop (mkF m 19 #[.val (.int p1), .val (.int p2), .val (.long p3), .second, .val (.int p4), .val (.int (p1 &&& (2147483647 : Int32))), .val (.float (FP.i2f ((p4 &&& (65535 : Int32)) + (1 : Int32)))), .unset, .unset, .unset, .unset, .unset, .unset, .unset, .unset, .unset] [(.ref bc)])) _
    refine XS.dup X1.here hx rfl (hb hby at_19) rfl rfl ?_
    show Steps p.tables e below (T1.setTop (mkF m 20 #[.val (.int p1), .val (.int p2), .val (.long p3), .second, .val (.int p4), .val (.int (p1 &&& (2147483647 : Int32))), .val (.float (FP.i2f ((p4 &&& (65535 : Int32)) + (1 : Int32)))), .unset, .unset, .unset, .unset, .unset, .unset, .unset, .unset, .unset] [(.ref bc), (.ref bc)])) _
    refine XS.iload X1.here hx rfl (hb hby at_20) rfl ?_
    show Steps p.tables e below (T1.setTop (mkF m 22 #[.val (.int p1), .val (.int p2), .val (.long p3), .second, .val (.int p4), .val (.int (p1 &&& (2147483647 : Int32))), .val (.float (FP.i2f ((p4 &&& (65535 : Int32)) + (1 : Int32)))), .unset, .unset, .unset, .unset, .unset, .unset, .unset, .unset, .unset] [(.int (p1 &&& (2147483647 : Int32))), (.ref bc), (.ref bc)])) _
    refine XS.fload X1.here hx rfl (hb hby at_22) rfl ?_
    show Steps p.tables e below (T1.setTop (mkF m 24 #[.val (.int p1), .val (.int p2), .val (.long p3), .second, .val (.int p4), .val (.int (p1 &&& (2147483647 : Int32))), .val (.float (FP.i2f ((p4 &&& (65535 : Int32)) + (1 : Int32)))), .unset, .unset, .unset, .unset, .unset, .unset, .unset, .unset, .unset] [(.float (FP.i2f ((p4 &&& (65535 : Int32)) + (1 : Int32)))), (.int (p1 &&& (2147483647 : Int32))), (.ref bc), (.ref bc)])) _
    refine st5.trans ?_
    show Steps p.tables e below (T5.setTop (mkF m 27 #[.val (.int p1), .val (.int p2), .val (.long p3), .second, .val (.int p4), .val (.int (p1 &&& (2147483647 : Int32))), .val (.float (FP.i2f ((p4 &&& (65535 : Int32)) + (1 : Int32)))), .unset, .unset, .unset, .unset, .unset, .unset, .unset, .unset, .unset] [(.ref bc)])) _
    refine XS.astore X5.here hx rfl (hb hby at_27) rfl rfl (l' := #[.val (.int p1), .val (.int p2), .val (.long p3), .second, .val (.int p4), .val (.int (p1 &&& (2147483647 : Int32))), .val (.float (FP.i2f ((p4 &&& (65535 : Int32)) + (1 : Int32)))), .val (.ref bc), .unset, .unset, .unset, .unset, .unset, .unset, .unset, .unset]) rfl ?_
    show Steps p.tables e below (T5.setTop (mkF m 29 #[.val (.int p1), .val (.int p2), .val (.long p3), .second, .val (.int p4), .val (.int (p1 &&& (2147483647 : Int32))), .val (.float (FP.i2f ((p4 &&& (65535 : Int32)) + (1 : Int32)))), .val (.ref bc), .unset, .unset, .unset, .unset, .unset, .unset, .unset, .unset] [])) _
    refine XS.lloadN X5.here hx rfl (hb hby at_29) rfl ?_
    show Steps p.tables e below (T5.setTop (mkF m 30 #[.val (.int p1), .val (.int p2), .val (.long p3), .second, .val (.int p4), .val (.int (p1 &&& (2147483647 : Int32))), .val (.float (FP.i2f ((p4 &&& (65535 : Int32)) + (1 : Int32)))), .val (.ref bc), .unset, .unset, .unset, .unset, .unset, .unset, .unset, .unset] [(.long p3)])) _
    refine X5.ldc2Long hx hown (mvT hZ (hw _ (List.mem_of_getElem? (i := 35) rfl))) (g := (mkF m 30 #[.val (.int p1), .val (.int p2), .val (.long p3), .second, .val (.int p4), .val (.int (p1 &&& (2147483647 : Int32))), .val (.float (FP.i2f ((p4 &&& (65535 : Int32)) + (1 : Int32)))), .val (.ref bc), .unset, .unset, .unset, .unset, .unset, .unset, .unset, .unset] [(.long p3)])) rfl (hb hby at_30) _ ?_
    show Steps p.tables e below (T5.setTop (mkF m 33 #[.val (.int p1), .val (.int p2), .val (.long p3), .second, .val (.int p4), .val (.int (p1 &&& (2147483647 : Int32))), .val (.float (FP.i2f ((p4 &&& (65535 : Int32)) + (1 : Int32)))), .val (.ref bc), .unset, .unset, .unset, .unset, .unset, .unset, .unset, .unset] [(.long (9223372036854775807 : Int64)), (.long p3)])) _
    refine XS.land X5.here hx rfl (hb hby at_33) rfl ?_
    show Steps p.tables e below (T5.setTop (mkF m 34 #[.val (.int p1), .val (.int p2), .val (.long p3), .second, .val (.int p4), .val (.int (p1 &&& (2147483647 : Int32))), .val (.float (FP.i2f ((p4 &&& (65535 : Int32)) + (1 : Int32)))), .val (.ref bc), .unset, .unset, .unset, .unset, .unset, .unset, .unset, .unset] [(.long (p3 &&& (9223372036854775807 : Int64)))])) _
    refine XS.lstore X5.here hx rfl (hb hby at_34) rfl (l' := #[.val (.int p1), .val (.int p2), .val (.long p3), .second, .val (.int p4), .val (.int (p1 &&& (2147483647 : Int32))), .val (.float (FP.i2f ((p4 &&& (65535 : Int32)) + (1 : Int32)))), .val (.ref bc), .val (.long (p3 &&& (9223372036854775807 : Int64))), .second, .unset, .unset, .unset, .unset, .unset, .unset]) rfl ?_
    show Steps p.tables e below (T5.setTop (mkF m 36 #[.val (.int p1), .val (.int p2), .val (.long p3), .second, .val (.int p4), .val (.int (p1 &&& (2147483647 : Int32))), .val (.float (FP.i2f ((p4 &&& (65535 : Int32)) + (1 : Int32)))), .val (.ref bc), .val (.long (p3 &&& (9223372036854775807 : Int64))), .second, .unset, .unset, .unset, .unset, .unset, .unset] [])) _
    refine XS.iload X5.here hx rfl (hb hby at_36) rfl ?_
    show Steps p.tables e below (T5.setTop (mkF m 38 #[.val (.int p1), .val (.int p2), .val (.long p3), .second, .val (.int p4), .val (.int (p1 &&& (2147483647 : Int32))), .val (.float (FP.i2f ((p4 &&& (65535 : Int32)) + (1 : Int32)))), .val (.ref bc), .val (.long (p3 &&& (9223372036854775807 : Int64))), .second, .unset, .unset, .unset, .unset, .unset, .unset] [(.int (p1 &&& (2147483647 : Int32)))])) _
    refine XS.ifYes X5.here hx rfl (pc0 := 38) (pc' := 57) rfl (hb hby at_38) rfl ((if0 _ _).trans (feq (hc38 : ¬ ((p1 &&& (2147483647 : Int32)) = (0 : Int32)))).2) (by decide) (by decide) ?_
    show Steps p.tables e below (T5.setTop (mkF m 57 #[.val (.int p1), .val (.int p2), .val (.long p3), .second, .val (.int p4), .val (.int (p1 &&& (2147483647 : Int32))), .val (.float (FP.i2f ((p4 &&& (65535 : Int32)) + (1 : Int32)))), .val (.ref bc), .val (.long (p3 &&& (9223372036854775807 : Int64))), .second, .unset, .unset, .unset, .unset, .unset, .unset] [])) _
    refine XS.iloadN X5.here hx rfl (hb hby at_57) rfl ?_
    show Steps p.tables e below (T5.setTop (mkF m 58 #[.val (.int p1), .val (.int p2), .val (.long p3), .second, .val (.int p4), .val (.int (p1 &&& (2147483647 : Int32))), .val (.float (FP.i2f ((p4 &&& (65535 : Int32)) + (1 : Int32)))), .val (.ref bc), .val (.long (p3 &&& (9223372036854775807 : Int64))), .second, .unset, .unset, .unset, .unset, .unset, .unset] [(.int p2)])) _
    refine X5.ldcInt hx hown (mvT hZ (hw _ (List.mem_of_getElem? (i := 0) rfl))) (g := (mkF m 58 #[.val (.int p1), .val (.int p2), .val (.long p3), .second, .val (.int p4), .val (.int (p1 &&& (2147483647 : Int32))), .val (.float (FP.i2f ((p4 &&& (65535 : Int32)) + (1 : Int32)))), .val (.ref bc), .val (.long (p3 &&& (9223372036854775807 : Int64))), .second, .unset, .unset, .unset, .unset, .unset, .unset] [(.int p2)])) rfl (hb hby at_58) _ ?_
    show Steps p.tables e below (T5.setTop (mkF m 60 #[.val (.int p1), .val (.int p2), .val (.long p3), .second, .val (.int p4), .val (.int (p1 &&& (2147483647 : Int32))), .val (.float (FP.i2f ((p4 &&& (65535 : Int32)) + (1 : Int32)))), .val (.ref bc), .val (.long (p3 &&& (9223372036854775807 : Int64))), .second, .unset, .unset, .unset, .unset, .unset, .unset] [(.int (2147483647 : Int32)), (.int p2)])) _
    refine XS.iand X5.here hx rfl (hb hby at_60) rfl ?_
    show Steps p.tables e below (T5.setTop (mkF m 61 #[.val (.int p1), .val (.int p2), .val (.long p3), .second, .val (.int p4), .val (.int (p1 &&& (2147483647 : Int32))), .val (.float (FP.i2f ((p4 &&& (65535 : Int32)) + (1 : Int32)))), .val (.ref bc), .val (.long (p3 &&& (9223372036854775807 : Int64))), .second, .unset, .unset, .unset, .unset, .unset, .unset] [(.int (p2 &&& (2147483647 : Int32)))])) _
    refine XS.iload X5.here hx rfl (hb hby at_61) rfl ?_
    show Steps p.tables e below (T5.setTop (mkF m 63 #[.val (.int p1), .val (.int p2), .val (.long p3), .second, .val (.int p4), .val (.int (p1 &&& (2147483647 : Int32))), .val (.float (FP.i2f ((p4 &&& (65535 : Int32)) + (1 : Int32)))), .val (.ref bc), .val (.long (p3 &&& (9223372036854775807 : Int64))), .second, .unset, .unset, .unset, .unset, .unset, .unset] [(.int (p1 &&& (2147483647 : Int32))), (.int (p2 &&& (2147483647 : Int32)))])) _
    refine iremM X5 hx (g := (mkF m 63 #[.val (.int p1), .val (.int p2), .val (.long p3), .second, .val (.int p4), .val (.int (p1 &&& (2147483647 : Int32))), .val (.float (FP.i2f ((p4 &&& (65535 : Int32)) + (1 : Int32)))), .val (.ref bc), .val (.long (p3 &&& (9223372036854775807 : Int64))), .second, .unset, .unset, .unset, .unset, .unset, .unset] [(.int (p1 &&& (2147483647 : Int32))), (.int (p2 &&& (2147483647 : Int32)))])) rfl (hb hby at_63) rfl hc38 ?_
    show Steps p.tables e below (T5.setTop (mkF m 64 #[.val (.int p1), .val (.int p2), .val (.long p3), .second, .val (.int p4), .val (.int (p1 &&& (2147483647 : Int32))), .val (.float (FP.i2f ((p4 &&& (65535 : Int32)) + (1 : Int32)))), .val (.ref bc), .val (.long (p3 &&& (9223372036854775807 : Int64))), .second, .unset, .unset, .unset, .unset, .unset, .unset] [(.int ((p2 &&& (2147483647 : Int32)) % (p1 &&& (2147483647 : Int32))))])) _
    refine XS.i2l X5.here hx rfl (hb hby at_64) rfl ?_
    show Steps p.tables e below (T5.setTop (mkF m 65 #[.val (.int p1), .val (.int p2), .val (.long p3), .second, .val (.int p4), .val (.int (p1 &&& (2147483647 : Int32))), .val (.float (FP.i2f ((p4 &&& (65535 : Int32)) + (1 : Int32)))), .val (.ref bc), .val (.long (p3 &&& (9223372036854775807 : Int64))), .second, .unset, .unset, .unset, .unset, .unset, .unset] [(.long (((p2 &&& (2147483647 : Int32)) % (p1 &&& (2147483647 : Int32)))).toInt64)])) _
    refine XS.lstore X5.here hx rfl (hb hby at_65) rfl (l' := #[.val (.int p1), .val (.int p2), .val (.long p3), .second, .val (.int p4), .val (.int (p1 &&& (2147483647 : Int32))), .val (.float (FP.i2f ((p4 &&& (65535 : Int32)) + (1 : Int32)))), .val (.ref bc), .val (.long (p3 &&& (9223372036854775807 : Int64))), .second, .val (.long (((p2 &&& (2147483647 : Int32)) % (p1 &&& (2147483647 : Int32)))).toInt64), .second, .unset, .unset, .unset, .unset]) rfl ?_
    show Steps p.tables e below (T5.setTop (mkF m 67 #[.val (.int p1), .val (.int p2), .val (.long p3), .second, .val (.int p4), .val (.int (p1 &&& (2147483647 : Int32))), .val (.float (FP.i2f ((p4 &&& (65535 : Int32)) + (1 : Int32)))), .val (.ref bc), .val (.long (p3 &&& (9223372036854775807 : Int64))), .second, .val (.long (((p2 &&& (2147483647 : Int32)) % (p1 &&& (2147483647 : Int32)))).toInt64), .second, .unset, .unset, .unset, .unset] [])) _
    refine XS.lload X5.here hx rfl (hb hby at_67) rfl ?_
    show Steps p.tables e below (T5.setTop (mkF m 69 #[.val (.int p1), .val (.int p2), .val (.long p3), .second, .val (.int p4), .val (.int (p1 &&& (2147483647 : Int32))), .val (.float (FP.i2f ((p4 &&& (65535 : Int32)) + (1 : Int32)))), .val (.ref bc), .val (.long (p3 &&& (9223372036854775807 : Int64))), .second, .val (.long (((p2 &&& (2147483647 : Int32)) % (p1 &&& (2147483647 : Int32)))).toInt64), .second, .unset, .unset, .unset, .unset] [(.long (p3 &&& (9223372036854775807 : Int64)))])) _
    refine XS.lload X5.here hx rfl (hb hby at_69) rfl ?_
    show Steps p.tables e below (T5.setTop (mkF m 71 #[.val (.int p1), .val (.int p2), .val (.long p3), .second, .val (.int p4), .val (.int (p1 &&& (2147483647 : Int32))), .val (.float (FP.i2f ((p4 &&& (65535 : Int32)) + (1 : Int32)))), .val (.ref bc), .val (.long (p3 &&& (9223372036854775807 : Int64))), .second, .val (.long (((p2 &&& (2147483647 : Int32)) % (p1 &&& (2147483647 : Int32)))).toInt64), .second, .unset, .unset, .unset, .unset] [(.long (((p2 &&& (2147483647 : Int32)) % (p1 &&& (2147483647 : Int32)))).toInt64), (.long (p3 &&& (9223372036854775807 : Int64)))])) _
    refine XS.lcmp X5.here hx rfl (hb hby at_71) rfl ?_
    show Steps p.tables e below (T5.setTop (mkF m 72 #[.val (.int p1), .val (.int p2), .val (.long p3), .second, .val (.int p4), .val (.int (p1 &&& (2147483647 : Int32))), .val (.float (FP.i2f ((p4 &&& (65535 : Int32)) + (1 : Int32)))), .val (.ref bc), .val (.long (p3 &&& (9223372036854775807 : Int64))), .second, .val (.long (((p2 &&& (2147483647 : Int32)) % (p1 &&& (2147483647 : Int32)))).toInt64), .second, .unset, .unset, .unset, .unset] [(.int (lcmpW (p3 &&& (9223372036854775807 : Int64)) (((p2 &&& (2147483647 : Int32)) % (p1 &&& (2147483647 : Int32)))).toInt64))])) _
    refine mg7 _ ?_
    show Steps p.tables e below (T5.setTop (mkF m 90 #[.val (.int p1), .val (.int p2), .val (.long p3), .second, .val (.int p4), .val (.int (p1 &&& (2147483647 : Int32))), .val (.float (FP.i2f ((p4 &&& (65535 : Int32)) + (1 : Int32)))), .val (.ref bc), .val (.long (p3 &&& (9223372036854775807 : Int64))), .second, .val (.long (((p2 &&& (2147483647 : Int32)) % (p1 &&& (2147483647 : Int32)))).toInt64), .second, .val (.long (own_k (p3 &&& (9223372036854775807 : Int64)) (((p2 &&& (2147483647 : Int32)) % (p1 &&& (2147483647 : Int32)))).toInt64 ((p1 &&& (2147483647 : Int32))).toInt64)), .second, .unset, .unset] [])) _
    refine XS.lload X5.here hx rfl (hb hby at_90) rfl ?_
    show Steps p.tables e below (T5.setTop (mkF m 92 #[.val (.int p1), .val (.int p2), .val (.long p3), .second, .val (.int p4), .val (.int (p1 &&& (2147483647 : Int32))), .val (.float (FP.i2f ((p4 &&& (65535 : Int32)) + (1 : Int32)))), .val (.ref bc), .val (.long (p3 &&& (9223372036854775807 : Int64))), .second, .val (.long (((p2 &&& (2147483647 : Int32)) % (p1 &&& (2147483647 : Int32)))).toInt64), .second, .val (.long (own_k (p3 &&& (9223372036854775807 : Int64)) (((p2 &&& (2147483647 : Int32)) % (p1 &&& (2147483647 : Int32)))).toInt64 ((p1 &&& (2147483647 : Int32))).toInt64)), .second, .unset, .unset] [(.long (own_k (p3 &&& (9223372036854775807 : Int64)) (((p2 &&& (2147483647 : Int32)) % (p1 &&& (2147483647 : Int32)))).toInt64 ((p1 &&& (2147483647 : Int32))).toInt64))])) _
    refine XS.iload X5.here hx rfl (hb hby at_92) rfl ?_
    show Steps p.tables e below (T5.setTop (mkF m 94 #[.val (.int p1), .val (.int p2), .val (.long p3), .second, .val (.int p4), .val (.int (p1 &&& (2147483647 : Int32))), .val (.float (FP.i2f ((p4 &&& (65535 : Int32)) + (1 : Int32)))), .val (.ref bc), .val (.long (p3 &&& (9223372036854775807 : Int64))), .second, .val (.long (((p2 &&& (2147483647 : Int32)) % (p1 &&& (2147483647 : Int32)))).toInt64), .second, .val (.long (own_k (p3 &&& (9223372036854775807 : Int64)) (((p2 &&& (2147483647 : Int32)) % (p1 &&& (2147483647 : Int32)))).toInt64 ((p1 &&& (2147483647 : Int32))).toInt64)), .second, .unset, .unset] [(.int (p1 &&& (2147483647 : Int32))), (.long (own_k (p3 &&& (9223372036854775807 : Int64)) (((p2 &&& (2147483647 : Int32)) % (p1 &&& (2147483647 : Int32)))).toInt64 ((p1 &&& (2147483647 : Int32))).toInt64))])) _
    refine XS.i2l X5.here hx rfl (hb hby at_94) rfl ?_
    show Steps p.tables e below (T5.setTop (mkF m 95 #[.val (.int p1), .val (.int p2), .val (.long p3), .second, .val (.int p4), .val (.int (p1 &&& (2147483647 : Int32))), .val (.float (FP.i2f ((p4 &&& (65535 : Int32)) + (1 : Int32)))), .val (.ref bc), .val (.long (p3 &&& (9223372036854775807 : Int64))), .second, .val (.long (((p2 &&& (2147483647 : Int32)) % (p1 &&& (2147483647 : Int32)))).toInt64), .second, .val (.long (own_k (p3 &&& (9223372036854775807 : Int64)) (((p2 &&& (2147483647 : Int32)) % (p1 &&& (2147483647 : Int32)))).toInt64 ((p1 &&& (2147483647 : Int32))).toInt64)), .second, .unset, .unset] [(.long ((p1 &&& (2147483647 : Int32))).toInt64), (.long (own_k (p3 &&& (9223372036854775807 : Int64)) (((p2 &&& (2147483647 : Int32)) % (p1 &&& (2147483647 : Int32)))).toInt64 ((p1 &&& (2147483647 : Int32))).toInt64))])) _
    refine XS.lmul X5.here hx rfl (hb hby at_95) rfl ?_
    show Steps p.tables e below (T5.setTop (mkF m 96 #[.val (.int p1), .val (.int p2), .val (.long p3), .second, .val (.int p4), .val (.int (p1 &&& (2147483647 : Int32))), .val (.float (FP.i2f ((p4 &&& (65535 : Int32)) + (1 : Int32)))), .val (.ref bc), .val (.long (p3 &&& (9223372036854775807 : Int64))), .second, .val (.long (((p2 &&& (2147483647 : Int32)) % (p1 &&& (2147483647 : Int32)))).toInt64), .second, .val (.long (own_k (p3 &&& (9223372036854775807 : Int64)) (((p2 &&& (2147483647 : Int32)) % (p1 &&& (2147483647 : Int32)))).toInt64 ((p1 &&& (2147483647 : Int32))).toInt64)), .second, .unset, .unset] [(.long ((own_k (p3 &&& (9223372036854775807 : Int64)) (((p2 &&& (2147483647 : Int32)) % (p1 &&& (2147483647 : Int32)))).toInt64 ((p1 &&& (2147483647 : Int32))).toInt64) * ((p1 &&& (2147483647 : Int32))).toInt64))])) _
    refine XS.lload X5.here hx rfl (hb hby at_96) rfl ?_
    show Steps p.tables e below (T5.setTop (mkF m 98 #[.val (.int p1), .val (.int p2), .val (.long p3), .second, .val (.int p4), .val (.int (p1 &&& (2147483647 : Int32))), .val (.float (FP.i2f ((p4 &&& (65535 : Int32)) + (1 : Int32)))), .val (.ref bc), .val (.long (p3 &&& (9223372036854775807 : Int64))), .second, .val (.long (((p2 &&& (2147483647 : Int32)) % (p1 &&& (2147483647 : Int32)))).toInt64), .second, .val (.long (own_k (p3 &&& (9223372036854775807 : Int64)) (((p2 &&& (2147483647 : Int32)) % (p1 &&& (2147483647 : Int32)))).toInt64 ((p1 &&& (2147483647 : Int32))).toInt64)), .second, .unset, .unset] [(.long (((p2 &&& (2147483647 : Int32)) % (p1 &&& (2147483647 : Int32)))).toInt64), (.long ((own_k (p3 &&& (9223372036854775807 : Int64)) (((p2 &&& (2147483647 : Int32)) % (p1 &&& (2147483647 : Int32)))).toInt64 ((p1 &&& (2147483647 : Int32))).toInt64) * ((p1 &&& (2147483647 : Int32))).toInt64))])) _
    refine XS.ladd X5.here hx rfl (hb hby at_98) rfl ?_
    show Steps p.tables e below (T5.setTop (mkF m 99 #[.val (.int p1), .val (.int p2), .val (.long p3), .second, .val (.int p4), .val (.int (p1 &&& (2147483647 : Int32))), .val (.float (FP.i2f ((p4 &&& (65535 : Int32)) + (1 : Int32)))), .val (.ref bc), .val (.long (p3 &&& (9223372036854775807 : Int64))), .second, .val (.long (((p2 &&& (2147483647 : Int32)) % (p1 &&& (2147483647 : Int32)))).toInt64), .second, .val (.long (own_k (p3 &&& (9223372036854775807 : Int64)) (((p2 &&& (2147483647 : Int32)) % (p1 &&& (2147483647 : Int32)))).toInt64 ((p1 &&& (2147483647 : Int32))).toInt64)), .second, .unset, .unset] [(.long (((own_k (p3 &&& (9223372036854775807 : Int64)) (((p2 &&& (2147483647 : Int32)) % (p1 &&& (2147483647 : Int32)))).toInt64 ((p1 &&& (2147483647 : Int32))).toInt64) * ((p1 &&& (2147483647 : Int32))).toInt64) + (((p2 &&& (2147483647 : Int32)) % (p1 &&& (2147483647 : Int32)))).toInt64))])) _
    refine XS.lstore X5.here hx rfl (hb hby at_99) rfl (l' := #[.val (.int p1), .val (.int p2), .val (.long p3), .second, .val (.int p4), .val (.int (p1 &&& (2147483647 : Int32))), .val (.float (FP.i2f ((p4 &&& (65535 : Int32)) + (1 : Int32)))), .val (.ref bc), .val (.long (p3 &&& (9223372036854775807 : Int64))), .second, .val (.long (((p2 &&& (2147483647 : Int32)) % (p1 &&& (2147483647 : Int32)))).toInt64), .second, .val (.long (own_k (p3 &&& (9223372036854775807 : Int64)) (((p2 &&& (2147483647 : Int32)) % (p1 &&& (2147483647 : Int32)))).toInt64 ((p1 &&& (2147483647 : Int32))).toInt64)), .second, .val (.long (((own_k (p3 &&& (9223372036854775807 : Int64)) (((p2 &&& (2147483647 : Int32)) % (p1 &&& (2147483647 : Int32)))).toInt64 ((p1 &&& (2147483647 : Int32))).toInt64) * ((p1 &&& (2147483647 : Int32))).toInt64) + (((p2 &&& (2147483647 : Int32)) % (p1 &&& (2147483647 : Int32)))).toInt64)), .second]) rfl ?_
    show Steps p.tables e below (T5.setTop (mkF m 101 #[.val (.int p1), .val (.int p2), .val (.long p3), .second, .val (.int p4), .val (.int (p1 &&& (2147483647 : Int32))), .val (.float (FP.i2f ((p4 &&& (65535 : Int32)) + (1 : Int32)))), .val (.ref bc), .val (.long (p3 &&& (9223372036854775807 : Int64))), .second, .val (.long (((p2 &&& (2147483647 : Int32)) % (p1 &&& (2147483647 : Int32)))).toInt64), .second, .val (.long (own_k (p3 &&& (9223372036854775807 : Int64)) (((p2 &&& (2147483647 : Int32)) % (p1 &&& (2147483647 : Int32)))).toInt64 ((p1 &&& (2147483647 : Int32))).toInt64)), .second, .val (.long (((own_k (p3 &&& (9223372036854775807 : Int64)) (((p2 &&& (2147483647 : Int32)) % (p1 &&& (2147483647 : Int32)))).toInt64 ((p1 &&& (2147483647 : Int32))).toInt64) * ((p1 &&& (2147483647 : Int32))).toInt64) + (((p2 &&& (2147483647 : Int32)) % (p1 &&& (2147483647 : Int32)))).toInt64)), .second] [])) _
    refine XS.lload X5.here hx rfl (hb hby at_101) rfl ?_
    show Steps p.tables e below (T5.setTop (mkF m 103 #[.val (.int p1), .val (.int p2), .val (.long p3), .second, .val (.int p4), .val (.int (p1 &&& (2147483647 : Int32))), .val (.float (FP.i2f ((p4 &&& (65535 : Int32)) + (1 : Int32)))), .val (.ref bc), .val (.long (p3 &&& (9223372036854775807 : Int64))), .second, .val (.long (((p2 &&& (2147483647 : Int32)) % (p1 &&& (2147483647 : Int32)))).toInt64), .second, .val (.long (own_k (p3 &&& (9223372036854775807 : Int64)) (((p2 &&& (2147483647 : Int32)) % (p1 &&& (2147483647 : Int32)))).toInt64 ((p1 &&& (2147483647 : Int32))).toInt64)), .second, .val (.long (((own_k (p3 &&& (9223372036854775807 : Int64)) (((p2 &&& (2147483647 : Int32)) % (p1 &&& (2147483647 : Int32)))).toInt64 ((p1 &&& (2147483647 : Int32))).toInt64) * ((p1 &&& (2147483647 : Int32))).toInt64) + (((p2 &&& (2147483647 : Int32)) % (p1 &&& (2147483647 : Int32)))).toInt64)), .second] [(.long (((own_k (p3 &&& (9223372036854775807 : Int64)) (((p2 &&& (2147483647 : Int32)) % (p1 &&& (2147483647 : Int32)))).toInt64 ((p1 &&& (2147483647 : Int32))).toInt64) * ((p1 &&& (2147483647 : Int32))).toInt64) + (((p2 &&& (2147483647 : Int32)) % (p1 &&& (2147483647 : Int32)))).toInt64))])) _
    refine XS.lconst X5.here hx rfl (hb hby at_103) ?_
    show Steps p.tables e below (T5.setTop (mkF m 104 #[.val (.int p1), .val (.int p2), .val (.long p3), .second, .val (.int p4), .val (.int (p1 &&& (2147483647 : Int32))), .val (.float (FP.i2f ((p4 &&& (65535 : Int32)) + (1 : Int32)))), .val (.ref bc), .val (.long (p3 &&& (9223372036854775807 : Int64))), .second, .val (.long (((p2 &&& (2147483647 : Int32)) % (p1 &&& (2147483647 : Int32)))).toInt64), .second, .val (.long (own_k (p3 &&& (9223372036854775807 : Int64)) (((p2 &&& (2147483647 : Int32)) % (p1 &&& (2147483647 : Int32)))).toInt64 ((p1 &&& (2147483647 : Int32))).toInt64)), .second, .val (.long (((own_k (p3 &&& (9223372036854775807 : Int64)) (((p2 &&& (2147483647 : Int32)) % (p1 &&& (2147483647 : Int32)))).toInt64 ((p1 &&& (2147483647 : Int32))).toInt64) * ((p1 &&& (2147483647 : Int32))).toInt64) + (((p2 &&& (2147483647 : Int32)) % (p1 &&& (2147483647 : Int32)))).toInt64)), .second] [(.long (0 : Int64)), (.long (((own_k (p3 &&& (9223372036854775807 : Int64)) (((p2 &&& (2147483647 : Int32)) % (p1 &&& (2147483647 : Int32)))).toInt64 ((p1 &&& (2147483647 : Int32))).toInt64) * ((p1 &&& (2147483647 : Int32))).toInt64) + (((p2 &&& (2147483647 : Int32)) % (p1 &&& (2147483647 : Int32)))).toInt64))])) _
    refine XS.lcmp X5.here hx rfl (hb hby at_104) rfl ?_
    show Steps p.tables e below (T5.setTop (mkF m 105 #[.val (.int p1), .val (.int p2), .val (.long p3), .second, .val (.int p4), .val (.int (p1 &&& (2147483647 : Int32))), .val (.float (FP.i2f ((p4 &&& (65535 : Int32)) + (1 : Int32)))), .val (.ref bc), .val (.long (p3 &&& (9223372036854775807 : Int64))), .second, .val (.long (((p2 &&& (2147483647 : Int32)) % (p1 &&& (2147483647 : Int32)))).toInt64), .second, .val (.long (own_k (p3 &&& (9223372036854775807 : Int64)) (((p2 &&& (2147483647 : Int32)) % (p1 &&& (2147483647 : Int32)))).toInt64 ((p1 &&& (2147483647 : Int32))).toInt64)), .second, .val (.long (((own_k (p3 &&& (9223372036854775807 : Int64)) (((p2 &&& (2147483647 : Int32)) % (p1 &&& (2147483647 : Int32)))).toInt64 ((p1 &&& (2147483647 : Int32))).toInt64) * ((p1 &&& (2147483647 : Int32))).toInt64) + (((p2 &&& (2147483647 : Int32)) % (p1 &&& (2147483647 : Int32)))).toInt64)), .second] [(.int (lcmpW (((own_k (p3 &&& (9223372036854775807 : Int64)) (((p2 &&& (2147483647 : Int32)) % (p1 &&& (2147483647 : Int32)))).toInt64 ((p1 &&& (2147483647 : Int32))).toInt64) * ((p1 &&& (2147483647 : Int32))).toInt64) + (((p2 &&& (2147483647 : Int32)) % (p1 &&& (2147483647 : Int32)))).toInt64) (0 : Int64)))])) _
    refine XS.ifYes X5.here hx rfl (pc0 := 105) (pc' := 110) rfl (hb hby at_105) rfl ((if0 _ _).trans (feq (hc105 : ¬ ((lcmpW (((own_k (p3 &&& (9223372036854775807 : Int64)) (((p2 &&& (2147483647 : Int32)) % (p1 &&& (2147483647 : Int32)))).toInt64 ((p1 &&& (2147483647 : Int32))).toInt64) * ((p1 &&& (2147483647 : Int32))).toInt64) + (((p2 &&& (2147483647 : Int32)) % (p1 &&& (2147483647 : Int32)))).toInt64) (0 : Int64)) = (0 : Int32)))).2) (by decide) (by decide) ?_
    show Steps p.tables e below (T5.setTop (mkF m 110 #[.val (.int p1), .val (.int p2), .val (.long p3), .second, .val (.int p4), .val (.int (p1 &&& (2147483647 : Int32))), .val (.float (FP.i2f ((p4 &&& (65535 : Int32)) + (1 : Int32)))), .val (.ref bc), .val (.long (p3 &&& (9223372036854775807 : Int64))), .second, .val (.long (((p2 &&& (2147483647 : Int32)) % (p1 &&& (2147483647 : Int32)))).toInt64), .second, .val (.long (own_k (p3 &&& (9223372036854775807 : Int64)) (((p2 &&& (2147483647 : Int32)) % (p1 &&& (2147483647 : Int32)))).toInt64 ((p1 &&& (2147483647 : Int32))).toInt64)), .second, .val (.long (((own_k (p3 &&& (9223372036854775807 : Int64)) (((p2 &&& (2147483647 : Int32)) % (p1 &&& (2147483647 : Int32)))).toInt64 ((p1 &&& (2147483647 : Int32))).toInt64) * ((p1 &&& (2147483647 : Int32))).toInt64) + (((p2 &&& (2147483647 : Int32)) % (p1 &&& (2147483647 : Int32)))).toInt64)), .second] [])) _
    refine XS.aload X5.here hx rfl (hb hby at_110) rfl rfl ?_
    show Steps p.tables e below (T5.setTop (mkF m 112 #[.val (.int p1), .val (.int p2), .val (.long p3), .second, .val (.int p4), .val (.int (p1 &&& (2147483647 : Int32))), .val (.float (FP.i2f ((p4 &&& (65535 : Int32)) + (1 : Int32)))), .val (.ref bc), .val (.long (p3 &&& (9223372036854775807 : Int64))), .second, .val (.long (((p2 &&& (2147483647 : Int32)) % (p1 &&& (2147483647 : Int32)))).toInt64), .second, .val (.long (own_k (p3 &&& (9223372036854775807 : Int64)) (((p2 &&& (2147483647 : Int32)) % (p1 &&& (2147483647 : Int32)))).toInt64 ((p1 &&& (2147483647 : Int32))).toInt64)), .second, .val (.long (((own_k (p3 &&& (9223372036854775807 : Int64)) (((p2 &&& (2147483647 : Int32)) % (p1 &&& (2147483647 : Int32)))).toInt64 ((p1 &&& (2147483647 : Int32))).toInt64) * ((p1 &&& (2147483647 : Int32))).toInt64) + (((p2 &&& (2147483647 : Int32)) % (p1 &&& (2147483647 : Int32)))).toInt64)), .second] [(.ref bc)])) _
    refine XS.lload X5.here hx rfl (hb hby at_112) rfl ?_
    show Steps p.tables e below (T5.setTop (mkF m 114 #[.val (.int p1), .val (.int p2), .val (.long p3), .second, .val (.int p4), .val (.int (p1 &&& (2147483647 : Int32))), .val (.float (FP.i2f ((p4 &&& (65535 : Int32)) + (1 : Int32)))), .val (.ref bc), .val (.long (p3 &&& (9223372036854775807 : Int64))), .second, .val (.long (((p2 &&& (2147483647 : Int32)) % (p1 &&& (2147483647 : Int32)))).toInt64), .second, .val (.long (own_k (p3 &&& (9223372036854775807 : Int64)) (((p2 &&& (2147483647 : Int32)) % (p1 &&& (2147483647 : Int32)))).toInt64 ((p1 &&& (2147483647 : Int32))).toInt64)), .second, .val (.long (((own_k (p3 &&& (9223372036854775807 : Int64)) (((p2 &&& (2147483647 : Int32)) % (p1 &&& (2147483647 : Int32)))).toInt64 ((p1 &&& (2147483647 : Int32))).toInt64) * ((p1 &&& (2147483647 : Int32))).toInt64) + (((p2 &&& (2147483647 : Int32)) % (p1 &&& (2147483647 : Int32)))).toInt64)), .second] [(.long (((own_k (p3 &&& (9223372036854775807 : Int64)) (((p2 &&& (2147483647 : Int32)) % (p1 &&& (2147483647 : Int32)))).toInt64 ((p1 &&& (2147483647 : Int32))).toInt64) * ((p1 &&& (2147483647 : Int32))).toInt64) + (((p2 &&& (2147483647 : Int32)) % (p1 &&& (2147483647 : Int32)))).toInt64)), (.ref bc)])) _
    refine st8.trans ?_
    show Steps p.tables e below (T8.setTop (mkF m 117 #[.val (.int p1), .val (.int p2), .val (.long p3), .second, .val (.int p4), .val (.int (p1 &&& (2147483647 : Int32))), .val (.float (FP.i2f ((p4 &&& (65535 : Int32)) + (1 : Int32)))), .val (.ref bc), .val (.long (p3 &&& (9223372036854775807 : Int64))), .second, .val (.long (((p2 &&& (2147483647 : Int32)) % (p1 &&& (2147483647 : Int32)))).toInt64), .second, .val (.long (own_k (p3 &&& (9223372036854775807 : Int64)) (((p2 &&& (2147483647 : Int32)) % (p1 &&& (2147483647 : Int32)))).toInt64 ((p1 &&& (2147483647 : Int32))).toInt64)), .second, .val (.long (((own_k (p3 &&& (9223372036854775807 : Int64)) (((p2 &&& (2147483647 : Int32)) % (p1 &&& (2147483647 : Int32)))).toInt64 ((p1 &&& (2147483647 : Int32))).toInt64) * ((p1 &&& (2147483647 : Int32))).toInt64) + (((p2 &&& (2147483647 : Int32)) % (p1 &&& (2147483647 : Int32)))).toInt64)), .second] [(.int (1 : Int32))])) _
    refine XS.lload X8.here hx rfl (hb hby at_117) rfl ?_
    show Steps p.tables e below (T8.setTop (mkF m 119 #[.val (.int p1), .val (.int p2), .val (.long p3), .second, .val (.int p4), .val (.int (p1 &&& (2147483647 : Int32))), .val (.float (FP.i2f ((p4 &&& (65535 : Int32)) + (1 : Int32)))), .val (.ref bc), .val (.long (p3 &&& (9223372036854775807 : Int64))), .second, .val (.long (((p2 &&& (2147483647 : Int32)) % (p1 &&& (2147483647 : Int32)))).toInt64), .second, .val (.long (own_k (p3 &&& (9223372036854775807 : Int64)) (((p2 &&& (2147483647 : Int32)) % (p1 &&& (2147483647 : Int32)))).toInt64 ((p1 &&& (2147483647 : Int32))).toInt64)), .second, .val (.long (((own_k (p3 &&& (9223372036854775807 : Int64)) (((p2 &&& (2147483647 : Int32)) % (p1 &&& (2147483647 : Int32)))).toInt64 ((p1 &&& (2147483647 : Int32))).toInt64) * ((p1 &&& (2147483647 : Int32))).toInt64) + (((p2 &&& (2147483647 : Int32)) % (p1 &&& (2147483647 : Int32)))).toInt64)), .second] [(.long (((p2 &&& (2147483647 : Int32)) % (p1 &&& (2147483647 : Int32)))).toInt64), (.int (1 : Int32))])) _
    refine XS.lconst X8.here hx rfl (hb hby at_119) ?_
    show Steps p.tables e below (T8.setTop (mkF m 120 #[.val (.int p1), .val (.int p2), .val (.long p3), .second, .val (.int p4), .val (.int (p1 &&& (2147483647 : Int32))), .val (.float (FP.i2f ((p4 &&& (65535 : Int32)) + (1 : Int32)))), .val (.ref bc), .val (.long (p3 &&& (9223372036854775807 : Int64))), .second, .val (.long (((p2 &&& (2147483647 : Int32)) % (p1 &&& (2147483647 : Int32)))).toInt64), .second, .val (.long (own_k (p3 &&& (9223372036854775807 : Int64)) (((p2 &&& (2147483647 : Int32)) % (p1 &&& (2147483647 : Int32)))).toInt64 ((p1 &&& (2147483647 : Int32))).toInt64)), .second, .val (.long (((own_k (p3 &&& (9223372036854775807 : Int64)) (((p2 &&& (2147483647 : Int32)) % (p1 &&& (2147483647 : Int32)))).toInt64 ((p1 &&& (2147483647 : Int32))).toInt64) * ((p1 &&& (2147483647 : Int32))).toInt64) + (((p2 &&& (2147483647 : Int32)) % (p1 &&& (2147483647 : Int32)))).toInt64)), .second] [(.long (0 : Int64)), (.long (((p2 &&& (2147483647 : Int32)) % (p1 &&& (2147483647 : Int32)))).toInt64), (.int (1 : Int32))])) _
    refine XS.lcmp X8.here hx rfl (hb hby at_120) rfl ?_
    show Steps p.tables e below (T8.setTop (mkF m 121 #[.val (.int p1), .val (.int p2), .val (.long p3), .second, .val (.int p4), .val (.int (p1 &&& (2147483647 : Int32))), .val (.float (FP.i2f ((p4 &&& (65535 : Int32)) + (1 : Int32)))), .val (.ref bc), .val (.long (p3 &&& (9223372036854775807 : Int64))), .second, .val (.long (((p2 &&& (2147483647 : Int32)) % (p1 &&& (2147483647 : Int32)))).toInt64), .second, .val (.long (own_k (p3 &&& (9223372036854775807 : Int64)) (((p2 &&& (2147483647 : Int32)) % (p1 &&& (2147483647 : Int32)))).toInt64 ((p1 &&& (2147483647 : Int32))).toInt64)), .second, .val (.long (((own_k (p3 &&& (9223372036854775807 : Int64)) (((p2 &&& (2147483647 : Int32)) % (p1 &&& (2147483647 : Int32)))).toInt64 ((p1 &&& (2147483647 : Int32))).toInt64) * ((p1 &&& (2147483647 : Int32))).toInt64) + (((p2 &&& (2147483647 : Int32)) % (p1 &&& (2147483647 : Int32)))).toInt64)), .second] [(.int (lcmpW (((p2 &&& (2147483647 : Int32)) % (p1 &&& (2147483647 : Int32)))).toInt64 (0 : Int64))), (.int (1 : Int32))])) _
    refine XS.ifNo X8.here hx rfl (hb hby at_121) rfl ((if0 _ _).trans (teq (hc121 : (lcmpW (((p2 &&& (2147483647 : Int32)) % (p1 &&& (2147483647 : Int32)))).toInt64 (0 : Int64)) = (0 : Int32))).2) ?_
    show Steps p.tables e below (T8.setTop (mkF m 124 #[.val (.int p1), .val (.int p2), .val (.long p3), .second, .val (.int p4), .val (.int (p1 &&& (2147483647 : Int32))), .val (.float (FP.i2f ((p4 &&& (65535 : Int32)) + (1 : Int32)))), .val (.ref bc), .val (.long (p3 &&& (9223372036854775807 : Int64))), .second, .val (.long (((p2 &&& (2147483647 : Int32)) % (p1 &&& (2147483647 : Int32)))).toInt64), .second, .val (.long (own_k (p3 &&& (9223372036854775807 : Int64)) (((p2 &&& (2147483647 : Int32)) % (p1 &&& (2147483647 : Int32)))).toInt64 ((p1 &&& (2147483647 : Int32))).toInt64)), .second, .val (.long (((own_k (p3 &&& (9223372036854775807 : Int64)) (((p2 &&& (2147483647 : Int32)) % (p1 &&& (2147483647 : Int32)))).toInt64 ((p1 &&& (2147483647 : Int32))).toInt64) * ((p1 &&& (2147483647 : Int32))).toInt64) + (((p2 &&& (2147483647 : Int32)) % (p1 &&& (2147483647 : Int32)))).toInt64)), .second] [(.int (1 : Int32))])) _
    refine XS.iconst X8.here hx rfl (hb hby at_124) ?_
    show Steps p.tables e below (T8.setTop (mkF m 125 #[.val (.int p1), .val (.int p2), .val (.long p3), .second, .val (.int p4), .val (.int (p1 &&& (2147483647 : Int32))), .val (.float (FP.i2f ((p4 &&& (65535 : Int32)) + (1 : Int32)))), .val (.ref bc), .val (.long (p3 &&& (9223372036854775807 : Int64))), .second, .val (.long (((p2 &&& (2147483647 : Int32)) % (p1 &&& (2147483647 : Int32)))).toInt64), .second, .val (.long (own_k (p3 &&& (9223372036854775807 : Int64)) (((p2 &&& (2147483647 : Int32)) % (p1 &&& (2147483647 : Int32)))).toInt64 ((p1 &&& (2147483647 : Int32))).toInt64)), .second, .val (.long (((own_k (p3 &&& (9223372036854775807 : Int64)) (((p2 &&& (2147483647 : Int32)) % (p1 &&& (2147483647 : Int32)))).toInt64 ((p1 &&& (2147483647 : Int32))).toInt64) * ((p1 &&& (2147483647 : Int32))).toInt64) + (((p2 &&& (2147483647 : Int32)) % (p1 &&& (2147483647 : Int32)))).toInt64)), .second] [(.int (1 : Int32)), (.int (1 : Int32))])) _
    refine XS.goto X8.here hx rfl (pc0 := 125) (pc' := 129) rfl (hb hby at_125) (by decide) (by decide) ?_
    show Steps p.tables e below (T8.setTop (mkF m 129 #[.val (.int p1), .val (.int p2), .val (.long p3), .second, .val (.int p4), .val (.int (p1 &&& (2147483647 : Int32))), .val (.float (FP.i2f ((p4 &&& (65535 : Int32)) + (1 : Int32)))), .val (.ref bc), .val (.long (p3 &&& (9223372036854775807 : Int64))), .second, .val (.long (((p2 &&& (2147483647 : Int32)) % (p1 &&& (2147483647 : Int32)))).toInt64), .second, .val (.long (own_k (p3 &&& (9223372036854775807 : Int64)) (((p2 &&& (2147483647 : Int32)) % (p1 &&& (2147483647 : Int32)))).toInt64 ((p1 &&& (2147483647 : Int32))).toInt64)), .second, .val (.long (((own_k (p3 &&& (9223372036854775807 : Int64)) (((p2 &&& (2147483647 : Int32)) % (p1 &&& (2147483647 : Int32)))).toInt64 ((p1 &&& (2147483647 : Int32))).toInt64) * ((p1 &&& (2147483647 : Int32))).toInt64) + (((p2 &&& (2147483647 : Int32)) % (p1 &&& (2147483647 : Int32)))).toInt64)), .second] [(.int (1 : Int32)), (.int (1 : Int32))])) _
    refine XS.icmpNo X8.here hx rfl (hb hby at_129) rfl (teq (by decide : (1 : Int32) = (1 : Int32))).2 ?_
    show Steps p.tables e below (T8.setTop (mkF m 132 #[.val (.int p1), .val (.int p2), .val (.long p3), .second, .val (.int p4), .val (.int (p1 &&& (2147483647 : Int32))), .val (.float (FP.i2f ((p4 &&& (65535 : Int32)) + (1 : Int32)))), .val (.ref bc), .val (.long (p3 &&& (9223372036854775807 : Int64))), .second, .val (.long (((p2 &&& (2147483647 : Int32)) % (p1 &&& (2147483647 : Int32)))).toInt64), .second, .val (.long (own_k (p3 &&& (9223372036854775807 : Int64)) (((p2 &&& (2147483647 : Int32)) % (p1 &&& (2147483647 : Int32)))).toInt64 ((p1 &&& (2147483647 : Int32))).toInt64)), .second, .val (.long (((own_k (p3 &&& (9223372036854775807 : Int64)) (((p2 &&& (2147483647 : Int32)) % (p1 &&& (2147483647 : Int32)))).toInt64 ((p1 &&& (2147483647 : Int32))).toInt64) * ((p1 &&& (2147483647 : Int32))).toInt64) + (((p2 &&& (2147483647 : Int32)) % (p1 &&& (2147483647 : Int32)))).toInt64)), .second] [])) _
    refine XS.iconst X8.here hx rfl (hb hby at_132) ?_
    show Steps p.tables e below (T8.setTop (mkF m 133 #[.val (.int p1), .val (.int p2), .val (.long p3), .second, .val (.int p4), .val (.int (p1 &&& (2147483647 : Int32))), .val (.float (FP.i2f ((p4 &&& (65535 : Int32)) + (1 : Int32)))), .val (.ref bc), .val (.long (p3 &&& (9223372036854775807 : Int64))), .second, .val (.long (((p2 &&& (2147483647 : Int32)) % (p1 &&& (2147483647 : Int32)))).toInt64), .second, .val (.long (own_k (p3 &&& (9223372036854775807 : Int64)) (((p2 &&& (2147483647 : Int32)) % (p1 &&& (2147483647 : Int32)))).toInt64 ((p1 &&& (2147483647 : Int32))).toInt64)), .second, .val (.long (((own_k (p3 &&& (9223372036854775807 : Int64)) (((p2 &&& (2147483647 : Int32)) % (p1 &&& (2147483647 : Int32)))).toInt64 ((p1 &&& (2147483647 : Int32))).toInt64) * ((p1 &&& (2147483647 : Int32))).toInt64) + (((p2 &&& (2147483647 : Int32)) % (p1 &&& (2147483647 : Int32)))).toInt64)), .second] [(.int (1 : Int32))])) _
    refine XS.goto X8.here hx rfl (pc0 := 133) (pc' := 137) rfl (hb hby at_133) (by decide) (by decide) ?_
    show Steps p.tables e below (T8.setTop (mkF m 137 #[.val (.int p1), .val (.int p2), .val (.long p3), .second, .val (.int p4), .val (.int (p1 &&& (2147483647 : Int32))), .val (.float (FP.i2f ((p4 &&& (65535 : Int32)) + (1 : Int32)))), .val (.ref bc), .val (.long (p3 &&& (9223372036854775807 : Int64))), .second, .val (.long (((p2 &&& (2147483647 : Int32)) % (p1 &&& (2147483647 : Int32)))).toInt64), .second, .val (.long (own_k (p3 &&& (9223372036854775807 : Int64)) (((p2 &&& (2147483647 : Int32)) % (p1 &&& (2147483647 : Int32)))).toInt64 ((p1 &&& (2147483647 : Int32))).toInt64)), .second, .val (.long (((own_k (p3 &&& (9223372036854775807 : Int64)) (((p2 &&& (2147483647 : Int32)) % (p1 &&& (2147483647 : Int32)))).toInt64 ((p1 &&& (2147483647 : Int32))).toInt64) * ((p1 &&& (2147483647 : Int32))).toInt64) + (((p2 &&& (2147483647 : Int32)) % (p1 &&& (2147483647 : Int32)))).toInt64)), .second] [(.int (1 : Int32))])) _
    exact retOut X8 hx (t := .boolean) (i := .ireturn) Bd.returns rfl (Or.inl ⟨rfl, Or.inr (Or.inl rfl), _, rfl⟩) (hb hby at_137) hr
  · show Q_lawC Z p1 p2 p3 p4 h0 n0 _ T8.heap _
    rw [e8]
    exact ⟨rfl, N8⟩
theorem ef_lawD (m : MethodId) (x0 : Int32) (x1 : Int32) (x2 : Int64) (x3 : Int32) : entryFrame m #[(.int x0), (.int x1), (.long x2), (.int x3)] maxLocals = mkF m 0 #[.val (.int x0), .val (.int x1), .val (.long x2), .second, .val (.int x3), .unset, .unset, .unset, .unset, .unset, .unset, .unset, .unset, .unset, .unset, .unset] [] := by first | (simp [entryFrame, mkF, argsToLocals, Value.category, maxLocals]; done) | rfl
def Q_lawD (Z : State) (p1 : Int32) (p2 : Int32) (p3 : Int64) (p4 : Int32) (h0 : Heap) (n0 : Nat) (v : Option Value) (h : Heap) (L : List Loc) : Prop := v = some (.int (1 : Int32)) ∧ Fr n0 L
set_option maxRecDepth 65536 in
set_option maxHeartbeats 40000000 in
theorem rm_lawD (l : Launch) (Z : State) (a0 : Array Value) (hw : ∀ d ∈ tables_1, d.before a0 Z = true) (ws : List Jvm.Cond) (p1 : Int32) (p2 : Int32) (p3 : Int64) (p4 : Int32) (h0 : Heap) (n0 : Nat) (Z0 : n0 ≤ h0.size) (hc38 : ¬ ((p1 &&& (2147483647 : Int32)) = (0 : Int32))) (hc105 : ¬ ((lcmpW (((own_k (p3 &&& (9223372036854775807 : Int64)) (((p2 &&& (2147483647 : Int32)) % (p1 &&& (2147483647 : Int32)))).toInt64 ((p1 &&& (2147483647 : Int32))).toInt64) * ((p1 &&& (2147483647 : Int32))).toInt64) + (((p2 &&& (2147483647 : Int32)) % (p1 &&& (2147483647 : Int32)))).toInt64) (0 : Int64)) = (0 : Int32))) (hc121 : ¬ ((lcmpW (((p2 &&& (2147483647 : Int32)) % (p1 &&& (2147483647 : Int32)))).toInt64 (0 : Int64)) = (0 : Int32))) :
    MetFree l x (head1 (Jvm.Cond.code x code maxLocals ret :: ws) room_1) (fun a U => a = #[(.int p1), (.int p2), (.long p3), (.int p4)] ∧ Z.Warmed39 U.vm ∧ U.heap = h0) (fun _ _ _ _ _ => True) (fun _ U o U' => ∃ v L, o = .returned v ∧ Q_lawD Z p1 p2 p3 p4 h0 n0 v U'.heap L ∧ FrameEnd U o U' L room_1.cells room_1.slots) := by
  refine MetFree.of_bodySF (plainFor_of_name pn_com_example_sievegrad_sievegrad_core_ResidualClippingClipsAfterPinLaw) hisR ?_
  intro p e s m args below meth c s₁ Bd hml0 hP hK
  obtain ⟨rfl, hZ, hh⟩ := hP
  have hx := Bd.exec
  have hby := Bd.bytes
  have hml : c.maxLocals = 16 := hml0
  have hown : s.vm.findClass "com/example/sievegrad/sievegrad/core/ResidualClippingClipsAfterPinLaw" = some m.cls := findClass_of_methodNamed Bd.named
  have hnm := (name_of_methodNamed Bd.named Bd.method).1
  have X0 : Stand p l e room_1 s m #[(.int p1), (.int p2), (.long p3), (.int p4)] below meth c s₁ [] 0 0 := Stand.of_body Bd
  have e0 : s₁.heap = h0 := by rw [← hh, Bd.state]; rfl
  have N0 := Fr.nil n0
  have P0 : Keep h0 h0 [] := Keep.refl _ _
  have pre0 : ∀ t, Steps p.tables e below (s₁.setTop (mkF m 0 #[.val (.int p1), .val (.int p2), .val (.long p3), .second, .val (.int p4), .unset, .unset, .unset, .unset, .unset, .unset, .unset, .unset, .unset, .unset, .unset] [])) t → Steps p.tables e below (s₁.setTop (entryFrame m #[(.int p1), (.int p2), (.long p3), (.int p4)] maxLocals)) t := fun t k => castTop (ef_lawD m p1 p2 p3 p4) k
  obtain ⟨T1, h1, X1, e1, E1, A1, D1, -, st1⟩ := newO X0 hx hZ hown (hw _ (List.mem_of_getElem? (i := 2) rfl)) (hw _ (List.mem_of_getElem? (i := 3) rfl)) (hw _ (List.mem_of_getElem? (i := 4) rfl)) e0 (g := (mkF m 16 #[.val (.int p1), .val (.int p2), .val (.long p3), .second, .val (.int p4), .val (.int (p1 &&& (2147483647 : Int32))), .val (.float (FP.i2f ((p4 &&& (65535 : Int32)) + (1 : Int32)))), .unset, .unset, .unset, .unset, .unset, .unset, .unset, .unset, .unset] [])) rfl (hb hby at_16) (by decide) (by decide)
  obtain ⟨bc, g1⟩ : ∃ z, z = h0.size := ⟨_, rfl⟩
  rw [← g1] at A1 D1 st1
  have ge_bc : n0 ≤ bc := Nat.le_trans (Nat.le_trans Z0 P0.1) (Nat.le_of_eq g1.symm)
  have sz_bc : h0.size ≤ bc := Nat.le_trans P0.1 (Nat.le_of_eq g1.symm)
  have P2 : Keep h0 h1 [] := P0.ext E1
  have F3 : Fld Z h1 bc "com/example/sievegrad/sievegrad/core/ResidualClipping" "every" "I" (.int (0 : Int32)) := D1 (Or.inr (hw _ (List.mem_of_getElem? (i := 32) rfl))) (ty := .int) (by decide)
  have F4 : Fld Z h1 bc "com/example/sievegrad/sievegrad/core/ResidualClipping" "multiple" "F" (.float (0 : UInt32)) := D1 (Or.inr (hw _ (List.mem_of_getElem? (i := 34) rfl))) (ty := .float) (by decide)
  obtain ⟨_, _, ⟨T5, L5, k5, n5⟩, -, X5, ⟨Lc5, hQ5, l5, y5, z5⟩, st5⟩ := X1.specialBack hx (y := (⟨"com/example/sievegrad/sievegrad/core/ResidualClipping", "<init>", "(IF)V"⟩ : MethodName)) rfl hown (mvT hZ (hw _ (List.mem_of_getElem? (i := 5) rfl))) (mvT hZ (hw _ (List.mem_of_getElem? (i := 6) rfl))) (mvT hZ (hw _ (List.mem_of_getElem? (i := 7) rfl))) (by decide) (backOf (W := 1) (rm_ini l Z a0 hw [] bc (p1 &&& (2147483647 : Int32)) (FP.i2f ((p4 &&& (65535 : Int32)) + (1 : Int32))) (.int (0 : Int32)) (.float (0 : UInt32)) h1 n0 (Nat.le_trans Z0 P2.1) A1 F3 F4 ge_bc (own_ev p1) (i2f_fin _) (own_f p4)) hZ (hw _ (List.mem_of_getElem? (i := 7) rfl)) (hw _ (List.mem_of_getElem? (i := 4) rfl)) (by decide) (by decide)) (g := (mkF m 24 #[.val (.int p1), .val (.int p2), .val (.long p3), .second, .val (.int p4), .val (.int (p1 &&& (2147483647 : Int32))), .val (.float (FP.i2f ((p4 &&& (65535 : Int32)) + (1 : Int32)))), .unset, .unset, .unset, .unset, .unset, .unset, .unset, .unset, .unset] [(.float (FP.i2f ((p4 &&& (65535 : Int32)) + (1 : Int32)))), (.int (p1 &&& (2147483647 : Int32))), (.ref bc), (.ref bc)])) rfl (by rw [hml]; rfl) (Steps.refl _) (a := bc) (argsL := [(.int (p1 &&& (2147483647 : Int32))), (.float (FP.i2f ((p4 &&& (65535 : Int32)) + (1 : Int32))))]) (rest := [(.ref bc)]) (lenOf pd_28IF29V rfl) rfl (by show 2 * 0 + _ ≤ _; exact Nat.le_of_eq rfl) (hb hby at_24) (fun _ _ => ⟨rfl, e1, (by decide : 1 + 0 ≤ _), (by decide : 2 + 0 ≤ _)⟩)
  dsimp only [Pt.U, Pt.locs, Pt.cells, Pt.slots] at X5 l5 y5 z5 st5 hQ5
  subst l5 y5 z5
  obtain ⟨rfl, N5q, K5, r5_0, r5_1⟩ := hQ5
  have N5 := Fr.app N0 N5q
  have P6 : Keep h0 T5.heap [] := P2.trans K5 (allS (Or.inr sz_bc) all0)
  obtain ⟨kv, rfl, mg7⟩ : ∃ kv : Int64, (kv = (own_k (p3 &&& (9223372036854775807 : Int64)) (((p2 &&& (2147483647 : Int32)) % (p1 &&& (2147483647 : Int32)))).toInt64 ((p1 &&& (2147483647 : Int32))).toInt64)) ∧ ∀ t, Steps p.tables e below (T5.setTop (mkF m 90 #[.val (.int p1), .val (.int p2), .val (.long p3), .second, .val (.int p4), .val (.int (p1 &&& (2147483647 : Int32))), .val (.float (FP.i2f ((p4 &&& (65535 : Int32)) + (1 : Int32)))), .val (.ref bc), .val (.long (p3 &&& (9223372036854775807 : Int64))), .second, .val (.long (((p2 &&& (2147483647 : Int32)) % (p1 &&& (2147483647 : Int32)))).toInt64), .second, .val (.long kv), .second, .unset, .unset] [])) t → Steps p.tables e below (T5.setTop (mkF m 72 #[.val (.int p1), .val (.int p2), .val (.long p3), .second, .val (.int p4), .val (.int (p1 &&& (2147483647 : Int32))), .val (.float (FP.i2f ((p4 &&& (65535 : Int32)) + (1 : Int32)))), .val (.ref bc), .val (.long (p3 &&& (9223372036854775807 : Int64))), .second, .val (.long (((p2 &&& (2147483647 : Int32)) % (p1 &&& (2147483647 : Int32)))).toInt64), .second, .unset, .unset, .unset, .unset] [(.int (lcmpW (p3 &&& (9223372036854775807 : Int64)) (((p2 &&& (2147483647 : Int32)) % (p1 &&& (2147483647 : Int32)))).toInt64))])) t := by
    by_cases hc72 : (lcmpW (p3 &&& (9223372036854775807 : Int64)) (((p2 &&& (2147483647 : Int32)) % (p1 &&& (2147483647 : Int32)))).toInt64) < (0 : Int32)
    ·
      refine ⟨(0 : Int64), (by unfold own_k; rw [if_pos ((lw_lt _ _).mp hc72)]), fun t k => ?_⟩
      show Steps p.tables e below (T5.setTop (mkF m 72 #[.val (.int p1), .val (.int p2), .val (.long p3), .second, .val (.int p4), .val (.int (p1 &&& (2147483647 : Int32))), .val (.float (FP.i2f ((p4 &&& (65535 : Int32)) + (1 : Int32)))), .val (.ref bc), .val (.long (p3 &&& (9223372036854775807 : Int64))), .second, .val (.long (((p2 &&& (2147483647 : Int32)) % (p1 &&& (2147483647 : Int32)))).toInt64), .second, .unset, .unset, .unset, .unset] [(.int (lcmpW (p3 &&& (9223372036854775807 : Int64)) (((p2 &&& (2147483647 : Int32)) % (p1 &&& (2147483647 : Int32)))).toInt64))])) _
      refine XS.ifYes X5.here hx rfl (pc0 := 72) (pc' := 87) rfl (hb hby at_72) rfl ((if0 _ _).trans (tlt (hc72 : (lcmpW (p3 &&& (9223372036854775807 : Int64)) (((p2 &&& (2147483647 : Int32)) % (p1 &&& (2147483647 : Int32)))).toInt64) < (0 : Int32))).1) (by decide) (by decide) ?_
      show Steps p.tables e below (T5.setTop (mkF m 87 #[.val (.int p1), .val (.int p2), .val (.long p3), .second, .val (.int p4), .val (.int (p1 &&& (2147483647 : Int32))), .val (.float (FP.i2f ((p4 &&& (65535 : Int32)) + (1 : Int32)))), .val (.ref bc), .val (.long (p3 &&& (9223372036854775807 : Int64))), .second, .val (.long (((p2 &&& (2147483647 : Int32)) % (p1 &&& (2147483647 : Int32)))).toInt64), .second, .unset, .unset, .unset, .unset] [])) _
      refine XS.lconst X5.here hx rfl (hb hby at_87) ?_
      show Steps p.tables e below (T5.setTop (mkF m 88 #[.val (.int p1), .val (.int p2), .val (.long p3), .second, .val (.int p4), .val (.int (p1 &&& (2147483647 : Int32))), .val (.float (FP.i2f ((p4 &&& (65535 : Int32)) + (1 : Int32)))), .val (.ref bc), .val (.long (p3 &&& (9223372036854775807 : Int64))), .second, .val (.long (((p2 &&& (2147483647 : Int32)) % (p1 &&& (2147483647 : Int32)))).toInt64), .second, .unset, .unset, .unset, .unset] [(.long (0 : Int64))])) _
      refine XS.lstore X5.here hx rfl (hb hby at_88) rfl (l' := #[.val (.int p1), .val (.int p2), .val (.long p3), .second, .val (.int p4), .val (.int (p1 &&& (2147483647 : Int32))), .val (.float (FP.i2f ((p4 &&& (65535 : Int32)) + (1 : Int32)))), .val (.ref bc), .val (.long (p3 &&& (9223372036854775807 : Int64))), .second, .val (.long (((p2 &&& (2147483647 : Int32)) % (p1 &&& (2147483647 : Int32)))).toInt64), .second, .val (.long (0 : Int64)), .second, .unset, .unset]) rfl ?_
      exact k
    ·
      refine ⟨(((p3 &&& (9223372036854775807 : Int64)) - (((p2 &&& (2147483647 : Int32)) % (p1 &&& (2147483647 : Int32)))).toInt64) / ((p1 &&& (2147483647 : Int32))).toInt64), (by unfold own_k; rw [if_neg (fun q => hc72 ((lw_lt _ _).mpr q))]), fun t k => ?_⟩
      show Steps p.tables e below (T5.setTop (mkF m 72 #[.val (.int p1), .val (.int p2), .val (.long p3), .second, .val (.int p4), .val (.int (p1 &&& (2147483647 : Int32))), .val (.float (FP.i2f ((p4 &&& (65535 : Int32)) + (1 : Int32)))), .val (.ref bc), .val (.long (p3 &&& (9223372036854775807 : Int64))), .second, .val (.long (((p2 &&& (2147483647 : Int32)) % (p1 &&& (2147483647 : Int32)))).toInt64), .second, .unset, .unset, .unset, .unset] [(.int (lcmpW (p3 &&& (9223372036854775807 : Int64)) (((p2 &&& (2147483647 : Int32)) % (p1 &&& (2147483647 : Int32)))).toInt64))])) _
      refine XS.ifNo X5.here hx rfl (hb hby at_72) rfl ((if0 _ _).trans (flt (hc72 : ¬ ((lcmpW (p3 &&& (9223372036854775807 : Int64)) (((p2 &&& (2147483647 : Int32)) % (p1 &&& (2147483647 : Int32)))).toInt64) < (0 : Int32)))).1) ?_
      show Steps p.tables e below (T5.setTop (mkF m 75 #[.val (.int p1), .val (.int p2), .val (.long p3), .second, .val (.int p4), .val (.int (p1 &&& (2147483647 : Int32))), .val (.float (FP.i2f ((p4 &&& (65535 : Int32)) + (1 : Int32)))), .val (.ref bc), .val (.long (p3 &&& (9223372036854775807 : Int64))), .second, .val (.long (((p2 &&& (2147483647 : Int32)) % (p1 &&& (2147483647 : Int32)))).toInt64), .second, .unset, .unset, .unset, .unset] [])) _
      refine XS.lload X5.here hx rfl (hb hby at_75) rfl ?_
      show Steps p.tables e below (T5.setTop (mkF m 77 #[.val (.int p1), .val (.int p2), .val (.long p3), .second, .val (.int p4), .val (.int (p1 &&& (2147483647 : Int32))), .val (.float (FP.i2f ((p4 &&& (65535 : Int32)) + (1 : Int32)))), .val (.ref bc), .val (.long (p3 &&& (9223372036854775807 : Int64))), .second, .val (.long (((p2 &&& (2147483647 : Int32)) % (p1 &&& (2147483647 : Int32)))).toInt64), .second, .unset, .unset, .unset, .unset] [(.long (p3 &&& (9223372036854775807 : Int64)))])) _
      refine XS.lload X5.here hx rfl (hb hby at_77) rfl ?_
      show Steps p.tables e below (T5.setTop (mkF m 79 #[.val (.int p1), .val (.int p2), .val (.long p3), .second, .val (.int p4), .val (.int (p1 &&& (2147483647 : Int32))), .val (.float (FP.i2f ((p4 &&& (65535 : Int32)) + (1 : Int32)))), .val (.ref bc), .val (.long (p3 &&& (9223372036854775807 : Int64))), .second, .val (.long (((p2 &&& (2147483647 : Int32)) % (p1 &&& (2147483647 : Int32)))).toInt64), .second, .unset, .unset, .unset, .unset] [(.long (((p2 &&& (2147483647 : Int32)) % (p1 &&& (2147483647 : Int32)))).toInt64), (.long (p3 &&& (9223372036854775807 : Int64)))])) _
      refine XS.lsub X5.here hx rfl (hb hby at_79) rfl ?_
      show Steps p.tables e below (T5.setTop (mkF m 80 #[.val (.int p1), .val (.int p2), .val (.long p3), .second, .val (.int p4), .val (.int (p1 &&& (2147483647 : Int32))), .val (.float (FP.i2f ((p4 &&& (65535 : Int32)) + (1 : Int32)))), .val (.ref bc), .val (.long (p3 &&& (9223372036854775807 : Int64))), .second, .val (.long (((p2 &&& (2147483647 : Int32)) % (p1 &&& (2147483647 : Int32)))).toInt64), .second, .unset, .unset, .unset, .unset] [(.long ((p3 &&& (9223372036854775807 : Int64)) - (((p2 &&& (2147483647 : Int32)) % (p1 &&& (2147483647 : Int32)))).toInt64))])) _
      refine XS.iload X5.here hx rfl (hb hby at_80) rfl ?_
      show Steps p.tables e below (T5.setTop (mkF m 82 #[.val (.int p1), .val (.int p2), .val (.long p3), .second, .val (.int p4), .val (.int (p1 &&& (2147483647 : Int32))), .val (.float (FP.i2f ((p4 &&& (65535 : Int32)) + (1 : Int32)))), .val (.ref bc), .val (.long (p3 &&& (9223372036854775807 : Int64))), .second, .val (.long (((p2 &&& (2147483647 : Int32)) % (p1 &&& (2147483647 : Int32)))).toInt64), .second, .unset, .unset, .unset, .unset] [(.int (p1 &&& (2147483647 : Int32))), (.long ((p3 &&& (9223372036854775807 : Int64)) - (((p2 &&& (2147483647 : Int32)) % (p1 &&& (2147483647 : Int32)))).toInt64))])) _
      refine XS.i2l X5.here hx rfl (hb hby at_82) rfl ?_
      show Steps p.tables e below (T5.setTop (mkF m 83 #[.val (.int p1), .val (.int p2), .val (.long p3), .second, .val (.int p4), .val (.int (p1 &&& (2147483647 : Int32))), .val (.float (FP.i2f ((p4 &&& (65535 : Int32)) + (1 : Int32)))), .val (.ref bc), .val (.long (p3 &&& (9223372036854775807 : Int64))), .second, .val (.long (((p2 &&& (2147483647 : Int32)) % (p1 &&& (2147483647 : Int32)))).toInt64), .second, .unset, .unset, .unset, .unset] [(.long ((p1 &&& (2147483647 : Int32))).toInt64), (.long ((p3 &&& (9223372036854775807 : Int64)) - (((p2 &&& (2147483647 : Int32)) % (p1 &&& (2147483647 : Int32)))).toInt64))])) _
      refine XS.ldiv X5.here hx rfl (hb hby at_83) rfl (own_nz (own_pos (own_ev p1) hc38)) ?_
      show Steps p.tables e below (T5.setTop (mkF m 84 #[.val (.int p1), .val (.int p2), .val (.long p3), .second, .val (.int p4), .val (.int (p1 &&& (2147483647 : Int32))), .val (.float (FP.i2f ((p4 &&& (65535 : Int32)) + (1 : Int32)))), .val (.ref bc), .val (.long (p3 &&& (9223372036854775807 : Int64))), .second, .val (.long (((p2 &&& (2147483647 : Int32)) % (p1 &&& (2147483647 : Int32)))).toInt64), .second, .unset, .unset, .unset, .unset] [(.long (((p3 &&& (9223372036854775807 : Int64)) - (((p2 &&& (2147483647 : Int32)) % (p1 &&& (2147483647 : Int32)))).toInt64) / ((p1 &&& (2147483647 : Int32))).toInt64))])) _
      refine XS.goto X5.here hx rfl (pc0 := 84) (pc' := 88) rfl (hb hby at_84) (by decide) (by decide) ?_
      show Steps p.tables e below (T5.setTop (mkF m 88 #[.val (.int p1), .val (.int p2), .val (.long p3), .second, .val (.int p4), .val (.int (p1 &&& (2147483647 : Int32))), .val (.float (FP.i2f ((p4 &&& (65535 : Int32)) + (1 : Int32)))), .val (.ref bc), .val (.long (p3 &&& (9223372036854775807 : Int64))), .second, .val (.long (((p2 &&& (2147483647 : Int32)) % (p1 &&& (2147483647 : Int32)))).toInt64), .second, .unset, .unset, .unset, .unset] [(.long (((p3 &&& (9223372036854775807 : Int64)) - (((p2 &&& (2147483647 : Int32)) % (p1 &&& (2147483647 : Int32)))).toInt64) / ((p1 &&& (2147483647 : Int32))).toInt64))])) _
      refine XS.lstore X5.here hx rfl (hb hby at_88) rfl (l' := #[.val (.int p1), .val (.int p2), .val (.long p3), .second, .val (.int p4), .val (.int (p1 &&& (2147483647 : Int32))), .val (.float (FP.i2f ((p4 &&& (65535 : Int32)) + (1 : Int32)))), .val (.ref bc), .val (.long (p3 &&& (9223372036854775807 : Int64))), .second, .val (.long (((p2 &&& (2147483647 : Int32)) % (p1 &&& (2147483647 : Int32)))).toInt64), .second, .val (.long (((p3 &&& (9223372036854775807 : Int64)) - (((p2 &&& (2147483647 : Int32)) % (p1 &&& (2147483647 : Int32)))).toInt64) / ((p1 &&& (2147483647 : Int32))).toInt64)), .second, .unset, .unset]) rfl ?_
      exact k
  obtain ⟨cq8, kq8, q8a, q8b, q8c⟩ := isOf hZ rfl r5_0
  obtain ⟨_, _, ⟨T8, L8, k8, n8⟩, -, X8, ⟨Lc8, hQ8, l8, y8, z8⟩, st8⟩ := X5.virtualBack hx (y := (⟨"com/example/sievegrad/sievegrad/core/ResidualClipping", "clipsAfter", "(J)Z"⟩ : MethodName)) (z := (⟨"com/example/sievegrad/sievegrad/core/ResidualClipping", "clipsAfter", "(J)Z"⟩ : MethodName)) hown (mvT hZ (hw _ (List.mem_of_getElem? (i := 36) rfl))) (mvT hZ (hw _ (List.mem_of_getElem? (i := 37) rfl))) (notFace_of_selects (args := #[]) (mvT hZ (hw _ (List.mem_of_getElem? (i := 39) rfl)))) (mvT hZ (hw _ (List.mem_of_getElem? (i := 39) rfl))) (mvT hZ (hw _ (List.mem_of_getElem? (i := 38) rfl))) (by decide) (backOf (W := 0) (rm_clip l Z a0 hw [] bc (p1 &&& (2147483647 : Int32)) (((own_k (p3 &&& (9223372036854775807 : Int64)) (((p2 &&& (2147483647 : Int32)) % (p1 &&& (2147483647 : Int32)))).toInt64 ((p1 &&& (2147483647 : Int32))).toInt64) * ((p1 &&& (2147483647 : Int32))).toInt64) + (((p2 &&& (2147483647 : Int32)) % (p1 &&& (2147483647 : Int32)))).toInt64) (0 : Int32) T5.heap n0 (Nat.le_trans Z0 P6.1) r5_1 (Or.inr (Or.inr ⟨own_pos (own_ev p1) hc38, (by rw [(own_rem (own_pos (own_ev p1) hc38) (own_ev p2) (own_y p3))]; exact hc121), rfl⟩))) hZ (hw _ (List.mem_of_getElem? (i := 40) rfl)) (hw _ (List.mem_of_getElem? (i := 4) rfl)) (by decide) (by decide)) q8a q8c (g := (mkF m 114 #[.val (.int p1), .val (.int p2), .val (.long p3), .second, .val (.int p4), .val (.int (p1 &&& (2147483647 : Int32))), .val (.float (FP.i2f ((p4 &&& (65535 : Int32)) + (1 : Int32)))), .val (.ref bc), .val (.long (p3 &&& (9223372036854775807 : Int64))), .second, .val (.long (((p2 &&& (2147483647 : Int32)) % (p1 &&& (2147483647 : Int32)))).toInt64), .second, .val (.long (own_k (p3 &&& (9223372036854775807 : Int64)) (((p2 &&& (2147483647 : Int32)) % (p1 &&& (2147483647 : Int32)))).toInt64 ((p1 &&& (2147483647 : Int32))).toInt64)), .second, .val (.long (((own_k (p3 &&& (9223372036854775807 : Int64)) (((p2 &&& (2147483647 : Int32)) % (p1 &&& (2147483647 : Int32)))).toInt64 ((p1 &&& (2147483647 : Int32))).toInt64) * ((p1 &&& (2147483647 : Int32))).toInt64) + (((p2 &&& (2147483647 : Int32)) % (p1 &&& (2147483647 : Int32)))).toInt64)), .second] [(.long (((own_k (p3 &&& (9223372036854775807 : Int64)) (((p2 &&& (2147483647 : Int32)) % (p1 &&& (2147483647 : Int32)))).toInt64 ((p1 &&& (2147483647 : Int32))).toInt64) * ((p1 &&& (2147483647 : Int32))).toInt64) + (((p2 &&& (2147483647 : Int32)) % (p1 &&& (2147483647 : Int32)))).toInt64)), (.ref bc)])) rfl (by rw [hml]; rfl) (Steps.refl _) (argsL := [(.long (((own_k (p3 &&& (9223372036854775807 : Int64)) (((p2 &&& (2147483647 : Int32)) % (p1 &&& (2147483647 : Int32)))).toInt64 ((p1 &&& (2147483647 : Int32))).toInt64) * ((p1 &&& (2147483647 : Int32))).toInt64) + (((p2 &&& (2147483647 : Int32)) % (p1 &&& (2147483647 : Int32)))).toInt64))]) (rest := []) (lenOf pd_28J29Z rfl) rfl (by show 2 * 0 + _ ≤ _; exact Nat.le_of_eq rfl) (hb hby at_114) (fun _ _ => ⟨rfl, rfl, (by decide : 1 + 0 ≤ _), (by decide : 2 + 0 ≤ _)⟩)
  dsimp only [Pt.U, Pt.locs, Pt.cells, Pt.slots] at X8 l8 y8 z8 st8 hQ8
  subst l8 y8 z8
  obtain ⟨rfl, N8q, e8⟩ := hQ8
  have N8 := Fr.app N5 N8q
  obtain ⟨fs, hr, hrun, hended, hW, hsame⟩ := X8.leave (v := some (.int (1 : Int32))) (fun h => by rw [Bd.returns] at h; cases h)
  refine ⟨_, _, pre0 _ ?_, hrun, hended, _, _, rfl, ?_, ⟨_, rfl⟩, hW, hsame.mono (by decide) (by decide)⟩
  · show Steps p.tables e below (s₁.setTop (mkF m 0 #[.val (.int p1), .val (.int p2), .val (.long p3), .second, .val (.int p4), .unset, .unset, .unset, .unset, .unset, .unset, .unset, .unset, .unset, .unset, .unset] [])) _
    refine XS.iloadN X0.here hx rfl (hb hby at_0) rfl ?_
    show Steps p.tables e below (s₁.setTop (mkF m 1 #[.val (.int p1), .val (.int p2), .val (.long p3), .second, .val (.int p4), .unset, .unset, .unset, .unset, .unset, .unset, .unset, .unset, .unset, .unset, .unset] [(.int p1)])) _
    refine X0.ldcInt hx hown (mvT hZ (hw _ (List.mem_of_getElem? (i := 0) rfl))) (g := (mkF m 1 #[.val (.int p1), .val (.int p2), .val (.long p3), .second, .val (.int p4), .unset, .unset, .unset, .unset, .unset, .unset, .unset, .unset, .unset, .unset, .unset] [(.int p1)])) rfl (hb hby at_1) _ ?_
    show Steps p.tables e below (s₁.setTop (mkF m 3 #[.val (.int p1), .val (.int p2), .val (.long p3), .second, .val (.int p4), .unset, .unset, .unset, .unset, .unset, .unset, .unset, .unset, .unset, .unset, .unset] [(.int (2147483647 : Int32)), (.int p1)])) _
    refine XS.iand X0.here hx rfl (hb hby at_3) rfl ?_
    show Steps p.tables e below (s₁.setTop (mkF m 4 #[.val (.int p1), .val (.int p2), .val (.long p3), .second, .val (.int p4), .unset, .unset, .unset, .unset, .unset, .unset, .unset, .unset, .unset, .unset, .unset] [(.int (p1 &&& (2147483647 : Int32)))])) _
    refine XS.istore X0.here hx rfl (hb hby at_4) rfl (l' := #[.val (.int p1), .val (.int p2), .val (.long p3), .second, .val (.int p4), .val (.int (p1 &&& (2147483647 : Int32))), .unset, .unset, .unset, .unset, .unset, .unset, .unset, .unset, .unset, .unset]) rfl ?_
    show Steps p.tables e below (s₁.setTop (mkF m 6 #[.val (.int p1), .val (.int p2), .val (.long p3), .second, .val (.int p4), .val (.int (p1 &&& (2147483647 : Int32))), .unset, .unset, .unset, .unset, .unset, .unset, .unset, .unset, .unset, .unset] [])) _
    refine XS.iload X0.here hx rfl (hb hby at_6) rfl ?_
    show Steps p.tables e below (s₁.setTop (mkF m 8 #[.val (.int p1), .val (.int p2), .val (.long p3), .second, .val (.int p4), .val (.int (p1 &&& (2147483647 : Int32))), .unset, .unset, .unset, .unset, .unset, .unset, .unset, .unset, .unset, .unset] [(.int p4)])) _
    refine X0.ldcInt hx hown (mvT hZ (hw _ (List.mem_of_getElem? (i := 1) rfl))) (g := (mkF m 8 #[.val (.int p1), .val (.int p2), .val (.long p3), .second, .val (.int p4), .val (.int (p1 &&& (2147483647 : Int32))), .unset, .unset, .unset, .unset, .unset, .unset, .unset, .unset, .unset, .unset] [(.int p4)])) rfl (hb hby at_8) _ ?_
    show Steps p.tables e below (s₁.setTop (mkF m 10 #[.val (.int p1), .val (.int p2), .val (.long p3), .second, .val (.int p4), .val (.int (p1 &&& (2147483647 : Int32))), .unset, .unset, .unset, .unset, .unset, .unset, .unset, .unset, .unset, .unset] [(.int (65535 : Int32)), (.int p4)])) _
    refine XS.iand X0.here hx rfl (hb hby at_10) rfl ?_
    show Steps p.tables e below (s₁.setTop (mkF m 11 #[.val (.int p1), .val (.int p2), .val (.long p3), .second, .val (.int p4), .val (.int (p1 &&& (2147483647 : Int32))), .unset, .unset, .unset, .unset, .unset, .unset, .unset, .unset, .unset, .unset] [(.int (p4 &&& (65535 : Int32)))])) _
    refine XS.iconst X0.here hx rfl (hb hby at_11) ?_
    show Steps p.tables e below (s₁.setTop (mkF m 12 #[.val (.int p1), .val (.int p2), .val (.long p3), .second, .val (.int p4), .val (.int (p1 &&& (2147483647 : Int32))), .unset, .unset, .unset, .unset, .unset, .unset, .unset, .unset, .unset, .unset] [(.int (1 : Int32)), (.int (p4 &&& (65535 : Int32)))])) _
    refine XS.iadd X0.here hx rfl (hb hby at_12) rfl ?_
    show Steps p.tables e below (s₁.setTop (mkF m 13 #[.val (.int p1), .val (.int p2), .val (.long p3), .second, .val (.int p4), .val (.int (p1 &&& (2147483647 : Int32))), .unset, .unset, .unset, .unset, .unset, .unset, .unset, .unset, .unset, .unset] [(.int ((p4 &&& (65535 : Int32)) + (1 : Int32)))])) _
    refine XS.i2fS X0.here hx rfl (hb hby at_13) rfl rfl ?_
    show Steps p.tables e below (s₁.setTop (mkF m 14 #[.val (.int p1), .val (.int p2), .val (.long p3), .second, .val (.int p4), .val (.int (p1 &&& (2147483647 : Int32))), .unset, .unset, .unset, .unset, .unset, .unset, .unset, .unset, .unset, .unset] [(.float (FP.i2f ((p4 &&& (65535 : Int32)) + (1 : Int32))))])) _
    refine XS.fstore X0.here hx rfl (hb hby at_14) rfl (l' := #[.val (.int p1), .val (.int p2), .val (.long p3), .second, .val (.int p4), .val (.int (p1 &&& (2147483647 : Int32))), .val (.float (FP.i2f ((p4 &&& (65535 : Int32)) + (1 : Int32)))), .unset, .unset, .unset, .unset, .unset, .unset, .unset, .unset, .unset]) rfl ?_
    show Steps p.tables e below (s₁.setTop (mkF m 16 #[.val (.int p1), .val (.int p2), .val (.long p3), .second, .val (.int p4), .val (.int (p1 &&& (2147483647 : Int32))), .val (.float (FP.i2f ((p4 &&& (65535 : Int32)) + (1 : Int32)))), .unset, .unset, .unset, .unset, .unset, .unset, .unset, .unset, .unset] [])) _
    refine st1 _ ?_
    show Steps p.tables e below (T1.setTop (mkF m 19 #[.val (.int p1), .val (.int p2), .val (.long p3), .second, .val (.int p4), .val (.int (p1 &&& (2147483647 : Int32))), .val (.float (FP.i2f ((p4 &&& (65535 : Int32)) + (1 : Int32)))), .unset, .unset, .unset, .unset, .unset, .unset, .unset, .unset, .unset] [(.ref bc)])) _
    refine XS.dup X1.here hx rfl (hb hby at_19) rfl rfl ?_
    show Steps p.tables e below (T1.setTop (mkF m 20 #[.val (.int p1), .val (.int p2), .val (.long p3), .second, .val (.int p4), .val (.int (p1 &&& (2147483647 : Int32))), .val (.float (FP.i2f ((p4 &&& (65535 : Int32)) + (1 : Int32)))), .unset, .unset, .unset, .unset, .unset, .unset, .unset, .unset, .unset] [(.ref bc), (.ref bc)])) _
    refine XS.iload X1.here hx rfl (hb hby at_20) rfl ?_
    show Steps p.tables e below (T1.setTop (mkF m 22 #[.val (.int p1), .val (.int p2), .val (.long p3), .second, .val (.int p4), .val (.int (p1 &&& (2147483647 : Int32))), .val (.float (FP.i2f ((p4 &&& (65535 : Int32)) + (1 : Int32)))), .unset, .unset, .unset, .unset, .unset, .unset, .unset, .unset, .unset] [(.int (p1 &&& (2147483647 : Int32))), (.ref bc), (.ref bc)])) _
    refine XS.fload X1.here hx rfl (hb hby at_22) rfl ?_
    show Steps p.tables e below (T1.setTop (mkF m 24 #[.val (.int p1), .val (.int p2), .val (.long p3), .second, .val (.int p4), .val (.int (p1 &&& (2147483647 : Int32))), .val (.float (FP.i2f ((p4 &&& (65535 : Int32)) + (1 : Int32)))), .unset, .unset, .unset, .unset, .unset, .unset, .unset, .unset, .unset] [(.float (FP.i2f ((p4 &&& (65535 : Int32)) + (1 : Int32)))), (.int (p1 &&& (2147483647 : Int32))), (.ref bc), (.ref bc)])) _
    refine st5.trans ?_
    show Steps p.tables e below (T5.setTop (mkF m 27 #[.val (.int p1), .val (.int p2), .val (.long p3), .second, .val (.int p4), .val (.int (p1 &&& (2147483647 : Int32))), .val (.float (FP.i2f ((p4 &&& (65535 : Int32)) + (1 : Int32)))), .unset, .unset, .unset, .unset, .unset, .unset, .unset, .unset, .unset] [(.ref bc)])) _
    refine XS.astore X5.here hx rfl (hb hby at_27) rfl rfl (l' := #[.val (.int p1), .val (.int p2), .val (.long p3), .second, .val (.int p4), .val (.int (p1 &&& (2147483647 : Int32))), .val (.float (FP.i2f ((p4 &&& (65535 : Int32)) + (1 : Int32)))), .val (.ref bc), .unset, .unset, .unset, .unset, .unset, .unset, .unset, .unset]) rfl ?_
    show Steps p.tables e below (T5.setTop (mkF m 29 #[.val (.int p1), .val (.int p2), .val (.long p3), .second, .val (.int p4), .val (.int (p1 &&& (2147483647 : Int32))), .val (.float (FP.i2f ((p4 &&& (65535 : Int32)) + (1 : Int32)))), .val (.ref bc), .unset, .unset, .unset, .unset, .unset, .unset, .unset, .unset] [])) _
    refine XS.lloadN X5.here hx rfl (hb hby at_29) rfl ?_
    show Steps p.tables e below (T5.setTop (mkF m 30 #[.val (.int p1), .val (.int p2), .val (.long p3), .second, .val (.int p4), .val (.int (p1 &&& (2147483647 : Int32))), .val (.float (FP.i2f ((p4 &&& (65535 : Int32)) + (1 : Int32)))), .val (.ref bc), .unset, .unset, .unset, .unset, .unset, .unset, .unset, .unset] [(.long p3)])) _
    refine X5.ldc2Long hx hown (mvT hZ (hw _ (List.mem_of_getElem? (i := 35) rfl))) (g := (mkF m 30 #[.val (.int p1), .val (.int p2), .val (.long p3), .second, .val (.int p4), .val (.int (p1 &&& (2147483647 : Int32))), .val (.float (FP.i2f ((p4 &&& (65535 : Int32)) + (1 : Int32)))), .val (.ref bc), .unset, .unset, .unset, .unset, .unset, .unset, .unset, .unset] [(.long p3)])) rfl (hb hby at_30) _ ?_
    show Steps p.tables e below (T5.setTop (mkF m 33 #[.val (.int p1), .val (.int p2), .val (.long p3), .second, .val (.int p4), .val (.int (p1 &&& (2147483647 : Int32))), .val (.float (FP.i2f ((p4 &&& (65535 : Int32)) + (1 : Int32)))), .val (.ref bc), .unset, .unset, .unset, .unset, .unset, .unset, .unset, .unset] [(.long (9223372036854775807 : Int64)), (.long p3)])) _
    refine XS.land X5.here hx rfl (hb hby at_33) rfl ?_
    show Steps p.tables e below (T5.setTop (mkF m 34 #[.val (.int p1), .val (.int p2), .val (.long p3), .second, .val (.int p4), .val (.int (p1 &&& (2147483647 : Int32))), .val (.float (FP.i2f ((p4 &&& (65535 : Int32)) + (1 : Int32)))), .val (.ref bc), .unset, .unset, .unset, .unset, .unset, .unset, .unset, .unset] [(.long (p3 &&& (9223372036854775807 : Int64)))])) _
    refine XS.lstore X5.here hx rfl (hb hby at_34) rfl (l' := #[.val (.int p1), .val (.int p2), .val (.long p3), .second, .val (.int p4), .val (.int (p1 &&& (2147483647 : Int32))), .val (.float (FP.i2f ((p4 &&& (65535 : Int32)) + (1 : Int32)))), .val (.ref bc), .val (.long (p3 &&& (9223372036854775807 : Int64))), .second, .unset, .unset, .unset, .unset, .unset, .unset]) rfl ?_
    show Steps p.tables e below (T5.setTop (mkF m 36 #[.val (.int p1), .val (.int p2), .val (.long p3), .second, .val (.int p4), .val (.int (p1 &&& (2147483647 : Int32))), .val (.float (FP.i2f ((p4 &&& (65535 : Int32)) + (1 : Int32)))), .val (.ref bc), .val (.long (p3 &&& (9223372036854775807 : Int64))), .second, .unset, .unset, .unset, .unset, .unset, .unset] [])) _
    refine XS.iload X5.here hx rfl (hb hby at_36) rfl ?_
    show Steps p.tables e below (T5.setTop (mkF m 38 #[.val (.int p1), .val (.int p2), .val (.long p3), .second, .val (.int p4), .val (.int (p1 &&& (2147483647 : Int32))), .val (.float (FP.i2f ((p4 &&& (65535 : Int32)) + (1 : Int32)))), .val (.ref bc), .val (.long (p3 &&& (9223372036854775807 : Int64))), .second, .unset, .unset, .unset, .unset, .unset, .unset] [(.int (p1 &&& (2147483647 : Int32)))])) _
    refine XS.ifYes X5.here hx rfl (pc0 := 38) (pc' := 57) rfl (hb hby at_38) rfl ((if0 _ _).trans (feq (hc38 : ¬ ((p1 &&& (2147483647 : Int32)) = (0 : Int32)))).2) (by decide) (by decide) ?_
    show Steps p.tables e below (T5.setTop (mkF m 57 #[.val (.int p1), .val (.int p2), .val (.long p3), .second, .val (.int p4), .val (.int (p1 &&& (2147483647 : Int32))), .val (.float (FP.i2f ((p4 &&& (65535 : Int32)) + (1 : Int32)))), .val (.ref bc), .val (.long (p3 &&& (9223372036854775807 : Int64))), .second, .unset, .unset, .unset, .unset, .unset, .unset] [])) _
    refine XS.iloadN X5.here hx rfl (hb hby at_57) rfl ?_
    show Steps p.tables e below (T5.setTop (mkF m 58 #[.val (.int p1), .val (.int p2), .val (.long p3), .second, .val (.int p4), .val (.int (p1 &&& (2147483647 : Int32))), .val (.float (FP.i2f ((p4 &&& (65535 : Int32)) + (1 : Int32)))), .val (.ref bc), .val (.long (p3 &&& (9223372036854775807 : Int64))), .second, .unset, .unset, .unset, .unset, .unset, .unset] [(.int p2)])) _
    refine X5.ldcInt hx hown (mvT hZ (hw _ (List.mem_of_getElem? (i := 0) rfl))) (g := (mkF m 58 #[.val (.int p1), .val (.int p2), .val (.long p3), .second, .val (.int p4), .val (.int (p1 &&& (2147483647 : Int32))), .val (.float (FP.i2f ((p4 &&& (65535 : Int32)) + (1 : Int32)))), .val (.ref bc), .val (.long (p3 &&& (9223372036854775807 : Int64))), .second, .unset, .unset, .unset, .unset, .unset, .unset] [(.int p2)])) rfl (hb hby at_58) _ ?_
    show Steps p.tables e below (T5.setTop (mkF m 60 #[.val (.int p1), .val (.int p2), .val (.long p3), .second, .val (.int p4), .val (.int (p1 &&& (2147483647 : Int32))), .val (.float (FP.i2f ((p4 &&& (65535 : Int32)) + (1 : Int32)))), .val (.ref bc), .val (.long (p3 &&& (9223372036854775807 : Int64))), .second, .unset, .unset, .unset, .unset, .unset, .unset] [(.int (2147483647 : Int32)), (.int p2)])) _
    refine XS.iand X5.here hx rfl (hb hby at_60) rfl ?_
    show Steps p.tables e below (T5.setTop (mkF m 61 #[.val (.int p1), .val (.int p2), .val (.long p3), .second, .val (.int p4), .val (.int (p1 &&& (2147483647 : Int32))), .val (.float (FP.i2f ((p4 &&& (65535 : Int32)) + (1 : Int32)))), .val (.ref bc), .val (.long (p3 &&& (9223372036854775807 : Int64))), .second, .unset, .unset, .unset, .unset, .unset, .unset] [(.int (p2 &&& (2147483647 : Int32)))])) _
    refine XS.iload X5.here hx rfl (hb hby at_61) rfl ?_
    show Steps p.tables e below (T5.setTop (mkF m 63 #[.val (.int p1), .val (.int p2), .val (.long p3), .second, .val (.int p4), .val (.int (p1 &&& (2147483647 : Int32))), .val (.float (FP.i2f ((p4 &&& (65535 : Int32)) + (1 : Int32)))), .val (.ref bc), .val (.long (p3 &&& (9223372036854775807 : Int64))), .second, .unset, .unset, .unset, .unset, .unset, .unset] [(.int (p1 &&& (2147483647 : Int32))), (.int (p2 &&& (2147483647 : Int32)))])) _
    refine iremM X5 hx (g := (mkF m 63 #[.val (.int p1), .val (.int p2), .val (.long p3), .second, .val (.int p4), .val (.int (p1 &&& (2147483647 : Int32))), .val (.float (FP.i2f ((p4 &&& (65535 : Int32)) + (1 : Int32)))), .val (.ref bc), .val (.long (p3 &&& (9223372036854775807 : Int64))), .second, .unset, .unset, .unset, .unset, .unset, .unset] [(.int (p1 &&& (2147483647 : Int32))), (.int (p2 &&& (2147483647 : Int32)))])) rfl (hb hby at_63) rfl hc38 ?_
    show Steps p.tables e below (T5.setTop (mkF m 64 #[.val (.int p1), .val (.int p2), .val (.long p3), .second, .val (.int p4), .val (.int (p1 &&& (2147483647 : Int32))), .val (.float (FP.i2f ((p4 &&& (65535 : Int32)) + (1 : Int32)))), .val (.ref bc), .val (.long (p3 &&& (9223372036854775807 : Int64))), .second, .unset, .unset, .unset, .unset, .unset, .unset] [(.int ((p2 &&& (2147483647 : Int32)) % (p1 &&& (2147483647 : Int32))))])) _
    refine XS.i2l X5.here hx rfl (hb hby at_64) rfl ?_
    show Steps p.tables e below (T5.setTop (mkF m 65 #[.val (.int p1), .val (.int p2), .val (.long p3), .second, .val (.int p4), .val (.int (p1 &&& (2147483647 : Int32))), .val (.float (FP.i2f ((p4 &&& (65535 : Int32)) + (1 : Int32)))), .val (.ref bc), .val (.long (p3 &&& (9223372036854775807 : Int64))), .second, .unset, .unset, .unset, .unset, .unset, .unset] [(.long (((p2 &&& (2147483647 : Int32)) % (p1 &&& (2147483647 : Int32)))).toInt64)])) _
    refine XS.lstore X5.here hx rfl (hb hby at_65) rfl (l' := #[.val (.int p1), .val (.int p2), .val (.long p3), .second, .val (.int p4), .val (.int (p1 &&& (2147483647 : Int32))), .val (.float (FP.i2f ((p4 &&& (65535 : Int32)) + (1 : Int32)))), .val (.ref bc), .val (.long (p3 &&& (9223372036854775807 : Int64))), .second, .val (.long (((p2 &&& (2147483647 : Int32)) % (p1 &&& (2147483647 : Int32)))).toInt64), .second, .unset, .unset, .unset, .unset]) rfl ?_
    show Steps p.tables e below (T5.setTop (mkF m 67 #[.val (.int p1), .val (.int p2), .val (.long p3), .second, .val (.int p4), .val (.int (p1 &&& (2147483647 : Int32))), .val (.float (FP.i2f ((p4 &&& (65535 : Int32)) + (1 : Int32)))), .val (.ref bc), .val (.long (p3 &&& (9223372036854775807 : Int64))), .second, .val (.long (((p2 &&& (2147483647 : Int32)) % (p1 &&& (2147483647 : Int32)))).toInt64), .second, .unset, .unset, .unset, .unset] [])) _
    refine XS.lload X5.here hx rfl (hb hby at_67) rfl ?_
    show Steps p.tables e below (T5.setTop (mkF m 69 #[.val (.int p1), .val (.int p2), .val (.long p3), .second, .val (.int p4), .val (.int (p1 &&& (2147483647 : Int32))), .val (.float (FP.i2f ((p4 &&& (65535 : Int32)) + (1 : Int32)))), .val (.ref bc), .val (.long (p3 &&& (9223372036854775807 : Int64))), .second, .val (.long (((p2 &&& (2147483647 : Int32)) % (p1 &&& (2147483647 : Int32)))).toInt64), .second, .unset, .unset, .unset, .unset] [(.long (p3 &&& (9223372036854775807 : Int64)))])) _
    refine XS.lload X5.here hx rfl (hb hby at_69) rfl ?_
    show Steps p.tables e below (T5.setTop (mkF m 71 #[.val (.int p1), .val (.int p2), .val (.long p3), .second, .val (.int p4), .val (.int (p1 &&& (2147483647 : Int32))), .val (.float (FP.i2f ((p4 &&& (65535 : Int32)) + (1 : Int32)))), .val (.ref bc), .val (.long (p3 &&& (9223372036854775807 : Int64))), .second, .val (.long (((p2 &&& (2147483647 : Int32)) % (p1 &&& (2147483647 : Int32)))).toInt64), .second, .unset, .unset, .unset, .unset] [(.long (((p2 &&& (2147483647 : Int32)) % (p1 &&& (2147483647 : Int32)))).toInt64), (.long (p3 &&& (9223372036854775807 : Int64)))])) _
    refine XS.lcmp X5.here hx rfl (hb hby at_71) rfl ?_
    show Steps p.tables e below (T5.setTop (mkF m 72 #[.val (.int p1), .val (.int p2), .val (.long p3), .second, .val (.int p4), .val (.int (p1 &&& (2147483647 : Int32))), .val (.float (FP.i2f ((p4 &&& (65535 : Int32)) + (1 : Int32)))), .val (.ref bc), .val (.long (p3 &&& (9223372036854775807 : Int64))), .second, .val (.long (((p2 &&& (2147483647 : Int32)) % (p1 &&& (2147483647 : Int32)))).toInt64), .second, .unset, .unset, .unset, .unset] [(.int (lcmpW (p3 &&& (9223372036854775807 : Int64)) (((p2 &&& (2147483647 : Int32)) % (p1 &&& (2147483647 : Int32)))).toInt64))])) _
    refine mg7 _ ?_
    show Steps p.tables e below (T5.setTop (mkF m 90 #[.val (.int p1), .val (.int p2), .val (.long p3), .second, .val (.int p4), .val (.int (p1 &&& (2147483647 : Int32))), .val (.float (FP.i2f ((p4 &&& (65535 : Int32)) + (1 : Int32)))), .val (.ref bc), .val (.long (p3 &&& (9223372036854775807 : Int64))), .second, .val (.long (((p2 &&& (2147483647 : Int32)) % (p1 &&& (2147483647 : Int32)))).toInt64), .second, .val (.long (own_k (p3 &&& (9223372036854775807 : Int64)) (((p2 &&& (2147483647 : Int32)) % (p1 &&& (2147483647 : Int32)))).toInt64 ((p1 &&& (2147483647 : Int32))).toInt64)), .second, .unset, .unset] [])) _
    refine XS.lload X5.here hx rfl (hb hby at_90) rfl ?_
    show Steps p.tables e below (T5.setTop (mkF m 92 #[.val (.int p1), .val (.int p2), .val (.long p3), .second, .val (.int p4), .val (.int (p1 &&& (2147483647 : Int32))), .val (.float (FP.i2f ((p4 &&& (65535 : Int32)) + (1 : Int32)))), .val (.ref bc), .val (.long (p3 &&& (9223372036854775807 : Int64))), .second, .val (.long (((p2 &&& (2147483647 : Int32)) % (p1 &&& (2147483647 : Int32)))).toInt64), .second, .val (.long (own_k (p3 &&& (9223372036854775807 : Int64)) (((p2 &&& (2147483647 : Int32)) % (p1 &&& (2147483647 : Int32)))).toInt64 ((p1 &&& (2147483647 : Int32))).toInt64)), .second, .unset, .unset] [(.long (own_k (p3 &&& (9223372036854775807 : Int64)) (((p2 &&& (2147483647 : Int32)) % (p1 &&& (2147483647 : Int32)))).toInt64 ((p1 &&& (2147483647 : Int32))).toInt64))])) _
    refine XS.iload X5.here hx rfl (hb hby at_92) rfl ?_
    show Steps p.tables e below (T5.setTop (mkF m 94 #[.val (.int p1), .val (.int p2), .val (.long p3), .second, .val (.int p4), .val (.int (p1 &&& (2147483647 : Int32))), .val (.float (FP.i2f ((p4 &&& (65535 : Int32)) + (1 : Int32)))), .val (.ref bc), .val (.long (p3 &&& (9223372036854775807 : Int64))), .second, .val (.long (((p2 &&& (2147483647 : Int32)) % (p1 &&& (2147483647 : Int32)))).toInt64), .second, .val (.long (own_k (p3 &&& (9223372036854775807 : Int64)) (((p2 &&& (2147483647 : Int32)) % (p1 &&& (2147483647 : Int32)))).toInt64 ((p1 &&& (2147483647 : Int32))).toInt64)), .second, .unset, .unset] [(.int (p1 &&& (2147483647 : Int32))), (.long (own_k (p3 &&& (9223372036854775807 : Int64)) (((p2 &&& (2147483647 : Int32)) % (p1 &&& (2147483647 : Int32)))).toInt64 ((p1 &&& (2147483647 : Int32))).toInt64))])) _
    refine XS.i2l X5.here hx rfl (hb hby at_94) rfl ?_
    show Steps p.tables e below (T5.setTop (mkF m 95 #[.val (.int p1), .val (.int p2), .val (.long p3), .second, .val (.int p4), .val (.int (p1 &&& (2147483647 : Int32))), .val (.float (FP.i2f ((p4 &&& (65535 : Int32)) + (1 : Int32)))), .val (.ref bc), .val (.long (p3 &&& (9223372036854775807 : Int64))), .second, .val (.long (((p2 &&& (2147483647 : Int32)) % (p1 &&& (2147483647 : Int32)))).toInt64), .second, .val (.long (own_k (p3 &&& (9223372036854775807 : Int64)) (((p2 &&& (2147483647 : Int32)) % (p1 &&& (2147483647 : Int32)))).toInt64 ((p1 &&& (2147483647 : Int32))).toInt64)), .second, .unset, .unset] [(.long ((p1 &&& (2147483647 : Int32))).toInt64), (.long (own_k (p3 &&& (9223372036854775807 : Int64)) (((p2 &&& (2147483647 : Int32)) % (p1 &&& (2147483647 : Int32)))).toInt64 ((p1 &&& (2147483647 : Int32))).toInt64))])) _
    refine XS.lmul X5.here hx rfl (hb hby at_95) rfl ?_
    show Steps p.tables e below (T5.setTop (mkF m 96 #[.val (.int p1), .val (.int p2), .val (.long p3), .second, .val (.int p4), .val (.int (p1 &&& (2147483647 : Int32))), .val (.float (FP.i2f ((p4 &&& (65535 : Int32)) + (1 : Int32)))), .val (.ref bc), .val (.long (p3 &&& (9223372036854775807 : Int64))), .second, .val (.long (((p2 &&& (2147483647 : Int32)) % (p1 &&& (2147483647 : Int32)))).toInt64), .second, .val (.long (own_k (p3 &&& (9223372036854775807 : Int64)) (((p2 &&& (2147483647 : Int32)) % (p1 &&& (2147483647 : Int32)))).toInt64 ((p1 &&& (2147483647 : Int32))).toInt64)), .second, .unset, .unset] [(.long ((own_k (p3 &&& (9223372036854775807 : Int64)) (((p2 &&& (2147483647 : Int32)) % (p1 &&& (2147483647 : Int32)))).toInt64 ((p1 &&& (2147483647 : Int32))).toInt64) * ((p1 &&& (2147483647 : Int32))).toInt64))])) _
    refine XS.lload X5.here hx rfl (hb hby at_96) rfl ?_
    show Steps p.tables e below (T5.setTop (mkF m 98 #[.val (.int p1), .val (.int p2), .val (.long p3), .second, .val (.int p4), .val (.int (p1 &&& (2147483647 : Int32))), .val (.float (FP.i2f ((p4 &&& (65535 : Int32)) + (1 : Int32)))), .val (.ref bc), .val (.long (p3 &&& (9223372036854775807 : Int64))), .second, .val (.long (((p2 &&& (2147483647 : Int32)) % (p1 &&& (2147483647 : Int32)))).toInt64), .second, .val (.long (own_k (p3 &&& (9223372036854775807 : Int64)) (((p2 &&& (2147483647 : Int32)) % (p1 &&& (2147483647 : Int32)))).toInt64 ((p1 &&& (2147483647 : Int32))).toInt64)), .second, .unset, .unset] [(.long (((p2 &&& (2147483647 : Int32)) % (p1 &&& (2147483647 : Int32)))).toInt64), (.long ((own_k (p3 &&& (9223372036854775807 : Int64)) (((p2 &&& (2147483647 : Int32)) % (p1 &&& (2147483647 : Int32)))).toInt64 ((p1 &&& (2147483647 : Int32))).toInt64) * ((p1 &&& (2147483647 : Int32))).toInt64))])) _
    refine XS.ladd X5.here hx rfl (hb hby at_98) rfl ?_
    show Steps p.tables e below (T5.setTop (mkF m 99 #[.val (.int p1), .val (.int p2), .val (.long p3), .second, .val (.int p4), .val (.int (p1 &&& (2147483647 : Int32))), .val (.float (FP.i2f ((p4 &&& (65535 : Int32)) + (1 : Int32)))), .val (.ref bc), .val (.long (p3 &&& (9223372036854775807 : Int64))), .second, .val (.long (((p2 &&& (2147483647 : Int32)) % (p1 &&& (2147483647 : Int32)))).toInt64), .second, .val (.long (own_k (p3 &&& (9223372036854775807 : Int64)) (((p2 &&& (2147483647 : Int32)) % (p1 &&& (2147483647 : Int32)))).toInt64 ((p1 &&& (2147483647 : Int32))).toInt64)), .second, .unset, .unset] [(.long (((own_k (p3 &&& (9223372036854775807 : Int64)) (((p2 &&& (2147483647 : Int32)) % (p1 &&& (2147483647 : Int32)))).toInt64 ((p1 &&& (2147483647 : Int32))).toInt64) * ((p1 &&& (2147483647 : Int32))).toInt64) + (((p2 &&& (2147483647 : Int32)) % (p1 &&& (2147483647 : Int32)))).toInt64))])) _
    refine XS.lstore X5.here hx rfl (hb hby at_99) rfl (l' := #[.val (.int p1), .val (.int p2), .val (.long p3), .second, .val (.int p4), .val (.int (p1 &&& (2147483647 : Int32))), .val (.float (FP.i2f ((p4 &&& (65535 : Int32)) + (1 : Int32)))), .val (.ref bc), .val (.long (p3 &&& (9223372036854775807 : Int64))), .second, .val (.long (((p2 &&& (2147483647 : Int32)) % (p1 &&& (2147483647 : Int32)))).toInt64), .second, .val (.long (own_k (p3 &&& (9223372036854775807 : Int64)) (((p2 &&& (2147483647 : Int32)) % (p1 &&& (2147483647 : Int32)))).toInt64 ((p1 &&& (2147483647 : Int32))).toInt64)), .second, .val (.long (((own_k (p3 &&& (9223372036854775807 : Int64)) (((p2 &&& (2147483647 : Int32)) % (p1 &&& (2147483647 : Int32)))).toInt64 ((p1 &&& (2147483647 : Int32))).toInt64) * ((p1 &&& (2147483647 : Int32))).toInt64) + (((p2 &&& (2147483647 : Int32)) % (p1 &&& (2147483647 : Int32)))).toInt64)), .second]) rfl ?_
    show Steps p.tables e below (T5.setTop (mkF m 101 #[.val (.int p1), .val (.int p2), .val (.long p3), .second, .val (.int p4), .val (.int (p1 &&& (2147483647 : Int32))), .val (.float (FP.i2f ((p4 &&& (65535 : Int32)) + (1 : Int32)))), .val (.ref bc), .val (.long (p3 &&& (9223372036854775807 : Int64))), .second, .val (.long (((p2 &&& (2147483647 : Int32)) % (p1 &&& (2147483647 : Int32)))).toInt64), .second, .val (.long (own_k (p3 &&& (9223372036854775807 : Int64)) (((p2 &&& (2147483647 : Int32)) % (p1 &&& (2147483647 : Int32)))).toInt64 ((p1 &&& (2147483647 : Int32))).toInt64)), .second, .val (.long (((own_k (p3 &&& (9223372036854775807 : Int64)) (((p2 &&& (2147483647 : Int32)) % (p1 &&& (2147483647 : Int32)))).toInt64 ((p1 &&& (2147483647 : Int32))).toInt64) * ((p1 &&& (2147483647 : Int32))).toInt64) + (((p2 &&& (2147483647 : Int32)) % (p1 &&& (2147483647 : Int32)))).toInt64)), .second] [])) _
    refine XS.lload X5.here hx rfl (hb hby at_101) rfl ?_
    show Steps p.tables e below (T5.setTop (mkF m 103 #[.val (.int p1), .val (.int p2), .val (.long p3), .second, .val (.int p4), .val (.int (p1 &&& (2147483647 : Int32))), .val (.float (FP.i2f ((p4 &&& (65535 : Int32)) + (1 : Int32)))), .val (.ref bc), .val (.long (p3 &&& (9223372036854775807 : Int64))), .second, .val (.long (((p2 &&& (2147483647 : Int32)) % (p1 &&& (2147483647 : Int32)))).toInt64), .second, .val (.long (own_k (p3 &&& (9223372036854775807 : Int64)) (((p2 &&& (2147483647 : Int32)) % (p1 &&& (2147483647 : Int32)))).toInt64 ((p1 &&& (2147483647 : Int32))).toInt64)), .second, .val (.long (((own_k (p3 &&& (9223372036854775807 : Int64)) (((p2 &&& (2147483647 : Int32)) % (p1 &&& (2147483647 : Int32)))).toInt64 ((p1 &&& (2147483647 : Int32))).toInt64) * ((p1 &&& (2147483647 : Int32))).toInt64) + (((p2 &&& (2147483647 : Int32)) % (p1 &&& (2147483647 : Int32)))).toInt64)), .second] [(.long (((own_k (p3 &&& (9223372036854775807 : Int64)) (((p2 &&& (2147483647 : Int32)) % (p1 &&& (2147483647 : Int32)))).toInt64 ((p1 &&& (2147483647 : Int32))).toInt64) * ((p1 &&& (2147483647 : Int32))).toInt64) + (((p2 &&& (2147483647 : Int32)) % (p1 &&& (2147483647 : Int32)))).toInt64))])) _
    refine XS.lconst X5.here hx rfl (hb hby at_103) ?_
    show Steps p.tables e below (T5.setTop (mkF m 104 #[.val (.int p1), .val (.int p2), .val (.long p3), .second, .val (.int p4), .val (.int (p1 &&& (2147483647 : Int32))), .val (.float (FP.i2f ((p4 &&& (65535 : Int32)) + (1 : Int32)))), .val (.ref bc), .val (.long (p3 &&& (9223372036854775807 : Int64))), .second, .val (.long (((p2 &&& (2147483647 : Int32)) % (p1 &&& (2147483647 : Int32)))).toInt64), .second, .val (.long (own_k (p3 &&& (9223372036854775807 : Int64)) (((p2 &&& (2147483647 : Int32)) % (p1 &&& (2147483647 : Int32)))).toInt64 ((p1 &&& (2147483647 : Int32))).toInt64)), .second, .val (.long (((own_k (p3 &&& (9223372036854775807 : Int64)) (((p2 &&& (2147483647 : Int32)) % (p1 &&& (2147483647 : Int32)))).toInt64 ((p1 &&& (2147483647 : Int32))).toInt64) * ((p1 &&& (2147483647 : Int32))).toInt64) + (((p2 &&& (2147483647 : Int32)) % (p1 &&& (2147483647 : Int32)))).toInt64)), .second] [(.long (0 : Int64)), (.long (((own_k (p3 &&& (9223372036854775807 : Int64)) (((p2 &&& (2147483647 : Int32)) % (p1 &&& (2147483647 : Int32)))).toInt64 ((p1 &&& (2147483647 : Int32))).toInt64) * ((p1 &&& (2147483647 : Int32))).toInt64) + (((p2 &&& (2147483647 : Int32)) % (p1 &&& (2147483647 : Int32)))).toInt64))])) _
    refine XS.lcmp X5.here hx rfl (hb hby at_104) rfl ?_
    show Steps p.tables e below (T5.setTop (mkF m 105 #[.val (.int p1), .val (.int p2), .val (.long p3), .second, .val (.int p4), .val (.int (p1 &&& (2147483647 : Int32))), .val (.float (FP.i2f ((p4 &&& (65535 : Int32)) + (1 : Int32)))), .val (.ref bc), .val (.long (p3 &&& (9223372036854775807 : Int64))), .second, .val (.long (((p2 &&& (2147483647 : Int32)) % (p1 &&& (2147483647 : Int32)))).toInt64), .second, .val (.long (own_k (p3 &&& (9223372036854775807 : Int64)) (((p2 &&& (2147483647 : Int32)) % (p1 &&& (2147483647 : Int32)))).toInt64 ((p1 &&& (2147483647 : Int32))).toInt64)), .second, .val (.long (((own_k (p3 &&& (9223372036854775807 : Int64)) (((p2 &&& (2147483647 : Int32)) % (p1 &&& (2147483647 : Int32)))).toInt64 ((p1 &&& (2147483647 : Int32))).toInt64) * ((p1 &&& (2147483647 : Int32))).toInt64) + (((p2 &&& (2147483647 : Int32)) % (p1 &&& (2147483647 : Int32)))).toInt64)), .second] [(.int (lcmpW (((own_k (p3 &&& (9223372036854775807 : Int64)) (((p2 &&& (2147483647 : Int32)) % (p1 &&& (2147483647 : Int32)))).toInt64 ((p1 &&& (2147483647 : Int32))).toInt64) * ((p1 &&& (2147483647 : Int32))).toInt64) + (((p2 &&& (2147483647 : Int32)) % (p1 &&& (2147483647 : Int32)))).toInt64) (0 : Int64)))])) _
    refine XS.ifYes X5.here hx rfl (pc0 := 105) (pc' := 110) rfl (hb hby at_105) rfl ((if0 _ _).trans (feq (hc105 : ¬ ((lcmpW (((own_k (p3 &&& (9223372036854775807 : Int64)) (((p2 &&& (2147483647 : Int32)) % (p1 &&& (2147483647 : Int32)))).toInt64 ((p1 &&& (2147483647 : Int32))).toInt64) * ((p1 &&& (2147483647 : Int32))).toInt64) + (((p2 &&& (2147483647 : Int32)) % (p1 &&& (2147483647 : Int32)))).toInt64) (0 : Int64)) = (0 : Int32)))).2) (by decide) (by decide) ?_
    show Steps p.tables e below (T5.setTop (mkF m 110 #[.val (.int p1), .val (.int p2), .val (.long p3), .second, .val (.int p4), .val (.int (p1 &&& (2147483647 : Int32))), .val (.float (FP.i2f ((p4 &&& (65535 : Int32)) + (1 : Int32)))), .val (.ref bc), .val (.long (p3 &&& (9223372036854775807 : Int64))), .second, .val (.long (((p2 &&& (2147483647 : Int32)) % (p1 &&& (2147483647 : Int32)))).toInt64), .second, .val (.long (own_k (p3 &&& (9223372036854775807 : Int64)) (((p2 &&& (2147483647 : Int32)) % (p1 &&& (2147483647 : Int32)))).toInt64 ((p1 &&& (2147483647 : Int32))).toInt64)), .second, .val (.long (((own_k (p3 &&& (9223372036854775807 : Int64)) (((p2 &&& (2147483647 : Int32)) % (p1 &&& (2147483647 : Int32)))).toInt64 ((p1 &&& (2147483647 : Int32))).toInt64) * ((p1 &&& (2147483647 : Int32))).toInt64) + (((p2 &&& (2147483647 : Int32)) % (p1 &&& (2147483647 : Int32)))).toInt64)), .second] [])) _
    refine XS.aload X5.here hx rfl (hb hby at_110) rfl rfl ?_
    show Steps p.tables e below (T5.setTop (mkF m 112 #[.val (.int p1), .val (.int p2), .val (.long p3), .second, .val (.int p4), .val (.int (p1 &&& (2147483647 : Int32))), .val (.float (FP.i2f ((p4 &&& (65535 : Int32)) + (1 : Int32)))), .val (.ref bc), .val (.long (p3 &&& (9223372036854775807 : Int64))), .second, .val (.long (((p2 &&& (2147483647 : Int32)) % (p1 &&& (2147483647 : Int32)))).toInt64), .second, .val (.long (own_k (p3 &&& (9223372036854775807 : Int64)) (((p2 &&& (2147483647 : Int32)) % (p1 &&& (2147483647 : Int32)))).toInt64 ((p1 &&& (2147483647 : Int32))).toInt64)), .second, .val (.long (((own_k (p3 &&& (9223372036854775807 : Int64)) (((p2 &&& (2147483647 : Int32)) % (p1 &&& (2147483647 : Int32)))).toInt64 ((p1 &&& (2147483647 : Int32))).toInt64) * ((p1 &&& (2147483647 : Int32))).toInt64) + (((p2 &&& (2147483647 : Int32)) % (p1 &&& (2147483647 : Int32)))).toInt64)), .second] [(.ref bc)])) _
    refine XS.lload X5.here hx rfl (hb hby at_112) rfl ?_
    show Steps p.tables e below (T5.setTop (mkF m 114 #[.val (.int p1), .val (.int p2), .val (.long p3), .second, .val (.int p4), .val (.int (p1 &&& (2147483647 : Int32))), .val (.float (FP.i2f ((p4 &&& (65535 : Int32)) + (1 : Int32)))), .val (.ref bc), .val (.long (p3 &&& (9223372036854775807 : Int64))), .second, .val (.long (((p2 &&& (2147483647 : Int32)) % (p1 &&& (2147483647 : Int32)))).toInt64), .second, .val (.long (own_k (p3 &&& (9223372036854775807 : Int64)) (((p2 &&& (2147483647 : Int32)) % (p1 &&& (2147483647 : Int32)))).toInt64 ((p1 &&& (2147483647 : Int32))).toInt64)), .second, .val (.long (((own_k (p3 &&& (9223372036854775807 : Int64)) (((p2 &&& (2147483647 : Int32)) % (p1 &&& (2147483647 : Int32)))).toInt64 ((p1 &&& (2147483647 : Int32))).toInt64) * ((p1 &&& (2147483647 : Int32))).toInt64) + (((p2 &&& (2147483647 : Int32)) % (p1 &&& (2147483647 : Int32)))).toInt64)), .second] [(.long (((own_k (p3 &&& (9223372036854775807 : Int64)) (((p2 &&& (2147483647 : Int32)) % (p1 &&& (2147483647 : Int32)))).toInt64 ((p1 &&& (2147483647 : Int32))).toInt64) * ((p1 &&& (2147483647 : Int32))).toInt64) + (((p2 &&& (2147483647 : Int32)) % (p1 &&& (2147483647 : Int32)))).toInt64)), (.ref bc)])) _
    refine st8.trans ?_
    show Steps p.tables e below (T8.setTop (mkF m 117 #[.val (.int p1), .val (.int p2), .val (.long p3), .second, .val (.int p4), .val (.int (p1 &&& (2147483647 : Int32))), .val (.float (FP.i2f ((p4 &&& (65535 : Int32)) + (1 : Int32)))), .val (.ref bc), .val (.long (p3 &&& (9223372036854775807 : Int64))), .second, .val (.long (((p2 &&& (2147483647 : Int32)) % (p1 &&& (2147483647 : Int32)))).toInt64), .second, .val (.long (own_k (p3 &&& (9223372036854775807 : Int64)) (((p2 &&& (2147483647 : Int32)) % (p1 &&& (2147483647 : Int32)))).toInt64 ((p1 &&& (2147483647 : Int32))).toInt64)), .second, .val (.long (((own_k (p3 &&& (9223372036854775807 : Int64)) (((p2 &&& (2147483647 : Int32)) % (p1 &&& (2147483647 : Int32)))).toInt64 ((p1 &&& (2147483647 : Int32))).toInt64) * ((p1 &&& (2147483647 : Int32))).toInt64) + (((p2 &&& (2147483647 : Int32)) % (p1 &&& (2147483647 : Int32)))).toInt64)), .second] [(.int (0 : Int32))])) _
    refine XS.lload X8.here hx rfl (hb hby at_117) rfl ?_
    show Steps p.tables e below (T8.setTop (mkF m 119 #[.val (.int p1), .val (.int p2), .val (.long p3), .second, .val (.int p4), .val (.int (p1 &&& (2147483647 : Int32))), .val (.float (FP.i2f ((p4 &&& (65535 : Int32)) + (1 : Int32)))), .val (.ref bc), .val (.long (p3 &&& (9223372036854775807 : Int64))), .second, .val (.long (((p2 &&& (2147483647 : Int32)) % (p1 &&& (2147483647 : Int32)))).toInt64), .second, .val (.long (own_k (p3 &&& (9223372036854775807 : Int64)) (((p2 &&& (2147483647 : Int32)) % (p1 &&& (2147483647 : Int32)))).toInt64 ((p1 &&& (2147483647 : Int32))).toInt64)), .second, .val (.long (((own_k (p3 &&& (9223372036854775807 : Int64)) (((p2 &&& (2147483647 : Int32)) % (p1 &&& (2147483647 : Int32)))).toInt64 ((p1 &&& (2147483647 : Int32))).toInt64) * ((p1 &&& (2147483647 : Int32))).toInt64) + (((p2 &&& (2147483647 : Int32)) % (p1 &&& (2147483647 : Int32)))).toInt64)), .second] [(.long (((p2 &&& (2147483647 : Int32)) % (p1 &&& (2147483647 : Int32)))).toInt64), (.int (0 : Int32))])) _
    refine XS.lconst X8.here hx rfl (hb hby at_119) ?_
    show Steps p.tables e below (T8.setTop (mkF m 120 #[.val (.int p1), .val (.int p2), .val (.long p3), .second, .val (.int p4), .val (.int (p1 &&& (2147483647 : Int32))), .val (.float (FP.i2f ((p4 &&& (65535 : Int32)) + (1 : Int32)))), .val (.ref bc), .val (.long (p3 &&& (9223372036854775807 : Int64))), .second, .val (.long (((p2 &&& (2147483647 : Int32)) % (p1 &&& (2147483647 : Int32)))).toInt64), .second, .val (.long (own_k (p3 &&& (9223372036854775807 : Int64)) (((p2 &&& (2147483647 : Int32)) % (p1 &&& (2147483647 : Int32)))).toInt64 ((p1 &&& (2147483647 : Int32))).toInt64)), .second, .val (.long (((own_k (p3 &&& (9223372036854775807 : Int64)) (((p2 &&& (2147483647 : Int32)) % (p1 &&& (2147483647 : Int32)))).toInt64 ((p1 &&& (2147483647 : Int32))).toInt64) * ((p1 &&& (2147483647 : Int32))).toInt64) + (((p2 &&& (2147483647 : Int32)) % (p1 &&& (2147483647 : Int32)))).toInt64)), .second] [(.long (0 : Int64)), (.long (((p2 &&& (2147483647 : Int32)) % (p1 &&& (2147483647 : Int32)))).toInt64), (.int (0 : Int32))])) _
    refine XS.lcmp X8.here hx rfl (hb hby at_120) rfl ?_
    show Steps p.tables e below (T8.setTop (mkF m 121 #[.val (.int p1), .val (.int p2), .val (.long p3), .second, .val (.int p4), .val (.int (p1 &&& (2147483647 : Int32))), .val (.float (FP.i2f ((p4 &&& (65535 : Int32)) + (1 : Int32)))), .val (.ref bc), .val (.long (p3 &&& (9223372036854775807 : Int64))), .second, .val (.long (((p2 &&& (2147483647 : Int32)) % (p1 &&& (2147483647 : Int32)))).toInt64), .second, .val (.long (own_k (p3 &&& (9223372036854775807 : Int64)) (((p2 &&& (2147483647 : Int32)) % (p1 &&& (2147483647 : Int32)))).toInt64 ((p1 &&& (2147483647 : Int32))).toInt64)), .second, .val (.long (((own_k (p3 &&& (9223372036854775807 : Int64)) (((p2 &&& (2147483647 : Int32)) % (p1 &&& (2147483647 : Int32)))).toInt64 ((p1 &&& (2147483647 : Int32))).toInt64) * ((p1 &&& (2147483647 : Int32))).toInt64) + (((p2 &&& (2147483647 : Int32)) % (p1 &&& (2147483647 : Int32)))).toInt64)), .second] [(.int (lcmpW (((p2 &&& (2147483647 : Int32)) % (p1 &&& (2147483647 : Int32)))).toInt64 (0 : Int64))), (.int (0 : Int32))])) _
    refine XS.ifYes X8.here hx rfl (pc0 := 121) (pc' := 128) rfl (hb hby at_121) rfl ((if0 _ _).trans (feq (hc121 : ¬ ((lcmpW (((p2 &&& (2147483647 : Int32)) % (p1 &&& (2147483647 : Int32)))).toInt64 (0 : Int64)) = (0 : Int32)))).2) (by decide) (by decide) ?_
    show Steps p.tables e below (T8.setTop (mkF m 128 #[.val (.int p1), .val (.int p2), .val (.long p3), .second, .val (.int p4), .val (.int (p1 &&& (2147483647 : Int32))), .val (.float (FP.i2f ((p4 &&& (65535 : Int32)) + (1 : Int32)))), .val (.ref bc), .val (.long (p3 &&& (9223372036854775807 : Int64))), .second, .val (.long (((p2 &&& (2147483647 : Int32)) % (p1 &&& (2147483647 : Int32)))).toInt64), .second, .val (.long (own_k (p3 &&& (9223372036854775807 : Int64)) (((p2 &&& (2147483647 : Int32)) % (p1 &&& (2147483647 : Int32)))).toInt64 ((p1 &&& (2147483647 : Int32))).toInt64)), .second, .val (.long (((own_k (p3 &&& (9223372036854775807 : Int64)) (((p2 &&& (2147483647 : Int32)) % (p1 &&& (2147483647 : Int32)))).toInt64 ((p1 &&& (2147483647 : Int32))).toInt64) * ((p1 &&& (2147483647 : Int32))).toInt64) + (((p2 &&& (2147483647 : Int32)) % (p1 &&& (2147483647 : Int32)))).toInt64)), .second] [(.int (0 : Int32))])) _
    refine XS.iconst X8.here hx rfl (hb hby at_128) ?_
    show Steps p.tables e below (T8.setTop (mkF m 129 #[.val (.int p1), .val (.int p2), .val (.long p3), .second, .val (.int p4), .val (.int (p1 &&& (2147483647 : Int32))), .val (.float (FP.i2f ((p4 &&& (65535 : Int32)) + (1 : Int32)))), .val (.ref bc), .val (.long (p3 &&& (9223372036854775807 : Int64))), .second, .val (.long (((p2 &&& (2147483647 : Int32)) % (p1 &&& (2147483647 : Int32)))).toInt64), .second, .val (.long (own_k (p3 &&& (9223372036854775807 : Int64)) (((p2 &&& (2147483647 : Int32)) % (p1 &&& (2147483647 : Int32)))).toInt64 ((p1 &&& (2147483647 : Int32))).toInt64)), .second, .val (.long (((own_k (p3 &&& (9223372036854775807 : Int64)) (((p2 &&& (2147483647 : Int32)) % (p1 &&& (2147483647 : Int32)))).toInt64 ((p1 &&& (2147483647 : Int32))).toInt64) * ((p1 &&& (2147483647 : Int32))).toInt64) + (((p2 &&& (2147483647 : Int32)) % (p1 &&& (2147483647 : Int32)))).toInt64)), .second] [(.int (0 : Int32)), (.int (0 : Int32))])) _
    refine XS.icmpNo X8.here hx rfl (hb hby at_129) rfl (teq (by decide : (0 : Int32) = (0 : Int32))).2 ?_
    show Steps p.tables e below (T8.setTop (mkF m 132 #[.val (.int p1), .val (.int p2), .val (.long p3), .second, .val (.int p4), .val (.int (p1 &&& (2147483647 : Int32))), .val (.float (FP.i2f ((p4 &&& (65535 : Int32)) + (1 : Int32)))), .val (.ref bc), .val (.long (p3 &&& (9223372036854775807 : Int64))), .second, .val (.long (((p2 &&& (2147483647 : Int32)) % (p1 &&& (2147483647 : Int32)))).toInt64), .second, .val (.long (own_k (p3 &&& (9223372036854775807 : Int64)) (((p2 &&& (2147483647 : Int32)) % (p1 &&& (2147483647 : Int32)))).toInt64 ((p1 &&& (2147483647 : Int32))).toInt64)), .second, .val (.long (((own_k (p3 &&& (9223372036854775807 : Int64)) (((p2 &&& (2147483647 : Int32)) % (p1 &&& (2147483647 : Int32)))).toInt64 ((p1 &&& (2147483647 : Int32))).toInt64) * ((p1 &&& (2147483647 : Int32))).toInt64) + (((p2 &&& (2147483647 : Int32)) % (p1 &&& (2147483647 : Int32)))).toInt64)), .second] [])) _
    refine XS.iconst X8.here hx rfl (hb hby at_132) ?_
    show Steps p.tables e below (T8.setTop (mkF m 133 #[.val (.int p1), .val (.int p2), .val (.long p3), .second, .val (.int p4), .val (.int (p1 &&& (2147483647 : Int32))), .val (.float (FP.i2f ((p4 &&& (65535 : Int32)) + (1 : Int32)))), .val (.ref bc), .val (.long (p3 &&& (9223372036854775807 : Int64))), .second, .val (.long (((p2 &&& (2147483647 : Int32)) % (p1 &&& (2147483647 : Int32)))).toInt64), .second, .val (.long (own_k (p3 &&& (9223372036854775807 : Int64)) (((p2 &&& (2147483647 : Int32)) % (p1 &&& (2147483647 : Int32)))).toInt64 ((p1 &&& (2147483647 : Int32))).toInt64)), .second, .val (.long (((own_k (p3 &&& (9223372036854775807 : Int64)) (((p2 &&& (2147483647 : Int32)) % (p1 &&& (2147483647 : Int32)))).toInt64 ((p1 &&& (2147483647 : Int32))).toInt64) * ((p1 &&& (2147483647 : Int32))).toInt64) + (((p2 &&& (2147483647 : Int32)) % (p1 &&& (2147483647 : Int32)))).toInt64)), .second] [(.int (1 : Int32))])) _
    refine XS.goto X8.here hx rfl (pc0 := 133) (pc' := 137) rfl (hb hby at_133) (by decide) (by decide) ?_
    show Steps p.tables e below (T8.setTop (mkF m 137 #[.val (.int p1), .val (.int p2), .val (.long p3), .second, .val (.int p4), .val (.int (p1 &&& (2147483647 : Int32))), .val (.float (FP.i2f ((p4 &&& (65535 : Int32)) + (1 : Int32)))), .val (.ref bc), .val (.long (p3 &&& (9223372036854775807 : Int64))), .second, .val (.long (((p2 &&& (2147483647 : Int32)) % (p1 &&& (2147483647 : Int32)))).toInt64), .second, .val (.long (own_k (p3 &&& (9223372036854775807 : Int64)) (((p2 &&& (2147483647 : Int32)) % (p1 &&& (2147483647 : Int32)))).toInt64 ((p1 &&& (2147483647 : Int32))).toInt64)), .second, .val (.long (((own_k (p3 &&& (9223372036854775807 : Int64)) (((p2 &&& (2147483647 : Int32)) % (p1 &&& (2147483647 : Int32)))).toInt64 ((p1 &&& (2147483647 : Int32))).toInt64) * ((p1 &&& (2147483647 : Int32))).toInt64) + (((p2 &&& (2147483647 : Int32)) % (p1 &&& (2147483647 : Int32)))).toInt64)), .second] [(.int (1 : Int32))])) _
    exact retOut X8 hx (t := .boolean) (i := .ireturn) Bd.returns rfl (Or.inl ⟨rfl, Or.inr (Or.inl rfl), _, rfl⟩) (hb hby at_137) hr
  · show Q_lawD Z p1 p2 p3 p4 h0 n0 _ T8.heap _
    rw [e8]
    exact ⟨rfl, N8⟩
set_option maxRecDepth 65536 in
set_option maxHeartbeats 40000000 in
theorem comes_1 {Post : Tables → Env → Array Value → State → Outcome → State → Prop} (hpost : ∀ tb e args s v u, (limb_1_1.after args s (.returned v) u = true ∧ limb_1_2.after args s (.returned v) u = true ∧ True) → FrameEnd s (.returned v) u (Jvm.fieldLocs frame_1_writes args s ++ Jvm.arrayLocs frame_1_arrays args s ++ Jvm.staticLocs frame_1_statics s) 16 128 → Post tb e args s (.returned v) u) :
    ArmFor flags0 classFile x code maxLocals ret World_1 tables_1 room_1 Calls_1 rest_1 Pre_1 Post := by
  intro l hfl _ _ p e ha hc hk s m args below hf hA hF happ hP
  obtain ⟨hcalls, hrest, hpre⟩ := hP
  obtain ⟨-, -, -, hnamed, -, -, -, hat⟩ := (Spec.applies_iff hf).mp happ
  obtain ⟨hg, hn⟩ := and_e (Cond.before_iff.mp (show (Jvm.Cond.and given_1 narrow_1).before args s = true from hpre))
  obtain ⟨g0, r0⟩ := and_e hg
  obtain ⟨g1, r1⟩ := and_e r0
  obtain ⟨g2, r2⟩ := and_e r1
  obtain ⟨g3, r3⟩ := and_e r2
  obtain ⟨w0, w1, w2, w3, rfl⟩ : ∃ w0 w1 w2 w3 : Value, args = #[w0, w1, w2, w3] := by
    have hs : args.size = 4 := by simpa [Cond.value, given_1] using g0
    obtain ⟨L⟩ := args
    match L, hs with
    | [w0, w1, w2, w3], _ => exact ⟨w0, w1, w2, w3, rfl⟩
  have hw := fun d (hd : d ∈ tables_1) => atoms_spec (ws := Jvm.Cond.code x code maxLocals ret :: tables_1) hat d (List.mem_cons_of_mem _ hd)
  obtain ⟨i0, q0⟩ := is_v g1
  obtain rfl : w0 = (.int i0) := Option.some.inj q0
  obtain ⟨i1, q1⟩ := is_v g2
  obtain rfl : w1 = (.int i1) := Option.some.inj q1
  obtain ⟨i2, q2⟩ := isL_v g3
  obtain rfl : w2 = (.long i2) := Option.some.inj q2
  obtain ⟨i3, q3⟩ := is_v r3
  obtain rfl : w3 = (.int i3) := Option.some.inj q3
  by_cases hc38 : (i0 &&& (2147483647 : Int32)) = (0 : Int32)
  · obtain ⟨n, o, h1, h2, h3, _, L, rfl, ⟨rfl, N⟩, hq⟩ := rm_lawA l s _ hw tables_1 i0 i1 i2 i3 s.heap s.heap.size (Nat.le_refl _) hc38 p e ha hc hk s m _ below hf ((Spec.applies_iff_loose hf).mp happ).1 ⟨rfl, State.Warmed39.refl s, rfl⟩ trivial
    refine ⟨n, _, h1, h2, h3, hpost _ _ _ _ _ _ ⟨Cond.after_iff.mpr rfl, Cond.after_iff.mpr (eq_i res_at (Term.int_eval (1)) rfl), trivial⟩ ⟨hq.1, hq.2.1, (hq.2.2.sift fun y hy => Or.inr (N y hy)).mono (by decide) (by decide)⟩⟩
  · by_cases hc105 : (lcmpW (((own_k (i2 &&& (9223372036854775807 : Int64)) (((i1 &&& (2147483647 : Int32)) % (i0 &&& (2147483647 : Int32)))).toInt64 ((i0 &&& (2147483647 : Int32))).toInt64) * ((i0 &&& (2147483647 : Int32))).toInt64) + (((i1 &&& (2147483647 : Int32)) % (i0 &&& (2147483647 : Int32)))).toInt64) (0 : Int64)) = (0 : Int32)
    · obtain ⟨n, o, h1, h2, h3, _, L, rfl, ⟨rfl, N⟩, hq⟩ := rm_lawB l s _ hw tables_1 i0 i1 i2 i3 s.heap s.heap.size (Nat.le_refl _) hc38 hc105 p e ha hc hk s m _ below hf ((Spec.applies_iff_loose hf).mp happ).1 ⟨rfl, State.Warmed39.refl s, rfl⟩ trivial
      refine ⟨n, _, h1, h2, h3, hpost _ _ _ _ _ _ ⟨Cond.after_iff.mpr rfl, Cond.after_iff.mpr (eq_i res_at (Term.int_eval (1)) rfl), trivial⟩ ⟨hq.1, hq.2.1, (hq.2.2.sift fun y hy => Or.inr (N y hy)).mono (by decide) (by decide)⟩⟩
    · by_cases hc121 : (lcmpW (((i1 &&& (2147483647 : Int32)) % (i0 &&& (2147483647 : Int32)))).toInt64 (0 : Int64)) = (0 : Int32)
      · obtain ⟨n, o, h1, h2, h3, _, L, rfl, ⟨rfl, N⟩, hq⟩ := rm_lawC l s _ hw tables_1 i0 i1 i2 i3 s.heap s.heap.size (Nat.le_refl _) hc38 hc105 hc121 p e ha hc hk s m _ below hf ((Spec.applies_iff_loose hf).mp happ).1 ⟨rfl, State.Warmed39.refl s, rfl⟩ trivial
        refine ⟨n, _, h1, h2, h3, hpost _ _ _ _ _ _ ⟨Cond.after_iff.mpr rfl, Cond.after_iff.mpr (eq_i res_at (Term.int_eval (1)) rfl), trivial⟩ ⟨hq.1, hq.2.1, (hq.2.2.sift fun y hy => Or.inr (N y hy)).mono (by decide) (by decide)⟩⟩
      · obtain ⟨n, o, h1, h2, h3, _, L, rfl, ⟨rfl, N⟩, hq⟩ := rm_lawD l s _ hw tables_1 i0 i1 i2 i3 s.heap s.heap.size (Nat.le_refl _) hc38 hc105 hc121 p e ha hc hk s m _ below hf ((Spec.applies_iff_loose hf).mp happ).1 ⟨rfl, State.Warmed39.refl s, rfl⟩ trivial
        refine ⟨n, _, h1, h2, h3, hpost _ _ _ _ _ _ ⟨Cond.after_iff.mpr rfl, Cond.after_iff.mpr (eq_i res_at (Term.int_eval (1)) rfl), trivial⟩ ⟨hq.1, hq.2.1, (hq.2.2.sift fun y hy => Or.inr (N y hy)).mono (by decide) (by decide)⟩⟩
theorem main_1_1 : Claimed_1_1 := comes_1 fun _ _ _ _ _ _ h hF => ⟨h.1, hF⟩
theorem main_1_2 : Claimed_1_2 := comes_1 fun _ _ _ _ _ _ h hF => ⟨h.2.1, hF⟩
end Jvm.Pilot.@@N@@
namespace Jvm.Pilot.@@N@@
open Jvm Jvm.ClassFile Sem Op Lib Jvm.Free Jvm.Stand Jvm.Pilot.@@N@@.Jvm.D
/-! MADE BY PROGRAM (witnessworld.py) out of the Statement's table words and the real class files: 16 classes; the members and pool entries that the words name. The judged class is class 1, her method 1. -/
namespace start1
open Jvm.ClassFile
def u (s : String) : CpInfo := .utf8 (stringToUtf16 s)
/-- a pool by its gaps: so many unusable entries, then the entry; so many at the end -/
def gap : Nat → List CpInfo → List CpInfo
  | 0, r => r
  | n + 1, r => .unusable :: gap n r
def poolList (es : List (Nat × CpInfo)) (last : Nat) : List CpInfo := es.foldr (fun e r => gap e.1 (e.2 :: r)) (gap last [])
def pool (es : List (Nat × CpInfo)) (last : Nat) : Array CpInfo := ⟨poolList es last⟩
def fileOf (pool : Array CpInfo) (this : Nat) (attrs : Array Attribute := #[]) (ms : Array MethodInfo := #[]) (fl : Nat := 33) (sup : Nat := 0) (ifs : Array Nat := #[]) (fds : Array FieldInfo := #[]) : ClassFile where
  minorVersion := 0
  majorVersion := 65
  constantPool := pool
  accessFlags := fl
  thisClass := this
  superClass := sup
  interfaces := ifs
  fields := fds
  methods := ms
  attributes := attrs
def plain (name : String) (sup : Option ClassId) : Class where
  name := name
  kind := .ordinary
  loader := none
  accessFlags := 33
  super := sup
  interfaces := #[]
  cf := none
  fields := #[]
  methods := #[]
  instanceTypes := #[]
  staticTypes := #[]
  resolved := #[]
  callSites := []
  init := .initialized
  statics := none
  mirror := none

def pool0 : Array CpInfo := pool [(5, u "<init>"), (0, u "()V"), (1, .class_ 10), (1, u "java/lang/Object")] 113

def k0c0 : Code := { maxStack := 0, maxLocals := 1, code := object_method_1_code, exceptionTable := #[], attributes := #[] }
def k0m0 : Method := { name := "<init>", desc := "()V", sig := { parameters := [], returnType := none }, accessFlags := 1, code := some k0c0 }
/-- java/lang/Object -/
def k0 : Class := { plain "java/lang/Object" none with
  accessFlags := 33
  interfaces := #[]
  cf := some (fileOf pool0 8 #[] #[{ accessFlags := 1, nameIndex := 5, descriptorIndex := 6, attributes := #[] }] 33 0 #[] #[])
  fields := #[]
  methods := #[k0m0]
  instanceTypes := #[]
  staticTypes := #[]
  resolved := Array.replicate 124 none
  statics := none }

def pool1 : Array CpInfo := pool [(2, .class_ 4), (1, u "java/lang/Object"), (0, u "<init>"), (0, u "()V"), (0, .integer 2147483647), (0, .integer 65535), (0, .class_ 10), (0, u "com/example/sievegrad/sievegrad/core/ResidualClipping"), (0, .methodref 9 12), (0, .nameAndType 5 13), (0, u "(IF)V"), (2, .long 9223372036854775807), (1, .methodref 9 19), (0, .nameAndType 20 21), (0, u "clipsAfter"), (0, u "(J)Z"), (0, .class_ 23), (0, u "com/example/sievegrad/sievegrad/core/ResidualClippingClipsAfterPinLaw"), (2, u "law"), (0, u "(IIJI)Z")] 3

def k1m0 : Method := { name := "<init>", desc := "()V", sig := { parameters := [], returnType := none }, accessFlags := 1, code := none }
def k1c1 : Code := { maxStack := 5, maxLocals := 16, code := code, exceptionTable := #[], attributes := #[] }
def k1m1 : Method := { name := "law", desc := "(IIJI)Z", sig := { parameters := [.int, .int, .long, .int], returnType := some .boolean }, accessFlags := 9, code := some k1c1 }
/-- com/example/sievegrad/sievegrad/core/ResidualClippingClipsAfterPinLaw -/
def k1 : Class := { plain "com/example/sievegrad/sievegrad/core/ResidualClippingClipsAfterPinLaw" (some 0) with
  accessFlags := 49
  interfaces := #[]
  cf := some (fileOf pool1 22 #[] #[{ accessFlags := 1, nameIndex := 5, descriptorIndex := 6, attributes := #[] }, { accessFlags := 9, nameIndex := 26, descriptorIndex := 27, attributes := #[] }] 49 2 #[] #[])
  fields := #[]
  methods := #[k1m0, k1m1]
  instanceTypes := #[]
  staticTypes := #[]
  resolved := Array.replicate 31 none
  statics := none }

def pool2 : Array CpInfo := pool [(1, .methodref 2 3), (0, .class_ 4), (0, .nameAndType 5 6), (0, u "java/lang/Object"), (0, u "<init>"), (0, u "()V"), (0, .class_ 8), (0, u "java/lang/Record")] 13

def k2c0 : Code := { maxStack := 1, maxLocals := 1, code := jdk_30_method_1_code, exceptionTable := #[], attributes := #[] }
def k2m0 : Method := { name := "<init>", desc := "()V", sig := { parameters := [], returnType := none }, accessFlags := 4, code := some k2c0 }
/-- java/lang/Record -/
def k2 : Class := { plain "java/lang/Record" (some 0) with
  accessFlags := 1057
  interfaces := #[]
  cf := some (fileOf pool2 7 #[] #[{ accessFlags := 4, nameIndex := 5, descriptorIndex := 6, attributes := #[] }] 1057 2 #[] #[])
  fields := #[]
  methods := #[k2m0]
  instanceTypes := #[]
  staticTypes := #[]
  resolved := Array.replicate 22 none
  statics := none }

def pool3 : Array CpInfo := pool [(1, .methodref 2 3), (0, .class_ 4), (0, .nameAndType 5 6), (0, u "java/lang/Record"), (0, u "<init>"), (0, u "()V"), (0, .methodref 8 9), (0, .class_ 10), (0, .nameAndType 11 12), (0, u "com/example/sievegrad/sievegrad/core/ResidualClipping"), (0, u "requireEvery"), (0, u "(I)I"), (0, .methodref 8 14), (0, .nameAndType 15 16), (0, u "requireMultiple"), (0, u "(F)F"), (0, .fieldref 8 18), (0, .nameAndType 19 20), (0, u "every"), (0, u "I"), (0, .fieldref 8 22), (0, .nameAndType 23 24), (0, u "multiple"), (0, u "F"), (9, .methodref 35 36), (0, .class_ 37), (0, .nameAndType 38 39), (0, u "java/lang/Float"), (0, u "isInfinite"), (0, u "(F)Z"), (15, u "(IF)V"), (4, u "clipsAfter"), (0, u "(J)Z")] 36

def k3c0 : Code := { maxStack := 2, maxLocals := 3, code := prog_116_method_1_code, exceptionTable := #[], attributes := #[] }
def k3m0 : Method := { name := "<init>", desc := "(IF)V", sig := { parameters := [.int, .float], returnType := none }, accessFlags := 1, code := some k3c0 }
def k3c1 : Code := { maxStack := 3, maxLocals := 1, code := prog_116_method_2_code, exceptionTable := #[], attributes := #[] }
def k3m1 : Method := { name := "requireEvery", desc := "(I)I", sig := { parameters := [.int], returnType := some .int }, accessFlags := 9, code := some k3c1 }
def k3c2 : Code := { maxStack := 3, maxLocals := 1, code := prog_116_method_3_code, exceptionTable := #[], attributes := #[] }
def k3m2 : Method := { name := "requireMultiple", desc := "(F)F", sig := { parameters := [.float], returnType := some .float }, accessFlags := 9, code := some k3c2 }
def k3c3 : Code := { maxStack := 4, maxLocals := 3, code := prog_116_method_4_code, exceptionTable := #[], attributes := #[] }
def k3m3 : Method := { name := "clipsAfter", desc := "(J)Z", sig := { parameters := [.long], returnType := some .boolean }, accessFlags := 1, code := some k3c3 }
/-- com/example/sievegrad/sievegrad/core/ResidualClipping -/
def k3 : Class := { plain "com/example/sievegrad/sievegrad/core/ResidualClipping" (some 2) with
  accessFlags := 49
  interfaces := #[]
  cf := some (fileOf pool3 8 #[] #[{ accessFlags := 1, nameIndex := 5, descriptorIndex := 55, attributes := #[] }, { accessFlags := 9, nameIndex := 11, descriptorIndex := 12, attributes := #[] }, { accessFlags := 9, nameIndex := 15, descriptorIndex := 16, attributes := #[] }, { accessFlags := 1, nameIndex := 60, descriptorIndex := 61, attributes := #[] }] 49 2 #[] #[{ accessFlags := 18, nameIndex := 19, descriptorIndex := 20, attributes := #[] }, { accessFlags := 18, nameIndex := 23, descriptorIndex := 24, attributes := #[] }])
  fields := #[{ name := "every", type := .int, accessFlags := 18, slot := 0, constantValue := 0 }, { name := "multiple", type := .float, accessFlags := 18, slot := 1, constantValue := 0 }]
  methods := #[k3m0, k3m1, k3m2, k3m3]
  instanceTypes := #[.int, .float]
  staticTypes := #[]
  resolved := Array.replicate 98 none
  statics := none }

def pool4 : Array CpInfo := pool [(1, .class_ 2), (0, u "java/io/Serializable"), (0, .class_ 4), (0, u "java/lang/Object")] 2

/-- java/io/Serializable -/
def k4 : Class := { plain "java/io/Serializable" (some 0) with
  accessFlags := 1537
  interfaces := #[]
  cf := some (fileOf pool4 1 #[] #[] 1537 3 #[] #[])
  fields := #[]
  methods := #[]
  instanceTypes := #[]
  staticTypes := #[]
  resolved := Array.replicate 7 none
  statics := none }

def pool5 : Array CpInfo := pool [(2, .class_ 4), (1, u "java/lang/Object"), (0, u "<init>"), (0, u "()V"), (1, .class_ 10), (1, u "java/lang/Number"), (2, .class_ 14), (0, u "java/io/Serializable"), (0, u "serialVersionUID"), (0, u "J")] 20

def k5m0 : Method := { name := "<init>", desc := "()V", sig := { parameters := [], returnType := none }, accessFlags := 1, code := none }
/-- java/lang/Number -/
def k5 : Class := { plain "java/lang/Number" (some 0) with
  accessFlags := 1057
  interfaces := #[4]
  cf := some (fileOf pool5 8 #[] #[{ accessFlags := 1, nameIndex := 5, descriptorIndex := 6, attributes := #[] }] 1057 2 #[13] #[{ accessFlags := 26, nameIndex := 15, descriptorIndex := 16, attributes := #[] }])
  fields := #[{ name := "serialVersionUID", type := .long, accessFlags := 26, slot := 0, constantValue := 0 }]
  methods := #[k5m0]
  instanceTypes := #[]
  staticTypes := #[.long]
  resolved := Array.replicate 37 none
  statics := none }

def pool6 : Array CpInfo := pool [(1, .class_ 2), (0, u "java/lang/Comparable"), (0, .class_ 4), (0, u "java/lang/Object")] 7

/-- java/lang/Comparable -/
def k6 : Class := { plain "java/lang/Comparable" (some 0) with
  accessFlags := 1537
  interfaces := #[]
  cf := some (fileOf pool6 1 #[] #[] 1537 3 #[] #[])
  fields := #[]
  methods := #[]
  instanceTypes := #[]
  staticTypes := #[]
  resolved := Array.replicate 12 none
  statics := none }

def pool7 : Array CpInfo := pool [(1, .class_ 2), (0, u "java/lang/constant/Constable"), (0, .class_ 4), (0, u "java/lang/Object")] 6

/-- java/lang/constant/Constable -/
def k7 : Class := { plain "java/lang/constant/Constable" (some 0) with
  accessFlags := 1537
  interfaces := #[]
  cf := some (fileOf pool7 1 #[] #[] 1537 3 #[] #[])
  fields := #[]
  methods := #[]
  instanceTypes := #[]
  staticTypes := #[]
  resolved := Array.replicate 11 none
  statics := none }

def pool8 : Array CpInfo := pool [(1, .class_ 2), (0, u "java/lang/constant/ConstantDesc"), (0, .class_ 4), (0, u "java/lang/Object")] 32

/-- java/lang/constant/ConstantDesc -/
def k8 : Class := { plain "java/lang/constant/ConstantDesc" (some 0) with
  accessFlags := 1537
  interfaces := #[]
  cf := some (fileOf pool8 1 #[] #[] 1537 3 #[] #[])
  fields := #[]
  methods := #[]
  instanceTypes := #[]
  staticTypes := #[]
  resolved := Array.replicate 37 none
  statics := none }

def pool9 : Array CpInfo := pool [(1, .class_ 2), (0, u "java/lang/Float"), (8, .methodref 12 13), (0, .class_ 14), (0, .nameAndType 15 16), (0, u "java/lang/Math"), (0, u "abs"), (0, u "(F)F"), (32, .float 2139095039), (1, .class_ 53), (1, u "java/lang/Number"), (3, u "value"), (0, u "F"), (3, u "(F)Z"), (2, u "isInfinite"), (25, u "$assertionsDisabled"), (0, u "Z"), (52, u "TYPE"), (0, u "Ljava/lang/Class;"), (0, .class_ 148), (0, u "java/lang/Comparable"), (0, .class_ 150), (0, u "java/lang/constant/Constable"), (0, .class_ 152), (0, u "java/lang/constant/ConstantDesc"), (0, u "POSITIVE_INFINITY"), (1, u "NEGATIVE_INFINITY"), (1, u "NaN"), (1, u "MAX_VALUE"), (0, u "MIN_NORMAL"), (0, u "MIN_VALUE"), (1, u "SIZE"), (0, u "I"), (1, u "PRECISION"), (1, u "MAX_EXPONENT"), (1, u "MIN_EXPONENT"), (1, u "BYTES"), (3, u "serialVersionUID"), (0, u "J")] 101

def k9c0 : Code := { maxStack := 2, maxLocals := 1, code := jdk_118_method_7_code, exceptionTable := #[], attributes := #[] }
def k9m0 : Method := { name := "isInfinite", desc := "(F)Z", sig := { parameters := [.float], returnType := some .boolean }, accessFlags := 9, code := some k9c0 }
/-- java/lang/Float -/
def k9 : Class := { plain "java/lang/Float" (some 5) with
  accessFlags := 49
  interfaces := #[6, 7, 8]
  cf := some (fileOf pool9 1 #[] #[{ accessFlags := 9, nameIndex := 65, descriptorIndex := 62, attributes := #[] }] 49 51 #[147, 149, 151] #[{ accessFlags := 25, nameIndex := 153, descriptorIndex := 58, attributes := #[] }, { accessFlags := 25, nameIndex := 155, descriptorIndex := 58, attributes := #[] }, { accessFlags := 25, nameIndex := 157, descriptorIndex := 58, attributes := #[] }, { accessFlags := 25, nameIndex := 159, descriptorIndex := 58, attributes := #[] }, { accessFlags := 25, nameIndex := 160, descriptorIndex := 58, attributes := #[] }, { accessFlags := 25, nameIndex := 161, descriptorIndex := 58, attributes := #[] }, { accessFlags := 25, nameIndex := 163, descriptorIndex := 164, attributes := #[] }, { accessFlags := 25, nameIndex := 166, descriptorIndex := 164, attributes := #[] }, { accessFlags := 25, nameIndex := 168, descriptorIndex := 164, attributes := #[] }, { accessFlags := 25, nameIndex := 170, descriptorIndex := 164, attributes := #[] }, { accessFlags := 25, nameIndex := 172, descriptorIndex := 164, attributes := #[] }, { accessFlags := 25, nameIndex := 145, descriptorIndex := 146, attributes := #[] }, { accessFlags := 18, nameIndex := 57, descriptorIndex := 58, attributes := #[] }, { accessFlags := 26, nameIndex := 176, descriptorIndex := 177, attributes := #[] }, { accessFlags := 4120, nameIndex := 91, descriptorIndex := 92, attributes := #[] }])
  fields := #[{ name := "POSITIVE_INFINITY", type := .float, accessFlags := 25, slot := 0, constantValue := 0 }, { name := "NEGATIVE_INFINITY", type := .float, accessFlags := 25, slot := 1, constantValue := 0 }, { name := "NaN", type := .float, accessFlags := 25, slot := 2, constantValue := 0 }, { name := "MAX_VALUE", type := .float, accessFlags := 25, slot := 3, constantValue := 0 }, { name := "MIN_NORMAL", type := .float, accessFlags := 25, slot := 4, constantValue := 0 }, { name := "MIN_VALUE", type := .float, accessFlags := 25, slot := 5, constantValue := 0 }, { name := "SIZE", type := .int, accessFlags := 25, slot := 6, constantValue := 0 }, { name := "PRECISION", type := .int, accessFlags := 25, slot := 7, constantValue := 0 }, { name := "MAX_EXPONENT", type := .int, accessFlags := 25, slot := 8, constantValue := 0 }, { name := "MIN_EXPONENT", type := .int, accessFlags := 25, slot := 9, constantValue := 0 }, { name := "BYTES", type := .int, accessFlags := 25, slot := 10, constantValue := 0 }, { name := "TYPE", type := (.object "java/lang/Class"), accessFlags := 25, slot := 11, constantValue := 0 }, { name := "value", type := .float, accessFlags := 18, slot := 0, constantValue := 0 }, { name := "serialVersionUID", type := .long, accessFlags := 26, slot := 12, constantValue := 0 }, { name := "$assertionsDisabled", type := .boolean, accessFlags := 4120, slot := 13, constantValue := 0 }]
  methods := #[k9m0]
  instanceTypes := #[.float]
  staticTypes := #[.float, .float, .float, .float, .float, .float, .int, .int, .int, .int, .int, (.object "java/lang/Class"), .long, .boolean]
  resolved := Array.replicate 279 none
  statics := none }

def pool10 : Array CpInfo := pool [(1, .class_ 2), (0, u "java/lang/Math"), (1, .class_ 6), (1, u "java/lang/Object"), (0, u "<init>"), (0, u "()V"), (89, .class_ 100), (1, u "java/lang/Math$RandomNumberGeneratorHolder"), (23, u "abs"), (47, u "negativeZeroFloatBits"), (0, u "J"), (2, u "negativeZeroDoubleBits"), (68, u "$assertionsDisabled"), (0, u "Z"), (47, u "(F)F"), (43, u "twoToTheDoubleScaleDown"), (0, u "D"), (4, u "twoToTheDoubleScaleUp"), (9, u "E"), (3, u "PI"), (2, u "TAU"), (2, u "DEGREES_TO_RADIANS"), (0, u "RADIANS_TO_DEGREES")] 94

def k10m0 : Method := { name := "<init>", desc := "()V", sig := { parameters := [], returnType := none }, accessFlags := 2, code := none }
def k10c1 : Code := { maxStack := 2, maxLocals := 1, code := jdk_29_method_63_code, exceptionTable := #[], attributes := #[] }
def k10m1 : Method := { name := "abs", desc := "(F)F", sig := { parameters := [.float], returnType := some .float }, accessFlags := 9, code := some k10c1 }
/-- java/lang/Math -/
def k10 : Class := { plain "java/lang/Math" (some 0) with
  accessFlags := 49
  interfaces := #[]
  cf := some (fileOf pool10 1 #[.nestMembers #[98]] #[{ accessFlags := 2, nameIndex := 7, descriptorIndex := 8, attributes := #[] }, { accessFlags := 9, nameIndex := 124, descriptorIndex := 294, attributes := #[] }] 49 4 #[] #[{ accessFlags := 25, nameIndex := 354, descriptorIndex := 339, attributes := #[] }, { accessFlags := 25, nameIndex := 358, descriptorIndex := 339, attributes := #[] }, { accessFlags := 25, nameIndex := 361, descriptorIndex := 339, attributes := #[] }, { accessFlags := 26, nameIndex := 364, descriptorIndex := 339, attributes := #[] }, { accessFlags := 26, nameIndex := 365, descriptorIndex := 339, attributes := #[] }, { accessFlags := 26, nameIndex := 172, descriptorIndex := 173, attributes := #[] }, { accessFlags := 26, nameIndex := 176, descriptorIndex := 173, attributes := #[] }, { accessFlags := 8, nameIndex := 344, descriptorIndex := 339, attributes := #[] }, { accessFlags := 8, nameIndex := 338, descriptorIndex := 339, attributes := #[] }, { accessFlags := 4120, nameIndex := 245, descriptorIndex := 246, attributes := #[] }])
  fields := #[{ name := "E", type := .double, accessFlags := 25, slot := 0, constantValue := 0 }, { name := "PI", type := .double, accessFlags := 25, slot := 1, constantValue := 0 }, { name := "TAU", type := .double, accessFlags := 25, slot := 2, constantValue := 0 }, { name := "DEGREES_TO_RADIANS", type := .double, accessFlags := 26, slot := 3, constantValue := 0 }, { name := "RADIANS_TO_DEGREES", type := .double, accessFlags := 26, slot := 4, constantValue := 0 }, { name := "negativeZeroFloatBits", type := .long, accessFlags := 26, slot := 5, constantValue := 0 }, { name := "negativeZeroDoubleBits", type := .long, accessFlags := 26, slot := 6, constantValue := 0 }, { name := "twoToTheDoubleScaleUp", type := .double, accessFlags := 8, slot := 7, constantValue := 0 }, { name := "twoToTheDoubleScaleDown", type := .double, accessFlags := 8, slot := 8, constantValue := 0 }, { name := "$assertionsDisabled", type := .boolean, accessFlags := 4120, slot := 9, constantValue := 0 }]
  methods := #[k10m0, k10m1]
  instanceTypes := #[]
  staticTypes := #[.double, .double, .double, .double, .double, .long, .long, .double, .double, .boolean]
  resolved := Array.replicate 460 none
  statics := none }

def pool11 : Array CpInfo := pool [(1, u "java/lang/Cloneable"), (0, .class_ 1), (0, u "java/lang/Object"), (0, .class_ 3)] 3

/-- java/lang/Cloneable -/
def k11 : Class := { plain "java/lang/Cloneable" (some 0) with
  accessFlags := 1537
  interfaces := #[]
  cf := some (fileOf pool11 2 #[] #[] 1537 4 #[] #[])
  fields := #[]
  methods := #[]
  instanceTypes := #[]
  staticTypes := #[]
  resolved := Array.replicate 8 none
  statics := none }

/-- the primitive byte -/
def k12 : Class := { plain "byte" none with kind := .primitive 'B', accessFlags := 0x411 }
/-- [B -/
def k13 : Class := { plain "[B" (some 0) with kind := .array 12 .byte, interfaces := #[11, 4], accessFlags := 1041 }

/-- the primitive int -/
def k14 : Class := { plain "int" none with kind := .primitive 'I', accessFlags := 0x411 }
/-- [I -/
def k15 : Class := { plain "[I" (some 0) with kind := .array 14 .int, interfaces := #[11, 4], accessFlags := 1041 }

def heap : Heap := #[]
def classes : Array Class := #[k0, k1, k2, k3, k4, k5, k6, k7, k8, k9, k10, k11, k12, k13, k14, k15]
def interned : List (Array UInt16 × Addr) := []
def slotsUsed : Nat := 0
def theMethod : MethodId := ⟨1, 1⟩
def args0 : Array Value := #[.int 5, .int 1, .long 3, .int 4]
def aboutOver (below : List Frame) : State where
  vm := { classes := classes, interned := interned.toArray }
  heap := heap
  slotsUsed := slotsUsed
  threads := #[{ frames := .invoking theMethod args0 :: below }]
def below0 : List Frame := [.native { method := ⟨0, 0⟩, args := #[] }]
def about1 : State := aboutOver below0
def p0 : Program := .bare "" "" ""
def e0 : Env := launch0.env 0 0 0
theorem w_frames : about1.frames = Frame.invoking theMethod args0 :: below0 := rfl
set_option maxRecDepth 65536 in
theorem w_args : argsFit about1.vm theMethod args0 = true := by decide +kernel
set_option maxRecDepth 65536 in
theorem w_heap : heapFits about1 = true := by decide +kernel
set_option maxRecDepth 65536 in
theorem w_runnable : about1.curStatus? = some .runnable := by decide +kernel
set_option maxRecDepth 65536 in
theorem w_alone : about1.alone = true := by decide +kernel
set_option maxRecDepth 65536 in
theorem w_named : about1.methodNamed? x = some theMethod := by decide +kernel
set_option maxRecDepth 65536 in
theorem w_hears : about1.hears theMethod below0 = true := by decide +kernel
set_option maxRecDepth 65536 in
theorem w_ripe : about1.ripe theMethod args0 below0 = true := by decide +kernel
theorem w_running : about1.status = .running := rfl
set_option maxRecDepth 65536 in
theorem w_room : about1.hasRoom e0.platform room_1 = true :=
  launch0.hasRoom_least _ room_1 (by decide +kernel) (by decide +kernel) (by decide +kernel) (by decide +kernel) (by decide +kernel) (by decide +kernel)
theorem allAtoms_all (ts : List Jvm.Cond) (a : Array Jvm.Value) (st : Jvm.State) : (allAtoms ts).before a st = ts.all (fun c => c.before a st) := by
  induction ts with
  | nil => rfl
  | cons c t ih =>
    show (Jvm.Cond.and c (allAtoms t)).before a st = _
    rw [Jvm.Cond.before_and, ih, List.all_cons]
def words1 : List Jvm.Cond := Jvm.Cond.code x code maxLocals ret :: tables_1
/-- a 'code' word, met by the world's own term for the bytes: nothing is compared byte by byte -/
theorem code_word {y : MethodName} {bytes : ByteArray} {mx : Nat} {rt : Option FieldType} {a : Array Value} {s : State} {m : MethodId} {meth : Method} {c : Code} (h1 : s.methodNamed? y = some m) (h2 : s.vm.method? m = some meth) (h3 : meth.code = some c) (h4 : c.code = bytes)
    (h5 : (c.maxLocals == mx && c.exceptionTable.isEmpty && decide (c.maxStack ≤ mostOperands) && decide (meth.sig.returnType = rt) && !meth.locks && decide (parseMethodDescriptor y.desc = some meth.sig)) = true) : (Jvm.Cond.code y bytes mx rt).before a s = true := by
  simp only [Bool.and_eq_true, beq_iff_eq, Bool.not_eq_true', decide_eq_true_eq] at h5
  obtain ⟨⟨⟨⟨⟨g1, g2⟩, g3⟩, g4⟩, g5⟩, g6⟩ := h5
  simp [Cond.before, Cond.holds, Cond.value, h1, h2, h3, h4, g1, g2, g3, g4, g5, g6]
def isCode : Jvm.Cond → Bool
  | .code _ _ _ _ => true
  | _ => false
theorem all_split {L : List Jvm.Cond} {P : Jvm.Cond → Bool} (h1 : L.all (fun c => isCode c || P c) = true) (h2 : ∀ c ∈ L.filter isCode, P c = true) : L.all P = true := by
  refine List.all_eq_true.mpr fun c hc => ?_
  have h := List.all_eq_true.mp h1 c hc
  rcases Bool.eq_false_or_eq_true (isCode c) with hi | hi
  · exact h2 c (List.mem_filter.mpr ⟨hc, hi⟩)
  · simpa [hi] using h
set_option maxRecDepth 65536 in
theorem w_c0 : (Jvm.Cond.code x code maxLocals ret).before args0 about1 = true := code_word (m := ⟨1, 1⟩) (meth := k1m1) (c := k1c1) (by decide +kernel) rfl rfl rfl (by decide +kernel)
set_option maxRecDepth 65536 in
theorem w_c1 : (Jvm.Cond.code ({ cls := "com/example/sievegrad/sievegrad/core/ResidualClipping", name := "<init>", desc := "(IF)V" } : Jvm.MethodName) prog_116_method_1_code (3 : Nat) (Option.none : Option Jvm.ClassFile.FieldType)).before args0 about1 = true := code_word (m := ⟨3, 0⟩) (meth := k3m0) (c := k3c0) (by decide +kernel) rfl rfl rfl (by decide +kernel)
set_option maxRecDepth 65536 in
theorem w_c2 : (Jvm.Cond.code ({ cls := "java/lang/Record", name := "<init>", desc := "()V" } : Jvm.MethodName) jdk_30_method_1_code (1 : Nat) (Option.none : Option Jvm.ClassFile.FieldType)).before args0 about1 = true := code_word (m := ⟨2, 0⟩) (meth := k2m0) (c := k2c0) (by decide +kernel) rfl rfl rfl (by decide +kernel)
set_option maxRecDepth 65536 in
theorem w_c3 : (Jvm.Cond.code ({ cls := "java/lang/Object", name := "<init>", desc := "()V" } : Jvm.MethodName) object_method_1_code (1 : Nat) (Option.none : Option Jvm.ClassFile.FieldType)).before args0 about1 = true := code_word (m := ⟨0, 0⟩) (meth := k0m0) (c := k0c0) (by decide +kernel) rfl rfl rfl (by decide +kernel)
set_option maxRecDepth 65536 in
theorem w_c4 : (Jvm.Cond.code ({ cls := "com/example/sievegrad/sievegrad/core/ResidualClipping", name := "requireEvery", desc := "(I)I" } : Jvm.MethodName) prog_116_method_2_code (1 : Nat) (Option.some Jvm.ClassFile.FieldType.int)).before args0 about1 = true := code_word (m := ⟨3, 1⟩) (meth := k3m1) (c := k3c1) (by decide +kernel) rfl rfl rfl (by decide +kernel)
set_option maxRecDepth 65536 in
theorem w_c5 : (Jvm.Cond.code ({ cls := "com/example/sievegrad/sievegrad/core/ResidualClipping", name := "requireMultiple", desc := "(F)F" } : Jvm.MethodName) prog_116_method_3_code (1 : Nat) (Option.some Jvm.ClassFile.FieldType.float)).before args0 about1 = true := code_word (m := ⟨3, 2⟩) (meth := k3m2) (c := k3c2) (by decide +kernel) rfl rfl rfl (by decide +kernel)
set_option maxRecDepth 65536 in
theorem w_c6 : (Jvm.Cond.code ({ cls := "java/lang/Float", name := "isInfinite", desc := "(F)Z" } : Jvm.MethodName) jdk_118_method_7_code (1 : Nat) (Option.some Jvm.ClassFile.FieldType.boolean)).before args0 about1 = true := code_word (m := ⟨9, 0⟩) (meth := k9m0) (c := k9c0) (by decide +kernel) rfl rfl rfl (by decide +kernel)
set_option maxRecDepth 65536 in
theorem w_c7 : (Jvm.Cond.code ({ cls := "java/lang/Math", name := "abs", desc := "(F)F" } : Jvm.MethodName) jdk_29_method_63_code (1 : Nat) (Option.some Jvm.ClassFile.FieldType.float)).before args0 about1 = true := code_word (m := ⟨10, 1⟩) (meth := k10m1) (c := k10c1) (by decide +kernel) rfl rfl rfl (by decide +kernel)
set_option maxRecDepth 65536 in
theorem w_c8 : (Jvm.Cond.code ({ cls := "com/example/sievegrad/sievegrad/core/ResidualClipping", name := "clipsAfter", desc := "(J)Z" } : Jvm.MethodName) prog_116_method_4_code (3 : Nat) (Option.some Jvm.ClassFile.FieldType.boolean)).before args0 about1 = true := code_word (m := ⟨3, 3⟩) (meth := k3m3) (c := k3c3) (by decide +kernel) rfl rfl rfl (by decide +kernel)
def codes1 : List Jvm.Cond := [Jvm.Cond.code x code maxLocals ret, Jvm.Cond.code ({ cls := "com/example/sievegrad/sievegrad/core/ResidualClipping", name := "<init>", desc := "(IF)V" } : Jvm.MethodName) prog_116_method_1_code (3 : Nat) (Option.none : Option Jvm.ClassFile.FieldType), Jvm.Cond.code ({ cls := "java/lang/Record", name := "<init>", desc := "()V" } : Jvm.MethodName) jdk_30_method_1_code (1 : Nat) (Option.none : Option Jvm.ClassFile.FieldType), Jvm.Cond.code ({ cls := "java/lang/Object", name := "<init>", desc := "()V" } : Jvm.MethodName) object_method_1_code (1 : Nat) (Option.none : Option Jvm.ClassFile.FieldType), Jvm.Cond.code ({ cls := "com/example/sievegrad/sievegrad/core/ResidualClipping", name := "requireEvery", desc := "(I)I" } : Jvm.MethodName) prog_116_method_2_code (1 : Nat) (Option.some Jvm.ClassFile.FieldType.int), Jvm.Cond.code ({ cls := "com/example/sievegrad/sievegrad/core/ResidualClipping", name := "requireMultiple", desc := "(F)F" } : Jvm.MethodName) prog_116_method_3_code (1 : Nat) (Option.some Jvm.ClassFile.FieldType.float), Jvm.Cond.code ({ cls := "java/lang/Float", name := "isInfinite", desc := "(F)Z" } : Jvm.MethodName) jdk_118_method_7_code (1 : Nat) (Option.some Jvm.ClassFile.FieldType.boolean), Jvm.Cond.code ({ cls := "java/lang/Math", name := "abs", desc := "(F)F" } : Jvm.MethodName) jdk_29_method_63_code (1 : Nat) (Option.some Jvm.ClassFile.FieldType.float), Jvm.Cond.code ({ cls := "com/example/sievegrad/sievegrad/core/ResidualClipping", name := "clipsAfter", desc := "(J)Z" } : Jvm.MethodName) prog_116_method_4_code (3 : Nat) (Option.some Jvm.ClassFile.FieldType.boolean)]
set_option maxRecDepth 65536 in
theorem codes_eq : words1.filter isCode = codes1 := rfl
theorem w_codes : ∀ c ∈ words1.filter isCode, c.before args0 about1 = true := by
  rw [codes_eq]
  intro c hc
  simp only [codes1, List.mem_cons, List.not_mem_nil, or_false] at hc
  rcases hc with rfl | rfl | rfl | rfl | rfl | rfl | rfl | rfl | rfl
  · exact w_c0
  · exact w_c1
  · exact w_c2
  · exact w_c3
  · exact w_c4
  · exact w_c5
  · exact w_c6
  · exact w_c7
  · exact w_c8
set_option maxRecDepth 65536 in
theorem w_t1 : (words1.take 24).all (fun c => isCode c || c.before args0 about1) = true := by decide +kernel
set_option maxRecDepth 65536 in
theorem w_t2 : (words1.drop 24).all (fun c => isCode c || c.before args0 about1) = true := by decide +kernel
theorem w_tables : (allAtoms (Jvm.Cond.code x code maxLocals ret :: tables_1)).before args0 about1 = true := by
  rw [allAtoms_all]
  show words1.all (fun c => c.before args0 about1) = true
  refine all_split ?_ w_codes
  rw [← List.take_append_drop 24 words1, List.all_append, w_t1, w_t2]
  rfl
set_option maxRecDepth 65536 in
theorem w_case : (Jvm.Cond.and given_1 narrow_1).before args0 about1 = true := by decide +kernel
theorem w_applies : (headSpec (Jvm.Cond.code x code maxLocals ret :: tables_1) room_1).applies x e0.platform about1 = true :=
  (Spec.applies_iff w_frames).mpr ⟨w_running, w_runnable, w_alone, w_named, w_hears, w_ripe, w_room, w_tables⟩
theorem atStart : AtStart classFile x code maxLocals ret World_1 tables_1 room_1 Calls_1 rest_1 Pre_1 launch0 p0 e0 about1 theMethod args0 below0 :=
  ⟨lists_1, trivial, launch0.admits_env _ _ _, launch0.least_env, fairChoices_fair.cas, fairChoices_fair.clock, w_frames, w_args, w_heap, w_applies, trivial, trivial, w_case⟩
end start1
theorem witness_1 : WitnessClaimed_1 := ⟨start1.p0, start1.e0, start1.about1, start1.theMethod, start1.args0, start1.below0, start1.atStart⟩
end Jvm.Pilot.@@N@@
