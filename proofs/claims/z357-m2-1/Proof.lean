import JvmDerived
import JvmDerived.Pilot.@@N@@Statement
import JvmDerived.Pilot.@@N@@Code
set_option linter.unusedVariables false
set_option linter.unusedSimpArgs false
namespace Jvm.Pilot.@@N@@
open Jvm Jvm.ClassFile Sem Op Lib Jvm.Free Jvm.Stand Jvm.LawKit Jvm.RoadKit Jvm.Free.Fl Bundle Jvm.Pilot.@@N@@.Jvm.D
theorem d_jdk_30_method_1_code_0 : decode jdk_30_method_1_code 0 = .ok (.aload_n 0, 1) := by decide +kernel
theorem d_jdk_30_method_1_code_1 : decode jdk_30_method_1_code 1 = .ok (.invokespecial 1, 3) := by decide +kernel
theorem d_jdk_30_method_1_code_4 : decode jdk_30_method_1_code 4 = .ok (.return_, 1) := by decide +kernel
theorem pn_java_lang_Record : plainName "java/lang/Record" = true := by first | (simp [plainName, overriddenIn]; done) | decide +kernel
theorem ef_rec (m : MethodId) (x0 : Addr) : entryFrame m #[(.ref x0)] 1 = mkF m 0 #[.val (.ref x0)] [] := by first | (simp [entryFrame, mkF, argsToLocals, Value.category]; done) | rfl
def Q_rec (Z : State) (a1 : Addr) (h0 : Heap) (n0 : Nat) (v : Option Value) (h : Heap) (L : List Loc) : Prop := v = none ∧ Fr n0 L ∧ h = h0
set_option maxRecDepth 65536 in
set_option maxHeartbeats 40000000 in
theorem rm_rec (l : Launch) (Z : State) (a0 : Array Value) (hw : ∀ d ∈ tables_1, d.before a0 Z = true) (ws : List Jvm.Cond) (a1 : Addr) (h0 : Heap) (n0 : Nat) (Z0 : n0 ≤ h0.size)  :
    MetFree l (⟨"java/lang/Record", "<init>", "()V"⟩ : MethodName) (head1 (Jvm.Cond.code (⟨"java/lang/Record", "<init>", "()V"⟩ : MethodName) jdk_30_method_1_code 1 none :: ws) ({ frames := 1, cells := 0, slots := 0, locals := 12 } : Room)) (fun a U => a = #[(.ref a1)] ∧ Z.Warmed39 U.vm ∧ U.heap = h0) (fun _ _ _ _ _ => True) (fun _ U o U' => ∃ v L, o = .returned v ∧ Q_rec Z a1 h0 n0 v U'.heap L ∧ FrameEnd U o U' L ({ frames := 1, cells := 0, slots := 0, locals := 12 } : Room).cells ({ frames := 1, cells := 0, slots := 0, locals := 12 } : Room).slots) := by
  refine MetFree.of_bodySF (plainFor_of_name pn_java_lang_Record) hisR ?_
  intro p e s m args below meth c s₁ Bd hml0 hP hK
  obtain ⟨rfl, hZ, hh⟩ := hP
  have hx := Bd.exec
  have hby := Bd.bytes
  have hml : c.maxLocals = 1 := hml0
  have hown : s.vm.findClass "java/lang/Record" = some m.cls := findClass_of_methodNamed Bd.named
  have hnm := (name_of_methodNamed Bd.named Bd.method).1
  have X0 : Stand p l e ({ frames := 1, cells := 0, slots := 0, locals := 12 } : Room) s m #[(.ref a1)] below meth c s₁ [] 0 0 := Stand.of_body Bd
  have e0 : s₁.heap = h0 := by rw [← hh, Bd.state]; rfl
  have N0 := Fr.nil n0
  have P0 : Keep h0 h0 [] := Keep.refl _ _
  have pre0 : ∀ t, Steps p.tables e below (s₁.setTop (mkF m 0 #[.val (.ref a1)] [])) t → Steps p.tables e below (s₁.setTop (entryFrame m #[(.ref a1)] 1)) t := fun t k => castTop (ef_rec m a1) k
  obtain ⟨T1, X1, e1, st1⟩ := initO X0 hx hZ hown (hw _ (List.mem_of_getElem? (i := 17) rfl)) (hw _ (List.mem_of_getElem? (i := 18) rfl)) (hw _ (List.mem_of_getElem? (i := 19) rfl)) e0 (g := (mkF m 1 #[.val (.ref a1)] [(.ref a1)])) rfl (by rw [hml]; rfl) rfl (hb hby d_jdk_30_method_1_code_1) (by decide) (W := 0) (by show 2 * 0 + _ ≤ _; exact Nat.le_of_eq rfl) (by decide)
  obtain ⟨fs, hr, hrun, hended, hW, hsame⟩ := X1.leave (v := none) (fun _ => rfl)
  refine ⟨_, _, pre0 _ ?_, hrun, hended, _, _, rfl, ?_, ⟨_, rfl⟩, hW, hsame.mono (by decide) (by decide)⟩
  · show Steps p.tables e below (s₁.setTop (mkF m 0 #[.val (.ref a1)] [])) _
    refine XS.aloadN X0.here hx rfl (hb hby d_jdk_30_method_1_code_0) rfl rfl ?_
    show Steps p.tables e below (s₁.setTop (mkF m 1 #[.val (.ref a1)] [(.ref a1)])) _
    refine st1 _ ?_
    show Steps p.tables e below (T1.setTop (mkF m 4 #[.val (.ref a1)] [])) _
    exact X1.returnOut hx Bd.returns (hb hby d_jdk_30_method_1_code_4) hr
  · show Q_rec Z a1 h0 n0 _ T1.heap _
    rw [e1]
    exact ⟨rfl, N0, rfl⟩
theorem d_prog_14_method_4_code_0 : decode prog_14_method_4_code 0 = .ok (.aload_n 0, 1) := by decide +kernel
theorem d_prog_14_method_4_code_1 : decode prog_14_method_4_code 1 = .ok (.ifnonnull 7, 3) := by decide +kernel
theorem d_prog_14_method_4_code_4 : decode prog_14_method_4_code 4 = .ok (.iconst 0, 1) := by decide +kernel
theorem d_prog_14_method_4_code_5 : decode prog_14_method_4_code 5 = .ok (.goto 7, 3) := by decide +kernel
theorem d_prog_14_method_4_code_12 : decode prog_14_method_4_code 12 = .ok (.ireturn, 1) := by decide +kernel
theorem pn_com_example_kerbline_kerbline_graph_Trail : plainName "com/example/kerbline/kerbline/graph/Trail" = true := by first | (simp [plainName, overriddenIn]; done) | decide +kernel
theorem ef_len (m : MethodId)  : entryFrame m #[.null] 1 = mkF m 0 #[.val .null] [] := by first | (simp [entryFrame, mkF, argsToLocals, Value.category]; done) | rfl
def Q_len (Z : State)  (h0 : Heap) (n0 : Nat) (v : Option Value) (h : Heap) (L : List Loc) : Prop := v = some (.int (0 : Int32)) ∧ Fr n0 L ∧ h = h0
set_option maxRecDepth 65536 in
set_option maxHeartbeats 40000000 in
theorem rm_len (l : Launch) (Z : State) (a0 : Array Value) (hw : ∀ d ∈ tables_1, d.before a0 Z = true) (ws : List Jvm.Cond)  (h0 : Heap) (n0 : Nat) (Z0 : n0 ≤ h0.size)  :
    MetFree l (⟨"com/example/kerbline/kerbline/graph/Trail", "lengthOf", "(Lcom/example/kerbline/kerbline/graph/Trail;)I"⟩ : MethodName) (head1 (Jvm.Cond.code (⟨"com/example/kerbline/kerbline/graph/Trail", "lengthOf", "(Lcom/example/kerbline/kerbline/graph/Trail;)I"⟩ : MethodName) prog_14_method_4_code 1 (some .int) :: ws) ({ frames := 0, cells := 0, slots := 0, locals := 0 } : Room)) (fun a U => a = #[.null] ∧ Z.Warmed39 U.vm ∧ U.heap = h0) (fun _ _ _ _ _ => True) (fun _ U o U' => ∃ v L, o = .returned v ∧ Q_len Z  h0 n0 v U'.heap L ∧ FrameEnd U o U' L ({ frames := 0, cells := 0, slots := 0, locals := 0 } : Room).cells ({ frames := 0, cells := 0, slots := 0, locals := 0 } : Room).slots) := by
  refine MetFree.of_bodySF (plainFor_of_name pn_com_example_kerbline_kerbline_graph_Trail) hisR ?_
  intro p e s m args below meth c s₁ Bd hml0 hP hK
  obtain ⟨rfl, hZ, hh⟩ := hP
  have hx := Bd.exec
  have hby := Bd.bytes
  have hml : c.maxLocals = 1 := hml0
  have hown : s.vm.findClass "com/example/kerbline/kerbline/graph/Trail" = some m.cls := findClass_of_methodNamed Bd.named
  have hnm := (name_of_methodNamed Bd.named Bd.method).1
  have X0 : Stand p l e ({ frames := 0, cells := 0, slots := 0, locals := 0 } : Room) s m #[.null] below meth c s₁ [] 0 0 := Stand.of_body Bd
  have e0 : s₁.heap = h0 := by rw [← hh, Bd.state]; rfl
  have N0 := Fr.nil n0
  have P0 : Keep h0 h0 [] := Keep.refl _ _
  have pre0 : ∀ t, Steps p.tables e below (s₁.setTop (mkF m 0 #[.val .null] [])) t → Steps p.tables e below (s₁.setTop (entryFrame m #[.null] 1)) t := fun t k => castTop (ef_len m ) k
  obtain ⟨fs, hr, hrun, hended, hW, hsame⟩ := X0.leave (v := some (.int (0 : Int32))) (fun h => by rw [Bd.returns] at h; cases h)
  refine ⟨_, _, pre0 _ ?_, hrun, hended, _, _, rfl, ?_, ⟨_, rfl⟩, hW, hsame.mono (by decide) (by decide)⟩
  · show Steps p.tables e below (s₁.setTop (mkF m 0 #[.val .null] [])) _
    refine XS.aloadN X0.here hx rfl (hb hby d_prog_14_method_4_code_0) rfl rfl ?_
    show Steps p.tables e below (s₁.setTop (mkF m 1 #[.val .null] [.null])) _
    refine XS.ifnonnullNo X0.here hx rfl (hb hby d_prog_14_method_4_code_1) rfl ?_
    show Steps p.tables e below (s₁.setTop (mkF m 4 #[.val .null] [])) _
    refine XS.iconst X0.here hx rfl (hb hby d_prog_14_method_4_code_4) ?_
    show Steps p.tables e below (s₁.setTop (mkF m 5 #[.val .null] [(.int (0 : Int32))])) _
    refine XS.goto X0.here hx rfl (pc0 := 5) (pc' := 12) rfl (hb hby d_prog_14_method_4_code_5) (by decide) (by decide) ?_
    show Steps p.tables e below (s₁.setTop (mkF m 12 #[.val .null] [(.int (0 : Int32))])) _
    exact retOut X0 hx (t := .int) (i := .ireturn) Bd.returns rfl (Or.inl ⟨rfl, Or.inl rfl, _, rfl⟩) (hb hby d_prog_14_method_4_code_12) hr
  · show Q_len Z  h0 n0 _ s₁.heap _
    rw [e0]
    exact ⟨rfl, N0, rfl⟩
theorem d_prog_14_method_1_code_0 : decode prog_14_method_1_code 0 = .ok (.aload_n 0, 1) := by decide +kernel
theorem d_prog_14_method_1_code_1 : decode prog_14_method_1_code 1 = .ok (.invokespecial 1, 3) := by decide +kernel
theorem pd_2829V : parseMethodDescriptor "()V" = some ⟨[], none⟩ := by decide +kernel
theorem d_prog_14_method_1_code_4 : decode prog_14_method_1_code 4 = .ok (.iload_n 3, 1) := by decide +kernel
theorem d_prog_14_method_1_code_5 : decode prog_14_method_1_code 5 = .ok (.aload_n 2, 1) := by decide +kernel
theorem d_prog_14_method_1_code_6 : decode prog_14_method_1_code 6 = .ok (.invokestatic 7, 3) := by decide +kernel
theorem pd_28Lcom2fexample2fkerbline2fkerbline2fgraph2fTrail3b29I : parseMethodDescriptor "(Lcom/example/kerbline/kerbline/graph/Trail;)I" = some ⟨[(.object "com/example/kerbline/kerbline/graph/Trail")], some .int⟩ := by decide +kernel
theorem d_prog_14_method_1_code_9 : decode prog_14_method_1_code 9 = .ok (.iconst 1, 1) := by decide +kernel
theorem d_prog_14_method_1_code_10 : decode prog_14_method_1_code 10 = .ok (.iadd, 1) := by decide +kernel
theorem d_prog_14_method_1_code_11 : decode prog_14_method_1_code 11 = .ok (.if_icmp .eq 21, 3) := by decide +kernel
theorem d_prog_14_method_1_code_32 : decode prog_14_method_1_code 32 = .ok (.aload_n 0, 1) := by decide +kernel
theorem d_prog_14_method_1_code_33 : decode prog_14_method_1_code 33 = .ok (.iload_n 1, 1) := by decide +kernel
theorem d_prog_14_method_1_code_34 : decode prog_14_method_1_code 34 = .ok (.putfield 22, 3) := by decide +kernel
theorem d_prog_14_method_1_code_37 : decode prog_14_method_1_code 37 = .ok (.aload_n 0, 1) := by decide +kernel
theorem d_prog_14_method_1_code_38 : decode prog_14_method_1_code 38 = .ok (.aload_n 2, 1) := by decide +kernel
theorem d_prog_14_method_1_code_39 : decode prog_14_method_1_code 39 = .ok (.putfield 26, 3) := by decide +kernel
theorem d_prog_14_method_1_code_42 : decode prog_14_method_1_code 42 = .ok (.aload_n 0, 1) := by decide +kernel
theorem d_prog_14_method_1_code_43 : decode prog_14_method_1_code 43 = .ok (.iload_n 3, 1) := by decide +kernel
theorem d_prog_14_method_1_code_44 : decode prog_14_method_1_code 44 = .ok (.putfield 30, 3) := by decide +kernel
theorem d_prog_14_method_1_code_47 : decode prog_14_method_1_code 47 = .ok (.return_, 1) := by decide +kernel
theorem ef_tr3 (m : MethodId) (x0 : Addr) (x1 : Int32) (x3 : Int32) : entryFrame m #[(.ref x0), (.int x1), .null, (.int x3)] 4 = mkF m 0 #[.val (.ref x0), .val (.int x1), .val .null, .val (.int x3)] [] := by first | (simp [entryFrame, mkF, argsToLocals, Value.category]; done) | rfl
def Q_tr3 (Z : State) (a1 : Addr) (k1 : Int32) (u1 : Value) (u2 : Value) (u3 : Value) (h0 : Heap) (n0 : Nat) (v : Option Value) (h : Heap) (L : List Loc) : Prop := v = none ∧ Fr n0 L ∧ Keep h0 h [a1] ∧ (Exa Z h a1 "com/example/kerbline/kerbline/graph/Trail")
set_option maxRecDepth 65536 in
set_option maxHeartbeats 40000000 in
theorem rm_tr3 (l : Launch) (Z : State) (a0 : Array Value) (hw : ∀ d ∈ tables_1, d.before a0 Z = true) (ws : List Jvm.Cond) (a1 : Addr) (k1 : Int32) (u1 : Value) (u2 : Value) (u3 : Value) (h0 : Heap) (n0 : Nat) (Z0 : n0 ≤ h0.size) (pE0 : Exa Z h0 a1 "com/example/kerbline/kerbline/graph/Trail") (pF1 : Fld Z h0 a1 "com/example/kerbline/kerbline/graph/Trail" "edge" "I" u1) (pF2 : Fld Z h0 a1 "com/example/kerbline/kerbline/graph/Trail" "before" "Lcom/example/kerbline/kerbline/graph/Trail;" u2) (pF3 : Fld Z h0 a1 "com/example/kerbline/kerbline/graph/Trail" "length" "I" u3) (pg4 : n0 ≤ a1) :
    MetFree l (⟨"com/example/kerbline/kerbline/graph/Trail", "<init>", "(ILcom/example/kerbline/kerbline/graph/Trail;I)V"⟩ : MethodName) (head1 (Jvm.Cond.code (⟨"com/example/kerbline/kerbline/graph/Trail", "<init>", "(ILcom/example/kerbline/kerbline/graph/Trail;I)V"⟩ : MethodName) prog_14_method_1_code 4 none :: ws) ({ frames := 2, cells := 0, slots := 0, locals := 24 } : Room)) (fun a U => a = #[(.ref a1), (.int k1), .null, (.int ((0 : Int32) + (1 : Int32)))] ∧ Z.Warmed39 U.vm ∧ U.heap = h0) (fun _ _ _ _ _ => True) (fun _ U o U' => ∃ v L, o = .returned v ∧ Q_tr3 Z a1 k1 u1 u2 u3 h0 n0 v U'.heap L ∧ FrameEnd U o U' L ({ frames := 2, cells := 0, slots := 0, locals := 24 } : Room).cells ({ frames := 2, cells := 0, slots := 0, locals := 24 } : Room).slots) := by
  refine MetFree.of_bodySF (plainFor_of_name pn_com_example_kerbline_kerbline_graph_Trail) hisR ?_
  intro p e s m args below meth c s₁ Bd hml0 hP hK
  obtain ⟨rfl, hZ, hh⟩ := hP
  have hx := Bd.exec
  have hby := Bd.bytes
  have hml : c.maxLocals = 4 := hml0
  have hown : s.vm.findClass "com/example/kerbline/kerbline/graph/Trail" = some m.cls := findClass_of_methodNamed Bd.named
  have hnm := (name_of_methodNamed Bd.named Bd.method).1
  have X0 : Stand p l e ({ frames := 2, cells := 0, slots := 0, locals := 24 } : Room) s m #[(.ref a1), (.int k1), .null, (.int ((0 : Int32) + (1 : Int32)))] below meth c s₁ [] 0 0 := Stand.of_body Bd
  have e0 : s₁.heap = h0 := by rw [← hh, Bd.state]; rfl
  have N0 := Fr.nil n0
  have P0 : Keep h0 h0 [a1] := Keep.refl _ _
  have pre0 : ∀ t, Steps p.tables e below (s₁.setTop (mkF m 0 #[.val (.ref a1), .val (.int k1), .val .null, .val (.int ((0 : Int32) + (1 : Int32)))] [])) t → Steps p.tables e below (s₁.setTop (entryFrame m #[(.ref a1), (.int k1), .null, (.int ((0 : Int32) + (1 : Int32)))] 4)) t := fun t k => castTop (ef_tr3 m a1 k1 ((0 : Int32) + (1 : Int32))) k
  obtain ⟨_, _, ⟨T1, L1, k1, n1⟩, -, X1, ⟨Lc1, hQ1, l1, y1, z1⟩, st1⟩ := X0.specialBack hx (y := (⟨"java/lang/Record", "<init>", "()V"⟩ : MethodName)) rfl hown (mvT hZ (hw _ (List.mem_of_getElem? (i := 12) rfl))) (mvT hZ (hw _ (List.mem_of_getElem? (i := 13) rfl))) (mvT hZ (hw _ (List.mem_of_getElem? (i := 16) rfl))) (by decide) (backOf (W := 0) (rm_rec l Z a0 hw [] a1 h0 n0 (Nat.le_trans Z0 P0.1) ) hZ (hw _ (List.mem_of_getElem? (i := 16) rfl)) (hw _ (List.mem_of_getElem? (i := 15) rfl)) (by decide) (by decide)) (g := (mkF m 1 #[.val (.ref a1), .val (.int k1), .val .null, .val (.int ((0 : Int32) + (1 : Int32)))] [(.ref a1)])) rfl (by rw [hml]; rfl) (Steps.refl _) (a := a1) (argsL := []) (rest := []) (lenOf pd_2829V rfl) rfl (by show 2 * 0 + _ ≤ _; exact Nat.le_of_eq rfl) (hb hby d_prog_14_method_1_code_1) (fun _ _ => ⟨rfl, e0, (by decide : 0 + 0 ≤ _), (by decide : 0 + 0 ≤ _)⟩)
  dsimp only [Pt.U, Pt.locs, Pt.cells, Pt.slots] at X1 l1 y1 z1 st1 hQ1
  subst l1 y1 z1
  obtain ⟨rfl, N1q, e1⟩ := hQ1
  have N1 := Fr.app N0 N1q
  obtain ⟨_, _, ⟨T2, L2, k2, n2⟩, -, X2, ⟨Lc2, hQ2, l2, y2, z2⟩, st2⟩ := Jvm.LawKit.callS X1 hx (y := (⟨"com/example/kerbline/kerbline/graph/Trail", "lengthOf", "(Lcom/example/kerbline/kerbline/graph/Trail;)I"⟩ : MethodName)) hown (mvT hZ (hw _ (List.mem_of_getElem? (i := 6) rfl))) (mvT hZ (hw _ (List.mem_of_getElem? (i := 7) rfl))) (mvT hZ (hw _ (List.mem_of_getElem? (i := 2) rfl))) (mvT hZ (hw _ (List.mem_of_getElem? (i := 8) rfl))) (by decide) (backOf (W := 1) (rm_len l Z a0 hw []  h0 n0 (Nat.le_trans Z0 P0.1) ) hZ (hw _ (List.mem_of_getElem? (i := 8) rfl)) (hw _ (List.mem_of_getElem? (i := 2) rfl)) (by decide) (by decide)) (g := (mkF m 6 #[.val (.ref a1), .val (.int k1), .val .null, .val (.int ((0 : Int32) + (1 : Int32)))] [.null, (.int ((0 : Int32) + (1 : Int32)))])) rfl (by rw [hml]; rfl) (argsL := [.null]) (rest := [(.int ((0 : Int32) + (1 : Int32)))]) (lenOf pd_28Lcom2fexample2fkerbline2fkerbline2fgraph2fTrail3b29I rfl) rfl (by show 2 * 0 + _ ≤ _; exact Nat.le_of_eq rfl) (hb hby d_prog_14_method_1_code_6) (fun _ _ => ⟨rfl, e1, (by decide : 0 + 0 ≤ _), (by decide : 0 + 0 ≤ _)⟩)
  dsimp only [Pt.U, Pt.locs, Pt.cells, Pt.slots] at X2 l2 y2 z2 st2 hQ2
  subst l2 y2 z2
  obtain ⟨rfl, N2q, e2⟩ := hQ2
  have N2 := Fr.app N1 N2q
  obtain ⟨T3, h3, X3, e3, W3, st3⟩ := putF X2 hx hZ hown (host := "") (Or.inl (hw _ (List.mem_of_getElem? (i := 20) rfl))) Via.refl e2 pF1 pE0 (Or.inr ⟨(hw _ (List.mem_of_getElem? (i := 21) rfl)), rfl, hnm⟩) (hw _ (List.mem_of_getElem? (i := 1) rfl)) (ty := .int) (by decide) rfl rfl (g := (mkF m 34 #[.val (.ref a1), .val (.int k1), .val .null, .val (.int ((0 : Int32) + (1 : Int32)))] [(.int k1), (.ref a1)])) rfl rfl (hb hby d_prog_14_method_1_code_34)
  have P4 : Keep h0 h3 [a1] := P0.wr W3 (Or.inl (List.mem_of_getElem? (i := 0) rfl))
  have F5 : Fld Z h3 a1 "com/example/kerbline/kerbline/graph/Trail" "edge" "I" (.int k1) := Fld.same W3 pF1
  have N3 := Fr.snoc X3 N2 pg4
  have F6 : Fld Z h3 a1 "com/example/kerbline/kerbline/graph/Trail" "before" "Lcom/example/kerbline/kerbline/graph/Trail;" u2 := (Fld.other W3 pF2 (Or.inr (slot_ne (t := (.object "com/example/kerbline/kerbline/graph/Trail")) (t' := .int) (C := "com/example/kerbline/kerbline/graph/Trail") (a0 := a0) (Or.inr (hw _ (List.mem_of_getElem? (i := 23) rfl))) (Or.inr (hw _ (List.mem_of_getElem? (i := 21) rfl))) (by decide) (by decide) (by decide))))
  have E7 : Exa Z h3 a1 "com/example/kerbline/kerbline/graph/Trail" := (Exa.wr W3 pE0)
  obtain ⟨T8, h8, X8, e8, W8, st8⟩ := putF X3 hx hZ hown (host := "") (Or.inl (hw _ (List.mem_of_getElem? (i := 22) rfl))) Via.refl e3 F6 E7 (Or.inr ⟨(hw _ (List.mem_of_getElem? (i := 23) rfl)), rfl, hnm⟩) (hw _ (List.mem_of_getElem? (i := 1) rfl)) (ty := (.object "com/example/kerbline/kerbline/graph/Trail")) (by decide) rfl rfl (g := (mkF m 39 #[.val (.ref a1), .val (.int k1), .val .null, .val (.int ((0 : Int32) + (1 : Int32)))] [.null, (.ref a1)])) rfl rfl (hb hby d_prog_14_method_1_code_39)
  have P9 : Keep h0 h8 [a1] := P4.wr W8 (Or.inl (List.mem_of_getElem? (i := 0) rfl))
  have F10 : Fld Z h8 a1 "com/example/kerbline/kerbline/graph/Trail" "before" "Lcom/example/kerbline/kerbline/graph/Trail;" .null := Fld.same W8 F6
  have N8 := Fr.snoc X8 N3 pg4
  have F11 : Fld Z h8 a1 "com/example/kerbline/kerbline/graph/Trail" "length" "I" u3 := (Fld.other W8 (Fld.other W3 pF3 (Or.inr (slot_ne (t := .int) (t' := .int) (C := "com/example/kerbline/kerbline/graph/Trail") (a0 := a0) (Or.inr (hw _ (List.mem_of_getElem? (i := 25) rfl))) (Or.inr (hw _ (List.mem_of_getElem? (i := 21) rfl))) (by decide) (by decide) (by decide)))) (Or.inr (slot_ne (t := .int) (t' := (.object "com/example/kerbline/kerbline/graph/Trail")) (C := "com/example/kerbline/kerbline/graph/Trail") (a0 := a0) (Or.inr (hw _ (List.mem_of_getElem? (i := 25) rfl))) (Or.inr (hw _ (List.mem_of_getElem? (i := 23) rfl))) (by decide) (by decide) (by decide))))
  have E12 : Exa Z h8 a1 "com/example/kerbline/kerbline/graph/Trail" := (Exa.wr W8 E7)
  obtain ⟨T13, h13, X13, e13, W13, st13⟩ := putF X8 hx hZ hown (host := "") (Or.inl (hw _ (List.mem_of_getElem? (i := 24) rfl))) Via.refl e8 F11 E12 (Or.inr ⟨(hw _ (List.mem_of_getElem? (i := 25) rfl)), rfl, hnm⟩) (hw _ (List.mem_of_getElem? (i := 1) rfl)) (ty := .int) (by decide) rfl rfl (g := (mkF m 44 #[.val (.ref a1), .val (.int k1), .val .null, .val (.int ((0 : Int32) + (1 : Int32)))] [(.int ((0 : Int32) + (1 : Int32))), (.ref a1)])) rfl rfl (hb hby d_prog_14_method_1_code_44)
  have P14 : Keep h0 h13 [a1] := P9.wr W13 (Or.inl (List.mem_of_getElem? (i := 0) rfl))
  have F15 : Fld Z h13 a1 "com/example/kerbline/kerbline/graph/Trail" "length" "I" (.int ((0 : Int32) + (1 : Int32))) := Fld.same W13 F11
  have N13 := Fr.snoc X13 N8 pg4
  have E16 : Exa Z h13 a1 "com/example/kerbline/kerbline/graph/Trail" := (Exa.wr W13 E12)
  obtain ⟨fs, hr, hrun, hended, hW, hsame⟩ := X13.leave (v := none) (fun _ => rfl)
  refine ⟨_, _, pre0 _ ?_, hrun, hended, _, _, rfl, ?_, ⟨_, rfl⟩, hW, hsame.mono (by decide) (by decide)⟩
  · show Steps p.tables e below (s₁.setTop (mkF m 0 #[.val (.ref a1), .val (.int k1), .val .null, .val (.int ((0 : Int32) + (1 : Int32)))] [])) _
    refine XS.aloadN X0.here hx rfl (hb hby d_prog_14_method_1_code_0) rfl rfl ?_
    show Steps p.tables e below (s₁.setTop (mkF m 1 #[.val (.ref a1), .val (.int k1), .val .null, .val (.int ((0 : Int32) + (1 : Int32)))] [(.ref a1)])) _
    refine st1.trans ?_
    show Steps p.tables e below (T1.setTop (mkF m 4 #[.val (.ref a1), .val (.int k1), .val .null, .val (.int ((0 : Int32) + (1 : Int32)))] [])) _
    refine XS.iloadN X1.here hx rfl (hb hby d_prog_14_method_1_code_4) rfl ?_
    show Steps p.tables e below (T1.setTop (mkF m 5 #[.val (.ref a1), .val (.int k1), .val .null, .val (.int ((0 : Int32) + (1 : Int32)))] [(.int ((0 : Int32) + (1 : Int32)))])) _
    refine XS.aloadN X1.here hx rfl (hb hby d_prog_14_method_1_code_5) rfl rfl ?_
    show Steps p.tables e below (T1.setTop (mkF m 6 #[.val (.ref a1), .val (.int k1), .val .null, .val (.int ((0 : Int32) + (1 : Int32)))] [.null, (.int ((0 : Int32) + (1 : Int32)))])) _
    refine st2 _ ?_
    show Steps p.tables e below (T2.setTop (mkF m 9 #[.val (.ref a1), .val (.int k1), .val .null, .val (.int ((0 : Int32) + (1 : Int32)))] [(.int (0 : Int32)), (.int ((0 : Int32) + (1 : Int32)))])) _
    refine XS.iconst X2.here hx rfl (hb hby d_prog_14_method_1_code_9) ?_
    show Steps p.tables e below (T2.setTop (mkF m 10 #[.val (.ref a1), .val (.int k1), .val .null, .val (.int ((0 : Int32) + (1 : Int32)))] [(.int (1 : Int32)), (.int (0 : Int32)), (.int ((0 : Int32) + (1 : Int32)))])) _
    refine XS.iadd X2.here hx rfl (hb hby d_prog_14_method_1_code_10) rfl ?_
    show Steps p.tables e below (T2.setTop (mkF m 11 #[.val (.ref a1), .val (.int k1), .val .null, .val (.int ((0 : Int32) + (1 : Int32)))] [(.int ((0 : Int32) + (1 : Int32))), (.int ((0 : Int32) + (1 : Int32)))])) _
    refine XS.icmpYes X2.here hx rfl (pc0 := 11) (pc' := 32) rfl (hb hby d_prog_14_method_1_code_11) rfl (teq (rfl : ((0 : Int32) + (1 : Int32)) = ((0 : Int32) + (1 : Int32)))).1 (by decide) (by decide) ?_
    show Steps p.tables e below (T2.setTop (mkF m 32 #[.val (.ref a1), .val (.int k1), .val .null, .val (.int ((0 : Int32) + (1 : Int32)))] [])) _
    refine XS.aloadN X2.here hx rfl (hb hby d_prog_14_method_1_code_32) rfl rfl ?_
    show Steps p.tables e below (T2.setTop (mkF m 33 #[.val (.ref a1), .val (.int k1), .val .null, .val (.int ((0 : Int32) + (1 : Int32)))] [(.ref a1)])) _
    refine XS.iloadN X2.here hx rfl (hb hby d_prog_14_method_1_code_33) rfl ?_
    show Steps p.tables e below (T2.setTop (mkF m 34 #[.val (.ref a1), .val (.int k1), .val .null, .val (.int ((0 : Int32) + (1 : Int32)))] [(.int k1), (.ref a1)])) _
    refine st3 _ ?_
    show Steps p.tables e below (T3.setTop (mkF m 37 #[.val (.ref a1), .val (.int k1), .val .null, .val (.int ((0 : Int32) + (1 : Int32)))] [])) _
    refine XS.aloadN X3.here hx rfl (hb hby d_prog_14_method_1_code_37) rfl rfl ?_
    show Steps p.tables e below (T3.setTop (mkF m 38 #[.val (.ref a1), .val (.int k1), .val .null, .val (.int ((0 : Int32) + (1 : Int32)))] [(.ref a1)])) _
    refine XS.aloadN X3.here hx rfl (hb hby d_prog_14_method_1_code_38) rfl rfl ?_
    show Steps p.tables e below (T3.setTop (mkF m 39 #[.val (.ref a1), .val (.int k1), .val .null, .val (.int ((0 : Int32) + (1 : Int32)))] [.null, (.ref a1)])) _
    refine st8 _ ?_
    show Steps p.tables e below (T8.setTop (mkF m 42 #[.val (.ref a1), .val (.int k1), .val .null, .val (.int ((0 : Int32) + (1 : Int32)))] [])) _
    refine XS.aloadN X8.here hx rfl (hb hby d_prog_14_method_1_code_42) rfl rfl ?_
    show Steps p.tables e below (T8.setTop (mkF m 43 #[.val (.ref a1), .val (.int k1), .val .null, .val (.int ((0 : Int32) + (1 : Int32)))] [(.ref a1)])) _
    refine XS.iloadN X8.here hx rfl (hb hby d_prog_14_method_1_code_43) rfl ?_
    show Steps p.tables e below (T8.setTop (mkF m 44 #[.val (.ref a1), .val (.int k1), .val .null, .val (.int ((0 : Int32) + (1 : Int32)))] [(.int ((0 : Int32) + (1 : Int32))), (.ref a1)])) _
    refine st13 _ ?_
    show Steps p.tables e below (T13.setTop (mkF m 47 #[.val (.ref a1), .val (.int k1), .val .null, .val (.int ((0 : Int32) + (1 : Int32)))] [])) _
    exact X13.returnOut hx Bd.returns (hb hby d_prog_14_method_1_code_47) hr
  · show Q_tr3 Z a1 k1 u1 u2 u3 h0 n0 _ T13.heap _
    rw [e13]
    exact ⟨rfl, N13, P14, E16⟩
theorem d_prog_14_method_2_code_0 : decode prog_14_method_2_code 0 = .ok (.aload_n 0, 1) := by decide +kernel
theorem d_prog_14_method_2_code_1 : decode prog_14_method_2_code 1 = .ok (.iload_n 1, 1) := by decide +kernel
theorem d_prog_14_method_2_code_2 : decode prog_14_method_2_code 2 = .ok (.aload_n 2, 1) := by decide +kernel
theorem d_prog_14_method_2_code_3 : decode prog_14_method_2_code 3 = .ok (.aload_n 2, 1) := by decide +kernel
theorem d_prog_14_method_2_code_4 : decode prog_14_method_2_code 4 = .ok (.invokestatic 7, 3) := by decide +kernel
theorem d_prog_14_method_2_code_7 : decode prog_14_method_2_code 7 = .ok (.iconst 1, 1) := by decide +kernel
theorem d_prog_14_method_2_code_8 : decode prog_14_method_2_code 8 = .ok (.iadd, 1) := by decide +kernel
theorem d_prog_14_method_2_code_9 : decode prog_14_method_2_code 9 = .ok (.invokespecial 33, 3) := by decide +kernel
theorem pd_28ILcom2fexample2fkerbline2fkerbline2fgraph2fTrail3bI29V : parseMethodDescriptor "(ILcom/example/kerbline/kerbline/graph/Trail;I)V" = some ⟨[.int, (.object "com/example/kerbline/kerbline/graph/Trail"), .int], none⟩ := by decide +kernel
theorem d_prog_14_method_2_code_12 : decode prog_14_method_2_code 12 = .ok (.return_, 1) := by decide +kernel
theorem ef_tr2 (m : MethodId) (x0 : Addr) (x1 : Int32) : entryFrame m #[(.ref x0), (.int x1), .null] 3 = mkF m 0 #[.val (.ref x0), .val (.int x1), .val .null] [] := by first | (simp [entryFrame, mkF, argsToLocals, Value.category]; done) | rfl
def Q_tr2 (Z : State) (a1 : Addr) (k1 : Int32) (u1 : Value) (u2 : Value) (u3 : Value) (h0 : Heap) (n0 : Nat) (v : Option Value) (h : Heap) (L : List Loc) : Prop := v = none ∧ Fr n0 L ∧ Keep h0 h [a1] ∧ (Exa Z h a1 "com/example/kerbline/kerbline/graph/Trail")
set_option maxRecDepth 65536 in
set_option maxHeartbeats 40000000 in
theorem rm_tr2 (l : Launch) (Z : State) (a0 : Array Value) (hw : ∀ d ∈ tables_1, d.before a0 Z = true) (ws : List Jvm.Cond) (a1 : Addr) (k1 : Int32) (u1 : Value) (u2 : Value) (u3 : Value) (h0 : Heap) (n0 : Nat) (Z0 : n0 ≤ h0.size) (pE0 : Exa Z h0 a1 "com/example/kerbline/kerbline/graph/Trail") (pF1 : Fld Z h0 a1 "com/example/kerbline/kerbline/graph/Trail" "edge" "I" u1) (pF2 : Fld Z h0 a1 "com/example/kerbline/kerbline/graph/Trail" "before" "Lcom/example/kerbline/kerbline/graph/Trail;" u2) (pF3 : Fld Z h0 a1 "com/example/kerbline/kerbline/graph/Trail" "length" "I" u3) (pg4 : n0 ≤ a1) :
    MetFree l (⟨"com/example/kerbline/kerbline/graph/Trail", "<init>", "(ILcom/example/kerbline/kerbline/graph/Trail;)V"⟩ : MethodName) (head1 (Jvm.Cond.code (⟨"com/example/kerbline/kerbline/graph/Trail", "<init>", "(ILcom/example/kerbline/kerbline/graph/Trail;)V"⟩ : MethodName) prog_14_method_2_code 3 none :: ws) ({ frames := 3, cells := 0, slots := 0, locals := 39 } : Room)) (fun a U => a = #[(.ref a1), (.int k1), .null] ∧ Z.Warmed39 U.vm ∧ U.heap = h0) (fun _ _ _ _ _ => True) (fun _ U o U' => ∃ v L, o = .returned v ∧ Q_tr2 Z a1 k1 u1 u2 u3 h0 n0 v U'.heap L ∧ FrameEnd U o U' L ({ frames := 3, cells := 0, slots := 0, locals := 39 } : Room).cells ({ frames := 3, cells := 0, slots := 0, locals := 39 } : Room).slots) := by
  refine MetFree.of_bodySF (plainFor_of_name pn_com_example_kerbline_kerbline_graph_Trail) hisR ?_
  intro p e s m args below meth c s₁ Bd hml0 hP hK
  obtain ⟨rfl, hZ, hh⟩ := hP
  have hx := Bd.exec
  have hby := Bd.bytes
  have hml : c.maxLocals = 3 := hml0
  have hown : s.vm.findClass "com/example/kerbline/kerbline/graph/Trail" = some m.cls := findClass_of_methodNamed Bd.named
  have hnm := (name_of_methodNamed Bd.named Bd.method).1
  have X0 : Stand p l e ({ frames := 3, cells := 0, slots := 0, locals := 39 } : Room) s m #[(.ref a1), (.int k1), .null] below meth c s₁ [] 0 0 := Stand.of_body Bd
  have e0 : s₁.heap = h0 := by rw [← hh, Bd.state]; rfl
  have N0 := Fr.nil n0
  have P0 : Keep h0 h0 [a1] := Keep.refl _ _
  have pre0 : ∀ t, Steps p.tables e below (s₁.setTop (mkF m 0 #[.val (.ref a1), .val (.int k1), .val .null] [])) t → Steps p.tables e below (s₁.setTop (entryFrame m #[(.ref a1), (.int k1), .null] 3)) t := fun t k => castTop (ef_tr2 m a1 k1) k
  obtain ⟨_, _, ⟨T1, L1, k1, n1⟩, -, X1, ⟨Lc1, hQ1, l1, y1, z1⟩, st1⟩ := Jvm.LawKit.callS X0 hx (y := (⟨"com/example/kerbline/kerbline/graph/Trail", "lengthOf", "(Lcom/example/kerbline/kerbline/graph/Trail;)I"⟩ : MethodName)) hown (mvT hZ (hw _ (List.mem_of_getElem? (i := 6) rfl))) (mvT hZ (hw _ (List.mem_of_getElem? (i := 7) rfl))) (mvT hZ (hw _ (List.mem_of_getElem? (i := 2) rfl))) (mvT hZ (hw _ (List.mem_of_getElem? (i := 8) rfl))) (by decide) (backOf (W := 3) (rm_len l Z a0 hw []  h0 n0 (Nat.le_trans Z0 P0.1) ) hZ (hw _ (List.mem_of_getElem? (i := 8) rfl)) (hw _ (List.mem_of_getElem? (i := 2) rfl)) (by decide) (by decide)) (g := (mkF m 4 #[.val (.ref a1), .val (.int k1), .val .null] [.null, .null, (.int k1), (.ref a1)])) rfl (by rw [hml]; rfl) (argsL := [.null]) (rest := [.null, (.int k1), (.ref a1)]) (lenOf pd_28Lcom2fexample2fkerbline2fkerbline2fgraph2fTrail3b29I rfl) rfl (by show 2 * 0 + _ ≤ _; exact Nat.le_of_eq rfl) (hb hby d_prog_14_method_2_code_4) (fun _ _ => ⟨rfl, e0, (by decide : 0 + 0 ≤ _), (by decide : 0 + 0 ≤ _)⟩)
  dsimp only [Pt.U, Pt.locs, Pt.cells, Pt.slots] at X1 l1 y1 z1 st1 hQ1
  subst l1 y1 z1
  obtain ⟨rfl, N1q, e1⟩ := hQ1
  have N1 := Fr.app N0 N1q
  obtain ⟨_, _, ⟨T2, L2, k2, n2⟩, -, X2, ⟨Lc2, hQ2, l2, y2, z2⟩, st2⟩ := X1.specialBack hx (y := (⟨"com/example/kerbline/kerbline/graph/Trail", "<init>", "(ILcom/example/kerbline/kerbline/graph/Trail;I)V"⟩ : MethodName)) rfl hown (mvT hZ (hw _ (List.mem_of_getElem? (i := 9) rfl))) (mvT hZ (hw _ (List.mem_of_getElem? (i := 10) rfl))) (mvT hZ (hw _ (List.mem_of_getElem? (i := 11) rfl))) (by decide) (backOf (W := 0) (rm_tr3 l Z a0 hw [] a1 k1 u1 u2 u3 h0 n0 (Nat.le_trans Z0 P0.1) pE0 pF1 pF2 pF3 pg4) hZ (hw _ (List.mem_of_getElem? (i := 11) rfl)) (hw _ (List.mem_of_getElem? (i := 2) rfl)) (by decide) (by decide)) (g := (mkF m 9 #[.val (.ref a1), .val (.int k1), .val .null] [(.int ((0 : Int32) + (1 : Int32))), .null, (.int k1), (.ref a1)])) rfl (by rw [hml]; rfl) (Steps.refl _) (a := a1) (argsL := [(.int k1), .null, (.int ((0 : Int32) + (1 : Int32)))]) (rest := []) (lenOf pd_28ILcom2fexample2fkerbline2fkerbline2fgraph2fTrail3bI29V rfl) rfl (by show 2 * 0 + _ ≤ _; exact Nat.le_of_eq rfl) (hb hby d_prog_14_method_2_code_9) (fun _ _ => ⟨rfl, e1, (by decide : 0 + 0 ≤ _), (by decide : 0 + 0 ≤ _)⟩)
  dsimp only [Pt.U, Pt.locs, Pt.cells, Pt.slots] at X2 l2 y2 z2 st2 hQ2
  subst l2 y2 z2
  obtain ⟨rfl, N2q, K2, r2_0⟩ := hQ2
  have N2 := Fr.app N1 N2q
  have P3 : Keep h0 T2.heap [a1] := P0.trans K2 (allS (Or.inl (List.mem_of_getElem? (i := 0) rfl)) all0)
  obtain ⟨fs, hr, hrun, hended, hW, hsame⟩ := X2.leave (v := none) (fun _ => rfl)
  refine ⟨_, _, pre0 _ ?_, hrun, hended, _, _, rfl, ?_, ⟨_, rfl⟩, hW, hsame.mono (by decide) (by decide)⟩
  · show Steps p.tables e below (s₁.setTop (mkF m 0 #[.val (.ref a1), .val (.int k1), .val .null] [])) _
    refine XS.aloadN X0.here hx rfl (hb hby d_prog_14_method_2_code_0) rfl rfl ?_
    show Steps p.tables e below (s₁.setTop (mkF m 1 #[.val (.ref a1), .val (.int k1), .val .null] [(.ref a1)])) _
    refine XS.iloadN X0.here hx rfl (hb hby d_prog_14_method_2_code_1) rfl ?_
    show Steps p.tables e below (s₁.setTop (mkF m 2 #[.val (.ref a1), .val (.int k1), .val .null] [(.int k1), (.ref a1)])) _
    refine XS.aloadN X0.here hx rfl (hb hby d_prog_14_method_2_code_2) rfl rfl ?_
    show Steps p.tables e below (s₁.setTop (mkF m 3 #[.val (.ref a1), .val (.int k1), .val .null] [.null, (.int k1), (.ref a1)])) _
    refine XS.aloadN X0.here hx rfl (hb hby d_prog_14_method_2_code_3) rfl rfl ?_
    show Steps p.tables e below (s₁.setTop (mkF m 4 #[.val (.ref a1), .val (.int k1), .val .null] [.null, .null, (.int k1), (.ref a1)])) _
    refine st1 _ ?_
    show Steps p.tables e below (T1.setTop (mkF m 7 #[.val (.ref a1), .val (.int k1), .val .null] [(.int (0 : Int32)), .null, (.int k1), (.ref a1)])) _
    refine XS.iconst X1.here hx rfl (hb hby d_prog_14_method_2_code_7) ?_
    show Steps p.tables e below (T1.setTop (mkF m 8 #[.val (.ref a1), .val (.int k1), .val .null] [(.int (1 : Int32)), (.int (0 : Int32)), .null, (.int k1), (.ref a1)])) _
    refine XS.iadd X1.here hx rfl (hb hby d_prog_14_method_2_code_8) rfl ?_
    show Steps p.tables e below (T1.setTop (mkF m 9 #[.val (.ref a1), .val (.int k1), .val .null] [(.int ((0 : Int32) + (1 : Int32))), .null, (.int k1), (.ref a1)])) _
    refine st2.trans ?_
    show Steps p.tables e below (T2.setTop (mkF m 12 #[.val (.ref a1), .val (.int k1), .val .null] [])) _
    exact X2.returnOut hx Bd.returns (hb hby d_prog_14_method_2_code_12) hr
  · show Q_tr2 Z a1 k1 u1 u2 u3 h0 n0 _ T2.heap _
    skip
    exact ⟨rfl, N2, P3, r2_0⟩
theorem d_prog_10_method_2_code_0 : decode prog_10_method_2_code 0 = .ok (.aload_n 0, 1) := by decide +kernel
theorem d_prog_10_method_2_code_1 : decode prog_10_method_2_code 1 = .ok (.invokespecial 7, 3) := by decide +kernel
theorem d_prog_10_method_2_code_4 : decode prog_10_method_2_code 4 = .ok (.aload_n 0, 1) := by decide +kernel
theorem d_prog_10_method_2_code_5 : decode prog_10_method_2_code 5 = .ok (.iload_n 1, 1) := by decide +kernel
theorem d_prog_10_method_2_code_6 : decode prog_10_method_2_code 6 = .ok (.putfield 12, 3) := by decide +kernel
theorem d_prog_10_method_2_code_9 : decode prog_10_method_2_code 9 = .ok (.aload_n 0, 1) := by decide +kernel
theorem d_prog_10_method_2_code_10 : decode prog_10_method_2_code 10 = .ok (.iload_n 2, 1) := by decide +kernel
theorem d_prog_10_method_2_code_11 : decode prog_10_method_2_code 11 = .ok (.putfield 16, 3) := by decide +kernel
theorem d_prog_10_method_2_code_14 : decode prog_10_method_2_code 14 = .ok (.aload_n 0, 1) := by decide +kernel
theorem d_prog_10_method_2_code_15 : decode prog_10_method_2_code 15 = .ok (.dload_n 3, 1) := by decide +kernel
theorem d_prog_10_method_2_code_16 : decode prog_10_method_2_code 16 = .ok (.putfield 19, 3) := by decide +kernel
theorem d_prog_10_method_2_code_19 : decode prog_10_method_2_code 19 = .ok (.aload_n 0, 1) := by decide +kernel
theorem d_prog_10_method_2_code_20 : decode prog_10_method_2_code 20 = .ok (.dload 5, 2) := by decide +kernel
theorem d_prog_10_method_2_code_22 : decode prog_10_method_2_code 22 = .ok (.putfield 23, 3) := by decide +kernel
theorem d_prog_10_method_2_code_25 : decode prog_10_method_2_code 25 = .ok (.aload_n 0, 1) := by decide +kernel
theorem d_prog_10_method_2_code_26 : decode prog_10_method_2_code 26 = .ok (.aload 7, 2) := by decide +kernel
theorem d_prog_10_method_2_code_28 : decode prog_10_method_2_code 28 = .ok (.putfield 26, 3) := by decide +kernel
theorem d_prog_10_method_2_code_31 : decode prog_10_method_2_code 31 = .ok (.aload_n 0, 1) := by decide +kernel
theorem d_prog_10_method_2_code_32 : decode prog_10_method_2_code 32 = .ok (.iload 8, 2) := by decide +kernel
theorem d_prog_10_method_2_code_34 : decode prog_10_method_2_code 34 = .ok (.putfield 30, 3) := by decide +kernel
theorem d_prog_10_method_2_code_37 : decode prog_10_method_2_code 37 = .ok (.aload_n 0, 1) := by decide +kernel
theorem d_prog_10_method_2_code_38 : decode prog_10_method_2_code 38 = .ok (.iload 9, 2) := by decide +kernel
theorem d_prog_10_method_2_code_40 : decode prog_10_method_2_code 40 = .ok (.putfield 34, 3) := by decide +kernel
theorem d_prog_10_method_2_code_43 : decode prog_10_method_2_code 43 = .ok (.return_, 1) := by decide +kernel
theorem pn_com_example_kerbline_kerbline_graph_PathEdge : plainName "com/example/kerbline/kerbline/graph/PathEdge" = true := by first | (simp [plainName, overriddenIn]; done) | decide +kernel
theorem ef_pe (m : MethodId) (x0 : Addr) (x1 : Int32) (x2 : Int32) (x3 : UInt64) (x4 : UInt64) (x6 : Int32) (x7 : Int32) : entryFrame m #[(.ref x0), (.int x1), (.int x2), (.double x3), (.double x4), .null, (.int x6), (.int x7)] 10 = mkF m 0 #[.val (.ref x0), .val (.int x1), .val (.int x2), .val (.double x3), .second, .val (.double x4), .second, .val .null, .val (.int x6), .val (.int x7)] [] := by first | (simp [entryFrame, mkF, argsToLocals, Value.category]; done) | rfl
def Q_pe (Z : State) (a1 : Addr) (k1 : Int32) (k2 : Int32) (d1 : UInt64) (d2 : UInt64) (u0 : Value) (u1 : Value) (u2 : Value) (u3 : Value) (u4 : Value) (u5 : Value) (u6 : Value) (h0 : Heap) (n0 : Nat) (v : Option Value) (h : Heap) (L : List Loc) : Prop := v = none ∧ Fr n0 L ∧ Keep h0 h [a1] ∧ (Exa Z h a1 "com/example/kerbline/kerbline/graph/PathEdge") ∧ (Fld Z h a1 "com/example/kerbline/kerbline/graph/PathEdge" "edge" "I" (.int k1)) ∧ (Fld Z h a1 "com/example/kerbline/kerbline/graph/PathEdge" "sense" "I" (.int k2)) ∧ (Fld Z h a1 "com/example/kerbline/kerbline/graph/PathEdge" "origin" "D" (.double d1)) ∧ (Fld Z h a1 "com/example/kerbline/kerbline/graph/PathEdge" "probability" "D" (.double d2)) ∧ (Fld Z h a1 "com/example/kerbline/kerbline/graph/PathEdge" "trail" "Lcom/example/kerbline/kerbline/graph/Trail;" .null) ∧ (Fld Z h a1 "com/example/kerbline/kerbline/graph/PathEdge" "fromStart" "Z" (.int (0 : Int32))) ∧ (Fld Z h a1 "com/example/kerbline/kerbline/graph/PathEdge" "routed" "Z" (.int (0 : Int32)))
set_option maxRecDepth 65536 in
set_option maxHeartbeats 40000000 in
theorem rm_pe (l : Launch) (Z : State) (a0 : Array Value) (hw : ∀ d ∈ tables_1, d.before a0 Z = true) (ws : List Jvm.Cond) (a1 : Addr) (k1 : Int32) (k2 : Int32) (d1 : UInt64) (d2 : UInt64) (u0 : Value) (u1 : Value) (u2 : Value) (u3 : Value) (u4 : Value) (u5 : Value) (u6 : Value) (h0 : Heap) (n0 : Nat) (Z0 : n0 ≤ h0.size) (pE0 : Exa Z h0 a1 "com/example/kerbline/kerbline/graph/PathEdge") (pF1 : Fld Z h0 a1 "com/example/kerbline/kerbline/graph/PathEdge" "edge" "I" u0) (pF2 : Fld Z h0 a1 "com/example/kerbline/kerbline/graph/PathEdge" "sense" "I" u1) (pF3 : Fld Z h0 a1 "com/example/kerbline/kerbline/graph/PathEdge" "origin" "D" u2) (pF4 : Fld Z h0 a1 "com/example/kerbline/kerbline/graph/PathEdge" "probability" "D" u3) (pF5 : Fld Z h0 a1 "com/example/kerbline/kerbline/graph/PathEdge" "trail" "Lcom/example/kerbline/kerbline/graph/Trail;" u4) (pF6 : Fld Z h0 a1 "com/example/kerbline/kerbline/graph/PathEdge" "fromStart" "Z" u5) (pF7 : Fld Z h0 a1 "com/example/kerbline/kerbline/graph/PathEdge" "routed" "Z" u6) (pg8 : n0 ≤ a1) :
    MetFree l (⟨"com/example/kerbline/kerbline/graph/PathEdge", "<init>", "(IIDDLcom/example/kerbline/kerbline/graph/Trail;ZZ)V"⟩ : MethodName) (head1 (Jvm.Cond.code (⟨"com/example/kerbline/kerbline/graph/PathEdge", "<init>", "(IIDDLcom/example/kerbline/kerbline/graph/Trail;ZZ)V"⟩ : MethodName) prog_10_method_2_code 10 none :: ws) ({ frames := 1, cells := 0, slots := 0, locals := 12 } : Room)) (fun a U => a = #[(.ref a1), (.int k1), (.int k2), (.double d1), (.double d2), .null, (.int (0 : Int32)), (.int (0 : Int32))] ∧ Z.Warmed39 U.vm ∧ U.heap = h0) (fun _ _ _ _ _ => True) (fun _ U o U' => ∃ v L, o = .returned v ∧ Q_pe Z a1 k1 k2 d1 d2 u0 u1 u2 u3 u4 u5 u6 h0 n0 v U'.heap L ∧ FrameEnd U o U' L ({ frames := 1, cells := 0, slots := 0, locals := 12 } : Room).cells ({ frames := 1, cells := 0, slots := 0, locals := 12 } : Room).slots) := by
  refine MetFree.of_bodySF (plainFor_of_name pn_com_example_kerbline_kerbline_graph_PathEdge) hisR ?_
  intro p e s m args below meth c s₁ Bd hml0 hP hK
  obtain ⟨rfl, hZ, hh⟩ := hP
  have hx := Bd.exec
  have hby := Bd.bytes
  have hml : c.maxLocals = 10 := hml0
  have hown : s.vm.findClass "com/example/kerbline/kerbline/graph/PathEdge" = some m.cls := findClass_of_methodNamed Bd.named
  have hnm := (name_of_methodNamed Bd.named Bd.method).1
  have X0 : Stand p l e ({ frames := 1, cells := 0, slots := 0, locals := 12 } : Room) s m #[(.ref a1), (.int k1), (.int k2), (.double d1), (.double d2), .null, (.int (0 : Int32)), (.int (0 : Int32))] below meth c s₁ [] 0 0 := Stand.of_body Bd
  have e0 : s₁.heap = h0 := by rw [← hh, Bd.state]; rfl
  have N0 := Fr.nil n0
  have P0 : Keep h0 h0 [a1] := Keep.refl _ _
  have pre0 : ∀ t, Steps p.tables e below (s₁.setTop (mkF m 0 #[.val (.ref a1), .val (.int k1), .val (.int k2), .val (.double d1), .second, .val (.double d2), .second, .val .null, .val (.int (0 : Int32)), .val (.int (0 : Int32))] [])) t → Steps p.tables e below (s₁.setTop (entryFrame m #[(.ref a1), (.int k1), (.int k2), (.double d1), (.double d2), .null, (.int (0 : Int32)), (.int (0 : Int32))] 10)) t := fun t k => castTop (ef_pe m a1 k1 k2 d1 d2 (0 : Int32) (0 : Int32)) k
  obtain ⟨T1, X1, e1, st1⟩ := initO X0 hx hZ hown (hw _ (List.mem_of_getElem? (i := 35) rfl)) (hw _ (List.mem_of_getElem? (i := 18) rfl)) (hw _ (List.mem_of_getElem? (i := 19) rfl)) e0 (g := (mkF m 1 #[.val (.ref a1), .val (.int k1), .val (.int k2), .val (.double d1), .second, .val (.double d2), .second, .val .null, .val (.int (0 : Int32)), .val (.int (0 : Int32))] [(.ref a1)])) rfl (by rw [hml]; rfl) rfl (hb hby d_prog_10_method_2_code_1) (by decide) (W := 0) (by show 2 * 0 + _ ≤ _; exact Nat.le_of_eq rfl) (by decide)
  obtain ⟨T2, h2, X2, e2, W2, st2⟩ := putF X1 hx hZ hown (host := "") (Or.inl (hw _ (List.mem_of_getElem? (i := 36) rfl))) Via.refl e1 pF1 pE0 (Or.inr ⟨(hw _ (List.mem_of_getElem? (i := 37) rfl)), rfl, hnm⟩) (hw _ (List.mem_of_getElem? (i := 31) rfl)) (ty := .int) (by decide) rfl rfl (g := (mkF m 6 #[.val (.ref a1), .val (.int k1), .val (.int k2), .val (.double d1), .second, .val (.double d2), .second, .val .null, .val (.int (0 : Int32)), .val (.int (0 : Int32))] [(.int k1), (.ref a1)])) rfl rfl (hb hby d_prog_10_method_2_code_6)
  have P3 : Keep h0 h2 [a1] := P0.wr W2 (Or.inl (List.mem_of_getElem? (i := 0) rfl))
  have F4 : Fld Z h2 a1 "com/example/kerbline/kerbline/graph/PathEdge" "edge" "I" (.int k1) := Fld.same W2 pF1
  have N2 := Fr.snoc X2 N0 pg8
  have F5 : Fld Z h2 a1 "com/example/kerbline/kerbline/graph/PathEdge" "sense" "I" u1 := (Fld.other W2 pF2 (Or.inr (slot_ne (t := .int) (t' := .int) (C := "com/example/kerbline/kerbline/graph/PathEdge") (a0 := a0) (Or.inr (hw _ (List.mem_of_getElem? (i := 39) rfl))) (Or.inr (hw _ (List.mem_of_getElem? (i := 37) rfl))) (by decide) (by decide) (by decide))))
  have E6 : Exa Z h2 a1 "com/example/kerbline/kerbline/graph/PathEdge" := (Exa.wr W2 pE0)
  obtain ⟨T7, h7, X7, e7, W7, st7⟩ := putF X2 hx hZ hown (host := "") (Or.inl (hw _ (List.mem_of_getElem? (i := 38) rfl))) Via.refl e2 F5 E6 (Or.inr ⟨(hw _ (List.mem_of_getElem? (i := 39) rfl)), rfl, hnm⟩) (hw _ (List.mem_of_getElem? (i := 31) rfl)) (ty := .int) (by decide) rfl rfl (g := (mkF m 11 #[.val (.ref a1), .val (.int k1), .val (.int k2), .val (.double d1), .second, .val (.double d2), .second, .val .null, .val (.int (0 : Int32)), .val (.int (0 : Int32))] [(.int k2), (.ref a1)])) rfl rfl (hb hby d_prog_10_method_2_code_11)
  have P8 : Keep h0 h7 [a1] := P3.wr W7 (Or.inl (List.mem_of_getElem? (i := 0) rfl))
  have F9 : Fld Z h7 a1 "com/example/kerbline/kerbline/graph/PathEdge" "sense" "I" (.int k2) := Fld.same W7 F5
  have N7 := Fr.snoc X7 N2 pg8
  have F10 : Fld Z h7 a1 "com/example/kerbline/kerbline/graph/PathEdge" "origin" "D" u2 := (Fld.other W7 (Fld.other W2 pF3 (Or.inr (slot_ne (t := .double) (t' := .int) (C := "com/example/kerbline/kerbline/graph/PathEdge") (a0 := a0) (Or.inr (hw _ (List.mem_of_getElem? (i := 41) rfl))) (Or.inr (hw _ (List.mem_of_getElem? (i := 37) rfl))) (by decide) (by decide) (by decide)))) (Or.inr (slot_ne (t := .double) (t' := .int) (C := "com/example/kerbline/kerbline/graph/PathEdge") (a0 := a0) (Or.inr (hw _ (List.mem_of_getElem? (i := 41) rfl))) (Or.inr (hw _ (List.mem_of_getElem? (i := 39) rfl))) (by decide) (by decide) (by decide))))
  have E11 : Exa Z h7 a1 "com/example/kerbline/kerbline/graph/PathEdge" := (Exa.wr W7 E6)
  obtain ⟨T12, h12, X12, e12, W12, st12⟩ := putF X7 hx hZ hown (host := "") (Or.inl (hw _ (List.mem_of_getElem? (i := 40) rfl))) Via.refl e7 F10 E11 (Or.inr ⟨(hw _ (List.mem_of_getElem? (i := 41) rfl)), rfl, hnm⟩) (hw _ (List.mem_of_getElem? (i := 31) rfl)) (ty := .double) (by decide) rfl rfl (g := (mkF m 16 #[.val (.ref a1), .val (.int k1), .val (.int k2), .val (.double d1), .second, .val (.double d2), .second, .val .null, .val (.int (0 : Int32)), .val (.int (0 : Int32))] [(.double d1), (.ref a1)])) rfl rfl (hb hby d_prog_10_method_2_code_16)
  have P13 : Keep h0 h12 [a1] := P8.wr W12 (Or.inl (List.mem_of_getElem? (i := 0) rfl))
  have F14 : Fld Z h12 a1 "com/example/kerbline/kerbline/graph/PathEdge" "origin" "D" (.double d1) := Fld.same W12 F10
  have N12 := Fr.snoc X12 N7 pg8
  have F15 : Fld Z h12 a1 "com/example/kerbline/kerbline/graph/PathEdge" "probability" "D" u3 := (Fld.other W12 (Fld.other W7 (Fld.other W2 pF4 (Or.inr (slot_ne (t := .double) (t' := .int) (C := "com/example/kerbline/kerbline/graph/PathEdge") (a0 := a0) (Or.inr (hw _ (List.mem_of_getElem? (i := 43) rfl))) (Or.inr (hw _ (List.mem_of_getElem? (i := 37) rfl))) (by decide) (by decide) (by decide)))) (Or.inr (slot_ne (t := .double) (t' := .int) (C := "com/example/kerbline/kerbline/graph/PathEdge") (a0 := a0) (Or.inr (hw _ (List.mem_of_getElem? (i := 43) rfl))) (Or.inr (hw _ (List.mem_of_getElem? (i := 39) rfl))) (by decide) (by decide) (by decide)))) (Or.inr (slot_ne (t := .double) (t' := .double) (C := "com/example/kerbline/kerbline/graph/PathEdge") (a0 := a0) (Or.inr (hw _ (List.mem_of_getElem? (i := 43) rfl))) (Or.inr (hw _ (List.mem_of_getElem? (i := 41) rfl))) (by decide) (by decide) (by decide))))
  have E16 : Exa Z h12 a1 "com/example/kerbline/kerbline/graph/PathEdge" := (Exa.wr W12 E11)
  obtain ⟨T17, h17, X17, e17, W17, st17⟩ := putF X12 hx hZ hown (host := "") (Or.inl (hw _ (List.mem_of_getElem? (i := 42) rfl))) Via.refl e12 F15 E16 (Or.inr ⟨(hw _ (List.mem_of_getElem? (i := 43) rfl)), rfl, hnm⟩) (hw _ (List.mem_of_getElem? (i := 31) rfl)) (ty := .double) (by decide) rfl rfl (g := (mkF m 22 #[.val (.ref a1), .val (.int k1), .val (.int k2), .val (.double d1), .second, .val (.double d2), .second, .val .null, .val (.int (0 : Int32)), .val (.int (0 : Int32))] [(.double d2), (.ref a1)])) rfl rfl (hb hby d_prog_10_method_2_code_22)
  have P18 : Keep h0 h17 [a1] := P13.wr W17 (Or.inl (List.mem_of_getElem? (i := 0) rfl))
  have F19 : Fld Z h17 a1 "com/example/kerbline/kerbline/graph/PathEdge" "probability" "D" (.double d2) := Fld.same W17 F15
  have N17 := Fr.snoc X17 N12 pg8
  have F20 : Fld Z h17 a1 "com/example/kerbline/kerbline/graph/PathEdge" "trail" "Lcom/example/kerbline/kerbline/graph/Trail;" u4 := (Fld.other W17 (Fld.other W12 (Fld.other W7 (Fld.other W2 pF5 (Or.inr (slot_ne (t := (.object "com/example/kerbline/kerbline/graph/Trail")) (t' := .int) (C := "com/example/kerbline/kerbline/graph/PathEdge") (a0 := a0) (Or.inr (hw _ (List.mem_of_getElem? (i := 45) rfl))) (Or.inr (hw _ (List.mem_of_getElem? (i := 37) rfl))) (by decide) (by decide) (by decide)))) (Or.inr (slot_ne (t := (.object "com/example/kerbline/kerbline/graph/Trail")) (t' := .int) (C := "com/example/kerbline/kerbline/graph/PathEdge") (a0 := a0) (Or.inr (hw _ (List.mem_of_getElem? (i := 45) rfl))) (Or.inr (hw _ (List.mem_of_getElem? (i := 39) rfl))) (by decide) (by decide) (by decide)))) (Or.inr (slot_ne (t := (.object "com/example/kerbline/kerbline/graph/Trail")) (t' := .double) (C := "com/example/kerbline/kerbline/graph/PathEdge") (a0 := a0) (Or.inr (hw _ (List.mem_of_getElem? (i := 45) rfl))) (Or.inr (hw _ (List.mem_of_getElem? (i := 41) rfl))) (by decide) (by decide) (by decide)))) (Or.inr (slot_ne (t := (.object "com/example/kerbline/kerbline/graph/Trail")) (t' := .double) (C := "com/example/kerbline/kerbline/graph/PathEdge") (a0 := a0) (Or.inr (hw _ (List.mem_of_getElem? (i := 45) rfl))) (Or.inr (hw _ (List.mem_of_getElem? (i := 43) rfl))) (by decide) (by decide) (by decide))))
  have E21 : Exa Z h17 a1 "com/example/kerbline/kerbline/graph/PathEdge" := (Exa.wr W17 E16)
  obtain ⟨T22, h22, X22, e22, W22, st22⟩ := putF X17 hx hZ hown (host := "") (Or.inl (hw _ (List.mem_of_getElem? (i := 44) rfl))) Via.refl e17 F20 E21 (Or.inr ⟨(hw _ (List.mem_of_getElem? (i := 45) rfl)), rfl, hnm⟩) (hw _ (List.mem_of_getElem? (i := 31) rfl)) (ty := (.object "com/example/kerbline/kerbline/graph/Trail")) (by decide) rfl rfl (g := (mkF m 28 #[.val (.ref a1), .val (.int k1), .val (.int k2), .val (.double d1), .second, .val (.double d2), .second, .val .null, .val (.int (0 : Int32)), .val (.int (0 : Int32))] [.null, (.ref a1)])) rfl rfl (hb hby d_prog_10_method_2_code_28)
  have P23 : Keep h0 h22 [a1] := P18.wr W22 (Or.inl (List.mem_of_getElem? (i := 0) rfl))
  have F24 : Fld Z h22 a1 "com/example/kerbline/kerbline/graph/PathEdge" "trail" "Lcom/example/kerbline/kerbline/graph/Trail;" .null := Fld.same W22 F20
  have N22 := Fr.snoc X22 N17 pg8
  have F25 : Fld Z h22 a1 "com/example/kerbline/kerbline/graph/PathEdge" "fromStart" "Z" u5 := (Fld.other W22 (Fld.other W17 (Fld.other W12 (Fld.other W7 (Fld.other W2 pF6 (Or.inr (slot_ne (t := .boolean) (t' := .int) (C := "com/example/kerbline/kerbline/graph/PathEdge") (a0 := a0) (Or.inr (hw _ (List.mem_of_getElem? (i := 47) rfl))) (Or.inr (hw _ (List.mem_of_getElem? (i := 37) rfl))) (by decide) (by decide) (by decide)))) (Or.inr (slot_ne (t := .boolean) (t' := .int) (C := "com/example/kerbline/kerbline/graph/PathEdge") (a0 := a0) (Or.inr (hw _ (List.mem_of_getElem? (i := 47) rfl))) (Or.inr (hw _ (List.mem_of_getElem? (i := 39) rfl))) (by decide) (by decide) (by decide)))) (Or.inr (slot_ne (t := .boolean) (t' := .double) (C := "com/example/kerbline/kerbline/graph/PathEdge") (a0 := a0) (Or.inr (hw _ (List.mem_of_getElem? (i := 47) rfl))) (Or.inr (hw _ (List.mem_of_getElem? (i := 41) rfl))) (by decide) (by decide) (by decide)))) (Or.inr (slot_ne (t := .boolean) (t' := .double) (C := "com/example/kerbline/kerbline/graph/PathEdge") (a0 := a0) (Or.inr (hw _ (List.mem_of_getElem? (i := 47) rfl))) (Or.inr (hw _ (List.mem_of_getElem? (i := 43) rfl))) (by decide) (by decide) (by decide)))) (Or.inr (slot_ne (t := .boolean) (t' := (.object "com/example/kerbline/kerbline/graph/Trail")) (C := "com/example/kerbline/kerbline/graph/PathEdge") (a0 := a0) (Or.inr (hw _ (List.mem_of_getElem? (i := 47) rfl))) (Or.inr (hw _ (List.mem_of_getElem? (i := 45) rfl))) (by decide) (by decide) (by decide))))
  have E26 : Exa Z h22 a1 "com/example/kerbline/kerbline/graph/PathEdge" := (Exa.wr W22 E21)
  obtain ⟨T27, h27, X27, e27, W27, st27⟩ := putFN X22 hx hZ hown (hw _ (List.mem_of_getElem? (i := 46) rfl)) Via.refl e22 F25 E26 (Or.inr ⟨(hw _ (List.mem_of_getElem? (i := 47) rfl)), rfl, hnm⟩) (hw _ (List.mem_of_getElem? (i := 31) rfl)) (ty := .boolean) (v' := (.int (0 : Int32))) (by decide) rfl rfl (g := (mkF m 34 #[.val (.ref a1), .val (.int k1), .val (.int k2), .val (.double d1), .second, .val (.double d2), .second, .val .null, .val (.int (0 : Int32)), .val (.int (0 : Int32))] [(.int (0 : Int32)), (.ref a1)])) rfl rfl (hb hby d_prog_10_method_2_code_34)
  have P28 : Keep h0 h27 [a1] := P23.wr W27 (Or.inl (List.mem_of_getElem? (i := 0) rfl))
  have F29 : Fld Z h27 a1 "com/example/kerbline/kerbline/graph/PathEdge" "fromStart" "Z" (.int (0 : Int32)) := Fld.same W27 F25
  have N27 := Fr.snoc X27 N22 pg8
  have F30 : Fld Z h27 a1 "com/example/kerbline/kerbline/graph/PathEdge" "routed" "Z" u6 := (Fld.other W27 (Fld.other W22 (Fld.other W17 (Fld.other W12 (Fld.other W7 (Fld.other W2 pF7 (Or.inr (slot_ne (t := .boolean) (t' := .int) (C := "com/example/kerbline/kerbline/graph/PathEdge") (a0 := a0) (Or.inr (hw _ (List.mem_of_getElem? (i := 49) rfl))) (Or.inr (hw _ (List.mem_of_getElem? (i := 37) rfl))) (by decide) (by decide) (by decide)))) (Or.inr (slot_ne (t := .boolean) (t' := .int) (C := "com/example/kerbline/kerbline/graph/PathEdge") (a0 := a0) (Or.inr (hw _ (List.mem_of_getElem? (i := 49) rfl))) (Or.inr (hw _ (List.mem_of_getElem? (i := 39) rfl))) (by decide) (by decide) (by decide)))) (Or.inr (slot_ne (t := .boolean) (t' := .double) (C := "com/example/kerbline/kerbline/graph/PathEdge") (a0 := a0) (Or.inr (hw _ (List.mem_of_getElem? (i := 49) rfl))) (Or.inr (hw _ (List.mem_of_getElem? (i := 41) rfl))) (by decide) (by decide) (by decide)))) (Or.inr (slot_ne (t := .boolean) (t' := .double) (C := "com/example/kerbline/kerbline/graph/PathEdge") (a0 := a0) (Or.inr (hw _ (List.mem_of_getElem? (i := 49) rfl))) (Or.inr (hw _ (List.mem_of_getElem? (i := 43) rfl))) (by decide) (by decide) (by decide)))) (Or.inr (slot_ne (t := .boolean) (t' := (.object "com/example/kerbline/kerbline/graph/Trail")) (C := "com/example/kerbline/kerbline/graph/PathEdge") (a0 := a0) (Or.inr (hw _ (List.mem_of_getElem? (i := 49) rfl))) (Or.inr (hw _ (List.mem_of_getElem? (i := 45) rfl))) (by decide) (by decide) (by decide)))) (Or.inr (slot_ne (t := .boolean) (t' := .boolean) (C := "com/example/kerbline/kerbline/graph/PathEdge") (a0 := a0) (Or.inr (hw _ (List.mem_of_getElem? (i := 49) rfl))) (Or.inr (hw _ (List.mem_of_getElem? (i := 47) rfl))) (by decide) (by decide) (by decide))))
  have E31 : Exa Z h27 a1 "com/example/kerbline/kerbline/graph/PathEdge" := (Exa.wr W27 E26)
  obtain ⟨T32, h32, X32, e32, W32, st32⟩ := putFN X27 hx hZ hown (hw _ (List.mem_of_getElem? (i := 48) rfl)) Via.refl e27 F30 E31 (Or.inr ⟨(hw _ (List.mem_of_getElem? (i := 49) rfl)), rfl, hnm⟩) (hw _ (List.mem_of_getElem? (i := 31) rfl)) (ty := .boolean) (v' := (.int (0 : Int32))) (by decide) rfl rfl (g := (mkF m 40 #[.val (.ref a1), .val (.int k1), .val (.int k2), .val (.double d1), .second, .val (.double d2), .second, .val .null, .val (.int (0 : Int32)), .val (.int (0 : Int32))] [(.int (0 : Int32)), (.ref a1)])) rfl rfl (hb hby d_prog_10_method_2_code_40)
  have P33 : Keep h0 h32 [a1] := P28.wr W32 (Or.inl (List.mem_of_getElem? (i := 0) rfl))
  have F34 : Fld Z h32 a1 "com/example/kerbline/kerbline/graph/PathEdge" "routed" "Z" (.int (0 : Int32)) := Fld.same W32 F30
  have N32 := Fr.snoc X32 N27 pg8
  have E35 : Exa Z h32 a1 "com/example/kerbline/kerbline/graph/PathEdge" := (Exa.wr W32 E31)
  have F36 : Fld Z h32 a1 "com/example/kerbline/kerbline/graph/PathEdge" "edge" "I" (.int k1) := (Fld.other W32 (Fld.other W27 (Fld.other W22 (Fld.other W17 (Fld.other W12 (Fld.other W7 F4 (Or.inr (slot_ne (t := .int) (t' := .int) (C := "com/example/kerbline/kerbline/graph/PathEdge") (a0 := a0) (Or.inr (hw _ (List.mem_of_getElem? (i := 37) rfl))) (Or.inr (hw _ (List.mem_of_getElem? (i := 39) rfl))) (by decide) (by decide) (by decide)))) (Or.inr (slot_ne (t := .int) (t' := .double) (C := "com/example/kerbline/kerbline/graph/PathEdge") (a0 := a0) (Or.inr (hw _ (List.mem_of_getElem? (i := 37) rfl))) (Or.inr (hw _ (List.mem_of_getElem? (i := 41) rfl))) (by decide) (by decide) (by decide)))) (Or.inr (slot_ne (t := .int) (t' := .double) (C := "com/example/kerbline/kerbline/graph/PathEdge") (a0 := a0) (Or.inr (hw _ (List.mem_of_getElem? (i := 37) rfl))) (Or.inr (hw _ (List.mem_of_getElem? (i := 43) rfl))) (by decide) (by decide) (by decide)))) (Or.inr (slot_ne (t := .int) (t' := (.object "com/example/kerbline/kerbline/graph/Trail")) (C := "com/example/kerbline/kerbline/graph/PathEdge") (a0 := a0) (Or.inr (hw _ (List.mem_of_getElem? (i := 37) rfl))) (Or.inr (hw _ (List.mem_of_getElem? (i := 45) rfl))) (by decide) (by decide) (by decide)))) (Or.inr (slot_ne (t := .int) (t' := .boolean) (C := "com/example/kerbline/kerbline/graph/PathEdge") (a0 := a0) (Or.inr (hw _ (List.mem_of_getElem? (i := 37) rfl))) (Or.inr (hw _ (List.mem_of_getElem? (i := 47) rfl))) (by decide) (by decide) (by decide)))) (Or.inr (slot_ne (t := .int) (t' := .boolean) (C := "com/example/kerbline/kerbline/graph/PathEdge") (a0 := a0) (Or.inr (hw _ (List.mem_of_getElem? (i := 37) rfl))) (Or.inr (hw _ (List.mem_of_getElem? (i := 49) rfl))) (by decide) (by decide) (by decide))))
  have F37 : Fld Z h32 a1 "com/example/kerbline/kerbline/graph/PathEdge" "sense" "I" (.int k2) := (Fld.other W32 (Fld.other W27 (Fld.other W22 (Fld.other W17 (Fld.other W12 F9 (Or.inr (slot_ne (t := .int) (t' := .double) (C := "com/example/kerbline/kerbline/graph/PathEdge") (a0 := a0) (Or.inr (hw _ (List.mem_of_getElem? (i := 39) rfl))) (Or.inr (hw _ (List.mem_of_getElem? (i := 41) rfl))) (by decide) (by decide) (by decide)))) (Or.inr (slot_ne (t := .int) (t' := .double) (C := "com/example/kerbline/kerbline/graph/PathEdge") (a0 := a0) (Or.inr (hw _ (List.mem_of_getElem? (i := 39) rfl))) (Or.inr (hw _ (List.mem_of_getElem? (i := 43) rfl))) (by decide) (by decide) (by decide)))) (Or.inr (slot_ne (t := .int) (t' := (.object "com/example/kerbline/kerbline/graph/Trail")) (C := "com/example/kerbline/kerbline/graph/PathEdge") (a0 := a0) (Or.inr (hw _ (List.mem_of_getElem? (i := 39) rfl))) (Or.inr (hw _ (List.mem_of_getElem? (i := 45) rfl))) (by decide) (by decide) (by decide)))) (Or.inr (slot_ne (t := .int) (t' := .boolean) (C := "com/example/kerbline/kerbline/graph/PathEdge") (a0 := a0) (Or.inr (hw _ (List.mem_of_getElem? (i := 39) rfl))) (Or.inr (hw _ (List.mem_of_getElem? (i := 47) rfl))) (by decide) (by decide) (by decide)))) (Or.inr (slot_ne (t := .int) (t' := .boolean) (C := "com/example/kerbline/kerbline/graph/PathEdge") (a0 := a0) (Or.inr (hw _ (List.mem_of_getElem? (i := 39) rfl))) (Or.inr (hw _ (List.mem_of_getElem? (i := 49) rfl))) (by decide) (by decide) (by decide))))
  have F38 : Fld Z h32 a1 "com/example/kerbline/kerbline/graph/PathEdge" "origin" "D" (.double d1) := (Fld.other W32 (Fld.other W27 (Fld.other W22 (Fld.other W17 F14 (Or.inr (slot_ne (t := .double) (t' := .double) (C := "com/example/kerbline/kerbline/graph/PathEdge") (a0 := a0) (Or.inr (hw _ (List.mem_of_getElem? (i := 41) rfl))) (Or.inr (hw _ (List.mem_of_getElem? (i := 43) rfl))) (by decide) (by decide) (by decide)))) (Or.inr (slot_ne (t := .double) (t' := (.object "com/example/kerbline/kerbline/graph/Trail")) (C := "com/example/kerbline/kerbline/graph/PathEdge") (a0 := a0) (Or.inr (hw _ (List.mem_of_getElem? (i := 41) rfl))) (Or.inr (hw _ (List.mem_of_getElem? (i := 45) rfl))) (by decide) (by decide) (by decide)))) (Or.inr (slot_ne (t := .double) (t' := .boolean) (C := "com/example/kerbline/kerbline/graph/PathEdge") (a0 := a0) (Or.inr (hw _ (List.mem_of_getElem? (i := 41) rfl))) (Or.inr (hw _ (List.mem_of_getElem? (i := 47) rfl))) (by decide) (by decide) (by decide)))) (Or.inr (slot_ne (t := .double) (t' := .boolean) (C := "com/example/kerbline/kerbline/graph/PathEdge") (a0 := a0) (Or.inr (hw _ (List.mem_of_getElem? (i := 41) rfl))) (Or.inr (hw _ (List.mem_of_getElem? (i := 49) rfl))) (by decide) (by decide) (by decide))))
  have F39 : Fld Z h32 a1 "com/example/kerbline/kerbline/graph/PathEdge" "probability" "D" (.double d2) := (Fld.other W32 (Fld.other W27 (Fld.other W22 F19 (Or.inr (slot_ne (t := .double) (t' := (.object "com/example/kerbline/kerbline/graph/Trail")) (C := "com/example/kerbline/kerbline/graph/PathEdge") (a0 := a0) (Or.inr (hw _ (List.mem_of_getElem? (i := 43) rfl))) (Or.inr (hw _ (List.mem_of_getElem? (i := 45) rfl))) (by decide) (by decide) (by decide)))) (Or.inr (slot_ne (t := .double) (t' := .boolean) (C := "com/example/kerbline/kerbline/graph/PathEdge") (a0 := a0) (Or.inr (hw _ (List.mem_of_getElem? (i := 43) rfl))) (Or.inr (hw _ (List.mem_of_getElem? (i := 47) rfl))) (by decide) (by decide) (by decide)))) (Or.inr (slot_ne (t := .double) (t' := .boolean) (C := "com/example/kerbline/kerbline/graph/PathEdge") (a0 := a0) (Or.inr (hw _ (List.mem_of_getElem? (i := 43) rfl))) (Or.inr (hw _ (List.mem_of_getElem? (i := 49) rfl))) (by decide) (by decide) (by decide))))
  have F40 : Fld Z h32 a1 "com/example/kerbline/kerbline/graph/PathEdge" "trail" "Lcom/example/kerbline/kerbline/graph/Trail;" .null := (Fld.other W32 (Fld.other W27 F24 (Or.inr (slot_ne (t := (.object "com/example/kerbline/kerbline/graph/Trail")) (t' := .boolean) (C := "com/example/kerbline/kerbline/graph/PathEdge") (a0 := a0) (Or.inr (hw _ (List.mem_of_getElem? (i := 45) rfl))) (Or.inr (hw _ (List.mem_of_getElem? (i := 47) rfl))) (by decide) (by decide) (by decide)))) (Or.inr (slot_ne (t := (.object "com/example/kerbline/kerbline/graph/Trail")) (t' := .boolean) (C := "com/example/kerbline/kerbline/graph/PathEdge") (a0 := a0) (Or.inr (hw _ (List.mem_of_getElem? (i := 45) rfl))) (Or.inr (hw _ (List.mem_of_getElem? (i := 49) rfl))) (by decide) (by decide) (by decide))))
  have F41 : Fld Z h32 a1 "com/example/kerbline/kerbline/graph/PathEdge" "fromStart" "Z" (.int (0 : Int32)) := (Fld.other W32 F29 (Or.inr (slot_ne (t := .boolean) (t' := .boolean) (C := "com/example/kerbline/kerbline/graph/PathEdge") (a0 := a0) (Or.inr (hw _ (List.mem_of_getElem? (i := 47) rfl))) (Or.inr (hw _ (List.mem_of_getElem? (i := 49) rfl))) (by decide) (by decide) (by decide))))
  obtain ⟨fs, hr, hrun, hended, hW, hsame⟩ := X32.leave (v := none) (fun _ => rfl)
  refine ⟨_, _, pre0 _ ?_, hrun, hended, _, _, rfl, ?_, ⟨_, rfl⟩, hW, hsame.mono (by decide) (by decide)⟩
  · show Steps p.tables e below (s₁.setTop (mkF m 0 #[.val (.ref a1), .val (.int k1), .val (.int k2), .val (.double d1), .second, .val (.double d2), .second, .val .null, .val (.int (0 : Int32)), .val (.int (0 : Int32))] [])) _
    refine XS.aloadN X0.here hx rfl (hb hby d_prog_10_method_2_code_0) rfl rfl ?_
    show Steps p.tables e below (s₁.setTop (mkF m 1 #[.val (.ref a1), .val (.int k1), .val (.int k2), .val (.double d1), .second, .val (.double d2), .second, .val .null, .val (.int (0 : Int32)), .val (.int (0 : Int32))] [(.ref a1)])) _
    refine st1 _ ?_
    show Steps p.tables e below (T1.setTop (mkF m 4 #[.val (.ref a1), .val (.int k1), .val (.int k2), .val (.double d1), .second, .val (.double d2), .second, .val .null, .val (.int (0 : Int32)), .val (.int (0 : Int32))] [])) _
    refine XS.aloadN X1.here hx rfl (hb hby d_prog_10_method_2_code_4) rfl rfl ?_
    show Steps p.tables e below (T1.setTop (mkF m 5 #[.val (.ref a1), .val (.int k1), .val (.int k2), .val (.double d1), .second, .val (.double d2), .second, .val .null, .val (.int (0 : Int32)), .val (.int (0 : Int32))] [(.ref a1)])) _
    refine XS.iloadN X1.here hx rfl (hb hby d_prog_10_method_2_code_5) rfl ?_
    show Steps p.tables e below (T1.setTop (mkF m 6 #[.val (.ref a1), .val (.int k1), .val (.int k2), .val (.double d1), .second, .val (.double d2), .second, .val .null, .val (.int (0 : Int32)), .val (.int (0 : Int32))] [(.int k1), (.ref a1)])) _
    refine st2 _ ?_
    show Steps p.tables e below (T2.setTop (mkF m 9 #[.val (.ref a1), .val (.int k1), .val (.int k2), .val (.double d1), .second, .val (.double d2), .second, .val .null, .val (.int (0 : Int32)), .val (.int (0 : Int32))] [])) _
    refine XS.aloadN X2.here hx rfl (hb hby d_prog_10_method_2_code_9) rfl rfl ?_
    show Steps p.tables e below (T2.setTop (mkF m 10 #[.val (.ref a1), .val (.int k1), .val (.int k2), .val (.double d1), .second, .val (.double d2), .second, .val .null, .val (.int (0 : Int32)), .val (.int (0 : Int32))] [(.ref a1)])) _
    refine XS.iloadN X2.here hx rfl (hb hby d_prog_10_method_2_code_10) rfl ?_
    show Steps p.tables e below (T2.setTop (mkF m 11 #[.val (.ref a1), .val (.int k1), .val (.int k2), .val (.double d1), .second, .val (.double d2), .second, .val .null, .val (.int (0 : Int32)), .val (.int (0 : Int32))] [(.int k2), (.ref a1)])) _
    refine st7 _ ?_
    show Steps p.tables e below (T7.setTop (mkF m 14 #[.val (.ref a1), .val (.int k1), .val (.int k2), .val (.double d1), .second, .val (.double d2), .second, .val .null, .val (.int (0 : Int32)), .val (.int (0 : Int32))] [])) _
    refine XS.aloadN X7.here hx rfl (hb hby d_prog_10_method_2_code_14) rfl rfl ?_
    show Steps p.tables e below (T7.setTop (mkF m 15 #[.val (.ref a1), .val (.int k1), .val (.int k2), .val (.double d1), .second, .val (.double d2), .second, .val .null, .val (.int (0 : Int32)), .val (.int (0 : Int32))] [(.ref a1)])) _
    refine XS.dloadN X7.here hx rfl (hb hby d_prog_10_method_2_code_15) rfl ?_
    show Steps p.tables e below (T7.setTop (mkF m 16 #[.val (.ref a1), .val (.int k1), .val (.int k2), .val (.double d1), .second, .val (.double d2), .second, .val .null, .val (.int (0 : Int32)), .val (.int (0 : Int32))] [(.double d1), (.ref a1)])) _
    refine st12 _ ?_
    show Steps p.tables e below (T12.setTop (mkF m 19 #[.val (.ref a1), .val (.int k1), .val (.int k2), .val (.double d1), .second, .val (.double d2), .second, .val .null, .val (.int (0 : Int32)), .val (.int (0 : Int32))] [])) _
    refine XS.aloadN X12.here hx rfl (hb hby d_prog_10_method_2_code_19) rfl rfl ?_
    show Steps p.tables e below (T12.setTop (mkF m 20 #[.val (.ref a1), .val (.int k1), .val (.int k2), .val (.double d1), .second, .val (.double d2), .second, .val .null, .val (.int (0 : Int32)), .val (.int (0 : Int32))] [(.ref a1)])) _
    refine XS.dload X12.here hx rfl (hb hby d_prog_10_method_2_code_20) rfl ?_
    show Steps p.tables e below (T12.setTop (mkF m 22 #[.val (.ref a1), .val (.int k1), .val (.int k2), .val (.double d1), .second, .val (.double d2), .second, .val .null, .val (.int (0 : Int32)), .val (.int (0 : Int32))] [(.double d2), (.ref a1)])) _
    refine st17 _ ?_
    show Steps p.tables e below (T17.setTop (mkF m 25 #[.val (.ref a1), .val (.int k1), .val (.int k2), .val (.double d1), .second, .val (.double d2), .second, .val .null, .val (.int (0 : Int32)), .val (.int (0 : Int32))] [])) _
    refine XS.aloadN X17.here hx rfl (hb hby d_prog_10_method_2_code_25) rfl rfl ?_
    show Steps p.tables e below (T17.setTop (mkF m 26 #[.val (.ref a1), .val (.int k1), .val (.int k2), .val (.double d1), .second, .val (.double d2), .second, .val .null, .val (.int (0 : Int32)), .val (.int (0 : Int32))] [(.ref a1)])) _
    refine XS.aload X17.here hx rfl (hb hby d_prog_10_method_2_code_26) rfl rfl ?_
    show Steps p.tables e below (T17.setTop (mkF m 28 #[.val (.ref a1), .val (.int k1), .val (.int k2), .val (.double d1), .second, .val (.double d2), .second, .val .null, .val (.int (0 : Int32)), .val (.int (0 : Int32))] [.null, (.ref a1)])) _
    refine st22 _ ?_
    show Steps p.tables e below (T22.setTop (mkF m 31 #[.val (.ref a1), .val (.int k1), .val (.int k2), .val (.double d1), .second, .val (.double d2), .second, .val .null, .val (.int (0 : Int32)), .val (.int (0 : Int32))] [])) _
    refine XS.aloadN X22.here hx rfl (hb hby d_prog_10_method_2_code_31) rfl rfl ?_
    show Steps p.tables e below (T22.setTop (mkF m 32 #[.val (.ref a1), .val (.int k1), .val (.int k2), .val (.double d1), .second, .val (.double d2), .second, .val .null, .val (.int (0 : Int32)), .val (.int (0 : Int32))] [(.ref a1)])) _
    refine XS.iload X22.here hx rfl (hb hby d_prog_10_method_2_code_32) rfl ?_
    show Steps p.tables e below (T22.setTop (mkF m 34 #[.val (.ref a1), .val (.int k1), .val (.int k2), .val (.double d1), .second, .val (.double d2), .second, .val .null, .val (.int (0 : Int32)), .val (.int (0 : Int32))] [(.int (0 : Int32)), (.ref a1)])) _
    refine st27 _ ?_
    show Steps p.tables e below (T27.setTop (mkF m 37 #[.val (.ref a1), .val (.int k1), .val (.int k2), .val (.double d1), .second, .val (.double d2), .second, .val .null, .val (.int (0 : Int32)), .val (.int (0 : Int32))] [])) _
    refine XS.aloadN X27.here hx rfl (hb hby d_prog_10_method_2_code_37) rfl rfl ?_
    show Steps p.tables e below (T27.setTop (mkF m 38 #[.val (.ref a1), .val (.int k1), .val (.int k2), .val (.double d1), .second, .val (.double d2), .second, .val .null, .val (.int (0 : Int32)), .val (.int (0 : Int32))] [(.ref a1)])) _
    refine XS.iload X27.here hx rfl (hb hby d_prog_10_method_2_code_38) rfl ?_
    show Steps p.tables e below (T27.setTop (mkF m 40 #[.val (.ref a1), .val (.int k1), .val (.int k2), .val (.double d1), .second, .val (.double d2), .second, .val .null, .val (.int (0 : Int32)), .val (.int (0 : Int32))] [(.int (0 : Int32)), (.ref a1)])) _
    refine st32 _ ?_
    show Steps p.tables e below (T32.setTop (mkF m 43 #[.val (.ref a1), .val (.int k1), .val (.int k2), .val (.double d1), .second, .val (.double d2), .second, .val .null, .val (.int (0 : Int32)), .val (.int (0 : Int32))] [])) _
    exact X32.returnOut hx Bd.returns (hb hby d_prog_10_method_2_code_43) hr
  · show Q_pe Z a1 k1 k2 d1 d2 u0 u1 u2 u3 u4 u5 u6 h0 n0 _ T32.heap _
    rw [e32]
    exact ⟨rfl, N32, P33, E35, F36, F37, F38, F39, F40, F41, F34⟩
theorem d_prog_10_method_3_code_0 : decode prog_10_method_3_code 0 = .ok (.new 2, 3) := by decide +kernel
theorem d_prog_10_method_3_code_3 : decode prog_10_method_3_code 3 = .ok (.dup, 1) := by decide +kernel
theorem d_prog_10_method_3_code_4 : decode prog_10_method_3_code 4 = .ok (.iload_n 0, 1) := by decide +kernel
theorem d_prog_10_method_3_code_5 : decode prog_10_method_3_code 5 = .ok (.iload_n 1, 1) := by decide +kernel
theorem d_prog_10_method_3_code_6 : decode prog_10_method_3_code 6 = .ok (.dload_n 2, 1) := by decide +kernel
theorem d_prog_10_method_3_code_7 : decode prog_10_method_3_code 7 = .ok (.dload 4, 2) := by decide +kernel
theorem d_prog_10_method_3_code_9 : decode prog_10_method_3_code 9 = .ok (.aconst_null, 1) := by decide +kernel
theorem d_prog_10_method_3_code_10 : decode prog_10_method_3_code 10 = .ok (.iconst 0, 1) := by decide +kernel
theorem d_prog_10_method_3_code_11 : decode prog_10_method_3_code 11 = .ok (.iconst 0, 1) := by decide +kernel
theorem d_prog_10_method_3_code_12 : decode prog_10_method_3_code 12 = .ok (.invokespecial 1, 3) := by decide +kernel
theorem pd_28IIDDLcom2fexample2fkerbline2fkerbline2fgraph2fTrail3bZZ29V : parseMethodDescriptor "(IIDDLcom/example/kerbline/kerbline/graph/Trail;ZZ)V" = some ⟨[.int, .int, .double, .double, (.object "com/example/kerbline/kerbline/graph/Trail"), .boolean, .boolean], none⟩ := by decide +kernel
theorem d_prog_10_method_3_code_15 : decode prog_10_method_3_code 15 = .ok (.areturn, 1) := by decide +kernel
theorem ef_unr (m : MethodId) (x0 : Int32) (x1 : Int32) (x2 : UInt64) (x3 : UInt64) : entryFrame m #[(.int x0), (.int x1), (.double x2), (.double x3)] 6 = mkF m 0 #[.val (.int x0), .val (.int x1), .val (.double x2), .second, .val (.double x3), .second] [] := by first | (simp [entryFrame, mkF, argsToLocals, Value.category]; done) | rfl
def Q_unr (Z : State) (k1 : Int32) (k2 : Int32) (d1 : UInt64) (d2 : UInt64) (h0 : Heap) (n0 : Nat) (v : Option Value) (h : Heap) (L : List Loc) : Prop := ∃ b : Addr, v = some (.ref b) ∧ Fr n0 L ∧ Keep h0 h [] ∧ (h0.size ≤ b) ∧ (n0 ≤ b) ∧ (Exa Z h b "com/example/kerbline/kerbline/graph/PathEdge") ∧ (Fld Z h b "com/example/kerbline/kerbline/graph/PathEdge" "edge" "I" (.int k1)) ∧ (Fld Z h b "com/example/kerbline/kerbline/graph/PathEdge" "sense" "I" (.int k2)) ∧ (Fld Z h b "com/example/kerbline/kerbline/graph/PathEdge" "origin" "D" (.double d1)) ∧ (Fld Z h b "com/example/kerbline/kerbline/graph/PathEdge" "probability" "D" (.double d2)) ∧ (Fld Z h b "com/example/kerbline/kerbline/graph/PathEdge" "trail" "Lcom/example/kerbline/kerbline/graph/Trail;" .null) ∧ (Fld Z h b "com/example/kerbline/kerbline/graph/PathEdge" "fromStart" "Z" (.int (0 : Int32))) ∧ (Fld Z h b "com/example/kerbline/kerbline/graph/PathEdge" "routed" "Z" (.int (0 : Int32)))
set_option maxRecDepth 65536 in
set_option maxHeartbeats 40000000 in
theorem rm_unr (l : Launch) (Z : State) (a0 : Array Value) (hw : ∀ d ∈ tables_1, d.before a0 Z = true) (ws : List Jvm.Cond) (k1 : Int32) (k2 : Int32) (d1 : UInt64) (d2 : UInt64) (h0 : Heap) (n0 : Nat) (Z0 : n0 ≤ h0.size)  :
    MetFree l (⟨"com/example/kerbline/kerbline/graph/PathEdge", "unrouted", "(IIDD)Lcom/example/kerbline/kerbline/graph/PathEdge;"⟩ : MethodName) (head1 (Jvm.Cond.code (⟨"com/example/kerbline/kerbline/graph/PathEdge", "unrouted", "(IIDD)Lcom/example/kerbline/kerbline/graph/PathEdge;"⟩ : MethodName) prog_10_method_3_code 6 (some (.object "com/example/kerbline/kerbline/graph/PathEdge")) :: ws) ({ frames := 2, cells := 1, slots := 7, locals := 34 } : Room)) (fun a U => a = #[(.int k1), (.int k2), (.double d1), (.double d2)] ∧ Z.Warmed39 U.vm ∧ U.heap = h0) (fun _ _ _ _ _ => True) (fun _ U o U' => ∃ v L, o = .returned v ∧ Q_unr Z k1 k2 d1 d2 h0 n0 v U'.heap L ∧ FrameEnd U o U' L ({ frames := 2, cells := 1, slots := 7, locals := 34 } : Room).cells ({ frames := 2, cells := 1, slots := 7, locals := 34 } : Room).slots) := by
  refine MetFree.of_bodySF (plainFor_of_name pn_com_example_kerbline_kerbline_graph_PathEdge) hisR ?_
  intro p e s m args below meth c s₁ Bd hml0 hP hK
  obtain ⟨rfl, hZ, hh⟩ := hP
  have hx := Bd.exec
  have hby := Bd.bytes
  have hml : c.maxLocals = 6 := hml0
  have hown : s.vm.findClass "com/example/kerbline/kerbline/graph/PathEdge" = some m.cls := findClass_of_methodNamed Bd.named
  have hnm := (name_of_methodNamed Bd.named Bd.method).1
  have X0 : Stand p l e ({ frames := 2, cells := 1, slots := 7, locals := 34 } : Room) s m #[(.int k1), (.int k2), (.double d1), (.double d2)] below meth c s₁ [] 0 0 := Stand.of_body Bd
  have e0 : s₁.heap = h0 := by rw [← hh, Bd.state]; rfl
  have N0 := Fr.nil n0
  have P0 : Keep h0 h0 [] := Keep.refl _ _
  have pre0 : ∀ t, Steps p.tables e below (s₁.setTop (mkF m 0 #[.val (.int k1), .val (.int k2), .val (.double d1), .second, .val (.double d2), .second] [])) t → Steps p.tables e below (s₁.setTop (entryFrame m #[(.int k1), (.int k2), (.double d1), (.double d2)] 6)) t := fun t k => castTop (ef_unr m k1 k2 d1 d2) k
  obtain ⟨T1, h1, X1, e1, E1, A1, D1, -, st1⟩ := newO X0 hx hZ hown (hw _ (List.mem_of_getElem? (i := 30) rfl)) (hw _ (List.mem_of_getElem? (i := 31) rfl)) (hw _ (List.mem_of_getElem? (i := 28) rfl)) e0 (g := (mkF m 0 #[.val (.int k1), .val (.int k2), .val (.double d1), .second, .val (.double d2), .second] [])) rfl (hb hby d_prog_10_method_3_code_0) (by decide) (by decide)
  obtain ⟨bn, g1⟩ : ∃ z, z = h0.size := ⟨_, rfl⟩
  rw [← g1] at A1 D1 st1
  have ge_bn : n0 ≤ bn := Nat.le_trans (Nat.le_trans Z0 P0.1) (Nat.le_of_eq g1.symm)
  have sz_bn : h0.size ≤ bn := Nat.le_trans P0.1 (Nat.le_of_eq g1.symm)
  have P2 : Keep h0 h1 [] := P0.ext E1
  have F3 : Fld Z h1 bn "com/example/kerbline/kerbline/graph/PathEdge" "edge" "I" (.int (0 : Int32)) := D1 (Or.inr (hw _ (List.mem_of_getElem? (i := 37) rfl))) (ty := .int) (by decide)
  have F4 : Fld Z h1 bn "com/example/kerbline/kerbline/graph/PathEdge" "sense" "I" (.int (0 : Int32)) := D1 (Or.inr (hw _ (List.mem_of_getElem? (i := 39) rfl))) (ty := .int) (by decide)
  have F5 : Fld Z h1 bn "com/example/kerbline/kerbline/graph/PathEdge" "origin" "D" (.double (0 : UInt64)) := D1 (Or.inr (hw _ (List.mem_of_getElem? (i := 41) rfl))) (ty := .double) (by decide)
  have F6 : Fld Z h1 bn "com/example/kerbline/kerbline/graph/PathEdge" "probability" "D" (.double (0 : UInt64)) := D1 (Or.inr (hw _ (List.mem_of_getElem? (i := 43) rfl))) (ty := .double) (by decide)
  have F7 : Fld Z h1 bn "com/example/kerbline/kerbline/graph/PathEdge" "trail" "Lcom/example/kerbline/kerbline/graph/Trail;" .null := D1 (Or.inr (hw _ (List.mem_of_getElem? (i := 45) rfl))) (ty := (.object "com/example/kerbline/kerbline/graph/Trail")) (by decide)
  have F8 : Fld Z h1 bn "com/example/kerbline/kerbline/graph/PathEdge" "fromStart" "Z" (.int (0 : Int32)) := D1 (Or.inr (hw _ (List.mem_of_getElem? (i := 47) rfl))) (ty := .boolean) (by decide)
  have F9 : Fld Z h1 bn "com/example/kerbline/kerbline/graph/PathEdge" "routed" "Z" (.int (0 : Int32)) := D1 (Or.inr (hw _ (List.mem_of_getElem? (i := 49) rfl))) (ty := .boolean) (by decide)
  obtain ⟨_, _, ⟨T10, L10, k10, n10⟩, -, X10, ⟨Lc10, hQ10, l10, y10, z10⟩, st10⟩ := X1.specialBack hx (y := (⟨"com/example/kerbline/kerbline/graph/PathEdge", "<init>", "(IIDDLcom/example/kerbline/kerbline/graph/Trail;ZZ)V"⟩ : MethodName)) rfl hown (mvT hZ (hw _ (List.mem_of_getElem? (i := 32) rfl))) (mvT hZ (hw _ (List.mem_of_getElem? (i := 33) rfl))) (mvT hZ (hw _ (List.mem_of_getElem? (i := 34) rfl))) (by decide) (backOf (W := 1) (rm_pe l Z a0 hw [] bn k1 k2 d1 d2 (.int (0 : Int32)) (.int (0 : Int32)) (.double (0 : UInt64)) (.double (0 : UInt64)) .null (.int (0 : Int32)) (.int (0 : Int32)) h1 n0 (Nat.le_trans Z0 P2.1) A1 F3 F4 F5 F6 F7 F8 F9 ge_bn) hZ (hw _ (List.mem_of_getElem? (i := 34) rfl)) (hw _ (List.mem_of_getElem? (i := 28) rfl)) (by decide) (by decide)) (g := (mkF m 12 #[.val (.int k1), .val (.int k2), .val (.double d1), .second, .val (.double d2), .second] [(.int (0 : Int32)), (.int (0 : Int32)), .null, (.double d2), (.double d1), (.int k2), (.int k1), (.ref bn), (.ref bn)])) rfl (by rw [hml]; rfl) (Steps.refl _) (a := bn) (argsL := [(.int k1), (.int k2), (.double d1), (.double d2), .null, (.int (0 : Int32)), (.int (0 : Int32))]) (rest := [(.ref bn)]) (lenOf pd_28IIDDLcom2fexample2fkerbline2fkerbline2fgraph2fTrail3bZZ29V rfl) rfl (by show 2 * 0 + _ ≤ _; exact Nat.le_of_eq rfl) (hb hby d_prog_10_method_3_code_12) (fun _ _ => ⟨rfl, e1, (by decide : 1 + 0 ≤ _), (by decide : 7 + 0 ≤ _)⟩)
  dsimp only [Pt.U, Pt.locs, Pt.cells, Pt.slots] at X10 l10 y10 z10 st10 hQ10
  subst l10 y10 z10
  obtain ⟨rfl, N10q, K10, r10_0, r10_1, r10_2, r10_3, r10_4, r10_5, r10_6, r10_7⟩ := hQ10
  have N10 := Fr.app N0 N10q
  have P11 : Keep h0 T10.heap [] := P2.trans K10 (allS (Or.inr sz_bn) all0)
  obtain ⟨fs, hr, hrun, hended, hW, hsame⟩ := X10.leave (v := some (.ref bn)) (fun h => by rw [Bd.returns] at h; cases h)
  refine ⟨_, _, pre0 _ ?_, hrun, hended, _, _, rfl, ?_, ⟨_, rfl⟩, hW, hsame.mono (by decide) (by decide)⟩
  · show Steps p.tables e below (s₁.setTop (mkF m 0 #[.val (.int k1), .val (.int k2), .val (.double d1), .second, .val (.double d2), .second] [])) _
    refine st1 _ ?_
    show Steps p.tables e below (T1.setTop (mkF m 3 #[.val (.int k1), .val (.int k2), .val (.double d1), .second, .val (.double d2), .second] [(.ref bn)])) _
    refine XS.dup X1.here hx rfl (hb hby d_prog_10_method_3_code_3) rfl rfl ?_
    show Steps p.tables e below (T1.setTop (mkF m 4 #[.val (.int k1), .val (.int k2), .val (.double d1), .second, .val (.double d2), .second] [(.ref bn), (.ref bn)])) _
    refine XS.iloadN X1.here hx rfl (hb hby d_prog_10_method_3_code_4) rfl ?_
    show Steps p.tables e below (T1.setTop (mkF m 5 #[.val (.int k1), .val (.int k2), .val (.double d1), .second, .val (.double d2), .second] [(.int k1), (.ref bn), (.ref bn)])) _
    refine XS.iloadN X1.here hx rfl (hb hby d_prog_10_method_3_code_5) rfl ?_
    show Steps p.tables e below (T1.setTop (mkF m 6 #[.val (.int k1), .val (.int k2), .val (.double d1), .second, .val (.double d2), .second] [(.int k2), (.int k1), (.ref bn), (.ref bn)])) _
    refine XS.dloadN X1.here hx rfl (hb hby d_prog_10_method_3_code_6) rfl ?_
    show Steps p.tables e below (T1.setTop (mkF m 7 #[.val (.int k1), .val (.int k2), .val (.double d1), .second, .val (.double d2), .second] [(.double d1), (.int k2), (.int k1), (.ref bn), (.ref bn)])) _
    refine XS.dload X1.here hx rfl (hb hby d_prog_10_method_3_code_7) rfl ?_
    show Steps p.tables e below (T1.setTop (mkF m 9 #[.val (.int k1), .val (.int k2), .val (.double d1), .second, .val (.double d2), .second] [(.double d2), (.double d1), (.int k2), (.int k1), (.ref bn), (.ref bn)])) _
    refine XS.aconstNull X1.here hx rfl (hb hby d_prog_10_method_3_code_9) ?_
    show Steps p.tables e below (T1.setTop (mkF m 10 #[.val (.int k1), .val (.int k2), .val (.double d1), .second, .val (.double d2), .second] [.null, (.double d2), (.double d1), (.int k2), (.int k1), (.ref bn), (.ref bn)])) _
    refine XS.iconst X1.here hx rfl (hb hby d_prog_10_method_3_code_10) ?_
    show Steps p.tables e below (T1.setTop (mkF m 11 #[.val (.int k1), .val (.int k2), .val (.double d1), .second, .val (.double d2), .second] [(.int (0 : Int32)), .null, (.double d2), (.double d1), (.int k2), (.int k1), (.ref bn), (.ref bn)])) _
    refine XS.iconst X1.here hx rfl (hb hby d_prog_10_method_3_code_11) ?_
    show Steps p.tables e below (T1.setTop (mkF m 12 #[.val (.int k1), .val (.int k2), .val (.double d1), .second, .val (.double d2), .second] [(.int (0 : Int32)), (.int (0 : Int32)), .null, (.double d2), (.double d1), (.int k2), (.int k1), (.ref bn), (.ref bn)])) _
    refine st10.trans ?_
    show Steps p.tables e below (T10.setTop (mkF m 15 #[.val (.int k1), .val (.int k2), .val (.double d1), .second, .val (.double d2), .second] [(.ref bn)])) _
    exact retOut X10 hx (t := (.object "com/example/kerbline/kerbline/graph/PathEdge")) (i := .areturn) Bd.returns rfl (Or.inr (Or.inr (Or.inr (Or.inr ⟨rfl, rfl, rfl⟩)))) (hb hby d_prog_10_method_3_code_15) hr
  · show Q_unr Z k1 k2 d1 d2 h0 n0 _ T10.heap _
    skip
    exact ⟨bn, rfl, N10, P11, sz_bn, ge_bn, r10_0, r10_1, r10_2, r10_3, r10_4, r10_5, r10_6, r10_7⟩
theorem d_prog_10_method_4_code_0 : decode prog_10_method_4_code 0 = .ok (.aload_n 0, 1) := by decide +kernel
theorem d_prog_10_method_4_code_1 : decode prog_10_method_4_code 1 = .ok (.getfield 12, 3) := by decide +kernel
theorem d_prog_10_method_4_code_4 : decode prog_10_method_4_code 4 = .ok (.ireturn, 1) := by decide +kernel
theorem ef_ged (m : MethodId) (x0 : Addr) : entryFrame m #[(.ref x0)] 1 = mkF m 0 #[.val (.ref x0)] [] := by first | (simp [entryFrame, mkF, argsToLocals, Value.category]; done) | rfl
def Q_ged (Z : State) (a1 : Addr) (k1 : Int32) (h0 : Heap) (n0 : Nat) (v : Option Value) (h : Heap) (L : List Loc) : Prop := v = some (.int k1) ∧ Fr n0 L ∧ h = h0
set_option maxRecDepth 65536 in
set_option maxHeartbeats 40000000 in
theorem rm_ged (l : Launch) (Z : State) (a0 : Array Value) (hw : ∀ d ∈ tables_1, d.before a0 Z = true) (ws : List Jvm.Cond) (a1 : Addr) (k1 : Int32) (h0 : Heap) (n0 : Nat) (Z0 : n0 ≤ h0.size) (pF0 : Fld Z h0 a1 "com/example/kerbline/kerbline/graph/PathEdge" "edge" "I" (.int k1)) :
    MetFree l (⟨"com/example/kerbline/kerbline/graph/PathEdge", "edge", "()I"⟩ : MethodName) (head1 (Jvm.Cond.code (⟨"com/example/kerbline/kerbline/graph/PathEdge", "edge", "()I"⟩ : MethodName) prog_10_method_4_code 1 (some .int) :: ws) ({ frames := 0, cells := 0, slots := 0, locals := 0 } : Room)) (fun a U => a = #[(.ref a1)] ∧ Z.Warmed39 U.vm ∧ U.heap = h0) (fun _ _ _ _ _ => True) (fun _ U o U' => ∃ v L, o = .returned v ∧ Q_ged Z a1 k1 h0 n0 v U'.heap L ∧ FrameEnd U o U' L ({ frames := 0, cells := 0, slots := 0, locals := 0 } : Room).cells ({ frames := 0, cells := 0, slots := 0, locals := 0 } : Room).slots) := by
  refine MetFree.of_bodySF (plainFor_of_name pn_com_example_kerbline_kerbline_graph_PathEdge) hisR ?_
  intro p e s m args below meth c s₁ Bd hml0 hP hK
  obtain ⟨rfl, hZ, hh⟩ := hP
  have hx := Bd.exec
  have hby := Bd.bytes
  have hml : c.maxLocals = 1 := hml0
  have hown : s.vm.findClass "com/example/kerbline/kerbline/graph/PathEdge" = some m.cls := findClass_of_methodNamed Bd.named
  have hnm := (name_of_methodNamed Bd.named Bd.method).1
  have X0 : Stand p l e ({ frames := 0, cells := 0, slots := 0, locals := 0 } : Room) s m #[(.ref a1)] below meth c s₁ [] 0 0 := Stand.of_body Bd
  have e0 : s₁.heap = h0 := by rw [← hh, Bd.state]; rfl
  have N0 := Fr.nil n0
  have P0 : Keep h0 h0 [] := Keep.refl _ _
  have pre0 : ∀ t, Steps p.tables e below (s₁.setTop (mkF m 0 #[.val (.ref a1)] [])) t → Steps p.tables e below (s₁.setTop (entryFrame m #[(.ref a1)] 1)) t := fun t k => castTop (ef_ged m a1) k
  obtain ⟨T1, X1, e1, st1⟩ := getF X0 hx hZ hown (host := "") (Or.inl (hw _ (List.mem_of_getElem? (i := 36) rfl))) Via.refl e0 pF0 (g := (mkF m 1 #[.val (.ref a1)] [(.ref a1)])) rfl rfl (hb hby d_prog_10_method_4_code_1)
  obtain ⟨fs, hr, hrun, hended, hW, hsame⟩ := X1.leave (v := some (.int k1)) (fun h => by rw [Bd.returns] at h; cases h)
  refine ⟨_, _, pre0 _ ?_, hrun, hended, _, _, rfl, ?_, ⟨_, rfl⟩, hW, hsame.mono (by decide) (by decide)⟩
  · show Steps p.tables e below (s₁.setTop (mkF m 0 #[.val (.ref a1)] [])) _
    refine XS.aloadN X0.here hx rfl (hb hby d_prog_10_method_4_code_0) rfl rfl ?_
    show Steps p.tables e below (s₁.setTop (mkF m 1 #[.val (.ref a1)] [(.ref a1)])) _
    refine st1 _ ?_
    show Steps p.tables e below (T1.setTop (mkF m 4 #[.val (.ref a1)] [(.int k1)])) _
    exact retOut X1 hx (t := .int) (i := .ireturn) Bd.returns rfl (Or.inl ⟨rfl, Or.inl rfl, _, rfl⟩) (hb hby d_prog_10_method_4_code_4) hr
  · show Q_ged Z a1 k1 h0 n0 _ T1.heap _
    rw [e1]
    exact ⟨rfl, N0, rfl⟩
theorem d_prog_10_method_5_code_0 : decode prog_10_method_5_code 0 = .ok (.aload_n 0, 1) := by decide +kernel
theorem d_prog_10_method_5_code_1 : decode prog_10_method_5_code 1 = .ok (.getfield 16, 3) := by decide +kernel
theorem d_prog_10_method_5_code_4 : decode prog_10_method_5_code 4 = .ok (.ireturn, 1) := by decide +kernel
theorem ef_gse (m : MethodId) (x0 : Addr) : entryFrame m #[(.ref x0)] 1 = mkF m 0 #[.val (.ref x0)] [] := by first | (simp [entryFrame, mkF, argsToLocals, Value.category]; done) | rfl
def Q_gse (Z : State) (a1 : Addr) (k1 : Int32) (h0 : Heap) (n0 : Nat) (v : Option Value) (h : Heap) (L : List Loc) : Prop := v = some (.int k1) ∧ Fr n0 L ∧ h = h0
set_option maxRecDepth 65536 in
set_option maxHeartbeats 40000000 in
theorem rm_gse (l : Launch) (Z : State) (a0 : Array Value) (hw : ∀ d ∈ tables_1, d.before a0 Z = true) (ws : List Jvm.Cond) (a1 : Addr) (k1 : Int32) (h0 : Heap) (n0 : Nat) (Z0 : n0 ≤ h0.size) (pF0 : Fld Z h0 a1 "com/example/kerbline/kerbline/graph/PathEdge" "sense" "I" (.int k1)) :
    MetFree l (⟨"com/example/kerbline/kerbline/graph/PathEdge", "sense", "()I"⟩ : MethodName) (head1 (Jvm.Cond.code (⟨"com/example/kerbline/kerbline/graph/PathEdge", "sense", "()I"⟩ : MethodName) prog_10_method_5_code 1 (some .int) :: ws) ({ frames := 0, cells := 0, slots := 0, locals := 0 } : Room)) (fun a U => a = #[(.ref a1)] ∧ Z.Warmed39 U.vm ∧ U.heap = h0) (fun _ _ _ _ _ => True) (fun _ U o U' => ∃ v L, o = .returned v ∧ Q_gse Z a1 k1 h0 n0 v U'.heap L ∧ FrameEnd U o U' L ({ frames := 0, cells := 0, slots := 0, locals := 0 } : Room).cells ({ frames := 0, cells := 0, slots := 0, locals := 0 } : Room).slots) := by
  refine MetFree.of_bodySF (plainFor_of_name pn_com_example_kerbline_kerbline_graph_PathEdge) hisR ?_
  intro p e s m args below meth c s₁ Bd hml0 hP hK
  obtain ⟨rfl, hZ, hh⟩ := hP
  have hx := Bd.exec
  have hby := Bd.bytes
  have hml : c.maxLocals = 1 := hml0
  have hown : s.vm.findClass "com/example/kerbline/kerbline/graph/PathEdge" = some m.cls := findClass_of_methodNamed Bd.named
  have hnm := (name_of_methodNamed Bd.named Bd.method).1
  have X0 : Stand p l e ({ frames := 0, cells := 0, slots := 0, locals := 0 } : Room) s m #[(.ref a1)] below meth c s₁ [] 0 0 := Stand.of_body Bd
  have e0 : s₁.heap = h0 := by rw [← hh, Bd.state]; rfl
  have N0 := Fr.nil n0
  have P0 : Keep h0 h0 [] := Keep.refl _ _
  have pre0 : ∀ t, Steps p.tables e below (s₁.setTop (mkF m 0 #[.val (.ref a1)] [])) t → Steps p.tables e below (s₁.setTop (entryFrame m #[(.ref a1)] 1)) t := fun t k => castTop (ef_gse m a1) k
  obtain ⟨T1, X1, e1, st1⟩ := getF X0 hx hZ hown (host := "") (Or.inl (hw _ (List.mem_of_getElem? (i := 38) rfl))) Via.refl e0 pF0 (g := (mkF m 1 #[.val (.ref a1)] [(.ref a1)])) rfl rfl (hb hby d_prog_10_method_5_code_1)
  obtain ⟨fs, hr, hrun, hended, hW, hsame⟩ := X1.leave (v := some (.int k1)) (fun h => by rw [Bd.returns] at h; cases h)
  refine ⟨_, _, pre0 _ ?_, hrun, hended, _, _, rfl, ?_, ⟨_, rfl⟩, hW, hsame.mono (by decide) (by decide)⟩
  · show Steps p.tables e below (s₁.setTop (mkF m 0 #[.val (.ref a1)] [])) _
    refine XS.aloadN X0.here hx rfl (hb hby d_prog_10_method_5_code_0) rfl rfl ?_
    show Steps p.tables e below (s₁.setTop (mkF m 1 #[.val (.ref a1)] [(.ref a1)])) _
    refine st1 _ ?_
    show Steps p.tables e below (T1.setTop (mkF m 4 #[.val (.ref a1)] [(.int k1)])) _
    exact retOut X1 hx (t := .int) (i := .ireturn) Bd.returns rfl (Or.inl ⟨rfl, Or.inl rfl, _, rfl⟩) (hb hby d_prog_10_method_5_code_4) hr
  · show Q_gse Z a1 k1 h0 n0 _ T1.heap _
    rw [e1]
    exact ⟨rfl, N0, rfl⟩
theorem d_prog_10_method_6_code_0 : decode prog_10_method_6_code 0 = .ok (.aload_n 0, 1) := by decide +kernel
theorem d_prog_10_method_6_code_1 : decode prog_10_method_6_code 1 = .ok (.getfield 19, 3) := by decide +kernel
theorem d_prog_10_method_6_code_4 : decode prog_10_method_6_code 4 = .ok (.dreturn, 1) := by decide +kernel
theorem ef_gor (m : MethodId) (x0 : Addr) : entryFrame m #[(.ref x0)] 1 = mkF m 0 #[.val (.ref x0)] [] := by first | (simp [entryFrame, mkF, argsToLocals, Value.category]; done) | rfl
def Q_gor (Z : State) (a1 : Addr) (d1 : UInt64) (h0 : Heap) (n0 : Nat) (v : Option Value) (h : Heap) (L : List Loc) : Prop := v = some (.double d1) ∧ Fr n0 L ∧ h = h0
set_option maxRecDepth 65536 in
set_option maxHeartbeats 40000000 in
theorem rm_gor (l : Launch) (Z : State) (a0 : Array Value) (hw : ∀ d ∈ tables_1, d.before a0 Z = true) (ws : List Jvm.Cond) (a1 : Addr) (d1 : UInt64) (h0 : Heap) (n0 : Nat) (Z0 : n0 ≤ h0.size) (pF0 : Fld Z h0 a1 "com/example/kerbline/kerbline/graph/PathEdge" "origin" "D" (.double d1)) :
    MetFree l (⟨"com/example/kerbline/kerbline/graph/PathEdge", "origin", "()D"⟩ : MethodName) (head1 (Jvm.Cond.code (⟨"com/example/kerbline/kerbline/graph/PathEdge", "origin", "()D"⟩ : MethodName) prog_10_method_6_code 1 (some .double) :: ws) ({ frames := 0, cells := 0, slots := 0, locals := 0 } : Room)) (fun a U => a = #[(.ref a1)] ∧ Z.Warmed39 U.vm ∧ U.heap = h0) (fun _ _ _ _ _ => True) (fun _ U o U' => ∃ v L, o = .returned v ∧ Q_gor Z a1 d1 h0 n0 v U'.heap L ∧ FrameEnd U o U' L ({ frames := 0, cells := 0, slots := 0, locals := 0 } : Room).cells ({ frames := 0, cells := 0, slots := 0, locals := 0 } : Room).slots) := by
  refine MetFree.of_bodySF (plainFor_of_name pn_com_example_kerbline_kerbline_graph_PathEdge) hisR ?_
  intro p e s m args below meth c s₁ Bd hml0 hP hK
  obtain ⟨rfl, hZ, hh⟩ := hP
  have hx := Bd.exec
  have hby := Bd.bytes
  have hml : c.maxLocals = 1 := hml0
  have hown : s.vm.findClass "com/example/kerbline/kerbline/graph/PathEdge" = some m.cls := findClass_of_methodNamed Bd.named
  have hnm := (name_of_methodNamed Bd.named Bd.method).1
  have X0 : Stand p l e ({ frames := 0, cells := 0, slots := 0, locals := 0 } : Room) s m #[(.ref a1)] below meth c s₁ [] 0 0 := Stand.of_body Bd
  have e0 : s₁.heap = h0 := by rw [← hh, Bd.state]; rfl
  have N0 := Fr.nil n0
  have P0 : Keep h0 h0 [] := Keep.refl _ _
  have pre0 : ∀ t, Steps p.tables e below (s₁.setTop (mkF m 0 #[.val (.ref a1)] [])) t → Steps p.tables e below (s₁.setTop (entryFrame m #[(.ref a1)] 1)) t := fun t k => castTop (ef_gor m a1) k
  obtain ⟨T1, X1, e1, st1⟩ := getF X0 hx hZ hown (host := "") (Or.inl (hw _ (List.mem_of_getElem? (i := 40) rfl))) Via.refl e0 pF0 (g := (mkF m 1 #[.val (.ref a1)] [(.ref a1)])) rfl rfl (hb hby d_prog_10_method_6_code_1)
  obtain ⟨fs, hr, hrun, hended, hW, hsame⟩ := X1.leave (v := some (.double d1)) (fun h => by rw [Bd.returns] at h; cases h)
  refine ⟨_, _, pre0 _ ?_, hrun, hended, _, _, rfl, ?_, ⟨_, rfl⟩, hW, hsame.mono (by decide) (by decide)⟩
  · show Steps p.tables e below (s₁.setTop (mkF m 0 #[.val (.ref a1)] [])) _
    refine XS.aloadN X0.here hx rfl (hb hby d_prog_10_method_6_code_0) rfl rfl ?_
    show Steps p.tables e below (s₁.setTop (mkF m 1 #[.val (.ref a1)] [(.ref a1)])) _
    refine st1 _ ?_
    show Steps p.tables e below (T1.setTop (mkF m 4 #[.val (.ref a1)] [(.double d1)])) _
    exact retOut X1 hx (t := .double) (i := .dreturn) Bd.returns rfl (Or.inr (Or.inr (Or.inl ⟨rfl, rfl, _, rfl⟩))) (hb hby d_prog_10_method_6_code_4) hr
  · show Q_gor Z a1 d1 h0 n0 _ T1.heap _
    rw [e1]
    exact ⟨rfl, N0, rfl⟩
theorem d_prog_10_method_7_code_0 : decode prog_10_method_7_code 0 = .ok (.aload_n 0, 1) := by decide +kernel
theorem d_prog_10_method_7_code_1 : decode prog_10_method_7_code 1 = .ok (.getfield 23, 3) := by decide +kernel
theorem d_prog_10_method_7_code_4 : decode prog_10_method_7_code 4 = .ok (.dreturn, 1) := by decide +kernel
theorem ef_gpr (m : MethodId) (x0 : Addr) : entryFrame m #[(.ref x0)] 1 = mkF m 0 #[.val (.ref x0)] [] := by first | (simp [entryFrame, mkF, argsToLocals, Value.category]; done) | rfl
def Q_gpr (Z : State) (a1 : Addr) (d1 : UInt64) (h0 : Heap) (n0 : Nat) (v : Option Value) (h : Heap) (L : List Loc) : Prop := v = some (.double d1) ∧ Fr n0 L ∧ h = h0
set_option maxRecDepth 65536 in
set_option maxHeartbeats 40000000 in
theorem rm_gpr (l : Launch) (Z : State) (a0 : Array Value) (hw : ∀ d ∈ tables_1, d.before a0 Z = true) (ws : List Jvm.Cond) (a1 : Addr) (d1 : UInt64) (h0 : Heap) (n0 : Nat) (Z0 : n0 ≤ h0.size) (pF0 : Fld Z h0 a1 "com/example/kerbline/kerbline/graph/PathEdge" "probability" "D" (.double d1)) :
    MetFree l (⟨"com/example/kerbline/kerbline/graph/PathEdge", "probability", "()D"⟩ : MethodName) (head1 (Jvm.Cond.code (⟨"com/example/kerbline/kerbline/graph/PathEdge", "probability", "()D"⟩ : MethodName) prog_10_method_7_code 1 (some .double) :: ws) ({ frames := 0, cells := 0, slots := 0, locals := 0 } : Room)) (fun a U => a = #[(.ref a1)] ∧ Z.Warmed39 U.vm ∧ U.heap = h0) (fun _ _ _ _ _ => True) (fun _ U o U' => ∃ v L, o = .returned v ∧ Q_gpr Z a1 d1 h0 n0 v U'.heap L ∧ FrameEnd U o U' L ({ frames := 0, cells := 0, slots := 0, locals := 0 } : Room).cells ({ frames := 0, cells := 0, slots := 0, locals := 0 } : Room).slots) := by
  refine MetFree.of_bodySF (plainFor_of_name pn_com_example_kerbline_kerbline_graph_PathEdge) hisR ?_
  intro p e s m args below meth c s₁ Bd hml0 hP hK
  obtain ⟨rfl, hZ, hh⟩ := hP
  have hx := Bd.exec
  have hby := Bd.bytes
  have hml : c.maxLocals = 1 := hml0
  have hown : s.vm.findClass "com/example/kerbline/kerbline/graph/PathEdge" = some m.cls := findClass_of_methodNamed Bd.named
  have hnm := (name_of_methodNamed Bd.named Bd.method).1
  have X0 : Stand p l e ({ frames := 0, cells := 0, slots := 0, locals := 0 } : Room) s m #[(.ref a1)] below meth c s₁ [] 0 0 := Stand.of_body Bd
  have e0 : s₁.heap = h0 := by rw [← hh, Bd.state]; rfl
  have N0 := Fr.nil n0
  have P0 : Keep h0 h0 [] := Keep.refl _ _
  have pre0 : ∀ t, Steps p.tables e below (s₁.setTop (mkF m 0 #[.val (.ref a1)] [])) t → Steps p.tables e below (s₁.setTop (entryFrame m #[(.ref a1)] 1)) t := fun t k => castTop (ef_gpr m a1) k
  obtain ⟨T1, X1, e1, st1⟩ := getF X0 hx hZ hown (host := "") (Or.inl (hw _ (List.mem_of_getElem? (i := 42) rfl))) Via.refl e0 pF0 (g := (mkF m 1 #[.val (.ref a1)] [(.ref a1)])) rfl rfl (hb hby d_prog_10_method_7_code_1)
  obtain ⟨fs, hr, hrun, hended, hW, hsame⟩ := X1.leave (v := some (.double d1)) (fun h => by rw [Bd.returns] at h; cases h)
  refine ⟨_, _, pre0 _ ?_, hrun, hended, _, _, rfl, ?_, ⟨_, rfl⟩, hW, hsame.mono (by decide) (by decide)⟩
  · show Steps p.tables e below (s₁.setTop (mkF m 0 #[.val (.ref a1)] [])) _
    refine XS.aloadN X0.here hx rfl (hb hby d_prog_10_method_7_code_0) rfl rfl ?_
    show Steps p.tables e below (s₁.setTop (mkF m 1 #[.val (.ref a1)] [(.ref a1)])) _
    refine st1 _ ?_
    show Steps p.tables e below (T1.setTop (mkF m 4 #[.val (.ref a1)] [(.double d1)])) _
    exact retOut X1 hx (t := .double) (i := .dreturn) Bd.returns rfl (Or.inr (Or.inr (Or.inl ⟨rfl, rfl, _, rfl⟩))) (hb hby d_prog_10_method_7_code_4) hr
  · show Q_gpr Z a1 d1 h0 n0 _ T1.heap _
    rw [e1]
    exact ⟨rfl, N0, rfl⟩
theorem d_prog_10_method_10_code_0 : decode prog_10_method_10_code 0 = .ok (.aload_n 0, 1) := by decide +kernel
theorem d_prog_10_method_10_code_1 : decode prog_10_method_10_code 1 = .ok (.getfield 34, 3) := by decide +kernel
theorem d_prog_10_method_10_code_4 : decode prog_10_method_10_code 4 = .ok (.ireturn, 1) := by decide +kernel
theorem ef_gro (m : MethodId) (x0 : Addr) : entryFrame m #[(.ref x0)] 1 = mkF m 0 #[.val (.ref x0)] [] := by first | (simp [entryFrame, mkF, argsToLocals, Value.category]; done) | rfl
def Q_gro (Z : State) (a1 : Addr) (h0 : Heap) (n0 : Nat) (v : Option Value) (h : Heap) (L : List Loc) : Prop := v = some (.int (0 : Int32)) ∧ Fr n0 L ∧ h = h0
set_option maxRecDepth 65536 in
set_option maxHeartbeats 40000000 in
theorem rm_gro (l : Launch) (Z : State) (a0 : Array Value) (hw : ∀ d ∈ tables_1, d.before a0 Z = true) (ws : List Jvm.Cond) (a1 : Addr) (h0 : Heap) (n0 : Nat) (Z0 : n0 ≤ h0.size) (pF0 : Fld Z h0 a1 "com/example/kerbline/kerbline/graph/PathEdge" "routed" "Z" (.int (0 : Int32))) :
    MetFree l (⟨"com/example/kerbline/kerbline/graph/PathEdge", "routed", "()Z"⟩ : MethodName) (head1 (Jvm.Cond.code (⟨"com/example/kerbline/kerbline/graph/PathEdge", "routed", "()Z"⟩ : MethodName) prog_10_method_10_code 1 (some .boolean) :: ws) ({ frames := 0, cells := 0, slots := 0, locals := 0 } : Room)) (fun a U => a = #[(.ref a1)] ∧ Z.Warmed39 U.vm ∧ U.heap = h0) (fun _ _ _ _ _ => True) (fun _ U o U' => ∃ v L, o = .returned v ∧ Q_gro Z a1 h0 n0 v U'.heap L ∧ FrameEnd U o U' L ({ frames := 0, cells := 0, slots := 0, locals := 0 } : Room).cells ({ frames := 0, cells := 0, slots := 0, locals := 0 } : Room).slots) := by
  refine MetFree.of_bodySF (plainFor_of_name pn_com_example_kerbline_kerbline_graph_PathEdge) hisR ?_
  intro p e s m args below meth c s₁ Bd hml0 hP hK
  obtain ⟨rfl, hZ, hh⟩ := hP
  have hx := Bd.exec
  have hby := Bd.bytes
  have hml : c.maxLocals = 1 := hml0
  have hown : s.vm.findClass "com/example/kerbline/kerbline/graph/PathEdge" = some m.cls := findClass_of_methodNamed Bd.named
  have hnm := (name_of_methodNamed Bd.named Bd.method).1
  have X0 : Stand p l e ({ frames := 0, cells := 0, slots := 0, locals := 0 } : Room) s m #[(.ref a1)] below meth c s₁ [] 0 0 := Stand.of_body Bd
  have e0 : s₁.heap = h0 := by rw [← hh, Bd.state]; rfl
  have N0 := Fr.nil n0
  have P0 : Keep h0 h0 [] := Keep.refl _ _
  have pre0 : ∀ t, Steps p.tables e below (s₁.setTop (mkF m 0 #[.val (.ref a1)] [])) t → Steps p.tables e below (s₁.setTop (entryFrame m #[(.ref a1)] 1)) t := fun t k => castTop (ef_gro m a1) k
  obtain ⟨T1, X1, e1, st1⟩ := getF X0 hx hZ hown (host := "") (Or.inl (hw _ (List.mem_of_getElem? (i := 48) rfl))) Via.refl e0 pF0 (g := (mkF m 1 #[.val (.ref a1)] [(.ref a1)])) rfl rfl (hb hby d_prog_10_method_10_code_1)
  obtain ⟨fs, hr, hrun, hended, hW, hsame⟩ := X1.leave (v := some (.int (0 : Int32))) (fun h => by rw [Bd.returns] at h; cases h)
  refine ⟨_, _, pre0 _ ?_, hrun, hended, _, _, rfl, ?_, ⟨_, rfl⟩, hW, hsame.mono (by decide) (by decide)⟩
  · show Steps p.tables e below (s₁.setTop (mkF m 0 #[.val (.ref a1)] [])) _
    refine XS.aloadN X0.here hx rfl (hb hby d_prog_10_method_10_code_0) rfl rfl ?_
    show Steps p.tables e below (s₁.setTop (mkF m 1 #[.val (.ref a1)] [(.ref a1)])) _
    refine st1 _ ?_
    show Steps p.tables e below (T1.setTop (mkF m 4 #[.val (.ref a1)] [(.int (0 : Int32))])) _
    exact retOut X1 hx (t := .boolean) (i := .ireturn) Bd.returns rfl (Or.inl ⟨rfl, Or.inr (Or.inl rfl), _, rfl⟩) (hb hby d_prog_10_method_10_code_4) hr
  · show Q_gro Z a1 h0 n0 _ T1.heap _
    rw [e1]
    exact ⟨rfl, N0, rfl⟩
theorem d_prog_10_method_8_code_0 : decode prog_10_method_8_code 0 = .ok (.aload_n 0, 1) := by decide +kernel
theorem d_prog_10_method_8_code_1 : decode prog_10_method_8_code 1 = .ok (.getfield 30, 3) := by decide +kernel
theorem d_prog_10_method_8_code_4 : decode prog_10_method_8_code 4 = .ok (.ifCond .eq 10, 3) := by decide +kernel
theorem d_prog_10_method_8_code_14 : decode prog_10_method_8_code 14 = .ok (.aload_n 0, 1) := by decide +kernel
theorem d_prog_10_method_8_code_15 : decode prog_10_method_8_code 15 = .ok (.getfield 26, 3) := by decide +kernel
theorem d_prog_10_method_8_code_18 : decode prog_10_method_8_code 18 = .ok (.areturn, 1) := by decide +kernel
theorem ef_tfn (m : MethodId) (x0 : Addr) : entryFrame m #[(.ref x0), .null] 10 = mkF m 0 #[.val (.ref x0), .val .null, .unset, .unset, .unset, .unset, .unset, .unset, .unset, .unset] [] := by first | (simp [entryFrame, mkF, argsToLocals, Value.category]; done) | rfl
def Q_tfn (Z : State) (a1 : Addr) (h0 : Heap) (n0 : Nat) (v : Option Value) (h : Heap) (L : List Loc) : Prop := v = some .null ∧ Fr n0 L ∧ h = h0
set_option maxRecDepth 65536 in
set_option maxHeartbeats 40000000 in
theorem rm_tfn (l : Launch) (Z : State) (a0 : Array Value) (hw : ∀ d ∈ tables_1, d.before a0 Z = true) (ws : List Jvm.Cond) (a1 : Addr) (h0 : Heap) (n0 : Nat) (Z0 : n0 ≤ h0.size) (pF0 : Fld Z h0 a1 "com/example/kerbline/kerbline/graph/PathEdge" "fromStart" "Z" (.int (0 : Int32))) (pF1 : Fld Z h0 a1 "com/example/kerbline/kerbline/graph/PathEdge" "trail" "Lcom/example/kerbline/kerbline/graph/Trail;" .null) :
    MetFree l (⟨"com/example/kerbline/kerbline/graph/PathEdge", "trailFrom", "(Lcom/example/kerbline/kerbline/graph/Trail;)Lcom/example/kerbline/kerbline/graph/Trail;"⟩ : MethodName) (head1 (Jvm.Cond.code (⟨"com/example/kerbline/kerbline/graph/PathEdge", "trailFrom", "(Lcom/example/kerbline/kerbline/graph/Trail;)Lcom/example/kerbline/kerbline/graph/Trail;"⟩ : MethodName) prog_10_method_8_code 10 (some (.object "com/example/kerbline/kerbline/graph/Trail")) :: ws) ({ frames := 0, cells := 0, slots := 0, locals := 0 } : Room)) (fun a U => a = #[(.ref a1), .null] ∧ Z.Warmed39 U.vm ∧ U.heap = h0) (fun _ _ _ _ _ => True) (fun _ U o U' => ∃ v L, o = .returned v ∧ Q_tfn Z a1 h0 n0 v U'.heap L ∧ FrameEnd U o U' L ({ frames := 0, cells := 0, slots := 0, locals := 0 } : Room).cells ({ frames := 0, cells := 0, slots := 0, locals := 0 } : Room).slots) := by
  refine MetFree.of_bodySF (plainFor_of_name pn_com_example_kerbline_kerbline_graph_PathEdge) hisR ?_
  intro p e s m args below meth c s₁ Bd hml0 hP hK
  obtain ⟨rfl, hZ, hh⟩ := hP
  have hx := Bd.exec
  have hby := Bd.bytes
  have hml : c.maxLocals = 10 := hml0
  have hown : s.vm.findClass "com/example/kerbline/kerbline/graph/PathEdge" = some m.cls := findClass_of_methodNamed Bd.named
  have hnm := (name_of_methodNamed Bd.named Bd.method).1
  have X0 : Stand p l e ({ frames := 0, cells := 0, slots := 0, locals := 0 } : Room) s m #[(.ref a1), .null] below meth c s₁ [] 0 0 := Stand.of_body Bd
  have e0 : s₁.heap = h0 := by rw [← hh, Bd.state]; rfl
  have N0 := Fr.nil n0
  have P0 : Keep h0 h0 [] := Keep.refl _ _
  have pre0 : ∀ t, Steps p.tables e below (s₁.setTop (mkF m 0 #[.val (.ref a1), .val .null, .unset, .unset, .unset, .unset, .unset, .unset, .unset, .unset] [])) t → Steps p.tables e below (s₁.setTop (entryFrame m #[(.ref a1), .null] 10)) t := fun t k => castTop (ef_tfn m a1) k
  obtain ⟨T1, X1, e1, st1⟩ := getF X0 hx hZ hown (host := "") (Or.inl (hw _ (List.mem_of_getElem? (i := 46) rfl))) Via.refl e0 pF0 (g := (mkF m 1 #[.val (.ref a1), .val .null, .unset, .unset, .unset, .unset, .unset, .unset, .unset, .unset] [(.ref a1)])) rfl rfl (hb hby d_prog_10_method_8_code_1)
  obtain ⟨T2, X2, e2, st2⟩ := getF X1 hx hZ hown (host := "") (Or.inl (hw _ (List.mem_of_getElem? (i := 44) rfl))) Via.refl e1 pF1 (g := (mkF m 15 #[.val (.ref a1), .val .null, .unset, .unset, .unset, .unset, .unset, .unset, .unset, .unset] [(.ref a1)])) rfl rfl (hb hby d_prog_10_method_8_code_15)
  obtain ⟨fs, hr, hrun, hended, hW, hsame⟩ := X2.leave (v := some .null) (fun h => by rw [Bd.returns] at h; cases h)
  refine ⟨_, _, pre0 _ ?_, hrun, hended, _, _, rfl, ?_, ⟨_, rfl⟩, hW, hsame.mono (by decide) (by decide)⟩
  · show Steps p.tables e below (s₁.setTop (mkF m 0 #[.val (.ref a1), .val .null, .unset, .unset, .unset, .unset, .unset, .unset, .unset, .unset] [])) _
    refine XS.aloadN X0.here hx rfl (hb hby d_prog_10_method_8_code_0) rfl rfl ?_
    show Steps p.tables e below (s₁.setTop (mkF m 1 #[.val (.ref a1), .val .null, .unset, .unset, .unset, .unset, .unset, .unset, .unset, .unset] [(.ref a1)])) _
    refine st1 _ ?_
    show Steps p.tables e below (T1.setTop (mkF m 4 #[.val (.ref a1), .val .null, .unset, .unset, .unset, .unset, .unset, .unset, .unset, .unset] [(.int (0 : Int32))])) _
    refine XS.ifYes X1.here hx rfl (pc0 := 4) (pc' := 14) rfl (hb hby d_prog_10_method_8_code_4) rfl ((if0 _ _).trans (teq (by decide : (0 : Int32) = (0 : Int32))).1) (by decide) (by decide) ?_
    show Steps p.tables e below (T1.setTop (mkF m 14 #[.val (.ref a1), .val .null, .unset, .unset, .unset, .unset, .unset, .unset, .unset, .unset] [])) _
    refine XS.aloadN X1.here hx rfl (hb hby d_prog_10_method_8_code_14) rfl rfl ?_
    show Steps p.tables e below (T1.setTop (mkF m 15 #[.val (.ref a1), .val .null, .unset, .unset, .unset, .unset, .unset, .unset, .unset, .unset] [(.ref a1)])) _
    refine st2 _ ?_
    show Steps p.tables e below (T2.setTop (mkF m 18 #[.val (.ref a1), .val .null, .unset, .unset, .unset, .unset, .unset, .unset, .unset, .unset] [.null])) _
    exact retOut X2 hx (t := (.object "com/example/kerbline/kerbline/graph/Trail")) (i := .areturn) Bd.returns rfl (Or.inr (Or.inr (Or.inr (Or.inr ⟨rfl, rfl, rfl⟩)))) (hb hby d_prog_10_method_8_code_18) hr
  · show Q_tfn Z a1 h0 n0 _ T2.heap _
    rw [e2]
    exact ⟨rfl, N0, rfl⟩
theorem ef_tfr (m : MethodId) (x0 : Addr) (x1 : Addr) : entryFrame m #[(.ref x0), (.ref x1)] 10 = mkF m 0 #[.val (.ref x0), .val (.ref x1), .unset, .unset, .unset, .unset, .unset, .unset, .unset, .unset] [] := by first | (simp [entryFrame, mkF, argsToLocals, Value.category]; done) | rfl
def Q_tfr (Z : State) (a1 : Addr) (a2 : Addr) (h0 : Heap) (n0 : Nat) (v : Option Value) (h : Heap) (L : List Loc) : Prop := v = some .null ∧ Fr n0 L ∧ h = h0
set_option maxRecDepth 65536 in
set_option maxHeartbeats 40000000 in
theorem rm_tfr (l : Launch) (Z : State) (a0 : Array Value) (hw : ∀ d ∈ tables_1, d.before a0 Z = true) (ws : List Jvm.Cond) (a1 : Addr) (a2 : Addr) (h0 : Heap) (n0 : Nat) (Z0 : n0 ≤ h0.size) (pF0 : Fld Z h0 a1 "com/example/kerbline/kerbline/graph/PathEdge" "fromStart" "Z" (.int (0 : Int32))) (pF1 : Fld Z h0 a1 "com/example/kerbline/kerbline/graph/PathEdge" "trail" "Lcom/example/kerbline/kerbline/graph/Trail;" .null) :
    MetFree l (⟨"com/example/kerbline/kerbline/graph/PathEdge", "trailFrom", "(Lcom/example/kerbline/kerbline/graph/Trail;)Lcom/example/kerbline/kerbline/graph/Trail;"⟩ : MethodName) (head1 (Jvm.Cond.code (⟨"com/example/kerbline/kerbline/graph/PathEdge", "trailFrom", "(Lcom/example/kerbline/kerbline/graph/Trail;)Lcom/example/kerbline/kerbline/graph/Trail;"⟩ : MethodName) prog_10_method_8_code 10 (some (.object "com/example/kerbline/kerbline/graph/Trail")) :: ws) ({ frames := 0, cells := 0, slots := 0, locals := 0 } : Room)) (fun a U => a = #[(.ref a1), (.ref a2)] ∧ Z.Warmed39 U.vm ∧ U.heap = h0) (fun _ _ _ _ _ => True) (fun _ U o U' => ∃ v L, o = .returned v ∧ Q_tfr Z a1 a2 h0 n0 v U'.heap L ∧ FrameEnd U o U' L ({ frames := 0, cells := 0, slots := 0, locals := 0 } : Room).cells ({ frames := 0, cells := 0, slots := 0, locals := 0 } : Room).slots) := by
  refine MetFree.of_bodySF (plainFor_of_name pn_com_example_kerbline_kerbline_graph_PathEdge) hisR ?_
  intro p e s m args below meth c s₁ Bd hml0 hP hK
  obtain ⟨rfl, hZ, hh⟩ := hP
  have hx := Bd.exec
  have hby := Bd.bytes
  have hml : c.maxLocals = 10 := hml0
  have hown : s.vm.findClass "com/example/kerbline/kerbline/graph/PathEdge" = some m.cls := findClass_of_methodNamed Bd.named
  have hnm := (name_of_methodNamed Bd.named Bd.method).1
  have X0 : Stand p l e ({ frames := 0, cells := 0, slots := 0, locals := 0 } : Room) s m #[(.ref a1), (.ref a2)] below meth c s₁ [] 0 0 := Stand.of_body Bd
  have e0 : s₁.heap = h0 := by rw [← hh, Bd.state]; rfl
  have N0 := Fr.nil n0
  have P0 : Keep h0 h0 [] := Keep.refl _ _
  have pre0 : ∀ t, Steps p.tables e below (s₁.setTop (mkF m 0 #[.val (.ref a1), .val (.ref a2), .unset, .unset, .unset, .unset, .unset, .unset, .unset, .unset] [])) t → Steps p.tables e below (s₁.setTop (entryFrame m #[(.ref a1), (.ref a2)] 10)) t := fun t k => castTop (ef_tfr m a1 a2) k
  obtain ⟨T1, X1, e1, st1⟩ := getF X0 hx hZ hown (host := "") (Or.inl (hw _ (List.mem_of_getElem? (i := 46) rfl))) Via.refl e0 pF0 (g := (mkF m 1 #[.val (.ref a1), .val (.ref a2), .unset, .unset, .unset, .unset, .unset, .unset, .unset, .unset] [(.ref a1)])) rfl rfl (hb hby d_prog_10_method_8_code_1)
  obtain ⟨T2, X2, e2, st2⟩ := getF X1 hx hZ hown (host := "") (Or.inl (hw _ (List.mem_of_getElem? (i := 44) rfl))) Via.refl e1 pF1 (g := (mkF m 15 #[.val (.ref a1), .val (.ref a2), .unset, .unset, .unset, .unset, .unset, .unset, .unset, .unset] [(.ref a1)])) rfl rfl (hb hby d_prog_10_method_8_code_15)
  obtain ⟨fs, hr, hrun, hended, hW, hsame⟩ := X2.leave (v := some .null) (fun h => by rw [Bd.returns] at h; cases h)
  refine ⟨_, _, pre0 _ ?_, hrun, hended, _, _, rfl, ?_, ⟨_, rfl⟩, hW, hsame.mono (by decide) (by decide)⟩
  · show Steps p.tables e below (s₁.setTop (mkF m 0 #[.val (.ref a1), .val (.ref a2), .unset, .unset, .unset, .unset, .unset, .unset, .unset, .unset] [])) _
    refine XS.aloadN X0.here hx rfl (hb hby d_prog_10_method_8_code_0) rfl rfl ?_
    show Steps p.tables e below (s₁.setTop (mkF m 1 #[.val (.ref a1), .val (.ref a2), .unset, .unset, .unset, .unset, .unset, .unset, .unset, .unset] [(.ref a1)])) _
    refine st1 _ ?_
    show Steps p.tables e below (T1.setTop (mkF m 4 #[.val (.ref a1), .val (.ref a2), .unset, .unset, .unset, .unset, .unset, .unset, .unset, .unset] [(.int (0 : Int32))])) _
    refine XS.ifYes X1.here hx rfl (pc0 := 4) (pc' := 14) rfl (hb hby d_prog_10_method_8_code_4) rfl ((if0 _ _).trans (teq (by decide : (0 : Int32) = (0 : Int32))).1) (by decide) (by decide) ?_
    show Steps p.tables e below (T1.setTop (mkF m 14 #[.val (.ref a1), .val (.ref a2), .unset, .unset, .unset, .unset, .unset, .unset, .unset, .unset] [])) _
    refine XS.aloadN X1.here hx rfl (hb hby d_prog_10_method_8_code_14) rfl rfl ?_
    show Steps p.tables e below (T1.setTop (mkF m 15 #[.val (.ref a1), .val (.ref a2), .unset, .unset, .unset, .unset, .unset, .unset, .unset, .unset] [(.ref a1)])) _
    refine st2 _ ?_
    show Steps p.tables e below (T2.setTop (mkF m 18 #[.val (.ref a1), .val (.ref a2), .unset, .unset, .unset, .unset, .unset, .unset, .unset, .unset] [.null])) _
    exact retOut X2 hx (t := (.object "com/example/kerbline/kerbline/graph/Trail")) (i := .areturn) Bd.returns rfl (Or.inr (Or.inr (Or.inr (Or.inr ⟨rfl, rfl, rfl⟩)))) (hb hby d_prog_10_method_8_code_18) hr
  · show Q_tfr Z a1 a2 h0 n0 _ T2.heap _
    rw [e2]
    exact ⟨rfl, N0, rfl⟩
theorem pd_28IIDD29Lcom2fexample2fkerbline2fkerbline2fgraph2fPathEdge3b : parseMethodDescriptor "(IIDD)Lcom/example/kerbline/kerbline/graph/PathEdge;" = some ⟨[.int, .int, .double, .double], some (.object "com/example/kerbline/kerbline/graph/PathEdge")⟩ := by decide +kernel
theorem pd_2829I : parseMethodDescriptor "()I" = some ⟨[], some .int⟩ := by decide +kernel
theorem pd_2829D : parseMethodDescriptor "()D" = some ⟨[], some .double⟩ := by decide +kernel
theorem pd_2829Z : parseMethodDescriptor "()Z" = some ⟨[], some .boolean⟩ := by decide +kernel
theorem pd_28Lcom2fexample2fkerbline2fkerbline2fgraph2fTrail3b29Lcom2fexample2fkerbline2fkerbline2fgraph2fTrail3b : parseMethodDescriptor "(Lcom/example/kerbline/kerbline/graph/Trail;)Lcom/example/kerbline/kerbline/graph/Trail;" = some ⟨[(.object "com/example/kerbline/kerbline/graph/Trail")], some (.object "com/example/kerbline/kerbline/graph/Trail")⟩ := by decide +kernel
theorem pn_com_example_kerbline_kerbline_graph_PathEdgeUnroutedPinLaw : plainName "com/example/kerbline/kerbline/graph/PathEdgeUnroutedPinLaw" = true := by first | (simp [plainName, overriddenIn]; done) | decide +kernel
theorem ef_law0 (m : MethodId) (x0 : Int32) (x1 : Int32) (x2 : Int32) (x3 : Int32) (x4 : Int32) (x5 : Int32) : entryFrame m #[(.int x0), (.int x1), (.int x2), (.int x3), (.int x4), (.int x5)] maxLocals = mkF m 0 #[.val (.int x0), .val (.int x1), .val (.int x2), .val (.int x3), .val (.int x4), .val (.int x5), .unset, .unset, .unset, .unset, .unset, .unset] [] := by first | (simp [entryFrame, mkF, argsToLocals, Value.category, maxLocals]; done) | rfl
def Q_law0 (Z : State) (p1 : Int32) (p2 : Int32) (p3 : Int32) (p4 : Int32) (p5 : Int32) (p6 : Int32) (h0 : Heap) (n0 : Nat) (v : Option Value) (h : Heap) (L : List Loc) : Prop := v = some (.int (1 : Int32)) ∧ Fr n0 L
set_option maxRecDepth 65536 in
set_option maxHeartbeats 40000000 in
theorem rm_law0 (l : Launch) (Z : State) (a0 : Array Value) (hw : ∀ d ∈ tables_1, d.before a0 Z = true) (ws : List Jvm.Cond) (p1 : Int32) (p2 : Int32) (p3 : Int32) (p4 : Int32) (p5 : Int32) (p6 : Int32) (h0 : Heap) (n0 : Nat) (Z0 : n0 ≤ h0.size) (hc12 : (p6 &&& (1 : Int32)) = (0 : Int32)) :
    MetFree l x (head1 (Jvm.Cond.code x code maxLocals ret :: ws) room_1) (fun a U => a = #[(.int p1), (.int p2), (.int p3), (.int p4), (.int p5), (.int p6)] ∧ Z.Warmed39 U.vm ∧ U.heap = h0) (fun _ _ _ _ _ => True) (fun _ U o U' => ∃ v L, o = .returned v ∧ Q_law0 Z p1 p2 p3 p4 p5 p6 h0 n0 v U'.heap L ∧ FrameEnd U o U' L room_1.cells room_1.slots) := by
  refine MetFree.of_bodySF (plainFor_of_name pn_com_example_kerbline_kerbline_graph_PathEdgeUnroutedPinLaw) hisR ?_
  intro p e s m args below meth c s₁ Bd hml0 hP hK
  obtain ⟨rfl, hZ, hh⟩ := hP
  have hx := Bd.exec
  have hby := Bd.bytes
  have hml : c.maxLocals = 12 := hml0
  have hown : s.vm.findClass "com/example/kerbline/kerbline/graph/PathEdgeUnroutedPinLaw" = some m.cls := findClass_of_methodNamed Bd.named
  have hnm := (name_of_methodNamed Bd.named Bd.method).1
  have X0 : Stand p l e room_1 s m #[(.int p1), (.int p2), (.int p3), (.int p4), (.int p5), (.int p6)] below meth c s₁ [] 0 0 := Stand.of_body Bd
  have e0 : s₁.heap = h0 := by rw [← hh, Bd.state]; rfl
  have N0 := Fr.nil n0
  have P0 : Keep h0 h0 [] := Keep.refl _ _
  have pre0 : ∀ t, Steps p.tables e below (s₁.setTop (mkF m 0 #[.val (.int p1), .val (.int p2), .val (.int p3), .val (.int p4), .val (.int p5), .val (.int p6), .unset, .unset, .unset, .unset, .unset, .unset] [])) t → Steps p.tables e below (s₁.setTop (entryFrame m #[(.int p1), (.int p2), (.int p3), (.int p4), (.int p5), (.int p6)] maxLocals)) t := fun t k => castTop (ef_law0 m p1 p2 p3 p4 p5 p6) k
  obtain ⟨_, _, ⟨T1, L1, k1, n1⟩, -, X1, ⟨Lc1, hQ1, l1, y1, z1⟩, st1⟩ := Jvm.LawKit.callS X0 hx (y := (⟨"com/example/kerbline/kerbline/graph/PathEdge", "unrouted", "(IIDD)Lcom/example/kerbline/kerbline/graph/PathEdge;"⟩ : MethodName)) hown (mvT hZ (hw _ (List.mem_of_getElem? (i := 26) rfl))) (mvT hZ (hw _ (List.mem_of_getElem? (i := 27) rfl))) (mvT hZ (hw _ (List.mem_of_getElem? (i := 28) rfl))) (mvT hZ (hw _ (List.mem_of_getElem? (i := 29) rfl))) (by decide) (backOf (W := 0) (rm_unr l Z a0 hw [] p1 p2 (FP.i2d p3) (FP.i2d p4) h0 n0 (Nat.le_trans Z0 P0.1) ) hZ (hw _ (List.mem_of_getElem? (i := 29) rfl)) (hw _ (List.mem_of_getElem? (i := 28) rfl)) (by decide) (by decide)) (g := (mkF m 37 #[.val (.int p1), .val (.int p2), .val (.int p3), .val (.int p4), .val (.int p5), .val (.int p6), .val (.double (FP.i2d p3)), .second, .val (.double (FP.i2d p4)), .second, .val .null, .unset] [(.double (FP.i2d p4)), (.double (FP.i2d p3)), (.int p2), (.int p1)])) rfl (by rw [hml]; rfl) (argsL := [(.int p1), (.int p2), (.double (FP.i2d p3)), (.double (FP.i2d p4))]) (rest := []) (lenOf pd_28IIDD29Lcom2fexample2fkerbline2fkerbline2fgraph2fPathEdge3b rfl) rfl (by show 2 * 0 + _ ≤ _; exact Nat.le_of_eq rfl) (hb hby at_37) (fun _ _ => ⟨rfl, e0, (by decide : 0 + 1 ≤ _), (by decide : 0 + 7 ≤ _)⟩)
  dsimp only [Pt.U, Pt.locs, Pt.cells, Pt.slots] at X1 l1 y1 z1 st1 hQ1
  subst l1 y1 z1
  obtain ⟨bp, rfl, N1q, K1, r1_0, r1_1, r1_2, r1_3, r1_4, r1_5, r1_6, r1_7, r1_8, r1_9⟩ := hQ1
  have N1 := Fr.app N0 N1q
  have ge_bp : n0 ≤ bp := Nat.le_trans (Nat.le_trans Z0 P0.1) r1_0
  have sz_bp : h0.size ≤ bp := Nat.le_trans P0.1 r1_0
  have P2 : Keep h0 T1.heap [] := P0.trans K1 all0
  obtain ⟨cq3, kq3, q3a, q3b, q3c⟩ := isOf hZ rfl r1_2
  obtain ⟨_, _, ⟨T3, L3, k3, n3⟩, -, X3, ⟨Lc3, hQ3, l3, y3, z3⟩, st3⟩ := X1.virtualBack hx (y := (⟨"com/example/kerbline/kerbline/graph/PathEdge", "edge", "()I"⟩ : MethodName)) (z := (⟨"com/example/kerbline/kerbline/graph/PathEdge", "edge", "()I"⟩ : MethodName)) hown (mvT hZ (hw _ (List.mem_of_getElem? (i := 50) rfl))) (mvT hZ (hw _ (List.mem_of_getElem? (i := 51) rfl))) (notFace_of_selects (args := #[]) (mvT hZ (hw _ (List.mem_of_getElem? (i := 53) rfl)))) (mvT hZ (hw _ (List.mem_of_getElem? (i := 53) rfl))) (mvT hZ (hw _ (List.mem_of_getElem? (i := 52) rfl))) (by decide) (backOf (W := 0) (rm_ged l Z a0 hw [] bp p1 T1.heap n0 (Nat.le_trans Z0 P2.1) r1_3) hZ (hw _ (List.mem_of_getElem? (i := 54) rfl)) (hw _ (List.mem_of_getElem? (i := 28) rfl)) (by decide) (by decide)) q3a q3c (g := (mkF m 44 #[.val (.int p1), .val (.int p2), .val (.int p3), .val (.int p4), .val (.int p5), .val (.int p6), .val (.double (FP.i2d p3)), .second, .val (.double (FP.i2d p4)), .second, .val .null, .val (.ref bp)] [(.ref bp)])) rfl (by rw [hml]; rfl) (Steps.refl _) (argsL := []) (rest := []) (lenOf pd_2829I rfl) rfl (by show 2 * 0 + _ ≤ _; exact Nat.le_of_eq rfl) (hb hby at_44) (fun _ _ => ⟨rfl, rfl, (by decide : 1 + 0 ≤ _), (by decide : 7 + 0 ≤ _)⟩)
  dsimp only [Pt.U, Pt.locs, Pt.cells, Pt.slots] at X3 l3 y3 z3 st3 hQ3
  subst l3 y3 z3
  obtain ⟨rfl, N3q, e3⟩ := hQ3
  have N3 := Fr.app N1 N3q
  obtain ⟨cq4, kq4, q4a, q4b, q4c⟩ := isOf hZ e3 r1_2
  obtain ⟨_, _, ⟨T4, L4, k4, n4⟩, -, X4, ⟨Lc4, hQ4, l4, y4, z4⟩, st4⟩ := X3.virtualBack hx (y := (⟨"com/example/kerbline/kerbline/graph/PathEdge", "sense", "()I"⟩ : MethodName)) (z := (⟨"com/example/kerbline/kerbline/graph/PathEdge", "sense", "()I"⟩ : MethodName)) hown (mvT hZ (hw _ (List.mem_of_getElem? (i := 55) rfl))) (mvT hZ (hw _ (List.mem_of_getElem? (i := 56) rfl))) (notFace_of_selects (args := #[]) (mvT hZ (hw _ (List.mem_of_getElem? (i := 58) rfl)))) (mvT hZ (hw _ (List.mem_of_getElem? (i := 58) rfl))) (mvT hZ (hw _ (List.mem_of_getElem? (i := 57) rfl))) (by decide) (backOf (W := 0) (rm_gse l Z a0 hw [] bp p2 T1.heap n0 (Nat.le_trans Z0 P2.1) r1_4) hZ (hw _ (List.mem_of_getElem? (i := 59) rfl)) (hw _ (List.mem_of_getElem? (i := 28) rfl)) (by decide) (by decide)) q4a q4c (g := (mkF m 53 #[.val (.int p1), .val (.int p2), .val (.int p3), .val (.int p4), .val (.int p5), .val (.int p6), .val (.double (FP.i2d p3)), .second, .val (.double (FP.i2d p4)), .second, .val .null, .val (.ref bp)] [(.ref bp)])) rfl (by rw [hml]; rfl) (Steps.refl _) (argsL := []) (rest := []) (lenOf pd_2829I rfl) rfl (by show 2 * 0 + _ ≤ _; exact Nat.le_of_eq rfl) (hb hby at_53) (fun _ _ => ⟨rfl, e3, (by decide : 1 + 0 ≤ _), (by decide : 7 + 0 ≤ _)⟩)
  dsimp only [Pt.U, Pt.locs, Pt.cells, Pt.slots] at X4 l4 y4 z4 st4 hQ4
  subst l4 y4 z4
  obtain ⟨rfl, N4q, e4⟩ := hQ4
  have N4 := Fr.app N3 N4q
  obtain ⟨cq5, kq5, q5a, q5b, q5c⟩ := isOf hZ e4 r1_2
  obtain ⟨_, _, ⟨T5, L5, k5, n5⟩, -, X5, ⟨Lc5, hQ5, l5, y5, z5⟩, st5⟩ := X4.virtualBack hx (y := (⟨"com/example/kerbline/kerbline/graph/PathEdge", "origin", "()D"⟩ : MethodName)) (z := (⟨"com/example/kerbline/kerbline/graph/PathEdge", "origin", "()D"⟩ : MethodName)) hown (mvT hZ (hw _ (List.mem_of_getElem? (i := 60) rfl))) (mvT hZ (hw _ (List.mem_of_getElem? (i := 61) rfl))) (notFace_of_selects (args := #[]) (mvT hZ (hw _ (List.mem_of_getElem? (i := 63) rfl)))) (mvT hZ (hw _ (List.mem_of_getElem? (i := 63) rfl))) (mvT hZ (hw _ (List.mem_of_getElem? (i := 62) rfl))) (by decide) (backOf (W := 0) (rm_gor l Z a0 hw [] bp (FP.i2d p3) T1.heap n0 (Nat.le_trans Z0 P2.1) r1_5) hZ (hw _ (List.mem_of_getElem? (i := 64) rfl)) (hw _ (List.mem_of_getElem? (i := 28) rfl)) (by decide) (by decide)) q5a q5c (g := (mkF m 62 #[.val (.int p1), .val (.int p2), .val (.int p3), .val (.int p4), .val (.int p5), .val (.int p6), .val (.double (FP.i2d p3)), .second, .val (.double (FP.i2d p4)), .second, .val .null, .val (.ref bp)] [(.ref bp)])) rfl (by rw [hml]; rfl) (Steps.refl _) (argsL := []) (rest := []) (lenOf pd_2829D rfl) rfl (by show 2 * 0 + _ ≤ _; exact Nat.le_of_eq rfl) (hb hby at_62) (fun _ _ => ⟨rfl, e4, (by decide : 1 + 0 ≤ _), (by decide : 7 + 0 ≤ _)⟩)
  dsimp only [Pt.U, Pt.locs, Pt.cells, Pt.slots] at X5 l5 y5 z5 st5 hQ5
  subst l5 y5 z5
  obtain ⟨rfl, N5q, e5⟩ := hQ5
  have N5 := Fr.app N4 N5q
  obtain ⟨cq6, kq6, q6a, q6b, q6c⟩ := isOf hZ e5 r1_2
  obtain ⟨_, _, ⟨T6, L6, k6, n6⟩, -, X6, ⟨Lc6, hQ6, l6, y6, z6⟩, st6⟩ := X5.virtualBack hx (y := (⟨"com/example/kerbline/kerbline/graph/PathEdge", "probability", "()D"⟩ : MethodName)) (z := (⟨"com/example/kerbline/kerbline/graph/PathEdge", "probability", "()D"⟩ : MethodName)) hown (mvT hZ (hw _ (List.mem_of_getElem? (i := 65) rfl))) (mvT hZ (hw _ (List.mem_of_getElem? (i := 66) rfl))) (notFace_of_selects (args := #[]) (mvT hZ (hw _ (List.mem_of_getElem? (i := 68) rfl)))) (mvT hZ (hw _ (List.mem_of_getElem? (i := 68) rfl))) (mvT hZ (hw _ (List.mem_of_getElem? (i := 67) rfl))) (by decide) (backOf (W := 0) (rm_gpr l Z a0 hw [] bp (FP.i2d p4) T1.heap n0 (Nat.le_trans Z0 P2.1) r1_6) hZ (hw _ (List.mem_of_getElem? (i := 69) rfl)) (hw _ (List.mem_of_getElem? (i := 28) rfl)) (by decide) (by decide)) q6a q6c (g := (mkF m 73 #[.val (.int p1), .val (.int p2), .val (.int p3), .val (.int p4), .val (.int p5), .val (.int p6), .val (.double (FP.i2d p3)), .second, .val (.double (FP.i2d p4)), .second, .val .null, .val (.ref bp)] [(.ref bp)])) rfl (by rw [hml]; rfl) (Steps.refl _) (argsL := []) (rest := []) (lenOf pd_2829D rfl) rfl (by show 2 * 0 + _ ≤ _; exact Nat.le_of_eq rfl) (hb hby at_73) (fun _ _ => ⟨rfl, e5, (by decide : 1 + 0 ≤ _), (by decide : 7 + 0 ≤ _)⟩)
  dsimp only [Pt.U, Pt.locs, Pt.cells, Pt.slots] at X6 l6 y6 z6 st6 hQ6
  subst l6 y6 z6
  obtain ⟨rfl, N6q, e6⟩ := hQ6
  have N6 := Fr.app N5 N6q
  obtain ⟨cq7, kq7, q7a, q7b, q7c⟩ := isOf hZ e6 r1_2
  obtain ⟨_, _, ⟨T7, L7, k7, n7⟩, -, X7, ⟨Lc7, hQ7, l7, y7, z7⟩, st7⟩ := X6.virtualBack hx (y := (⟨"com/example/kerbline/kerbline/graph/PathEdge", "routed", "()Z"⟩ : MethodName)) (z := (⟨"com/example/kerbline/kerbline/graph/PathEdge", "routed", "()Z"⟩ : MethodName)) hown (mvT hZ (hw _ (List.mem_of_getElem? (i := 70) rfl))) (mvT hZ (hw _ (List.mem_of_getElem? (i := 71) rfl))) (notFace_of_selects (args := #[]) (mvT hZ (hw _ (List.mem_of_getElem? (i := 73) rfl)))) (mvT hZ (hw _ (List.mem_of_getElem? (i := 73) rfl))) (mvT hZ (hw _ (List.mem_of_getElem? (i := 72) rfl))) (by decide) (backOf (W := 0) (rm_gro l Z a0 hw [] bp T1.heap n0 (Nat.le_trans Z0 P2.1) r1_9) hZ (hw _ (List.mem_of_getElem? (i := 74) rfl)) (hw _ (List.mem_of_getElem? (i := 28) rfl)) (by decide) (by decide)) q7a q7c (g := (mkF m 84 #[.val (.int p1), .val (.int p2), .val (.int p3), .val (.int p4), .val (.int p5), .val (.int p6), .val (.double (FP.i2d p3)), .second, .val (.double (FP.i2d p4)), .second, .val .null, .val (.ref bp)] [(.ref bp)])) rfl (by rw [hml]; rfl) (Steps.refl _) (argsL := []) (rest := []) (lenOf pd_2829Z rfl) rfl (by show 2 * 0 + _ ≤ _; exact Nat.le_of_eq rfl) (hb hby at_84) (fun _ _ => ⟨rfl, e6, (by decide : 1 + 0 ≤ _), (by decide : 7 + 0 ≤ _)⟩)
  dsimp only [Pt.U, Pt.locs, Pt.cells, Pt.slots] at X7 l7 y7 z7 st7 hQ7
  subst l7 y7 z7
  obtain ⟨rfl, N7q, e7⟩ := hQ7
  have N7 := Fr.app N6 N7q
  obtain ⟨cq8, kq8, q8a, q8b, q8c⟩ := isOf hZ e7 r1_2
  obtain ⟨_, _, ⟨T8, L8, k8, n8⟩, -, X8, ⟨Lc8, hQ8, l8, y8, z8⟩, st8⟩ := X7.virtualBack hx (y := (⟨"com/example/kerbline/kerbline/graph/PathEdge", "trailFrom", "(Lcom/example/kerbline/kerbline/graph/Trail;)Lcom/example/kerbline/kerbline/graph/Trail;"⟩ : MethodName)) (z := (⟨"com/example/kerbline/kerbline/graph/PathEdge", "trailFrom", "(Lcom/example/kerbline/kerbline/graph/Trail;)Lcom/example/kerbline/kerbline/graph/Trail;"⟩ : MethodName)) hown (mvT hZ (hw _ (List.mem_of_getElem? (i := 75) rfl))) (mvT hZ (hw _ (List.mem_of_getElem? (i := 76) rfl))) (notFace_of_selects (args := #[]) (mvT hZ (hw _ (List.mem_of_getElem? (i := 78) rfl)))) (mvT hZ (hw _ (List.mem_of_getElem? (i := 78) rfl))) (mvT hZ (hw _ (List.mem_of_getElem? (i := 77) rfl))) (by decide) (backOf (W := 0) (rm_tfn l Z a0 hw [] bp T1.heap n0 (Nat.le_trans Z0 P2.1) r1_8 r1_7) hZ (hw _ (List.mem_of_getElem? (i := 79) rfl)) (hw _ (List.mem_of_getElem? (i := 28) rfl)) (by decide) (by decide)) q8a q8c (g := (mkF m 94 #[.val (.int p1), .val (.int p2), .val (.int p3), .val (.int p4), .val (.int p5), .val (.int p6), .val (.double (FP.i2d p3)), .second, .val (.double (FP.i2d p4)), .second, .val .null, .val (.ref bp)] [.null, (.ref bp)])) rfl (by rw [hml]; rfl) (Steps.refl _) (argsL := [.null]) (rest := []) (lenOf pd_28Lcom2fexample2fkerbline2fkerbline2fgraph2fTrail3b29Lcom2fexample2fkerbline2fkerbline2fgraph2fTrail3b rfl) rfl (by show 2 * 0 + _ ≤ _; exact Nat.le_of_eq rfl) (hb hby at_94) (fun _ _ => ⟨rfl, e7, (by decide : 1 + 0 ≤ _), (by decide : 7 + 0 ≤ _)⟩)
  dsimp only [Pt.U, Pt.locs, Pt.cells, Pt.slots] at X8 l8 y8 z8 st8 hQ8
  subst l8 y8 z8
  obtain ⟨rfl, N8q, e8⟩ := hQ8
  have N8 := Fr.app N7 N8q
  obtain ⟨fs, hr, hrun, hended, hW, hsame⟩ := X8.leave (v := some (.int (1 : Int32))) (fun h => by rw [Bd.returns] at h; cases h)
  refine ⟨_, _, pre0 _ ?_, hrun, hended, _, _, rfl, ?_, ⟨_, rfl⟩, hW, hsame.mono (by decide) (by decide)⟩
  · show Steps p.tables e below (s₁.setTop (mkF m 0 #[.val (.int p1), .val (.int p2), .val (.int p3), .val (.int p4), .val (.int p5), .val (.int p6), .unset, .unset, .unset, .unset, .unset, .unset] [])) _
    refine XS.iloadN X0.here hx rfl (hb hby at_0) rfl ?_
    show Steps p.tables e below (s₁.setTop (mkF m 1 #[.val (.int p1), .val (.int p2), .val (.int p3), .val (.int p4), .val (.int p5), .val (.int p6), .unset, .unset, .unset, .unset, .unset, .unset] [(.int p3)])) _
    refine XS.i2dS X0.here hx rfl (hb hby at_1) rfl rfl ?_
    show Steps p.tables e below (s₁.setTop (mkF m 2 #[.val (.int p1), .val (.int p2), .val (.int p3), .val (.int p4), .val (.int p5), .val (.int p6), .unset, .unset, .unset, .unset, .unset, .unset] [(.double (FP.i2d p3))])) _
    refine XS.dstore X0.here hx rfl (hb hby at_2) rfl (l' := #[.val (.int p1), .val (.int p2), .val (.int p3), .val (.int p4), .val (.int p5), .val (.int p6), .val (.double (FP.i2d p3)), .second, .unset, .unset, .unset, .unset]) rfl ?_
    show Steps p.tables e below (s₁.setTop (mkF m 4 #[.val (.int p1), .val (.int p2), .val (.int p3), .val (.int p4), .val (.int p5), .val (.int p6), .val (.double (FP.i2d p3)), .second, .unset, .unset, .unset, .unset] [])) _
    refine XS.iloadN X0.here hx rfl (hb hby at_4) rfl ?_
    show Steps p.tables e below (s₁.setTop (mkF m 5 #[.val (.int p1), .val (.int p2), .val (.int p3), .val (.int p4), .val (.int p5), .val (.int p6), .val (.double (FP.i2d p3)), .second, .unset, .unset, .unset, .unset] [(.int p4)])) _
    refine XS.i2dS X0.here hx rfl (hb hby at_5) rfl rfl ?_
    show Steps p.tables e below (s₁.setTop (mkF m 6 #[.val (.int p1), .val (.int p2), .val (.int p3), .val (.int p4), .val (.int p5), .val (.int p6), .val (.double (FP.i2d p3)), .second, .unset, .unset, .unset, .unset] [(.double (FP.i2d p4))])) _
    refine XS.dstore X0.here hx rfl (hb hby at_6) rfl (l' := #[.val (.int p1), .val (.int p2), .val (.int p3), .val (.int p4), .val (.int p5), .val (.int p6), .val (.double (FP.i2d p3)), .second, .val (.double (FP.i2d p4)), .second, .unset, .unset]) rfl ?_
    show Steps p.tables e below (s₁.setTop (mkF m 8 #[.val (.int p1), .val (.int p2), .val (.int p3), .val (.int p4), .val (.int p5), .val (.int p6), .val (.double (FP.i2d p3)), .second, .val (.double (FP.i2d p4)), .second, .unset, .unset] [])) _
    refine XS.iload X0.here hx rfl (hb hby at_8) rfl ?_
    show Steps p.tables e below (s₁.setTop (mkF m 10 #[.val (.int p1), .val (.int p2), .val (.int p3), .val (.int p4), .val (.int p5), .val (.int p6), .val (.double (FP.i2d p3)), .second, .val (.double (FP.i2d p4)), .second, .unset, .unset] [(.int p6)])) _
    refine XS.iconst X0.here hx rfl (hb hby at_10) ?_
    show Steps p.tables e below (s₁.setTop (mkF m 11 #[.val (.int p1), .val (.int p2), .val (.int p3), .val (.int p4), .val (.int p5), .val (.int p6), .val (.double (FP.i2d p3)), .second, .val (.double (FP.i2d p4)), .second, .unset, .unset] [(.int (1 : Int32)), (.int p6)])) _
    refine XS.iand X0.here hx rfl (hb hby at_11) rfl ?_
    show Steps p.tables e below (s₁.setTop (mkF m 12 #[.val (.int p1), .val (.int p2), .val (.int p3), .val (.int p4), .val (.int p5), .val (.int p6), .val (.double (FP.i2d p3)), .second, .val (.double (FP.i2d p4)), .second, .unset, .unset] [(.int (p6 &&& (1 : Int32)))])) _
    refine XS.ifYes X0.here hx rfl (pc0 := 12) (pc' := 28) rfl (hb hby at_12) rfl ((if0 _ _).trans (teq (hc12 : (p6 &&& (1 : Int32)) = (0 : Int32))).1) (by decide) (by decide) ?_
    show Steps p.tables e below (s₁.setTop (mkF m 28 #[.val (.int p1), .val (.int p2), .val (.int p3), .val (.int p4), .val (.int p5), .val (.int p6), .val (.double (FP.i2d p3)), .second, .val (.double (FP.i2d p4)), .second, .unset, .unset] [])) _
    refine XS.aconstNull X0.here hx rfl (hb hby at_28) ?_
    show Steps p.tables e below (s₁.setTop (mkF m 29 #[.val (.int p1), .val (.int p2), .val (.int p3), .val (.int p4), .val (.int p5), .val (.int p6), .val (.double (FP.i2d p3)), .second, .val (.double (FP.i2d p4)), .second, .unset, .unset] [.null])) _
    refine XS.astore X0.here hx rfl (hb hby at_29) rfl rfl (l' := #[.val (.int p1), .val (.int p2), .val (.int p3), .val (.int p4), .val (.int p5), .val (.int p6), .val (.double (FP.i2d p3)), .second, .val (.double (FP.i2d p4)), .second, .val .null, .unset]) rfl ?_
    show Steps p.tables e below (s₁.setTop (mkF m 31 #[.val (.int p1), .val (.int p2), .val (.int p3), .val (.int p4), .val (.int p5), .val (.int p6), .val (.double (FP.i2d p3)), .second, .val (.double (FP.i2d p4)), .second, .val .null, .unset] [])) _
    refine XS.iloadN X0.here hx rfl (hb hby at_31) rfl ?_
    show Steps p.tables e below (s₁.setTop (mkF m 32 #[.val (.int p1), .val (.int p2), .val (.int p3), .val (.int p4), .val (.int p5), .val (.int p6), .val (.double (FP.i2d p3)), .second, .val (.double (FP.i2d p4)), .second, .val .null, .unset] [(.int p1)])) _
    refine XS.iloadN X0.here hx rfl (hb hby at_32) rfl ?_
    show Steps p.tables e below (s₁.setTop (mkF m 33 #[.val (.int p1), .val (.int p2), .val (.int p3), .val (.int p4), .val (.int p5), .val (.int p6), .val (.double (FP.i2d p3)), .second, .val (.double (FP.i2d p4)), .second, .val .null, .unset] [(.int p2), (.int p1)])) _
    refine XS.dload X0.here hx rfl (hb hby at_33) rfl ?_
    show Steps p.tables e below (s₁.setTop (mkF m 35 #[.val (.int p1), .val (.int p2), .val (.int p3), .val (.int p4), .val (.int p5), .val (.int p6), .val (.double (FP.i2d p3)), .second, .val (.double (FP.i2d p4)), .second, .val .null, .unset] [(.double (FP.i2d p3)), (.int p2), (.int p1)])) _
    refine XS.dload X0.here hx rfl (hb hby at_35) rfl ?_
    show Steps p.tables e below (s₁.setTop (mkF m 37 #[.val (.int p1), .val (.int p2), .val (.int p3), .val (.int p4), .val (.int p5), .val (.int p6), .val (.double (FP.i2d p3)), .second, .val (.double (FP.i2d p4)), .second, .val .null, .unset] [(.double (FP.i2d p4)), (.double (FP.i2d p3)), (.int p2), (.int p1)])) _
    refine st1 _ ?_
    show Steps p.tables e below (T1.setTop (mkF m 40 #[.val (.int p1), .val (.int p2), .val (.int p3), .val (.int p4), .val (.int p5), .val (.int p6), .val (.double (FP.i2d p3)), .second, .val (.double (FP.i2d p4)), .second, .val .null, .unset] [(.ref bp)])) _
    refine XS.astore X1.here hx rfl (hb hby at_40) rfl rfl (l' := #[.val (.int p1), .val (.int p2), .val (.int p3), .val (.int p4), .val (.int p5), .val (.int p6), .val (.double (FP.i2d p3)), .second, .val (.double (FP.i2d p4)), .second, .val .null, .val (.ref bp)]) rfl ?_
    show Steps p.tables e below (T1.setTop (mkF m 42 #[.val (.int p1), .val (.int p2), .val (.int p3), .val (.int p4), .val (.int p5), .val (.int p6), .val (.double (FP.i2d p3)), .second, .val (.double (FP.i2d p4)), .second, .val .null, .val (.ref bp)] [])) _
    refine XS.aload X1.here hx rfl (hb hby at_42) rfl rfl ?_
    show Steps p.tables e below (T1.setTop (mkF m 44 #[.val (.int p1), .val (.int p2), .val (.int p3), .val (.int p4), .val (.int p5), .val (.int p6), .val (.double (FP.i2d p3)), .second, .val (.double (FP.i2d p4)), .second, .val .null, .val (.ref bp)] [(.ref bp)])) _
    refine st3.trans ?_
    show Steps p.tables e below (T3.setTop (mkF m 47 #[.val (.int p1), .val (.int p2), .val (.int p3), .val (.int p4), .val (.int p5), .val (.int p6), .val (.double (FP.i2d p3)), .second, .val (.double (FP.i2d p4)), .second, .val .null, .val (.ref bp)] [(.int p1)])) _
    refine XS.iloadN X3.here hx rfl (hb hby at_47) rfl ?_
    show Steps p.tables e below (T3.setTop (mkF m 48 #[.val (.int p1), .val (.int p2), .val (.int p3), .val (.int p4), .val (.int p5), .val (.int p6), .val (.double (FP.i2d p3)), .second, .val (.double (FP.i2d p4)), .second, .val .null, .val (.ref bp)] [(.int p1), (.int p1)])) _
    refine XS.icmpNo X3.here hx rfl (hb hby at_48) rfl (teq (rfl : p1 = p1)).2 ?_
    show Steps p.tables e below (T3.setTop (mkF m 51 #[.val (.int p1), .val (.int p2), .val (.int p3), .val (.int p4), .val (.int p5), .val (.int p6), .val (.double (FP.i2d p3)), .second, .val (.double (FP.i2d p4)), .second, .val .null, .val (.ref bp)] [])) _
    refine XS.aload X3.here hx rfl (hb hby at_51) rfl rfl ?_
    show Steps p.tables e below (T3.setTop (mkF m 53 #[.val (.int p1), .val (.int p2), .val (.int p3), .val (.int p4), .val (.int p5), .val (.int p6), .val (.double (FP.i2d p3)), .second, .val (.double (FP.i2d p4)), .second, .val .null, .val (.ref bp)] [(.ref bp)])) _
    refine st4.trans ?_
    show Steps p.tables e below (T4.setTop (mkF m 56 #[.val (.int p1), .val (.int p2), .val (.int p3), .val (.int p4), .val (.int p5), .val (.int p6), .val (.double (FP.i2d p3)), .second, .val (.double (FP.i2d p4)), .second, .val .null, .val (.ref bp)] [(.int p2)])) _
    refine XS.iloadN X4.here hx rfl (hb hby at_56) rfl ?_
    show Steps p.tables e below (T4.setTop (mkF m 57 #[.val (.int p1), .val (.int p2), .val (.int p3), .val (.int p4), .val (.int p5), .val (.int p6), .val (.double (FP.i2d p3)), .second, .val (.double (FP.i2d p4)), .second, .val .null, .val (.ref bp)] [(.int p2), (.int p2)])) _
    refine XS.icmpNo X4.here hx rfl (hb hby at_57) rfl (teq (rfl : p2 = p2)).2 ?_
    show Steps p.tables e below (T4.setTop (mkF m 60 #[.val (.int p1), .val (.int p2), .val (.int p3), .val (.int p4), .val (.int p5), .val (.int p6), .val (.double (FP.i2d p3)), .second, .val (.double (FP.i2d p4)), .second, .val .null, .val (.ref bp)] [])) _
    refine XS.aload X4.here hx rfl (hb hby at_60) rfl rfl ?_
    show Steps p.tables e below (T4.setTop (mkF m 62 #[.val (.int p1), .val (.int p2), .val (.int p3), .val (.int p4), .val (.int p5), .val (.int p6), .val (.double (FP.i2d p3)), .second, .val (.double (FP.i2d p4)), .second, .val .null, .val (.ref bp)] [(.ref bp)])) _
    refine st5.trans ?_
    show Steps p.tables e below (T5.setTop (mkF m 65 #[.val (.int p1), .val (.int p2), .val (.int p3), .val (.int p4), .val (.int p5), .val (.int p6), .val (.double (FP.i2d p3)), .second, .val (.double (FP.i2d p4)), .second, .val .null, .val (.ref bp)] [(.double (FP.i2d p3))])) _
    refine XS.dload X5.here hx rfl (hb hby at_65) rfl ?_
    show Steps p.tables e below (T5.setTop (mkF m 67 #[.val (.int p1), .val (.int p2), .val (.int p3), .val (.int p4), .val (.int p5), .val (.int p6), .val (.double (FP.i2d p3)), .second, .val (.double (FP.i2d p4)), .second, .val .null, .val (.ref bp)] [(.double (FP.i2d p3)), (.double (FP.i2d p3))])) _
    refine XS.dcmpS X5.here hx rfl (hb hby at_67) rfl (dcmpV_self (i2d_fin p3).noNaN _) ?_
    show Steps p.tables e below (T5.setTop (mkF m 68 #[.val (.int p1), .val (.int p2), .val (.int p3), .val (.int p4), .val (.int p5), .val (.int p6), .val (.double (FP.i2d p3)), .second, .val (.double (FP.i2d p4)), .second, .val .null, .val (.ref bp)] [(.int (0 : Int32))])) _
    refine XS.ifNo X5.here hx rfl (hb hby at_68) rfl ((if0 _ _).trans (teq (by decide : (0 : Int32) = (0 : Int32))).2) ?_
    show Steps p.tables e below (T5.setTop (mkF m 71 #[.val (.int p1), .val (.int p2), .val (.int p3), .val (.int p4), .val (.int p5), .val (.int p6), .val (.double (FP.i2d p3)), .second, .val (.double (FP.i2d p4)), .second, .val .null, .val (.ref bp)] [])) _
    refine XS.aload X5.here hx rfl (hb hby at_71) rfl rfl ?_
    show Steps p.tables e below (T5.setTop (mkF m 73 #[.val (.int p1), .val (.int p2), .val (.int p3), .val (.int p4), .val (.int p5), .val (.int p6), .val (.double (FP.i2d p3)), .second, .val (.double (FP.i2d p4)), .second, .val .null, .val (.ref bp)] [(.ref bp)])) _
    refine st6.trans ?_
    show Steps p.tables e below (T6.setTop (mkF m 76 #[.val (.int p1), .val (.int p2), .val (.int p3), .val (.int p4), .val (.int p5), .val (.int p6), .val (.double (FP.i2d p3)), .second, .val (.double (FP.i2d p4)), .second, .val .null, .val (.ref bp)] [(.double (FP.i2d p4))])) _
    refine XS.dload X6.here hx rfl (hb hby at_76) rfl ?_
    show Steps p.tables e below (T6.setTop (mkF m 78 #[.val (.int p1), .val (.int p2), .val (.int p3), .val (.int p4), .val (.int p5), .val (.int p6), .val (.double (FP.i2d p3)), .second, .val (.double (FP.i2d p4)), .second, .val .null, .val (.ref bp)] [(.double (FP.i2d p4)), (.double (FP.i2d p4))])) _
    refine XS.dcmpS X6.here hx rfl (hb hby at_78) rfl (dcmpV_self (i2d_fin p4).noNaN _) ?_
    show Steps p.tables e below (T6.setTop (mkF m 79 #[.val (.int p1), .val (.int p2), .val (.int p3), .val (.int p4), .val (.int p5), .val (.int p6), .val (.double (FP.i2d p3)), .second, .val (.double (FP.i2d p4)), .second, .val .null, .val (.ref bp)] [(.int (0 : Int32))])) _
    refine XS.ifNo X6.here hx rfl (hb hby at_79) rfl ((if0 _ _).trans (teq (by decide : (0 : Int32) = (0 : Int32))).2) ?_
    show Steps p.tables e below (T6.setTop (mkF m 82 #[.val (.int p1), .val (.int p2), .val (.int p3), .val (.int p4), .val (.int p5), .val (.int p6), .val (.double (FP.i2d p3)), .second, .val (.double (FP.i2d p4)), .second, .val .null, .val (.ref bp)] [])) _
    refine XS.aload X6.here hx rfl (hb hby at_82) rfl rfl ?_
    show Steps p.tables e below (T6.setTop (mkF m 84 #[.val (.int p1), .val (.int p2), .val (.int p3), .val (.int p4), .val (.int p5), .val (.int p6), .val (.double (FP.i2d p3)), .second, .val (.double (FP.i2d p4)), .second, .val .null, .val (.ref bp)] [(.ref bp)])) _
    refine st7.trans ?_
    show Steps p.tables e below (T7.setTop (mkF m 87 #[.val (.int p1), .val (.int p2), .val (.int p3), .val (.int p4), .val (.int p5), .val (.int p6), .val (.double (FP.i2d p3)), .second, .val (.double (FP.i2d p4)), .second, .val .null, .val (.ref bp)] [(.int (0 : Int32))])) _
    refine XS.ifNo X7.here hx rfl (hb hby at_87) rfl ((if0 _ _).trans (teq (by decide : (0 : Int32) = (0 : Int32))).2) ?_
    show Steps p.tables e below (T7.setTop (mkF m 90 #[.val (.int p1), .val (.int p2), .val (.int p3), .val (.int p4), .val (.int p5), .val (.int p6), .val (.double (FP.i2d p3)), .second, .val (.double (FP.i2d p4)), .second, .val .null, .val (.ref bp)] [])) _
    refine XS.aload X7.here hx rfl (hb hby at_90) rfl rfl ?_
    show Steps p.tables e below (T7.setTop (mkF m 92 #[.val (.int p1), .val (.int p2), .val (.int p3), .val (.int p4), .val (.int p5), .val (.int p6), .val (.double (FP.i2d p3)), .second, .val (.double (FP.i2d p4)), .second, .val .null, .val (.ref bp)] [(.ref bp)])) _
    refine XS.aload X7.here hx rfl (hb hby at_92) rfl rfl ?_
    show Steps p.tables e below (T7.setTop (mkF m 94 #[.val (.int p1), .val (.int p2), .val (.int p3), .val (.int p4), .val (.int p5), .val (.int p6), .val (.double (FP.i2d p3)), .second, .val (.double (FP.i2d p4)), .second, .val .null, .val (.ref bp)] [.null, (.ref bp)])) _
    refine st8.trans ?_
    show Steps p.tables e below (T8.setTop (mkF m 97 #[.val (.int p1), .val (.int p2), .val (.int p3), .val (.int p4), .val (.int p5), .val (.int p6), .val (.double (FP.i2d p3)), .second, .val (.double (FP.i2d p4)), .second, .val .null, .val (.ref bp)] [.null])) _
    refine XS.ifnonnullNo X8.here hx rfl (hb hby at_97) rfl ?_
    show Steps p.tables e below (T8.setTop (mkF m 100 #[.val (.int p1), .val (.int p2), .val (.int p3), .val (.int p4), .val (.int p5), .val (.int p6), .val (.double (FP.i2d p3)), .second, .val (.double (FP.i2d p4)), .second, .val .null, .val (.ref bp)] [])) _
    refine XS.iconst X8.here hx rfl (hb hby at_100) ?_
    show Steps p.tables e below (T8.setTop (mkF m 101 #[.val (.int p1), .val (.int p2), .val (.int p3), .val (.int p4), .val (.int p5), .val (.int p6), .val (.double (FP.i2d p3)), .second, .val (.double (FP.i2d p4)), .second, .val .null, .val (.ref bp)] [(.int (1 : Int32))])) _
    refine XS.goto X8.here hx rfl (pc0 := 101) (pc' := 105) rfl (hb hby at_101) (by decide) (by decide) ?_
    show Steps p.tables e below (T8.setTop (mkF m 105 #[.val (.int p1), .val (.int p2), .val (.int p3), .val (.int p4), .val (.int p5), .val (.int p6), .val (.double (FP.i2d p3)), .second, .val (.double (FP.i2d p4)), .second, .val .null, .val (.ref bp)] [(.int (1 : Int32))])) _
    exact retOut X8 hx (t := .boolean) (i := .ireturn) Bd.returns rfl (Or.inl ⟨rfl, Or.inr (Or.inl rfl), _, rfl⟩) (hb hby at_105) hr
  · show Q_law0 Z p1 p2 p3 p4 p5 p6 h0 n0 _ T8.heap _
    rw [e8]
    exact ⟨rfl, N8⟩
theorem pd_28ILcom2fexample2fkerbline2fkerbline2fgraph2fTrail3b29V : parseMethodDescriptor "(ILcom/example/kerbline/kerbline/graph/Trail;)V" = some ⟨[.int, (.object "com/example/kerbline/kerbline/graph/Trail")], none⟩ := by decide +kernel
theorem ef_law1 (m : MethodId) (x0 : Int32) (x1 : Int32) (x2 : Int32) (x3 : Int32) (x4 : Int32) (x5 : Int32) : entryFrame m #[(.int x0), (.int x1), (.int x2), (.int x3), (.int x4), (.int x5)] maxLocals = mkF m 0 #[.val (.int x0), .val (.int x1), .val (.int x2), .val (.int x3), .val (.int x4), .val (.int x5), .unset, .unset, .unset, .unset, .unset, .unset] [] := by first | (simp [entryFrame, mkF, argsToLocals, Value.category, maxLocals]; done) | rfl
def Q_law1 (Z : State) (p1 : Int32) (p2 : Int32) (p3 : Int32) (p4 : Int32) (p5 : Int32) (p6 : Int32) (h0 : Heap) (n0 : Nat) (v : Option Value) (h : Heap) (L : List Loc) : Prop := v = some (.int (1 : Int32)) ∧ Fr n0 L
set_option maxRecDepth 65536 in
set_option maxHeartbeats 40000000 in
theorem rm_law1 (l : Launch) (Z : State) (a0 : Array Value) (hw : ∀ d ∈ tables_1, d.before a0 Z = true) (ws : List Jvm.Cond) (p1 : Int32) (p2 : Int32) (p3 : Int32) (p4 : Int32) (p5 : Int32) (p6 : Int32) (h0 : Heap) (n0 : Nat) (Z0 : n0 ≤ h0.size) (hc12 : ¬ ((p6 &&& (1 : Int32)) = (0 : Int32))) :
    MetFree l x (head1 (Jvm.Cond.code x code maxLocals ret :: ws) room_1) (fun a U => a = #[(.int p1), (.int p2), (.int p3), (.int p4), (.int p5), (.int p6)] ∧ Z.Warmed39 U.vm ∧ U.heap = h0) (fun _ _ _ _ _ => True) (fun _ U o U' => ∃ v L, o = .returned v ∧ Q_law1 Z p1 p2 p3 p4 p5 p6 h0 n0 v U'.heap L ∧ FrameEnd U o U' L room_1.cells room_1.slots) := by
  refine MetFree.of_bodySF (plainFor_of_name pn_com_example_kerbline_kerbline_graph_PathEdgeUnroutedPinLaw) hisR ?_
  intro p e s m args below meth c s₁ Bd hml0 hP hK
  obtain ⟨rfl, hZ, hh⟩ := hP
  have hx := Bd.exec
  have hby := Bd.bytes
  have hml : c.maxLocals = 12 := hml0
  have hown : s.vm.findClass "com/example/kerbline/kerbline/graph/PathEdgeUnroutedPinLaw" = some m.cls := findClass_of_methodNamed Bd.named
  have hnm := (name_of_methodNamed Bd.named Bd.method).1
  have X0 : Stand p l e room_1 s m #[(.int p1), (.int p2), (.int p3), (.int p4), (.int p5), (.int p6)] below meth c s₁ [] 0 0 := Stand.of_body Bd
  have e0 : s₁.heap = h0 := by rw [← hh, Bd.state]; rfl
  have N0 := Fr.nil n0
  have P0 : Keep h0 h0 [] := Keep.refl _ _
  have pre0 : ∀ t, Steps p.tables e below (s₁.setTop (mkF m 0 #[.val (.int p1), .val (.int p2), .val (.int p3), .val (.int p4), .val (.int p5), .val (.int p6), .unset, .unset, .unset, .unset, .unset, .unset] [])) t → Steps p.tables e below (s₁.setTop (entryFrame m #[(.int p1), (.int p2), (.int p3), (.int p4), (.int p5), (.int p6)] maxLocals)) t := fun t k => castTop (ef_law1 m p1 p2 p3 p4 p5 p6) k
  obtain ⟨T1, h1, X1, e1, E1, A1, D1, -, st1⟩ := newO X0 hx hZ hown (hw _ (List.mem_of_getElem? (i := 0) rfl)) (hw _ (List.mem_of_getElem? (i := 1) rfl)) (hw _ (List.mem_of_getElem? (i := 2) rfl)) e0 (g := (mkF m 15 #[.val (.int p1), .val (.int p2), .val (.int p3), .val (.int p4), .val (.int p5), .val (.int p6), .val (.double (FP.i2d p3)), .second, .val (.double (FP.i2d p4)), .second, .unset, .unset] [])) rfl (hb hby at_15) (by decide) (by decide)
  obtain ⟨bt, g1⟩ : ∃ z, z = h0.size := ⟨_, rfl⟩
  rw [← g1] at A1 D1 st1
  have ge_bt : n0 ≤ bt := Nat.le_trans (Nat.le_trans Z0 P0.1) (Nat.le_of_eq g1.symm)
  have sz_bt : h0.size ≤ bt := Nat.le_trans P0.1 (Nat.le_of_eq g1.symm)
  have P2 : Keep h0 h1 [] := P0.ext E1
  have F3 : Fld Z h1 bt "com/example/kerbline/kerbline/graph/Trail" "edge" "I" (.int (0 : Int32)) := D1 (Or.inr (hw _ (List.mem_of_getElem? (i := 21) rfl))) (ty := .int) (by decide)
  have F4 : Fld Z h1 bt "com/example/kerbline/kerbline/graph/Trail" "before" "Lcom/example/kerbline/kerbline/graph/Trail;" .null := D1 (Or.inr (hw _ (List.mem_of_getElem? (i := 23) rfl))) (ty := (.object "com/example/kerbline/kerbline/graph/Trail")) (by decide)
  have F5 : Fld Z h1 bt "com/example/kerbline/kerbline/graph/Trail" "length" "I" (.int (0 : Int32)) := D1 (Or.inr (hw _ (List.mem_of_getElem? (i := 25) rfl))) (ty := .int) (by decide)
  obtain ⟨_, _, ⟨T6, L6, k6, n6⟩, -, X6, ⟨Lc6, hQ6, l6, y6, z6⟩, st6⟩ := X1.specialBack hx (y := (⟨"com/example/kerbline/kerbline/graph/Trail", "<init>", "(ILcom/example/kerbline/kerbline/graph/Trail;)V"⟩ : MethodName)) rfl hown (mvT hZ (hw _ (List.mem_of_getElem? (i := 3) rfl))) (mvT hZ (hw _ (List.mem_of_getElem? (i := 4) rfl))) (mvT hZ (hw _ (List.mem_of_getElem? (i := 5) rfl))) (by decide) (backOf (W := 1) (rm_tr2 l Z a0 hw [] bt p5 (.int (0 : Int32)) .null (.int (0 : Int32)) h1 n0 (Nat.le_trans Z0 P2.1) A1 F3 F4 F5 ge_bt) hZ (hw _ (List.mem_of_getElem? (i := 5) rfl)) (hw _ (List.mem_of_getElem? (i := 2) rfl)) (by decide) (by decide)) (g := (mkF m 22 #[.val (.int p1), .val (.int p2), .val (.int p3), .val (.int p4), .val (.int p5), .val (.int p6), .val (.double (FP.i2d p3)), .second, .val (.double (FP.i2d p4)), .second, .unset, .unset] [.null, (.int p5), (.ref bt), (.ref bt)])) rfl (by rw [hml]; rfl) (Steps.refl _) (a := bt) (argsL := [(.int p5), .null]) (rest := [(.ref bt)]) (lenOf pd_28ILcom2fexample2fkerbline2fkerbline2fgraph2fTrail3b29V rfl) rfl (by show 2 * 0 + _ ≤ _; exact Nat.le_of_eq rfl) (hb hby at_22) (fun _ _ => ⟨rfl, e1, (by decide : 1 + 0 ≤ _), (by decide : 3 + 0 ≤ _)⟩)
  dsimp only [Pt.U, Pt.locs, Pt.cells, Pt.slots] at X6 l6 y6 z6 st6 hQ6
  subst l6 y6 z6
  obtain ⟨rfl, N6q, K6, r6_0⟩ := hQ6
  have N6 := Fr.app N0 N6q
  have P7 : Keep h0 T6.heap [] := P2.trans K6 (allS (Or.inr sz_bt) all0)
  obtain ⟨_, _, ⟨T8, L8, k8, n8⟩, -, X8, ⟨Lc8, hQ8, l8, y8, z8⟩, st8⟩ := Jvm.LawKit.callS X6 hx (y := (⟨"com/example/kerbline/kerbline/graph/PathEdge", "unrouted", "(IIDD)Lcom/example/kerbline/kerbline/graph/PathEdge;"⟩ : MethodName)) hown (mvT hZ (hw _ (List.mem_of_getElem? (i := 26) rfl))) (mvT hZ (hw _ (List.mem_of_getElem? (i := 27) rfl))) (mvT hZ (hw _ (List.mem_of_getElem? (i := 28) rfl))) (mvT hZ (hw _ (List.mem_of_getElem? (i := 29) rfl))) (by decide) (backOf (W := 0) (rm_unr l Z a0 hw [] p1 p2 (FP.i2d p3) (FP.i2d p4) T6.heap n0 (Nat.le_trans Z0 P7.1) ) hZ (hw _ (List.mem_of_getElem? (i := 29) rfl)) (hw _ (List.mem_of_getElem? (i := 28) rfl)) (by decide) (by decide)) (g := (mkF m 37 #[.val (.int p1), .val (.int p2), .val (.int p3), .val (.int p4), .val (.int p5), .val (.int p6), .val (.double (FP.i2d p3)), .second, .val (.double (FP.i2d p4)), .second, .val (.ref bt), .unset] [(.double (FP.i2d p4)), (.double (FP.i2d p3)), (.int p2), (.int p1)])) rfl (by rw [hml]; rfl) (argsL := [(.int p1), (.int p2), (.double (FP.i2d p3)), (.double (FP.i2d p4))]) (rest := []) (lenOf pd_28IIDD29Lcom2fexample2fkerbline2fkerbline2fgraph2fPathEdge3b rfl) rfl (by show 2 * 0 + _ ≤ _; exact Nat.le_of_eq rfl) (hb hby at_37) (fun _ _ => ⟨rfl, rfl, (by decide : 1 + 1 ≤ _), (by decide : 3 + 7 ≤ _)⟩)
  dsimp only [Pt.U, Pt.locs, Pt.cells, Pt.slots] at X8 l8 y8 z8 st8 hQ8
  subst l8 y8 z8
  obtain ⟨bp, rfl, N8q, K8, r8_0, r8_1, r8_2, r8_3, r8_4, r8_5, r8_6, r8_7, r8_8, r8_9⟩ := hQ8
  have N8 := Fr.app N6 N8q
  have ne_bt_bp : bt ≠ bp := Nat.ne_of_lt (Nat.lt_of_lt_of_le r6_0.lt r8_0)
  have ge_bp : n0 ≤ bp := Nat.le_trans (Nat.le_trans Z0 P7.1) r8_0
  have sz_bp : h0.size ≤ bp := Nat.le_trans P7.1 r8_0
  have P9 : Keep h0 T8.heap [] := P7.trans K8 all0
  obtain ⟨cq10, kq10, q10a, q10b, q10c⟩ := isOf hZ rfl r8_2
  obtain ⟨_, _, ⟨T10, L10, k10, n10⟩, -, X10, ⟨Lc10, hQ10, l10, y10, z10⟩, st10⟩ := X8.virtualBack hx (y := (⟨"com/example/kerbline/kerbline/graph/PathEdge", "edge", "()I"⟩ : MethodName)) (z := (⟨"com/example/kerbline/kerbline/graph/PathEdge", "edge", "()I"⟩ : MethodName)) hown (mvT hZ (hw _ (List.mem_of_getElem? (i := 50) rfl))) (mvT hZ (hw _ (List.mem_of_getElem? (i := 51) rfl))) (notFace_of_selects (args := #[]) (mvT hZ (hw _ (List.mem_of_getElem? (i := 53) rfl)))) (mvT hZ (hw _ (List.mem_of_getElem? (i := 53) rfl))) (mvT hZ (hw _ (List.mem_of_getElem? (i := 52) rfl))) (by decide) (backOf (W := 0) (rm_ged l Z a0 hw [] bp p1 T8.heap n0 (Nat.le_trans Z0 P9.1) r8_3) hZ (hw _ (List.mem_of_getElem? (i := 54) rfl)) (hw _ (List.mem_of_getElem? (i := 28) rfl)) (by decide) (by decide)) q10a q10c (g := (mkF m 44 #[.val (.int p1), .val (.int p2), .val (.int p3), .val (.int p4), .val (.int p5), .val (.int p6), .val (.double (FP.i2d p3)), .second, .val (.double (FP.i2d p4)), .second, .val (.ref bt), .val (.ref bp)] [(.ref bp)])) rfl (by rw [hml]; rfl) (Steps.refl _) (argsL := []) (rest := []) (lenOf pd_2829I rfl) rfl (by show 2 * 0 + _ ≤ _; exact Nat.le_of_eq rfl) (hb hby at_44) (fun _ _ => ⟨rfl, rfl, (by decide : 2 + 0 ≤ _), (by decide : 10 + 0 ≤ _)⟩)
  dsimp only [Pt.U, Pt.locs, Pt.cells, Pt.slots] at X10 l10 y10 z10 st10 hQ10
  subst l10 y10 z10
  obtain ⟨rfl, N10q, e10⟩ := hQ10
  have N10 := Fr.app N8 N10q
  obtain ⟨cq11, kq11, q11a, q11b, q11c⟩ := isOf hZ e10 r8_2
  obtain ⟨_, _, ⟨T11, L11, k11, n11⟩, -, X11, ⟨Lc11, hQ11, l11, y11, z11⟩, st11⟩ := X10.virtualBack hx (y := (⟨"com/example/kerbline/kerbline/graph/PathEdge", "sense", "()I"⟩ : MethodName)) (z := (⟨"com/example/kerbline/kerbline/graph/PathEdge", "sense", "()I"⟩ : MethodName)) hown (mvT hZ (hw _ (List.mem_of_getElem? (i := 55) rfl))) (mvT hZ (hw _ (List.mem_of_getElem? (i := 56) rfl))) (notFace_of_selects (args := #[]) (mvT hZ (hw _ (List.mem_of_getElem? (i := 58) rfl)))) (mvT hZ (hw _ (List.mem_of_getElem? (i := 58) rfl))) (mvT hZ (hw _ (List.mem_of_getElem? (i := 57) rfl))) (by decide) (backOf (W := 0) (rm_gse l Z a0 hw [] bp p2 T8.heap n0 (Nat.le_trans Z0 P9.1) r8_4) hZ (hw _ (List.mem_of_getElem? (i := 59) rfl)) (hw _ (List.mem_of_getElem? (i := 28) rfl)) (by decide) (by decide)) q11a q11c (g := (mkF m 53 #[.val (.int p1), .val (.int p2), .val (.int p3), .val (.int p4), .val (.int p5), .val (.int p6), .val (.double (FP.i2d p3)), .second, .val (.double (FP.i2d p4)), .second, .val (.ref bt), .val (.ref bp)] [(.ref bp)])) rfl (by rw [hml]; rfl) (Steps.refl _) (argsL := []) (rest := []) (lenOf pd_2829I rfl) rfl (by show 2 * 0 + _ ≤ _; exact Nat.le_of_eq rfl) (hb hby at_53) (fun _ _ => ⟨rfl, e10, (by decide : 2 + 0 ≤ _), (by decide : 10 + 0 ≤ _)⟩)
  dsimp only [Pt.U, Pt.locs, Pt.cells, Pt.slots] at X11 l11 y11 z11 st11 hQ11
  subst l11 y11 z11
  obtain ⟨rfl, N11q, e11⟩ := hQ11
  have N11 := Fr.app N10 N11q
  obtain ⟨cq12, kq12, q12a, q12b, q12c⟩ := isOf hZ e11 r8_2
  obtain ⟨_, _, ⟨T12, L12, k12, n12⟩, -, X12, ⟨Lc12, hQ12, l12, y12, z12⟩, st12⟩ := X11.virtualBack hx (y := (⟨"com/example/kerbline/kerbline/graph/PathEdge", "origin", "()D"⟩ : MethodName)) (z := (⟨"com/example/kerbline/kerbline/graph/PathEdge", "origin", "()D"⟩ : MethodName)) hown (mvT hZ (hw _ (List.mem_of_getElem? (i := 60) rfl))) (mvT hZ (hw _ (List.mem_of_getElem? (i := 61) rfl))) (notFace_of_selects (args := #[]) (mvT hZ (hw _ (List.mem_of_getElem? (i := 63) rfl)))) (mvT hZ (hw _ (List.mem_of_getElem? (i := 63) rfl))) (mvT hZ (hw _ (List.mem_of_getElem? (i := 62) rfl))) (by decide) (backOf (W := 0) (rm_gor l Z a0 hw [] bp (FP.i2d p3) T8.heap n0 (Nat.le_trans Z0 P9.1) r8_5) hZ (hw _ (List.mem_of_getElem? (i := 64) rfl)) (hw _ (List.mem_of_getElem? (i := 28) rfl)) (by decide) (by decide)) q12a q12c (g := (mkF m 62 #[.val (.int p1), .val (.int p2), .val (.int p3), .val (.int p4), .val (.int p5), .val (.int p6), .val (.double (FP.i2d p3)), .second, .val (.double (FP.i2d p4)), .second, .val (.ref bt), .val (.ref bp)] [(.ref bp)])) rfl (by rw [hml]; rfl) (Steps.refl _) (argsL := []) (rest := []) (lenOf pd_2829D rfl) rfl (by show 2 * 0 + _ ≤ _; exact Nat.le_of_eq rfl) (hb hby at_62) (fun _ _ => ⟨rfl, e11, (by decide : 2 + 0 ≤ _), (by decide : 10 + 0 ≤ _)⟩)
  dsimp only [Pt.U, Pt.locs, Pt.cells, Pt.slots] at X12 l12 y12 z12 st12 hQ12
  subst l12 y12 z12
  obtain ⟨rfl, N12q, e12⟩ := hQ12
  have N12 := Fr.app N11 N12q
  obtain ⟨cq13, kq13, q13a, q13b, q13c⟩ := isOf hZ e12 r8_2
  obtain ⟨_, _, ⟨T13, L13, k13, n13⟩, -, X13, ⟨Lc13, hQ13, l13, y13, z13⟩, st13⟩ := X12.virtualBack hx (y := (⟨"com/example/kerbline/kerbline/graph/PathEdge", "probability", "()D"⟩ : MethodName)) (z := (⟨"com/example/kerbline/kerbline/graph/PathEdge", "probability", "()D"⟩ : MethodName)) hown (mvT hZ (hw _ (List.mem_of_getElem? (i := 65) rfl))) (mvT hZ (hw _ (List.mem_of_getElem? (i := 66) rfl))) (notFace_of_selects (args := #[]) (mvT hZ (hw _ (List.mem_of_getElem? (i := 68) rfl)))) (mvT hZ (hw _ (List.mem_of_getElem? (i := 68) rfl))) (mvT hZ (hw _ (List.mem_of_getElem? (i := 67) rfl))) (by decide) (backOf (W := 0) (rm_gpr l Z a0 hw [] bp (FP.i2d p4) T8.heap n0 (Nat.le_trans Z0 P9.1) r8_6) hZ (hw _ (List.mem_of_getElem? (i := 69) rfl)) (hw _ (List.mem_of_getElem? (i := 28) rfl)) (by decide) (by decide)) q13a q13c (g := (mkF m 73 #[.val (.int p1), .val (.int p2), .val (.int p3), .val (.int p4), .val (.int p5), .val (.int p6), .val (.double (FP.i2d p3)), .second, .val (.double (FP.i2d p4)), .second, .val (.ref bt), .val (.ref bp)] [(.ref bp)])) rfl (by rw [hml]; rfl) (Steps.refl _) (argsL := []) (rest := []) (lenOf pd_2829D rfl) rfl (by show 2 * 0 + _ ≤ _; exact Nat.le_of_eq rfl) (hb hby at_73) (fun _ _ => ⟨rfl, e12, (by decide : 2 + 0 ≤ _), (by decide : 10 + 0 ≤ _)⟩)
  dsimp only [Pt.U, Pt.locs, Pt.cells, Pt.slots] at X13 l13 y13 z13 st13 hQ13
  subst l13 y13 z13
  obtain ⟨rfl, N13q, e13⟩ := hQ13
  have N13 := Fr.app N12 N13q
  obtain ⟨cq14, kq14, q14a, q14b, q14c⟩ := isOf hZ e13 r8_2
  obtain ⟨_, _, ⟨T14, L14, k14, n14⟩, -, X14, ⟨Lc14, hQ14, l14, y14, z14⟩, st14⟩ := X13.virtualBack hx (y := (⟨"com/example/kerbline/kerbline/graph/PathEdge", "routed", "()Z"⟩ : MethodName)) (z := (⟨"com/example/kerbline/kerbline/graph/PathEdge", "routed", "()Z"⟩ : MethodName)) hown (mvT hZ (hw _ (List.mem_of_getElem? (i := 70) rfl))) (mvT hZ (hw _ (List.mem_of_getElem? (i := 71) rfl))) (notFace_of_selects (args := #[]) (mvT hZ (hw _ (List.mem_of_getElem? (i := 73) rfl)))) (mvT hZ (hw _ (List.mem_of_getElem? (i := 73) rfl))) (mvT hZ (hw _ (List.mem_of_getElem? (i := 72) rfl))) (by decide) (backOf (W := 0) (rm_gro l Z a0 hw [] bp T8.heap n0 (Nat.le_trans Z0 P9.1) r8_9) hZ (hw _ (List.mem_of_getElem? (i := 74) rfl)) (hw _ (List.mem_of_getElem? (i := 28) rfl)) (by decide) (by decide)) q14a q14c (g := (mkF m 84 #[.val (.int p1), .val (.int p2), .val (.int p3), .val (.int p4), .val (.int p5), .val (.int p6), .val (.double (FP.i2d p3)), .second, .val (.double (FP.i2d p4)), .second, .val (.ref bt), .val (.ref bp)] [(.ref bp)])) rfl (by rw [hml]; rfl) (Steps.refl _) (argsL := []) (rest := []) (lenOf pd_2829Z rfl) rfl (by show 2 * 0 + _ ≤ _; exact Nat.le_of_eq rfl) (hb hby at_84) (fun _ _ => ⟨rfl, e13, (by decide : 2 + 0 ≤ _), (by decide : 10 + 0 ≤ _)⟩)
  dsimp only [Pt.U, Pt.locs, Pt.cells, Pt.slots] at X14 l14 y14 z14 st14 hQ14
  subst l14 y14 z14
  obtain ⟨rfl, N14q, e14⟩ := hQ14
  have N14 := Fr.app N13 N14q
  obtain ⟨cq15, kq15, q15a, q15b, q15c⟩ := isOf hZ e14 r8_2
  obtain ⟨_, _, ⟨T15, L15, k15, n15⟩, -, X15, ⟨Lc15, hQ15, l15, y15, z15⟩, st15⟩ := X14.virtualBack hx (y := (⟨"com/example/kerbline/kerbline/graph/PathEdge", "trailFrom", "(Lcom/example/kerbline/kerbline/graph/Trail;)Lcom/example/kerbline/kerbline/graph/Trail;"⟩ : MethodName)) (z := (⟨"com/example/kerbline/kerbline/graph/PathEdge", "trailFrom", "(Lcom/example/kerbline/kerbline/graph/Trail;)Lcom/example/kerbline/kerbline/graph/Trail;"⟩ : MethodName)) hown (mvT hZ (hw _ (List.mem_of_getElem? (i := 75) rfl))) (mvT hZ (hw _ (List.mem_of_getElem? (i := 76) rfl))) (notFace_of_selects (args := #[]) (mvT hZ (hw _ (List.mem_of_getElem? (i := 78) rfl)))) (mvT hZ (hw _ (List.mem_of_getElem? (i := 78) rfl))) (mvT hZ (hw _ (List.mem_of_getElem? (i := 77) rfl))) (by decide) (backOf (W := 0) (rm_tfr l Z a0 hw [] bp bt T8.heap n0 (Nat.le_trans Z0 P9.1) r8_8 r8_7) hZ (hw _ (List.mem_of_getElem? (i := 79) rfl)) (hw _ (List.mem_of_getElem? (i := 28) rfl)) (by decide) (by decide)) q15a q15c (g := (mkF m 94 #[.val (.int p1), .val (.int p2), .val (.int p3), .val (.int p4), .val (.int p5), .val (.int p6), .val (.double (FP.i2d p3)), .second, .val (.double (FP.i2d p4)), .second, .val (.ref bt), .val (.ref bp)] [(.ref bt), (.ref bp)])) rfl (by rw [hml]; rfl) (Steps.refl _) (argsL := [(.ref bt)]) (rest := []) (lenOf pd_28Lcom2fexample2fkerbline2fkerbline2fgraph2fTrail3b29Lcom2fexample2fkerbline2fkerbline2fgraph2fTrail3b rfl) rfl (by show 2 * 0 + _ ≤ _; exact Nat.le_of_eq rfl) (hb hby at_94) (fun _ _ => ⟨rfl, e14, (by decide : 2 + 0 ≤ _), (by decide : 10 + 0 ≤ _)⟩)
  dsimp only [Pt.U, Pt.locs, Pt.cells, Pt.slots] at X15 l15 y15 z15 st15 hQ15
  subst l15 y15 z15
  obtain ⟨rfl, N15q, e15⟩ := hQ15
  have N15 := Fr.app N14 N15q
  obtain ⟨fs, hr, hrun, hended, hW, hsame⟩ := X15.leave (v := some (.int (1 : Int32))) (fun h => by rw [Bd.returns] at h; cases h)
  refine ⟨_, _, pre0 _ ?_, hrun, hended, _, _, rfl, ?_, ⟨_, rfl⟩, hW, hsame.mono (by decide) (by decide)⟩
  · show Steps p.tables e below (s₁.setTop (mkF m 0 #[.val (.int p1), .val (.int p2), .val (.int p3), .val (.int p4), .val (.int p5), .val (.int p6), .unset, .unset, .unset, .unset, .unset, .unset] [])) _
    refine XS.iloadN X0.here hx rfl (hb hby at_0) rfl ?_
    show Steps p.tables e below (s₁.setTop (mkF m 1 #[.val (.int p1), .val (.int p2), .val (.int p3), .val (.int p4), .val (.int p5), .val (.int p6), .unset, .unset, .unset, .unset, .unset, .unset] [(.int p3)])) _
    refine XS.i2dS X0.here hx rfl (hb hby at_1) rfl rfl ?_
    show Steps p.tables e below (s₁.setTop (mkF m 2 #[.val (.int p1), .val (.int p2), .val (.int p3), .val (.int p4), .val (.int p5), .val (.int p6), .unset, .unset, .unset, .unset, .unset, .unset] [(.double (FP.i2d p3))])) _
    refine XS.dstore X0.here hx rfl (hb hby at_2) rfl (l' := #[.val (.int p1), .val (.int p2), .val (.int p3), .val (.int p4), .val (.int p5), .val (.int p6), .val (.double (FP.i2d p3)), .second, .unset, .unset, .unset, .unset]) rfl ?_
    show Steps p.tables e below (s₁.setTop (mkF m 4 #[.val (.int p1), .val (.int p2), .val (.int p3), .val (.int p4), .val (.int p5), .val (.int p6), .val (.double (FP.i2d p3)), .second, .unset, .unset, .unset, .unset] [])) _
    refine XS.iloadN X0.here hx rfl (hb hby at_4) rfl ?_
    show Steps p.tables e below (s₁.setTop (mkF m 5 #[.val (.int p1), .val (.int p2), .val (.int p3), .val (.int p4), .val (.int p5), .val (.int p6), .val (.double (FP.i2d p3)), .second, .unset, .unset, .unset, .unset] [(.int p4)])) _
    refine XS.i2dS X0.here hx rfl (hb hby at_5) rfl rfl ?_
    show Steps p.tables e below (s₁.setTop (mkF m 6 #[.val (.int p1), .val (.int p2), .val (.int p3), .val (.int p4), .val (.int p5), .val (.int p6), .val (.double (FP.i2d p3)), .second, .unset, .unset, .unset, .unset] [(.double (FP.i2d p4))])) _
    refine XS.dstore X0.here hx rfl (hb hby at_6) rfl (l' := #[.val (.int p1), .val (.int p2), .val (.int p3), .val (.int p4), .val (.int p5), .val (.int p6), .val (.double (FP.i2d p3)), .second, .val (.double (FP.i2d p4)), .second, .unset, .unset]) rfl ?_
    show Steps p.tables e below (s₁.setTop (mkF m 8 #[.val (.int p1), .val (.int p2), .val (.int p3), .val (.int p4), .val (.int p5), .val (.int p6), .val (.double (FP.i2d p3)), .second, .val (.double (FP.i2d p4)), .second, .unset, .unset] [])) _
    refine XS.iload X0.here hx rfl (hb hby at_8) rfl ?_
    show Steps p.tables e below (s₁.setTop (mkF m 10 #[.val (.int p1), .val (.int p2), .val (.int p3), .val (.int p4), .val (.int p5), .val (.int p6), .val (.double (FP.i2d p3)), .second, .val (.double (FP.i2d p4)), .second, .unset, .unset] [(.int p6)])) _
    refine XS.iconst X0.here hx rfl (hb hby at_10) ?_
    show Steps p.tables e below (s₁.setTop (mkF m 11 #[.val (.int p1), .val (.int p2), .val (.int p3), .val (.int p4), .val (.int p5), .val (.int p6), .val (.double (FP.i2d p3)), .second, .val (.double (FP.i2d p4)), .second, .unset, .unset] [(.int (1 : Int32)), (.int p6)])) _
    refine XS.iand X0.here hx rfl (hb hby at_11) rfl ?_
    show Steps p.tables e below (s₁.setTop (mkF m 12 #[.val (.int p1), .val (.int p2), .val (.int p3), .val (.int p4), .val (.int p5), .val (.int p6), .val (.double (FP.i2d p3)), .second, .val (.double (FP.i2d p4)), .second, .unset, .unset] [(.int (p6 &&& (1 : Int32)))])) _
    refine XS.ifNo X0.here hx rfl (hb hby at_12) rfl ((if0 _ _).trans (feq (hc12 : ¬ ((p6 &&& (1 : Int32)) = (0 : Int32)))).1) ?_
    show Steps p.tables e below (s₁.setTop (mkF m 15 #[.val (.int p1), .val (.int p2), .val (.int p3), .val (.int p4), .val (.int p5), .val (.int p6), .val (.double (FP.i2d p3)), .second, .val (.double (FP.i2d p4)), .second, .unset, .unset] [])) _
    refine st1 _ ?_
    show Steps p.tables e below (T1.setTop (mkF m 18 #[.val (.int p1), .val (.int p2), .val (.int p3), .val (.int p4), .val (.int p5), .val (.int p6), .val (.double (FP.i2d p3)), .second, .val (.double (FP.i2d p4)), .second, .unset, .unset] [(.ref bt)])) _
    refine XS.dup X1.here hx rfl (hb hby at_18) rfl rfl ?_
    show Steps p.tables e below (T1.setTop (mkF m 19 #[.val (.int p1), .val (.int p2), .val (.int p3), .val (.int p4), .val (.int p5), .val (.int p6), .val (.double (FP.i2d p3)), .second, .val (.double (FP.i2d p4)), .second, .unset, .unset] [(.ref bt), (.ref bt)])) _
    refine XS.iload X1.here hx rfl (hb hby at_19) rfl ?_
    show Steps p.tables e below (T1.setTop (mkF m 21 #[.val (.int p1), .val (.int p2), .val (.int p3), .val (.int p4), .val (.int p5), .val (.int p6), .val (.double (FP.i2d p3)), .second, .val (.double (FP.i2d p4)), .second, .unset, .unset] [(.int p5), (.ref bt), (.ref bt)])) _
    refine XS.aconstNull X1.here hx rfl (hb hby at_21) ?_
    show Steps p.tables e below (T1.setTop (mkF m 22 #[.val (.int p1), .val (.int p2), .val (.int p3), .val (.int p4), .val (.int p5), .val (.int p6), .val (.double (FP.i2d p3)), .second, .val (.double (FP.i2d p4)), .second, .unset, .unset] [.null, (.int p5), (.ref bt), (.ref bt)])) _
    refine st6.trans ?_
    show Steps p.tables e below (T6.setTop (mkF m 25 #[.val (.int p1), .val (.int p2), .val (.int p3), .val (.int p4), .val (.int p5), .val (.int p6), .val (.double (FP.i2d p3)), .second, .val (.double (FP.i2d p4)), .second, .unset, .unset] [(.ref bt)])) _
    refine XS.goto X6.here hx rfl (pc0 := 25) (pc' := 29) rfl (hb hby at_25) (by decide) (by decide) ?_
    show Steps p.tables e below (T6.setTop (mkF m 29 #[.val (.int p1), .val (.int p2), .val (.int p3), .val (.int p4), .val (.int p5), .val (.int p6), .val (.double (FP.i2d p3)), .second, .val (.double (FP.i2d p4)), .second, .unset, .unset] [(.ref bt)])) _
    refine XS.astore X6.here hx rfl (hb hby at_29) rfl rfl (l' := #[.val (.int p1), .val (.int p2), .val (.int p3), .val (.int p4), .val (.int p5), .val (.int p6), .val (.double (FP.i2d p3)), .second, .val (.double (FP.i2d p4)), .second, .val (.ref bt), .unset]) rfl ?_
    show Steps p.tables e below (T6.setTop (mkF m 31 #[.val (.int p1), .val (.int p2), .val (.int p3), .val (.int p4), .val (.int p5), .val (.int p6), .val (.double (FP.i2d p3)), .second, .val (.double (FP.i2d p4)), .second, .val (.ref bt), .unset] [])) _
    refine XS.iloadN X6.here hx rfl (hb hby at_31) rfl ?_
    show Steps p.tables e below (T6.setTop (mkF m 32 #[.val (.int p1), .val (.int p2), .val (.int p3), .val (.int p4), .val (.int p5), .val (.int p6), .val (.double (FP.i2d p3)), .second, .val (.double (FP.i2d p4)), .second, .val (.ref bt), .unset] [(.int p1)])) _
    refine XS.iloadN X6.here hx rfl (hb hby at_32) rfl ?_
    show Steps p.tables e below (T6.setTop (mkF m 33 #[.val (.int p1), .val (.int p2), .val (.int p3), .val (.int p4), .val (.int p5), .val (.int p6), .val (.double (FP.i2d p3)), .second, .val (.double (FP.i2d p4)), .second, .val (.ref bt), .unset] [(.int p2), (.int p1)])) _
    refine XS.dload X6.here hx rfl (hb hby at_33) rfl ?_
    show Steps p.tables e below (T6.setTop (mkF m 35 #[.val (.int p1), .val (.int p2), .val (.int p3), .val (.int p4), .val (.int p5), .val (.int p6), .val (.double (FP.i2d p3)), .second, .val (.double (FP.i2d p4)), .second, .val (.ref bt), .unset] [(.double (FP.i2d p3)), (.int p2), (.int p1)])) _
    refine XS.dload X6.here hx rfl (hb hby at_35) rfl ?_
    show Steps p.tables e below (T6.setTop (mkF m 37 #[.val (.int p1), .val (.int p2), .val (.int p3), .val (.int p4), .val (.int p5), .val (.int p6), .val (.double (FP.i2d p3)), .second, .val (.double (FP.i2d p4)), .second, .val (.ref bt), .unset] [(.double (FP.i2d p4)), (.double (FP.i2d p3)), (.int p2), (.int p1)])) _
    refine st8 _ ?_
    show Steps p.tables e below (T8.setTop (mkF m 40 #[.val (.int p1), .val (.int p2), .val (.int p3), .val (.int p4), .val (.int p5), .val (.int p6), .val (.double (FP.i2d p3)), .second, .val (.double (FP.i2d p4)), .second, .val (.ref bt), .unset] [(.ref bp)])) _
    refine XS.astore X8.here hx rfl (hb hby at_40) rfl rfl (l' := #[.val (.int p1), .val (.int p2), .val (.int p3), .val (.int p4), .val (.int p5), .val (.int p6), .val (.double (FP.i2d p3)), .second, .val (.double (FP.i2d p4)), .second, .val (.ref bt), .val (.ref bp)]) rfl ?_
    show Steps p.tables e below (T8.setTop (mkF m 42 #[.val (.int p1), .val (.int p2), .val (.int p3), .val (.int p4), .val (.int p5), .val (.int p6), .val (.double (FP.i2d p3)), .second, .val (.double (FP.i2d p4)), .second, .val (.ref bt), .val (.ref bp)] [])) _
    refine XS.aload X8.here hx rfl (hb hby at_42) rfl rfl ?_
    show Steps p.tables e below (T8.setTop (mkF m 44 #[.val (.int p1), .val (.int p2), .val (.int p3), .val (.int p4), .val (.int p5), .val (.int p6), .val (.double (FP.i2d p3)), .second, .val (.double (FP.i2d p4)), .second, .val (.ref bt), .val (.ref bp)] [(.ref bp)])) _
    refine st10.trans ?_
    show Steps p.tables e below (T10.setTop (mkF m 47 #[.val (.int p1), .val (.int p2), .val (.int p3), .val (.int p4), .val (.int p5), .val (.int p6), .val (.double (FP.i2d p3)), .second, .val (.double (FP.i2d p4)), .second, .val (.ref bt), .val (.ref bp)] [(.int p1)])) _
    refine XS.iloadN X10.here hx rfl (hb hby at_47) rfl ?_
    show Steps p.tables e below (T10.setTop (mkF m 48 #[.val (.int p1), .val (.int p2), .val (.int p3), .val (.int p4), .val (.int p5), .val (.int p6), .val (.double (FP.i2d p3)), .second, .val (.double (FP.i2d p4)), .second, .val (.ref bt), .val (.ref bp)] [(.int p1), (.int p1)])) _
    refine XS.icmpNo X10.here hx rfl (hb hby at_48) rfl (teq (rfl : p1 = p1)).2 ?_
    show Steps p.tables e below (T10.setTop (mkF m 51 #[.val (.int p1), .val (.int p2), .val (.int p3), .val (.int p4), .val (.int p5), .val (.int p6), .val (.double (FP.i2d p3)), .second, .val (.double (FP.i2d p4)), .second, .val (.ref bt), .val (.ref bp)] [])) _
    refine XS.aload X10.here hx rfl (hb hby at_51) rfl rfl ?_
    show Steps p.tables e below (T10.setTop (mkF m 53 #[.val (.int p1), .val (.int p2), .val (.int p3), .val (.int p4), .val (.int p5), .val (.int p6), .val (.double (FP.i2d p3)), .second, .val (.double (FP.i2d p4)), .second, .val (.ref bt), .val (.ref bp)] [(.ref bp)])) _
    refine st11.trans ?_
    show Steps p.tables e below (T11.setTop (mkF m 56 #[.val (.int p1), .val (.int p2), .val (.int p3), .val (.int p4), .val (.int p5), .val (.int p6), .val (.double (FP.i2d p3)), .second, .val (.double (FP.i2d p4)), .second, .val (.ref bt), .val (.ref bp)] [(.int p2)])) _
    refine XS.iloadN X11.here hx rfl (hb hby at_56) rfl ?_
    show Steps p.tables e below (T11.setTop (mkF m 57 #[.val (.int p1), .val (.int p2), .val (.int p3), .val (.int p4), .val (.int p5), .val (.int p6), .val (.double (FP.i2d p3)), .second, .val (.double (FP.i2d p4)), .second, .val (.ref bt), .val (.ref bp)] [(.int p2), (.int p2)])) _
    refine XS.icmpNo X11.here hx rfl (hb hby at_57) rfl (teq (rfl : p2 = p2)).2 ?_
    show Steps p.tables e below (T11.setTop (mkF m 60 #[.val (.int p1), .val (.int p2), .val (.int p3), .val (.int p4), .val (.int p5), .val (.int p6), .val (.double (FP.i2d p3)), .second, .val (.double (FP.i2d p4)), .second, .val (.ref bt), .val (.ref bp)] [])) _
    refine XS.aload X11.here hx rfl (hb hby at_60) rfl rfl ?_
    show Steps p.tables e below (T11.setTop (mkF m 62 #[.val (.int p1), .val (.int p2), .val (.int p3), .val (.int p4), .val (.int p5), .val (.int p6), .val (.double (FP.i2d p3)), .second, .val (.double (FP.i2d p4)), .second, .val (.ref bt), .val (.ref bp)] [(.ref bp)])) _
    refine st12.trans ?_
    show Steps p.tables e below (T12.setTop (mkF m 65 #[.val (.int p1), .val (.int p2), .val (.int p3), .val (.int p4), .val (.int p5), .val (.int p6), .val (.double (FP.i2d p3)), .second, .val (.double (FP.i2d p4)), .second, .val (.ref bt), .val (.ref bp)] [(.double (FP.i2d p3))])) _
    refine XS.dload X12.here hx rfl (hb hby at_65) rfl ?_
    show Steps p.tables e below (T12.setTop (mkF m 67 #[.val (.int p1), .val (.int p2), .val (.int p3), .val (.int p4), .val (.int p5), .val (.int p6), .val (.double (FP.i2d p3)), .second, .val (.double (FP.i2d p4)), .second, .val (.ref bt), .val (.ref bp)] [(.double (FP.i2d p3)), (.double (FP.i2d p3))])) _
    refine XS.dcmpS X12.here hx rfl (hb hby at_67) rfl (dcmpV_self (i2d_fin p3).noNaN _) ?_
    show Steps p.tables e below (T12.setTop (mkF m 68 #[.val (.int p1), .val (.int p2), .val (.int p3), .val (.int p4), .val (.int p5), .val (.int p6), .val (.double (FP.i2d p3)), .second, .val (.double (FP.i2d p4)), .second, .val (.ref bt), .val (.ref bp)] [(.int (0 : Int32))])) _
    refine XS.ifNo X12.here hx rfl (hb hby at_68) rfl ((if0 _ _).trans (teq (by decide : (0 : Int32) = (0 : Int32))).2) ?_
    show Steps p.tables e below (T12.setTop (mkF m 71 #[.val (.int p1), .val (.int p2), .val (.int p3), .val (.int p4), .val (.int p5), .val (.int p6), .val (.double (FP.i2d p3)), .second, .val (.double (FP.i2d p4)), .second, .val (.ref bt), .val (.ref bp)] [])) _
    refine XS.aload X12.here hx rfl (hb hby at_71) rfl rfl ?_
    show Steps p.tables e below (T12.setTop (mkF m 73 #[.val (.int p1), .val (.int p2), .val (.int p3), .val (.int p4), .val (.int p5), .val (.int p6), .val (.double (FP.i2d p3)), .second, .val (.double (FP.i2d p4)), .second, .val (.ref bt), .val (.ref bp)] [(.ref bp)])) _
    refine st13.trans ?_
    show Steps p.tables e below (T13.setTop (mkF m 76 #[.val (.int p1), .val (.int p2), .val (.int p3), .val (.int p4), .val (.int p5), .val (.int p6), .val (.double (FP.i2d p3)), .second, .val (.double (FP.i2d p4)), .second, .val (.ref bt), .val (.ref bp)] [(.double (FP.i2d p4))])) _
    refine XS.dload X13.here hx rfl (hb hby at_76) rfl ?_
    show Steps p.tables e below (T13.setTop (mkF m 78 #[.val (.int p1), .val (.int p2), .val (.int p3), .val (.int p4), .val (.int p5), .val (.int p6), .val (.double (FP.i2d p3)), .second, .val (.double (FP.i2d p4)), .second, .val (.ref bt), .val (.ref bp)] [(.double (FP.i2d p4)), (.double (FP.i2d p4))])) _
    refine XS.dcmpS X13.here hx rfl (hb hby at_78) rfl (dcmpV_self (i2d_fin p4).noNaN _) ?_
    show Steps p.tables e below (T13.setTop (mkF m 79 #[.val (.int p1), .val (.int p2), .val (.int p3), .val (.int p4), .val (.int p5), .val (.int p6), .val (.double (FP.i2d p3)), .second, .val (.double (FP.i2d p4)), .second, .val (.ref bt), .val (.ref bp)] [(.int (0 : Int32))])) _
    refine XS.ifNo X13.here hx rfl (hb hby at_79) rfl ((if0 _ _).trans (teq (by decide : (0 : Int32) = (0 : Int32))).2) ?_
    show Steps p.tables e below (T13.setTop (mkF m 82 #[.val (.int p1), .val (.int p2), .val (.int p3), .val (.int p4), .val (.int p5), .val (.int p6), .val (.double (FP.i2d p3)), .second, .val (.double (FP.i2d p4)), .second, .val (.ref bt), .val (.ref bp)] [])) _
    refine XS.aload X13.here hx rfl (hb hby at_82) rfl rfl ?_
    show Steps p.tables e below (T13.setTop (mkF m 84 #[.val (.int p1), .val (.int p2), .val (.int p3), .val (.int p4), .val (.int p5), .val (.int p6), .val (.double (FP.i2d p3)), .second, .val (.double (FP.i2d p4)), .second, .val (.ref bt), .val (.ref bp)] [(.ref bp)])) _
    refine st14.trans ?_
    show Steps p.tables e below (T14.setTop (mkF m 87 #[.val (.int p1), .val (.int p2), .val (.int p3), .val (.int p4), .val (.int p5), .val (.int p6), .val (.double (FP.i2d p3)), .second, .val (.double (FP.i2d p4)), .second, .val (.ref bt), .val (.ref bp)] [(.int (0 : Int32))])) _
    refine XS.ifNo X14.here hx rfl (hb hby at_87) rfl ((if0 _ _).trans (teq (by decide : (0 : Int32) = (0 : Int32))).2) ?_
    show Steps p.tables e below (T14.setTop (mkF m 90 #[.val (.int p1), .val (.int p2), .val (.int p3), .val (.int p4), .val (.int p5), .val (.int p6), .val (.double (FP.i2d p3)), .second, .val (.double (FP.i2d p4)), .second, .val (.ref bt), .val (.ref bp)] [])) _
    refine XS.aload X14.here hx rfl (hb hby at_90) rfl rfl ?_
    show Steps p.tables e below (T14.setTop (mkF m 92 #[.val (.int p1), .val (.int p2), .val (.int p3), .val (.int p4), .val (.int p5), .val (.int p6), .val (.double (FP.i2d p3)), .second, .val (.double (FP.i2d p4)), .second, .val (.ref bt), .val (.ref bp)] [(.ref bp)])) _
    refine XS.aload X14.here hx rfl (hb hby at_92) rfl rfl ?_
    show Steps p.tables e below (T14.setTop (mkF m 94 #[.val (.int p1), .val (.int p2), .val (.int p3), .val (.int p4), .val (.int p5), .val (.int p6), .val (.double (FP.i2d p3)), .second, .val (.double (FP.i2d p4)), .second, .val (.ref bt), .val (.ref bp)] [(.ref bt), (.ref bp)])) _
    refine st15.trans ?_
    show Steps p.tables e below (T15.setTop (mkF m 97 #[.val (.int p1), .val (.int p2), .val (.int p3), .val (.int p4), .val (.int p5), .val (.int p6), .val (.double (FP.i2d p3)), .second, .val (.double (FP.i2d p4)), .second, .val (.ref bt), .val (.ref bp)] [.null])) _
    refine XS.ifnonnullNo X15.here hx rfl (hb hby at_97) rfl ?_
    show Steps p.tables e below (T15.setTop (mkF m 100 #[.val (.int p1), .val (.int p2), .val (.int p3), .val (.int p4), .val (.int p5), .val (.int p6), .val (.double (FP.i2d p3)), .second, .val (.double (FP.i2d p4)), .second, .val (.ref bt), .val (.ref bp)] [])) _
    refine XS.iconst X15.here hx rfl (hb hby at_100) ?_
    show Steps p.tables e below (T15.setTop (mkF m 101 #[.val (.int p1), .val (.int p2), .val (.int p3), .val (.int p4), .val (.int p5), .val (.int p6), .val (.double (FP.i2d p3)), .second, .val (.double (FP.i2d p4)), .second, .val (.ref bt), .val (.ref bp)] [(.int (1 : Int32))])) _
    refine XS.goto X15.here hx rfl (pc0 := 101) (pc' := 105) rfl (hb hby at_101) (by decide) (by decide) ?_
    show Steps p.tables e below (T15.setTop (mkF m 105 #[.val (.int p1), .val (.int p2), .val (.int p3), .val (.int p4), .val (.int p5), .val (.int p6), .val (.double (FP.i2d p3)), .second, .val (.double (FP.i2d p4)), .second, .val (.ref bt), .val (.ref bp)] [(.int (1 : Int32))])) _
    exact retOut X15 hx (t := .boolean) (i := .ireturn) Bd.returns rfl (Or.inl ⟨rfl, Or.inr (Or.inl rfl), _, rfl⟩) (hb hby at_105) hr
  · show Q_law1 Z p1 p2 p3 p4 p5 p6 h0 n0 _ T15.heap _
    rw [e15]
    exact ⟨rfl, N15⟩
set_option maxRecDepth 65536 in
set_option maxHeartbeats 40000000 in
theorem comes_1 {Post : Tables → Env → Array Value → State → Outcome → State → Prop} (hpost : ∀ tb e args s v u, (limb_1_1.after args s (.returned v) u = true ∧ limb_1_2.after args s (.returned v) u = true ∧ True) → FrameEnd s (.returned v) u (Jvm.fieldLocs frame_1_writes args s ++ Jvm.arrayLocs frame_1_arrays args s ++ Jvm.staticLocs frame_1_statics s) 16 128 → Post tb e args s (.returned v) u) :
    ArmFor flags0 classFile x code maxLocals ret World_1 tables_1 room_1 Calls_1 rest_1 Pre_1 Post := by
  intro l hfl _ _ p e ha hc hk s m args below hf hA hF happ hP
  obtain ⟨hcalls, hrest, hpre⟩ := hP
  obtain ⟨-, -, -, hnamed, -, -, -, hat⟩ := (Spec.applies_iff hf).mp happ
  obtain ⟨hg, hn⟩ := and_e (Cond.before_iff.mp (show (Jvm.Cond.and given_1 narrow_1).before args s = true from hpre))
  obtain ⟨g0, r0⟩ := and_e hg
  obtain ⟨g1, r1⟩ := and_e r0
  obtain ⟨g2, r2⟩ := and_e r1
  obtain ⟨g3, r3⟩ := and_e r2
  obtain ⟨g4, r4⟩ := and_e r3
  obtain ⟨g5, r5⟩ := and_e r4
  obtain ⟨w0, w1, w2, w3, w4, w5, rfl⟩ : ∃ w0 w1 w2 w3 w4 w5 : Value, args = #[w0, w1, w2, w3, w4, w5] := by
    have hs : args.size = 6 := by simpa [Cond.value, given_1] using g0
    obtain ⟨L⟩ := args
    match L, hs with
    | [w0, w1, w2, w3, w4, w5], _ => exact ⟨w0, w1, w2, w3, w4, w5, rfl⟩
  have hw := fun d (hd : d ∈ tables_1) => atoms_spec (ws := Jvm.Cond.code x code maxLocals ret :: tables_1) hat d (List.mem_cons_of_mem _ hd)
  obtain ⟨i0, q0⟩ := is_v g1
  obtain rfl : w0 = (.int i0) := Option.some.inj q0
  obtain ⟨i1, q1⟩ := is_v g2
  obtain rfl : w1 = (.int i1) := Option.some.inj q1
  obtain ⟨i2, q2⟩ := is_v g3
  obtain rfl : w2 = (.int i2) := Option.some.inj q2
  obtain ⟨i3, q3⟩ := is_v g4
  obtain rfl : w3 = (.int i3) := Option.some.inj q3
  obtain ⟨i4, q4⟩ := is_v g5
  obtain rfl : w4 = (.int i4) := Option.some.inj q4
  obtain ⟨i5, q5⟩ := is_v r5
  obtain rfl : w5 = (.int i5) := Option.some.inj q5
  by_cases hc12 : (i5 &&& (1 : Int32)) = (0 : Int32)
  · obtain ⟨n, o, h1, h2, h3, _, L, rfl, ⟨rfl, N⟩, hq⟩ := rm_law0 l s _ hw tables_1 i0 i1 i2 i3 i4 i5 s.heap s.heap.size (Nat.le_refl _) hc12 p e ha hc hk s m _ below hf ((Spec.applies_iff_loose hf).mp happ).1 ⟨rfl, State.Warmed39.refl s, rfl⟩ trivial
    refine ⟨n, _, h1, h2, h3, hpost _ _ _ _ _ _ ⟨Cond.after_iff.mpr rfl, Cond.after_iff.mpr (eq_i res_at (Term.int_eval (1)) rfl), trivial⟩ ⟨hq.1, hq.2.1, (hq.2.2.sift fun y hy => Or.inr (N y hy)).mono (by decide) (by decide)⟩⟩
  · obtain ⟨n, o, h1, h2, h3, _, L, rfl, ⟨rfl, N⟩, hq⟩ := rm_law1 l s _ hw tables_1 i0 i1 i2 i3 i4 i5 s.heap s.heap.size (Nat.le_refl _) hc12 p e ha hc hk s m _ below hf ((Spec.applies_iff_loose hf).mp happ).1 ⟨rfl, State.Warmed39.refl s, rfl⟩ trivial
    refine ⟨n, _, h1, h2, h3, hpost _ _ _ _ _ _ ⟨Cond.after_iff.mpr rfl, Cond.after_iff.mpr (eq_i res_at (Term.int_eval (1)) rfl), trivial⟩ ⟨hq.1, hq.2.1, (hq.2.2.sift fun y hy => Or.inr (N y hy)).mono (by decide) (by decide)⟩⟩
theorem main_1_1 : Claimed_1_1 := comes_1 fun _ _ _ _ _ _ h hF => ⟨h.1, hF⟩
theorem main_1_2 : Claimed_1_2 := comes_1 fun _ _ _ _ _ _ h hF => ⟨h.2.1, hF⟩
end Jvm.Pilot.@@N@@
namespace Jvm.Pilot.@@N@@
open Jvm Jvm.ClassFile Sem Op Lib Jvm.Free Jvm.Stand Jvm.Pilot.@@N@@.Jvm.D
/-! MADE BY PROGRAM (witnessworld.py) out of the Statement's table words and the real class files: 11 classes; the members and pool entries that the words name. The judged class is class 1, her method 1. -/
namespace start1
open Jvm.ClassFile
def u (s : String) : CpInfo := .utf8 (stringToUtf16 s)
/-- a pool by its gaps: so many unusable entries, then the entry; so many at the end -/
def gap : Nat → List CpInfo → List CpInfo
  | 0, r => r
  | n + 1, r => .unusable :: gap n r
def poolList (es : List (Nat × CpInfo)) (last : Nat) : List CpInfo := es.foldr (fun e r => gap e.1 (e.2 :: r)) (gap last [])
def pool (es : List (Nat × CpInfo)) (last : Nat) : Array CpInfo := ⟨poolList es last⟩
def fileOf (pool : Array CpInfo) (this : Nat) (attrs : Array Attribute := #[]) (ms : Array MethodInfo := #[]) (fl : Nat := 33) (sup : Nat := 0) (ifs : Array Nat := #[]) (fds : Array FieldInfo := #[]) : ClassFile where
  minorVersion := 0
  majorVersion := 65
  constantPool := pool
  accessFlags := fl
  thisClass := this
  superClass := sup
  interfaces := ifs
  fields := fds
  methods := ms
  attributes := attrs
def plain (name : String) (sup : Option ClassId) : Class where
  name := name
  kind := .ordinary
  loader := none
  accessFlags := 33
  super := sup
  interfaces := #[]
  cf := none
  fields := #[]
  methods := #[]
  instanceTypes := #[]
  staticTypes := #[]
  resolved := #[]
  callSites := []
  init := .initialized
  statics := none
  mirror := none

def pool0 : Array CpInfo := pool [(5, u "<init>"), (0, u "()V"), (1, .class_ 10), (1, u "java/lang/Object")] 113

def k0c0 : Code := { maxStack := 0, maxLocals := 1, code := object_method_1_code, exceptionTable := #[], attributes := #[] }
def k0m0 : Method := { name := "<init>", desc := "()V", sig := { parameters := [], returnType := none }, accessFlags := 1, code := some k0c0 }
/-- java/lang/Object -/
def k0 : Class := { plain "java/lang/Object" none with
  accessFlags := 33
  interfaces := #[]
  cf := some (fileOf pool0 8 #[] #[{ accessFlags := 1, nameIndex := 5, descriptorIndex := 6, attributes := #[] }] 33 0 #[] #[])
  fields := #[]
  methods := #[k0m0]
  instanceTypes := #[]
  staticTypes := #[]
  resolved := Array.replicate 124 none
  statics := none }

def pool1 : Array CpInfo := pool [(2, .class_ 4), (1, u "java/lang/Object"), (0, u "<init>"), (0, u "()V"), (0, .class_ 8), (0, u "com/example/kerbline/kerbline/graph/Trail"), (0, .methodref 7 10), (0, .nameAndType 5 11), (0, u "(ILcom/example/kerbline/kerbline/graph/Trail;)V"), (0, .methodref 13 14), (0, .class_ 15), (0, .nameAndType 16 17), (0, u "com/example/kerbline/kerbline/graph/PathEdge"), (0, u "unrouted"), (0, u "(IIDD)Lcom/example/kerbline/kerbline/graph/PathEdge;"), (0, .methodref 13 19), (0, .nameAndType 20 21), (0, u "edge"), (0, u "()I"), (0, .methodref 13 23), (0, .nameAndType 24 21), (0, u "sense"), (0, .methodref 13 26), (0, .nameAndType 27 28), (0, u "origin"), (0, u "()D"), (0, .methodref 13 30), (0, .nameAndType 31 28), (0, u "probability"), (0, .methodref 13 33), (0, .nameAndType 34 35), (0, u "routed"), (0, u "()Z"), (0, .methodref 13 37), (0, .nameAndType 38 39), (0, u "trailFrom"), (0, u "(Lcom/example/kerbline/kerbline/graph/Trail;)Lcom/example/kerbline/kerbline/graph/Trail;"), (0, .class_ 41), (0, u "com/example/kerbline/kerbline/graph/PathEdgeUnroutedPinLaw"), (2, u "law"), (0, u "(IIIIII)Z")] 3

def k1m0 : Method := { name := "<init>", desc := "()V", sig := { parameters := [], returnType := none }, accessFlags := 1, code := none }
def k1c1 : Code := { maxStack := 6, maxLocals := 12, code := code, exceptionTable := #[], attributes := #[] }
def k1m1 : Method := { name := "law", desc := "(IIIIII)Z", sig := { parameters := [.int, .int, .int, .int, .int, .int], returnType := some .boolean }, accessFlags := 9, code := some k1c1 }
/-- com/example/kerbline/kerbline/graph/PathEdgeUnroutedPinLaw -/
def k1 : Class := { plain "com/example/kerbline/kerbline/graph/PathEdgeUnroutedPinLaw" (some 0) with
  accessFlags := 49
  interfaces := #[]
  cf := some (fileOf pool1 40 #[] #[{ accessFlags := 1, nameIndex := 5, descriptorIndex := 6, attributes := #[] }, { accessFlags := 9, nameIndex := 44, descriptorIndex := 45, attributes := #[] }] 49 2 #[] #[])
  fields := #[]
  methods := #[k1m0, k1m1]
  instanceTypes := #[]
  staticTypes := #[]
  resolved := Array.replicate 49 none
  statics := none }

def pool2 : Array CpInfo := pool [(1, .methodref 2 3), (0, .class_ 4), (0, .nameAndType 5 6), (0, u "java/lang/Object"), (0, u "<init>"), (0, u "()V"), (0, .class_ 8), (0, u "java/lang/Record")] 13

def k2c0 : Code := { maxStack := 1, maxLocals := 1, code := jdk_30_method_1_code, exceptionTable := #[], attributes := #[] }
def k2m0 : Method := { name := "<init>", desc := "()V", sig := { parameters := [], returnType := none }, accessFlags := 4, code := some k2c0 }
/-- java/lang/Record -/
def k2 : Class := { plain "java/lang/Record" (some 0) with
  accessFlags := 1057
  interfaces := #[]
  cf := some (fileOf pool2 7 #[] #[{ accessFlags := 4, nameIndex := 5, descriptorIndex := 6, attributes := #[] }] 1057 2 #[] #[])
  fields := #[]
  methods := #[k2m0]
  instanceTypes := #[]
  staticTypes := #[]
  resolved := Array.replicate 22 none
  statics := none }

def pool3 : Array CpInfo := pool [(1, .methodref 2 3), (0, .class_ 4), (0, .nameAndType 5 6), (0, u "java/lang/Record"), (0, u "<init>"), (0, u "()V"), (0, .methodref 8 9), (0, .class_ 10), (0, .nameAndType 11 12), (0, u "com/example/kerbline/kerbline/graph/Trail"), (0, u "lengthOf"), (0, u "(Lcom/example/kerbline/kerbline/graph/Trail;)I"), (9, .fieldref 8 23), (0, .nameAndType 24 25), (0, u "edge"), (0, u "I"), (0, .fieldref 8 27), (0, .nameAndType 28 29), (0, u "before"), (0, u "Lcom/example/kerbline/kerbline/graph/Trail;"), (0, .fieldref 8 31), (0, .nameAndType 32 25), (0, u "length"), (0, .methodref 8 34), (0, .nameAndType 5 35), (0, u "(ILcom/example/kerbline/kerbline/graph/Trail;I)V"), (2, u "(ILcom/example/kerbline/kerbline/graph/Trail;)V"), (11, u "LONGEST")] 42

def k3c0 : Code := { maxStack := 4, maxLocals := 4, code := prog_14_method_1_code, exceptionTable := #[], attributes := #[] }
def k3m0 : Method := { name := "<init>", desc := "(ILcom/example/kerbline/kerbline/graph/Trail;I)V", sig := { parameters := [.int, (.object "com/example/kerbline/kerbline/graph/Trail"), .int], returnType := none }, accessFlags := 1, code := some k3c0 }
def k3c1 : Code := { maxStack := 5, maxLocals := 3, code := prog_14_method_2_code, exceptionTable := #[], attributes := #[] }
def k3m1 : Method := { name := "<init>", desc := "(ILcom/example/kerbline/kerbline/graph/Trail;)V", sig := { parameters := [.int, (.object "com/example/kerbline/kerbline/graph/Trail")], returnType := none }, accessFlags := 1, code := some k3c1 }
def k3c2 : Code := { maxStack := 1, maxLocals := 1, code := prog_14_method_4_code, exceptionTable := #[], attributes := #[] }
def k3m2 : Method := { name := "lengthOf", desc := "(Lcom/example/kerbline/kerbline/graph/Trail;)I", sig := { parameters := [(.object "com/example/kerbline/kerbline/graph/Trail")], returnType := some .int }, accessFlags := 10, code := some k3c2 }
/-- com/example/kerbline/kerbline/graph/Trail -/
def k3 : Class := { plain "com/example/kerbline/kerbline/graph/Trail" (some 2) with
  accessFlags := 49
  interfaces := #[]
  cf := some (fileOf pool3 8 #[] #[{ accessFlags := 1, nameIndex := 5, descriptorIndex := 35, attributes := #[] }, { accessFlags := 1, nameIndex := 5, descriptorIndex := 38, attributes := #[] }, { accessFlags := 10, nameIndex := 11, descriptorIndex := 12, attributes := #[] }] 49 2 #[] #[{ accessFlags := 18, nameIndex := 24, descriptorIndex := 25, attributes := #[] }, { accessFlags := 18, nameIndex := 28, descriptorIndex := 29, attributes := #[] }, { accessFlags := 18, nameIndex := 32, descriptorIndex := 25, attributes := #[] }, { accessFlags := 25, nameIndex := 50, descriptorIndex := 25, attributes := #[] }])
  fields := #[{ name := "edge", type := .int, accessFlags := 18, slot := 0, constantValue := 0 }, { name := "before", type := (.object "com/example/kerbline/kerbline/graph/Trail"), accessFlags := 18, slot := 1, constantValue := 0 }, { name := "length", type := .int, accessFlags := 18, slot := 2, constantValue := 0 }, { name := "LONGEST", type := .int, accessFlags := 25, slot := 0, constantValue := 0 }]
  methods := #[k3m0, k3m1, k3m2]
  instanceTypes := #[.int, (.object "com/example/kerbline/kerbline/graph/Trail"), .int]
  staticTypes := #[.int]
  resolved := Array.replicate 93 none
  statics := none }

def pool4 : Array CpInfo := pool [(1, .methodref 2 3), (0, .class_ 4), (0, .nameAndType 5 6), (0, u "com/example/kerbline/kerbline/graph/PathEdge"), (0, u "<init>"), (0, u "(IIDDLcom/example/kerbline/kerbline/graph/Trail;ZZ)V"), (0, .methodref 8 9), (0, .class_ 10), (0, .nameAndType 5 11), (0, u "java/lang/Object"), (0, u "()V"), (0, .fieldref 2 13), (0, .nameAndType 14 15), (0, u "edge"), (0, u "I"), (0, .fieldref 2 17), (0, .nameAndType 18 15), (0, u "sense"), (0, .fieldref 2 20), (0, .nameAndType 21 22), (0, u "origin"), (0, u "D"), (0, .fieldref 2 24), (0, .nameAndType 25 22), (0, u "probability"), (0, .fieldref 2 27), (0, .nameAndType 28 29), (0, u "trail"), (0, u "Lcom/example/kerbline/kerbline/graph/Trail;"), (0, .fieldref 2 31), (0, .nameAndType 32 33), (0, u "fromStart"), (0, u "Z"), (0, .fieldref 2 35), (0, .nameAndType 36 33), (0, u "routed"), (2, u "SET_OUT"), (8, u "()I"), (12, u "unrouted"), (0, u "(IIDD)Lcom/example/kerbline/kerbline/graph/PathEdge;"), (0, u "()D"), (0, u "trailFrom"), (0, u "(Lcom/example/kerbline/kerbline/graph/Trail;)Lcom/example/kerbline/kerbline/graph/Trail;"), (5, u "()Z")] 5

def k4c0 : Code := { maxStack := 3, maxLocals := 10, code := prog_10_method_2_code, exceptionTable := #[], attributes := #[] }
def k4m0 : Method := { name := "<init>", desc := "(IIDDLcom/example/kerbline/kerbline/graph/Trail;ZZ)V", sig := { parameters := [.int, .int, .double, .double, (.object "com/example/kerbline/kerbline/graph/Trail"), .boolean, .boolean], returnType := none }, accessFlags := 2, code := some k4c0 }
def k4c1 : Code := { maxStack := 11, maxLocals := 6, code := prog_10_method_3_code, exceptionTable := #[], attributes := #[] }
def k4m1 : Method := { name := "unrouted", desc := "(IIDD)Lcom/example/kerbline/kerbline/graph/PathEdge;", sig := { parameters := [.int, .int, .double, .double], returnType := some (.object "com/example/kerbline/kerbline/graph/PathEdge") }, accessFlags := 9, code := some k4c1 }
def k4c2 : Code := { maxStack := 1, maxLocals := 1, code := prog_10_method_4_code, exceptionTable := #[], attributes := #[] }
def k4m2 : Method := { name := "edge", desc := "()I", sig := { parameters := [], returnType := some .int }, accessFlags := 1, code := some k4c2 }
def k4c3 : Code := { maxStack := 1, maxLocals := 1, code := prog_10_method_5_code, exceptionTable := #[], attributes := #[] }
def k4m3 : Method := { name := "sense", desc := "()I", sig := { parameters := [], returnType := some .int }, accessFlags := 1, code := some k4c3 }
def k4c4 : Code := { maxStack := 2, maxLocals := 1, code := prog_10_method_6_code, exceptionTable := #[], attributes := #[] }
def k4m4 : Method := { name := "origin", desc := "()D", sig := { parameters := [], returnType := some .double }, accessFlags := 1, code := some k4c4 }
def k4c5 : Code := { maxStack := 2, maxLocals := 1, code := prog_10_method_7_code, exceptionTable := #[], attributes := #[] }
def k4m5 : Method := { name := "probability", desc := "()D", sig := { parameters := [], returnType := some .double }, accessFlags := 1, code := some k4c5 }
def k4c6 : Code := { maxStack := 3, maxLocals := 10, code := prog_10_method_8_code, exceptionTable := #[], attributes := #[] }
def k4m6 : Method := { name := "trailFrom", desc := "(Lcom/example/kerbline/kerbline/graph/Trail;)Lcom/example/kerbline/kerbline/graph/Trail;", sig := { parameters := [(.object "com/example/kerbline/kerbline/graph/Trail")], returnType := some (.object "com/example/kerbline/kerbline/graph/Trail") }, accessFlags := 1, code := some k4c6 }
def k4c7 : Code := { maxStack := 1, maxLocals := 1, code := prog_10_method_10_code, exceptionTable := #[], attributes := #[] }
def k4m7 : Method := { name := "routed", desc := "()Z", sig := { parameters := [], returnType := some .boolean }, accessFlags := 1, code := some k4c7 }
/-- com/example/kerbline/kerbline/graph/PathEdge -/
def k4 : Class := { plain "com/example/kerbline/kerbline/graph/PathEdge" (some 0) with
  accessFlags := 49
  interfaces := #[]
  cf := some (fileOf pool4 2 #[] #[{ accessFlags := 2, nameIndex := 5, descriptorIndex := 6, attributes := #[] }, { accessFlags := 9, nameIndex := 61, descriptorIndex := 62, attributes := #[] }, { accessFlags := 1, nameIndex := 14, descriptorIndex := 48, attributes := #[] }, { accessFlags := 1, nameIndex := 18, descriptorIndex := 48, attributes := #[] }, { accessFlags := 1, nameIndex := 21, descriptorIndex := 63, attributes := #[] }, { accessFlags := 1, nameIndex := 25, descriptorIndex := 63, attributes := #[] }, { accessFlags := 1, nameIndex := 64, descriptorIndex := 65, attributes := #[] }, { accessFlags := 1, nameIndex := 36, descriptorIndex := 71, attributes := #[] }] 49 8 #[] #[{ accessFlags := 24, nameIndex := 39, descriptorIndex := 29, attributes := #[] }, { accessFlags := 18, nameIndex := 14, descriptorIndex := 15, attributes := #[] }, { accessFlags := 18, nameIndex := 18, descriptorIndex := 15, attributes := #[] }, { accessFlags := 18, nameIndex := 21, descriptorIndex := 22, attributes := #[] }, { accessFlags := 18, nameIndex := 25, descriptorIndex := 22, attributes := #[] }, { accessFlags := 18, nameIndex := 28, descriptorIndex := 29, attributes := #[] }, { accessFlags := 18, nameIndex := 32, descriptorIndex := 33, attributes := #[] }, { accessFlags := 18, nameIndex := 36, descriptorIndex := 33, attributes := #[] }])
  fields := #[{ name := "SET_OUT", type := (.object "com/example/kerbline/kerbline/graph/Trail"), accessFlags := 24, slot := 0, constantValue := 0 }, { name := "edge", type := .int, accessFlags := 18, slot := 0, constantValue := 0 }, { name := "sense", type := .int, accessFlags := 18, slot := 1, constantValue := 0 }, { name := "origin", type := .double, accessFlags := 18, slot := 2, constantValue := 0 }, { name := "probability", type := .double, accessFlags := 18, slot := 3, constantValue := 0 }, { name := "trail", type := (.object "com/example/kerbline/kerbline/graph/Trail"), accessFlags := 18, slot := 4, constantValue := 0 }, { name := "fromStart", type := .boolean, accessFlags := 18, slot := 5, constantValue := 0 }, { name := "routed", type := .boolean, accessFlags := 18, slot := 6, constantValue := 0 }]
  methods := #[k4m0, k4m1, k4m2, k4m3, k4m4, k4m5, k4m6, k4m7]
  instanceTypes := #[.int, .int, .double, .double, (.object "com/example/kerbline/kerbline/graph/Trail"), .boolean, .boolean]
  staticTypes := #[(.object "com/example/kerbline/kerbline/graph/Trail")]
  resolved := Array.replicate 77 none
  statics := none }

def pool5 : Array CpInfo := pool [(1, u "java/lang/Cloneable"), (0, .class_ 1), (0, u "java/lang/Object"), (0, .class_ 3)] 3

/-- java/lang/Cloneable -/
def k5 : Class := { plain "java/lang/Cloneable" (some 0) with
  accessFlags := 1537
  interfaces := #[]
  cf := some (fileOf pool5 2 #[] #[] 1537 4 #[] #[])
  fields := #[]
  methods := #[]
  instanceTypes := #[]
  staticTypes := #[]
  resolved := Array.replicate 8 none
  statics := none }

def pool6 : Array CpInfo := pool [(1, u "java/io/Serializable"), (0, .class_ 1), (0, u "java/lang/Object"), (0, .class_ 3)] 3

/-- java/io/Serializable -/
def k6 : Class := { plain "java/io/Serializable" (some 0) with
  accessFlags := 1537
  interfaces := #[]
  cf := some (fileOf pool6 2 #[] #[] 1537 4 #[] #[])
  fields := #[]
  methods := #[]
  instanceTypes := #[]
  staticTypes := #[]
  resolved := Array.replicate 8 none
  statics := none }

/-- the primitive byte -/
def k7 : Class := { plain "byte" none with kind := .primitive 'B', accessFlags := 0x411 }
/-- [B -/
def k8 : Class := { plain "[B" (some 0) with kind := .array 7 .byte, interfaces := #[5, 6], accessFlags := 1041 }

/-- the primitive int -/
def k9 : Class := { plain "int" none with kind := .primitive 'I', accessFlags := 0x411 }
/-- [I -/
def k10 : Class := { plain "[I" (some 0) with kind := .array 9 .int, interfaces := #[5, 6], accessFlags := 1041 }

def heap : Heap := #[]
def classes : Array Class := #[k0, k1, k2, k3, k4, k5, k6, k7, k8, k9, k10]
def interned : List (Array UInt16 × Addr) := []
def slotsUsed : Nat := 0
def theMethod : MethodId := ⟨1, 1⟩
def args0 : Array Value := #[.int 5, .int 1, .int 3, .int 4, .int 9, .int 1]
def aboutOver (below : List Frame) : State where
  vm := { classes := classes, interned := interned.toArray }
  heap := heap
  slotsUsed := slotsUsed
  threads := #[{ frames := .invoking theMethod args0 :: below }]
def below0 : List Frame := [.native { method := ⟨0, 0⟩, args := #[] }]
def about1 : State := aboutOver below0
def p0 : Program := .bare "" "" ""
def e0 : Env := launch0.env 0 0 0
theorem w_frames : about1.frames = Frame.invoking theMethod args0 :: below0 := rfl
set_option maxRecDepth 65536 in
theorem w_args : argsFit about1.vm theMethod args0 = true := by decide +kernel
set_option maxRecDepth 65536 in
theorem w_heap : heapFits about1 = true := by decide +kernel
set_option maxRecDepth 65536 in
theorem w_runnable : about1.curStatus? = some .runnable := by decide +kernel
set_option maxRecDepth 65536 in
theorem w_alone : about1.alone = true := by decide +kernel
set_option maxRecDepth 65536 in
theorem w_named : about1.methodNamed? x = some theMethod := by decide +kernel
set_option maxRecDepth 65536 in
theorem w_hears : about1.hears theMethod below0 = true := by decide +kernel
set_option maxRecDepth 65536 in
theorem w_ripe : about1.ripe theMethod args0 below0 = true := by decide +kernel
theorem w_running : about1.status = .running := rfl
set_option maxRecDepth 65536 in
theorem w_room : about1.hasRoom e0.platform room_1 = true :=
  launch0.hasRoom_least _ room_1 (by decide +kernel) (by decide +kernel) (by decide +kernel) (by decide +kernel) (by decide +kernel) (by decide +kernel)
theorem allAtoms_all (ts : List Jvm.Cond) (a : Array Jvm.Value) (st : Jvm.State) : (allAtoms ts).before a st = ts.all (fun c => c.before a st) := by
  induction ts with
  | nil => rfl
  | cons c t ih =>
    show (Jvm.Cond.and c (allAtoms t)).before a st = _
    rw [Jvm.Cond.before_and, ih, List.all_cons]
def words1 : List Jvm.Cond := Jvm.Cond.code x code maxLocals ret :: tables_1
/-- a 'code' word, met by the world's own term for the bytes: nothing is compared byte by byte -/
theorem code_word {y : MethodName} {bytes : ByteArray} {mx : Nat} {rt : Option FieldType} {a : Array Value} {s : State} {m : MethodId} {meth : Method} {c : Code} (h1 : s.methodNamed? y = some m) (h2 : s.vm.method? m = some meth) (h3 : meth.code = some c) (h4 : c.code = bytes)
    (h5 : (c.maxLocals == mx && c.exceptionTable.isEmpty && decide (c.maxStack ≤ mostOperands) && decide (meth.sig.returnType = rt) && !meth.locks && decide (parseMethodDescriptor y.desc = some meth.sig)) = true) : (Jvm.Cond.code y bytes mx rt).before a s = true := by
  simp only [Bool.and_eq_true, beq_iff_eq, Bool.not_eq_true', decide_eq_true_eq] at h5
  obtain ⟨⟨⟨⟨⟨g1, g2⟩, g3⟩, g4⟩, g5⟩, g6⟩ := h5
  simp [Cond.before, Cond.holds, Cond.value, h1, h2, h3, h4, g1, g2, g3, g4, g5, g6]
def isCode : Jvm.Cond → Bool
  | .code _ _ _ _ => true
  | _ => false
theorem all_split {L : List Jvm.Cond} {P : Jvm.Cond → Bool} (h1 : L.all (fun c => isCode c || P c) = true) (h2 : ∀ c ∈ L.filter isCode, P c = true) : L.all P = true := by
  refine List.all_eq_true.mpr fun c hc => ?_
  have h := List.all_eq_true.mp h1 c hc
  rcases Bool.eq_false_or_eq_true (isCode c) with hi | hi
  · exact h2 c (List.mem_filter.mpr ⟨hc, hi⟩)
  · simpa [hi] using h
set_option maxRecDepth 65536 in
theorem w_c0 : (Jvm.Cond.code x code maxLocals ret).before args0 about1 = true := code_word (m := ⟨1, 1⟩) (meth := k1m1) (c := k1c1) (by decide +kernel) rfl rfl rfl (by decide +kernel)
set_option maxRecDepth 65536 in
theorem w_c1 : (Jvm.Cond.code ({ cls := "com/example/kerbline/kerbline/graph/Trail", name := "<init>", desc := "(ILcom/example/kerbline/kerbline/graph/Trail;)V" } : Jvm.MethodName) prog_14_method_2_code (3 : Nat) (Option.none : Option Jvm.ClassFile.FieldType)).before args0 about1 = true := code_word (m := ⟨3, 1⟩) (meth := k3m1) (c := k3c1) (by decide +kernel) rfl rfl rfl (by decide +kernel)
set_option maxRecDepth 65536 in
theorem w_c2 : (Jvm.Cond.code ({ cls := "com/example/kerbline/kerbline/graph/Trail", name := "lengthOf", desc := "(Lcom/example/kerbline/kerbline/graph/Trail;)I" } : Jvm.MethodName) prog_14_method_4_code (1 : Nat) (Option.some Jvm.ClassFile.FieldType.int)).before args0 about1 = true := code_word (m := ⟨3, 2⟩) (meth := k3m2) (c := k3c2) (by decide +kernel) rfl rfl rfl (by decide +kernel)
set_option maxRecDepth 65536 in
theorem w_c3 : (Jvm.Cond.code ({ cls := "com/example/kerbline/kerbline/graph/Trail", name := "<init>", desc := "(ILcom/example/kerbline/kerbline/graph/Trail;I)V" } : Jvm.MethodName) prog_14_method_1_code (4 : Nat) (Option.none : Option Jvm.ClassFile.FieldType)).before args0 about1 = true := code_word (m := ⟨3, 0⟩) (meth := k3m0) (c := k3c0) (by decide +kernel) rfl rfl rfl (by decide +kernel)
set_option maxRecDepth 65536 in
theorem w_c4 : (Jvm.Cond.code ({ cls := "java/lang/Record", name := "<init>", desc := "()V" } : Jvm.MethodName) jdk_30_method_1_code (1 : Nat) (Option.none : Option Jvm.ClassFile.FieldType)).before args0 about1 = true := code_word (m := ⟨2, 0⟩) (meth := k2m0) (c := k2c0) (by decide +kernel) rfl rfl rfl (by decide +kernel)
set_option maxRecDepth 65536 in
theorem w_c5 : (Jvm.Cond.code ({ cls := "java/lang/Object", name := "<init>", desc := "()V" } : Jvm.MethodName) object_method_1_code (1 : Nat) (Option.none : Option Jvm.ClassFile.FieldType)).before args0 about1 = true := code_word (m := ⟨0, 0⟩) (meth := k0m0) (c := k0c0) (by decide +kernel) rfl rfl rfl (by decide +kernel)
set_option maxRecDepth 65536 in
theorem w_c6 : (Jvm.Cond.code ({ cls := "com/example/kerbline/kerbline/graph/PathEdge", name := "unrouted", desc := "(IIDD)Lcom/example/kerbline/kerbline/graph/PathEdge;" } : Jvm.MethodName) prog_10_method_3_code (6 : Nat) (Option.some (Jvm.ClassFile.FieldType.object "com/example/kerbline/kerbline/graph/PathEdge"))).before args0 about1 = true := code_word (m := ⟨4, 1⟩) (meth := k4m1) (c := k4c1) (by decide +kernel) rfl rfl rfl (by decide +kernel)
set_option maxRecDepth 65536 in
theorem w_c7 : (Jvm.Cond.code ({ cls := "com/example/kerbline/kerbline/graph/PathEdge", name := "<init>", desc := "(IIDDLcom/example/kerbline/kerbline/graph/Trail;ZZ)V" } : Jvm.MethodName) prog_10_method_2_code (10 : Nat) (Option.none : Option Jvm.ClassFile.FieldType)).before args0 about1 = true := code_word (m := ⟨4, 0⟩) (meth := k4m0) (c := k4c0) (by decide +kernel) rfl rfl rfl (by decide +kernel)
set_option maxRecDepth 65536 in
theorem w_c8 : (Jvm.Cond.code ({ cls := "com/example/kerbline/kerbline/graph/PathEdge", name := "edge", desc := "()I" } : Jvm.MethodName) prog_10_method_4_code (1 : Nat) (Option.some Jvm.ClassFile.FieldType.int)).before args0 about1 = true := code_word (m := ⟨4, 2⟩) (meth := k4m2) (c := k4c2) (by decide +kernel) rfl rfl rfl (by decide +kernel)
set_option maxRecDepth 65536 in
theorem w_c9 : (Jvm.Cond.code ({ cls := "com/example/kerbline/kerbline/graph/PathEdge", name := "sense", desc := "()I" } : Jvm.MethodName) prog_10_method_5_code (1 : Nat) (Option.some Jvm.ClassFile.FieldType.int)).before args0 about1 = true := code_word (m := ⟨4, 3⟩) (meth := k4m3) (c := k4c3) (by decide +kernel) rfl rfl rfl (by decide +kernel)
set_option maxRecDepth 65536 in
theorem w_c10 : (Jvm.Cond.code ({ cls := "com/example/kerbline/kerbline/graph/PathEdge", name := "origin", desc := "()D" } : Jvm.MethodName) prog_10_method_6_code (1 : Nat) (Option.some Jvm.ClassFile.FieldType.double)).before args0 about1 = true := code_word (m := ⟨4, 4⟩) (meth := k4m4) (c := k4c4) (by decide +kernel) rfl rfl rfl (by decide +kernel)
set_option maxRecDepth 65536 in
theorem w_c11 : (Jvm.Cond.code ({ cls := "com/example/kerbline/kerbline/graph/PathEdge", name := "probability", desc := "()D" } : Jvm.MethodName) prog_10_method_7_code (1 : Nat) (Option.some Jvm.ClassFile.FieldType.double)).before args0 about1 = true := code_word (m := ⟨4, 5⟩) (meth := k4m5) (c := k4c5) (by decide +kernel) rfl rfl rfl (by decide +kernel)
set_option maxRecDepth 65536 in
theorem w_c12 : (Jvm.Cond.code ({ cls := "com/example/kerbline/kerbline/graph/PathEdge", name := "routed", desc := "()Z" } : Jvm.MethodName) prog_10_method_10_code (1 : Nat) (Option.some Jvm.ClassFile.FieldType.boolean)).before args0 about1 = true := code_word (m := ⟨4, 7⟩) (meth := k4m7) (c := k4c7) (by decide +kernel) rfl rfl rfl (by decide +kernel)
set_option maxRecDepth 65536 in
theorem w_c13 : (Jvm.Cond.code ({ cls := "com/example/kerbline/kerbline/graph/PathEdge", name := "trailFrom", desc := "(Lcom/example/kerbline/kerbline/graph/Trail;)Lcom/example/kerbline/kerbline/graph/Trail;" } : Jvm.MethodName) prog_10_method_8_code (10 : Nat) (Option.some (Jvm.ClassFile.FieldType.object "com/example/kerbline/kerbline/graph/Trail"))).before args0 about1 = true := code_word (m := ⟨4, 6⟩) (meth := k4m6) (c := k4c6) (by decide +kernel) rfl rfl rfl (by decide +kernel)
def codes1 : List Jvm.Cond := [Jvm.Cond.code x code maxLocals ret, Jvm.Cond.code ({ cls := "com/example/kerbline/kerbline/graph/Trail", name := "<init>", desc := "(ILcom/example/kerbline/kerbline/graph/Trail;)V" } : Jvm.MethodName) prog_14_method_2_code (3 : Nat) (Option.none : Option Jvm.ClassFile.FieldType), Jvm.Cond.code ({ cls := "com/example/kerbline/kerbline/graph/Trail", name := "lengthOf", desc := "(Lcom/example/kerbline/kerbline/graph/Trail;)I" } : Jvm.MethodName) prog_14_method_4_code (1 : Nat) (Option.some Jvm.ClassFile.FieldType.int), Jvm.Cond.code ({ cls := "com/example/kerbline/kerbline/graph/Trail", name := "<init>", desc := "(ILcom/example/kerbline/kerbline/graph/Trail;I)V" } : Jvm.MethodName) prog_14_method_1_code (4 : Nat) (Option.none : Option Jvm.ClassFile.FieldType), Jvm.Cond.code ({ cls := "java/lang/Record", name := "<init>", desc := "()V" } : Jvm.MethodName) jdk_30_method_1_code (1 : Nat) (Option.none : Option Jvm.ClassFile.FieldType), Jvm.Cond.code ({ cls := "java/lang/Object", name := "<init>", desc := "()V" } : Jvm.MethodName) object_method_1_code (1 : Nat) (Option.none : Option Jvm.ClassFile.FieldType), Jvm.Cond.code ({ cls := "com/example/kerbline/kerbline/graph/PathEdge", name := "unrouted", desc := "(IIDD)Lcom/example/kerbline/kerbline/graph/PathEdge;" } : Jvm.MethodName) prog_10_method_3_code (6 : Nat) (Option.some (Jvm.ClassFile.FieldType.object "com/example/kerbline/kerbline/graph/PathEdge")), Jvm.Cond.code ({ cls := "com/example/kerbline/kerbline/graph/PathEdge", name := "<init>", desc := "(IIDDLcom/example/kerbline/kerbline/graph/Trail;ZZ)V" } : Jvm.MethodName) prog_10_method_2_code (10 : Nat) (Option.none : Option Jvm.ClassFile.FieldType), Jvm.Cond.code ({ cls := "com/example/kerbline/kerbline/graph/PathEdge", name := "edge", desc := "()I" } : Jvm.MethodName) prog_10_method_4_code (1 : Nat) (Option.some Jvm.ClassFile.FieldType.int), Jvm.Cond.code ({ cls := "com/example/kerbline/kerbline/graph/PathEdge", name := "sense", desc := "()I" } : Jvm.MethodName) prog_10_method_5_code (1 : Nat) (Option.some Jvm.ClassFile.FieldType.int), Jvm.Cond.code ({ cls := "com/example/kerbline/kerbline/graph/PathEdge", name := "origin", desc := "()D" } : Jvm.MethodName) prog_10_method_6_code (1 : Nat) (Option.some Jvm.ClassFile.FieldType.double), Jvm.Cond.code ({ cls := "com/example/kerbline/kerbline/graph/PathEdge", name := "probability", desc := "()D" } : Jvm.MethodName) prog_10_method_7_code (1 : Nat) (Option.some Jvm.ClassFile.FieldType.double), Jvm.Cond.code ({ cls := "com/example/kerbline/kerbline/graph/PathEdge", name := "routed", desc := "()Z" } : Jvm.MethodName) prog_10_method_10_code (1 : Nat) (Option.some Jvm.ClassFile.FieldType.boolean), Jvm.Cond.code ({ cls := "com/example/kerbline/kerbline/graph/PathEdge", name := "trailFrom", desc := "(Lcom/example/kerbline/kerbline/graph/Trail;)Lcom/example/kerbline/kerbline/graph/Trail;" } : Jvm.MethodName) prog_10_method_8_code (10 : Nat) (Option.some (Jvm.ClassFile.FieldType.object "com/example/kerbline/kerbline/graph/Trail"))]
set_option maxRecDepth 65536 in
theorem codes_eq : words1.filter isCode = codes1 := rfl
theorem w_codes : ∀ c ∈ words1.filter isCode, c.before args0 about1 = true := by
  rw [codes_eq]
  intro c hc
  simp only [codes1, List.mem_cons, List.not_mem_nil, or_false] at hc
  rcases hc with rfl | rfl | rfl | rfl | rfl | rfl | rfl | rfl | rfl | rfl | rfl | rfl | rfl | rfl
  · exact w_c0
  · exact w_c1
  · exact w_c2
  · exact w_c3
  · exact w_c4
  · exact w_c5
  · exact w_c6
  · exact w_c7
  · exact w_c8
  · exact w_c9
  · exact w_c10
  · exact w_c11
  · exact w_c12
  · exact w_c13
set_option maxRecDepth 65536 in
theorem w_t1 : (words1.take 24).all (fun c => isCode c || c.before args0 about1) = true := by decide +kernel
set_option maxRecDepth 65536 in
theorem w_t2 : ((words1.drop 24).take 24).all (fun c => isCode c || c.before args0 about1) = true := by decide +kernel
set_option maxRecDepth 65536 in
theorem w_t3 : (((words1.drop 24).drop 24).take 24).all (fun c => isCode c || c.before args0 about1) = true := by decide +kernel
set_option maxRecDepth 65536 in
theorem w_t4 : (((words1.drop 24).drop 24).drop 24).all (fun c => isCode c || c.before args0 about1) = true := by decide +kernel
theorem w_tables : (allAtoms (Jvm.Cond.code x code maxLocals ret :: tables_1)).before args0 about1 = true := by
  rw [allAtoms_all]
  show words1.all (fun c => c.before args0 about1) = true
  refine all_split ?_ w_codes
  rw [← List.take_append_drop 24 words1, List.all_append, w_t1, ← List.take_append_drop 24 (words1.drop 24), List.all_append, w_t2, ← List.take_append_drop 24 ((words1.drop 24).drop 24), List.all_append, w_t3, w_t4]
  rfl
set_option maxRecDepth 65536 in
theorem w_case : (Jvm.Cond.and given_1 narrow_1).before args0 about1 = true := by decide +kernel
theorem w_applies : (headSpec (Jvm.Cond.code x code maxLocals ret :: tables_1) room_1).applies x e0.platform about1 = true :=
  (Spec.applies_iff w_frames).mpr ⟨w_running, w_runnable, w_alone, w_named, w_hears, w_ripe, w_room, w_tables⟩
theorem atStart : AtStart classFile x code maxLocals ret World_1 tables_1 room_1 Calls_1 rest_1 Pre_1 launch0 p0 e0 about1 theMethod args0 below0 :=
  ⟨lists_1, trivial, launch0.admits_env _ _ _, launch0.least_env, fairChoices_fair.cas, fairChoices_fair.clock, w_frames, w_args, w_heap, w_applies, trivial, trivial, w_case⟩
end start1
theorem witness_1 : WitnessClaimed_1 := ⟨start1.p0, start1.e0, start1.about1, start1.theMethod, start1.args0, start1.below0, start1.atStart⟩
end Jvm.Pilot.@@N@@
