import JvmDerived
import JvmDerived.Pilot.@@N@@Statement
import JvmDerived.Pilot.@@N@@Code
set_option linter.unusedVariables false
set_option linter.unusedSimpArgs false
namespace Jvm.Pilot.@@N@@
open Jvm Jvm.ClassFile Sem Op Lib Jvm.Free Jvm.Stand Jvm.LawKit Jvm.RoadKit Jvm.Free.Fl Bundle Jvm.Pilot.@@N@@.Jvm.D
theorem own_mono {p : Program} {l : Launch} {e : Env} {R : Room} {s : State} {m : MethodId} {args : Array Value} {below : List Frame} {meth : Method} {c : Code} {T : State} {locs : List Loc} {cells slots cells' slots' : Nat}
    (X : Stand p l e R s m args below meth c T locs cells slots) (h1 : cells ≤ cells') (h2 : slots ≤ slots') : Stand p l e R s m args below meth c T locs cells' slots' := { X with same := X.same.mono h1 h2 }
theorem own_il10 {j : Int32} {vs : List Value} (h1 : ¬ (j < (0 : Int32))) (h2 : j < (10 : Int32)) (hv : vs.length = 10) : (j).toNatClampNeg < vs.length := by
  have e1 := nat_of h1
  have q := Int32.lt_iff_toInt_lt.mp h2
  rw [show (10 : Int32).toInt = 10 by decide] at q
  omega
theorem d_jdk_22_method_1_code_0 : decode jdk_22_method_1_code 0 = .ok (.aload_n 0, 1) := by decide +kernel
theorem d_jdk_22_method_1_code_1 : decode jdk_22_method_1_code 1 = .ok (.invokespecial 1, 3) := by decide +kernel
theorem d_jdk_22_method_1_code_4 : decode jdk_22_method_1_code 4 = .ok (.return_, 1) := by decide +kernel
theorem pn_java_util_AbstractCollection : plainName "java/util/AbstractCollection" = true := by first | (simp [plainName, overriddenIn]; done) | decide +kernel
theorem ef_abc (m : MethodId) (x0 : Addr) : entryFrame m #[(.ref x0)] 1 = mkF m 0 #[.val (.ref x0)] [] := by first | (simp [entryFrame, mkF, argsToLocals, Value.category]; done) | rfl
def Q_abc (Z : State) (a1 : Addr) (h0 : Heap) (n0 : Nat) (v : Option Value) (h : Heap) (L : List Loc) : Prop := v = none ∧ Fr n0 L ∧ h = h0
set_option maxRecDepth 65536 in
set_option maxHeartbeats 40000000 in
theorem rm_abc (l : Launch) (Z : State) (a0 : Array Value) (hw : ∀ d ∈ tables_1, d.before a0 Z = true) (ws : List Jvm.Cond) (a1 : Addr) (h0 : Heap) (n0 : Nat) (Z0 : n0 ≤ h0.size)  :
    MetFree l (⟨"java/util/AbstractCollection", "<init>", "()V"⟩ : MethodName) (head1 (Jvm.Cond.code (⟨"java/util/AbstractCollection", "<init>", "()V"⟩ : MethodName) jdk_22_method_1_code 1 none :: ws) ({ frames := 1, cells := 0, slots := 0, locals := 12 } : Room)) (fun a U => a = #[(.ref a1)] ∧ Z.Warmed39 U.vm ∧ U.heap = h0) (fun _ _ _ _ _ => True) (fun _ U o U' => ∃ v L, o = .returned v ∧ Q_abc Z a1 h0 n0 v U'.heap L ∧ FrameEnd U o U' L ({ frames := 1, cells := 0, slots := 0, locals := 12 } : Room).cells ({ frames := 1, cells := 0, slots := 0, locals := 12 } : Room).slots) := by
  refine MetFree.of_bodySF (plainFor_of_name pn_java_util_AbstractCollection) hisR ?_
  intro p e s m args below meth c s₁ Bd hml0 hP hK
  obtain ⟨rfl, hZ, hh⟩ := hP
  have hx := Bd.exec
  have hby := Bd.bytes
  have hml : c.maxLocals = 1 := hml0
  have hown : s.vm.findClass "java/util/AbstractCollection" = some m.cls := findClass_of_methodNamed Bd.named
  have hnm := (name_of_methodNamed Bd.named Bd.method).1
  have X0 : Stand p l e ({ frames := 1, cells := 0, slots := 0, locals := 12 } : Room) s m #[(.ref a1)] below meth c s₁ [] 0 0 := Stand.of_body Bd
  have e0 : s₁.heap = h0 := by rw [← hh, Bd.state]; rfl
  have N0 := Fr.nil n0
  have P0 : Keep h0 h0 [] := Keep.refl _ _
  have pre0 : ∀ t, Steps p.tables e below (s₁.setTop (mkF m 0 #[.val (.ref a1)] [])) t → Steps p.tables e below (s₁.setTop (entryFrame m #[(.ref a1)] 1)) t := fun t k => castTop (ef_abc m a1) k
  obtain ⟨T1, X1, e1, st1⟩ := initO X0 hx hZ hown (hw _ (List.mem_of_getElem? (i := 40) rfl)) (hw _ (List.mem_of_getElem? (i := 9) rfl)) (hw _ (List.mem_of_getElem? (i := 10) rfl)) e0 (g := (mkF m 1 #[.val (.ref a1)] [(.ref a1)])) rfl (by rw [hml]; rfl) rfl (hb hby d_jdk_22_method_1_code_1) (by decide) (W := 0) (by show 2 * 0 + _ ≤ _; exact Nat.le_of_eq rfl) (by decide)
  obtain ⟨fs, hr, hrun, hended, hW, hsame⟩ := X1.leave (v := none) (fun _ => rfl)
  refine ⟨_, _, pre0 _ ?_, hrun, hended, _, _, rfl, ?_, ⟨_, rfl⟩, hW, hsame.mono (by decide) (by decide)⟩
  · show Steps p.tables e below (s₁.setTop (mkF m 0 #[.val (.ref a1)] [])) _
    refine XS.aloadN X0.here hx rfl (hb hby d_jdk_22_method_1_code_0) rfl rfl ?_
    show Steps p.tables e below (s₁.setTop (mkF m 1 #[.val (.ref a1)] [(.ref a1)])) _
    refine st1 _ ?_
    show Steps p.tables e below (T1.setTop (mkF m 4 #[.val (.ref a1)] [])) _
    exact X1.returnOut hx Bd.returns (hb hby d_jdk_22_method_1_code_4) hr
  · show Q_abc Z a1 h0 n0 _ T1.heap _
    rw [e1]
    exact ⟨rfl, N0, rfl⟩
theorem d_jdk_39_method_1_code_0 : decode jdk_39_method_1_code 0 = .ok (.aload_n 0, 1) := by decide +kernel
theorem d_jdk_39_method_1_code_1 : decode jdk_39_method_1_code 1 = .ok (.invokespecial 1, 3) := by decide +kernel
theorem pd_2829V : parseMethodDescriptor "()V" = some ⟨[], none⟩ := by decide +kernel
theorem d_jdk_39_method_1_code_4 : decode jdk_39_method_1_code 4 = .ok (.aload_n 0, 1) := by decide +kernel
theorem d_jdk_39_method_1_code_5 : decode jdk_39_method_1_code 5 = .ok (.iconst 0, 1) := by decide +kernel
theorem d_jdk_39_method_1_code_6 : decode jdk_39_method_1_code 6 = .ok (.putfield 7, 3) := by decide +kernel
theorem d_jdk_39_method_1_code_9 : decode jdk_39_method_1_code 9 = .ok (.return_, 1) := by decide +kernel
theorem pn_java_util_AbstractList : plainName "java/util/AbstractList" = true := by first | (simp [plainName, overriddenIn]; done) | decide +kernel
theorem ef_abl (m : MethodId) (x0 : Addr) : entryFrame m #[(.ref x0)] 1 = mkF m 0 #[.val (.ref x0)] [] := by first | (simp [entryFrame, mkF, argsToLocals, Value.category]; done) | rfl
def Q_abl (Z : State) (a1 : Addr) (u1 : Value) (u2 : Value) (u3 : Value) (h0 : Heap) (n0 : Nat) (v : Option Value) (h : Heap) (L : List Loc) : Prop := v = none ∧ Fr n0 L ∧ Keep h0 h [a1] ∧ (Exa Z h a1 "java/util/ArrayList") ∧ (Fld Z h a1 "java/util/AbstractList" "modCount" "I" (.int (0 : Int32))) ∧ (Fld Z h a1 "java/util/ArrayList" "elementData" "[Ljava/lang/Object;" u2) ∧ (Fld Z h a1 "java/util/ArrayList" "size" "I" u3)
set_option maxRecDepth 65536 in
set_option maxHeartbeats 40000000 in
theorem rm_abl (l : Launch) (Z : State) (a0 : Array Value) (hw : ∀ d ∈ tables_1, d.before a0 Z = true) (ws : List Jvm.Cond) (a1 : Addr) (u1 : Value) (u2 : Value) (u3 : Value) (h0 : Heap) (n0 : Nat) (Z0 : n0 ≤ h0.size) (pE0 : Exa Z h0 a1 "java/util/ArrayList") (pF1 : Fld Z h0 a1 "java/util/AbstractList" "modCount" "I" u1) (pF2 : Fld Z h0 a1 "java/util/ArrayList" "elementData" "[Ljava/lang/Object;" u2) (pF3 : Fld Z h0 a1 "java/util/ArrayList" "size" "I" u3) (pg4 : n0 ≤ a1) :
    MetFree l (⟨"java/util/AbstractList", "<init>", "()V"⟩ : MethodName) (head1 (Jvm.Cond.code (⟨"java/util/AbstractList", "<init>", "()V"⟩ : MethodName) jdk_39_method_1_code 1 none :: ws) ({ frames := 2, cells := 0, slots := 0, locals := 24 } : Room)) (fun a U => a = #[(.ref a1)] ∧ Z.Warmed39 U.vm ∧ U.heap = h0) (fun _ _ _ _ _ => True) (fun _ U o U' => ∃ v L, o = .returned v ∧ Q_abl Z a1 u1 u2 u3 h0 n0 v U'.heap L ∧ FrameEnd U o U' L ({ frames := 2, cells := 0, slots := 0, locals := 24 } : Room).cells ({ frames := 2, cells := 0, slots := 0, locals := 24 } : Room).slots) := by
  refine MetFree.of_bodySF (plainFor_of_name pn_java_util_AbstractList) hisR ?_
  intro p e s m args below meth c s₁ Bd hml0 hP hK
  obtain ⟨rfl, hZ, hh⟩ := hP
  have hx := Bd.exec
  have hby := Bd.bytes
  have hml : c.maxLocals = 1 := hml0
  have hown : s.vm.findClass "java/util/AbstractList" = some m.cls := findClass_of_methodNamed Bd.named
  have hnm := (name_of_methodNamed Bd.named Bd.method).1
  have X0 : Stand p l e ({ frames := 2, cells := 0, slots := 0, locals := 24 } : Room) s m #[(.ref a1)] below meth c s₁ [] 0 0 := Stand.of_body Bd
  have e0 : s₁.heap = h0 := by rw [← hh, Bd.state]; rfl
  have N0 := Fr.nil n0
  have P0 : Keep h0 h0 [a1] := Keep.refl _ _
  have pre0 : ∀ t, Steps p.tables e below (s₁.setTop (mkF m 0 #[.val (.ref a1)] [])) t → Steps p.tables e below (s₁.setTop (entryFrame m #[(.ref a1)] 1)) t := fun t k => castTop (ef_abl m a1) k
  obtain ⟨_, _, ⟨T1, L1, k1, n1⟩, -, X1, ⟨Lc1, hQ1, l1, y1, z1⟩, st1⟩ := X0.specialBack hx (y := (⟨"java/util/AbstractCollection", "<init>", "()V"⟩ : MethodName)) rfl hown (mvT hZ (hw _ (List.mem_of_getElem? (i := 34) rfl))) (mvT hZ (hw _ (List.mem_of_getElem? (i := 35) rfl))) (mvT hZ (hw _ (List.mem_of_getElem? (i := 39) rfl))) (by decide) (backOf (W := 0) (rm_abc l Z a0 hw [] a1 h0 n0 (Nat.le_trans Z0 P0.1) ) hZ (hw _ (List.mem_of_getElem? (i := 39) rfl)) (hw _ (List.mem_of_getElem? (i := 38) rfl)) (by decide) (by decide)) (g := (mkF m 1 #[.val (.ref a1)] [(.ref a1)])) rfl (by rw [hml]; rfl) (Steps.refl _) (a := a1) (argsL := []) (rest := []) (lenOf pd_2829V rfl) rfl (by show 2 * 0 + _ ≤ _; exact Nat.le_of_eq rfl) (hb hby d_jdk_39_method_1_code_1) (fun _ _ => ⟨rfl, e0, (by decide : 0 + 0 ≤ _), (by decide : 0 + 0 ≤ _)⟩)
  dsimp only [Pt.U, Pt.locs, Pt.cells, Pt.slots] at X1 l1 y1 z1 st1 hQ1
  subst l1 y1 z1
  obtain ⟨rfl, N1q, e1⟩ := hQ1
  have N1 := Fr.app N0 N1q
  obtain ⟨T2, h2, X2, e2, W2, st2⟩ := putF X1 hx hZ hown (host := "") (Or.inl (hw _ (List.mem_of_getElem? (i := 41) rfl))) Via.refl e1 pF1 pE0 (Or.inl (hw _ (List.mem_of_getElem? (i := 42) rfl))) (hw _ (List.mem_of_getElem? (i := 23) rfl)) (ty := .int) (by decide) rfl rfl (g := (mkF m 6 #[.val (.ref a1)] [(.int (0 : Int32)), (.ref a1)])) rfl rfl (hb hby d_jdk_39_method_1_code_6)
  have P3 : Keep h0 h2 [a1] := P0.wr W2 (Or.inl (List.mem_of_getElem? (i := 0) rfl))
  have F4 : Fld Z h2 a1 "java/util/AbstractList" "modCount" "I" (.int (0 : Int32)) := Fld.same W2 pF1
  have N2 := Fr.snoc X2 N1 pg4
  have E5 : Exa Z h2 a1 "java/util/ArrayList" := (Exa.wr W2 pE0)
  have F6 : Fld Z h2 a1 "java/util/ArrayList" "elementData" "[Ljava/lang/Object;" u2 := (Fld.other W2 pF2 (Or.inr (slot_ne (t := (.array (.object "java/lang/Object"))) (t' := .int) (C := "java/util/ArrayList") (a0 := a0) (Or.inl (hw _ (List.mem_of_getElem? (i := 45) rfl))) (Or.inl (hw _ (List.mem_of_getElem? (i := 42) rfl))) (by decide) (by decide) (by decide))))
  have F7 : Fld Z h2 a1 "java/util/ArrayList" "size" "I" u3 := (Fld.other W2 pF3 (Or.inr (slot_ne (t := .int) (t' := .int) (C := "java/util/ArrayList") (a0 := a0) (Or.inl (hw _ (List.mem_of_getElem? (i := 65) rfl))) (Or.inl (hw _ (List.mem_of_getElem? (i := 42) rfl))) (by decide) (by decide) (by decide))))
  obtain ⟨fs, hr, hrun, hended, hW, hsame⟩ := X2.leave (v := none) (fun _ => rfl)
  refine ⟨_, _, pre0 _ ?_, hrun, hended, _, _, rfl, ?_, ⟨_, rfl⟩, hW, hsame.mono (by decide) (by decide)⟩
  · show Steps p.tables e below (s₁.setTop (mkF m 0 #[.val (.ref a1)] [])) _
    refine XS.aloadN X0.here hx rfl (hb hby d_jdk_39_method_1_code_0) rfl rfl ?_
    show Steps p.tables e below (s₁.setTop (mkF m 1 #[.val (.ref a1)] [(.ref a1)])) _
    refine st1.trans ?_
    show Steps p.tables e below (T1.setTop (mkF m 4 #[.val (.ref a1)] [])) _
    refine XS.aloadN X1.here hx rfl (hb hby d_jdk_39_method_1_code_4) rfl rfl ?_
    show Steps p.tables e below (T1.setTop (mkF m 5 #[.val (.ref a1)] [(.ref a1)])) _
    refine XS.iconst X1.here hx rfl (hb hby d_jdk_39_method_1_code_5) ?_
    show Steps p.tables e below (T1.setTop (mkF m 6 #[.val (.ref a1)] [(.int (0 : Int32)), (.ref a1)])) _
    refine st2 _ ?_
    show Steps p.tables e below (T2.setTop (mkF m 9 #[.val (.ref a1)] [])) _
    exact X2.returnOut hx Bd.returns (hb hby d_jdk_39_method_1_code_9) hr
  · show Q_abl Z a1 u1 u2 u3 h0 n0 _ T2.heap _
    rw [e2]
    exact ⟨rfl, N2, P3, E5, F4, F6, F7⟩
theorem d_jdk_38_method_2_code_0 : decode jdk_38_method_2_code 0 = .ok (.aload_n 0, 1) := by decide +kernel
theorem d_jdk_38_method_2_code_1 : decode jdk_38_method_2_code 1 = .ok (.invokespecial 1, 3) := by decide +kernel
theorem d_jdk_38_method_2_code_4 : decode jdk_38_method_2_code 4 = .ok (.aload_n 0, 1) := by decide +kernel
theorem d_jdk_38_method_2_code_5 : decode jdk_38_method_2_code 5 = .ok (.getstatic 39, 3) := by decide +kernel
theorem d_jdk_38_method_2_code_8 : decode jdk_38_method_2_code 8 = .ok (.putfield 9, 3) := by decide +kernel
theorem d_jdk_38_method_2_code_11 : decode jdk_38_method_2_code 11 = .ok (.return_, 1) := by decide +kernel
theorem pn_java_util_ArrayList : plainName "java/util/ArrayList" = true := by first | (simp [plainName, overriddenIn]; done) | decide +kernel
theorem ef_ali (m : MethodId) (x0 : Addr) : entryFrame m #[(.ref x0)] 1 = mkF m 0 #[.val (.ref x0)] [] := by first | (simp [entryFrame, mkF, argsToLocals, Value.category]; done) | rfl
def Q_ali (Z : State) (a1 : Addr) (dce : Addr) (u1 : Value) (u2 : Value) (u3 : Value) (h0 : Heap) (n0 : Nat) (v : Option Value) (h : Heap) (L : List Loc) : Prop := v = none ∧ Fr n0 L ∧ Keep h0 h [a1] ∧ (Exa Z h a1 "java/util/ArrayList") ∧ (Fld Z h a1 "java/util/AbstractList" "modCount" "I" (.int (0 : Int32))) ∧ (Fld Z h a1 "java/util/ArrayList" "elementData" "[Ljava/lang/Object;" (.ref dce)) ∧ (Fld Z h a1 "java/util/ArrayList" "size" "I" u3)
set_option maxRecDepth 65536 in
set_option maxHeartbeats 40000000 in
theorem rm_ali (l : Launch) (Z : State) (a0 : Array Value) (hw : ∀ d ∈ tables_1, d.before a0 Z = true) (ws : List Jvm.Cond) (a1 : Addr) (dce : Addr) (u1 : Value) (u2 : Value) (u3 : Value) (h0 : Heap) (n0 : Nat) (Z0 : n0 ≤ h0.size) (pE0 : Exa Z h0 a1 "java/util/ArrayList") (pF1 : Fld Z h0 a1 "java/util/AbstractList" "modCount" "I" u1) (pF2 : Fld Z h0 a1 "java/util/ArrayList" "elementData" "[Ljava/lang/Object;" u2) (pF3 : Fld Z h0 a1 "java/util/ArrayList" "size" "I" u3) (pg4 : n0 ≤ a1) (hO : Old Z n0 h0) (zS6 : Sta Z Z.heap "java/util/ArrayList" "DEFAULTCAPACITY_EMPTY_ELEMENTDATA" "[Ljava/lang/Object;" (.ref dce)) :
    MetFree l (⟨"java/util/ArrayList", "<init>", "()V"⟩ : MethodName) (head1 (Jvm.Cond.code (⟨"java/util/ArrayList", "<init>", "()V"⟩ : MethodName) jdk_38_method_2_code 1 none :: ws) ({ frames := 3, cells := 0, slots := 0, locals := 36 } : Room)) (fun a U => a = #[(.ref a1)] ∧ Z.Warmed39 U.vm ∧ U.heap = h0) (fun _ _ _ _ _ => True) (fun _ U o U' => ∃ v L, o = .returned v ∧ Q_ali Z a1 dce u1 u2 u3 h0 n0 v U'.heap L ∧ FrameEnd U o U' L ({ frames := 3, cells := 0, slots := 0, locals := 36 } : Room).cells ({ frames := 3, cells := 0, slots := 0, locals := 36 } : Room).slots) := by
  refine MetFree.of_bodySF (plainFor_of_name pn_java_util_ArrayList) hisR ?_
  intro p e s m args below meth c s₁ Bd hml0 hP hK
  obtain ⟨rfl, hZ, hh⟩ := hP
  have hx := Bd.exec
  have hby := Bd.bytes
  have hml : c.maxLocals = 1 := hml0
  have hown : s.vm.findClass "java/util/ArrayList" = some m.cls := findClass_of_methodNamed Bd.named
  have hnm := (name_of_methodNamed Bd.named Bd.method).1
  have X0 : Stand p l e ({ frames := 3, cells := 0, slots := 0, locals := 36 } : Room) s m #[(.ref a1)] below meth c s₁ [] 0 0 := Stand.of_body Bd
  have e0 : s₁.heap = h0 := by rw [← hh, Bd.state]; rfl
  have N0 := Fr.nil n0
  have P0 : Keep h0 h0 [a1] := Keep.refl _ _
  have pre0 : ∀ t, Steps p.tables e below (s₁.setTop (mkF m 0 #[.val (.ref a1)] [])) t → Steps p.tables e below (s₁.setTop (entryFrame m #[(.ref a1)] 1)) t := fun t k => castTop (ef_ali m a1) k
  obtain ⟨_, _, ⟨T1, L1, k1, n1⟩, -, X1, ⟨Lc1, hQ1, l1, y1, z1⟩, st1⟩ := X0.specialBack hx (y := (⟨"java/util/AbstractList", "<init>", "()V"⟩ : MethodName)) rfl hown (mvT hZ (hw _ (List.mem_of_getElem? (i := 28) rfl))) (mvT hZ (hw _ (List.mem_of_getElem? (i := 29) rfl))) (mvT hZ (hw _ (List.mem_of_getElem? (i := 33) rfl))) (by decide) (backOf (W := 0) (rm_abl l Z a0 hw [] a1 u1 u2 u3 h0 n0 (Nat.le_trans Z0 P0.1) pE0 pF1 pF2 pF3 pg4) hZ (hw _ (List.mem_of_getElem? (i := 33) rfl)) (hw _ (List.mem_of_getElem? (i := 32) rfl)) (by decide) (by decide)) (g := (mkF m 1 #[.val (.ref a1)] [(.ref a1)])) rfl (by rw [hml]; rfl) (Steps.refl _) (a := a1) (argsL := []) (rest := []) (lenOf pd_2829V rfl) rfl (by show 2 * 0 + _ ≤ _; exact Nat.le_of_eq rfl) (hb hby d_jdk_38_method_2_code_1) (fun _ _ => ⟨rfl, e0, (by decide : 0 + 0 ≤ _), (by decide : 0 + 0 ≤ _)⟩)
  dsimp only [Pt.U, Pt.locs, Pt.cells, Pt.slots] at X1 l1 y1 z1 st1 hQ1
  subst l1 y1 z1
  obtain ⟨rfl, N1q, K1, r1_0, r1_1, r1_2, r1_3⟩ := hQ1
  have N1 := Fr.app N0 N1q
  have P2 : Keep h0 T1.heap [a1] := P0.trans K1 (allS (Or.inl (List.mem_of_getElem? (i := 0) rfl)) all0)
  have O3 : Old Z n0 T1.heap := hO.keep P2 (allS pg4 all0)
  have S4 : Sta Z T1.heap "java/util/ArrayList" "DEFAULTCAPACITY_EMPTY_ELEMENTDATA" "[Ljava/lang/Object;" (.ref dce) := Sta.ext O3.2 zS6
  obtain ⟨T5, X5, e5, st5⟩ := getS2 X1 hx hZ hown (host := "") (Or.inl (hw _ (List.mem_of_getElem? (i := 43) rfl))) Via.refl rfl S4 (g := (mkF m 5 #[.val (.ref a1)] [(.ref a1)])) rfl (hb hby d_jdk_38_method_2_code_5)
  obtain ⟨T6, h6, X6, e6, W6, st6⟩ := putF X5 hx hZ hown (host := "") (Or.inl (hw _ (List.mem_of_getElem? (i := 44) rfl))) Via.refl e5 r1_2 r1_0 (Or.inl (hw _ (List.mem_of_getElem? (i := 45) rfl))) (hw _ (List.mem_of_getElem? (i := 23) rfl)) (ty := (.array (.object "java/lang/Object"))) (by decide) rfl rfl (g := (mkF m 8 #[.val (.ref a1)] [(.ref dce), (.ref a1)])) rfl rfl (hb hby d_jdk_38_method_2_code_8)
  have P7 : Keep h0 h6 [a1] := P2.wr W6 (Or.inl (List.mem_of_getElem? (i := 0) rfl))
  have F8 : Fld Z h6 a1 "java/util/ArrayList" "elementData" "[Ljava/lang/Object;" (.ref dce) := Fld.same W6 r1_2
  have N6 := Fr.snoc X6 N1 pg4
  have E9 : Exa Z h6 a1 "java/util/ArrayList" := (Exa.wr W6 r1_0)
  have F10 : Fld Z h6 a1 "java/util/AbstractList" "modCount" "I" (.int (0 : Int32)) := (Fld.other W6 r1_1 (Or.inr (slot_ne (t := .int) (t' := (.array (.object "java/lang/Object"))) (C := "java/util/ArrayList") (a0 := a0) (Or.inl (hw _ (List.mem_of_getElem? (i := 42) rfl))) (Or.inl (hw _ (List.mem_of_getElem? (i := 45) rfl))) (by decide) (by decide) (by decide))))
  have F11 : Fld Z h6 a1 "java/util/ArrayList" "size" "I" u3 := (Fld.other W6 r1_3 (Or.inr (slot_ne (t := .int) (t' := (.array (.object "java/lang/Object"))) (C := "java/util/ArrayList") (a0 := a0) (Or.inl (hw _ (List.mem_of_getElem? (i := 65) rfl))) (Or.inl (hw _ (List.mem_of_getElem? (i := 45) rfl))) (by decide) (by decide) (by decide))))
  obtain ⟨fs, hr, hrun, hended, hW, hsame⟩ := X6.leave (v := none) (fun _ => rfl)
  refine ⟨_, _, pre0 _ ?_, hrun, hended, _, _, rfl, ?_, ⟨_, rfl⟩, hW, hsame.mono (by decide) (by decide)⟩
  · show Steps p.tables e below (s₁.setTop (mkF m 0 #[.val (.ref a1)] [])) _
    refine XS.aloadN X0.here hx rfl (hb hby d_jdk_38_method_2_code_0) rfl rfl ?_
    show Steps p.tables e below (s₁.setTop (mkF m 1 #[.val (.ref a1)] [(.ref a1)])) _
    refine st1.trans ?_
    show Steps p.tables e below (T1.setTop (mkF m 4 #[.val (.ref a1)] [])) _
    refine XS.aloadN X1.here hx rfl (hb hby d_jdk_38_method_2_code_4) rfl rfl ?_
    show Steps p.tables e below (T1.setTop (mkF m 5 #[.val (.ref a1)] [(.ref a1)])) _
    refine st5 _ ?_
    show Steps p.tables e below (T5.setTop (mkF m 8 #[.val (.ref a1)] [(.ref dce), (.ref a1)])) _
    refine st6 _ ?_
    show Steps p.tables e below (T6.setTop (mkF m 11 #[.val (.ref a1)] [])) _
    exact X6.returnOut hx Bd.returns (hb hby d_jdk_38_method_2_code_11) hr
  · show Q_ali Z a1 dce u1 u2 u3 h0 n0 _ T6.heap _
    rw [e6]
    exact ⟨rfl, N6, P7, E9, F10, F8, F11⟩
theorem d_jdk_29_method_65_code_0 : decode jdk_29_method_65_code 0 = .ok (.iload_n 0, 1) := by decide +kernel
theorem d_jdk_29_method_65_code_1 : decode jdk_29_method_65_code 1 = .ok (.iload_n 1, 1) := by decide +kernel
theorem d_jdk_29_method_65_code_2 : decode jdk_29_method_65_code 2 = .ok (.if_icmp .lt 7, 3) := by decide +kernel
theorem d_jdk_29_method_65_code_5 : decode jdk_29_method_65_code 5 = .ok (.iload_n 0, 1) := by decide +kernel
theorem d_jdk_29_method_65_code_6 : decode jdk_29_method_65_code 6 = .ok (.goto 4, 3) := by decide +kernel
theorem d_jdk_29_method_65_code_10 : decode jdk_29_method_65_code 10 = .ok (.ireturn, 1) := by decide +kernel
theorem ef_max (m : MethodId) (x0 : Int32) (x1 : Int32) : entryFrame m #[(.int x0), (.int x1)] 2 = mkF m 0 #[.val (.int x0), .val (.int x1)] [] := by first | (simp [entryFrame, mkF, argsToLocals, Value.category]; done) | rfl
def Q_max (Z : State) (k1 : Int32) (k2 : Int32) (h0 : Heap) (n0 : Nat) (v : Option Value) (h : Heap) (L : List Loc) : Prop := v = some (.int k1) ∧ Fr n0 L ∧ h = h0
set_option maxRecDepth 65536 in
set_option maxHeartbeats 40000000 in
theorem rm_max (l : Launch) (Z : State) (a0 : Array Value) (hw : ∀ d ∈ tables_1, d.before a0 Z = true) (ws : List Jvm.Cond) (k1 : Int32) (k2 : Int32) (h0 : Heap) (n0 : Nat) (Z0 : n0 ≤ h0.size) (hk : ¬ (k1 < k2)) :
    MetFree l (⟨"java/lang/Math", "max", "(II)I"⟩ : MethodName) (head1 (Jvm.Cond.code (⟨"java/lang/Math", "max", "(II)I"⟩ : MethodName) jdk_29_method_65_code 2 (some .int) :: ws) ({ frames := 0, cells := 0, slots := 0, locals := 0 } : Room)) (fun a U => a = #[(.int k1), (.int k2)] ∧ Z.Warmed39 U.vm ∧ U.heap = h0) (fun _ _ _ _ _ => True) (fun _ U o U' => ∃ v L, o = .returned v ∧ Q_max Z k1 k2 h0 n0 v U'.heap L ∧ FrameEnd U o U' L ({ frames := 0, cells := 0, slots := 0, locals := 0 } : Room).cells ({ frames := 0, cells := 0, slots := 0, locals := 0 } : Room).slots) := by
  refine MetFree.of_bodySF (by decide +kernel) hisR ?_
  intro p e s m args below meth c s₁ Bd hml0 hP hK
  obtain ⟨rfl, hZ, hh⟩ := hP
  have hx := Bd.exec
  have hby := Bd.bytes
  have hml : c.maxLocals = 2 := hml0
  have hown : s.vm.findClass "java/lang/Math" = some m.cls := findClass_of_methodNamed Bd.named
  have hnm := (name_of_methodNamed Bd.named Bd.method).1
  have X0 : Stand p l e ({ frames := 0, cells := 0, slots := 0, locals := 0 } : Room) s m #[(.int k1), (.int k2)] below meth c s₁ [] 0 0 := Stand.of_body Bd
  have e0 : s₁.heap = h0 := by rw [← hh, Bd.state]; rfl
  have N0 := Fr.nil n0
  have P0 : Keep h0 h0 [] := Keep.refl _ _
  have pre0 : ∀ t, Steps p.tables e below (s₁.setTop (mkF m 0 #[.val (.int k1), .val (.int k2)] [])) t → Steps p.tables e below (s₁.setTop (entryFrame m #[(.int k1), (.int k2)] 2)) t := fun t k => castTop (ef_max m k1 k2) k
  obtain ⟨fs, hr, hrun, hended, hW, hsame⟩ := X0.leave (v := some (.int k1)) (fun h => by rw [Bd.returns] at h; cases h)
  refine ⟨_, _, pre0 _ ?_, hrun, hended, _, _, rfl, ?_, ⟨_, rfl⟩, hW, hsame.mono (by decide) (by decide)⟩
  · show Steps p.tables e below (s₁.setTop (mkF m 0 #[.val (.int k1), .val (.int k2)] [])) _
    refine XS.iloadN X0.here hx rfl (hb hby d_jdk_29_method_65_code_0) rfl ?_
    show Steps p.tables e below (s₁.setTop (mkF m 1 #[.val (.int k1), .val (.int k2)] [(.int k1)])) _
    refine XS.iloadN X0.here hx rfl (hb hby d_jdk_29_method_65_code_1) rfl ?_
    show Steps p.tables e below (s₁.setTop (mkF m 2 #[.val (.int k1), .val (.int k2)] [(.int k2), (.int k1)])) _
    refine XS.icmpNo X0.here hx rfl (hb hby d_jdk_29_method_65_code_2) rfl (flt (hk : ¬ (k1 < k2))).1 ?_
    show Steps p.tables e below (s₁.setTop (mkF m 5 #[.val (.int k1), .val (.int k2)] [])) _
    refine XS.iloadN X0.here hx rfl (hb hby d_jdk_29_method_65_code_5) rfl ?_
    show Steps p.tables e below (s₁.setTop (mkF m 6 #[.val (.int k1), .val (.int k2)] [(.int k1)])) _
    refine XS.goto X0.here hx rfl (pc0 := 6) (pc' := 10) rfl (hb hby d_jdk_29_method_65_code_6) (by decide) (by decide) ?_
    show Steps p.tables e below (s₁.setTop (mkF m 10 #[.val (.int k1), .val (.int k2)] [(.int k1)])) _
    exact retOut X0 hx (t := .int) (i := .ireturn) Bd.returns rfl (Or.inl ⟨rfl, Or.inl rfl, _, rfl⟩) (hb hby d_jdk_29_method_65_code_10) hr
  · show Q_max Z k1 k2 h0 n0 _ s₁.heap _
    rw [e0]
    exact ⟨rfl, N0, rfl⟩
theorem d_jdk_38_method_6_code_0 : decode jdk_38_method_6_code 0 = .ok (.aload_n 0, 1) := by decide +kernel
theorem d_jdk_38_method_6_code_1 : decode jdk_38_method_6_code 1 = .ok (.getfield 9, 3) := by decide +kernel
theorem d_jdk_38_method_6_code_4 : decode jdk_38_method_6_code 4 = .ok (.arraylength, 1) := by decide +kernel
theorem d_jdk_38_method_6_code_5 : decode jdk_38_method_6_code 5 = .ok (.istore_n 2, 1) := by decide +kernel
theorem d_jdk_38_method_6_code_6 : decode jdk_38_method_6_code 6 = .ok (.iload_n 2, 1) := by decide +kernel
theorem d_jdk_38_method_6_code_7 : decode jdk_38_method_6_code 7 = .ok (.ifCond .gt 13, 3) := by decide +kernel
theorem d_jdk_38_method_6_code_10 : decode jdk_38_method_6_code 10 = .ok (.aload_n 0, 1) := by decide +kernel
theorem d_jdk_38_method_6_code_11 : decode jdk_38_method_6_code 11 = .ok (.getfield 9, 3) := by decide +kernel
theorem d_jdk_38_method_6_code_14 : decode jdk_38_method_6_code 14 = .ok (.getstatic 39, 3) := by decide +kernel
theorem d_jdk_38_method_6_code_17 : decode jdk_38_method_6_code 17 = .ok (.if_acmp .eq 28, 3) := by decide +kernel
theorem d_jdk_38_method_6_code_45 : decode jdk_38_method_6_code 45 = .ok (.aload_n 0, 1) := by decide +kernel
theorem d_jdk_38_method_6_code_46 : decode jdk_38_method_6_code 46 = .ok (.bipush 10, 2) := by decide +kernel
theorem d_jdk_38_method_6_code_48 : decode jdk_38_method_6_code 48 = .ok (.iload_n 1, 1) := by decide +kernel
theorem d_jdk_38_method_6_code_49 : decode jdk_38_method_6_code 49 = .ok (.invokestatic 79, 3) := by decide +kernel
theorem pd_28II29I : parseMethodDescriptor "(II)I" = some ⟨[.int, .int], some .int⟩ := by decide +kernel
theorem d_jdk_38_method_6_code_52 : decode jdk_38_method_6_code 52 = .ok (.anewarray 7, 3) := by decide +kernel
theorem d_jdk_38_method_6_code_55 : decode jdk_38_method_6_code 55 = .ok (.dup_x1, 1) := by decide +kernel
theorem d_jdk_38_method_6_code_56 : decode jdk_38_method_6_code 56 = .ok (.putfield 9, 3) := by decide +kernel
theorem d_jdk_38_method_6_code_59 : decode jdk_38_method_6_code 59 = .ok (.areturn, 1) := by decide +kernel
theorem ef_gri (m : MethodId) (x0 : Addr) (x1 : Int32) : entryFrame m #[(.ref x0), (.int x1)] 4 = mkF m 0 #[.val (.ref x0), .val (.int x1), .unset, .unset] [] := by first | (simp [entryFrame, mkF, argsToLocals, Value.category]; done) | rfl
def Q_gri (Z : State) (a1 : Addr) (dce : Addr) (kd : ClassId) (mc : Int32) (k1 : Int32) (h0 : Heap) (n0 : Nat) (v : Option Value) (h : Heap) (L : List Loc) : Prop := ∃ b : Addr, ∃ kk : ClassId, v = some (.ref b) ∧ Fr n0 L ∧ Keep h0 h [a1] ∧ (h0.size ≤ b) ∧ (n0 ≤ b) ∧ (Exa Z h a1 "java/util/ArrayList") ∧ (Fld Z h a1 "java/util/AbstractList" "modCount" "I" (.int mc)) ∧ (Fld Z h a1 "java/util/ArrayList" "elementData" "[Ljava/lang/Object;" (.ref b)) ∧ (Fld Z h a1 "java/util/ArrayList" "size" "I" (.int (0 : Int32))) ∧ (Arv Z h b kk (.object "java/lang/Object") (10 : Int32) (List.replicate 10 Value.null) .null) ∧ (Ovr Z kk "java/lang/Object")
set_option maxRecDepth 65536 in
set_option maxHeartbeats 40000000 in
theorem rm_gri (l : Launch) (Z : State) (a0 : Array Value) (hw : ∀ d ∈ tables_1, d.before a0 Z = true) (ws : List Jvm.Cond) (a1 : Addr) (dce : Addr) (kd : ClassId) (mc : Int32) (k1 : Int32) (h0 : Heap) (n0 : Nat) (Z0 : n0 ≤ h0.size) (pE0 : Exa Z h0 a1 "java/util/ArrayList") (pF1 : Fld Z h0 a1 "java/util/AbstractList" "modCount" "I" (.int mc)) (pF2 : Fld Z h0 a1 "java/util/ArrayList" "elementData" "[Ljava/lang/Object;" (.ref dce)) (pF3 : Fld Z h0 a1 "java/util/ArrayList" "size" "I" (.int (0 : Int32))) (pg4 : n0 ≤ a1) (hO : Old Z n0 h0) (zS6 : Sta Z Z.heap "java/util/ArrayList" "DEFAULTCAPACITY_EMPTY_ELEMENTDATA" "[Ljava/lang/Object;" (.ref dce)) (zA7 : Arv Z Z.heap dce kd (.object "java/lang/Object") (0 : Int32) [] .null) (hk : ¬ ((10 : Int32) < k1)) :
    MetFree l (⟨"java/util/ArrayList", "grow", "(I)[Ljava/lang/Object;"⟩ : MethodName) (head1 (Jvm.Cond.code (⟨"java/util/ArrayList", "grow", "(I)[Ljava/lang/Object;"⟩ : MethodName) jdk_38_method_6_code 4 (some (.array (.object "java/lang/Object"))) :: ws) ({ frames := 1, cells := 1, slots := 10, locals := 14 } : Room)) (fun a U => a = #[(.ref a1), (.int k1)] ∧ Z.Warmed39 U.vm ∧ U.heap = h0) (fun _ _ _ _ _ => True) (fun _ U o U' => ∃ v L, o = .returned v ∧ Q_gri Z a1 dce kd mc k1 h0 n0 v U'.heap L ∧ FrameEnd U o U' L ({ frames := 1, cells := 1, slots := 10, locals := 14 } : Room).cells ({ frames := 1, cells := 1, slots := 10, locals := 14 } : Room).slots) := by
  refine MetFree.of_bodySF (plainFor_of_name pn_java_util_ArrayList) hisR ?_
  intro p e s m args below meth c s₁ Bd hml0 hP hK
  obtain ⟨rfl, hZ, hh⟩ := hP
  have hx := Bd.exec
  have hby := Bd.bytes
  have hml : c.maxLocals = 4 := hml0
  have hown : s.vm.findClass "java/util/ArrayList" = some m.cls := findClass_of_methodNamed Bd.named
  have hnm := (name_of_methodNamed Bd.named Bd.method).1
  have X0 : Stand p l e ({ frames := 1, cells := 1, slots := 10, locals := 14 } : Room) s m #[(.ref a1), (.int k1)] below meth c s₁ [] 0 0 := Stand.of_body Bd
  have e0 : s₁.heap = h0 := by rw [← hh, Bd.state]; rfl
  have N0 := Fr.nil n0
  have P0 : Keep h0 h0 [a1] := Keep.refl _ _
  have pre0 : ∀ t, Steps p.tables e below (s₁.setTop (mkF m 0 #[.val (.ref a1), .val (.int k1), .unset, .unset] [])) t → Steps p.tables e below (s₁.setTop (entryFrame m #[(.ref a1), (.int k1)] 4)) t := fun t k => castTop (ef_gri m a1 k1) k
  obtain ⟨T1, X1, e1, st1⟩ := getF X0 hx hZ hown (host := "") (Or.inl (hw _ (List.mem_of_getElem? (i := 44) rfl))) Via.refl e0 pF2 (g := (mkF m 1 #[.val (.ref a1), .val (.int k1), .unset, .unset] [(.ref a1)])) rfl rfl (hb hby d_jdk_38_method_6_code_1)
  have A3 : Arv Z h0 dce kd (.object "java/lang/Object") (0 : Int32) [] .null := zA7.ext hO.2
  obtain ⟨cl2, Ar2, qk2, Sz2, Nz2, Ha2, Ga2⟩ := id A3
  obtain ⟨T4, X4, e4, st4⟩ := getF X1 hx hZ hown (host := "") (Or.inl (hw _ (List.mem_of_getElem? (i := 44) rfl))) Via.refl e1 pF2 (g := (mkF m 11 #[.val (.ref a1), .val (.int k1), .val (.int (0 : Int32)), .unset] [(.ref a1)])) rfl rfl (hb hby d_jdk_38_method_6_code_11)
  have S5 : Sta Z h0 "java/util/ArrayList" "DEFAULTCAPACITY_EMPTY_ELEMENTDATA" "[Ljava/lang/Object;" (.ref dce) := Sta.ext hO.2 zS6
  obtain ⟨T6, X6, e6, st6⟩ := getS2 X4 hx hZ hown (host := "") (Or.inl (hw _ (List.mem_of_getElem? (i := 43) rfl))) Via.refl e4 S5 (g := (mkF m 14 #[.val (.ref a1), .val (.int k1), .val (.int (0 : Int32)), .unset] [(.ref dce)])) rfl (hb hby d_jdk_38_method_6_code_14)
  obtain ⟨_, _, ⟨T7, L7, k7, n7⟩, -, X7, ⟨Lc7, hQ7, l7, y7, z7⟩, st7⟩ := Jvm.LawKit.callS X6 hx (y := (⟨"java/lang/Math", "max", "(II)I"⟩ : MethodName)) hown (mvT hZ (hw _ (List.mem_of_getElem? (i := 81) rfl))) (mvT hZ (hw _ (List.mem_of_getElem? (i := 82) rfl))) (mvT hZ (hw _ (List.mem_of_getElem? (i := 83) rfl))) (mvT hZ (hw _ (List.mem_of_getElem? (i := 84) rfl))) (by decide) (backOf (W := 1) (rm_max l Z a0 hw [] (10 : Int32) k1 h0 n0 (Nat.le_trans Z0 P0.1) hk) hZ (hw _ (List.mem_of_getElem? (i := 84) rfl)) (hw _ (List.mem_of_getElem? (i := 83) rfl)) (by decide) (by decide)) (g := (mkF m 49 #[.val (.ref a1), .val (.int k1), .val (.int (0 : Int32)), .unset] [(.int k1), (.int (10 : Int32)), (.ref a1)])) rfl (by rw [hml]; rfl) (argsL := [(.int (10 : Int32)), (.int k1)]) (rest := [(.ref a1)]) (lenOf pd_28II29I rfl) rfl (by show 2 * 0 + _ ≤ _; exact Nat.le_of_eq rfl) (hb hby d_jdk_38_method_6_code_49) (fun _ _ => ⟨rfl, e6, (by decide : 0 + 0 ≤ _), (by decide : 0 + 0 ≤ _)⟩)
  dsimp only [Pt.U, Pt.locs, Pt.cells, Pt.slots] at X7 l7 y7 z7 st7 hQ7
  subst l7 y7 z7
  obtain ⟨rfl, N7q, e7⟩ := hQ7
  have N7 := Fr.app N0 N7q
  obtain ⟨T8, h8, k8, X8, e8, E8, A8, Q8, V8, st8⟩ := newRE X7 hx hZ hown (hw _ (List.mem_of_getElem? (i := 85) rfl)) (hw _ (List.mem_of_getElem? (i := 86) rfl)) e7 (g := (mkF m 52 #[.val (.ref a1), .val (.int k1), .val (.int (0 : Int32)), .unset] [(.int (10 : Int32)), (.ref a1)])) rfl (hb hby d_jdk_38_method_6_code_52) rfl (by decide) (cap := 10) (by decide) (by decide) (by decide) (by decide) (ad := "[Ljava/lang/Object;") (by decide)
  obtain ⟨bn, g8⟩ : ∃ z, z = h0.size := ⟨_, rfl⟩
  rw [← g8] at A8 Q8 st8
  have ne_a1_bn : a1 ≠ bn := Nat.ne_of_lt (Nat.lt_of_lt_of_eq pE0.lt g8.symm)
  have ge_bn : n0 ≤ bn := Nat.le_trans (Nat.le_trans Z0 P0.1) (Nat.le_of_eq g8.symm)
  have sz_bn : h0.size ≤ bn := Nat.le_trans P0.1 (Nat.le_of_eq g8.symm)
  have P9 : Keep h0 h8 [a1] := P0.ext E8
  have V10 : Arv Z h8 bn k8 (.object "java/lang/Object") (10 : Int32) (List.replicate 10 Value.null) .null := (Arv.new A8 (by decide)).pad (pad_rep [] .null 10)
  have F11 : Fld Z h8 a1 "java/util/ArrayList" "elementData" "[Ljava/lang/Object;" (.ref dce) := (Fld.ext E8 pF2)
  have E12 : Exa Z h8 a1 "java/util/ArrayList" := (Exa.ext E8 pE0)
  obtain ⟨T13, h13, X13, e13, W13, st13⟩ := putF X8 hx hZ hown (host := "") (Or.inl (hw _ (List.mem_of_getElem? (i := 44) rfl))) Via.refl e8 F11 E12 (Or.inl (hw _ (List.mem_of_getElem? (i := 45) rfl))) (hw _ (List.mem_of_getElem? (i := 23) rfl)) (ty := (.array (.object "java/lang/Object"))) (by decide) rfl rfl (g := (mkF m 56 #[.val (.ref a1), .val (.int k1), .val (.int (0 : Int32)), .unset] [(.ref bn), (.ref a1), (.ref bn)])) rfl rfl (hb hby d_jdk_38_method_6_code_56)
  have P14 : Keep h0 h13 [a1] := P9.wr W13 (Or.inl (List.mem_of_getElem? (i := 0) rfl))
  have F15 : Fld Z h13 a1 "java/util/ArrayList" "elementData" "[Ljava/lang/Object;" (.ref bn) := Fld.same W13 F11
  have N13 := Fr.snoc X13 N7 pg4
  have E16 : Exa Z h13 a1 "java/util/ArrayList" := (Exa.wr W13 E12)
  have F17 : Fld Z h13 a1 "java/util/AbstractList" "modCount" "I" (.int mc) := (Fld.other W13 (Fld.ext E8 pF1) (Or.inr (slot_ne (t := .int) (t' := (.array (.object "java/lang/Object"))) (C := "java/util/ArrayList") (a0 := a0) (Or.inl (hw _ (List.mem_of_getElem? (i := 42) rfl))) (Or.inl (hw _ (List.mem_of_getElem? (i := 45) rfl))) (by decide) (by decide) (by decide))))
  have F18 : Fld Z h13 a1 "java/util/ArrayList" "size" "I" (.int (0 : Int32)) := (Fld.other W13 (Fld.ext E8 pF3) (Or.inr (slot_ne (t := .int) (t' := (.array (.object "java/lang/Object"))) (C := "java/util/ArrayList") (a0 := a0) (Or.inl (hw _ (List.mem_of_getElem? (i := 65) rfl))) (Or.inl (hw _ (List.mem_of_getElem? (i := 45) rfl))) (by decide) (by decide) (by decide))))
  have A19 : Arv Z h13 bn k8 (.object "java/lang/Object") (10 : Int32) (List.replicate 10 Value.null) .null := (V10.other W13 ne_a1_bn.symm)
  obtain ⟨fs, hr, hrun, hended, hW, hsame⟩ := X13.leave (v := some (.ref bn)) (fun h => by rw [Bd.returns] at h; cases h)
  refine ⟨_, _, pre0 _ ?_, hrun, hended, _, _, rfl, ?_, ⟨_, rfl⟩, hW, hsame.mono (by decide) (by decide)⟩
  · show Steps p.tables e below (s₁.setTop (mkF m 0 #[.val (.ref a1), .val (.int k1), .unset, .unset] [])) _
    refine XS.aloadN X0.here hx rfl (hb hby d_jdk_38_method_6_code_0) rfl rfl ?_
    show Steps p.tables e below (s₁.setTop (mkF m 1 #[.val (.ref a1), .val (.int k1), .unset, .unset] [(.ref a1)])) _
    refine st1 _ ?_
    show Steps p.tables e below (T1.setTop (mkF m 4 #[.val (.ref a1), .val (.int k1), .unset, .unset] [(.ref dce)])) _
    refine X1.arraylength hx (by rw [e1]; exact Ar2.1) (State.isArrayOf_alike hZ.alike Ar2.2.1) (g := (mkF m 4 #[.val (.ref a1), .val (.int k1), .unset, .unset] [(.ref dce)])) rfl rfl (hb hby d_jdk_38_method_6_code_4) _ ?_
    rw [len_of Sz2 Nz2]
    show Steps p.tables e below (T1.setTop (mkF m 5 #[.val (.ref a1), .val (.int k1), .unset, .unset] [(.int (0 : Int32))])) _
    refine XS.istoreN X1.here hx rfl (hb hby d_jdk_38_method_6_code_5) rfl (l' := #[.val (.ref a1), .val (.int k1), .val (.int (0 : Int32)), .unset]) rfl ?_
    show Steps p.tables e below (T1.setTop (mkF m 6 #[.val (.ref a1), .val (.int k1), .val (.int (0 : Int32)), .unset] [])) _
    refine XS.iloadN X1.here hx rfl (hb hby d_jdk_38_method_6_code_6) rfl ?_
    show Steps p.tables e below (T1.setTop (mkF m 7 #[.val (.ref a1), .val (.int k1), .val (.int (0 : Int32)), .unset] [(.int (0 : Int32))])) _
    refine XS.ifNo X1.here hx rfl (hb hby d_jdk_38_method_6_code_7) rfl ((if0 _ _).trans (flt (by decide : ¬ ((0 : Int32) < (0 : Int32)))).2.2.1) ?_
    show Steps p.tables e below (T1.setTop (mkF m 10 #[.val (.ref a1), .val (.int k1), .val (.int (0 : Int32)), .unset] [])) _
    refine XS.aloadN X1.here hx rfl (hb hby d_jdk_38_method_6_code_10) rfl rfl ?_
    show Steps p.tables e below (T1.setTop (mkF m 11 #[.val (.ref a1), .val (.int k1), .val (.int (0 : Int32)), .unset] [(.ref a1)])) _
    refine st4 _ ?_
    show Steps p.tables e below (T4.setTop (mkF m 14 #[.val (.ref a1), .val (.int k1), .val (.int (0 : Int32)), .unset] [(.ref dce)])) _
    refine st6 _ ?_
    show Steps p.tables e below (T6.setTop (mkF m 17 #[.val (.ref a1), .val (.int k1), .val (.int (0 : Int32)), .unset] [(.ref dce), (.ref dce)])) _
    refine Jvm.RoadKit.acmp (g := (mkF m 17 #[.val (.ref a1), .val (.int k1), .val (.int (0 : Int32)), .unset] [(.ref dce), (.ref dce)])) X6 hx rfl rfl rfl (pc0 := 17) (pc' := 45) (same := true) rfl (hb hby d_jdk_38_method_6_code_17) rfl (decide_eq_true rfl) (by decide) (by decide) ?_
    show Steps p.tables e below (T6.setTop (mkF m 45 #[.val (.ref a1), .val (.int k1), .val (.int (0 : Int32)), .unset] [])) _
    refine XS.aloadN X6.here hx rfl (hb hby d_jdk_38_method_6_code_45) rfl rfl ?_
    show Steps p.tables e below (T6.setTop (mkF m 46 #[.val (.ref a1), .val (.int k1), .val (.int (0 : Int32)), .unset] [(.ref a1)])) _
    refine XS.bipush X6.here hx rfl (hb hby d_jdk_38_method_6_code_46) ?_
    show Steps p.tables e below (T6.setTop (mkF m 48 #[.val (.ref a1), .val (.int k1), .val (.int (0 : Int32)), .unset] [(.int (10 : Int32)), (.ref a1)])) _
    refine XS.iloadN X6.here hx rfl (hb hby d_jdk_38_method_6_code_48) rfl ?_
    show Steps p.tables e below (T6.setTop (mkF m 49 #[.val (.ref a1), .val (.int k1), .val (.int (0 : Int32)), .unset] [(.int k1), (.int (10 : Int32)), (.ref a1)])) _
    refine st7 _ ?_
    show Steps p.tables e below (T7.setTop (mkF m 52 #[.val (.ref a1), .val (.int k1), .val (.int (0 : Int32)), .unset] [(.int (10 : Int32)), (.ref a1)])) _
    refine st8 _ ?_
    show Steps p.tables e below (T8.setTop (mkF m 55 #[.val (.ref a1), .val (.int k1), .val (.int (0 : Int32)), .unset] [(.ref bn), (.ref a1)])) _
    refine XS.dupX1 X8.here hx rfl (hb hby d_jdk_38_method_6_code_55) rfl rfl rfl ?_
    show Steps p.tables e below (T8.setTop (mkF m 56 #[.val (.ref a1), .val (.int k1), .val (.int (0 : Int32)), .unset] [(.ref bn), (.ref a1), (.ref bn)])) _
    refine st13 _ ?_
    show Steps p.tables e below (T13.setTop (mkF m 59 #[.val (.ref a1), .val (.int k1), .val (.int (0 : Int32)), .unset] [(.ref bn)])) _
    exact retOut X13 hx (t := (.array (.object "java/lang/Object"))) (i := .areturn) Bd.returns rfl (Or.inr (Or.inr (Or.inr (Or.inr ⟨rfl, rfl, rfl⟩)))) (hb hby d_jdk_38_method_6_code_59) hr
  · show Q_gri Z a1 dce kd mc k1 h0 n0 _ T13.heap _
    rw [e13]
    exact ⟨bn, k8, rfl, N13, P14, sz_bn, ge_bn, E16, F17, F15, F18, A19, V8⟩
theorem d_jdk_38_method_7_code_0 : decode jdk_38_method_7_code 0 = .ok (.aload_n 0, 1) := by decide +kernel
theorem d_jdk_38_method_7_code_1 : decode jdk_38_method_7_code 1 = .ok (.aload_n 0, 1) := by decide +kernel
theorem d_jdk_38_method_7_code_2 : decode jdk_38_method_7_code 2 = .ok (.getfield 48, 3) := by decide +kernel
theorem d_jdk_38_method_7_code_5 : decode jdk_38_method_7_code 5 = .ok (.iconst 1, 1) := by decide +kernel
theorem d_jdk_38_method_7_code_6 : decode jdk_38_method_7_code 6 = .ok (.iadd, 1) := by decide +kernel
theorem d_jdk_38_method_7_code_7 : decode jdk_38_method_7_code 7 = .ok (.invokevirtual 69, 3) := by decide +kernel
theorem pd_28I295bLjava2flang2fObject3b : parseMethodDescriptor "(I)[Ljava/lang/Object;" = some ⟨[.int], some (.array (.object "java/lang/Object"))⟩ := by decide +kernel
theorem d_jdk_38_method_7_code_10 : decode jdk_38_method_7_code 10 = .ok (.areturn, 1) := by decide +kernel
theorem ef_gr0 (m : MethodId) (x0 : Addr) : entryFrame m #[(.ref x0)] 1 = mkF m 0 #[.val (.ref x0)] [] := by first | (simp [entryFrame, mkF, argsToLocals, Value.category]; done) | rfl
def Q_gr0 (Z : State) (a1 : Addr) (dce : Addr) (kd : ClassId) (mc : Int32) (h0 : Heap) (n0 : Nat) (v : Option Value) (h : Heap) (L : List Loc) : Prop := ∃ b : Addr, ∃ kk : ClassId, v = some (.ref b) ∧ Fr n0 L ∧ Keep h0 h [a1] ∧ (h0.size ≤ b) ∧ (n0 ≤ b) ∧ (Exa Z h a1 "java/util/ArrayList") ∧ (Fld Z h a1 "java/util/AbstractList" "modCount" "I" (.int mc)) ∧ (Fld Z h a1 "java/util/ArrayList" "elementData" "[Ljava/lang/Object;" (.ref b)) ∧ (Fld Z h a1 "java/util/ArrayList" "size" "I" (.int (0 : Int32))) ∧ (Arv Z h b kk (.object "java/lang/Object") (10 : Int32) (List.replicate 10 Value.null) .null) ∧ (Ovr Z kk "java/lang/Object")
set_option maxRecDepth 65536 in
set_option maxHeartbeats 40000000 in
theorem rm_gr0 (l : Launch) (Z : State) (a0 : Array Value) (hw : ∀ d ∈ tables_1, d.before a0 Z = true) (ws : List Jvm.Cond) (a1 : Addr) (dce : Addr) (kd : ClassId) (mc : Int32) (h0 : Heap) (n0 : Nat) (Z0 : n0 ≤ h0.size) (pE0 : Exa Z h0 a1 "java/util/ArrayList") (pF1 : Fld Z h0 a1 "java/util/AbstractList" "modCount" "I" (.int mc)) (pF2 : Fld Z h0 a1 "java/util/ArrayList" "elementData" "[Ljava/lang/Object;" (.ref dce)) (pF3 : Fld Z h0 a1 "java/util/ArrayList" "size" "I" (.int (0 : Int32))) (pg4 : n0 ≤ a1) (hO : Old Z n0 h0) (zS6 : Sta Z Z.heap "java/util/ArrayList" "DEFAULTCAPACITY_EMPTY_ELEMENTDATA" "[Ljava/lang/Object;" (.ref dce)) (zA7 : Arv Z Z.heap dce kd (.object "java/lang/Object") (0 : Int32) [] .null) :
    MetFree l (⟨"java/util/ArrayList", "grow", "()[Ljava/lang/Object;"⟩ : MethodName) (head1 (Jvm.Cond.code (⟨"java/util/ArrayList", "grow", "()[Ljava/lang/Object;"⟩ : MethodName) jdk_38_method_7_code 1 (some (.array (.object "java/lang/Object"))) :: ws) ({ frames := 2, cells := 1, slots := 10, locals := 29 } : Room)) (fun a U => a = #[(.ref a1)] ∧ Z.Warmed39 U.vm ∧ U.heap = h0) (fun _ _ _ _ _ => True) (fun _ U o U' => ∃ v L, o = .returned v ∧ Q_gr0 Z a1 dce kd mc h0 n0 v U'.heap L ∧ FrameEnd U o U' L ({ frames := 2, cells := 1, slots := 10, locals := 29 } : Room).cells ({ frames := 2, cells := 1, slots := 10, locals := 29 } : Room).slots) := by
  refine MetFree.of_bodySF (plainFor_of_name pn_java_util_ArrayList) hisR ?_
  intro p e s m args below meth c s₁ Bd hml0 hP hK
  obtain ⟨rfl, hZ, hh⟩ := hP
  have hx := Bd.exec
  have hby := Bd.bytes
  have hml : c.maxLocals = 1 := hml0
  have hown : s.vm.findClass "java/util/ArrayList" = some m.cls := findClass_of_methodNamed Bd.named
  have hnm := (name_of_methodNamed Bd.named Bd.method).1
  have X0 : Stand p l e ({ frames := 2, cells := 1, slots := 10, locals := 29 } : Room) s m #[(.ref a1)] below meth c s₁ [] 0 0 := Stand.of_body Bd
  have e0 : s₁.heap = h0 := by rw [← hh, Bd.state]; rfl
  have N0 := Fr.nil n0
  have P0 : Keep h0 h0 [a1] := Keep.refl _ _
  have pre0 : ∀ t, Steps p.tables e below (s₁.setTop (mkF m 0 #[.val (.ref a1)] [])) t → Steps p.tables e below (s₁.setTop (entryFrame m #[(.ref a1)] 1)) t := fun t k => castTop (ef_gr0 m a1) k
  obtain ⟨T1, X1, e1, st1⟩ := getF X0 hx hZ hown (host := "") (Or.inl (hw _ (List.mem_of_getElem? (i := 64) rfl))) Via.refl e0 pF3 (g := (mkF m 2 #[.val (.ref a1)] [(.ref a1), (.ref a1)])) rfl rfl (hb hby d_jdk_38_method_7_code_2)
  obtain ⟨cq2, q2, q2'⟩ := pE0.cell
  obtain ⟨_, _, ⟨T2, L2, k2, n2⟩, -, X2, ⟨Lc2, hQ2, l2, y2, z2⟩, st2⟩ := X1.privateBack hx (y := (⟨"java/util/ArrayList", "grow", "(I)[Ljava/lang/Object;"⟩ : MethodName)) hown (mvT hZ (hw _ (List.mem_of_getElem? (i := 76) rfl))) (mvT hZ (hw _ (List.mem_of_getElem? (i := 77) rfl))) (mvT hZ (hw _ (List.mem_of_getElem? (i := 79) rfl))) (Cond.privateMethod_at (mvP hZ (hw _ (List.mem_of_getElem? (i := 78) rfl)) (args := #[]))) (mvT hZ (hw _ (List.mem_of_getElem? (i := 80) rfl))) (by decide) (backOf (W := 0) (rm_gri l Z a0 hw [] a1 dce kd mc ((0 : Int32) + (1 : Int32)) h0 n0 (Nat.le_trans Z0 P0.1) pE0 pF1 pF2 pF3 pg4 hO zS6 zA7 (by decide)) hZ (hw _ (List.mem_of_getElem? (i := 80) rfl)) (hw _ (List.mem_of_getElem? (i := 24) rfl)) (by decide) (by decide)) (g := (mkF m 7 #[.val (.ref a1)] [(.int ((0 : Int32) + (1 : Int32))), (.ref a1)])) rfl (by rw [hml]; rfl) (Steps.refl _) (a := a1) (by rw [e1]; exact q2) q2' (argsL := [(.int ((0 : Int32) + (1 : Int32)))]) (rest := []) (lenOf pd_28I295bLjava2flang2fObject3b rfl) rfl (by show 2 * 0 + _ ≤ _; exact Nat.le_of_eq rfl) (hb hby d_jdk_38_method_7_code_7) (fun _ _ => ⟨rfl, e1, (by decide : 0 + 1 ≤ _), (by decide : 0 + 10 ≤ _)⟩)
  dsimp only [Pt.U, Pt.locs, Pt.cells, Pt.slots] at X2 l2 y2 z2 st2 hQ2
  subst l2 y2 z2
  obtain ⟨bn, kn, rfl, N2q, K2, r2_0, r2_1, r2_2, r2_3, r2_4, r2_5, r2_6, r2_7⟩ := hQ2
  have N2 := Fr.app N0 N2q
  have ne_a1_bn : a1 ≠ bn := Nat.ne_of_lt (Nat.lt_of_lt_of_le pE0.lt r2_0)
  have ge_bn : n0 ≤ bn := Nat.le_trans (Nat.le_trans Z0 P0.1) r2_0
  have sz_bn : h0.size ≤ bn := Nat.le_trans P0.1 r2_0
  have P3 : Keep h0 T2.heap [a1] := P0.trans K2 (allS (Or.inl (List.mem_of_getElem? (i := 0) rfl)) all0)
  obtain ⟨fs, hr, hrun, hended, hW, hsame⟩ := X2.leave (v := some (.ref bn)) (fun h => by rw [Bd.returns] at h; cases h)
  refine ⟨_, _, pre0 _ ?_, hrun, hended, _, _, rfl, ?_, ⟨_, rfl⟩, hW, hsame.mono (by decide) (by decide)⟩
  · show Steps p.tables e below (s₁.setTop (mkF m 0 #[.val (.ref a1)] [])) _
    refine XS.aloadN X0.here hx rfl (hb hby d_jdk_38_method_7_code_0) rfl rfl ?_
    show Steps p.tables e below (s₁.setTop (mkF m 1 #[.val (.ref a1)] [(.ref a1)])) _
    refine XS.aloadN X0.here hx rfl (hb hby d_jdk_38_method_7_code_1) rfl rfl ?_
    show Steps p.tables e below (s₁.setTop (mkF m 2 #[.val (.ref a1)] [(.ref a1), (.ref a1)])) _
    refine st1 _ ?_
    show Steps p.tables e below (T1.setTop (mkF m 5 #[.val (.ref a1)] [(.int (0 : Int32)), (.ref a1)])) _
    refine XS.iconst X1.here hx rfl (hb hby d_jdk_38_method_7_code_5) ?_
    show Steps p.tables e below (T1.setTop (mkF m 6 #[.val (.ref a1)] [(.int (1 : Int32)), (.int (0 : Int32)), (.ref a1)])) _
    refine XS.iadd X1.here hx rfl (hb hby d_jdk_38_method_7_code_6) rfl ?_
    show Steps p.tables e below (T1.setTop (mkF m 7 #[.val (.ref a1)] [(.int ((0 : Int32) + (1 : Int32))), (.ref a1)])) _
    refine st2.trans ?_
    show Steps p.tables e below (T2.setTop (mkF m 10 #[.val (.ref a1)] [(.ref bn)])) _
    exact retOut X2 hx (t := (.array (.object "java/lang/Object"))) (i := .areturn) Bd.returns rfl (Or.inr (Or.inr (Or.inr (Or.inr ⟨rfl, rfl, rfl⟩)))) (hb hby d_jdk_38_method_7_code_10) hr
  · show Q_gr0 Z a1 dce kd mc h0 n0 _ T2.heap _
    skip
    exact ⟨bn, kn, rfl, N2, P3, sz_bn, r2_1, r2_2, r2_3, r2_4, r2_5, r2_6, r2_7⟩
theorem d_jdk_38_method_24_code_0 : decode jdk_38_method_24_code 0 = .ok (.iload_n 3, 1) := by decide +kernel
theorem d_jdk_38_method_24_code_1 : decode jdk_38_method_24_code 1 = .ok (.aload_n 2, 1) := by decide +kernel
theorem d_jdk_38_method_24_code_2 : decode jdk_38_method_24_code 2 = .ok (.arraylength, 1) := by decide +kernel
theorem d_jdk_38_method_24_code_3 : decode jdk_38_method_24_code 3 = .ok (.if_icmp .ne 8, 3) := by decide +kernel
theorem d_jdk_38_method_24_code_6 : decode jdk_38_method_24_code 6 = .ok (.aload_n 0, 1) := by decide +kernel
theorem d_jdk_38_method_24_code_7 : decode jdk_38_method_24_code 7 = .ok (.invokevirtual 129, 3) := by decide +kernel
theorem pd_28295bLjava2flang2fObject3b : parseMethodDescriptor "()[Ljava/lang/Object;" = some ⟨[], some (.array (.object "java/lang/Object"))⟩ := by decide +kernel
theorem d_jdk_38_method_24_code_10 : decode jdk_38_method_24_code 10 = .ok (.astore_n 2, 1) := by decide +kernel
theorem d_jdk_38_method_24_code_11 : decode jdk_38_method_24_code 11 = .ok (.aload_n 2, 1) := by decide +kernel
theorem d_jdk_38_method_24_code_12 : decode jdk_38_method_24_code 12 = .ok (.iload_n 3, 1) := by decide +kernel
theorem d_jdk_38_method_24_code_13 : decode jdk_38_method_24_code 13 = .ok (.aload_n 1, 1) := by decide +kernel
theorem d_jdk_38_method_24_code_14 : decode jdk_38_method_24_code 14 = .ok (.aastore, 1) := by decide +kernel
theorem d_jdk_38_method_24_code_15 : decode jdk_38_method_24_code 15 = .ok (.aload_n 0, 1) := by decide +kernel
theorem d_jdk_38_method_24_code_16 : decode jdk_38_method_24_code 16 = .ok (.iload_n 3, 1) := by decide +kernel
theorem d_jdk_38_method_24_code_17 : decode jdk_38_method_24_code 17 = .ok (.iconst 1, 1) := by decide +kernel
theorem d_jdk_38_method_24_code_18 : decode jdk_38_method_24_code 18 = .ok (.iadd, 1) := by decide +kernel
theorem d_jdk_38_method_24_code_19 : decode jdk_38_method_24_code 19 = .ok (.putfield 48, 3) := by decide +kernel
theorem d_jdk_38_method_24_code_22 : decode jdk_38_method_24_code 22 = .ok (.return_, 1) := by decide +kernel
theorem ef_adF (m : MethodId) (x0 : Addr) (x1 : Addr) (x2 : Addr) (x3 : Int32) : entryFrame m #[(.ref x0), (.ref x1), (.ref x2), (.int x3)] 4 = mkF m 0 #[.val (.ref x0), .val (.ref x1), .val (.ref x2), .val (.int x3)] [] := by first | (simp [entryFrame, mkF, argsToLocals, Value.category]; done) | rfl
def Q_adF (Z : State) (a1 : Addr) (v1 : Addr) (dce : Addr) (kd : ClassId) (mc : Int32) (h0 : Heap) (n0 : Nat) (v : Option Value) (h : Heap) (L : List Loc) : Prop := ∃ ed : Addr, ∃ kk : ClassId, ∃ vs : List Value, v = none ∧ Fr n0 L ∧ Keep h0 h [a1] ∧ (h0.size ≤ ed) ∧ (n0 ≤ ed) ∧ (Exa Z h a1 "java/util/ArrayList") ∧ (Fld Z h a1 "java/util/AbstractList" "modCount" "I" (.int mc)) ∧ (Fld Z h a1 "java/util/ArrayList" "elementData" "[Ljava/lang/Object;" (.ref ed)) ∧ (Fld Z h a1 "java/util/ArrayList" "size" "I" (.int ((0 : Int32) + (1 : Int32)))) ∧ (Arv Z h ed kk (.object "java/lang/Object") (10 : Int32) vs .null) ∧ (Ovr Z kk "java/lang/Object") ∧ (vs.length = 10)
set_option maxRecDepth 65536 in
set_option maxHeartbeats 40000000 in
theorem rm_adF (l : Launch) (Z : State) (a0 : Array Value) (hw : ∀ d ∈ tables_1, d.before a0 Z = true) (ws : List Jvm.Cond) (a1 : Addr) (v1 : Addr) (dce : Addr) (kd : ClassId) (mc : Int32) (h0 : Heap) (n0 : Nat) (Z0 : n0 ≤ h0.size) (pE0 : Exa Z h0 a1 "java/util/ArrayList") (pF1 : Fld Z h0 a1 "java/util/AbstractList" "modCount" "I" (.int mc)) (pF2 : Fld Z h0 a1 "java/util/ArrayList" "elementData" "[Ljava/lang/Object;" (.ref dce)) (pF3 : Fld Z h0 a1 "java/util/ArrayList" "size" "I" (.int (0 : Int32))) (pg4 : n0 ≤ a1) (hO : Old Z n0 h0) (zS6 : Sta Z Z.heap "java/util/ArrayList" "DEFAULTCAPACITY_EMPTY_ELEMENTDATA" "[Ljava/lang/Object;" (.ref dce)) (zA7 : Arv Z Z.heap dce kd (.object "java/lang/Object") (0 : Int32) [] .null) (zE8 : Exa Z Z.heap v1 "java/lang/Integer") :
    MetFree l (⟨"java/util/ArrayList", "add", "(Ljava/lang/Object;[Ljava/lang/Object;I)V"⟩ : MethodName) (head1 (Jvm.Cond.code (⟨"java/util/ArrayList", "add", "(Ljava/lang/Object;[Ljava/lang/Object;I)V"⟩ : MethodName) jdk_38_method_24_code 4 none :: ws) ({ frames := 3, cells := 1, slots := 10, locals := 41 } : Room)) (fun a U => a = #[(.ref a1), (.ref v1), (.ref dce), (.int (0 : Int32))] ∧ Z.Warmed39 U.vm ∧ U.heap = h0) (fun _ _ _ _ _ => True) (fun _ U o U' => ∃ v L, o = .returned v ∧ Q_adF Z a1 v1 dce kd mc h0 n0 v U'.heap L ∧ FrameEnd U o U' L ({ frames := 3, cells := 1, slots := 10, locals := 41 } : Room).cells ({ frames := 3, cells := 1, slots := 10, locals := 41 } : Room).slots) := by
  refine MetFree.of_bodySF (plainFor_of_name pn_java_util_ArrayList) hisR ?_
  intro p e s m args below meth c s₁ Bd hml0 hP hK
  obtain ⟨rfl, hZ, hh⟩ := hP
  have hx := Bd.exec
  have hby := Bd.bytes
  have hml : c.maxLocals = 4 := hml0
  have hown : s.vm.findClass "java/util/ArrayList" = some m.cls := findClass_of_methodNamed Bd.named
  have hnm := (name_of_methodNamed Bd.named Bd.method).1
  have X0 : Stand p l e ({ frames := 3, cells := 1, slots := 10, locals := 41 } : Room) s m #[(.ref a1), (.ref v1), (.ref dce), (.int (0 : Int32))] below meth c s₁ [] 0 0 := Stand.of_body Bd
  have e0 : s₁.heap = h0 := by rw [← hh, Bd.state]; rfl
  have N0 := Fr.nil n0
  have P0 : Keep h0 h0 [a1] := Keep.refl _ _
  have pre0 : ∀ t, Steps p.tables e below (s₁.setTop (mkF m 0 #[.val (.ref a1), .val (.ref v1), .val (.ref dce), .val (.int (0 : Int32))] [])) t → Steps p.tables e below (s₁.setTop (entryFrame m #[(.ref a1), (.ref v1), (.ref dce), (.int (0 : Int32))] 4)) t := fun t k => castTop (ef_adF m a1 v1 dce (0 : Int32)) k
  have A2 : Arv Z h0 dce kd (.object "java/lang/Object") (0 : Int32) [] .null := zA7.ext hO.2
  obtain ⟨cl1, Ar1, qk1, Sz1, Nz1, Ha1, Ga1⟩ := id A2
  obtain ⟨cq3, q3, q3'⟩ := pE0.cell
  obtain ⟨_, _, ⟨T3, L3, k3, n3⟩, -, X3, ⟨Lc3, hQ3, l3, y3, z3⟩, st3⟩ := X0.privateBack hx (y := (⟨"java/util/ArrayList", "grow", "()[Ljava/lang/Object;"⟩ : MethodName)) hown (mvT hZ (hw _ (List.mem_of_getElem? (i := 71) rfl))) (mvT hZ (hw _ (List.mem_of_getElem? (i := 72) rfl))) (mvT hZ (hw _ (List.mem_of_getElem? (i := 74) rfl))) (Cond.privateMethod_at (mvP hZ (hw _ (List.mem_of_getElem? (i := 73) rfl)) (args := #[]))) (mvT hZ (hw _ (List.mem_of_getElem? (i := 75) rfl))) (by decide) (backOf (W := 0) (rm_gr0 l Z a0 hw [] a1 dce kd mc h0 n0 (Nat.le_trans Z0 P0.1) pE0 pF1 pF2 pF3 pg4 hO zS6 zA7) hZ (hw _ (List.mem_of_getElem? (i := 75) rfl)) (hw _ (List.mem_of_getElem? (i := 24) rfl)) (by decide) (by decide)) (g := (mkF m 7 #[.val (.ref a1), .val (.ref v1), .val (.ref dce), .val (.int (0 : Int32))] [(.ref a1)])) rfl (by rw [hml]; rfl) (Steps.refl _) (a := a1) (by rw [e0]; exact q3) q3' (argsL := []) (rest := []) (lenOf pd_28295bLjava2flang2fObject3b rfl) rfl (by show 2 * 0 + _ ≤ _; exact Nat.le_of_eq rfl) (hb hby d_jdk_38_method_24_code_7) (fun _ _ => ⟨rfl, e0, (by decide : 0 + 1 ≤ _), (by decide : 0 + 10 ≤ _)⟩)
  dsimp only [Pt.U, Pt.locs, Pt.cells, Pt.slots] at X3 l3 y3 z3 st3 hQ3
  subst l3 y3 z3
  obtain ⟨bn, kn, rfl, N3q, K3, r3_0, r3_1, r3_2, r3_3, r3_4, r3_5, r3_6, r3_7⟩ := hQ3
  have N3 := Fr.app N0 N3q
  have ne_a1_bn : a1 ≠ bn := Nat.ne_of_lt (Nat.lt_of_lt_of_le pE0.lt r3_0)
  have ge_bn : n0 ≤ bn := Nat.le_trans (Nat.le_trans Z0 P0.1) r3_0
  have sz_bn : h0.size ≤ bn := Nat.le_trans P0.1 r3_0
  have P4 : Keep h0 T3.heap [a1] := P0.trans K3 (allS (Or.inl (List.mem_of_getElem? (i := 0) rfl)) all0)
  obtain ⟨cl5, Ar5, qk5, Sz5, Nz5, Ha5, Ga5⟩ := id r3_6
  have hin5 : ¬ ((0 : Int32) < 0 ∨ cl5.slots.size ≤ ((0 : Int32)).toNatClampNeg) := inb_of Sz5 ⟨by decide, by decide⟩
  have O6 : Old Z n0 T3.heap := hO.keep P4 (allS pg4 all0)
  have E7 : Exa Z T3.heap v1 "java/lang/Integer" := Exa.ext O6.2 zE8
  obtain ⟨T5, h5, X5, e5, W5, st5⟩ := stR X3 hx hZ rfl Ar5 (j := (0 : Int32)) hin5 rfl (Sto.ofV Ar5 qk5 r3_7 (Ins.of_exa E7 (hw _ (List.mem_of_getElem? (i := 87) rfl)))) (g := (mkF m 14 #[.val (.ref a1), .val (.ref v1), .val (.ref bn), .val (.int (0 : Int32))] [(.ref v1), (.int (0 : Int32)), (.ref bn)])) rfl rfl (hb hby d_jdk_38_method_24_code_14)
  have P8 : Keep h0 h5 [a1] := P4.wr W5 (Or.inr sz_bn)
  have V9 : Arv Z h5 bn kn (.object "java/lang/Object") (10 : Int32) (List.set (List.replicate 10 Value.null) 0 (.ref v1)) .null := Arv.set Ar5 qk5 Sz5 Nz5 Ha5 Ga5 rfl W5 0 (by decide) (by decide)
  have N5 := Fr.snoc X5 N3 r3_1
  have F10 : Fld Z h5 a1 "java/util/ArrayList" "size" "I" (.int (0 : Int32)) := (Fld.other W5 r3_5 (Or.inl ne_a1_bn))
  have E11 : Exa Z h5 a1 "java/util/ArrayList" := (Exa.wr W5 r3_2)
  obtain ⟨T12, h12, X12, e12, W12, st12⟩ := putF X5 hx hZ hown (host := "") (Or.inl (hw _ (List.mem_of_getElem? (i := 64) rfl))) Via.refl e5 F10 E11 (Or.inl (hw _ (List.mem_of_getElem? (i := 65) rfl))) (hw _ (List.mem_of_getElem? (i := 23) rfl)) (ty := .int) (by decide) rfl rfl (g := (mkF m 19 #[.val (.ref a1), .val (.ref v1), .val (.ref bn), .val (.int (0 : Int32))] [(.int ((0 : Int32) + (1 : Int32))), (.ref a1)])) rfl rfl (hb hby d_jdk_38_method_24_code_19)
  have P13 : Keep h0 h12 [a1] := P8.wr W12 (Or.inl (List.mem_of_getElem? (i := 0) rfl))
  have F14 : Fld Z h12 a1 "java/util/ArrayList" "size" "I" (.int ((0 : Int32) + (1 : Int32))) := Fld.same W12 F10
  have N12 := Fr.snoc X12 N5 pg4
  have E15 : Exa Z h12 a1 "java/util/ArrayList" := (Exa.wr W12 E11)
  have F16 : Fld Z h12 a1 "java/util/AbstractList" "modCount" "I" (.int mc) := (Fld.other W12 (Fld.other W5 r3_3 (Or.inl ne_a1_bn)) (Or.inr (slot_ne (t := .int) (t' := .int) (C := "java/util/ArrayList") (a0 := a0) (Or.inl (hw _ (List.mem_of_getElem? (i := 42) rfl))) (Or.inl (hw _ (List.mem_of_getElem? (i := 65) rfl))) (by decide) (by decide) (by decide))))
  have F17 : Fld Z h12 a1 "java/util/ArrayList" "elementData" "[Ljava/lang/Object;" (.ref bn) := (Fld.other W12 (Fld.other W5 r3_4 (Or.inl ne_a1_bn)) (Or.inr (slot_ne (t := (.array (.object "java/lang/Object"))) (t' := .int) (C := "java/util/ArrayList") (a0 := a0) (Or.inl (hw _ (List.mem_of_getElem? (i := 45) rfl))) (Or.inl (hw _ (List.mem_of_getElem? (i := 65) rfl))) (by decide) (by decide) (by decide))))
  have A18 : Arv Z h12 bn kn (.object "java/lang/Object") (10 : Int32) (List.set (List.replicate 10 Value.null) 0 (.ref v1)) .null := (V9.other W12 ne_a1_bn.symm)
  obtain ⟨fs, hr, hrun, hended, hW, hsame⟩ := X12.leave (v := none) (fun _ => rfl)
  refine ⟨_, _, pre0 _ ?_, hrun, hended, _, _, rfl, ?_, ⟨_, rfl⟩, hW, hsame.mono (by decide) (by decide)⟩
  · show Steps p.tables e below (s₁.setTop (mkF m 0 #[.val (.ref a1), .val (.ref v1), .val (.ref dce), .val (.int (0 : Int32))] [])) _
    refine XS.iloadN X0.here hx rfl (hb hby d_jdk_38_method_24_code_0) rfl ?_
    show Steps p.tables e below (s₁.setTop (mkF m 1 #[.val (.ref a1), .val (.ref v1), .val (.ref dce), .val (.int (0 : Int32))] [(.int (0 : Int32))])) _
    refine XS.aloadN X0.here hx rfl (hb hby d_jdk_38_method_24_code_1) rfl rfl ?_
    show Steps p.tables e below (s₁.setTop (mkF m 2 #[.val (.ref a1), .val (.ref v1), .val (.ref dce), .val (.int (0 : Int32))] [(.ref dce), (.int (0 : Int32))])) _
    refine X0.arraylength hx (by rw [e0]; exact Ar1.1) (State.isArrayOf_alike hZ.alike Ar1.2.1) (g := (mkF m 2 #[.val (.ref a1), .val (.ref v1), .val (.ref dce), .val (.int (0 : Int32))] [(.ref dce), (.int (0 : Int32))])) rfl rfl (hb hby d_jdk_38_method_24_code_2) _ ?_
    rw [len_of Sz1 Nz1]
    show Steps p.tables e below (s₁.setTop (mkF m 3 #[.val (.ref a1), .val (.ref v1), .val (.ref dce), .val (.int (0 : Int32))] [(.int (0 : Int32)), (.int (0 : Int32))])) _
    refine XS.icmpNo X0.here hx rfl (hb hby d_jdk_38_method_24_code_3) rfl (teq (by decide : (0 : Int32) = (0 : Int32))).2 ?_
    show Steps p.tables e below (s₁.setTop (mkF m 6 #[.val (.ref a1), .val (.ref v1), .val (.ref dce), .val (.int (0 : Int32))] [])) _
    refine XS.aloadN X0.here hx rfl (hb hby d_jdk_38_method_24_code_6) rfl rfl ?_
    show Steps p.tables e below (s₁.setTop (mkF m 7 #[.val (.ref a1), .val (.ref v1), .val (.ref dce), .val (.int (0 : Int32))] [(.ref a1)])) _
    refine st3.trans ?_
    show Steps p.tables e below (T3.setTop (mkF m 10 #[.val (.ref a1), .val (.ref v1), .val (.ref dce), .val (.int (0 : Int32))] [(.ref bn)])) _
    refine XS.astoreN X3.here hx rfl (hb hby d_jdk_38_method_24_code_10) rfl rfl (l' := #[.val (.ref a1), .val (.ref v1), .val (.ref bn), .val (.int (0 : Int32))]) rfl ?_
    show Steps p.tables e below (T3.setTop (mkF m 11 #[.val (.ref a1), .val (.ref v1), .val (.ref bn), .val (.int (0 : Int32))] [])) _
    refine XS.aloadN X3.here hx rfl (hb hby d_jdk_38_method_24_code_11) rfl rfl ?_
    show Steps p.tables e below (T3.setTop (mkF m 12 #[.val (.ref a1), .val (.ref v1), .val (.ref bn), .val (.int (0 : Int32))] [(.ref bn)])) _
    refine XS.iloadN X3.here hx rfl (hb hby d_jdk_38_method_24_code_12) rfl ?_
    show Steps p.tables e below (T3.setTop (mkF m 13 #[.val (.ref a1), .val (.ref v1), .val (.ref bn), .val (.int (0 : Int32))] [(.int (0 : Int32)), (.ref bn)])) _
    refine XS.aloadN X3.here hx rfl (hb hby d_jdk_38_method_24_code_13) rfl rfl ?_
    show Steps p.tables e below (T3.setTop (mkF m 14 #[.val (.ref a1), .val (.ref v1), .val (.ref bn), .val (.int (0 : Int32))] [(.ref v1), (.int (0 : Int32)), (.ref bn)])) _
    refine st5 _ ?_
    show Steps p.tables e below (T5.setTop (mkF m 15 #[.val (.ref a1), .val (.ref v1), .val (.ref bn), .val (.int (0 : Int32))] [])) _
    refine XS.aloadN X5.here hx rfl (hb hby d_jdk_38_method_24_code_15) rfl rfl ?_
    show Steps p.tables e below (T5.setTop (mkF m 16 #[.val (.ref a1), .val (.ref v1), .val (.ref bn), .val (.int (0 : Int32))] [(.ref a1)])) _
    refine XS.iloadN X5.here hx rfl (hb hby d_jdk_38_method_24_code_16) rfl ?_
    show Steps p.tables e below (T5.setTop (mkF m 17 #[.val (.ref a1), .val (.ref v1), .val (.ref bn), .val (.int (0 : Int32))] [(.int (0 : Int32)), (.ref a1)])) _
    refine XS.iconst X5.here hx rfl (hb hby d_jdk_38_method_24_code_17) ?_
    show Steps p.tables e below (T5.setTop (mkF m 18 #[.val (.ref a1), .val (.ref v1), .val (.ref bn), .val (.int (0 : Int32))] [(.int (1 : Int32)), (.int (0 : Int32)), (.ref a1)])) _
    refine XS.iadd X5.here hx rfl (hb hby d_jdk_38_method_24_code_18) rfl ?_
    show Steps p.tables e below (T5.setTop (mkF m 19 #[.val (.ref a1), .val (.ref v1), .val (.ref bn), .val (.int (0 : Int32))] [(.int ((0 : Int32) + (1 : Int32))), (.ref a1)])) _
    refine st12 _ ?_
    show Steps p.tables e below (T12.setTop (mkF m 22 #[.val (.ref a1), .val (.ref v1), .val (.ref bn), .val (.int (0 : Int32))] [])) _
    exact X12.returnOut hx Bd.returns (hb hby d_jdk_38_method_24_code_22) hr
  · show Q_adF Z a1 v1 dce kd mc h0 n0 _ T12.heap _
    rw [e12]
    exact ⟨bn, kn, (List.set (List.replicate 10 Value.null) 0 (.ref v1)), rfl, N12, P13, sz_bn, r3_1, E15, F16, F17, F14, A18, r3_7, rfl⟩
theorem ef_adR (m : MethodId) (x0 : Addr) (x1 : Addr) (x2 : Addr) (x3 : Int32) : entryFrame m #[(.ref x0), (.ref x1), (.ref x2), (.int x3)] 4 = mkF m 0 #[.val (.ref x0), .val (.ref x1), .val (.ref x2), .val (.int x3)] [] := by first | (simp [entryFrame, mkF, argsToLocals, Value.category]; done) | rfl
def Q_adR (Z : State) (a1 : Addr) (v1 : Addr) (ed : Addr) (kk : ClassId) (vs : List Value) (mc : Int32) (n1 : Int32) (h0 : Heap) (n0 : Nat) (v : Option Value) (h : Heap) (L : List Loc) : Prop := ∃ vs2 : List Value, v = none ∧ Fr n0 L ∧ Keep h0 h [a1, ed] ∧ (Exa Z h a1 "java/util/ArrayList") ∧ (Fld Z h a1 "java/util/AbstractList" "modCount" "I" (.int mc)) ∧ (Fld Z h a1 "java/util/ArrayList" "elementData" "[Ljava/lang/Object;" (.ref ed)) ∧ (Fld Z h a1 "java/util/ArrayList" "size" "I" (.int (n1 + (1 : Int32)))) ∧ (Arv Z h ed kk (.object "java/lang/Object") (10 : Int32) vs2 .null) ∧ (vs2.length = 10)
set_option maxRecDepth 65536 in
set_option maxHeartbeats 40000000 in
theorem rm_adR (l : Launch) (Z : State) (a0 : Array Value) (hw : ∀ d ∈ tables_1, d.before a0 Z = true) (ws : List Jvm.Cond) (a1 : Addr) (v1 : Addr) (ed : Addr) (kk : ClassId) (vs : List Value) (mc : Int32) (n1 : Int32) (h0 : Heap) (n0 : Nat) (Z0 : n0 ≤ h0.size) (pE0 : Exa Z h0 a1 "java/util/ArrayList") (pF1 : Fld Z h0 a1 "java/util/AbstractList" "modCount" "I" (.int mc)) (pF2 : Fld Z h0 a1 "java/util/ArrayList" "elementData" "[Ljava/lang/Object;" (.ref ed)) (pF3 : Fld Z h0 a1 "java/util/ArrayList" "size" "I" (.int n1)) (pA4 : Arv Z h0 ed kk (.object "java/lang/Object") (10 : Int32) vs .null) (pg5 : n0 ≤ a1) (pg6 : n0 ≤ ed) (pn7 : a1 ≠ ed) (hO : Old Z n0 h0) (zE9 : Exa Z Z.heap v1 "java/lang/Integer") (hov : Ovr Z kk "java/lang/Object") (hv : vs.length = 10) (hne : ¬ (n1 = (10 : Int32))) (hn0 : ¬ (n1 < (0 : Int32))) (hn1 : n1 < (10 : Int32)) :
    MetFree l (⟨"java/util/ArrayList", "add", "(Ljava/lang/Object;[Ljava/lang/Object;I)V"⟩ : MethodName) (head1 (Jvm.Cond.code (⟨"java/util/ArrayList", "add", "(Ljava/lang/Object;[Ljava/lang/Object;I)V"⟩ : MethodName) jdk_38_method_24_code 4 none :: ws) ({ frames := 0, cells := 0, slots := 0, locals := 0 } : Room)) (fun a U => a = #[(.ref a1), (.ref v1), (.ref ed), (.int n1)] ∧ Z.Warmed39 U.vm ∧ U.heap = h0) (fun _ _ _ _ _ => True) (fun _ U o U' => ∃ v L, o = .returned v ∧ Q_adR Z a1 v1 ed kk vs mc n1 h0 n0 v U'.heap L ∧ FrameEnd U o U' L ({ frames := 0, cells := 0, slots := 0, locals := 0 } : Room).cells ({ frames := 0, cells := 0, slots := 0, locals := 0 } : Room).slots) := by
  refine MetFree.of_bodySF (plainFor_of_name pn_java_util_ArrayList) hisR ?_
  intro p e s m args below meth c s₁ Bd hml0 hP hK
  obtain ⟨rfl, hZ, hh⟩ := hP
  have hx := Bd.exec
  have hby := Bd.bytes
  have hml : c.maxLocals = 4 := hml0
  have hown : s.vm.findClass "java/util/ArrayList" = some m.cls := findClass_of_methodNamed Bd.named
  have hnm := (name_of_methodNamed Bd.named Bd.method).1
  have X0 : Stand p l e ({ frames := 0, cells := 0, slots := 0, locals := 0 } : Room) s m #[(.ref a1), (.ref v1), (.ref ed), (.int n1)] below meth c s₁ [] 0 0 := Stand.of_body Bd
  have e0 : s₁.heap = h0 := by rw [← hh, Bd.state]; rfl
  have N0 := Fr.nil n0
  have P0 : Keep h0 h0 [a1, ed] := Keep.refl _ _
  have pre0 : ∀ t, Steps p.tables e below (s₁.setTop (mkF m 0 #[.val (.ref a1), .val (.ref v1), .val (.ref ed), .val (.int n1)] [])) t → Steps p.tables e below (s₁.setTop (entryFrame m #[(.ref a1), (.ref v1), (.ref ed), (.int n1)] 4)) t := fun t k => castTop (ef_adR m a1 v1 ed n1) k
  obtain ⟨cl1, Ar1, qk1, Sz1, Nz1, Ha1, Ga1⟩ := id pA4
  obtain ⟨cl2, Ar2, qk2, Sz2, Nz2, Ha2, Ga2⟩ := id pA4
  have hin2 : ¬ (n1 < 0 ∨ cl2.slots.size ≤ (n1).toNatClampNeg) := inb_of Sz2 ⟨hn0, hn1⟩
  have E3 : Exa Z h0 v1 "java/lang/Integer" := Exa.ext hO.2 zE9
  obtain ⟨T2, h2, X2, e2, W2, st2⟩ := stR X0 hx hZ e0 Ar2 (j := n1) hin2 rfl (Sto.ofV Ar2 qk2 hov (Ins.of_exa E3 (hw _ (List.mem_of_getElem? (i := 87) rfl)))) (g := (mkF m 14 #[.val (.ref a1), .val (.ref v1), .val (.ref ed), .val (.int n1)] [(.ref v1), (.int n1), (.ref ed)])) rfl rfl (hb hby d_jdk_38_method_24_code_14)
  have P4 : Keep h0 h2 [a1, ed] := P0.wr W2 (Or.inl (List.mem_of_getElem? (i := 1) rfl))
  have V5 : Arv Z h2 ed kk (.object "java/lang/Object") (10 : Int32) (List.set vs (n1).toNatClampNeg (.ref v1)) .null := Arv.set Ar2 qk2 Sz2 Nz2 Ha2 Ga2 rfl W2 (n1).toNatClampNeg rfl (own_il10 hn0 hn1 hv)
  have N2 := Fr.snoc X2 N0 pg6
  have F6 : Fld Z h2 a1 "java/util/ArrayList" "size" "I" (.int n1) := (Fld.other W2 pF3 (Or.inl pn7))
  have E7 : Exa Z h2 a1 "java/util/ArrayList" := (Exa.wr W2 pE0)
  obtain ⟨T8, h8, X8, e8, W8, st8⟩ := putF X2 hx hZ hown (host := "") (Or.inl (hw _ (List.mem_of_getElem? (i := 64) rfl))) Via.refl e2 F6 E7 (Or.inl (hw _ (List.mem_of_getElem? (i := 65) rfl))) (hw _ (List.mem_of_getElem? (i := 23) rfl)) (ty := .int) (by decide) rfl rfl (g := (mkF m 19 #[.val (.ref a1), .val (.ref v1), .val (.ref ed), .val (.int n1)] [(.int (n1 + (1 : Int32))), (.ref a1)])) rfl rfl (hb hby d_jdk_38_method_24_code_19)
  have P9 : Keep h0 h8 [a1, ed] := P4.wr W8 (Or.inl (List.mem_of_getElem? (i := 0) rfl))
  have F10 : Fld Z h8 a1 "java/util/ArrayList" "size" "I" (.int (n1 + (1 : Int32))) := Fld.same W8 F6
  have N8 := Fr.snoc X8 N2 pg5
  have E11 : Exa Z h8 a1 "java/util/ArrayList" := (Exa.wr W8 E7)
  have F12 : Fld Z h8 a1 "java/util/AbstractList" "modCount" "I" (.int mc) := (Fld.other W8 (Fld.other W2 pF1 (Or.inl pn7)) (Or.inr (slot_ne (t := .int) (t' := .int) (C := "java/util/ArrayList") (a0 := a0) (Or.inl (hw _ (List.mem_of_getElem? (i := 42) rfl))) (Or.inl (hw _ (List.mem_of_getElem? (i := 65) rfl))) (by decide) (by decide) (by decide))))
  have F13 : Fld Z h8 a1 "java/util/ArrayList" "elementData" "[Ljava/lang/Object;" (.ref ed) := (Fld.other W8 (Fld.other W2 pF2 (Or.inl pn7)) (Or.inr (slot_ne (t := (.array (.object "java/lang/Object"))) (t' := .int) (C := "java/util/ArrayList") (a0 := a0) (Or.inl (hw _ (List.mem_of_getElem? (i := 45) rfl))) (Or.inl (hw _ (List.mem_of_getElem? (i := 65) rfl))) (by decide) (by decide) (by decide))))
  have A14 : Arv Z h8 ed kk (.object "java/lang/Object") (10 : Int32) (List.set vs (n1).toNatClampNeg (.ref v1)) .null := (V5.other W8 pn7.symm)
  obtain ⟨fs, hr, hrun, hended, hW, hsame⟩ := X8.leave (v := none) (fun _ => rfl)
  refine ⟨_, _, pre0 _ ?_, hrun, hended, _, _, rfl, ?_, ⟨_, rfl⟩, hW, hsame.mono (by decide) (by decide)⟩
  · show Steps p.tables e below (s₁.setTop (mkF m 0 #[.val (.ref a1), .val (.ref v1), .val (.ref ed), .val (.int n1)] [])) _
    refine XS.iloadN X0.here hx rfl (hb hby d_jdk_38_method_24_code_0) rfl ?_
    show Steps p.tables e below (s₁.setTop (mkF m 1 #[.val (.ref a1), .val (.ref v1), .val (.ref ed), .val (.int n1)] [(.int n1)])) _
    refine XS.aloadN X0.here hx rfl (hb hby d_jdk_38_method_24_code_1) rfl rfl ?_
    show Steps p.tables e below (s₁.setTop (mkF m 2 #[.val (.ref a1), .val (.ref v1), .val (.ref ed), .val (.int n1)] [(.ref ed), (.int n1)])) _
    refine X0.arraylength hx (by rw [e0]; exact Ar1.1) (State.isArrayOf_alike hZ.alike Ar1.2.1) (g := (mkF m 2 #[.val (.ref a1), .val (.ref v1), .val (.ref ed), .val (.int n1)] [(.ref ed), (.int n1)])) rfl rfl (hb hby d_jdk_38_method_24_code_2) _ ?_
    rw [len_of Sz1 Nz1]
    show Steps p.tables e below (s₁.setTop (mkF m 3 #[.val (.ref a1), .val (.ref v1), .val (.ref ed), .val (.int n1)] [(.int (10 : Int32)), (.int n1)])) _
    refine XS.icmpYes X0.here hx rfl (pc0 := 3) (pc' := 11) rfl (hb hby d_jdk_38_method_24_code_3) rfl (feq (hne : ¬ (n1 = (10 : Int32)))).2 (by decide) (by decide) ?_
    show Steps p.tables e below (s₁.setTop (mkF m 11 #[.val (.ref a1), .val (.ref v1), .val (.ref ed), .val (.int n1)] [])) _
    refine XS.aloadN X0.here hx rfl (hb hby d_jdk_38_method_24_code_11) rfl rfl ?_
    show Steps p.tables e below (s₁.setTop (mkF m 12 #[.val (.ref a1), .val (.ref v1), .val (.ref ed), .val (.int n1)] [(.ref ed)])) _
    refine XS.iloadN X0.here hx rfl (hb hby d_jdk_38_method_24_code_12) rfl ?_
    show Steps p.tables e below (s₁.setTop (mkF m 13 #[.val (.ref a1), .val (.ref v1), .val (.ref ed), .val (.int n1)] [(.int n1), (.ref ed)])) _
    refine XS.aloadN X0.here hx rfl (hb hby d_jdk_38_method_24_code_13) rfl rfl ?_
    show Steps p.tables e below (s₁.setTop (mkF m 14 #[.val (.ref a1), .val (.ref v1), .val (.ref ed), .val (.int n1)] [(.ref v1), (.int n1), (.ref ed)])) _
    refine st2 _ ?_
    show Steps p.tables e below (T2.setTop (mkF m 15 #[.val (.ref a1), .val (.ref v1), .val (.ref ed), .val (.int n1)] [])) _
    refine XS.aloadN X2.here hx rfl (hb hby d_jdk_38_method_24_code_15) rfl rfl ?_
    show Steps p.tables e below (T2.setTop (mkF m 16 #[.val (.ref a1), .val (.ref v1), .val (.ref ed), .val (.int n1)] [(.ref a1)])) _
    refine XS.iloadN X2.here hx rfl (hb hby d_jdk_38_method_24_code_16) rfl ?_
    show Steps p.tables e below (T2.setTop (mkF m 17 #[.val (.ref a1), .val (.ref v1), .val (.ref ed), .val (.int n1)] [(.int n1), (.ref a1)])) _
    refine XS.iconst X2.here hx rfl (hb hby d_jdk_38_method_24_code_17) ?_
    show Steps p.tables e below (T2.setTop (mkF m 18 #[.val (.ref a1), .val (.ref v1), .val (.ref ed), .val (.int n1)] [(.int (1 : Int32)), (.int n1), (.ref a1)])) _
    refine XS.iadd X2.here hx rfl (hb hby d_jdk_38_method_24_code_18) rfl ?_
    show Steps p.tables e below (T2.setTop (mkF m 19 #[.val (.ref a1), .val (.ref v1), .val (.ref ed), .val (.int n1)] [(.int (n1 + (1 : Int32))), (.ref a1)])) _
    refine st8 _ ?_
    show Steps p.tables e below (T8.setTop (mkF m 22 #[.val (.ref a1), .val (.ref v1), .val (.ref ed), .val (.int n1)] [])) _
    exact X8.returnOut hx Bd.returns (hb hby d_jdk_38_method_24_code_22) hr
  · show Q_adR Z a1 v1 ed kk vs mc n1 h0 n0 _ T8.heap _
    rw [e8]
    exact ⟨(List.set vs (n1).toNatClampNeg (.ref v1)), rfl, N8, P9, E11, F12, F13, F10, A14, (by rw [List.length_set]; exact hv)⟩
theorem d_jdk_38_method_25_code_0 : decode jdk_38_method_25_code 0 = .ok (.aload_n 0, 1) := by decide +kernel
theorem d_jdk_38_method_25_code_1 : decode jdk_38_method_25_code 1 = .ok (.dup, 1) := by decide +kernel
theorem d_jdk_38_method_25_code_2 : decode jdk_38_method_25_code 2 = .ok (.getfield 63, 3) := by decide +kernel
theorem d_jdk_38_method_25_code_5 : decode jdk_38_method_25_code 5 = .ok (.iconst 1, 1) := by decide +kernel
theorem d_jdk_38_method_25_code_6 : decode jdk_38_method_25_code 6 = .ok (.iadd, 1) := by decide +kernel
theorem d_jdk_38_method_25_code_7 : decode jdk_38_method_25_code 7 = .ok (.putfield 63, 3) := by decide +kernel
theorem d_jdk_38_method_25_code_10 : decode jdk_38_method_25_code 10 = .ok (.aload_n 0, 1) := by decide +kernel
theorem d_jdk_38_method_25_code_11 : decode jdk_38_method_25_code 11 = .ok (.aload_n 1, 1) := by decide +kernel
theorem d_jdk_38_method_25_code_12 : decode jdk_38_method_25_code 12 = .ok (.aload_n 0, 1) := by decide +kernel
theorem d_jdk_38_method_25_code_13 : decode jdk_38_method_25_code 13 = .ok (.getfield 9, 3) := by decide +kernel
theorem d_jdk_38_method_25_code_16 : decode jdk_38_method_25_code 16 = .ok (.aload_n 0, 1) := by decide +kernel
theorem d_jdk_38_method_25_code_17 : decode jdk_38_method_25_code 17 = .ok (.getfield 48, 3) := by decide +kernel
theorem d_jdk_38_method_25_code_20 : decode jdk_38_method_25_code 20 = .ok (.invokevirtual 131, 3) := by decide +kernel
theorem pd_28Ljava2flang2fObject3b5bLjava2flang2fObject3bI29V : parseMethodDescriptor "(Ljava/lang/Object;[Ljava/lang/Object;I)V" = some ⟨[(.object "java/lang/Object"), (.array (.object "java/lang/Object")), .int], none⟩ := by decide +kernel
theorem d_jdk_38_method_25_code_23 : decode jdk_38_method_25_code 23 = .ok (.iconst 1, 1) := by decide +kernel
theorem d_jdk_38_method_25_code_24 : decode jdk_38_method_25_code 24 = .ok (.ireturn, 1) := by decide +kernel
theorem ef_addF (m : MethodId) (x0 : Addr) (x1 : Addr) : entryFrame m #[(.ref x0), (.ref x1)] 2 = mkF m 0 #[.val (.ref x0), .val (.ref x1)] [] := by first | (simp [entryFrame, mkF, argsToLocals, Value.category]; done) | rfl
def Q_addF (Z : State) (a1 : Addr) (v1 : Addr) (dce : Addr) (kd : ClassId) (mc : Int32) (h0 : Heap) (n0 : Nat) (v : Option Value) (h : Heap) (L : List Loc) : Prop := ∃ ed : Addr, ∃ kk : ClassId, ∃ vs : List Value, v = some (.int (1 : Int32)) ∧ Fr n0 L ∧ Keep h0 h [a1] ∧ (h0.size ≤ ed) ∧ (n0 ≤ ed) ∧ (Exa Z h a1 "java/util/ArrayList") ∧ (Fld Z h a1 "java/util/AbstractList" "modCount" "I" (.int (mc + (1 : Int32)))) ∧ (Fld Z h a1 "java/util/ArrayList" "elementData" "[Ljava/lang/Object;" (.ref ed)) ∧ (Fld Z h a1 "java/util/ArrayList" "size" "I" (.int ((0 : Int32) + (1 : Int32)))) ∧ (Arv Z h ed kk (.object "java/lang/Object") (10 : Int32) vs .null) ∧ (Ovr Z kk "java/lang/Object") ∧ (vs.length = 10)
set_option maxRecDepth 65536 in
set_option maxHeartbeats 40000000 in
theorem rm_addF (l : Launch) (Z : State) (a0 : Array Value) (hw : ∀ d ∈ tables_1, d.before a0 Z = true) (ws : List Jvm.Cond) (a1 : Addr) (v1 : Addr) (dce : Addr) (kd : ClassId) (mc : Int32) (h0 : Heap) (n0 : Nat) (Z0 : n0 ≤ h0.size) (pE0 : Exa Z h0 a1 "java/util/ArrayList") (pF1 : Fld Z h0 a1 "java/util/AbstractList" "modCount" "I" (.int mc)) (pF2 : Fld Z h0 a1 "java/util/ArrayList" "elementData" "[Ljava/lang/Object;" (.ref dce)) (pF3 : Fld Z h0 a1 "java/util/ArrayList" "size" "I" (.int (0 : Int32))) (pg4 : n0 ≤ a1) (hO : Old Z n0 h0) (zS6 : Sta Z Z.heap "java/util/ArrayList" "DEFAULTCAPACITY_EMPTY_ELEMENTDATA" "[Ljava/lang/Object;" (.ref dce)) (zA7 : Arv Z Z.heap dce kd (.object "java/lang/Object") (0 : Int32) [] .null) (zE8 : Exa Z Z.heap v1 "java/lang/Integer") :
    MetFree l (⟨"java/util/ArrayList", "add", "(Ljava/lang/Object;)Z"⟩ : MethodName) (head1 (Jvm.Cond.code (⟨"java/util/ArrayList", "add", "(Ljava/lang/Object;)Z"⟩ : MethodName) jdk_38_method_25_code 2 (some .boolean) :: ws) ({ frames := 4, cells := 1, slots := 10, locals := 56 } : Room)) (fun a U => a = #[(.ref a1), (.ref v1)] ∧ Z.Warmed39 U.vm ∧ U.heap = h0) (fun _ _ _ _ _ => True) (fun _ U o U' => ∃ v L, o = .returned v ∧ Q_addF Z a1 v1 dce kd mc h0 n0 v U'.heap L ∧ FrameEnd U o U' L ({ frames := 4, cells := 1, slots := 10, locals := 56 } : Room).cells ({ frames := 4, cells := 1, slots := 10, locals := 56 } : Room).slots) := by
  refine MetFree.of_bodySF (plainFor_of_name pn_java_util_ArrayList) hisR ?_
  intro p e s m args below meth c s₁ Bd hml0 hP hK
  obtain ⟨rfl, hZ, hh⟩ := hP
  have hx := Bd.exec
  have hby := Bd.bytes
  have hml : c.maxLocals = 2 := hml0
  have hown : s.vm.findClass "java/util/ArrayList" = some m.cls := findClass_of_methodNamed Bd.named
  have hnm := (name_of_methodNamed Bd.named Bd.method).1
  have X0 : Stand p l e ({ frames := 4, cells := 1, slots := 10, locals := 56 } : Room) s m #[(.ref a1), (.ref v1)] below meth c s₁ [] 0 0 := Stand.of_body Bd
  have e0 : s₁.heap = h0 := by rw [← hh, Bd.state]; rfl
  have N0 := Fr.nil n0
  have P0 : Keep h0 h0 [a1] := Keep.refl _ _
  have pre0 : ∀ t, Steps p.tables e below (s₁.setTop (mkF m 0 #[.val (.ref a1), .val (.ref v1)] [])) t → Steps p.tables e below (s₁.setTop (entryFrame m #[(.ref a1), (.ref v1)] 2)) t := fun t k => castTop (ef_addF m a1 v1) k
  obtain ⟨T1, X1, e1, st1⟩ := getF X0 hx hZ hown (host := "") (Or.inl (hw _ (List.mem_of_getElem? (i := 62) rfl))) (Via.of (hw _ (List.mem_of_getElem? (i := 63) rfl))) e0 pF1 (g := (mkF m 2 #[.val (.ref a1), .val (.ref v1)] [(.ref a1), (.ref a1)])) rfl rfl (hb hby d_jdk_38_method_25_code_2)
  obtain ⟨T2, h2, X2, e2, W2, st2⟩ := putF X1 hx hZ hown (host := "") (Or.inl (hw _ (List.mem_of_getElem? (i := 62) rfl))) (Via.of (hw _ (List.mem_of_getElem? (i := 63) rfl))) e1 pF1 pE0 (Or.inl (hw _ (List.mem_of_getElem? (i := 42) rfl))) (hw _ (List.mem_of_getElem? (i := 23) rfl)) (ty := .int) (by decide) rfl rfl (g := (mkF m 7 #[.val (.ref a1), .val (.ref v1)] [(.int (mc + (1 : Int32))), (.ref a1)])) rfl rfl (hb hby d_jdk_38_method_25_code_7)
  have P3 : Keep h0 h2 [a1] := P0.wr W2 (Or.inl (List.mem_of_getElem? (i := 0) rfl))
  have F4 : Fld Z h2 a1 "java/util/AbstractList" "modCount" "I" (.int (mc + (1 : Int32))) := Fld.same W2 pF1
  have N2 := Fr.snoc X2 N0 pg4
  have F5 : Fld Z h2 a1 "java/util/ArrayList" "elementData" "[Ljava/lang/Object;" (.ref dce) := (Fld.other W2 pF2 (Or.inr (slot_ne (t := (.array (.object "java/lang/Object"))) (t' := .int) (C := "java/util/ArrayList") (a0 := a0) (Or.inl (hw _ (List.mem_of_getElem? (i := 45) rfl))) (Or.inl (hw _ (List.mem_of_getElem? (i := 42) rfl))) (by decide) (by decide) (by decide))))
  obtain ⟨T6, X6, e6, st6⟩ := getF X2 hx hZ hown (host := "") (Or.inl (hw _ (List.mem_of_getElem? (i := 44) rfl))) Via.refl e2 F5 (g := (mkF m 13 #[.val (.ref a1), .val (.ref v1)] [(.ref a1), (.ref v1), (.ref a1)])) rfl rfl (hb hby d_jdk_38_method_25_code_13)
  have F7 : Fld Z h2 a1 "java/util/ArrayList" "size" "I" (.int (0 : Int32)) := (Fld.other W2 pF3 (Or.inr (slot_ne (t := .int) (t' := .int) (C := "java/util/ArrayList") (a0 := a0) (Or.inl (hw _ (List.mem_of_getElem? (i := 65) rfl))) (Or.inl (hw _ (List.mem_of_getElem? (i := 42) rfl))) (by decide) (by decide) (by decide))))
  obtain ⟨T8, X8, e8, st8⟩ := getF X6 hx hZ hown (host := "") (Or.inl (hw _ (List.mem_of_getElem? (i := 64) rfl))) Via.refl e6 F7 (g := (mkF m 17 #[.val (.ref a1), .val (.ref v1)] [(.ref a1), (.ref dce), (.ref v1), (.ref a1)])) rfl rfl (hb hby d_jdk_38_method_25_code_17)
  have O9 : Old Z n0 h2 := hO.keep P3 (allS pg4 all0)
  have E10 : Exa Z h2 a1 "java/util/ArrayList" := (Exa.wr W2 pE0)
  obtain ⟨cq11, q11, q11'⟩ := E10.cell
  obtain ⟨_, _, ⟨T11, L11, k11, n11⟩, -, X11, ⟨Lc11, hQ11, l11, y11, z11⟩, st11⟩ := X8.privateBack hx (y := (⟨"java/util/ArrayList", "add", "(Ljava/lang/Object;[Ljava/lang/Object;I)V"⟩ : MethodName)) hown (mvT hZ (hw _ (List.mem_of_getElem? (i := 66) rfl))) (mvT hZ (hw _ (List.mem_of_getElem? (i := 67) rfl))) (mvT hZ (hw _ (List.mem_of_getElem? (i := 69) rfl))) (Cond.privateMethod_at (mvP hZ (hw _ (List.mem_of_getElem? (i := 68) rfl)) (args := #[]))) (mvT hZ (hw _ (List.mem_of_getElem? (i := 70) rfl))) (by decide) (backOf (W := 0) (rm_adF l Z a0 hw [] a1 v1 dce kd (mc + (1 : Int32)) h2 n0 (Nat.le_trans Z0 P3.1) E10 F4 F5 F7 pg4 O9 zS6 zA7 zE8) hZ (hw _ (List.mem_of_getElem? (i := 70) rfl)) (hw _ (List.mem_of_getElem? (i := 24) rfl)) (by decide) (by decide)) (g := (mkF m 20 #[.val (.ref a1), .val (.ref v1)] [(.int (0 : Int32)), (.ref dce), (.ref v1), (.ref a1)])) rfl (by rw [hml]; rfl) (Steps.refl _) (a := a1) (by rw [e8]; exact q11) q11' (argsL := [(.ref v1), (.ref dce), (.int (0 : Int32))]) (rest := []) (lenOf pd_28Ljava2flang2fObject3b5bLjava2flang2fObject3bI29V rfl) rfl (by show 2 * 0 + _ ≤ _; exact Nat.le_of_eq rfl) (hb hby d_jdk_38_method_25_code_20) (fun _ _ => ⟨rfl, e8, (by decide : 0 + 1 ≤ _), (by decide : 0 + 10 ≤ _)⟩)
  dsimp only [Pt.U, Pt.locs, Pt.cells, Pt.slots] at X11 l11 y11 z11 st11 hQ11
  subst l11 y11 z11
  obtain ⟨bn, kn, vn, rfl, N11q, K11, r11_0, r11_1, r11_2, r11_3, r11_4, r11_5, r11_6, r11_7, r11_8⟩ := hQ11
  have N11 := Fr.app N2 N11q
  have ne_a1_bn : a1 ≠ bn := Nat.ne_of_lt (Nat.lt_of_lt_of_le E10.lt r11_0)
  have ge_bn : n0 ≤ bn := Nat.le_trans (Nat.le_trans Z0 P3.1) r11_0
  have sz_bn : h0.size ≤ bn := Nat.le_trans P3.1 r11_0
  have P12 : Keep h0 T11.heap [a1] := P3.trans K11 (allS (Or.inl (List.mem_of_getElem? (i := 0) rfl)) all0)
  obtain ⟨fs, hr, hrun, hended, hW, hsame⟩ := X11.leave (v := some (.int (1 : Int32))) (fun h => by rw [Bd.returns] at h; cases h)
  refine ⟨_, _, pre0 _ ?_, hrun, hended, _, _, rfl, ?_, ⟨_, rfl⟩, hW, hsame.mono (by decide) (by decide)⟩
  · show Steps p.tables e below (s₁.setTop (mkF m 0 #[.val (.ref a1), .val (.ref v1)] [])) _
    refine XS.aloadN X0.here hx rfl (hb hby d_jdk_38_method_25_code_0) rfl rfl ?_
    show Steps p.tables e below (s₁.setTop (mkF m 1 #[.val (.ref a1), .val (.ref v1)] [(.ref a1)])) _
    refine XS.dup X0.here hx rfl (hb hby d_jdk_38_method_25_code_1) rfl rfl ?_
    show Steps p.tables e below (s₁.setTop (mkF m 2 #[.val (.ref a1), .val (.ref v1)] [(.ref a1), (.ref a1)])) _
    refine st1 _ ?_
    show Steps p.tables e below (T1.setTop (mkF m 5 #[.val (.ref a1), .val (.ref v1)] [(.int mc), (.ref a1)])) _
    refine XS.iconst X1.here hx rfl (hb hby d_jdk_38_method_25_code_5) ?_
    show Steps p.tables e below (T1.setTop (mkF m 6 #[.val (.ref a1), .val (.ref v1)] [(.int (1 : Int32)), (.int mc), (.ref a1)])) _
    refine XS.iadd X1.here hx rfl (hb hby d_jdk_38_method_25_code_6) rfl ?_
    show Steps p.tables e below (T1.setTop (mkF m 7 #[.val (.ref a1), .val (.ref v1)] [(.int (mc + (1 : Int32))), (.ref a1)])) _
    refine st2 _ ?_
    show Steps p.tables e below (T2.setTop (mkF m 10 #[.val (.ref a1), .val (.ref v1)] [])) _
    refine XS.aloadN X2.here hx rfl (hb hby d_jdk_38_method_25_code_10) rfl rfl ?_
    show Steps p.tables e below (T2.setTop (mkF m 11 #[.val (.ref a1), .val (.ref v1)] [(.ref a1)])) _
    refine XS.aloadN X2.here hx rfl (hb hby d_jdk_38_method_25_code_11) rfl rfl ?_
    show Steps p.tables e below (T2.setTop (mkF m 12 #[.val (.ref a1), .val (.ref v1)] [(.ref v1), (.ref a1)])) _
    refine XS.aloadN X2.here hx rfl (hb hby d_jdk_38_method_25_code_12) rfl rfl ?_
    show Steps p.tables e below (T2.setTop (mkF m 13 #[.val (.ref a1), .val (.ref v1)] [(.ref a1), (.ref v1), (.ref a1)])) _
    refine st6 _ ?_
    show Steps p.tables e below (T6.setTop (mkF m 16 #[.val (.ref a1), .val (.ref v1)] [(.ref dce), (.ref v1), (.ref a1)])) _
    refine XS.aloadN X6.here hx rfl (hb hby d_jdk_38_method_25_code_16) rfl rfl ?_
    show Steps p.tables e below (T6.setTop (mkF m 17 #[.val (.ref a1), .val (.ref v1)] [(.ref a1), (.ref dce), (.ref v1), (.ref a1)])) _
    refine st8 _ ?_
    show Steps p.tables e below (T8.setTop (mkF m 20 #[.val (.ref a1), .val (.ref v1)] [(.int (0 : Int32)), (.ref dce), (.ref v1), (.ref a1)])) _
    refine st11.trans ?_
    show Steps p.tables e below (T11.setTop (mkF m 23 #[.val (.ref a1), .val (.ref v1)] [])) _
    refine XS.iconst X11.here hx rfl (hb hby d_jdk_38_method_25_code_23) ?_
    show Steps p.tables e below (T11.setTop (mkF m 24 #[.val (.ref a1), .val (.ref v1)] [(.int (1 : Int32))])) _
    exact retOut X11 hx (t := .boolean) (i := .ireturn) Bd.returns rfl (Or.inl ⟨rfl, Or.inr (Or.inl rfl), _, rfl⟩) (hb hby d_jdk_38_method_25_code_24) hr
  · show Q_addF Z a1 v1 dce kd mc h0 n0 _ T11.heap _
    skip
    exact ⟨bn, kn, vn, rfl, N11, P12, sz_bn, r11_1, r11_2, r11_3, r11_4, r11_5, r11_6, r11_7, r11_8⟩
theorem ef_addR (m : MethodId) (x0 : Addr) (x1 : Addr) : entryFrame m #[(.ref x0), (.ref x1)] 2 = mkF m 0 #[.val (.ref x0), .val (.ref x1)] [] := by first | (simp [entryFrame, mkF, argsToLocals, Value.category]; done) | rfl
def Q_addR (Z : State) (a1 : Addr) (v1 : Addr) (ed : Addr) (kk : ClassId) (vs : List Value) (mc : Int32) (n1 : Int32) (h0 : Heap) (n0 : Nat) (v : Option Value) (h : Heap) (L : List Loc) : Prop := ∃ vs2 : List Value, v = some (.int (1 : Int32)) ∧ Fr n0 L ∧ Keep h0 h [a1, ed] ∧ (Exa Z h a1 "java/util/ArrayList") ∧ (Fld Z h a1 "java/util/AbstractList" "modCount" "I" (.int (mc + (1 : Int32)))) ∧ (Fld Z h a1 "java/util/ArrayList" "elementData" "[Ljava/lang/Object;" (.ref ed)) ∧ (Fld Z h a1 "java/util/ArrayList" "size" "I" (.int (n1 + (1 : Int32)))) ∧ (Arv Z h ed kk (.object "java/lang/Object") (10 : Int32) vs2 .null) ∧ (vs2.length = 10)
set_option maxRecDepth 65536 in
set_option maxHeartbeats 40000000 in
theorem rm_addR (l : Launch) (Z : State) (a0 : Array Value) (hw : ∀ d ∈ tables_1, d.before a0 Z = true) (ws : List Jvm.Cond) (a1 : Addr) (v1 : Addr) (ed : Addr) (kk : ClassId) (vs : List Value) (mc : Int32) (n1 : Int32) (h0 : Heap) (n0 : Nat) (Z0 : n0 ≤ h0.size) (pE0 : Exa Z h0 a1 "java/util/ArrayList") (pF1 : Fld Z h0 a1 "java/util/AbstractList" "modCount" "I" (.int mc)) (pF2 : Fld Z h0 a1 "java/util/ArrayList" "elementData" "[Ljava/lang/Object;" (.ref ed)) (pF3 : Fld Z h0 a1 "java/util/ArrayList" "size" "I" (.int n1)) (pA4 : Arv Z h0 ed kk (.object "java/lang/Object") (10 : Int32) vs .null) (pg5 : n0 ≤ a1) (pg6 : n0 ≤ ed) (pn7 : a1 ≠ ed) (hO : Old Z n0 h0) (zE9 : Exa Z Z.heap v1 "java/lang/Integer") (hov : Ovr Z kk "java/lang/Object") (hv : vs.length = 10) (hne : ¬ (n1 = (10 : Int32))) (hn0 : ¬ (n1 < (0 : Int32))) (hn1 : n1 < (10 : Int32)) :
    MetFree l (⟨"java/util/ArrayList", "add", "(Ljava/lang/Object;)Z"⟩ : MethodName) (head1 (Jvm.Cond.code (⟨"java/util/ArrayList", "add", "(Ljava/lang/Object;)Z"⟩ : MethodName) jdk_38_method_25_code 2 (some .boolean) :: ws) ({ frames := 1, cells := 0, slots := 0, locals := 15 } : Room)) (fun a U => a = #[(.ref a1), (.ref v1)] ∧ Z.Warmed39 U.vm ∧ U.heap = h0) (fun _ _ _ _ _ => True) (fun _ U o U' => ∃ v L, o = .returned v ∧ Q_addR Z a1 v1 ed kk vs mc n1 h0 n0 v U'.heap L ∧ FrameEnd U o U' L ({ frames := 1, cells := 0, slots := 0, locals := 15 } : Room).cells ({ frames := 1, cells := 0, slots := 0, locals := 15 } : Room).slots) := by
  refine MetFree.of_bodySF (plainFor_of_name pn_java_util_ArrayList) hisR ?_
  intro p e s m args below meth c s₁ Bd hml0 hP hK
  obtain ⟨rfl, hZ, hh⟩ := hP
  have hx := Bd.exec
  have hby := Bd.bytes
  have hml : c.maxLocals = 2 := hml0
  have hown : s.vm.findClass "java/util/ArrayList" = some m.cls := findClass_of_methodNamed Bd.named
  have hnm := (name_of_methodNamed Bd.named Bd.method).1
  have X0 : Stand p l e ({ frames := 1, cells := 0, slots := 0, locals := 15 } : Room) s m #[(.ref a1), (.ref v1)] below meth c s₁ [] 0 0 := Stand.of_body Bd
  have e0 : s₁.heap = h0 := by rw [← hh, Bd.state]; rfl
  have N0 := Fr.nil n0
  have P0 : Keep h0 h0 [a1, ed] := Keep.refl _ _
  have pre0 : ∀ t, Steps p.tables e below (s₁.setTop (mkF m 0 #[.val (.ref a1), .val (.ref v1)] [])) t → Steps p.tables e below (s₁.setTop (entryFrame m #[(.ref a1), (.ref v1)] 2)) t := fun t k => castTop (ef_addR m a1 v1) k
  obtain ⟨T1, X1, e1, st1⟩ := getF X0 hx hZ hown (host := "") (Or.inl (hw _ (List.mem_of_getElem? (i := 62) rfl))) (Via.of (hw _ (List.mem_of_getElem? (i := 63) rfl))) e0 pF1 (g := (mkF m 2 #[.val (.ref a1), .val (.ref v1)] [(.ref a1), (.ref a1)])) rfl rfl (hb hby d_jdk_38_method_25_code_2)
  obtain ⟨T2, h2, X2, e2, W2, st2⟩ := putF X1 hx hZ hown (host := "") (Or.inl (hw _ (List.mem_of_getElem? (i := 62) rfl))) (Via.of (hw _ (List.mem_of_getElem? (i := 63) rfl))) e1 pF1 pE0 (Or.inl (hw _ (List.mem_of_getElem? (i := 42) rfl))) (hw _ (List.mem_of_getElem? (i := 23) rfl)) (ty := .int) (by decide) rfl rfl (g := (mkF m 7 #[.val (.ref a1), .val (.ref v1)] [(.int (mc + (1 : Int32))), (.ref a1)])) rfl rfl (hb hby d_jdk_38_method_25_code_7)
  have P3 : Keep h0 h2 [a1, ed] := P0.wr W2 (Or.inl (List.mem_of_getElem? (i := 0) rfl))
  have F4 : Fld Z h2 a1 "java/util/AbstractList" "modCount" "I" (.int (mc + (1 : Int32))) := Fld.same W2 pF1
  have N2 := Fr.snoc X2 N0 pg5
  have F5 : Fld Z h2 a1 "java/util/ArrayList" "elementData" "[Ljava/lang/Object;" (.ref ed) := (Fld.other W2 pF2 (Or.inr (slot_ne (t := (.array (.object "java/lang/Object"))) (t' := .int) (C := "java/util/ArrayList") (a0 := a0) (Or.inl (hw _ (List.mem_of_getElem? (i := 45) rfl))) (Or.inl (hw _ (List.mem_of_getElem? (i := 42) rfl))) (by decide) (by decide) (by decide))))
  obtain ⟨T6, X6, e6, st6⟩ := getF X2 hx hZ hown (host := "") (Or.inl (hw _ (List.mem_of_getElem? (i := 44) rfl))) Via.refl e2 F5 (g := (mkF m 13 #[.val (.ref a1), .val (.ref v1)] [(.ref a1), (.ref v1), (.ref a1)])) rfl rfl (hb hby d_jdk_38_method_25_code_13)
  have F7 : Fld Z h2 a1 "java/util/ArrayList" "size" "I" (.int n1) := (Fld.other W2 pF3 (Or.inr (slot_ne (t := .int) (t' := .int) (C := "java/util/ArrayList") (a0 := a0) (Or.inl (hw _ (List.mem_of_getElem? (i := 65) rfl))) (Or.inl (hw _ (List.mem_of_getElem? (i := 42) rfl))) (by decide) (by decide) (by decide))))
  obtain ⟨T8, X8, e8, st8⟩ := getF X6 hx hZ hown (host := "") (Or.inl (hw _ (List.mem_of_getElem? (i := 64) rfl))) Via.refl e6 F7 (g := (mkF m 17 #[.val (.ref a1), .val (.ref v1)] [(.ref a1), (.ref ed), (.ref v1), (.ref a1)])) rfl rfl (hb hby d_jdk_38_method_25_code_17)
  have O9 : Old Z n0 h2 := hO.keep P3 (allS pg5 (allS pg6 all0))
  have E10 : Exa Z h2 a1 "java/util/ArrayList" := (Exa.wr W2 pE0)
  have A11 : Arv Z h2 ed kk (.object "java/lang/Object") (10 : Int32) vs .null := (pA4.other W2 pn7.symm)
  obtain ⟨cq12, q12, q12'⟩ := E10.cell
  obtain ⟨_, _, ⟨T12, L12, k12, n12⟩, -, X12, ⟨Lc12, hQ12, l12, y12, z12⟩, st12⟩ := X8.privateBack hx (y := (⟨"java/util/ArrayList", "add", "(Ljava/lang/Object;[Ljava/lang/Object;I)V"⟩ : MethodName)) hown (mvT hZ (hw _ (List.mem_of_getElem? (i := 66) rfl))) (mvT hZ (hw _ (List.mem_of_getElem? (i := 67) rfl))) (mvT hZ (hw _ (List.mem_of_getElem? (i := 69) rfl))) (Cond.privateMethod_at (mvP hZ (hw _ (List.mem_of_getElem? (i := 68) rfl)) (args := #[]))) (mvT hZ (hw _ (List.mem_of_getElem? (i := 70) rfl))) (by decide) (backOf (W := 0) (rm_adR l Z a0 hw [] a1 v1 ed kk vs (mc + (1 : Int32)) n1 h2 n0 (Nat.le_trans Z0 P3.1) E10 F4 F5 F7 A11 pg5 pg6 pn7 O9 zE9 hov hv hne hn0 hn1) hZ (hw _ (List.mem_of_getElem? (i := 70) rfl)) (hw _ (List.mem_of_getElem? (i := 24) rfl)) (by decide) (by decide)) (g := (mkF m 20 #[.val (.ref a1), .val (.ref v1)] [(.int n1), (.ref ed), (.ref v1), (.ref a1)])) rfl (by rw [hml]; rfl) (Steps.refl _) (a := a1) (by rw [e8]; exact q12) q12' (argsL := [(.ref v1), (.ref ed), (.int n1)]) (rest := []) (lenOf pd_28Ljava2flang2fObject3b5bLjava2flang2fObject3bI29V rfl) rfl (by show 2 * 0 + _ ≤ _; exact Nat.le_of_eq rfl) (hb hby d_jdk_38_method_25_code_20) (fun _ _ => ⟨rfl, e8, (by decide : 0 + 0 ≤ _), (by decide : 0 + 0 ≤ _)⟩)
  dsimp only [Pt.U, Pt.locs, Pt.cells, Pt.slots] at X12 l12 y12 z12 st12 hQ12
  subst l12 y12 z12
  obtain ⟨vn, rfl, N12q, K12, r12_0, r12_1, r12_2, r12_3, r12_4, r12_5⟩ := hQ12
  have N12 := Fr.app N2 N12q
  have P13 : Keep h0 T12.heap [a1, ed] := P3.trans K12 (allS (Or.inl (List.mem_of_getElem? (i := 0) rfl)) (allS (Or.inl (List.mem_of_getElem? (i := 1) rfl)) all0))
  obtain ⟨fs, hr, hrun, hended, hW, hsame⟩ := X12.leave (v := some (.int (1 : Int32))) (fun h => by rw [Bd.returns] at h; cases h)
  refine ⟨_, _, pre0 _ ?_, hrun, hended, _, _, rfl, ?_, ⟨_, rfl⟩, hW, hsame.mono (by decide) (by decide)⟩
  · show Steps p.tables e below (s₁.setTop (mkF m 0 #[.val (.ref a1), .val (.ref v1)] [])) _
    refine XS.aloadN X0.here hx rfl (hb hby d_jdk_38_method_25_code_0) rfl rfl ?_
    show Steps p.tables e below (s₁.setTop (mkF m 1 #[.val (.ref a1), .val (.ref v1)] [(.ref a1)])) _
    refine XS.dup X0.here hx rfl (hb hby d_jdk_38_method_25_code_1) rfl rfl ?_
    show Steps p.tables e below (s₁.setTop (mkF m 2 #[.val (.ref a1), .val (.ref v1)] [(.ref a1), (.ref a1)])) _
    refine st1 _ ?_
    show Steps p.tables e below (T1.setTop (mkF m 5 #[.val (.ref a1), .val (.ref v1)] [(.int mc), (.ref a1)])) _
    refine XS.iconst X1.here hx rfl (hb hby d_jdk_38_method_25_code_5) ?_
    show Steps p.tables e below (T1.setTop (mkF m 6 #[.val (.ref a1), .val (.ref v1)] [(.int (1 : Int32)), (.int mc), (.ref a1)])) _
    refine XS.iadd X1.here hx rfl (hb hby d_jdk_38_method_25_code_6) rfl ?_
    show Steps p.tables e below (T1.setTop (mkF m 7 #[.val (.ref a1), .val (.ref v1)] [(.int (mc + (1 : Int32))), (.ref a1)])) _
    refine st2 _ ?_
    show Steps p.tables e below (T2.setTop (mkF m 10 #[.val (.ref a1), .val (.ref v1)] [])) _
    refine XS.aloadN X2.here hx rfl (hb hby d_jdk_38_method_25_code_10) rfl rfl ?_
    show Steps p.tables e below (T2.setTop (mkF m 11 #[.val (.ref a1), .val (.ref v1)] [(.ref a1)])) _
    refine XS.aloadN X2.here hx rfl (hb hby d_jdk_38_method_25_code_11) rfl rfl ?_
    show Steps p.tables e below (T2.setTop (mkF m 12 #[.val (.ref a1), .val (.ref v1)] [(.ref v1), (.ref a1)])) _
    refine XS.aloadN X2.here hx rfl (hb hby d_jdk_38_method_25_code_12) rfl rfl ?_
    show Steps p.tables e below (T2.setTop (mkF m 13 #[.val (.ref a1), .val (.ref v1)] [(.ref a1), (.ref v1), (.ref a1)])) _
    refine st6 _ ?_
    show Steps p.tables e below (T6.setTop (mkF m 16 #[.val (.ref a1), .val (.ref v1)] [(.ref ed), (.ref v1), (.ref a1)])) _
    refine XS.aloadN X6.here hx rfl (hb hby d_jdk_38_method_25_code_16) rfl rfl ?_
    show Steps p.tables e below (T6.setTop (mkF m 17 #[.val (.ref a1), .val (.ref v1)] [(.ref a1), (.ref ed), (.ref v1), (.ref a1)])) _
    refine st8 _ ?_
    show Steps p.tables e below (T8.setTop (mkF m 20 #[.val (.ref a1), .val (.ref v1)] [(.int n1), (.ref ed), (.ref v1), (.ref a1)])) _
    refine st12.trans ?_
    show Steps p.tables e below (T12.setTop (mkF m 23 #[.val (.ref a1), .val (.ref v1)] [])) _
    refine XS.iconst X12.here hx rfl (hb hby d_jdk_38_method_25_code_23) ?_
    show Steps p.tables e below (T12.setTop (mkF m 24 #[.val (.ref a1), .val (.ref v1)] [(.int (1 : Int32))])) _
    exact retOut X12 hx (t := .boolean) (i := .ireturn) Bd.returns rfl (Or.inl ⟨rfl, Or.inr (Or.inl rfl), _, rfl⟩) (hb hby d_jdk_38_method_25_code_24) hr
  · show Q_addR Z a1 v1 ed kk vs mc n1 h0 n0 _ T12.heap _
    skip
    exact ⟨vn, rfl, N12, P13, r12_0, r12_1, r12_2, r12_3, r12_4, r12_5⟩
theorem d_jdk_33_method_22_code_0 : decode jdk_33_method_22_code 0 = .ok (.iload_n 0, 1) := by decide +kernel
theorem d_jdk_33_method_22_code_1 : decode jdk_33_method_22_code 1 = .ok (.bipush (-128), 2) := by decide +kernel
theorem d_jdk_33_method_22_code_3 : decode jdk_33_method_22_code 3 = .ok (.if_icmp .lt 20, 3) := by decide +kernel
theorem d_jdk_33_method_22_code_6 : decode jdk_33_method_22_code 6 = .ok (.iload_n 0, 1) := by decide +kernel
theorem d_jdk_33_method_22_code_7 : decode jdk_33_method_22_code 7 = .ok (.getstatic 191, 3) := by decide +kernel
theorem d_jdk_33_method_22_code_10 : decode jdk_33_method_22_code 10 = .ok (.if_icmp .gt 13, 3) := by decide +kernel
theorem d_jdk_33_method_22_code_13 : decode jdk_33_method_22_code 13 = .ok (.getstatic 195, 3) := by decide +kernel
theorem d_jdk_33_method_22_code_16 : decode jdk_33_method_22_code 16 = .ok (.iload_n 0, 1) := by decide +kernel
theorem d_jdk_33_method_22_code_17 : decode jdk_33_method_22_code 17 = .ok (.sipush 128, 3) := by decide +kernel
theorem d_jdk_33_method_22_code_20 : decode jdk_33_method_22_code 20 = .ok (.iadd, 1) := by decide +kernel
theorem d_jdk_33_method_22_code_21 : decode jdk_33_method_22_code 21 = .ok (.aaload, 1) := by decide +kernel
theorem d_jdk_33_method_22_code_22 : decode jdk_33_method_22_code 22 = .ok (.areturn, 1) := by decide +kernel
theorem pn_java_lang_Integer : plainName "java/lang/Integer" = true := by first | (simp [plainName, overriddenIn]; done) | decide +kernel
theorem ef_vof (m : MethodId) (x0 : Int32) : entryFrame m #[(.int x0)] 1 = mkF m 0 #[.val (.int x0)] [] := by first | (simp [entryFrame, mkF, argsToLocals, Value.category]; done) | rfl
def Q_vof (Z : State) (k1 : Int32) (ca : Addr) (cl : Cell) (b1 : Addr) (h0 : Heap) (n0 : Nat) (v : Option Value) (h : Heap) (L : List Loc) : Prop := v = some (.ref b1) ∧ Fr n0 L ∧ h = h0
set_option maxRecDepth 65536 in
set_option maxHeartbeats 40000000 in
theorem rm_vof (l : Launch) (Z : State) (a0 : Array Value) (hw : ∀ d ∈ tables_1, d.before a0 Z = true) (ws : List Jvm.Cond) (k1 : Int32) (ca : Addr) (cl : Cell) (b1 : Addr) (h0 : Heap) (n0 : Nat) (Z0 : n0 ≤ h0.size) (hO : Old Z n0 h0) (zS1 : Sta Z Z.heap "java/lang/Integer$IntegerCache" "high" "I" (.int (127 : Int32))) (zS2 : Sta Z Z.heap "java/lang/Integer$IntegerCache" "cache" "[Ljava/lang/Integer;" (.ref ca)) (hcl : Arr Z Z.heap ca cl (.object "java/lang/Integer")) (h1 : ¬ (k1 < (-128 : Int32))) (h2 : ¬ ((127 : Int32) < k1)) (hin : ¬ ((k1 + (128 : Int32)) < 0 ∨ cl.slots.size ≤ ((k1 + (128 : Int32))).toNatClampNeg)) (hat : cl.slots[((k1 + (128 : Int32))).toNatClampNeg]? = some (.ref b1)) :
    MetFree l (⟨"java/lang/Integer", "valueOf", "(I)Ljava/lang/Integer;"⟩ : MethodName) (head1 (Jvm.Cond.code (⟨"java/lang/Integer", "valueOf", "(I)Ljava/lang/Integer;"⟩ : MethodName) jdk_33_method_22_code 1 (some (.object "java/lang/Integer")) :: ws) ({ frames := 0, cells := 0, slots := 0, locals := 0 } : Room)) (fun a U => a = #[(.int k1)] ∧ Z.Warmed39 U.vm ∧ U.heap = h0) (fun _ _ _ _ _ => True) (fun _ U o U' => ∃ v L, o = .returned v ∧ Q_vof Z k1 ca cl b1 h0 n0 v U'.heap L ∧ FrameEnd U o U' L ({ frames := 0, cells := 0, slots := 0, locals := 0 } : Room).cells ({ frames := 0, cells := 0, slots := 0, locals := 0 } : Room).slots) := by
  refine MetFree.of_bodySF (plainFor_of_name pn_java_lang_Integer) hisR ?_
  intro p e s m args below meth c s₁ Bd hml0 hP hK
  obtain ⟨rfl, hZ, hh⟩ := hP
  have hx := Bd.exec
  have hby := Bd.bytes
  have hml : c.maxLocals = 1 := hml0
  have hown : s.vm.findClass "java/lang/Integer" = some m.cls := findClass_of_methodNamed Bd.named
  have hnm := (name_of_methodNamed Bd.named Bd.method).1
  have X0 : Stand p l e ({ frames := 0, cells := 0, slots := 0, locals := 0 } : Room) s m #[(.int k1)] below meth c s₁ [] 0 0 := Stand.of_body Bd
  have e0 : s₁.heap = h0 := by rw [← hh, Bd.state]; rfl
  have N0 := Fr.nil n0
  have P0 : Keep h0 h0 [] := Keep.refl _ _
  have pre0 : ∀ t, Steps p.tables e below (s₁.setTop (mkF m 0 #[.val (.int k1)] [])) t → Steps p.tables e below (s₁.setTop (entryFrame m #[(.int k1)] 1)) t := fun t k => castTop (ef_vof m k1) k
  have S1 : Sta Z h0 "java/lang/Integer$IntegerCache" "high" "I" (.int (127 : Int32)) := Sta.ext hO.2 zS1
  obtain ⟨T2, X2, e2, st2⟩ := getS2 X0 hx hZ hown (host := "") (Or.inl (hw _ (List.mem_of_getElem? (i := 50) rfl))) Via.refl e0 S1 (g := (mkF m 7 #[.val (.int k1)] [(.int k1)])) rfl (hb hby d_jdk_33_method_22_code_7)
  have S3 : Sta Z h0 "java/lang/Integer$IntegerCache" "cache" "[Ljava/lang/Integer;" (.ref ca) := Sta.ext hO.2 zS2
  obtain ⟨T4, X4, e4, st4⟩ := getS2 X2 hx hZ hown (host := "") (Or.inl (hw _ (List.mem_of_getElem? (i := 52) rfl))) Via.refl e2 S3 (g := (mkF m 13 #[.val (.int k1)] [])) rfl (hb hby d_jdk_33_method_22_code_13)
  obtain ⟨fs, hr, hrun, hended, hW, hsame⟩ := X4.leave (v := some (.ref b1)) (fun h => by rw [Bd.returns] at h; cases h)
  refine ⟨_, _, pre0 _ ?_, hrun, hended, _, _, rfl, ?_, ⟨_, rfl⟩, hW, hsame.mono (by decide) (by decide)⟩
  · show Steps p.tables e below (s₁.setTop (mkF m 0 #[.val (.int k1)] [])) _
    refine XS.iloadN X0.here hx rfl (hb hby d_jdk_33_method_22_code_0) rfl ?_
    show Steps p.tables e below (s₁.setTop (mkF m 1 #[.val (.int k1)] [(.int k1)])) _
    refine XS.bipush X0.here hx rfl (hb hby d_jdk_33_method_22_code_1) ?_
    show Steps p.tables e below (s₁.setTop (mkF m 3 #[.val (.int k1)] [(.int (-128 : Int32)), (.int k1)])) _
    refine XS.icmpNo X0.here hx rfl (hb hby d_jdk_33_method_22_code_3) rfl (flt (h1 : ¬ (k1 < (-128 : Int32)))).1 ?_
    show Steps p.tables e below (s₁.setTop (mkF m 6 #[.val (.int k1)] [])) _
    refine XS.iloadN X0.here hx rfl (hb hby d_jdk_33_method_22_code_6) rfl ?_
    show Steps p.tables e below (s₁.setTop (mkF m 7 #[.val (.int k1)] [(.int k1)])) _
    refine st2 _ ?_
    show Steps p.tables e below (T2.setTop (mkF m 10 #[.val (.int k1)] [(.int (127 : Int32)), (.int k1)])) _
    refine XS.icmpNo X2.here hx rfl (hb hby d_jdk_33_method_22_code_10) rfl (flt (h2 : ¬ ((127 : Int32) < k1))).2.2.1 ?_
    show Steps p.tables e below (T2.setTop (mkF m 13 #[.val (.int k1)] [])) _
    refine st4 _ ?_
    show Steps p.tables e below (T4.setTop (mkF m 16 #[.val (.int k1)] [(.ref ca)])) _
    refine XS.iloadN X4.here hx rfl (hb hby d_jdk_33_method_22_code_16) rfl ?_
    show Steps p.tables e below (T4.setTop (mkF m 17 #[.val (.int k1)] [(.int k1), (.ref ca)])) _
    refine XS.sipush X4.here hx rfl (hb hby d_jdk_33_method_22_code_17) ?_
    show Steps p.tables e below (T4.setTop (mkF m 20 #[.val (.int k1)] [(.int (128 : Int32)), (.int k1), (.ref ca)])) _
    refine XS.iadd X4.here hx rfl (hb hby d_jdk_33_method_22_code_20) rfl ?_
    show Steps p.tables e below (T4.setTop (mkF m 21 #[.val (.int k1)] [(.int (k1 + (128 : Int32))), (.ref ca)])) _
    refine X4.aaload hx (j := (k1 + (128 : Int32))) (v := (.ref b1)) (by rw [e4]; exact (Arr.ext hO.2 hcl).1) (State.isArrayOf_alike hZ.alike (Arr.ext hO.2 hcl).2.1) rfl (Arr.ext hO.2 hcl).2.2 hin hat (g := (mkF m 21 #[.val (.int k1)] [(.int (k1 + (128 : Int32))), (.ref ca)])) rfl rfl (hb hby d_jdk_33_method_22_code_21) _ ?_
    show Steps p.tables e below (T4.setTop (mkF m 22 #[.val (.int k1)] [(.ref b1)])) _
    exact retOut X4 hx (t := (.object "java/lang/Integer")) (i := .areturn) Bd.returns rfl (Or.inr (Or.inr (Or.inr (Or.inr ⟨rfl, rfl, rfl⟩)))) (hb hby d_jdk_33_method_22_code_22) hr
  · show Q_vof Z k1 ca cl b1 h0 n0 _ T4.heap _
    rw [e4]
    exact ⟨rfl, N0, rfl⟩
theorem own_tab {Z s : State} {a0 args : Array Value} (hw : ∀ d ∈ tables_1, d.before a0 Z = true) (hZ : Z.Warmed39 s.vm) : (Jvm.Free.ULB.Unm.tab "java/util/ArrayList").before args s = true := by
  simp only [Jvm.Free.ULB.Unm.tab, Jvm.Free.ULB.Unm.words, Jvm.Free.ULB.UrInit.tab, Jvm.Free.ULB.UrInit.words, Jvm.Free.ULB.UlInit.tab, Jvm.Free.ULB.UlInit.words, Jvm.Free.ULB.UcInit.tab, Jvm.Free.ULB.UcInit.words, List.foldr, Cond.before_and, Bool.and_eq_true]
  exact ⟨(mvT hZ (hw _ (List.mem_of_getElem? (i := 94) rfl))), (mvT hZ (hw _ (List.mem_of_getElem? (i := 105) rfl))), (mvT hZ (hw _ (List.mem_of_getElem? (i := 95) rfl))), (Jvm.Free.ULB.iface_rides hZ.alike (hw _ (List.mem_of_getElem? (i := 96) rfl))), (mvT hZ (hw _ (List.mem_of_getElem? (i := 97) rfl))), (mvT hZ (hw _ (List.mem_of_getElem? (i := 98) rfl))), (mvT hZ (hw _ (List.mem_of_getElem? (i := 99) rfl))), (mvT hZ (hw _ (List.mem_of_getElem? (i := 100) rfl))), (mvT hZ (hw _ (List.mem_of_getElem? (i := 60) rfl))), (mvT hZ (hw _ (List.mem_of_getElem? (i := 101) rfl))), (mvT hZ (hw _ (List.mem_of_getElem? (i := 103) rfl))), (mvT hZ (hw _ (List.mem_of_getElem? (i := 106) rfl))), (mvT hZ (hw _ (List.mem_of_getElem? (i := 108) rfl))), (mvT hZ (hw _ (List.mem_of_getElem? (i := 110) rfl))), (mvT hZ (hw _ (List.mem_of_getElem? (i := 111) rfl))), (mvT hZ (hw _ (List.mem_of_getElem? (i := 112) rfl))), (mvT hZ (hw _ (List.mem_of_getElem? (i := 113) rfl))), (mvT hZ (hw _ (List.mem_of_getElem? (i := 114) rfl))), ⟨(mvT hZ (hw _ (List.mem_of_getElem? (i := 115) rfl))), (mvT hZ (hw _ (List.mem_of_getElem? (i := 116) rfl))), (mvT hZ (hw _ (List.mem_of_getElem? (i := 120) rfl))), ⟨(mvT hZ (hw _ (List.mem_of_getElem? (i := 121) rfl))), (mvT hZ (hw _ (List.mem_of_getElem? (i := 122) rfl))), (mvT hZ (hw _ (List.mem_of_getElem? (i := 126) rfl))), ⟨(mvT hZ (hw _ (List.mem_of_getElem? (i := 127) rfl))), (mvT hZ (hw _ (List.mem_of_getElem? (i := 9) rfl))), (mvT hZ (hw _ (List.mem_of_getElem? (i := 10) rfl))), (mvT hZ (hw _ (List.mem_of_getElem? (i := 128) rfl))), (mvT hZ (hw _ (List.mem_of_getElem? (i := 126) rfl)))⟩, (mvT hZ (hw _ (List.mem_of_getElem? (i := 125) rfl))), (mvT hZ (hw _ (List.mem_of_getElem? (i := 130) rfl))), (mvT hZ (hw _ (List.mem_of_getElem? (i := 120) rfl)))⟩, (mvT hZ (hw _ (List.mem_of_getElem? (i := 119) rfl))), (mvT hZ (hw _ (List.mem_of_getElem? (i := 114) rfl)))⟩, (mvT hZ (hw _ (List.mem_of_getElem? (i := 129) rfl))), (mvT hZ (hw _ (List.mem_of_getElem? (i := 131) rfl))), (mvT hZ (hw _ (List.mem_of_getElem? (i := 93) rfl)))⟩
theorem own_ext {h h' : Heap} (q : ∀ (y : Addr) (cy : Cell), h[y]? = some cy → h'[y]? = some cy) : Ext h h' := by
  refine ⟨Nat.le_of_not_lt fun hlt => ?_, q⟩
  have hp : h'.size < h.size := hlt
  have h1 := q h'.size h[h'.size] (Array.getElem?_eq_getElem hp)
  rw [Array.getElem?_eq_none (Nat.le_refl _)] at h1
  cases h1
theorem own_mir {Z U : State} {C : String} {mm : Addr} {args : Array Value} (hal : Z.vm.Alike U.vm) (F : Mir Z C mm) : (Term.mirror C).eval args U none [] U = some (.ref mm) := by
  obtain ⟨cc, k, h1, h2, h3, -⟩ := F
  obtain ⟨k', hk', he⟩ := hal.2.2 _ _ h2
  simp only [Term.eval, Option.bind_eq_bind, Option.bind_eq_some_iff, Option.pure_def, Option.some.injEq]
  exact ⟨cc, by rw [hal.findClass]; exact h1, k', hk', mm, by rw [he]; exact h3, rfl⟩
theorem own_P {Z U : State} {h : Heap} {la mA mL mR : Addr} {a0 : Array Value} (hal : Z.vm.Alike U.vm) (hU : U.heap = h) (E : Exa Z h la "java/util/ArrayList") (hA : Mir Z "java/util/ArrayList" mA) (hL : Mir Z "java/util/Collections$UnmodifiableList" mL) (hR : Mir Z "java/util/Collections$UnmodifiableRandomAccessList" mR)
    (wc : (Jvm.Cond.castable "java/util/ArrayList" "java/util/RandomAccess").before a0 Z = true) : Jvm.Free.ULB.Unm.P "java/util/ArrayList" la mA mL mR #[.ref la] U := by
  refine ⟨rfl, ?_, own_mir hal hL, own_mir hal hR, hA.ne hL (by decide), hA.ne hR (by decide)⟩
  obtain ⟨cell, k, h1, h2, h3, h4, -⟩ := E
  obtain ⟨cc, k2, g1, g2, g3, -⟩ := hA
  cases h2.symm.trans g1
  cases h3.symm.trans g2
  obtain ⟨k', hk', he⟩ := hal.2.2 _ _ h3
  obtain ⟨c1, c2, d1, d2, d3⟩ := Cond.castable_spec wc
  cases h2.symm.trans d1
  exact ⟨cell.cls, k', cell, c2, by rw [hal.findClass]; exact h2, hk', by rw [hU]; exact h1, rfl, h4, by rw [he]; exact g3, by rw [hal.findClass]; exact d2, by rw [hal.assignable]; exact d3⟩
theorem own_nb {n : Int32} {k : Int} (h1 : 0 < n.toInt) (h2 : n.toInt ≤ k) (hk : k ≤ 4) : (¬ (n = (10 : Int32)) ∧ ¬ (n < (0 : Int32)) ∧ n < (10 : Int32)) ∧ 0 < (n + (1 : Int32)).toInt ∧ (n + (1 : Int32)).toInt ≤ k + 1 := by
  have e := c_iadd n 1; rw [show (1 : Int32).toInt = 1 by decide] at e
  have r := rng32 (n + (1 : Int32))
  refine ⟨⟨fun q => ?_, fun q => ?_, ?_⟩, by omega, by omega⟩
  · have := congrArg Int32.toInt q; rw [show (10 : Int32).toInt = 10 by decide] at this; omega
  · have := Int32.lt_iff_toInt_lt.mp q; rw [show (0 : Int32).toInt = 0 by decide] at this; omega
  · rw [Int32.lt_iff_toInt_lt, show (10 : Int32).toInt = 10 by decide]; omega
theorem d_prog_55_method_1_code_0 : decode prog_55_method_1_code 0 = .ok (.aload_n 0, 1) := by decide +kernel
theorem d_prog_55_method_1_code_1 : decode prog_55_method_1_code 1 = .ok (.invokespecial 1, 3) := by decide +kernel
theorem d_prog_55_method_1_code_4 : decode prog_55_method_1_code 4 = .ok (.aload_n 0, 1) := by decide +kernel
theorem d_prog_55_method_1_code_5 : decode prog_55_method_1_code 5 = .ok (.aload_n 1, 1) := by decide +kernel
theorem d_prog_55_method_1_code_6 : decode prog_55_method_1_code 6 = .ok (.invokevirtual 7, 3) := by decide +kernel
theorem d_prog_55_method_1_code_9 : decode prog_55_method_1_code 9 = .ok (.checkcast 8, 3) := by decide +kernel
theorem d_prog_55_method_1_code_12 : decode prog_55_method_1_code 12 = .ok (.putfield 13, 3) := by decide +kernel
theorem d_prog_55_method_1_code_15 : decode prog_55_method_1_code 15 = .ok (.iconst 0, 1) := by decide +kernel
theorem d_prog_55_method_1_code_16 : decode prog_55_method_1_code 16 = .ok (.istore_n 2, 1) := by decide +kernel
theorem d_prog_55_method_1_code_17 : decode prog_55_method_1_code 17 = .ok (.new 18, 3) := by decide +kernel
theorem d_prog_55_method_1_code_20 : decode prog_55_method_1_code 20 = .ok (.dup, 1) := by decide +kernel
theorem d_prog_55_method_1_code_21 : decode prog_55_method_1_code 21 = .ok (.invokespecial 20, 3) := by decide +kernel
theorem d_prog_55_method_1_code_24 : decode prog_55_method_1_code 24 = .ok (.astore_n 3, 1) := by decide +kernel
theorem d_prog_55_method_1_code_25 : decode prog_55_method_1_code 25 = .ok (.iconst 0, 1) := by decide +kernel
theorem d_prog_55_method_1_code_26 : decode prog_55_method_1_code 26 = .ok (.istore 4, 2) := by decide +kernel
theorem d_prog_55_method_1_code_28 : decode prog_55_method_1_code 28 = .ok (.iload 4, 2) := by decide +kernel
theorem d_prog_55_method_1_code_30 : decode prog_55_method_1_code 30 = .ok (.aload_n 1, 1) := by decide +kernel
theorem d_prog_55_method_1_code_31 : decode prog_55_method_1_code 31 = .ok (.arraylength, 1) := by decide +kernel
theorem d_prog_55_method_1_code_32 : decode prog_55_method_1_code 32 = .ok (.if_icmp .ge 35, 3) := by decide +kernel
theorem d_prog_55_method_1_code_35 : decode prog_55_method_1_code 35 = .ok (.iload_n 2, 1) := by decide +kernel
theorem d_prog_55_method_1_code_36 : decode prog_55_method_1_code 36 = .ok (.aload_n 1, 1) := by decide +kernel
theorem d_prog_55_method_1_code_37 : decode prog_55_method_1_code 37 = .ok (.iload 4, 2) := by decide +kernel
theorem d_prog_55_method_1_code_39 : decode prog_55_method_1_code 39 = .ok (.iaload, 1) := by decide +kernel
theorem d_prog_55_method_1_code_40 : decode prog_55_method_1_code 40 = .ok (.iadd, 1) := by decide +kernel
theorem d_prog_55_method_1_code_41 : decode prog_55_method_1_code 41 = .ok (.istore_n 2, 1) := by decide +kernel
theorem d_prog_55_method_1_code_42 : decode prog_55_method_1_code 42 = .ok (.aload_n 1, 1) := by decide +kernel
theorem d_prog_55_method_1_code_43 : decode prog_55_method_1_code 43 = .ok (.iload 4, 2) := by decide +kernel
theorem d_prog_55_method_1_code_45 : decode prog_55_method_1_code 45 = .ok (.iaload, 1) := by decide +kernel
theorem d_prog_55_method_1_code_46 : decode prog_55_method_1_code 46 = .ok (.ifCond .le 15, 3) := by decide +kernel
theorem d_prog_55_method_1_code_49 : decode prog_55_method_1_code 49 = .ok (.aload_n 3, 1) := by decide +kernel
theorem d_prog_55_method_1_code_50 : decode prog_55_method_1_code 50 = .ok (.iload 4, 2) := by decide +kernel
theorem d_prog_55_method_1_code_52 : decode prog_55_method_1_code 52 = .ok (.invokestatic 21, 3) := by decide +kernel
theorem pd_28I29Ljava2flang2fInteger3b : parseMethodDescriptor "(I)Ljava/lang/Integer;" = some ⟨[.int], some (.object "java/lang/Integer")⟩ := by decide +kernel
theorem d_prog_55_method_1_code_55 : decode prog_55_method_1_code 55 = .ok (.invokeinterface 27 2, 5) := by decide +kernel
theorem pd_28Ljava2flang2fObject3b29Z : parseMethodDescriptor "(Ljava/lang/Object;)Z" = some ⟨[(.object "java/lang/Object")], some .boolean⟩ := by decide +kernel
theorem d_prog_55_method_1_code_60 : decode prog_55_method_1_code 60 = .ok (.pop, 1) := by decide +kernel
theorem d_prog_55_method_1_code_61 : decode prog_55_method_1_code 61 = .ok (.iinc 4 1, 3) := by decide +kernel
theorem d_prog_55_method_1_code_64 : decode prog_55_method_1_code 64 = .ok (.goto (-36), 3) := by decide +kernel
theorem d_prog_55_method_1_code_67 : decode prog_55_method_1_code 67 = .ok (.aload_n 0, 1) := by decide +kernel
theorem d_prog_55_method_1_code_68 : decode prog_55_method_1_code 68 = .ok (.iload_n 2, 1) := by decide +kernel
theorem d_prog_55_method_1_code_69 : decode prog_55_method_1_code 69 = .ok (.putfield 33, 3) := by decide +kernel
theorem d_prog_55_method_1_code_72 : decode prog_55_method_1_code 72 = .ok (.aload_n 0, 1) := by decide +kernel
theorem d_prog_55_method_1_code_73 : decode prog_55_method_1_code 73 = .ok (.aload_n 3, 1) := by decide +kernel
theorem d_prog_55_method_1_code_74 : decode prog_55_method_1_code 74 = .ok (.invokestatic 37, 3) := by decide +kernel
theorem pd_28Ljava2futil2fList3b29Ljava2futil2fList3b : parseMethodDescriptor "(Ljava/util/List;)Ljava/util/List;" = some ⟨[(.object "java/util/List")], some (.object "java/util/List")⟩ := by decide +kernel
theorem d_prog_55_method_1_code_77 : decode prog_55_method_1_code 77 = .ok (.putfield 43, 3) := by decide +kernel
theorem d_prog_55_method_1_code_80 : decode prog_55_method_1_code 80 = .ok (.return_, 1) := by decide +kernel
theorem pn_com_example_inkcap_inkcap_lexicon_WordCategories : plainName "com/example/inkcap/inkcap/lexicon/WordCategories" = true := by first | (simp [plainName, overriddenIn]; done) | decide +kernel
theorem ef_wci (m : MethodId) (x0 : Addr) (x1 : Addr) : entryFrame m #[(.ref x0), (.ref x1)] 5 = mkF m 0 #[.val (.ref x0), .val (.ref x1), .unset, .unset, .unset] [] := by first | (simp [entryFrame, mkF, argsToLocals, Value.category]; done) | rfl
def Q_wci (Z : State) (a1 : Addr) (c1 : Addr) (kc : ClassId) (x0 : Int32) (x1 : Int32) (x2 : Int32) (x3 : Int32) (dce : Addr) (kd : ClassId) (ca : Addr) (cl : Cell) (bi0 : Addr) (bi1 : Addr) (bi2 : Addr) (bi3 : Addr) (mA : Addr) (mL : Addr) (mR : Addr) (u1 : Value) (u2 : Value) (u3 : Value) (h0 : Heap) (n0 : Nat) (v : Option Value) (h : Heap) (L : List Loc) : Prop := ∃ cc : Addr, v = none ∧ Fr n0 L ∧ Keep h0 h [a1] ∧ (h0.size ≤ cc) ∧ (n0 ≤ cc) ∧ (Exa Z h a1 "com/example/inkcap/inkcap/lexicon/WordCategories") ∧ (Fld Z h a1 "com/example/inkcap/inkcap/lexicon/WordCategories" "senseCounts" "[I" (.ref cc)) ∧ (Fld Z h a1 "com/example/inkcap/inkcap/lexicon/WordCategories" "senseCount" "I" (.int (((((0 : Int32) + x0) + x1) + x2) + x3))) ∧ (Arv Z h cc kc .int (4 : Int32) [.int x0, .int x1, .int x2, .int x3] (.int (0 : Int32)))
set_option maxRecDepth 65536 in
set_option maxHeartbeats 40000000 in
theorem rm_wci (l : Launch) (Z : State) (a0 : Array Value) (hw : ∀ d ∈ tables_1, d.before a0 Z = true) (ws : List Jvm.Cond) (a1 : Addr) (c1 : Addr) (kc : ClassId) (x0 : Int32) (x1 : Int32) (x2 : Int32) (x3 : Int32) (dce : Addr) (kd : ClassId) (ca : Addr) (cl : Cell) (bi0 : Addr) (bi1 : Addr) (bi2 : Addr) (bi3 : Addr) (mA : Addr) (mL : Addr) (mR : Addr) (u1 : Value) (u2 : Value) (u3 : Value) (h0 : Heap) (n0 : Nat) (Z0 : n0 ≤ h0.size) (pE0 : Exa Z h0 a1 "com/example/inkcap/inkcap/lexicon/WordCategories") (pF1 : Fld Z h0 a1 "com/example/inkcap/inkcap/lexicon/WordCategories" "senseCounts" "[I" u1) (pF2 : Fld Z h0 a1 "com/example/inkcap/inkcap/lexicon/WordCategories" "senseCount" "I" u2) (pF3 : Fld Z h0 a1 "com/example/inkcap/inkcap/lexicon/WordCategories" "categories" "Ljava/util/List;" u3) (pg4 : n0 ≤ a1) (pE5 : Exa Z h0 c1 "[I") (pA6 : Arv Z h0 c1 kc .int (4 : Int32) [.int x0, .int x1, .int x2, .int x3] (.int (0 : Int32))) (pn7 : a1 ≠ c1) (hO : Old Z n0 h0) (zS9 : Sta Z Z.heap "java/util/ArrayList" "DEFAULTCAPACITY_EMPTY_ELEMENTDATA" "[Ljava/lang/Object;" (.ref dce)) (zA10 : Arv Z Z.heap dce kd (.object "java/lang/Object") (0 : Int32) [] .null) (zS11 : Sta Z Z.heap "java/lang/Integer$IntegerCache" "high" "I" (.int (127 : Int32))) (zS12 : Sta Z Z.heap "java/lang/Integer$IntegerCache" "cache" "[Ljava/lang/Integer;" (.ref ca)) (hcl : Arr Z Z.heap ca cl (.object "java/lang/Integer")) (zE14 : Exa Z Z.heap bi0 "java/lang/Integer") (hin0 : ¬ (((0 : Int32) + (128 : Int32)) < 0 ∨ cl.slots.size ≤ (((0 : Int32) + (128 : Int32))).toNatClampNeg)) (hat0 : cl.slots[(((0 : Int32) + (128 : Int32))).toNatClampNeg]? = some (.ref bi0)) (zE17 : Exa Z Z.heap bi1 "java/lang/Integer") (hin1 : ¬ (((1 : Int32) + (128 : Int32)) < 0 ∨ cl.slots.size ≤ (((1 : Int32) + (128 : Int32))).toNatClampNeg)) (hat1 : cl.slots[(((1 : Int32) + (128 : Int32))).toNatClampNeg]? = some (.ref bi1)) (zE20 : Exa Z Z.heap bi2 "java/lang/Integer") (hin2 : ¬ (((2 : Int32) + (128 : Int32)) < 0 ∨ cl.slots.size ≤ (((2 : Int32) + (128 : Int32))).toNatClampNeg)) (hat2 : cl.slots[(((2 : Int32) + (128 : Int32))).toNatClampNeg]? = some (.ref bi2)) (zE23 : Exa Z Z.heap bi3 "java/lang/Integer") (hin3 : ¬ (((3 : Int32) + (128 : Int32)) < 0 ∨ cl.slots.size ≤ (((3 : Int32) + (128 : Int32))).toNatClampNeg)) (hat3 : cl.slots[(((3 : Int32) + (128 : Int32))).toNatClampNeg]? = some (.ref bi3)) (hmA : Mir Z "java/util/ArrayList" mA) (hmL : Mir Z "java/util/Collections$UnmodifiableList" mL) (hmR : Mir Z "java/util/Collections$UnmodifiableRandomAccessList" mR) :
    MetFree l (⟨"com/example/inkcap/inkcap/lexicon/WordCategories", "<init>", "([I)V"⟩ : MethodName) (head1 (Jvm.Cond.code (⟨"com/example/inkcap/inkcap/lexicon/WordCategories", "<init>", "([I)V"⟩ : MethodName) prog_55_method_1_code 5 none :: ws) ({ frames := 5, cells := 7, slots := 49, locals := 69 } : Room)) (fun a U => a = #[(.ref a1), (.ref c1)] ∧ Z.Warmed39 U.vm ∧ U.heap = h0) (fun _ _ _ _ _ => True) (fun _ U o U' => ∃ v L, o = .returned v ∧ Q_wci Z a1 c1 kc x0 x1 x2 x3 dce kd ca cl bi0 bi1 bi2 bi3 mA mL mR u1 u2 u3 h0 n0 v U'.heap L ∧ FrameEnd U o U' L ({ frames := 5, cells := 7, slots := 49, locals := 69 } : Room).cells ({ frames := 5, cells := 7, slots := 49, locals := 69 } : Room).slots) := by
  refine MetFree.of_bodySF (plainFor_of_name pn_com_example_inkcap_inkcap_lexicon_WordCategories) hisR ?_
  intro p e s m args below meth c s₁ Bd hml0 hP hK
  obtain ⟨rfl, hZ, hh⟩ := hP
  have hx := Bd.exec
  have hby := Bd.bytes
  have hml : c.maxLocals = 5 := hml0
  have hown : s.vm.findClass "com/example/inkcap/inkcap/lexicon/WordCategories" = some m.cls := findClass_of_methodNamed Bd.named
  have hnm := (name_of_methodNamed Bd.named Bd.method).1
  have X0 : Stand p l e ({ frames := 5, cells := 7, slots := 49, locals := 69 } : Room) s m #[(.ref a1), (.ref c1)] below meth c s₁ [] 0 0 := Stand.of_body Bd
  have e0 : s₁.heap = h0 := by rw [← hh, Bd.state]; rfl
  have N0 := Fr.nil n0
  have P0 : Keep h0 h0 [a1] := Keep.refl _ _
  have pre0 : ∀ t, Steps p.tables e below (s₁.setTop (mkF m 0 #[.val (.ref a1), .val (.ref c1), .unset, .unset, .unset] [])) t → Steps p.tables e below (s₁.setTop (entryFrame m #[(.ref a1), (.ref c1)] 5)) t := fun t k => castTop (ef_wci m a1 c1) k
  obtain ⟨T1, X1, e1, st1⟩ := initO X0 hx hZ hown (hw _ (List.mem_of_getElem? (i := 8) rfl)) (hw _ (List.mem_of_getElem? (i := 9) rfl)) (hw _ (List.mem_of_getElem? (i := 10) rfl)) e0 (g := (mkF m 1 #[.val (.ref a1), .val (.ref c1), .unset, .unset, .unset] [(.ref a1)])) rfl (by rw [hml]; rfl) rfl (hb hby d_prog_55_method_1_code_1) (by decide) (W := 0) (by show 2 * 0 + _ ≤ _; exact Nat.le_of_eq rfl) (by decide)
  obtain ⟨T2, h2, X2, e2, E2, A2, Q2, st2⟩ := cloneH X1 hx hZ (a0 := a0) (ad := "[I") hown (hw _ (List.mem_of_getElem? (i := 11) rfl)) (hw _ (List.mem_of_getElem? (i := 12) rfl)) (hw _ (List.mem_of_getElem? (i := 16) rfl)) (hw _ (List.mem_of_getElem? (i := 14) rfl)) (hw _ (List.mem_of_getElem? (i := 15) rfl)) (hw _ (List.mem_of_getElem? (i := 17) rfl)) e1 (Arv.arh pA6) pE5 (g := (mkF m 6 #[.val (.ref a1), .val (.ref c1), .unset, .unset, .unset] [(.ref c1), (.ref a1)])) rfl (by rw [hml]; rfl) rfl (hb hby d_prog_55_method_1_code_6) (by decide) (W := 1) (cap := 4) (by show 2 * 0 + _ ≤ _; exact Nat.le_of_eq rfl) (by decide) (by decide) (by decide) (by decide)
  obtain ⟨bc, g2⟩ : ∃ z, z = h0.size := ⟨_, rfl⟩
  rw [← g2] at A2 Q2 st2
  have ne_a1_bc : a1 ≠ bc := Nat.ne_of_lt (Nat.lt_of_lt_of_eq pE0.lt g2.symm)
  have ne_c1_bc : c1 ≠ bc := Nat.ne_of_lt (Nat.lt_of_lt_of_eq pE5.lt g2.symm)
  have ge_bc : n0 ≤ bc := Nat.le_trans (Nat.le_trans Z0 P0.1) (Nat.le_of_eq g2.symm)
  have sz_bc : h0.size ≤ bc := Nat.le_trans P0.1 (Nat.le_of_eq g2.symm)
  have P3 : Keep h0 h2 [a1] := P0.ext E2
  have V4 : Arv Z h2 bc kc .int (4 : Int32) [.int x0, .int x1, .int x2, .int x3] (.int (0 : Int32)) := A2
  obtain ⟨T5, X5, e5, st5⟩ := castY X2 hx hZ hown (hw _ (List.mem_of_getElem? (i := 18) rfl)) e2 (Ins.self Q2) (g := (mkF m 9 #[.val (.ref a1), .val (.ref c1), .unset, .unset, .unset] [(.ref bc), (.ref a1)])) rfl rfl (hb hby d_prog_55_method_1_code_9)
  have F6 : Fld Z h2 a1 "com/example/inkcap/inkcap/lexicon/WordCategories" "senseCounts" "[I" u1 := (Fld.ext E2 pF1)
  have E7 : Exa Z h2 a1 "com/example/inkcap/inkcap/lexicon/WordCategories" := (Exa.ext E2 pE0)
  obtain ⟨T8, h8, X8, e8, W8, st8⟩ := putF X5 hx hZ hown (host := "") (Or.inl (hw _ (List.mem_of_getElem? (i := 20) rfl))) Via.refl e5 F6 E7 (Or.inr ⟨(hw _ (List.mem_of_getElem? (i := 21) rfl)), rfl, hnm⟩) (hw _ (List.mem_of_getElem? (i := 3) rfl)) (ty := (.array .int)) (by decide) rfl rfl (g := (mkF m 12 #[.val (.ref a1), .val (.ref c1), .unset, .unset, .unset] [(.ref bc), (.ref a1)])) rfl rfl (hb hby d_prog_55_method_1_code_12)
  have P9 : Keep h0 h8 [a1] := P3.wr W8 (Or.inl (List.mem_of_getElem? (i := 0) rfl))
  have F10 : Fld Z h8 a1 "com/example/inkcap/inkcap/lexicon/WordCategories" "senseCounts" "[I" (.ref bc) := Fld.same W8 F6
  have N8 := Fr.snoc X8 N0 pg4
  obtain ⟨T11, h11, X11, e11, E11, A11, D11, -, st11⟩ := newO X8 hx hZ hown (hw _ (List.mem_of_getElem? (i := 22) rfl)) (hw _ (List.mem_of_getElem? (i := 23) rfl)) (hw _ (List.mem_of_getElem? (i := 24) rfl)) e8 (g := (mkF m 17 #[.val (.ref a1), .val (.ref c1), .val (.int (0 : Int32)), .unset, .unset] [])) rfl (hb hby d_prog_55_method_1_code_17) (by decide) (by decide)
  obtain ⟨la, g11⟩ : ∃ z, z = h8.size := ⟨_, rfl⟩
  rw [← g11] at A11 D11 st11
  have E12 : Exa Z h8 a1 "com/example/inkcap/inkcap/lexicon/WordCategories" := (Exa.wr W8 E7)
  have ne_a1_la : a1 ≠ la := Nat.ne_of_lt (Nat.lt_of_lt_of_eq E12.lt g11.symm)
  have E13 : Exa Z h8 c1 "[I" := (Exa.wr W8 (Exa.ext E2 pE5))
  have ne_c1_la : c1 ≠ la := Nat.ne_of_lt (Nat.lt_of_lt_of_eq E13.lt g11.symm)
  have E14 : Exa Z h8 bc "[I" := (Exa.wr W8 Q2)
  have ne_bc_la : bc ≠ la := Nat.ne_of_lt (Nat.lt_of_lt_of_eq E14.lt g11.symm)
  have ge_la : n0 ≤ la := Nat.le_trans (Nat.le_trans Z0 P9.1) (Nat.le_of_eq g11.symm)
  have sz_la : h0.size ≤ la := Nat.le_trans P9.1 (Nat.le_of_eq g11.symm)
  have P15 : Keep h0 h11 [a1] := P9.ext E11
  have F16 : Fld Z h11 la "java/util/AbstractList" "modCount" "I" (.int (0 : Int32)) := D11 (Or.inl (hw _ (List.mem_of_getElem? (i := 42) rfl))) (ty := .int) (by decide)
  have F17 : Fld Z h11 la "java/util/ArrayList" "elementData" "[Ljava/lang/Object;" .null := D11 (Or.inl (hw _ (List.mem_of_getElem? (i := 45) rfl))) (ty := (.array (.object "java/lang/Object"))) (by decide)
  have F18 : Fld Z h11 la "java/util/ArrayList" "size" "I" (.int (0 : Int32)) := D11 (Or.inl (hw _ (List.mem_of_getElem? (i := 65) rfl))) (ty := .int) (by decide)
  have O19 : Old Z n0 h11 := hO.keep P15 (allS pg4 all0)
  obtain ⟨_, _, ⟨T20, L20, k20, n20⟩, -, X20, ⟨Lc20, hQ20, l20, y20, z20⟩, st20⟩ := X11.specialBack hx (y := (⟨"java/util/ArrayList", "<init>", "()V"⟩ : MethodName)) rfl hown (mvT hZ (hw _ (List.mem_of_getElem? (i := 25) rfl))) (mvT hZ (hw _ (List.mem_of_getElem? (i := 26) rfl))) (mvT hZ (hw _ (List.mem_of_getElem? (i := 27) rfl))) (by decide) (backOf (W := 1) (rm_ali l Z a0 hw [] la dce (.int (0 : Int32)) .null (.int (0 : Int32)) h11 n0 (Nat.le_trans Z0 P15.1) A11 F16 F17 F18 ge_la O19 zS9) hZ (hw _ (List.mem_of_getElem? (i := 27) rfl)) (hw _ (List.mem_of_getElem? (i := 24) rfl)) (by decide) (by decide)) (g := (mkF m 21 #[.val (.ref a1), .val (.ref c1), .val (.int (0 : Int32)), .unset, .unset] [(.ref la), (.ref la)])) rfl (by rw [hml]; rfl) (Steps.refl _) (a := la) (argsL := []) (rest := [(.ref la)]) (lenOf pd_2829V rfl) rfl (by show 2 * 0 + _ ≤ _; exact Nat.le_of_eq rfl) (hb hby d_prog_55_method_1_code_21) (fun _ _ => ⟨rfl, e11, (by decide : 2 + 0 ≤ _), (by decide : 7 + 0 ≤ _)⟩)
  dsimp only [Pt.U, Pt.locs, Pt.cells, Pt.slots] at X20 l20 y20 z20 st20 hQ20
  subst l20 y20 z20
  obtain ⟨rfl, N20q, K20, r20_0, r20_1, r20_2, r20_3⟩ := hQ20
  have N20 := Fr.app N8 N20q
  have P21 : Keep h0 T20.heap [a1] := P15.trans K20 (allS (Or.inr sz_la) all0)
  obtain ⟨hS, hSe⟩ : ∃ z, z = T20.heap := ⟨_, rfl⟩
  have E22 : Exa Z T20.heap a1 "com/example/inkcap/inkcap/lexicon/WordCategories" := ((Exa.ext E11 E12).keep K20)
  have E23 : Exa Z T20.heap c1 "[I" := ((Exa.ext E11 E13).keep K20)
  have E24 : Exa Z T20.heap bc "[I" := ((Exa.ext E11 E14).keep K20)
  have F25 : Fld Z T20.heap a1 "com/example/inkcap/inkcap/lexicon/WordCategories" "senseCounts" "[I" (.ref bc) := ((Fld.ext E11 F10).keep K20 (ninS ne_a1_la nin0))
  have F26 : Fld Z T20.heap a1 "com/example/inkcap/inkcap/lexicon/WordCategories" "senseCount" "I" u2 := ((Fld.ext E11 (Fld.other W8 (Fld.ext E2 pF2) (Or.inr (slot_ne (t := .int) (t' := (.array .int)) (C := "com/example/inkcap/inkcap/lexicon/WordCategories") (a0 := a0) (Or.inr (hw _ (List.mem_of_getElem? (i := 89) rfl))) (Or.inr (hw _ (List.mem_of_getElem? (i := 21) rfl))) (by decide) (by decide) (by decide))))).keep K20 (ninS ne_a1_la nin0))
  have F27 : Fld Z T20.heap a1 "com/example/inkcap/inkcap/lexicon/WordCategories" "categories" "Ljava/util/List;" u3 := ((Fld.ext E11 (Fld.other W8 (Fld.ext E2 pF3) (Or.inr (slot_ne (t := (.object "java/util/List")) (t' := (.array .int)) (C := "com/example/inkcap/inkcap/lexicon/WordCategories") (a0 := a0) (Or.inr (hw _ (List.mem_of_getElem? (i := 133) rfl))) (Or.inr (hw _ (List.mem_of_getElem? (i := 21) rfl))) (by decide) (by decide) (by decide))))).keep K20 (ninS ne_a1_la nin0))
  have A28 : Arv Z T20.heap c1 kc .int (4 : Int32) [.int x0, .int x1, .int x2, .int x3] (.int (0 : Int32)) := ((((pA6.ext E2).other W8 pn7.symm).ext E11).keep K20 (ninS ne_c1_la nin0))
  have A29 : Arv Z T20.heap bc kc .int (4 : Int32) [.int x0, .int x1, .int x2, .int x3] (.int (0 : Int32)) := (((V4.other W8 ne_a1_bc.symm).ext E11).keep K20 (ninS ne_bc_la nin0))
  have KS0 : Keep T20.heap T20.heap [la] := Keep.refl _ _
  obtain ⟨mc1, nn1, T30, h30, L30, X30, e30, N30, KS30, fE0, fM0, fS0, fH0, mg30⟩ : ∃ (mc1 : Int32) (nn1 : Int32) (T30 : State) (h30 : Heap) (L30 : List Loc), Stand p l e ({ frames := 5, cells := 7, slots := 49, locals := 69 } : Room) s m #[(.ref a1), (.ref c1)] below meth c T30 L30 3 17 ∧ T30.heap = h30 ∧ Fr n0 L30 ∧ Keep T20.heap h30 [la] ∧ (Exa Z h30 la "java/util/ArrayList") ∧ (Fld Z h30 la "java/util/AbstractList" "modCount" "I" (.int mc1)) ∧ (Fld Z h30 la "java/util/ArrayList" "size" "I" (.int nn1)) ∧ ((nn1 = 0 ∧ Fld Z h30 la "java/util/ArrayList" "elementData" "[Ljava/lang/Object;" (.ref dce)) ∨ (∃ (ed : Addr) (kk : ClassId) (vs : List Value), n0 ≤ ed ∧ T20.heap.size ≤ ed ∧ la ≠ ed ∧ 0 < (nn1).toInt ∧ (nn1).toInt ≤ 1 ∧ Ovr Z kk "java/lang/Object" ∧ vs.length = 10 ∧ Fld Z h30 la "java/util/ArrayList" "elementData" "[Ljava/lang/Object;" (.ref ed) ∧ Arv Z h30 ed kk (.object "java/lang/Object") (10 : Int32) vs .null)) ∧  ∀ t, Steps p.tables e below (T30.setTop (mkF m 28 #[.val (.ref a1), .val (.ref c1), .val (.int ((0 : Int32) + x0)), .val (.ref la), .val (.int (1 : Int32))] [])) t → Steps p.tables e below (T20.setTop (mkF m 28 #[.val (.ref a1), .val (.ref c1), .val (.int (0 : Int32)), .val (.ref la), .val (.int (0 : Int32))] [])) t := by
    by_cases hc0 : (0 : Int32) < x0
    ·
      obtain ⟨cl31, Ar31, qk31, Sz31, Nz31, Ha31, Ga31⟩ := id A28
      obtain ⟨cl32, Ar32, qk32, Sz32, Nz32, Ha32, Ga32⟩ := id A28
      have hin32 : ¬ ((0 : Int32) < 0 ∨ cl32.slots.size ≤ ((0 : Int32)).toNatClampNeg) := inb_of Sz32 ⟨by decide, by decide⟩
      have hat32 : cl32.slots[((0 : Int32)).toNatClampNeg]? = some (.int x0) := Has.at Ha32 hin32 (by rfl)
      obtain ⟨cl33, Ar33, qk33, Sz33, Nz33, Ha33, Ga33⟩ := id A28
      have hin33 : ¬ ((0 : Int32) < 0 ∨ cl33.slots.size ≤ ((0 : Int32)).toNatClampNeg) := inb_of Sz33 ⟨by decide, by decide⟩
      have hat33 : cl33.slots[((0 : Int32)).toNatClampNeg]? = some (.int x0) := Has.at Ha33 hin33 (by rfl)
      have O34 : Old Z n0 T20.heap := hO.keep P21 (allS pg4 all0)
      obtain ⟨_, _, ⟨T35, L35, k35, n35⟩, -, X35, ⟨Lc35, hQ35, l35, y35, z35⟩, st35⟩ := Jvm.LawKit.callS X20 hx (y := (⟨"java/lang/Integer", "valueOf", "(I)Ljava/lang/Integer;"⟩ : MethodName)) hown (mvT hZ (hw _ (List.mem_of_getElem? (i := 46) rfl))) (mvT hZ (hw _ (List.mem_of_getElem? (i := 47) rfl))) (mvT hZ (hw _ (List.mem_of_getElem? (i := 48) rfl))) (mvT hZ (hw _ (List.mem_of_getElem? (i := 49) rfl))) (by decide) (backOf (W := 1) (rm_vof l Z a0 hw [] (0 : Int32) ca cl bi0 T20.heap n0 (Nat.le_trans Z0 P21.1) O34 zS11 zS12 hcl (by decide) (by decide) hin0 hat0) hZ (hw _ (List.mem_of_getElem? (i := 49) rfl)) (hw _ (List.mem_of_getElem? (i := 48) rfl)) (by decide) (by decide)) (g := (mkF m 52 #[.val (.ref a1), .val (.ref c1), .val (.int ((0 : Int32) + x0)), .val (.ref la), .val (.int (0 : Int32))] [(.int (0 : Int32)), (.ref la)])) rfl (by rw [hml]; rfl) (argsL := [(.int (0 : Int32))]) (rest := [(.ref la)]) (lenOf pd_28I29Ljava2flang2fInteger3b rfl) rfl (by show 2 * 0 + _ ≤ _; exact Nat.le_of_eq rfl) (hb hby d_prog_55_method_1_code_52) (fun _ _ => ⟨rfl, rfl, (by decide : 2 + 0 ≤ _), (by decide : 7 + 0 ≤ _)⟩)
      dsimp only [Pt.U, Pt.locs, Pt.cells, Pt.slots] at X35 l35 y35 z35 st35 hQ35
      subst l35 y35 z35
      obtain ⟨rfl, N35q, e35⟩ := hQ35
      have N35 := Fr.app N20 N35q
      obtain ⟨cq36, kq36, q36a, q36b, q36c⟩ := isOf hZ e35 r20_0
      obtain ⟨_, _, ⟨T36, L36, k36, n36⟩, -, X36, ⟨Lc36, hQ36, l36, y36, z36⟩, st36⟩ := X35.interfaceBack hx (xi := (⟨"java/util/List", "add", "(Ljava/lang/Object;)Z"⟩ : MethodName)) (y := (⟨"java/util/ArrayList", "add", "(Ljava/lang/Object;)Z"⟩ : MethodName)) hown (mvT hZ (hw _ (List.mem_of_getElem? (i := 53) rfl))) (mvT hZ (hw _ (List.mem_of_getElem? (i := 54) rfl))) (mvT hZ (hw _ (List.mem_of_getElem? (i := 55) rfl))) (mvT hZ (hw _ (List.mem_of_getElem? (i := 56) rfl))) (mvT hZ (hw _ (List.mem_of_getElem? (i := 57) rfl))) (mvT hZ (hw _ (List.mem_of_getElem? (i := 58) rfl))) (mvT hZ (hw _ (List.mem_of_getElem? (i := 59) rfl))) (mvT hZ (hw _ (List.mem_of_getElem? (i := 60) rfl))) (by decide) (backOf (W := 0) (rm_addF l Z a0 hw [] la bi0 dce kd (0 : Int32) T20.heap n0 (Nat.le_trans Z0 P21.1) r20_0 r20_1 r20_2 r20_3 ge_la O34 zS9 zA10 zE14) hZ (hw _ (List.mem_of_getElem? (i := 61) rfl)) (hw _ (List.mem_of_getElem? (i := 24) rfl)) (by decide) (by decide)) q36a q36b q36c (g := (mkF m 55 #[.val (.ref a1), .val (.ref c1), .val (.int ((0 : Int32) + x0)), .val (.ref la), .val (.int (0 : Int32))] [(.ref bi0), (.ref la)])) rfl (by rw [hml]; rfl) (Steps.refl _) (argsL := [(.ref bi0)]) (rest := []) (lenOf pd_28Ljava2flang2fObject3b29Z rfl) rfl (by show 2 * 0 + _ ≤ _; exact Nat.le_of_eq rfl) (hb hby d_prog_55_method_1_code_55) (fun _ _ => ⟨rfl, e35, (by decide : 2 + 1 ≤ _), (by decide : 7 + 10 ≤ _)⟩)
      dsimp only [Pt.U, Pt.locs, Pt.cells, Pt.slots] at X36 l36 y36 z36 st36 hQ36
      subst l36 y36 z36
      obtain ⟨en, kn, vn, rfl, N36q, K36, r36_0, r36_1, r36_2, r36_3, r36_4, r36_5, r36_6, r36_7, r36_8⟩ := hQ36
      have N36 := Fr.app N35 N36q
      have ne_a1_en : a1 ≠ en := Nat.ne_of_lt (Nat.lt_of_lt_of_le E22.lt r36_0)
      have ne_c1_en : c1 ≠ en := Nat.ne_of_lt (Nat.lt_of_lt_of_le E23.lt r36_0)
      have ne_bc_en : bc ≠ en := Nat.ne_of_lt (Nat.lt_of_lt_of_le E24.lt r36_0)
      have ne_la_en : la ≠ en := Nat.ne_of_lt (Nat.lt_of_lt_of_le r20_0.lt r36_0)
      have ge_en : n0 ≤ en := Nat.le_trans (Nat.le_trans Z0 P21.1) r36_0
      have sz_en : h0.size ≤ en := Nat.le_trans P21.1 r36_0
      have P37 : Keep h0 T36.heap [a1] := P21.trans K36 (allS (Or.inr sz_la) all0)
      refine ⟨((0 : Int32) + (1 : Int32)), ((0 : Int32) + (1 : Int32)), T36, _, _, own_mono X36 (by decide) (by decide), rfl, N36, KS0.trans K36 (allS (Or.inl (List.mem_of_getElem? (i := 0) rfl)) all0), r36_2, r36_3, r36_5, Or.inr ⟨en, kn, vn, r36_1, Nat.le_trans KS0.1 r36_0, ne_la_en, by decide, by decide, r36_7, r36_8, r36_4, r36_6⟩, fun t k => ?_⟩
      show Steps p.tables e below (T20.setTop (mkF m 28 #[.val (.ref a1), .val (.ref c1), .val (.int (0 : Int32)), .val (.ref la), .val (.int (0 : Int32))] [])) _
      refine XS.iload X20.here hx rfl (hb hby d_prog_55_method_1_code_28) rfl ?_
      show Steps p.tables e below (T20.setTop (mkF m 30 #[.val (.ref a1), .val (.ref c1), .val (.int (0 : Int32)), .val (.ref la), .val (.int (0 : Int32))] [(.int (0 : Int32))])) _
      refine XS.aloadN X20.here hx rfl (hb hby d_prog_55_method_1_code_30) rfl rfl ?_
      show Steps p.tables e below (T20.setTop (mkF m 31 #[.val (.ref a1), .val (.ref c1), .val (.int (0 : Int32)), .val (.ref la), .val (.int (0 : Int32))] [(.ref c1), (.int (0 : Int32))])) _
      refine X20.arraylength hx Ar31.1 (State.isArrayOf_alike hZ.alike Ar31.2.1) (g := (mkF m 31 #[.val (.ref a1), .val (.ref c1), .val (.int (0 : Int32)), .val (.ref la), .val (.int (0 : Int32))] [(.ref c1), (.int (0 : Int32))])) rfl rfl (hb hby d_prog_55_method_1_code_31) _ ?_
      rw [len_of Sz31 Nz31]
      show Steps p.tables e below (T20.setTop (mkF m 32 #[.val (.ref a1), .val (.ref c1), .val (.int (0 : Int32)), .val (.ref la), .val (.int (0 : Int32))] [(.int (4 : Int32)), (.int (0 : Int32))])) _
      refine XS.icmpNo X20.here hx rfl (hb hby d_prog_55_method_1_code_32) rfl (tlt (by decide : (0 : Int32) < (4 : Int32))).2.1 ?_
      show Steps p.tables e below (T20.setTop (mkF m 35 #[.val (.ref a1), .val (.ref c1), .val (.int (0 : Int32)), .val (.ref la), .val (.int (0 : Int32))] [])) _
      refine XS.iloadN X20.here hx rfl (hb hby d_prog_55_method_1_code_35) rfl ?_
      show Steps p.tables e below (T20.setTop (mkF m 36 #[.val (.ref a1), .val (.ref c1), .val (.int (0 : Int32)), .val (.ref la), .val (.int (0 : Int32))] [(.int (0 : Int32))])) _
      refine XS.aloadN X20.here hx rfl (hb hby d_prog_55_method_1_code_36) rfl rfl ?_
      show Steps p.tables e below (T20.setTop (mkF m 37 #[.val (.ref a1), .val (.ref c1), .val (.int (0 : Int32)), .val (.ref la), .val (.int (0 : Int32))] [(.ref c1), (.int (0 : Int32))])) _
      refine XS.iload X20.here hx rfl (hb hby d_prog_55_method_1_code_37) rfl ?_
      show Steps p.tables e below (T20.setTop (mkF m 39 #[.val (.ref a1), .val (.ref c1), .val (.int (0 : Int32)), .val (.ref la), .val (.int (0 : Int32))] [(.int (0 : Int32)), (.ref c1), (.int (0 : Int32))])) _
      refine X20.iaload hx (j := (0 : Int32)) (v := (.int x0)) Ar32.1 (State.isArrayOf_alike hZ.alike Ar32.2.1) Ar32.2.2 hin32 hat32 (g := (mkF m 39 #[.val (.ref a1), .val (.ref c1), .val (.int (0 : Int32)), .val (.ref la), .val (.int (0 : Int32))] [(.int (0 : Int32)), (.ref c1), (.int (0 : Int32))])) rfl rfl (hb hby d_prog_55_method_1_code_39) _ ?_
      show Steps p.tables e below (T20.setTop (mkF m 40 #[.val (.ref a1), .val (.ref c1), .val (.int (0 : Int32)), .val (.ref la), .val (.int (0 : Int32))] [(.int x0), (.int (0 : Int32))])) _
      refine XS.iadd X20.here hx rfl (hb hby d_prog_55_method_1_code_40) rfl ?_
      show Steps p.tables e below (T20.setTop (mkF m 41 #[.val (.ref a1), .val (.ref c1), .val (.int (0 : Int32)), .val (.ref la), .val (.int (0 : Int32))] [(.int ((0 : Int32) + x0))])) _
      refine XS.istoreN X20.here hx rfl (hb hby d_prog_55_method_1_code_41) rfl (l' := #[.val (.ref a1), .val (.ref c1), .val (.int ((0 : Int32) + x0)), .val (.ref la), .val (.int (0 : Int32))]) rfl ?_
      show Steps p.tables e below (T20.setTop (mkF m 42 #[.val (.ref a1), .val (.ref c1), .val (.int ((0 : Int32) + x0)), .val (.ref la), .val (.int (0 : Int32))] [])) _
      refine XS.aloadN X20.here hx rfl (hb hby d_prog_55_method_1_code_42) rfl rfl ?_
      show Steps p.tables e below (T20.setTop (mkF m 43 #[.val (.ref a1), .val (.ref c1), .val (.int ((0 : Int32) + x0)), .val (.ref la), .val (.int (0 : Int32))] [(.ref c1)])) _
      refine XS.iload X20.here hx rfl (hb hby d_prog_55_method_1_code_43) rfl ?_
      show Steps p.tables e below (T20.setTop (mkF m 45 #[.val (.ref a1), .val (.ref c1), .val (.int ((0 : Int32) + x0)), .val (.ref la), .val (.int (0 : Int32))] [(.int (0 : Int32)), (.ref c1)])) _
      refine X20.iaload hx (j := (0 : Int32)) (v := (.int x0)) Ar33.1 (State.isArrayOf_alike hZ.alike Ar33.2.1) Ar33.2.2 hin33 hat33 (g := (mkF m 45 #[.val (.ref a1), .val (.ref c1), .val (.int ((0 : Int32) + x0)), .val (.ref la), .val (.int (0 : Int32))] [(.int (0 : Int32)), (.ref c1)])) rfl rfl (hb hby d_prog_55_method_1_code_45) _ ?_
      show Steps p.tables e below (T20.setTop (mkF m 46 #[.val (.ref a1), .val (.ref c1), .val (.int ((0 : Int32) + x0)), .val (.ref la), .val (.int (0 : Int32))] [(.int x0)])) _
      refine XS.ifNo X20.here hx rfl (hb hby d_prog_55_method_1_code_46) rfl ((if0 _ _).trans (tlt (hc0 : (0 : Int32) < x0)).2.2.2) ?_
      show Steps p.tables e below (T20.setTop (mkF m 49 #[.val (.ref a1), .val (.ref c1), .val (.int ((0 : Int32) + x0)), .val (.ref la), .val (.int (0 : Int32))] [])) _
      refine XS.aloadN X20.here hx rfl (hb hby d_prog_55_method_1_code_49) rfl rfl ?_
      show Steps p.tables e below (T20.setTop (mkF m 50 #[.val (.ref a1), .val (.ref c1), .val (.int ((0 : Int32) + x0)), .val (.ref la), .val (.int (0 : Int32))] [(.ref la)])) _
      refine XS.iload X20.here hx rfl (hb hby d_prog_55_method_1_code_50) rfl ?_
      show Steps p.tables e below (T20.setTop (mkF m 52 #[.val (.ref a1), .val (.ref c1), .val (.int ((0 : Int32) + x0)), .val (.ref la), .val (.int (0 : Int32))] [(.int (0 : Int32)), (.ref la)])) _
      refine st35 _ ?_
      show Steps p.tables e below (T35.setTop (mkF m 55 #[.val (.ref a1), .val (.ref c1), .val (.int ((0 : Int32) + x0)), .val (.ref la), .val (.int (0 : Int32))] [(.ref bi0), (.ref la)])) _
      refine st36.trans ?_
      show Steps p.tables e below (T36.setTop (mkF m 60 #[.val (.ref a1), .val (.ref c1), .val (.int ((0 : Int32) + x0)), .val (.ref la), .val (.int (0 : Int32))] [(.int (1 : Int32))])) _
      refine XS.pop X36.here hx rfl (hb hby d_prog_55_method_1_code_60) rfl rfl ?_
      show Steps p.tables e below (T36.setTop (mkF m 61 #[.val (.ref a1), .val (.ref c1), .val (.int ((0 : Int32) + x0)), .val (.ref la), .val (.int (0 : Int32))] [])) _
      refine XS.iinc X36.here hx rfl (hb hby d_prog_55_method_1_code_61) rfl (l' := #[.val (.ref a1), .val (.ref c1), .val (.int ((0 : Int32) + x0)), .val (.ref la), .val (.int (1 : Int32))]) rfl ?_
      show Steps p.tables e below (T36.setTop (mkF m 64 #[.val (.ref a1), .val (.ref c1), .val (.int ((0 : Int32) + x0)), .val (.ref la), .val (.int (1 : Int32))] [])) _
      refine XS.goto X36.here hx rfl (pc0 := 64) (pc' := 28) rfl (hb hby d_prog_55_method_1_code_64) (by decide) (by decide) ?_
      exact k
    ·
      obtain ⟨cl38, Ar38, qk38, Sz38, Nz38, Ha38, Ga38⟩ := id A28
      obtain ⟨cl39, Ar39, qk39, Sz39, Nz39, Ha39, Ga39⟩ := id A28
      have hin39 : ¬ ((0 : Int32) < 0 ∨ cl39.slots.size ≤ ((0 : Int32)).toNatClampNeg) := inb_of Sz39 ⟨by decide, by decide⟩
      have hat39 : cl39.slots[((0 : Int32)).toNatClampNeg]? = some (.int x0) := Has.at Ha39 hin39 (by rfl)
      obtain ⟨cl40, Ar40, qk40, Sz40, Nz40, Ha40, Ga40⟩ := id A28
      have hin40 : ¬ ((0 : Int32) < 0 ∨ cl40.slots.size ≤ ((0 : Int32)).toNatClampNeg) := inb_of Sz40 ⟨by decide, by decide⟩
      have hat40 : cl40.slots[((0 : Int32)).toNatClampNeg]? = some (.int x0) := Has.at Ha40 hin40 (by rfl)
      refine ⟨(0 : Int32), (0 : Int32), T20, _, _, own_mono X20 (by decide) (by decide), rfl, N20, KS0, r20_0, r20_1, r20_3, Or.inl ⟨rfl, r20_2⟩, fun t k => ?_⟩
      show Steps p.tables e below (T20.setTop (mkF m 28 #[.val (.ref a1), .val (.ref c1), .val (.int (0 : Int32)), .val (.ref la), .val (.int (0 : Int32))] [])) _
      refine XS.iload X20.here hx rfl (hb hby d_prog_55_method_1_code_28) rfl ?_
      show Steps p.tables e below (T20.setTop (mkF m 30 #[.val (.ref a1), .val (.ref c1), .val (.int (0 : Int32)), .val (.ref la), .val (.int (0 : Int32))] [(.int (0 : Int32))])) _
      refine XS.aloadN X20.here hx rfl (hb hby d_prog_55_method_1_code_30) rfl rfl ?_
      show Steps p.tables e below (T20.setTop (mkF m 31 #[.val (.ref a1), .val (.ref c1), .val (.int (0 : Int32)), .val (.ref la), .val (.int (0 : Int32))] [(.ref c1), (.int (0 : Int32))])) _
      refine X20.arraylength hx Ar38.1 (State.isArrayOf_alike hZ.alike Ar38.2.1) (g := (mkF m 31 #[.val (.ref a1), .val (.ref c1), .val (.int (0 : Int32)), .val (.ref la), .val (.int (0 : Int32))] [(.ref c1), (.int (0 : Int32))])) rfl rfl (hb hby d_prog_55_method_1_code_31) _ ?_
      rw [len_of Sz38 Nz38]
      show Steps p.tables e below (T20.setTop (mkF m 32 #[.val (.ref a1), .val (.ref c1), .val (.int (0 : Int32)), .val (.ref la), .val (.int (0 : Int32))] [(.int (4 : Int32)), (.int (0 : Int32))])) _
      refine XS.icmpNo X20.here hx rfl (hb hby d_prog_55_method_1_code_32) rfl (tlt (by decide : (0 : Int32) < (4 : Int32))).2.1 ?_
      show Steps p.tables e below (T20.setTop (mkF m 35 #[.val (.ref a1), .val (.ref c1), .val (.int (0 : Int32)), .val (.ref la), .val (.int (0 : Int32))] [])) _
      refine XS.iloadN X20.here hx rfl (hb hby d_prog_55_method_1_code_35) rfl ?_
      show Steps p.tables e below (T20.setTop (mkF m 36 #[.val (.ref a1), .val (.ref c1), .val (.int (0 : Int32)), .val (.ref la), .val (.int (0 : Int32))] [(.int (0 : Int32))])) _
      refine XS.aloadN X20.here hx rfl (hb hby d_prog_55_method_1_code_36) rfl rfl ?_
      show Steps p.tables e below (T20.setTop (mkF m 37 #[.val (.ref a1), .val (.ref c1), .val (.int (0 : Int32)), .val (.ref la), .val (.int (0 : Int32))] [(.ref c1), (.int (0 : Int32))])) _
      refine XS.iload X20.here hx rfl (hb hby d_prog_55_method_1_code_37) rfl ?_
      show Steps p.tables e below (T20.setTop (mkF m 39 #[.val (.ref a1), .val (.ref c1), .val (.int (0 : Int32)), .val (.ref la), .val (.int (0 : Int32))] [(.int (0 : Int32)), (.ref c1), (.int (0 : Int32))])) _
      refine X20.iaload hx (j := (0 : Int32)) (v := (.int x0)) Ar39.1 (State.isArrayOf_alike hZ.alike Ar39.2.1) Ar39.2.2 hin39 hat39 (g := (mkF m 39 #[.val (.ref a1), .val (.ref c1), .val (.int (0 : Int32)), .val (.ref la), .val (.int (0 : Int32))] [(.int (0 : Int32)), (.ref c1), (.int (0 : Int32))])) rfl rfl (hb hby d_prog_55_method_1_code_39) _ ?_
      show Steps p.tables e below (T20.setTop (mkF m 40 #[.val (.ref a1), .val (.ref c1), .val (.int (0 : Int32)), .val (.ref la), .val (.int (0 : Int32))] [(.int x0), (.int (0 : Int32))])) _
      refine XS.iadd X20.here hx rfl (hb hby d_prog_55_method_1_code_40) rfl ?_
      show Steps p.tables e below (T20.setTop (mkF m 41 #[.val (.ref a1), .val (.ref c1), .val (.int (0 : Int32)), .val (.ref la), .val (.int (0 : Int32))] [(.int ((0 : Int32) + x0))])) _
      refine XS.istoreN X20.here hx rfl (hb hby d_prog_55_method_1_code_41) rfl (l' := #[.val (.ref a1), .val (.ref c1), .val (.int ((0 : Int32) + x0)), .val (.ref la), .val (.int (0 : Int32))]) rfl ?_
      show Steps p.tables e below (T20.setTop (mkF m 42 #[.val (.ref a1), .val (.ref c1), .val (.int ((0 : Int32) + x0)), .val (.ref la), .val (.int (0 : Int32))] [])) _
      refine XS.aloadN X20.here hx rfl (hb hby d_prog_55_method_1_code_42) rfl rfl ?_
      show Steps p.tables e below (T20.setTop (mkF m 43 #[.val (.ref a1), .val (.ref c1), .val (.int ((0 : Int32) + x0)), .val (.ref la), .val (.int (0 : Int32))] [(.ref c1)])) _
      refine XS.iload X20.here hx rfl (hb hby d_prog_55_method_1_code_43) rfl ?_
      show Steps p.tables e below (T20.setTop (mkF m 45 #[.val (.ref a1), .val (.ref c1), .val (.int ((0 : Int32) + x0)), .val (.ref la), .val (.int (0 : Int32))] [(.int (0 : Int32)), (.ref c1)])) _
      refine X20.iaload hx (j := (0 : Int32)) (v := (.int x0)) Ar40.1 (State.isArrayOf_alike hZ.alike Ar40.2.1) Ar40.2.2 hin40 hat40 (g := (mkF m 45 #[.val (.ref a1), .val (.ref c1), .val (.int ((0 : Int32) + x0)), .val (.ref la), .val (.int (0 : Int32))] [(.int (0 : Int32)), (.ref c1)])) rfl rfl (hb hby d_prog_55_method_1_code_45) _ ?_
      show Steps p.tables e below (T20.setTop (mkF m 46 #[.val (.ref a1), .val (.ref c1), .val (.int ((0 : Int32) + x0)), .val (.ref la), .val (.int (0 : Int32))] [(.int x0)])) _
      refine XS.ifYes X20.here hx rfl (pc0 := 46) (pc' := 61) rfl (hb hby d_prog_55_method_1_code_46) rfl ((if0 _ _).trans (flt (hc0 : ¬ ((0 : Int32) < x0))).2.2.2) (by decide) (by decide) ?_
      show Steps p.tables e below (T20.setTop (mkF m 61 #[.val (.ref a1), .val (.ref c1), .val (.int ((0 : Int32) + x0)), .val (.ref la), .val (.int (0 : Int32))] [])) _
      refine XS.iinc X20.here hx rfl (hb hby d_prog_55_method_1_code_61) rfl (l' := #[.val (.ref a1), .val (.ref c1), .val (.int ((0 : Int32) + x0)), .val (.ref la), .val (.int (1 : Int32))]) rfl ?_
      show Steps p.tables e below (T20.setTop (mkF m 64 #[.val (.ref a1), .val (.ref c1), .val (.int ((0 : Int32) + x0)), .val (.ref la), .val (.int (1 : Int32))] [])) _
      refine XS.goto X20.here hx rfl (pc0 := 64) (pc' := 28) rfl (hb hby d_prog_55_method_1_code_64) (by decide) (by decide) ?_
      exact k
  have PL0 : Keep h0 h30 [a1] := P21.trans KS30 (allS (Or.inr sz_la) all0)
  obtain ⟨mc2, nn2, T41, h41, L41, X41, e41, N41, KS41, fE1, fM1, fS1, fH1, mg41⟩ : ∃ (mc2 : Int32) (nn2 : Int32) (T41 : State) (h41 : Heap) (L41 : List Loc), Stand p l e ({ frames := 5, cells := 7, slots := 49, locals := 69 } : Room) s m #[(.ref a1), (.ref c1)] below meth c T41 L41 4 27 ∧ T41.heap = h41 ∧ Fr n0 L41 ∧ Keep T20.heap h41 [la] ∧ (Exa Z h41 la "java/util/ArrayList") ∧ (Fld Z h41 la "java/util/AbstractList" "modCount" "I" (.int mc2)) ∧ (Fld Z h41 la "java/util/ArrayList" "size" "I" (.int nn2)) ∧ ((nn2 = 0 ∧ Fld Z h41 la "java/util/ArrayList" "elementData" "[Ljava/lang/Object;" (.ref dce)) ∨ (∃ (ed : Addr) (kk : ClassId) (vs : List Value), n0 ≤ ed ∧ T20.heap.size ≤ ed ∧ la ≠ ed ∧ 0 < (nn2).toInt ∧ (nn2).toInt ≤ 2 ∧ Ovr Z kk "java/lang/Object" ∧ vs.length = 10 ∧ Fld Z h41 la "java/util/ArrayList" "elementData" "[Ljava/lang/Object;" (.ref ed) ∧ Arv Z h41 ed kk (.object "java/lang/Object") (10 : Int32) vs .null)) ∧  ∀ t, Steps p.tables e below (T41.setTop (mkF m 28 #[.val (.ref a1), .val (.ref c1), .val (.int (((0 : Int32) + x0) + x1)), .val (.ref la), .val (.int (2 : Int32))] [])) t → Steps p.tables e below (T30.setTop (mkF m 28 #[.val (.ref a1), .val (.ref c1), .val (.int ((0 : Int32) + x0)), .val (.ref la), .val (.int (1 : Int32))] [])) t := by
    by_cases hc1 : (0 : Int32) < x1
    ·
      rcases id fH0 with ⟨rfl, fD⟩ | ⟨ed, kk, vs, q1, q2, q3, q4, q5, q6, q7, q8, q9⟩
      ·
        have A43 : Arv Z h30 c1 kc .int (4 : Int32) [.int x0, .int x1, .int x2, .int x3] (.int (0 : Int32)) := (A28.keep KS30 (ninS ne_c1_la nin0))
        obtain ⟨cl42, Ar42, qk42, Sz42, Nz42, Ha42, Ga42⟩ := id A43
        obtain ⟨cl44, Ar44, qk44, Sz44, Nz44, Ha44, Ga44⟩ := id A43
        have hin44 : ¬ ((1 : Int32) < 0 ∨ cl44.slots.size ≤ ((1 : Int32)).toNatClampNeg) := inb_of Sz44 ⟨by decide, by decide⟩
        have hat44 : cl44.slots[((1 : Int32)).toNatClampNeg]? = some (.int x1) := Has.at Ha44 hin44 (by rfl)
        obtain ⟨cl45, Ar45, qk45, Sz45, Nz45, Ha45, Ga45⟩ := id A43
        have hin45 : ¬ ((1 : Int32) < 0 ∨ cl45.slots.size ≤ ((1 : Int32)).toNatClampNeg) := inb_of Sz45 ⟨by decide, by decide⟩
        have hat45 : cl45.slots[((1 : Int32)).toNatClampNeg]? = some (.int x1) := Has.at Ha45 hin45 (by rfl)
        have O46 : Old Z n0 h30 := hO.keep PL0 (allS pg4 all0)
        obtain ⟨_, _, ⟨T47, L47, k47, n47⟩, -, X47, ⟨Lc47, hQ47, l47, y47, z47⟩, st47⟩ := Jvm.LawKit.callS X30 hx (y := (⟨"java/lang/Integer", "valueOf", "(I)Ljava/lang/Integer;"⟩ : MethodName)) hown (mvT hZ (hw _ (List.mem_of_getElem? (i := 46) rfl))) (mvT hZ (hw _ (List.mem_of_getElem? (i := 47) rfl))) (mvT hZ (hw _ (List.mem_of_getElem? (i := 48) rfl))) (mvT hZ (hw _ (List.mem_of_getElem? (i := 49) rfl))) (by decide) (backOf (W := 1) (rm_vof l Z a0 hw [] (1 : Int32) ca cl bi1 h30 n0 (Nat.le_trans Z0 PL0.1) O46 zS11 zS12 hcl (by decide) (by decide) hin1 hat1) hZ (hw _ (List.mem_of_getElem? (i := 49) rfl)) (hw _ (List.mem_of_getElem? (i := 48) rfl)) (by decide) (by decide)) (g := (mkF m 52 #[.val (.ref a1), .val (.ref c1), .val (.int (((0 : Int32) + x0) + x1)), .val (.ref la), .val (.int (1 : Int32))] [(.int (1 : Int32)), (.ref la)])) rfl (by rw [hml]; rfl) (argsL := [(.int (1 : Int32))]) (rest := [(.ref la)]) (lenOf pd_28I29Ljava2flang2fInteger3b rfl) rfl (by show 2 * 0 + _ ≤ _; exact Nat.le_of_eq rfl) (hb hby d_prog_55_method_1_code_52) (fun _ _ => ⟨rfl, e30, (by decide : 3 + 0 ≤ _), (by decide : 17 + 0 ≤ _)⟩)
        dsimp only [Pt.U, Pt.locs, Pt.cells, Pt.slots] at X47 l47 y47 z47 st47 hQ47
        subst l47 y47 z47
        obtain ⟨rfl, N47q, e47⟩ := hQ47
        have N47 := Fr.app N30 N47q
        obtain ⟨cq48, kq48, q48a, q48b, q48c⟩ := isOf hZ e47 fE0
        obtain ⟨_, _, ⟨T48, L48, k48, n48⟩, -, X48, ⟨Lc48, hQ48, l48, y48, z48⟩, st48⟩ := X47.interfaceBack hx (xi := (⟨"java/util/List", "add", "(Ljava/lang/Object;)Z"⟩ : MethodName)) (y := (⟨"java/util/ArrayList", "add", "(Ljava/lang/Object;)Z"⟩ : MethodName)) hown (mvT hZ (hw _ (List.mem_of_getElem? (i := 53) rfl))) (mvT hZ (hw _ (List.mem_of_getElem? (i := 54) rfl))) (mvT hZ (hw _ (List.mem_of_getElem? (i := 55) rfl))) (mvT hZ (hw _ (List.mem_of_getElem? (i := 56) rfl))) (mvT hZ (hw _ (List.mem_of_getElem? (i := 57) rfl))) (mvT hZ (hw _ (List.mem_of_getElem? (i := 58) rfl))) (mvT hZ (hw _ (List.mem_of_getElem? (i := 59) rfl))) (mvT hZ (hw _ (List.mem_of_getElem? (i := 60) rfl))) (by decide) (backOf (W := 0) (rm_addF l Z a0 hw [] la bi1 dce kd mc1 h30 n0 (Nat.le_trans Z0 PL0.1) fE0 fM0 fD fS0 ge_la O46 zS9 zA10 zE17) hZ (hw _ (List.mem_of_getElem? (i := 61) rfl)) (hw _ (List.mem_of_getElem? (i := 24) rfl)) (by decide) (by decide)) q48a q48b q48c (g := (mkF m 55 #[.val (.ref a1), .val (.ref c1), .val (.int (((0 : Int32) + x0) + x1)), .val (.ref la), .val (.int (1 : Int32))] [(.ref bi1), (.ref la)])) rfl (by rw [hml]; rfl) (Steps.refl _) (argsL := [(.ref bi1)]) (rest := []) (lenOf pd_28Ljava2flang2fObject3b29Z rfl) rfl (by show 2 * 0 + _ ≤ _; exact Nat.le_of_eq rfl) (hb hby d_prog_55_method_1_code_55) (fun _ _ => ⟨rfl, e47, (by decide : 3 + 1 ≤ _), (by decide : 17 + 10 ≤ _)⟩)
        dsimp only [Pt.U, Pt.locs, Pt.cells, Pt.slots] at X48 l48 y48 z48 st48 hQ48
        subst l48 y48 z48
        obtain ⟨en, kn, vn, rfl, N48q, K48, r48_0, r48_1, r48_2, r48_3, r48_4, r48_5, r48_6, r48_7, r48_8⟩ := hQ48
        have N48 := Fr.app N47 N48q
        have E49 : Exa Z h30 a1 "com/example/inkcap/inkcap/lexicon/WordCategories" := (E22.keep KS30)
        have ne_a1_en : a1 ≠ en := Nat.ne_of_lt (Nat.lt_of_lt_of_le E49.lt r48_0)
        have E50 : Exa Z h30 c1 "[I" := (E23.keep KS30)
        have ne_c1_en : c1 ≠ en := Nat.ne_of_lt (Nat.lt_of_lt_of_le E50.lt r48_0)
        have E51 : Exa Z h30 bc "[I" := (E24.keep KS30)
        have ne_bc_en : bc ≠ en := Nat.ne_of_lt (Nat.lt_of_lt_of_le E51.lt r48_0)
        have ne_la_en : la ≠ en := Nat.ne_of_lt (Nat.lt_of_lt_of_le fE0.lt r48_0)
        have ge_en : n0 ≤ en := Nat.le_trans (Nat.le_trans Z0 PL0.1) r48_0
        have sz_en : h0.size ≤ en := Nat.le_trans PL0.1 r48_0
        have P52 : Keep h0 T48.heap [a1] := PL0.trans K48 (allS (Or.inr sz_la) all0)
        refine ⟨(mc1 + (1 : Int32)), ((0 : Int32) + (1 : Int32)), T48, _, _, own_mono X48 (by decide) (by decide), rfl, N48, KS30.trans K48 (allS (Or.inl (List.mem_of_getElem? (i := 0) rfl)) all0), r48_2, r48_3, r48_5, Or.inr ⟨en, kn, vn, r48_1, Nat.le_trans KS30.1 r48_0, ne_la_en, by decide, by decide, r48_7, r48_8, r48_4, r48_6⟩, fun t k => ?_⟩
        show Steps p.tables e below (T30.setTop (mkF m 28 #[.val (.ref a1), .val (.ref c1), .val (.int ((0 : Int32) + x0)), .val (.ref la), .val (.int (1 : Int32))] [])) _
        refine XS.iload X30.here hx rfl (hb hby d_prog_55_method_1_code_28) rfl ?_
        show Steps p.tables e below (T30.setTop (mkF m 30 #[.val (.ref a1), .val (.ref c1), .val (.int ((0 : Int32) + x0)), .val (.ref la), .val (.int (1 : Int32))] [(.int (1 : Int32))])) _
        refine XS.aloadN X30.here hx rfl (hb hby d_prog_55_method_1_code_30) rfl rfl ?_
        show Steps p.tables e below (T30.setTop (mkF m 31 #[.val (.ref a1), .val (.ref c1), .val (.int ((0 : Int32) + x0)), .val (.ref la), .val (.int (1 : Int32))] [(.ref c1), (.int (1 : Int32))])) _
        refine X30.arraylength hx (by rw [e30]; exact Ar42.1) (State.isArrayOf_alike hZ.alike Ar42.2.1) (g := (mkF m 31 #[.val (.ref a1), .val (.ref c1), .val (.int ((0 : Int32) + x0)), .val (.ref la), .val (.int (1 : Int32))] [(.ref c1), (.int (1 : Int32))])) rfl rfl (hb hby d_prog_55_method_1_code_31) _ ?_
        rw [len_of Sz42 Nz42]
        show Steps p.tables e below (T30.setTop (mkF m 32 #[.val (.ref a1), .val (.ref c1), .val (.int ((0 : Int32) + x0)), .val (.ref la), .val (.int (1 : Int32))] [(.int (4 : Int32)), (.int (1 : Int32))])) _
        refine XS.icmpNo X30.here hx rfl (hb hby d_prog_55_method_1_code_32) rfl (tlt (by decide : (1 : Int32) < (4 : Int32))).2.1 ?_
        show Steps p.tables e below (T30.setTop (mkF m 35 #[.val (.ref a1), .val (.ref c1), .val (.int ((0 : Int32) + x0)), .val (.ref la), .val (.int (1 : Int32))] [])) _
        refine XS.iloadN X30.here hx rfl (hb hby d_prog_55_method_1_code_35) rfl ?_
        show Steps p.tables e below (T30.setTop (mkF m 36 #[.val (.ref a1), .val (.ref c1), .val (.int ((0 : Int32) + x0)), .val (.ref la), .val (.int (1 : Int32))] [(.int ((0 : Int32) + x0))])) _
        refine XS.aloadN X30.here hx rfl (hb hby d_prog_55_method_1_code_36) rfl rfl ?_
        show Steps p.tables e below (T30.setTop (mkF m 37 #[.val (.ref a1), .val (.ref c1), .val (.int ((0 : Int32) + x0)), .val (.ref la), .val (.int (1 : Int32))] [(.ref c1), (.int ((0 : Int32) + x0))])) _
        refine XS.iload X30.here hx rfl (hb hby d_prog_55_method_1_code_37) rfl ?_
        show Steps p.tables e below (T30.setTop (mkF m 39 #[.val (.ref a1), .val (.ref c1), .val (.int ((0 : Int32) + x0)), .val (.ref la), .val (.int (1 : Int32))] [(.int (1 : Int32)), (.ref c1), (.int ((0 : Int32) + x0))])) _
        refine X30.iaload hx (j := (1 : Int32)) (v := (.int x1)) (by rw [e30]; exact Ar44.1) (State.isArrayOf_alike hZ.alike Ar44.2.1) Ar44.2.2 hin44 hat44 (g := (mkF m 39 #[.val (.ref a1), .val (.ref c1), .val (.int ((0 : Int32) + x0)), .val (.ref la), .val (.int (1 : Int32))] [(.int (1 : Int32)), (.ref c1), (.int ((0 : Int32) + x0))])) rfl rfl (hb hby d_prog_55_method_1_code_39) _ ?_
        show Steps p.tables e below (T30.setTop (mkF m 40 #[.val (.ref a1), .val (.ref c1), .val (.int ((0 : Int32) + x0)), .val (.ref la), .val (.int (1 : Int32))] [(.int x1), (.int ((0 : Int32) + x0))])) _
        refine XS.iadd X30.here hx rfl (hb hby d_prog_55_method_1_code_40) rfl ?_
        show Steps p.tables e below (T30.setTop (mkF m 41 #[.val (.ref a1), .val (.ref c1), .val (.int ((0 : Int32) + x0)), .val (.ref la), .val (.int (1 : Int32))] [(.int (((0 : Int32) + x0) + x1))])) _
        refine XS.istoreN X30.here hx rfl (hb hby d_prog_55_method_1_code_41) rfl (l' := #[.val (.ref a1), .val (.ref c1), .val (.int (((0 : Int32) + x0) + x1)), .val (.ref la), .val (.int (1 : Int32))]) rfl ?_
        show Steps p.tables e below (T30.setTop (mkF m 42 #[.val (.ref a1), .val (.ref c1), .val (.int (((0 : Int32) + x0) + x1)), .val (.ref la), .val (.int (1 : Int32))] [])) _
        refine XS.aloadN X30.here hx rfl (hb hby d_prog_55_method_1_code_42) rfl rfl ?_
        show Steps p.tables e below (T30.setTop (mkF m 43 #[.val (.ref a1), .val (.ref c1), .val (.int (((0 : Int32) + x0) + x1)), .val (.ref la), .val (.int (1 : Int32))] [(.ref c1)])) _
        refine XS.iload X30.here hx rfl (hb hby d_prog_55_method_1_code_43) rfl ?_
        show Steps p.tables e below (T30.setTop (mkF m 45 #[.val (.ref a1), .val (.ref c1), .val (.int (((0 : Int32) + x0) + x1)), .val (.ref la), .val (.int (1 : Int32))] [(.int (1 : Int32)), (.ref c1)])) _
        refine X30.iaload hx (j := (1 : Int32)) (v := (.int x1)) (by rw [e30]; exact Ar45.1) (State.isArrayOf_alike hZ.alike Ar45.2.1) Ar45.2.2 hin45 hat45 (g := (mkF m 45 #[.val (.ref a1), .val (.ref c1), .val (.int (((0 : Int32) + x0) + x1)), .val (.ref la), .val (.int (1 : Int32))] [(.int (1 : Int32)), (.ref c1)])) rfl rfl (hb hby d_prog_55_method_1_code_45) _ ?_
        show Steps p.tables e below (T30.setTop (mkF m 46 #[.val (.ref a1), .val (.ref c1), .val (.int (((0 : Int32) + x0) + x1)), .val (.ref la), .val (.int (1 : Int32))] [(.int x1)])) _
        refine XS.ifNo X30.here hx rfl (hb hby d_prog_55_method_1_code_46) rfl ((if0 _ _).trans (tlt (hc1 : (0 : Int32) < x1)).2.2.2) ?_
        show Steps p.tables e below (T30.setTop (mkF m 49 #[.val (.ref a1), .val (.ref c1), .val (.int (((0 : Int32) + x0) + x1)), .val (.ref la), .val (.int (1 : Int32))] [])) _
        refine XS.aloadN X30.here hx rfl (hb hby d_prog_55_method_1_code_49) rfl rfl ?_
        show Steps p.tables e below (T30.setTop (mkF m 50 #[.val (.ref a1), .val (.ref c1), .val (.int (((0 : Int32) + x0) + x1)), .val (.ref la), .val (.int (1 : Int32))] [(.ref la)])) _
        refine XS.iload X30.here hx rfl (hb hby d_prog_55_method_1_code_50) rfl ?_
        show Steps p.tables e below (T30.setTop (mkF m 52 #[.val (.ref a1), .val (.ref c1), .val (.int (((0 : Int32) + x0) + x1)), .val (.ref la), .val (.int (1 : Int32))] [(.int (1 : Int32)), (.ref la)])) _
        refine st47 _ ?_
        show Steps p.tables e below (T47.setTop (mkF m 55 #[.val (.ref a1), .val (.ref c1), .val (.int (((0 : Int32) + x0) + x1)), .val (.ref la), .val (.int (1 : Int32))] [(.ref bi1), (.ref la)])) _
        refine st48.trans ?_
        show Steps p.tables e below (T48.setTop (mkF m 60 #[.val (.ref a1), .val (.ref c1), .val (.int (((0 : Int32) + x0) + x1)), .val (.ref la), .val (.int (1 : Int32))] [(.int (1 : Int32))])) _
        refine XS.pop X48.here hx rfl (hb hby d_prog_55_method_1_code_60) rfl rfl ?_
        show Steps p.tables e below (T48.setTop (mkF m 61 #[.val (.ref a1), .val (.ref c1), .val (.int (((0 : Int32) + x0) + x1)), .val (.ref la), .val (.int (1 : Int32))] [])) _
        refine XS.iinc X48.here hx rfl (hb hby d_prog_55_method_1_code_61) rfl (l' := #[.val (.ref a1), .val (.ref c1), .val (.int (((0 : Int32) + x0) + x1)), .val (.ref la), .val (.int (2 : Int32))]) rfl ?_
        show Steps p.tables e below (T48.setTop (mkF m 64 #[.val (.ref a1), .val (.ref c1), .val (.int (((0 : Int32) + x0) + x1)), .val (.ref la), .val (.int (2 : Int32))] [])) _
        refine XS.goto X48.here hx rfl (pc0 := 64) (pc' := 28) rfl (hb hby d_prog_55_method_1_code_64) (by decide) (by decide) ?_
        exact k
      ·
        have A54 : Arv Z h30 c1 kc .int (4 : Int32) [.int x0, .int x1, .int x2, .int x3] (.int (0 : Int32)) := (A28.keep KS30 (ninS ne_c1_la nin0))
        obtain ⟨cl53, Ar53, qk53, Sz53, Nz53, Ha53, Ga53⟩ := id A54
        obtain ⟨cl55, Ar55, qk55, Sz55, Nz55, Ha55, Ga55⟩ := id A54
        have hin55 : ¬ ((1 : Int32) < 0 ∨ cl55.slots.size ≤ ((1 : Int32)).toNatClampNeg) := inb_of Sz55 ⟨by decide, by decide⟩
        have hat55 : cl55.slots[((1 : Int32)).toNatClampNeg]? = some (.int x1) := Has.at Ha55 hin55 (by rfl)
        obtain ⟨cl56, Ar56, qk56, Sz56, Nz56, Ha56, Ga56⟩ := id A54
        have hin56 : ¬ ((1 : Int32) < 0 ∨ cl56.slots.size ≤ ((1 : Int32)).toNatClampNeg) := inb_of Sz56 ⟨by decide, by decide⟩
        have hat56 : cl56.slots[((1 : Int32)).toNatClampNeg]? = some (.int x1) := Has.at Ha56 hin56 (by rfl)
        have O57 : Old Z n0 h30 := hO.keep PL0 (allS pg4 all0)
        obtain ⟨_, _, ⟨T58, L58, k58, n58⟩, -, X58, ⟨Lc58, hQ58, l58, y58, z58⟩, st58⟩ := Jvm.LawKit.callS X30 hx (y := (⟨"java/lang/Integer", "valueOf", "(I)Ljava/lang/Integer;"⟩ : MethodName)) hown (mvT hZ (hw _ (List.mem_of_getElem? (i := 46) rfl))) (mvT hZ (hw _ (List.mem_of_getElem? (i := 47) rfl))) (mvT hZ (hw _ (List.mem_of_getElem? (i := 48) rfl))) (mvT hZ (hw _ (List.mem_of_getElem? (i := 49) rfl))) (by decide) (backOf (W := 1) (rm_vof l Z a0 hw [] (1 : Int32) ca cl bi1 h30 n0 (Nat.le_trans Z0 PL0.1) O57 zS11 zS12 hcl (by decide) (by decide) hin1 hat1) hZ (hw _ (List.mem_of_getElem? (i := 49) rfl)) (hw _ (List.mem_of_getElem? (i := 48) rfl)) (by decide) (by decide)) (g := (mkF m 52 #[.val (.ref a1), .val (.ref c1), .val (.int (((0 : Int32) + x0) + x1)), .val (.ref la), .val (.int (1 : Int32))] [(.int (1 : Int32)), (.ref la)])) rfl (by rw [hml]; rfl) (argsL := [(.int (1 : Int32))]) (rest := [(.ref la)]) (lenOf pd_28I29Ljava2flang2fInteger3b rfl) rfl (by show 2 * 0 + _ ≤ _; exact Nat.le_of_eq rfl) (hb hby d_prog_55_method_1_code_52) (fun _ _ => ⟨rfl, e30, (by decide : 3 + 0 ≤ _), (by decide : 17 + 0 ≤ _)⟩)
        dsimp only [Pt.U, Pt.locs, Pt.cells, Pt.slots] at X58 l58 y58 z58 st58 hQ58
        subst l58 y58 z58
        obtain ⟨rfl, N58q, e58⟩ := hQ58
        have N58 := Fr.app N30 N58q
        obtain ⟨cq59, kq59, q59a, q59b, q59c⟩ := isOf hZ e58 fE0
        obtain ⟨_, _, ⟨T59, L59, k59, n59⟩, -, X59, ⟨Lc59, hQ59, l59, y59, z59⟩, st59⟩ := X58.interfaceBack hx (xi := (⟨"java/util/List", "add", "(Ljava/lang/Object;)Z"⟩ : MethodName)) (y := (⟨"java/util/ArrayList", "add", "(Ljava/lang/Object;)Z"⟩ : MethodName)) hown (mvT hZ (hw _ (List.mem_of_getElem? (i := 53) rfl))) (mvT hZ (hw _ (List.mem_of_getElem? (i := 54) rfl))) (mvT hZ (hw _ (List.mem_of_getElem? (i := 55) rfl))) (mvT hZ (hw _ (List.mem_of_getElem? (i := 56) rfl))) (mvT hZ (hw _ (List.mem_of_getElem? (i := 57) rfl))) (mvT hZ (hw _ (List.mem_of_getElem? (i := 58) rfl))) (mvT hZ (hw _ (List.mem_of_getElem? (i := 59) rfl))) (mvT hZ (hw _ (List.mem_of_getElem? (i := 60) rfl))) (by decide) (backOf (W := 0) (rm_addR l Z a0 hw [] la bi1 ed kk vs mc1 nn1 h30 n0 (Nat.le_trans Z0 PL0.1) fE0 fM0 q8 fS0 q9 ge_la q1 q3 O57 zE17 q6 q7 (own_nb q4 q5 (by decide)).1.1 (own_nb q4 q5 (by decide)).1.2.1 (own_nb q4 q5 (by decide)).1.2.2) hZ (hw _ (List.mem_of_getElem? (i := 61) rfl)) (hw _ (List.mem_of_getElem? (i := 24) rfl)) (by decide) (by decide)) q59a q59b q59c (g := (mkF m 55 #[.val (.ref a1), .val (.ref c1), .val (.int (((0 : Int32) + x0) + x1)), .val (.ref la), .val (.int (1 : Int32))] [(.ref bi1), (.ref la)])) rfl (by rw [hml]; rfl) (Steps.refl _) (argsL := [(.ref bi1)]) (rest := []) (lenOf pd_28Ljava2flang2fObject3b29Z rfl) rfl (by show 2 * 0 + _ ≤ _; exact Nat.le_of_eq rfl) (hb hby d_prog_55_method_1_code_55) (fun _ _ => ⟨rfl, e58, (by decide : 3 + 0 ≤ _), (by decide : 17 + 0 ≤ _)⟩)
        dsimp only [Pt.U, Pt.locs, Pt.cells, Pt.slots] at X59 l59 y59 z59 st59 hQ59
        subst l59 y59 z59
        obtain ⟨vn, rfl, N59q, K59, r59_0, r59_1, r59_2, r59_3, r59_4, r59_5⟩ := hQ59
        have N59 := Fr.app N58 N59q
        have P60 : Keep h0 T59.heap [a1] := PL0.trans K59 (allS (Or.inr sz_la) (allS (Or.inr (Nat.le_trans P21.1 q2)) all0))
        refine ⟨(mc1 + (1 : Int32)), (nn1 + (1 : Int32)), T59, _, _, own_mono X59 (by decide) (by decide), rfl, N59, KS30.trans K59 (allS (Or.inl (List.mem_of_getElem? (i := 0) rfl)) (allS (Or.inr q2) all0)), r59_0, r59_1, r59_3, Or.inr ⟨ed, kk, vn, q1, q2, q3, (own_nb q4 q5 (by decide)).2.1, (own_nb q4 q5 (by decide)).2.2, q6, r59_5, r59_2, r59_4⟩, fun t k => ?_⟩
        show Steps p.tables e below (T30.setTop (mkF m 28 #[.val (.ref a1), .val (.ref c1), .val (.int ((0 : Int32) + x0)), .val (.ref la), .val (.int (1 : Int32))] [])) _
        refine XS.iload X30.here hx rfl (hb hby d_prog_55_method_1_code_28) rfl ?_
        show Steps p.tables e below (T30.setTop (mkF m 30 #[.val (.ref a1), .val (.ref c1), .val (.int ((0 : Int32) + x0)), .val (.ref la), .val (.int (1 : Int32))] [(.int (1 : Int32))])) _
        refine XS.aloadN X30.here hx rfl (hb hby d_prog_55_method_1_code_30) rfl rfl ?_
        show Steps p.tables e below (T30.setTop (mkF m 31 #[.val (.ref a1), .val (.ref c1), .val (.int ((0 : Int32) + x0)), .val (.ref la), .val (.int (1 : Int32))] [(.ref c1), (.int (1 : Int32))])) _
        refine X30.arraylength hx (by rw [e30]; exact Ar53.1) (State.isArrayOf_alike hZ.alike Ar53.2.1) (g := (mkF m 31 #[.val (.ref a1), .val (.ref c1), .val (.int ((0 : Int32) + x0)), .val (.ref la), .val (.int (1 : Int32))] [(.ref c1), (.int (1 : Int32))])) rfl rfl (hb hby d_prog_55_method_1_code_31) _ ?_
        rw [len_of Sz53 Nz53]
        show Steps p.tables e below (T30.setTop (mkF m 32 #[.val (.ref a1), .val (.ref c1), .val (.int ((0 : Int32) + x0)), .val (.ref la), .val (.int (1 : Int32))] [(.int (4 : Int32)), (.int (1 : Int32))])) _
        refine XS.icmpNo X30.here hx rfl (hb hby d_prog_55_method_1_code_32) rfl (tlt (by decide : (1 : Int32) < (4 : Int32))).2.1 ?_
        show Steps p.tables e below (T30.setTop (mkF m 35 #[.val (.ref a1), .val (.ref c1), .val (.int ((0 : Int32) + x0)), .val (.ref la), .val (.int (1 : Int32))] [])) _
        refine XS.iloadN X30.here hx rfl (hb hby d_prog_55_method_1_code_35) rfl ?_
        show Steps p.tables e below (T30.setTop (mkF m 36 #[.val (.ref a1), .val (.ref c1), .val (.int ((0 : Int32) + x0)), .val (.ref la), .val (.int (1 : Int32))] [(.int ((0 : Int32) + x0))])) _
        refine XS.aloadN X30.here hx rfl (hb hby d_prog_55_method_1_code_36) rfl rfl ?_
        show Steps p.tables e below (T30.setTop (mkF m 37 #[.val (.ref a1), .val (.ref c1), .val (.int ((0 : Int32) + x0)), .val (.ref la), .val (.int (1 : Int32))] [(.ref c1), (.int ((0 : Int32) + x0))])) _
        refine XS.iload X30.here hx rfl (hb hby d_prog_55_method_1_code_37) rfl ?_
        show Steps p.tables e below (T30.setTop (mkF m 39 #[.val (.ref a1), .val (.ref c1), .val (.int ((0 : Int32) + x0)), .val (.ref la), .val (.int (1 : Int32))] [(.int (1 : Int32)), (.ref c1), (.int ((0 : Int32) + x0))])) _
        refine X30.iaload hx (j := (1 : Int32)) (v := (.int x1)) (by rw [e30]; exact Ar55.1) (State.isArrayOf_alike hZ.alike Ar55.2.1) Ar55.2.2 hin55 hat55 (g := (mkF m 39 #[.val (.ref a1), .val (.ref c1), .val (.int ((0 : Int32) + x0)), .val (.ref la), .val (.int (1 : Int32))] [(.int (1 : Int32)), (.ref c1), (.int ((0 : Int32) + x0))])) rfl rfl (hb hby d_prog_55_method_1_code_39) _ ?_
        show Steps p.tables e below (T30.setTop (mkF m 40 #[.val (.ref a1), .val (.ref c1), .val (.int ((0 : Int32) + x0)), .val (.ref la), .val (.int (1 : Int32))] [(.int x1), (.int ((0 : Int32) + x0))])) _
        refine XS.iadd X30.here hx rfl (hb hby d_prog_55_method_1_code_40) rfl ?_
        show Steps p.tables e below (T30.setTop (mkF m 41 #[.val (.ref a1), .val (.ref c1), .val (.int ((0 : Int32) + x0)), .val (.ref la), .val (.int (1 : Int32))] [(.int (((0 : Int32) + x0) + x1))])) _
        refine XS.istoreN X30.here hx rfl (hb hby d_prog_55_method_1_code_41) rfl (l' := #[.val (.ref a1), .val (.ref c1), .val (.int (((0 : Int32) + x0) + x1)), .val (.ref la), .val (.int (1 : Int32))]) rfl ?_
        show Steps p.tables e below (T30.setTop (mkF m 42 #[.val (.ref a1), .val (.ref c1), .val (.int (((0 : Int32) + x0) + x1)), .val (.ref la), .val (.int (1 : Int32))] [])) _
        refine XS.aloadN X30.here hx rfl (hb hby d_prog_55_method_1_code_42) rfl rfl ?_
        show Steps p.tables e below (T30.setTop (mkF m 43 #[.val (.ref a1), .val (.ref c1), .val (.int (((0 : Int32) + x0) + x1)), .val (.ref la), .val (.int (1 : Int32))] [(.ref c1)])) _
        refine XS.iload X30.here hx rfl (hb hby d_prog_55_method_1_code_43) rfl ?_
        show Steps p.tables e below (T30.setTop (mkF m 45 #[.val (.ref a1), .val (.ref c1), .val (.int (((0 : Int32) + x0) + x1)), .val (.ref la), .val (.int (1 : Int32))] [(.int (1 : Int32)), (.ref c1)])) _
        refine X30.iaload hx (j := (1 : Int32)) (v := (.int x1)) (by rw [e30]; exact Ar56.1) (State.isArrayOf_alike hZ.alike Ar56.2.1) Ar56.2.2 hin56 hat56 (g := (mkF m 45 #[.val (.ref a1), .val (.ref c1), .val (.int (((0 : Int32) + x0) + x1)), .val (.ref la), .val (.int (1 : Int32))] [(.int (1 : Int32)), (.ref c1)])) rfl rfl (hb hby d_prog_55_method_1_code_45) _ ?_
        show Steps p.tables e below (T30.setTop (mkF m 46 #[.val (.ref a1), .val (.ref c1), .val (.int (((0 : Int32) + x0) + x1)), .val (.ref la), .val (.int (1 : Int32))] [(.int x1)])) _
        refine XS.ifNo X30.here hx rfl (hb hby d_prog_55_method_1_code_46) rfl ((if0 _ _).trans (tlt (hc1 : (0 : Int32) < x1)).2.2.2) ?_
        show Steps p.tables e below (T30.setTop (mkF m 49 #[.val (.ref a1), .val (.ref c1), .val (.int (((0 : Int32) + x0) + x1)), .val (.ref la), .val (.int (1 : Int32))] [])) _
        refine XS.aloadN X30.here hx rfl (hb hby d_prog_55_method_1_code_49) rfl rfl ?_
        show Steps p.tables e below (T30.setTop (mkF m 50 #[.val (.ref a1), .val (.ref c1), .val (.int (((0 : Int32) + x0) + x1)), .val (.ref la), .val (.int (1 : Int32))] [(.ref la)])) _
        refine XS.iload X30.here hx rfl (hb hby d_prog_55_method_1_code_50) rfl ?_
        show Steps p.tables e below (T30.setTop (mkF m 52 #[.val (.ref a1), .val (.ref c1), .val (.int (((0 : Int32) + x0) + x1)), .val (.ref la), .val (.int (1 : Int32))] [(.int (1 : Int32)), (.ref la)])) _
        refine st58 _ ?_
        show Steps p.tables e below (T58.setTop (mkF m 55 #[.val (.ref a1), .val (.ref c1), .val (.int (((0 : Int32) + x0) + x1)), .val (.ref la), .val (.int (1 : Int32))] [(.ref bi1), (.ref la)])) _
        refine st59.trans ?_
        show Steps p.tables e below (T59.setTop (mkF m 60 #[.val (.ref a1), .val (.ref c1), .val (.int (((0 : Int32) + x0) + x1)), .val (.ref la), .val (.int (1 : Int32))] [(.int (1 : Int32))])) _
        refine XS.pop X59.here hx rfl (hb hby d_prog_55_method_1_code_60) rfl rfl ?_
        show Steps p.tables e below (T59.setTop (mkF m 61 #[.val (.ref a1), .val (.ref c1), .val (.int (((0 : Int32) + x0) + x1)), .val (.ref la), .val (.int (1 : Int32))] [])) _
        refine XS.iinc X59.here hx rfl (hb hby d_prog_55_method_1_code_61) rfl (l' := #[.val (.ref a1), .val (.ref c1), .val (.int (((0 : Int32) + x0) + x1)), .val (.ref la), .val (.int (2 : Int32))]) rfl ?_
        show Steps p.tables e below (T59.setTop (mkF m 64 #[.val (.ref a1), .val (.ref c1), .val (.int (((0 : Int32) + x0) + x1)), .val (.ref la), .val (.int (2 : Int32))] [])) _
        refine XS.goto X59.here hx rfl (pc0 := 64) (pc' := 28) rfl (hb hby d_prog_55_method_1_code_64) (by decide) (by decide) ?_
        exact k
    ·
      have A62 : Arv Z h30 c1 kc .int (4 : Int32) [.int x0, .int x1, .int x2, .int x3] (.int (0 : Int32)) := (A28.keep KS30 (ninS ne_c1_la nin0))
      obtain ⟨cl61, Ar61, qk61, Sz61, Nz61, Ha61, Ga61⟩ := id A62
      obtain ⟨cl63, Ar63, qk63, Sz63, Nz63, Ha63, Ga63⟩ := id A62
      have hin63 : ¬ ((1 : Int32) < 0 ∨ cl63.slots.size ≤ ((1 : Int32)).toNatClampNeg) := inb_of Sz63 ⟨by decide, by decide⟩
      have hat63 : cl63.slots[((1 : Int32)).toNatClampNeg]? = some (.int x1) := Has.at Ha63 hin63 (by rfl)
      obtain ⟨cl64, Ar64, qk64, Sz64, Nz64, Ha64, Ga64⟩ := id A62
      have hin64 : ¬ ((1 : Int32) < 0 ∨ cl64.slots.size ≤ ((1 : Int32)).toNatClampNeg) := inb_of Sz64 ⟨by decide, by decide⟩
      have hat64 : cl64.slots[((1 : Int32)).toNatClampNeg]? = some (.int x1) := Has.at Ha64 hin64 (by rfl)
      refine ⟨mc1, nn1, T30, _, _, own_mono X30 (by decide) (by decide), e30, N30, KS30, fE0, fM0, fS0, (fH0).imp id (fun ⟨ed, kk, vs, q1, q2, q3, q4, q5, q6, q7, q8, q9⟩ => ⟨ed, kk, vs, q1, q2, q3, q4, Int.le_trans q5 (by decide), q6, q7, q8, q9⟩), fun t k => ?_⟩
      show Steps p.tables e below (T30.setTop (mkF m 28 #[.val (.ref a1), .val (.ref c1), .val (.int ((0 : Int32) + x0)), .val (.ref la), .val (.int (1 : Int32))] [])) _
      refine XS.iload X30.here hx rfl (hb hby d_prog_55_method_1_code_28) rfl ?_
      show Steps p.tables e below (T30.setTop (mkF m 30 #[.val (.ref a1), .val (.ref c1), .val (.int ((0 : Int32) + x0)), .val (.ref la), .val (.int (1 : Int32))] [(.int (1 : Int32))])) _
      refine XS.aloadN X30.here hx rfl (hb hby d_prog_55_method_1_code_30) rfl rfl ?_
      show Steps p.tables e below (T30.setTop (mkF m 31 #[.val (.ref a1), .val (.ref c1), .val (.int ((0 : Int32) + x0)), .val (.ref la), .val (.int (1 : Int32))] [(.ref c1), (.int (1 : Int32))])) _
      refine X30.arraylength hx (by rw [e30]; exact Ar61.1) (State.isArrayOf_alike hZ.alike Ar61.2.1) (g := (mkF m 31 #[.val (.ref a1), .val (.ref c1), .val (.int ((0 : Int32) + x0)), .val (.ref la), .val (.int (1 : Int32))] [(.ref c1), (.int (1 : Int32))])) rfl rfl (hb hby d_prog_55_method_1_code_31) _ ?_
      rw [len_of Sz61 Nz61]
      show Steps p.tables e below (T30.setTop (mkF m 32 #[.val (.ref a1), .val (.ref c1), .val (.int ((0 : Int32) + x0)), .val (.ref la), .val (.int (1 : Int32))] [(.int (4 : Int32)), (.int (1 : Int32))])) _
      refine XS.icmpNo X30.here hx rfl (hb hby d_prog_55_method_1_code_32) rfl (tlt (by decide : (1 : Int32) < (4 : Int32))).2.1 ?_
      show Steps p.tables e below (T30.setTop (mkF m 35 #[.val (.ref a1), .val (.ref c1), .val (.int ((0 : Int32) + x0)), .val (.ref la), .val (.int (1 : Int32))] [])) _
      refine XS.iloadN X30.here hx rfl (hb hby d_prog_55_method_1_code_35) rfl ?_
      show Steps p.tables e below (T30.setTop (mkF m 36 #[.val (.ref a1), .val (.ref c1), .val (.int ((0 : Int32) + x0)), .val (.ref la), .val (.int (1 : Int32))] [(.int ((0 : Int32) + x0))])) _
      refine XS.aloadN X30.here hx rfl (hb hby d_prog_55_method_1_code_36) rfl rfl ?_
      show Steps p.tables e below (T30.setTop (mkF m 37 #[.val (.ref a1), .val (.ref c1), .val (.int ((0 : Int32) + x0)), .val (.ref la), .val (.int (1 : Int32))] [(.ref c1), (.int ((0 : Int32) + x0))])) _
      refine XS.iload X30.here hx rfl (hb hby d_prog_55_method_1_code_37) rfl ?_
      show Steps p.tables e below (T30.setTop (mkF m 39 #[.val (.ref a1), .val (.ref c1), .val (.int ((0 : Int32) + x0)), .val (.ref la), .val (.int (1 : Int32))] [(.int (1 : Int32)), (.ref c1), (.int ((0 : Int32) + x0))])) _
      refine X30.iaload hx (j := (1 : Int32)) (v := (.int x1)) (by rw [e30]; exact Ar63.1) (State.isArrayOf_alike hZ.alike Ar63.2.1) Ar63.2.2 hin63 hat63 (g := (mkF m 39 #[.val (.ref a1), .val (.ref c1), .val (.int ((0 : Int32) + x0)), .val (.ref la), .val (.int (1 : Int32))] [(.int (1 : Int32)), (.ref c1), (.int ((0 : Int32) + x0))])) rfl rfl (hb hby d_prog_55_method_1_code_39) _ ?_
      show Steps p.tables e below (T30.setTop (mkF m 40 #[.val (.ref a1), .val (.ref c1), .val (.int ((0 : Int32) + x0)), .val (.ref la), .val (.int (1 : Int32))] [(.int x1), (.int ((0 : Int32) + x0))])) _
      refine XS.iadd X30.here hx rfl (hb hby d_prog_55_method_1_code_40) rfl ?_
      show Steps p.tables e below (T30.setTop (mkF m 41 #[.val (.ref a1), .val (.ref c1), .val (.int ((0 : Int32) + x0)), .val (.ref la), .val (.int (1 : Int32))] [(.int (((0 : Int32) + x0) + x1))])) _
      refine XS.istoreN X30.here hx rfl (hb hby d_prog_55_method_1_code_41) rfl (l' := #[.val (.ref a1), .val (.ref c1), .val (.int (((0 : Int32) + x0) + x1)), .val (.ref la), .val (.int (1 : Int32))]) rfl ?_
      show Steps p.tables e below (T30.setTop (mkF m 42 #[.val (.ref a1), .val (.ref c1), .val (.int (((0 : Int32) + x0) + x1)), .val (.ref la), .val (.int (1 : Int32))] [])) _
      refine XS.aloadN X30.here hx rfl (hb hby d_prog_55_method_1_code_42) rfl rfl ?_
      show Steps p.tables e below (T30.setTop (mkF m 43 #[.val (.ref a1), .val (.ref c1), .val (.int (((0 : Int32) + x0) + x1)), .val (.ref la), .val (.int (1 : Int32))] [(.ref c1)])) _
      refine XS.iload X30.here hx rfl (hb hby d_prog_55_method_1_code_43) rfl ?_
      show Steps p.tables e below (T30.setTop (mkF m 45 #[.val (.ref a1), .val (.ref c1), .val (.int (((0 : Int32) + x0) + x1)), .val (.ref la), .val (.int (1 : Int32))] [(.int (1 : Int32)), (.ref c1)])) _
      refine X30.iaload hx (j := (1 : Int32)) (v := (.int x1)) (by rw [e30]; exact Ar64.1) (State.isArrayOf_alike hZ.alike Ar64.2.1) Ar64.2.2 hin64 hat64 (g := (mkF m 45 #[.val (.ref a1), .val (.ref c1), .val (.int (((0 : Int32) + x0) + x1)), .val (.ref la), .val (.int (1 : Int32))] [(.int (1 : Int32)), (.ref c1)])) rfl rfl (hb hby d_prog_55_method_1_code_45) _ ?_
      show Steps p.tables e below (T30.setTop (mkF m 46 #[.val (.ref a1), .val (.ref c1), .val (.int (((0 : Int32) + x0) + x1)), .val (.ref la), .val (.int (1 : Int32))] [(.int x1)])) _
      refine XS.ifYes X30.here hx rfl (pc0 := 46) (pc' := 61) rfl (hb hby d_prog_55_method_1_code_46) rfl ((if0 _ _).trans (flt (hc1 : ¬ ((0 : Int32) < x1))).2.2.2) (by decide) (by decide) ?_
      show Steps p.tables e below (T30.setTop (mkF m 61 #[.val (.ref a1), .val (.ref c1), .val (.int (((0 : Int32) + x0) + x1)), .val (.ref la), .val (.int (1 : Int32))] [])) _
      refine XS.iinc X30.here hx rfl (hb hby d_prog_55_method_1_code_61) rfl (l' := #[.val (.ref a1), .val (.ref c1), .val (.int (((0 : Int32) + x0) + x1)), .val (.ref la), .val (.int (2 : Int32))]) rfl ?_
      show Steps p.tables e below (T30.setTop (mkF m 64 #[.val (.ref a1), .val (.ref c1), .val (.int (((0 : Int32) + x0) + x1)), .val (.ref la), .val (.int (2 : Int32))] [])) _
      refine XS.goto X30.here hx rfl (pc0 := 64) (pc' := 28) rfl (hb hby d_prog_55_method_1_code_64) (by decide) (by decide) ?_
      exact k
  have PL1 : Keep h0 h41 [a1] := P21.trans KS41 (allS (Or.inr sz_la) all0)
  obtain ⟨mc3, nn3, T65, h65, L65, X65, e65, N65, KS65, fE2, fM2, fS2, fH2, mg65⟩ : ∃ (mc3 : Int32) (nn3 : Int32) (T65 : State) (h65 : Heap) (L65 : List Loc), Stand p l e ({ frames := 5, cells := 7, slots := 49, locals := 69 } : Room) s m #[(.ref a1), (.ref c1)] below meth c T65 L65 5 37 ∧ T65.heap = h65 ∧ Fr n0 L65 ∧ Keep T20.heap h65 [la] ∧ (Exa Z h65 la "java/util/ArrayList") ∧ (Fld Z h65 la "java/util/AbstractList" "modCount" "I" (.int mc3)) ∧ (Fld Z h65 la "java/util/ArrayList" "size" "I" (.int nn3)) ∧ ((nn3 = 0 ∧ Fld Z h65 la "java/util/ArrayList" "elementData" "[Ljava/lang/Object;" (.ref dce)) ∨ (∃ (ed : Addr) (kk : ClassId) (vs : List Value), n0 ≤ ed ∧ T20.heap.size ≤ ed ∧ la ≠ ed ∧ 0 < (nn3).toInt ∧ (nn3).toInt ≤ 3 ∧ Ovr Z kk "java/lang/Object" ∧ vs.length = 10 ∧ Fld Z h65 la "java/util/ArrayList" "elementData" "[Ljava/lang/Object;" (.ref ed) ∧ Arv Z h65 ed kk (.object "java/lang/Object") (10 : Int32) vs .null)) ∧  ∀ t, Steps p.tables e below (T65.setTop (mkF m 28 #[.val (.ref a1), .val (.ref c1), .val (.int ((((0 : Int32) + x0) + x1) + x2)), .val (.ref la), .val (.int (3 : Int32))] [])) t → Steps p.tables e below (T41.setTop (mkF m 28 #[.val (.ref a1), .val (.ref c1), .val (.int (((0 : Int32) + x0) + x1)), .val (.ref la), .val (.int (2 : Int32))] [])) t := by
    by_cases hc2 : (0 : Int32) < x2
    ·
      rcases id fH1 with ⟨rfl, fD⟩ | ⟨ed, kk, vs, q1, q2, q3, q4, q5, q6, q7, q8, q9⟩
      ·
        have A67 : Arv Z h41 c1 kc .int (4 : Int32) [.int x0, .int x1, .int x2, .int x3] (.int (0 : Int32)) := (A28.keep KS41 (ninS ne_c1_la nin0))
        obtain ⟨cl66, Ar66, qk66, Sz66, Nz66, Ha66, Ga66⟩ := id A67
        obtain ⟨cl68, Ar68, qk68, Sz68, Nz68, Ha68, Ga68⟩ := id A67
        have hin68 : ¬ ((2 : Int32) < 0 ∨ cl68.slots.size ≤ ((2 : Int32)).toNatClampNeg) := inb_of Sz68 ⟨by decide, by decide⟩
        have hat68 : cl68.slots[((2 : Int32)).toNatClampNeg]? = some (.int x2) := Has.at Ha68 hin68 (by rfl)
        obtain ⟨cl69, Ar69, qk69, Sz69, Nz69, Ha69, Ga69⟩ := id A67
        have hin69 : ¬ ((2 : Int32) < 0 ∨ cl69.slots.size ≤ ((2 : Int32)).toNatClampNeg) := inb_of Sz69 ⟨by decide, by decide⟩
        have hat69 : cl69.slots[((2 : Int32)).toNatClampNeg]? = some (.int x2) := Has.at Ha69 hin69 (by rfl)
        have O70 : Old Z n0 h41 := hO.keep PL1 (allS pg4 all0)
        obtain ⟨_, _, ⟨T71, L71, k71, n71⟩, -, X71, ⟨Lc71, hQ71, l71, y71, z71⟩, st71⟩ := Jvm.LawKit.callS X41 hx (y := (⟨"java/lang/Integer", "valueOf", "(I)Ljava/lang/Integer;"⟩ : MethodName)) hown (mvT hZ (hw _ (List.mem_of_getElem? (i := 46) rfl))) (mvT hZ (hw _ (List.mem_of_getElem? (i := 47) rfl))) (mvT hZ (hw _ (List.mem_of_getElem? (i := 48) rfl))) (mvT hZ (hw _ (List.mem_of_getElem? (i := 49) rfl))) (by decide) (backOf (W := 1) (rm_vof l Z a0 hw [] (2 : Int32) ca cl bi2 h41 n0 (Nat.le_trans Z0 PL1.1) O70 zS11 zS12 hcl (by decide) (by decide) hin2 hat2) hZ (hw _ (List.mem_of_getElem? (i := 49) rfl)) (hw _ (List.mem_of_getElem? (i := 48) rfl)) (by decide) (by decide)) (g := (mkF m 52 #[.val (.ref a1), .val (.ref c1), .val (.int ((((0 : Int32) + x0) + x1) + x2)), .val (.ref la), .val (.int (2 : Int32))] [(.int (2 : Int32)), (.ref la)])) rfl (by rw [hml]; rfl) (argsL := [(.int (2 : Int32))]) (rest := [(.ref la)]) (lenOf pd_28I29Ljava2flang2fInteger3b rfl) rfl (by show 2 * 0 + _ ≤ _; exact Nat.le_of_eq rfl) (hb hby d_prog_55_method_1_code_52) (fun _ _ => ⟨rfl, e41, (by decide : 4 + 0 ≤ _), (by decide : 27 + 0 ≤ _)⟩)
        dsimp only [Pt.U, Pt.locs, Pt.cells, Pt.slots] at X71 l71 y71 z71 st71 hQ71
        subst l71 y71 z71
        obtain ⟨rfl, N71q, e71⟩ := hQ71
        have N71 := Fr.app N41 N71q
        obtain ⟨cq72, kq72, q72a, q72b, q72c⟩ := isOf hZ e71 fE1
        obtain ⟨_, _, ⟨T72, L72, k72, n72⟩, -, X72, ⟨Lc72, hQ72, l72, y72, z72⟩, st72⟩ := X71.interfaceBack hx (xi := (⟨"java/util/List", "add", "(Ljava/lang/Object;)Z"⟩ : MethodName)) (y := (⟨"java/util/ArrayList", "add", "(Ljava/lang/Object;)Z"⟩ : MethodName)) hown (mvT hZ (hw _ (List.mem_of_getElem? (i := 53) rfl))) (mvT hZ (hw _ (List.mem_of_getElem? (i := 54) rfl))) (mvT hZ (hw _ (List.mem_of_getElem? (i := 55) rfl))) (mvT hZ (hw _ (List.mem_of_getElem? (i := 56) rfl))) (mvT hZ (hw _ (List.mem_of_getElem? (i := 57) rfl))) (mvT hZ (hw _ (List.mem_of_getElem? (i := 58) rfl))) (mvT hZ (hw _ (List.mem_of_getElem? (i := 59) rfl))) (mvT hZ (hw _ (List.mem_of_getElem? (i := 60) rfl))) (by decide) (backOf (W := 0) (rm_addF l Z a0 hw [] la bi2 dce kd mc2 h41 n0 (Nat.le_trans Z0 PL1.1) fE1 fM1 fD fS1 ge_la O70 zS9 zA10 zE20) hZ (hw _ (List.mem_of_getElem? (i := 61) rfl)) (hw _ (List.mem_of_getElem? (i := 24) rfl)) (by decide) (by decide)) q72a q72b q72c (g := (mkF m 55 #[.val (.ref a1), .val (.ref c1), .val (.int ((((0 : Int32) + x0) + x1) + x2)), .val (.ref la), .val (.int (2 : Int32))] [(.ref bi2), (.ref la)])) rfl (by rw [hml]; rfl) (Steps.refl _) (argsL := [(.ref bi2)]) (rest := []) (lenOf pd_28Ljava2flang2fObject3b29Z rfl) rfl (by show 2 * 0 + _ ≤ _; exact Nat.le_of_eq rfl) (hb hby d_prog_55_method_1_code_55) (fun _ _ => ⟨rfl, e71, (by decide : 4 + 1 ≤ _), (by decide : 27 + 10 ≤ _)⟩)
        dsimp only [Pt.U, Pt.locs, Pt.cells, Pt.slots] at X72 l72 y72 z72 st72 hQ72
        subst l72 y72 z72
        obtain ⟨en, kn, vn, rfl, N72q, K72, r72_0, r72_1, r72_2, r72_3, r72_4, r72_5, r72_6, r72_7, r72_8⟩ := hQ72
        have N72 := Fr.app N71 N72q
        have E73 : Exa Z h41 a1 "com/example/inkcap/inkcap/lexicon/WordCategories" := (E22.keep KS41)
        have ne_a1_en : a1 ≠ en := Nat.ne_of_lt (Nat.lt_of_lt_of_le E73.lt r72_0)
        have E74 : Exa Z h41 c1 "[I" := (E23.keep KS41)
        have ne_c1_en : c1 ≠ en := Nat.ne_of_lt (Nat.lt_of_lt_of_le E74.lt r72_0)
        have E75 : Exa Z h41 bc "[I" := (E24.keep KS41)
        have ne_bc_en : bc ≠ en := Nat.ne_of_lt (Nat.lt_of_lt_of_le E75.lt r72_0)
        have ne_la_en : la ≠ en := Nat.ne_of_lt (Nat.lt_of_lt_of_le fE1.lt r72_0)
        have ge_en : n0 ≤ en := Nat.le_trans (Nat.le_trans Z0 PL1.1) r72_0
        have sz_en : h0.size ≤ en := Nat.le_trans PL1.1 r72_0
        have P76 : Keep h0 T72.heap [a1] := PL1.trans K72 (allS (Or.inr sz_la) all0)
        refine ⟨(mc2 + (1 : Int32)), ((0 : Int32) + (1 : Int32)), T72, _, _, own_mono X72 (by decide) (by decide), rfl, N72, KS41.trans K72 (allS (Or.inl (List.mem_of_getElem? (i := 0) rfl)) all0), r72_2, r72_3, r72_5, Or.inr ⟨en, kn, vn, r72_1, Nat.le_trans KS41.1 r72_0, ne_la_en, by decide, by decide, r72_7, r72_8, r72_4, r72_6⟩, fun t k => ?_⟩
        show Steps p.tables e below (T41.setTop (mkF m 28 #[.val (.ref a1), .val (.ref c1), .val (.int (((0 : Int32) + x0) + x1)), .val (.ref la), .val (.int (2 : Int32))] [])) _
        refine XS.iload X41.here hx rfl (hb hby d_prog_55_method_1_code_28) rfl ?_
        show Steps p.tables e below (T41.setTop (mkF m 30 #[.val (.ref a1), .val (.ref c1), .val (.int (((0 : Int32) + x0) + x1)), .val (.ref la), .val (.int (2 : Int32))] [(.int (2 : Int32))])) _
        refine XS.aloadN X41.here hx rfl (hb hby d_prog_55_method_1_code_30) rfl rfl ?_
        show Steps p.tables e below (T41.setTop (mkF m 31 #[.val (.ref a1), .val (.ref c1), .val (.int (((0 : Int32) + x0) + x1)), .val (.ref la), .val (.int (2 : Int32))] [(.ref c1), (.int (2 : Int32))])) _
        refine X41.arraylength hx (by rw [e41]; exact Ar66.1) (State.isArrayOf_alike hZ.alike Ar66.2.1) (g := (mkF m 31 #[.val (.ref a1), .val (.ref c1), .val (.int (((0 : Int32) + x0) + x1)), .val (.ref la), .val (.int (2 : Int32))] [(.ref c1), (.int (2 : Int32))])) rfl rfl (hb hby d_prog_55_method_1_code_31) _ ?_
        rw [len_of Sz66 Nz66]
        show Steps p.tables e below (T41.setTop (mkF m 32 #[.val (.ref a1), .val (.ref c1), .val (.int (((0 : Int32) + x0) + x1)), .val (.ref la), .val (.int (2 : Int32))] [(.int (4 : Int32)), (.int (2 : Int32))])) _
        refine XS.icmpNo X41.here hx rfl (hb hby d_prog_55_method_1_code_32) rfl (tlt (by decide : (2 : Int32) < (4 : Int32))).2.1 ?_
        show Steps p.tables e below (T41.setTop (mkF m 35 #[.val (.ref a1), .val (.ref c1), .val (.int (((0 : Int32) + x0) + x1)), .val (.ref la), .val (.int (2 : Int32))] [])) _
        refine XS.iloadN X41.here hx rfl (hb hby d_prog_55_method_1_code_35) rfl ?_
        show Steps p.tables e below (T41.setTop (mkF m 36 #[.val (.ref a1), .val (.ref c1), .val (.int (((0 : Int32) + x0) + x1)), .val (.ref la), .val (.int (2 : Int32))] [(.int (((0 : Int32) + x0) + x1))])) _
        refine XS.aloadN X41.here hx rfl (hb hby d_prog_55_method_1_code_36) rfl rfl ?_
        show Steps p.tables e below (T41.setTop (mkF m 37 #[.val (.ref a1), .val (.ref c1), .val (.int (((0 : Int32) + x0) + x1)), .val (.ref la), .val (.int (2 : Int32))] [(.ref c1), (.int (((0 : Int32) + x0) + x1))])) _
        refine XS.iload X41.here hx rfl (hb hby d_prog_55_method_1_code_37) rfl ?_
        show Steps p.tables e below (T41.setTop (mkF m 39 #[.val (.ref a1), .val (.ref c1), .val (.int (((0 : Int32) + x0) + x1)), .val (.ref la), .val (.int (2 : Int32))] [(.int (2 : Int32)), (.ref c1), (.int (((0 : Int32) + x0) + x1))])) _
        refine X41.iaload hx (j := (2 : Int32)) (v := (.int x2)) (by rw [e41]; exact Ar68.1) (State.isArrayOf_alike hZ.alike Ar68.2.1) Ar68.2.2 hin68 hat68 (g := (mkF m 39 #[.val (.ref a1), .val (.ref c1), .val (.int (((0 : Int32) + x0) + x1)), .val (.ref la), .val (.int (2 : Int32))] [(.int (2 : Int32)), (.ref c1), (.int (((0 : Int32) + x0) + x1))])) rfl rfl (hb hby d_prog_55_method_1_code_39) _ ?_
        show Steps p.tables e below (T41.setTop (mkF m 40 #[.val (.ref a1), .val (.ref c1), .val (.int (((0 : Int32) + x0) + x1)), .val (.ref la), .val (.int (2 : Int32))] [(.int x2), (.int (((0 : Int32) + x0) + x1))])) _
        refine XS.iadd X41.here hx rfl (hb hby d_prog_55_method_1_code_40) rfl ?_
        show Steps p.tables e below (T41.setTop (mkF m 41 #[.val (.ref a1), .val (.ref c1), .val (.int (((0 : Int32) + x0) + x1)), .val (.ref la), .val (.int (2 : Int32))] [(.int ((((0 : Int32) + x0) + x1) + x2))])) _
        refine XS.istoreN X41.here hx rfl (hb hby d_prog_55_method_1_code_41) rfl (l' := #[.val (.ref a1), .val (.ref c1), .val (.int ((((0 : Int32) + x0) + x1) + x2)), .val (.ref la), .val (.int (2 : Int32))]) rfl ?_
        show Steps p.tables e below (T41.setTop (mkF m 42 #[.val (.ref a1), .val (.ref c1), .val (.int ((((0 : Int32) + x0) + x1) + x2)), .val (.ref la), .val (.int (2 : Int32))] [])) _
        refine XS.aloadN X41.here hx rfl (hb hby d_prog_55_method_1_code_42) rfl rfl ?_
        show Steps p.tables e below (T41.setTop (mkF m 43 #[.val (.ref a1), .val (.ref c1), .val (.int ((((0 : Int32) + x0) + x1) + x2)), .val (.ref la), .val (.int (2 : Int32))] [(.ref c1)])) _
        refine XS.iload X41.here hx rfl (hb hby d_prog_55_method_1_code_43) rfl ?_
        show Steps p.tables e below (T41.setTop (mkF m 45 #[.val (.ref a1), .val (.ref c1), .val (.int ((((0 : Int32) + x0) + x1) + x2)), .val (.ref la), .val (.int (2 : Int32))] [(.int (2 : Int32)), (.ref c1)])) _
        refine X41.iaload hx (j := (2 : Int32)) (v := (.int x2)) (by rw [e41]; exact Ar69.1) (State.isArrayOf_alike hZ.alike Ar69.2.1) Ar69.2.2 hin69 hat69 (g := (mkF m 45 #[.val (.ref a1), .val (.ref c1), .val (.int ((((0 : Int32) + x0) + x1) + x2)), .val (.ref la), .val (.int (2 : Int32))] [(.int (2 : Int32)), (.ref c1)])) rfl rfl (hb hby d_prog_55_method_1_code_45) _ ?_
        show Steps p.tables e below (T41.setTop (mkF m 46 #[.val (.ref a1), .val (.ref c1), .val (.int ((((0 : Int32) + x0) + x1) + x2)), .val (.ref la), .val (.int (2 : Int32))] [(.int x2)])) _
        refine XS.ifNo X41.here hx rfl (hb hby d_prog_55_method_1_code_46) rfl ((if0 _ _).trans (tlt (hc2 : (0 : Int32) < x2)).2.2.2) ?_
        show Steps p.tables e below (T41.setTop (mkF m 49 #[.val (.ref a1), .val (.ref c1), .val (.int ((((0 : Int32) + x0) + x1) + x2)), .val (.ref la), .val (.int (2 : Int32))] [])) _
        refine XS.aloadN X41.here hx rfl (hb hby d_prog_55_method_1_code_49) rfl rfl ?_
        show Steps p.tables e below (T41.setTop (mkF m 50 #[.val (.ref a1), .val (.ref c1), .val (.int ((((0 : Int32) + x0) + x1) + x2)), .val (.ref la), .val (.int (2 : Int32))] [(.ref la)])) _
        refine XS.iload X41.here hx rfl (hb hby d_prog_55_method_1_code_50) rfl ?_
        show Steps p.tables e below (T41.setTop (mkF m 52 #[.val (.ref a1), .val (.ref c1), .val (.int ((((0 : Int32) + x0) + x1) + x2)), .val (.ref la), .val (.int (2 : Int32))] [(.int (2 : Int32)), (.ref la)])) _
        refine st71 _ ?_
        show Steps p.tables e below (T71.setTop (mkF m 55 #[.val (.ref a1), .val (.ref c1), .val (.int ((((0 : Int32) + x0) + x1) + x2)), .val (.ref la), .val (.int (2 : Int32))] [(.ref bi2), (.ref la)])) _
        refine st72.trans ?_
        show Steps p.tables e below (T72.setTop (mkF m 60 #[.val (.ref a1), .val (.ref c1), .val (.int ((((0 : Int32) + x0) + x1) + x2)), .val (.ref la), .val (.int (2 : Int32))] [(.int (1 : Int32))])) _
        refine XS.pop X72.here hx rfl (hb hby d_prog_55_method_1_code_60) rfl rfl ?_
        show Steps p.tables e below (T72.setTop (mkF m 61 #[.val (.ref a1), .val (.ref c1), .val (.int ((((0 : Int32) + x0) + x1) + x2)), .val (.ref la), .val (.int (2 : Int32))] [])) _
        refine XS.iinc X72.here hx rfl (hb hby d_prog_55_method_1_code_61) rfl (l' := #[.val (.ref a1), .val (.ref c1), .val (.int ((((0 : Int32) + x0) + x1) + x2)), .val (.ref la), .val (.int (3 : Int32))]) rfl ?_
        show Steps p.tables e below (T72.setTop (mkF m 64 #[.val (.ref a1), .val (.ref c1), .val (.int ((((0 : Int32) + x0) + x1) + x2)), .val (.ref la), .val (.int (3 : Int32))] [])) _
        refine XS.goto X72.here hx rfl (pc0 := 64) (pc' := 28) rfl (hb hby d_prog_55_method_1_code_64) (by decide) (by decide) ?_
        exact k
      ·
        have A78 : Arv Z h41 c1 kc .int (4 : Int32) [.int x0, .int x1, .int x2, .int x3] (.int (0 : Int32)) := (A28.keep KS41 (ninS ne_c1_la nin0))
        obtain ⟨cl77, Ar77, qk77, Sz77, Nz77, Ha77, Ga77⟩ := id A78
        obtain ⟨cl79, Ar79, qk79, Sz79, Nz79, Ha79, Ga79⟩ := id A78
        have hin79 : ¬ ((2 : Int32) < 0 ∨ cl79.slots.size ≤ ((2 : Int32)).toNatClampNeg) := inb_of Sz79 ⟨by decide, by decide⟩
        have hat79 : cl79.slots[((2 : Int32)).toNatClampNeg]? = some (.int x2) := Has.at Ha79 hin79 (by rfl)
        obtain ⟨cl80, Ar80, qk80, Sz80, Nz80, Ha80, Ga80⟩ := id A78
        have hin80 : ¬ ((2 : Int32) < 0 ∨ cl80.slots.size ≤ ((2 : Int32)).toNatClampNeg) := inb_of Sz80 ⟨by decide, by decide⟩
        have hat80 : cl80.slots[((2 : Int32)).toNatClampNeg]? = some (.int x2) := Has.at Ha80 hin80 (by rfl)
        have O81 : Old Z n0 h41 := hO.keep PL1 (allS pg4 all0)
        obtain ⟨_, _, ⟨T82, L82, k82, n82⟩, -, X82, ⟨Lc82, hQ82, l82, y82, z82⟩, st82⟩ := Jvm.LawKit.callS X41 hx (y := (⟨"java/lang/Integer", "valueOf", "(I)Ljava/lang/Integer;"⟩ : MethodName)) hown (mvT hZ (hw _ (List.mem_of_getElem? (i := 46) rfl))) (mvT hZ (hw _ (List.mem_of_getElem? (i := 47) rfl))) (mvT hZ (hw _ (List.mem_of_getElem? (i := 48) rfl))) (mvT hZ (hw _ (List.mem_of_getElem? (i := 49) rfl))) (by decide) (backOf (W := 1) (rm_vof l Z a0 hw [] (2 : Int32) ca cl bi2 h41 n0 (Nat.le_trans Z0 PL1.1) O81 zS11 zS12 hcl (by decide) (by decide) hin2 hat2) hZ (hw _ (List.mem_of_getElem? (i := 49) rfl)) (hw _ (List.mem_of_getElem? (i := 48) rfl)) (by decide) (by decide)) (g := (mkF m 52 #[.val (.ref a1), .val (.ref c1), .val (.int ((((0 : Int32) + x0) + x1) + x2)), .val (.ref la), .val (.int (2 : Int32))] [(.int (2 : Int32)), (.ref la)])) rfl (by rw [hml]; rfl) (argsL := [(.int (2 : Int32))]) (rest := [(.ref la)]) (lenOf pd_28I29Ljava2flang2fInteger3b rfl) rfl (by show 2 * 0 + _ ≤ _; exact Nat.le_of_eq rfl) (hb hby d_prog_55_method_1_code_52) (fun _ _ => ⟨rfl, e41, (by decide : 4 + 0 ≤ _), (by decide : 27 + 0 ≤ _)⟩)
        dsimp only [Pt.U, Pt.locs, Pt.cells, Pt.slots] at X82 l82 y82 z82 st82 hQ82
        subst l82 y82 z82
        obtain ⟨rfl, N82q, e82⟩ := hQ82
        have N82 := Fr.app N41 N82q
        obtain ⟨cq83, kq83, q83a, q83b, q83c⟩ := isOf hZ e82 fE1
        obtain ⟨_, _, ⟨T83, L83, k83, n83⟩, -, X83, ⟨Lc83, hQ83, l83, y83, z83⟩, st83⟩ := X82.interfaceBack hx (xi := (⟨"java/util/List", "add", "(Ljava/lang/Object;)Z"⟩ : MethodName)) (y := (⟨"java/util/ArrayList", "add", "(Ljava/lang/Object;)Z"⟩ : MethodName)) hown (mvT hZ (hw _ (List.mem_of_getElem? (i := 53) rfl))) (mvT hZ (hw _ (List.mem_of_getElem? (i := 54) rfl))) (mvT hZ (hw _ (List.mem_of_getElem? (i := 55) rfl))) (mvT hZ (hw _ (List.mem_of_getElem? (i := 56) rfl))) (mvT hZ (hw _ (List.mem_of_getElem? (i := 57) rfl))) (mvT hZ (hw _ (List.mem_of_getElem? (i := 58) rfl))) (mvT hZ (hw _ (List.mem_of_getElem? (i := 59) rfl))) (mvT hZ (hw _ (List.mem_of_getElem? (i := 60) rfl))) (by decide) (backOf (W := 0) (rm_addR l Z a0 hw [] la bi2 ed kk vs mc2 nn2 h41 n0 (Nat.le_trans Z0 PL1.1) fE1 fM1 q8 fS1 q9 ge_la q1 q3 O81 zE20 q6 q7 (own_nb q4 q5 (by decide)).1.1 (own_nb q4 q5 (by decide)).1.2.1 (own_nb q4 q5 (by decide)).1.2.2) hZ (hw _ (List.mem_of_getElem? (i := 61) rfl)) (hw _ (List.mem_of_getElem? (i := 24) rfl)) (by decide) (by decide)) q83a q83b q83c (g := (mkF m 55 #[.val (.ref a1), .val (.ref c1), .val (.int ((((0 : Int32) + x0) + x1) + x2)), .val (.ref la), .val (.int (2 : Int32))] [(.ref bi2), (.ref la)])) rfl (by rw [hml]; rfl) (Steps.refl _) (argsL := [(.ref bi2)]) (rest := []) (lenOf pd_28Ljava2flang2fObject3b29Z rfl) rfl (by show 2 * 0 + _ ≤ _; exact Nat.le_of_eq rfl) (hb hby d_prog_55_method_1_code_55) (fun _ _ => ⟨rfl, e82, (by decide : 4 + 0 ≤ _), (by decide : 27 + 0 ≤ _)⟩)
        dsimp only [Pt.U, Pt.locs, Pt.cells, Pt.slots] at X83 l83 y83 z83 st83 hQ83
        subst l83 y83 z83
        obtain ⟨vn, rfl, N83q, K83, r83_0, r83_1, r83_2, r83_3, r83_4, r83_5⟩ := hQ83
        have N83 := Fr.app N82 N83q
        have P84 : Keep h0 T83.heap [a1] := PL1.trans K83 (allS (Or.inr sz_la) (allS (Or.inr (Nat.le_trans P21.1 q2)) all0))
        refine ⟨(mc2 + (1 : Int32)), (nn2 + (1 : Int32)), T83, _, _, own_mono X83 (by decide) (by decide), rfl, N83, KS41.trans K83 (allS (Or.inl (List.mem_of_getElem? (i := 0) rfl)) (allS (Or.inr q2) all0)), r83_0, r83_1, r83_3, Or.inr ⟨ed, kk, vn, q1, q2, q3, (own_nb q4 q5 (by decide)).2.1, (own_nb q4 q5 (by decide)).2.2, q6, r83_5, r83_2, r83_4⟩, fun t k => ?_⟩
        show Steps p.tables e below (T41.setTop (mkF m 28 #[.val (.ref a1), .val (.ref c1), .val (.int (((0 : Int32) + x0) + x1)), .val (.ref la), .val (.int (2 : Int32))] [])) _
        refine XS.iload X41.here hx rfl (hb hby d_prog_55_method_1_code_28) rfl ?_
        show Steps p.tables e below (T41.setTop (mkF m 30 #[.val (.ref a1), .val (.ref c1), .val (.int (((0 : Int32) + x0) + x1)), .val (.ref la), .val (.int (2 : Int32))] [(.int (2 : Int32))])) _
        refine XS.aloadN X41.here hx rfl (hb hby d_prog_55_method_1_code_30) rfl rfl ?_
        show Steps p.tables e below (T41.setTop (mkF m 31 #[.val (.ref a1), .val (.ref c1), .val (.int (((0 : Int32) + x0) + x1)), .val (.ref la), .val (.int (2 : Int32))] [(.ref c1), (.int (2 : Int32))])) _
        refine X41.arraylength hx (by rw [e41]; exact Ar77.1) (State.isArrayOf_alike hZ.alike Ar77.2.1) (g := (mkF m 31 #[.val (.ref a1), .val (.ref c1), .val (.int (((0 : Int32) + x0) + x1)), .val (.ref la), .val (.int (2 : Int32))] [(.ref c1), (.int (2 : Int32))])) rfl rfl (hb hby d_prog_55_method_1_code_31) _ ?_
        rw [len_of Sz77 Nz77]
        show Steps p.tables e below (T41.setTop (mkF m 32 #[.val (.ref a1), .val (.ref c1), .val (.int (((0 : Int32) + x0) + x1)), .val (.ref la), .val (.int (2 : Int32))] [(.int (4 : Int32)), (.int (2 : Int32))])) _
        refine XS.icmpNo X41.here hx rfl (hb hby d_prog_55_method_1_code_32) rfl (tlt (by decide : (2 : Int32) < (4 : Int32))).2.1 ?_
        show Steps p.tables e below (T41.setTop (mkF m 35 #[.val (.ref a1), .val (.ref c1), .val (.int (((0 : Int32) + x0) + x1)), .val (.ref la), .val (.int (2 : Int32))] [])) _
        refine XS.iloadN X41.here hx rfl (hb hby d_prog_55_method_1_code_35) rfl ?_
        show Steps p.tables e below (T41.setTop (mkF m 36 #[.val (.ref a1), .val (.ref c1), .val (.int (((0 : Int32) + x0) + x1)), .val (.ref la), .val (.int (2 : Int32))] [(.int (((0 : Int32) + x0) + x1))])) _
        refine XS.aloadN X41.here hx rfl (hb hby d_prog_55_method_1_code_36) rfl rfl ?_
        show Steps p.tables e below (T41.setTop (mkF m 37 #[.val (.ref a1), .val (.ref c1), .val (.int (((0 : Int32) + x0) + x1)), .val (.ref la), .val (.int (2 : Int32))] [(.ref c1), (.int (((0 : Int32) + x0) + x1))])) _
        refine XS.iload X41.here hx rfl (hb hby d_prog_55_method_1_code_37) rfl ?_
        show Steps p.tables e below (T41.setTop (mkF m 39 #[.val (.ref a1), .val (.ref c1), .val (.int (((0 : Int32) + x0) + x1)), .val (.ref la), .val (.int (2 : Int32))] [(.int (2 : Int32)), (.ref c1), (.int (((0 : Int32) + x0) + x1))])) _
        refine X41.iaload hx (j := (2 : Int32)) (v := (.int x2)) (by rw [e41]; exact Ar79.1) (State.isArrayOf_alike hZ.alike Ar79.2.1) Ar79.2.2 hin79 hat79 (g := (mkF m 39 #[.val (.ref a1), .val (.ref c1), .val (.int (((0 : Int32) + x0) + x1)), .val (.ref la), .val (.int (2 : Int32))] [(.int (2 : Int32)), (.ref c1), (.int (((0 : Int32) + x0) + x1))])) rfl rfl (hb hby d_prog_55_method_1_code_39) _ ?_
        show Steps p.tables e below (T41.setTop (mkF m 40 #[.val (.ref a1), .val (.ref c1), .val (.int (((0 : Int32) + x0) + x1)), .val (.ref la), .val (.int (2 : Int32))] [(.int x2), (.int (((0 : Int32) + x0) + x1))])) _
        refine XS.iadd X41.here hx rfl (hb hby d_prog_55_method_1_code_40) rfl ?_
        show Steps p.tables e below (T41.setTop (mkF m 41 #[.val (.ref a1), .val (.ref c1), .val (.int (((0 : Int32) + x0) + x1)), .val (.ref la), .val (.int (2 : Int32))] [(.int ((((0 : Int32) + x0) + x1) + x2))])) _
        refine XS.istoreN X41.here hx rfl (hb hby d_prog_55_method_1_code_41) rfl (l' := #[.val (.ref a1), .val (.ref c1), .val (.int ((((0 : Int32) + x0) + x1) + x2)), .val (.ref la), .val (.int (2 : Int32))]) rfl ?_
        show Steps p.tables e below (T41.setTop (mkF m 42 #[.val (.ref a1), .val (.ref c1), .val (.int ((((0 : Int32) + x0) + x1) + x2)), .val (.ref la), .val (.int (2 : Int32))] [])) _
        refine XS.aloadN X41.here hx rfl (hb hby d_prog_55_method_1_code_42) rfl rfl ?_
        show Steps p.tables e below (T41.setTop (mkF m 43 #[.val (.ref a1), .val (.ref c1), .val (.int ((((0 : Int32) + x0) + x1) + x2)), .val (.ref la), .val (.int (2 : Int32))] [(.ref c1)])) _
        refine XS.iload X41.here hx rfl (hb hby d_prog_55_method_1_code_43) rfl ?_
        show Steps p.tables e below (T41.setTop (mkF m 45 #[.val (.ref a1), .val (.ref c1), .val (.int ((((0 : Int32) + x0) + x1) + x2)), .val (.ref la), .val (.int (2 : Int32))] [(.int (2 : Int32)), (.ref c1)])) _
        refine X41.iaload hx (j := (2 : Int32)) (v := (.int x2)) (by rw [e41]; exact Ar80.1) (State.isArrayOf_alike hZ.alike Ar80.2.1) Ar80.2.2 hin80 hat80 (g := (mkF m 45 #[.val (.ref a1), .val (.ref c1), .val (.int ((((0 : Int32) + x0) + x1) + x2)), .val (.ref la), .val (.int (2 : Int32))] [(.int (2 : Int32)), (.ref c1)])) rfl rfl (hb hby d_prog_55_method_1_code_45) _ ?_
        show Steps p.tables e below (T41.setTop (mkF m 46 #[.val (.ref a1), .val (.ref c1), .val (.int ((((0 : Int32) + x0) + x1) + x2)), .val (.ref la), .val (.int (2 : Int32))] [(.int x2)])) _
        refine XS.ifNo X41.here hx rfl (hb hby d_prog_55_method_1_code_46) rfl ((if0 _ _).trans (tlt (hc2 : (0 : Int32) < x2)).2.2.2) ?_
        show Steps p.tables e below (T41.setTop (mkF m 49 #[.val (.ref a1), .val (.ref c1), .val (.int ((((0 : Int32) + x0) + x1) + x2)), .val (.ref la), .val (.int (2 : Int32))] [])) _
        refine XS.aloadN X41.here hx rfl (hb hby d_prog_55_method_1_code_49) rfl rfl ?_
        show Steps p.tables e below (T41.setTop (mkF m 50 #[.val (.ref a1), .val (.ref c1), .val (.int ((((0 : Int32) + x0) + x1) + x2)), .val (.ref la), .val (.int (2 : Int32))] [(.ref la)])) _
        refine XS.iload X41.here hx rfl (hb hby d_prog_55_method_1_code_50) rfl ?_
        show Steps p.tables e below (T41.setTop (mkF m 52 #[.val (.ref a1), .val (.ref c1), .val (.int ((((0 : Int32) + x0) + x1) + x2)), .val (.ref la), .val (.int (2 : Int32))] [(.int (2 : Int32)), (.ref la)])) _
        refine st82 _ ?_
        show Steps p.tables e below (T82.setTop (mkF m 55 #[.val (.ref a1), .val (.ref c1), .val (.int ((((0 : Int32) + x0) + x1) + x2)), .val (.ref la), .val (.int (2 : Int32))] [(.ref bi2), (.ref la)])) _
        refine st83.trans ?_
        show Steps p.tables e below (T83.setTop (mkF m 60 #[.val (.ref a1), .val (.ref c1), .val (.int ((((0 : Int32) + x0) + x1) + x2)), .val (.ref la), .val (.int (2 : Int32))] [(.int (1 : Int32))])) _
        refine XS.pop X83.here hx rfl (hb hby d_prog_55_method_1_code_60) rfl rfl ?_
        show Steps p.tables e below (T83.setTop (mkF m 61 #[.val (.ref a1), .val (.ref c1), .val (.int ((((0 : Int32) + x0) + x1) + x2)), .val (.ref la), .val (.int (2 : Int32))] [])) _
        refine XS.iinc X83.here hx rfl (hb hby d_prog_55_method_1_code_61) rfl (l' := #[.val (.ref a1), .val (.ref c1), .val (.int ((((0 : Int32) + x0) + x1) + x2)), .val (.ref la), .val (.int (3 : Int32))]) rfl ?_
        show Steps p.tables e below (T83.setTop (mkF m 64 #[.val (.ref a1), .val (.ref c1), .val (.int ((((0 : Int32) + x0) + x1) + x2)), .val (.ref la), .val (.int (3 : Int32))] [])) _
        refine XS.goto X83.here hx rfl (pc0 := 64) (pc' := 28) rfl (hb hby d_prog_55_method_1_code_64) (by decide) (by decide) ?_
        exact k
    ·
      have A86 : Arv Z h41 c1 kc .int (4 : Int32) [.int x0, .int x1, .int x2, .int x3] (.int (0 : Int32)) := (A28.keep KS41 (ninS ne_c1_la nin0))
      obtain ⟨cl85, Ar85, qk85, Sz85, Nz85, Ha85, Ga85⟩ := id A86
      obtain ⟨cl87, Ar87, qk87, Sz87, Nz87, Ha87, Ga87⟩ := id A86
      have hin87 : ¬ ((2 : Int32) < 0 ∨ cl87.slots.size ≤ ((2 : Int32)).toNatClampNeg) := inb_of Sz87 ⟨by decide, by decide⟩
      have hat87 : cl87.slots[((2 : Int32)).toNatClampNeg]? = some (.int x2) := Has.at Ha87 hin87 (by rfl)
      obtain ⟨cl88, Ar88, qk88, Sz88, Nz88, Ha88, Ga88⟩ := id A86
      have hin88 : ¬ ((2 : Int32) < 0 ∨ cl88.slots.size ≤ ((2 : Int32)).toNatClampNeg) := inb_of Sz88 ⟨by decide, by decide⟩
      have hat88 : cl88.slots[((2 : Int32)).toNatClampNeg]? = some (.int x2) := Has.at Ha88 hin88 (by rfl)
      refine ⟨mc2, nn2, T41, _, _, own_mono X41 (by decide) (by decide), e41, N41, KS41, fE1, fM1, fS1, (fH1).imp id (fun ⟨ed, kk, vs, q1, q2, q3, q4, q5, q6, q7, q8, q9⟩ => ⟨ed, kk, vs, q1, q2, q3, q4, Int.le_trans q5 (by decide), q6, q7, q8, q9⟩), fun t k => ?_⟩
      show Steps p.tables e below (T41.setTop (mkF m 28 #[.val (.ref a1), .val (.ref c1), .val (.int (((0 : Int32) + x0) + x1)), .val (.ref la), .val (.int (2 : Int32))] [])) _
      refine XS.iload X41.here hx rfl (hb hby d_prog_55_method_1_code_28) rfl ?_
      show Steps p.tables e below (T41.setTop (mkF m 30 #[.val (.ref a1), .val (.ref c1), .val (.int (((0 : Int32) + x0) + x1)), .val (.ref la), .val (.int (2 : Int32))] [(.int (2 : Int32))])) _
      refine XS.aloadN X41.here hx rfl (hb hby d_prog_55_method_1_code_30) rfl rfl ?_
      show Steps p.tables e below (T41.setTop (mkF m 31 #[.val (.ref a1), .val (.ref c1), .val (.int (((0 : Int32) + x0) + x1)), .val (.ref la), .val (.int (2 : Int32))] [(.ref c1), (.int (2 : Int32))])) _
      refine X41.arraylength hx (by rw [e41]; exact Ar85.1) (State.isArrayOf_alike hZ.alike Ar85.2.1) (g := (mkF m 31 #[.val (.ref a1), .val (.ref c1), .val (.int (((0 : Int32) + x0) + x1)), .val (.ref la), .val (.int (2 : Int32))] [(.ref c1), (.int (2 : Int32))])) rfl rfl (hb hby d_prog_55_method_1_code_31) _ ?_
      rw [len_of Sz85 Nz85]
      show Steps p.tables e below (T41.setTop (mkF m 32 #[.val (.ref a1), .val (.ref c1), .val (.int (((0 : Int32) + x0) + x1)), .val (.ref la), .val (.int (2 : Int32))] [(.int (4 : Int32)), (.int (2 : Int32))])) _
      refine XS.icmpNo X41.here hx rfl (hb hby d_prog_55_method_1_code_32) rfl (tlt (by decide : (2 : Int32) < (4 : Int32))).2.1 ?_
      show Steps p.tables e below (T41.setTop (mkF m 35 #[.val (.ref a1), .val (.ref c1), .val (.int (((0 : Int32) + x0) + x1)), .val (.ref la), .val (.int (2 : Int32))] [])) _
      refine XS.iloadN X41.here hx rfl (hb hby d_prog_55_method_1_code_35) rfl ?_
      show Steps p.tables e below (T41.setTop (mkF m 36 #[.val (.ref a1), .val (.ref c1), .val (.int (((0 : Int32) + x0) + x1)), .val (.ref la), .val (.int (2 : Int32))] [(.int (((0 : Int32) + x0) + x1))])) _
      refine XS.aloadN X41.here hx rfl (hb hby d_prog_55_method_1_code_36) rfl rfl ?_
      show Steps p.tables e below (T41.setTop (mkF m 37 #[.val (.ref a1), .val (.ref c1), .val (.int (((0 : Int32) + x0) + x1)), .val (.ref la), .val (.int (2 : Int32))] [(.ref c1), (.int (((0 : Int32) + x0) + x1))])) _
      refine XS.iload X41.here hx rfl (hb hby d_prog_55_method_1_code_37) rfl ?_
      show Steps p.tables e below (T41.setTop (mkF m 39 #[.val (.ref a1), .val (.ref c1), .val (.int (((0 : Int32) + x0) + x1)), .val (.ref la), .val (.int (2 : Int32))] [(.int (2 : Int32)), (.ref c1), (.int (((0 : Int32) + x0) + x1))])) _
      refine X41.iaload hx (j := (2 : Int32)) (v := (.int x2)) (by rw [e41]; exact Ar87.1) (State.isArrayOf_alike hZ.alike Ar87.2.1) Ar87.2.2 hin87 hat87 (g := (mkF m 39 #[.val (.ref a1), .val (.ref c1), .val (.int (((0 : Int32) + x0) + x1)), .val (.ref la), .val (.int (2 : Int32))] [(.int (2 : Int32)), (.ref c1), (.int (((0 : Int32) + x0) + x1))])) rfl rfl (hb hby d_prog_55_method_1_code_39) _ ?_
      show Steps p.tables e below (T41.setTop (mkF m 40 #[.val (.ref a1), .val (.ref c1), .val (.int (((0 : Int32) + x0) + x1)), .val (.ref la), .val (.int (2 : Int32))] [(.int x2), (.int (((0 : Int32) + x0) + x1))])) _
      refine XS.iadd X41.here hx rfl (hb hby d_prog_55_method_1_code_40) rfl ?_
      show Steps p.tables e below (T41.setTop (mkF m 41 #[.val (.ref a1), .val (.ref c1), .val (.int (((0 : Int32) + x0) + x1)), .val (.ref la), .val (.int (2 : Int32))] [(.int ((((0 : Int32) + x0) + x1) + x2))])) _
      refine XS.istoreN X41.here hx rfl (hb hby d_prog_55_method_1_code_41) rfl (l' := #[.val (.ref a1), .val (.ref c1), .val (.int ((((0 : Int32) + x0) + x1) + x2)), .val (.ref la), .val (.int (2 : Int32))]) rfl ?_
      show Steps p.tables e below (T41.setTop (mkF m 42 #[.val (.ref a1), .val (.ref c1), .val (.int ((((0 : Int32) + x0) + x1) + x2)), .val (.ref la), .val (.int (2 : Int32))] [])) _
      refine XS.aloadN X41.here hx rfl (hb hby d_prog_55_method_1_code_42) rfl rfl ?_
      show Steps p.tables e below (T41.setTop (mkF m 43 #[.val (.ref a1), .val (.ref c1), .val (.int ((((0 : Int32) + x0) + x1) + x2)), .val (.ref la), .val (.int (2 : Int32))] [(.ref c1)])) _
      refine XS.iload X41.here hx rfl (hb hby d_prog_55_method_1_code_43) rfl ?_
      show Steps p.tables e below (T41.setTop (mkF m 45 #[.val (.ref a1), .val (.ref c1), .val (.int ((((0 : Int32) + x0) + x1) + x2)), .val (.ref la), .val (.int (2 : Int32))] [(.int (2 : Int32)), (.ref c1)])) _
      refine X41.iaload hx (j := (2 : Int32)) (v := (.int x2)) (by rw [e41]; exact Ar88.1) (State.isArrayOf_alike hZ.alike Ar88.2.1) Ar88.2.2 hin88 hat88 (g := (mkF m 45 #[.val (.ref a1), .val (.ref c1), .val (.int ((((0 : Int32) + x0) + x1) + x2)), .val (.ref la), .val (.int (2 : Int32))] [(.int (2 : Int32)), (.ref c1)])) rfl rfl (hb hby d_prog_55_method_1_code_45) _ ?_
      show Steps p.tables e below (T41.setTop (mkF m 46 #[.val (.ref a1), .val (.ref c1), .val (.int ((((0 : Int32) + x0) + x1) + x2)), .val (.ref la), .val (.int (2 : Int32))] [(.int x2)])) _
      refine XS.ifYes X41.here hx rfl (pc0 := 46) (pc' := 61) rfl (hb hby d_prog_55_method_1_code_46) rfl ((if0 _ _).trans (flt (hc2 : ¬ ((0 : Int32) < x2))).2.2.2) (by decide) (by decide) ?_
      show Steps p.tables e below (T41.setTop (mkF m 61 #[.val (.ref a1), .val (.ref c1), .val (.int ((((0 : Int32) + x0) + x1) + x2)), .val (.ref la), .val (.int (2 : Int32))] [])) _
      refine XS.iinc X41.here hx rfl (hb hby d_prog_55_method_1_code_61) rfl (l' := #[.val (.ref a1), .val (.ref c1), .val (.int ((((0 : Int32) + x0) + x1) + x2)), .val (.ref la), .val (.int (3 : Int32))]) rfl ?_
      show Steps p.tables e below (T41.setTop (mkF m 64 #[.val (.ref a1), .val (.ref c1), .val (.int ((((0 : Int32) + x0) + x1) + x2)), .val (.ref la), .val (.int (3 : Int32))] [])) _
      refine XS.goto X41.here hx rfl (pc0 := 64) (pc' := 28) rfl (hb hby d_prog_55_method_1_code_64) (by decide) (by decide) ?_
      exact k
  have PL2 : Keep h0 h65 [a1] := P21.trans KS65 (allS (Or.inr sz_la) all0)
  obtain ⟨mc4, nn4, T89, h89, L89, X89, e89, N89, KS89, fE3, fM3, fS3, fH3, mg89⟩ : ∃ (mc4 : Int32) (nn4 : Int32) (T89 : State) (h89 : Heap) (L89 : List Loc), Stand p l e ({ frames := 5, cells := 7, slots := 49, locals := 69 } : Room) s m #[(.ref a1), (.ref c1)] below meth c T89 L89 6 47 ∧ T89.heap = h89 ∧ Fr n0 L89 ∧ Keep T20.heap h89 [la] ∧ (Exa Z h89 la "java/util/ArrayList") ∧ (Fld Z h89 la "java/util/AbstractList" "modCount" "I" (.int mc4)) ∧ (Fld Z h89 la "java/util/ArrayList" "size" "I" (.int nn4)) ∧ ((nn4 = 0 ∧ Fld Z h89 la "java/util/ArrayList" "elementData" "[Ljava/lang/Object;" (.ref dce)) ∨ (∃ (ed : Addr) (kk : ClassId) (vs : List Value), n0 ≤ ed ∧ T20.heap.size ≤ ed ∧ la ≠ ed ∧ 0 < (nn4).toInt ∧ (nn4).toInt ≤ 4 ∧ Ovr Z kk "java/lang/Object" ∧ vs.length = 10 ∧ Fld Z h89 la "java/util/ArrayList" "elementData" "[Ljava/lang/Object;" (.ref ed) ∧ Arv Z h89 ed kk (.object "java/lang/Object") (10 : Int32) vs .null)) ∧  ∀ t, Steps p.tables e below (T89.setTop (mkF m 28 #[.val (.ref a1), .val (.ref c1), .val (.int (((((0 : Int32) + x0) + x1) + x2) + x3)), .val (.ref la), .val (.int (4 : Int32))] [])) t → Steps p.tables e below (T65.setTop (mkF m 28 #[.val (.ref a1), .val (.ref c1), .val (.int ((((0 : Int32) + x0) + x1) + x2)), .val (.ref la), .val (.int (3 : Int32))] [])) t := by
    by_cases hc3 : (0 : Int32) < x3
    ·
      rcases id fH2 with ⟨rfl, fD⟩ | ⟨ed, kk, vs, q1, q2, q3, q4, q5, q6, q7, q8, q9⟩
      ·
        have A91 : Arv Z h65 c1 kc .int (4 : Int32) [.int x0, .int x1, .int x2, .int x3] (.int (0 : Int32)) := (A28.keep KS65 (ninS ne_c1_la nin0))
        obtain ⟨cl90, Ar90, qk90, Sz90, Nz90, Ha90, Ga90⟩ := id A91
        obtain ⟨cl92, Ar92, qk92, Sz92, Nz92, Ha92, Ga92⟩ := id A91
        have hin92 : ¬ ((3 : Int32) < 0 ∨ cl92.slots.size ≤ ((3 : Int32)).toNatClampNeg) := inb_of Sz92 ⟨by decide, by decide⟩
        have hat92 : cl92.slots[((3 : Int32)).toNatClampNeg]? = some (.int x3) := Has.at Ha92 hin92 (by rfl)
        obtain ⟨cl93, Ar93, qk93, Sz93, Nz93, Ha93, Ga93⟩ := id A91
        have hin93 : ¬ ((3 : Int32) < 0 ∨ cl93.slots.size ≤ ((3 : Int32)).toNatClampNeg) := inb_of Sz93 ⟨by decide, by decide⟩
        have hat93 : cl93.slots[((3 : Int32)).toNatClampNeg]? = some (.int x3) := Has.at Ha93 hin93 (by rfl)
        have O94 : Old Z n0 h65 := hO.keep PL2 (allS pg4 all0)
        obtain ⟨_, _, ⟨T95, L95, k95, n95⟩, -, X95, ⟨Lc95, hQ95, l95, y95, z95⟩, st95⟩ := Jvm.LawKit.callS X65 hx (y := (⟨"java/lang/Integer", "valueOf", "(I)Ljava/lang/Integer;"⟩ : MethodName)) hown (mvT hZ (hw _ (List.mem_of_getElem? (i := 46) rfl))) (mvT hZ (hw _ (List.mem_of_getElem? (i := 47) rfl))) (mvT hZ (hw _ (List.mem_of_getElem? (i := 48) rfl))) (mvT hZ (hw _ (List.mem_of_getElem? (i := 49) rfl))) (by decide) (backOf (W := 1) (rm_vof l Z a0 hw [] (3 : Int32) ca cl bi3 h65 n0 (Nat.le_trans Z0 PL2.1) O94 zS11 zS12 hcl (by decide) (by decide) hin3 hat3) hZ (hw _ (List.mem_of_getElem? (i := 49) rfl)) (hw _ (List.mem_of_getElem? (i := 48) rfl)) (by decide) (by decide)) (g := (mkF m 52 #[.val (.ref a1), .val (.ref c1), .val (.int (((((0 : Int32) + x0) + x1) + x2) + x3)), .val (.ref la), .val (.int (3 : Int32))] [(.int (3 : Int32)), (.ref la)])) rfl (by rw [hml]; rfl) (argsL := [(.int (3 : Int32))]) (rest := [(.ref la)]) (lenOf pd_28I29Ljava2flang2fInteger3b rfl) rfl (by show 2 * 0 + _ ≤ _; exact Nat.le_of_eq rfl) (hb hby d_prog_55_method_1_code_52) (fun _ _ => ⟨rfl, e65, (by decide : 5 + 0 ≤ _), (by decide : 37 + 0 ≤ _)⟩)
        dsimp only [Pt.U, Pt.locs, Pt.cells, Pt.slots] at X95 l95 y95 z95 st95 hQ95
        subst l95 y95 z95
        obtain ⟨rfl, N95q, e95⟩ := hQ95
        have N95 := Fr.app N65 N95q
        obtain ⟨cq96, kq96, q96a, q96b, q96c⟩ := isOf hZ e95 fE2
        obtain ⟨_, _, ⟨T96, L96, k96, n96⟩, -, X96, ⟨Lc96, hQ96, l96, y96, z96⟩, st96⟩ := X95.interfaceBack hx (xi := (⟨"java/util/List", "add", "(Ljava/lang/Object;)Z"⟩ : MethodName)) (y := (⟨"java/util/ArrayList", "add", "(Ljava/lang/Object;)Z"⟩ : MethodName)) hown (mvT hZ (hw _ (List.mem_of_getElem? (i := 53) rfl))) (mvT hZ (hw _ (List.mem_of_getElem? (i := 54) rfl))) (mvT hZ (hw _ (List.mem_of_getElem? (i := 55) rfl))) (mvT hZ (hw _ (List.mem_of_getElem? (i := 56) rfl))) (mvT hZ (hw _ (List.mem_of_getElem? (i := 57) rfl))) (mvT hZ (hw _ (List.mem_of_getElem? (i := 58) rfl))) (mvT hZ (hw _ (List.mem_of_getElem? (i := 59) rfl))) (mvT hZ (hw _ (List.mem_of_getElem? (i := 60) rfl))) (by decide) (backOf (W := 0) (rm_addF l Z a0 hw [] la bi3 dce kd mc3 h65 n0 (Nat.le_trans Z0 PL2.1) fE2 fM2 fD fS2 ge_la O94 zS9 zA10 zE23) hZ (hw _ (List.mem_of_getElem? (i := 61) rfl)) (hw _ (List.mem_of_getElem? (i := 24) rfl)) (by decide) (by decide)) q96a q96b q96c (g := (mkF m 55 #[.val (.ref a1), .val (.ref c1), .val (.int (((((0 : Int32) + x0) + x1) + x2) + x3)), .val (.ref la), .val (.int (3 : Int32))] [(.ref bi3), (.ref la)])) rfl (by rw [hml]; rfl) (Steps.refl _) (argsL := [(.ref bi3)]) (rest := []) (lenOf pd_28Ljava2flang2fObject3b29Z rfl) rfl (by show 2 * 0 + _ ≤ _; exact Nat.le_of_eq rfl) (hb hby d_prog_55_method_1_code_55) (fun _ _ => ⟨rfl, e95, (by decide : 5 + 1 ≤ _), (by decide : 37 + 10 ≤ _)⟩)
        dsimp only [Pt.U, Pt.locs, Pt.cells, Pt.slots] at X96 l96 y96 z96 st96 hQ96
        subst l96 y96 z96
        obtain ⟨en, kn, vn, rfl, N96q, K96, r96_0, r96_1, r96_2, r96_3, r96_4, r96_5, r96_6, r96_7, r96_8⟩ := hQ96
        have N96 := Fr.app N95 N96q
        have E97 : Exa Z h65 a1 "com/example/inkcap/inkcap/lexicon/WordCategories" := (E22.keep KS65)
        have ne_a1_en : a1 ≠ en := Nat.ne_of_lt (Nat.lt_of_lt_of_le E97.lt r96_0)
        have E98 : Exa Z h65 c1 "[I" := (E23.keep KS65)
        have ne_c1_en : c1 ≠ en := Nat.ne_of_lt (Nat.lt_of_lt_of_le E98.lt r96_0)
        have E99 : Exa Z h65 bc "[I" := (E24.keep KS65)
        have ne_bc_en : bc ≠ en := Nat.ne_of_lt (Nat.lt_of_lt_of_le E99.lt r96_0)
        have ne_la_en : la ≠ en := Nat.ne_of_lt (Nat.lt_of_lt_of_le fE2.lt r96_0)
        have ge_en : n0 ≤ en := Nat.le_trans (Nat.le_trans Z0 PL2.1) r96_0
        have sz_en : h0.size ≤ en := Nat.le_trans PL2.1 r96_0
        have P100 : Keep h0 T96.heap [a1] := PL2.trans K96 (allS (Or.inr sz_la) all0)
        refine ⟨(mc3 + (1 : Int32)), ((0 : Int32) + (1 : Int32)), T96, _, _, own_mono X96 (by decide) (by decide), rfl, N96, KS65.trans K96 (allS (Or.inl (List.mem_of_getElem? (i := 0) rfl)) all0), r96_2, r96_3, r96_5, Or.inr ⟨en, kn, vn, r96_1, Nat.le_trans KS65.1 r96_0, ne_la_en, by decide, by decide, r96_7, r96_8, r96_4, r96_6⟩, fun t k => ?_⟩
        show Steps p.tables e below (T65.setTop (mkF m 28 #[.val (.ref a1), .val (.ref c1), .val (.int ((((0 : Int32) + x0) + x1) + x2)), .val (.ref la), .val (.int (3 : Int32))] [])) _
        refine XS.iload X65.here hx rfl (hb hby d_prog_55_method_1_code_28) rfl ?_
        show Steps p.tables e below (T65.setTop (mkF m 30 #[.val (.ref a1), .val (.ref c1), .val (.int ((((0 : Int32) + x0) + x1) + x2)), .val (.ref la), .val (.int (3 : Int32))] [(.int (3 : Int32))])) _
        refine XS.aloadN X65.here hx rfl (hb hby d_prog_55_method_1_code_30) rfl rfl ?_
        show Steps p.tables e below (T65.setTop (mkF m 31 #[.val (.ref a1), .val (.ref c1), .val (.int ((((0 : Int32) + x0) + x1) + x2)), .val (.ref la), .val (.int (3 : Int32))] [(.ref c1), (.int (3 : Int32))])) _
        refine X65.arraylength hx (by rw [e65]; exact Ar90.1) (State.isArrayOf_alike hZ.alike Ar90.2.1) (g := (mkF m 31 #[.val (.ref a1), .val (.ref c1), .val (.int ((((0 : Int32) + x0) + x1) + x2)), .val (.ref la), .val (.int (3 : Int32))] [(.ref c1), (.int (3 : Int32))])) rfl rfl (hb hby d_prog_55_method_1_code_31) _ ?_
        rw [len_of Sz90 Nz90]
        show Steps p.tables e below (T65.setTop (mkF m 32 #[.val (.ref a1), .val (.ref c1), .val (.int ((((0 : Int32) + x0) + x1) + x2)), .val (.ref la), .val (.int (3 : Int32))] [(.int (4 : Int32)), (.int (3 : Int32))])) _
        refine XS.icmpNo X65.here hx rfl (hb hby d_prog_55_method_1_code_32) rfl (tlt (by decide : (3 : Int32) < (4 : Int32))).2.1 ?_
        show Steps p.tables e below (T65.setTop (mkF m 35 #[.val (.ref a1), .val (.ref c1), .val (.int ((((0 : Int32) + x0) + x1) + x2)), .val (.ref la), .val (.int (3 : Int32))] [])) _
        refine XS.iloadN X65.here hx rfl (hb hby d_prog_55_method_1_code_35) rfl ?_
        show Steps p.tables e below (T65.setTop (mkF m 36 #[.val (.ref a1), .val (.ref c1), .val (.int ((((0 : Int32) + x0) + x1) + x2)), .val (.ref la), .val (.int (3 : Int32))] [(.int ((((0 : Int32) + x0) + x1) + x2))])) _
        refine XS.aloadN X65.here hx rfl (hb hby d_prog_55_method_1_code_36) rfl rfl ?_
        show Steps p.tables e below (T65.setTop (mkF m 37 #[.val (.ref a1), .val (.ref c1), .val (.int ((((0 : Int32) + x0) + x1) + x2)), .val (.ref la), .val (.int (3 : Int32))] [(.ref c1), (.int ((((0 : Int32) + x0) + x1) + x2))])) _
        refine XS.iload X65.here hx rfl (hb hby d_prog_55_method_1_code_37) rfl ?_
        show Steps p.tables e below (T65.setTop (mkF m 39 #[.val (.ref a1), .val (.ref c1), .val (.int ((((0 : Int32) + x0) + x1) + x2)), .val (.ref la), .val (.int (3 : Int32))] [(.int (3 : Int32)), (.ref c1), (.int ((((0 : Int32) + x0) + x1) + x2))])) _
        refine X65.iaload hx (j := (3 : Int32)) (v := (.int x3)) (by rw [e65]; exact Ar92.1) (State.isArrayOf_alike hZ.alike Ar92.2.1) Ar92.2.2 hin92 hat92 (g := (mkF m 39 #[.val (.ref a1), .val (.ref c1), .val (.int ((((0 : Int32) + x0) + x1) + x2)), .val (.ref la), .val (.int (3 : Int32))] [(.int (3 : Int32)), (.ref c1), (.int ((((0 : Int32) + x0) + x1) + x2))])) rfl rfl (hb hby d_prog_55_method_1_code_39) _ ?_
        show Steps p.tables e below (T65.setTop (mkF m 40 #[.val (.ref a1), .val (.ref c1), .val (.int ((((0 : Int32) + x0) + x1) + x2)), .val (.ref la), .val (.int (3 : Int32))] [(.int x3), (.int ((((0 : Int32) + x0) + x1) + x2))])) _
        refine XS.iadd X65.here hx rfl (hb hby d_prog_55_method_1_code_40) rfl ?_
        show Steps p.tables e below (T65.setTop (mkF m 41 #[.val (.ref a1), .val (.ref c1), .val (.int ((((0 : Int32) + x0) + x1) + x2)), .val (.ref la), .val (.int (3 : Int32))] [(.int (((((0 : Int32) + x0) + x1) + x2) + x3))])) _
        refine XS.istoreN X65.here hx rfl (hb hby d_prog_55_method_1_code_41) rfl (l' := #[.val (.ref a1), .val (.ref c1), .val (.int (((((0 : Int32) + x0) + x1) + x2) + x3)), .val (.ref la), .val (.int (3 : Int32))]) rfl ?_
        show Steps p.tables e below (T65.setTop (mkF m 42 #[.val (.ref a1), .val (.ref c1), .val (.int (((((0 : Int32) + x0) + x1) + x2) + x3)), .val (.ref la), .val (.int (3 : Int32))] [])) _
        refine XS.aloadN X65.here hx rfl (hb hby d_prog_55_method_1_code_42) rfl rfl ?_
        show Steps p.tables e below (T65.setTop (mkF m 43 #[.val (.ref a1), .val (.ref c1), .val (.int (((((0 : Int32) + x0) + x1) + x2) + x3)), .val (.ref la), .val (.int (3 : Int32))] [(.ref c1)])) _
        refine XS.iload X65.here hx rfl (hb hby d_prog_55_method_1_code_43) rfl ?_
        show Steps p.tables e below (T65.setTop (mkF m 45 #[.val (.ref a1), .val (.ref c1), .val (.int (((((0 : Int32) + x0) + x1) + x2) + x3)), .val (.ref la), .val (.int (3 : Int32))] [(.int (3 : Int32)), (.ref c1)])) _
        refine X65.iaload hx (j := (3 : Int32)) (v := (.int x3)) (by rw [e65]; exact Ar93.1) (State.isArrayOf_alike hZ.alike Ar93.2.1) Ar93.2.2 hin93 hat93 (g := (mkF m 45 #[.val (.ref a1), .val (.ref c1), .val (.int (((((0 : Int32) + x0) + x1) + x2) + x3)), .val (.ref la), .val (.int (3 : Int32))] [(.int (3 : Int32)), (.ref c1)])) rfl rfl (hb hby d_prog_55_method_1_code_45) _ ?_
        show Steps p.tables e below (T65.setTop (mkF m 46 #[.val (.ref a1), .val (.ref c1), .val (.int (((((0 : Int32) + x0) + x1) + x2) + x3)), .val (.ref la), .val (.int (3 : Int32))] [(.int x3)])) _
        refine XS.ifNo X65.here hx rfl (hb hby d_prog_55_method_1_code_46) rfl ((if0 _ _).trans (tlt (hc3 : (0 : Int32) < x3)).2.2.2) ?_
        show Steps p.tables e below (T65.setTop (mkF m 49 #[.val (.ref a1), .val (.ref c1), .val (.int (((((0 : Int32) + x0) + x1) + x2) + x3)), .val (.ref la), .val (.int (3 : Int32))] [])) _
        refine XS.aloadN X65.here hx rfl (hb hby d_prog_55_method_1_code_49) rfl rfl ?_
        show Steps p.tables e below (T65.setTop (mkF m 50 #[.val (.ref a1), .val (.ref c1), .val (.int (((((0 : Int32) + x0) + x1) + x2) + x3)), .val (.ref la), .val (.int (3 : Int32))] [(.ref la)])) _
        refine XS.iload X65.here hx rfl (hb hby d_prog_55_method_1_code_50) rfl ?_
        show Steps p.tables e below (T65.setTop (mkF m 52 #[.val (.ref a1), .val (.ref c1), .val (.int (((((0 : Int32) + x0) + x1) + x2) + x3)), .val (.ref la), .val (.int (3 : Int32))] [(.int (3 : Int32)), (.ref la)])) _
        refine st95 _ ?_
        show Steps p.tables e below (T95.setTop (mkF m 55 #[.val (.ref a1), .val (.ref c1), .val (.int (((((0 : Int32) + x0) + x1) + x2) + x3)), .val (.ref la), .val (.int (3 : Int32))] [(.ref bi3), (.ref la)])) _
        refine st96.trans ?_
        show Steps p.tables e below (T96.setTop (mkF m 60 #[.val (.ref a1), .val (.ref c1), .val (.int (((((0 : Int32) + x0) + x1) + x2) + x3)), .val (.ref la), .val (.int (3 : Int32))] [(.int (1 : Int32))])) _
        refine XS.pop X96.here hx rfl (hb hby d_prog_55_method_1_code_60) rfl rfl ?_
        show Steps p.tables e below (T96.setTop (mkF m 61 #[.val (.ref a1), .val (.ref c1), .val (.int (((((0 : Int32) + x0) + x1) + x2) + x3)), .val (.ref la), .val (.int (3 : Int32))] [])) _
        refine XS.iinc X96.here hx rfl (hb hby d_prog_55_method_1_code_61) rfl (l' := #[.val (.ref a1), .val (.ref c1), .val (.int (((((0 : Int32) + x0) + x1) + x2) + x3)), .val (.ref la), .val (.int (4 : Int32))]) rfl ?_
        show Steps p.tables e below (T96.setTop (mkF m 64 #[.val (.ref a1), .val (.ref c1), .val (.int (((((0 : Int32) + x0) + x1) + x2) + x3)), .val (.ref la), .val (.int (4 : Int32))] [])) _
        refine XS.goto X96.here hx rfl (pc0 := 64) (pc' := 28) rfl (hb hby d_prog_55_method_1_code_64) (by decide) (by decide) ?_
        exact k
      ·
        have A102 : Arv Z h65 c1 kc .int (4 : Int32) [.int x0, .int x1, .int x2, .int x3] (.int (0 : Int32)) := (A28.keep KS65 (ninS ne_c1_la nin0))
        obtain ⟨cl101, Ar101, qk101, Sz101, Nz101, Ha101, Ga101⟩ := id A102
        obtain ⟨cl103, Ar103, qk103, Sz103, Nz103, Ha103, Ga103⟩ := id A102
        have hin103 : ¬ ((3 : Int32) < 0 ∨ cl103.slots.size ≤ ((3 : Int32)).toNatClampNeg) := inb_of Sz103 ⟨by decide, by decide⟩
        have hat103 : cl103.slots[((3 : Int32)).toNatClampNeg]? = some (.int x3) := Has.at Ha103 hin103 (by rfl)
        obtain ⟨cl104, Ar104, qk104, Sz104, Nz104, Ha104, Ga104⟩ := id A102
        have hin104 : ¬ ((3 : Int32) < 0 ∨ cl104.slots.size ≤ ((3 : Int32)).toNatClampNeg) := inb_of Sz104 ⟨by decide, by decide⟩
        have hat104 : cl104.slots[((3 : Int32)).toNatClampNeg]? = some (.int x3) := Has.at Ha104 hin104 (by rfl)
        have O105 : Old Z n0 h65 := hO.keep PL2 (allS pg4 all0)
        obtain ⟨_, _, ⟨T106, L106, k106, n106⟩, -, X106, ⟨Lc106, hQ106, l106, y106, z106⟩, st106⟩ := Jvm.LawKit.callS X65 hx (y := (⟨"java/lang/Integer", "valueOf", "(I)Ljava/lang/Integer;"⟩ : MethodName)) hown (mvT hZ (hw _ (List.mem_of_getElem? (i := 46) rfl))) (mvT hZ (hw _ (List.mem_of_getElem? (i := 47) rfl))) (mvT hZ (hw _ (List.mem_of_getElem? (i := 48) rfl))) (mvT hZ (hw _ (List.mem_of_getElem? (i := 49) rfl))) (by decide) (backOf (W := 1) (rm_vof l Z a0 hw [] (3 : Int32) ca cl bi3 h65 n0 (Nat.le_trans Z0 PL2.1) O105 zS11 zS12 hcl (by decide) (by decide) hin3 hat3) hZ (hw _ (List.mem_of_getElem? (i := 49) rfl)) (hw _ (List.mem_of_getElem? (i := 48) rfl)) (by decide) (by decide)) (g := (mkF m 52 #[.val (.ref a1), .val (.ref c1), .val (.int (((((0 : Int32) + x0) + x1) + x2) + x3)), .val (.ref la), .val (.int (3 : Int32))] [(.int (3 : Int32)), (.ref la)])) rfl (by rw [hml]; rfl) (argsL := [(.int (3 : Int32))]) (rest := [(.ref la)]) (lenOf pd_28I29Ljava2flang2fInteger3b rfl) rfl (by show 2 * 0 + _ ≤ _; exact Nat.le_of_eq rfl) (hb hby d_prog_55_method_1_code_52) (fun _ _ => ⟨rfl, e65, (by decide : 5 + 0 ≤ _), (by decide : 37 + 0 ≤ _)⟩)
        dsimp only [Pt.U, Pt.locs, Pt.cells, Pt.slots] at X106 l106 y106 z106 st106 hQ106
        subst l106 y106 z106
        obtain ⟨rfl, N106q, e106⟩ := hQ106
        have N106 := Fr.app N65 N106q
        obtain ⟨cq107, kq107, q107a, q107b, q107c⟩ := isOf hZ e106 fE2
        obtain ⟨_, _, ⟨T107, L107, k107, n107⟩, -, X107, ⟨Lc107, hQ107, l107, y107, z107⟩, st107⟩ := X106.interfaceBack hx (xi := (⟨"java/util/List", "add", "(Ljava/lang/Object;)Z"⟩ : MethodName)) (y := (⟨"java/util/ArrayList", "add", "(Ljava/lang/Object;)Z"⟩ : MethodName)) hown (mvT hZ (hw _ (List.mem_of_getElem? (i := 53) rfl))) (mvT hZ (hw _ (List.mem_of_getElem? (i := 54) rfl))) (mvT hZ (hw _ (List.mem_of_getElem? (i := 55) rfl))) (mvT hZ (hw _ (List.mem_of_getElem? (i := 56) rfl))) (mvT hZ (hw _ (List.mem_of_getElem? (i := 57) rfl))) (mvT hZ (hw _ (List.mem_of_getElem? (i := 58) rfl))) (mvT hZ (hw _ (List.mem_of_getElem? (i := 59) rfl))) (mvT hZ (hw _ (List.mem_of_getElem? (i := 60) rfl))) (by decide) (backOf (W := 0) (rm_addR l Z a0 hw [] la bi3 ed kk vs mc3 nn3 h65 n0 (Nat.le_trans Z0 PL2.1) fE2 fM2 q8 fS2 q9 ge_la q1 q3 O105 zE23 q6 q7 (own_nb q4 q5 (by decide)).1.1 (own_nb q4 q5 (by decide)).1.2.1 (own_nb q4 q5 (by decide)).1.2.2) hZ (hw _ (List.mem_of_getElem? (i := 61) rfl)) (hw _ (List.mem_of_getElem? (i := 24) rfl)) (by decide) (by decide)) q107a q107b q107c (g := (mkF m 55 #[.val (.ref a1), .val (.ref c1), .val (.int (((((0 : Int32) + x0) + x1) + x2) + x3)), .val (.ref la), .val (.int (3 : Int32))] [(.ref bi3), (.ref la)])) rfl (by rw [hml]; rfl) (Steps.refl _) (argsL := [(.ref bi3)]) (rest := []) (lenOf pd_28Ljava2flang2fObject3b29Z rfl) rfl (by show 2 * 0 + _ ≤ _; exact Nat.le_of_eq rfl) (hb hby d_prog_55_method_1_code_55) (fun _ _ => ⟨rfl, e106, (by decide : 5 + 0 ≤ _), (by decide : 37 + 0 ≤ _)⟩)
        dsimp only [Pt.U, Pt.locs, Pt.cells, Pt.slots] at X107 l107 y107 z107 st107 hQ107
        subst l107 y107 z107
        obtain ⟨vn, rfl, N107q, K107, r107_0, r107_1, r107_2, r107_3, r107_4, r107_5⟩ := hQ107
        have N107 := Fr.app N106 N107q
        have P108 : Keep h0 T107.heap [a1] := PL2.trans K107 (allS (Or.inr sz_la) (allS (Or.inr (Nat.le_trans P21.1 q2)) all0))
        refine ⟨(mc3 + (1 : Int32)), (nn3 + (1 : Int32)), T107, _, _, own_mono X107 (by decide) (by decide), rfl, N107, KS65.trans K107 (allS (Or.inl (List.mem_of_getElem? (i := 0) rfl)) (allS (Or.inr q2) all0)), r107_0, r107_1, r107_3, Or.inr ⟨ed, kk, vn, q1, q2, q3, (own_nb q4 q5 (by decide)).2.1, (own_nb q4 q5 (by decide)).2.2, q6, r107_5, r107_2, r107_4⟩, fun t k => ?_⟩
        show Steps p.tables e below (T65.setTop (mkF m 28 #[.val (.ref a1), .val (.ref c1), .val (.int ((((0 : Int32) + x0) + x1) + x2)), .val (.ref la), .val (.int (3 : Int32))] [])) _
        refine XS.iload X65.here hx rfl (hb hby d_prog_55_method_1_code_28) rfl ?_
        show Steps p.tables e below (T65.setTop (mkF m 30 #[.val (.ref a1), .val (.ref c1), .val (.int ((((0 : Int32) + x0) + x1) + x2)), .val (.ref la), .val (.int (3 : Int32))] [(.int (3 : Int32))])) _
        refine XS.aloadN X65.here hx rfl (hb hby d_prog_55_method_1_code_30) rfl rfl ?_
        show Steps p.tables e below (T65.setTop (mkF m 31 #[.val (.ref a1), .val (.ref c1), .val (.int ((((0 : Int32) + x0) + x1) + x2)), .val (.ref la), .val (.int (3 : Int32))] [(.ref c1), (.int (3 : Int32))])) _
        refine X65.arraylength hx (by rw [e65]; exact Ar101.1) (State.isArrayOf_alike hZ.alike Ar101.2.1) (g := (mkF m 31 #[.val (.ref a1), .val (.ref c1), .val (.int ((((0 : Int32) + x0) + x1) + x2)), .val (.ref la), .val (.int (3 : Int32))] [(.ref c1), (.int (3 : Int32))])) rfl rfl (hb hby d_prog_55_method_1_code_31) _ ?_
        rw [len_of Sz101 Nz101]
        show Steps p.tables e below (T65.setTop (mkF m 32 #[.val (.ref a1), .val (.ref c1), .val (.int ((((0 : Int32) + x0) + x1) + x2)), .val (.ref la), .val (.int (3 : Int32))] [(.int (4 : Int32)), (.int (3 : Int32))])) _
        refine XS.icmpNo X65.here hx rfl (hb hby d_prog_55_method_1_code_32) rfl (tlt (by decide : (3 : Int32) < (4 : Int32))).2.1 ?_
        show Steps p.tables e below (T65.setTop (mkF m 35 #[.val (.ref a1), .val (.ref c1), .val (.int ((((0 : Int32) + x0) + x1) + x2)), .val (.ref la), .val (.int (3 : Int32))] [])) _
        refine XS.iloadN X65.here hx rfl (hb hby d_prog_55_method_1_code_35) rfl ?_
        show Steps p.tables e below (T65.setTop (mkF m 36 #[.val (.ref a1), .val (.ref c1), .val (.int ((((0 : Int32) + x0) + x1) + x2)), .val (.ref la), .val (.int (3 : Int32))] [(.int ((((0 : Int32) + x0) + x1) + x2))])) _
        refine XS.aloadN X65.here hx rfl (hb hby d_prog_55_method_1_code_36) rfl rfl ?_
        show Steps p.tables e below (T65.setTop (mkF m 37 #[.val (.ref a1), .val (.ref c1), .val (.int ((((0 : Int32) + x0) + x1) + x2)), .val (.ref la), .val (.int (3 : Int32))] [(.ref c1), (.int ((((0 : Int32) + x0) + x1) + x2))])) _
        refine XS.iload X65.here hx rfl (hb hby d_prog_55_method_1_code_37) rfl ?_
        show Steps p.tables e below (T65.setTop (mkF m 39 #[.val (.ref a1), .val (.ref c1), .val (.int ((((0 : Int32) + x0) + x1) + x2)), .val (.ref la), .val (.int (3 : Int32))] [(.int (3 : Int32)), (.ref c1), (.int ((((0 : Int32) + x0) + x1) + x2))])) _
        refine X65.iaload hx (j := (3 : Int32)) (v := (.int x3)) (by rw [e65]; exact Ar103.1) (State.isArrayOf_alike hZ.alike Ar103.2.1) Ar103.2.2 hin103 hat103 (g := (mkF m 39 #[.val (.ref a1), .val (.ref c1), .val (.int ((((0 : Int32) + x0) + x1) + x2)), .val (.ref la), .val (.int (3 : Int32))] [(.int (3 : Int32)), (.ref c1), (.int ((((0 : Int32) + x0) + x1) + x2))])) rfl rfl (hb hby d_prog_55_method_1_code_39) _ ?_
        show Steps p.tables e below (T65.setTop (mkF m 40 #[.val (.ref a1), .val (.ref c1), .val (.int ((((0 : Int32) + x0) + x1) + x2)), .val (.ref la), .val (.int (3 : Int32))] [(.int x3), (.int ((((0 : Int32) + x0) + x1) + x2))])) _
        refine XS.iadd X65.here hx rfl (hb hby d_prog_55_method_1_code_40) rfl ?_
        show Steps p.tables e below (T65.setTop (mkF m 41 #[.val (.ref a1), .val (.ref c1), .val (.int ((((0 : Int32) + x0) + x1) + x2)), .val (.ref la), .val (.int (3 : Int32))] [(.int (((((0 : Int32) + x0) + x1) + x2) + x3))])) _
        refine XS.istoreN X65.here hx rfl (hb hby d_prog_55_method_1_code_41) rfl (l' := #[.val (.ref a1), .val (.ref c1), .val (.int (((((0 : Int32) + x0) + x1) + x2) + x3)), .val (.ref la), .val (.int (3 : Int32))]) rfl ?_
        show Steps p.tables e below (T65.setTop (mkF m 42 #[.val (.ref a1), .val (.ref c1), .val (.int (((((0 : Int32) + x0) + x1) + x2) + x3)), .val (.ref la), .val (.int (3 : Int32))] [])) _
        refine XS.aloadN X65.here hx rfl (hb hby d_prog_55_method_1_code_42) rfl rfl ?_
        show Steps p.tables e below (T65.setTop (mkF m 43 #[.val (.ref a1), .val (.ref c1), .val (.int (((((0 : Int32) + x0) + x1) + x2) + x3)), .val (.ref la), .val (.int (3 : Int32))] [(.ref c1)])) _
        refine XS.iload X65.here hx rfl (hb hby d_prog_55_method_1_code_43) rfl ?_
        show Steps p.tables e below (T65.setTop (mkF m 45 #[.val (.ref a1), .val (.ref c1), .val (.int (((((0 : Int32) + x0) + x1) + x2) + x3)), .val (.ref la), .val (.int (3 : Int32))] [(.int (3 : Int32)), (.ref c1)])) _
        refine X65.iaload hx (j := (3 : Int32)) (v := (.int x3)) (by rw [e65]; exact Ar104.1) (State.isArrayOf_alike hZ.alike Ar104.2.1) Ar104.2.2 hin104 hat104 (g := (mkF m 45 #[.val (.ref a1), .val (.ref c1), .val (.int (((((0 : Int32) + x0) + x1) + x2) + x3)), .val (.ref la), .val (.int (3 : Int32))] [(.int (3 : Int32)), (.ref c1)])) rfl rfl (hb hby d_prog_55_method_1_code_45) _ ?_
        show Steps p.tables e below (T65.setTop (mkF m 46 #[.val (.ref a1), .val (.ref c1), .val (.int (((((0 : Int32) + x0) + x1) + x2) + x3)), .val (.ref la), .val (.int (3 : Int32))] [(.int x3)])) _
        refine XS.ifNo X65.here hx rfl (hb hby d_prog_55_method_1_code_46) rfl ((if0 _ _).trans (tlt (hc3 : (0 : Int32) < x3)).2.2.2) ?_
        show Steps p.tables e below (T65.setTop (mkF m 49 #[.val (.ref a1), .val (.ref c1), .val (.int (((((0 : Int32) + x0) + x1) + x2) + x3)), .val (.ref la), .val (.int (3 : Int32))] [])) _
        refine XS.aloadN X65.here hx rfl (hb hby d_prog_55_method_1_code_49) rfl rfl ?_
        show Steps p.tables e below (T65.setTop (mkF m 50 #[.val (.ref a1), .val (.ref c1), .val (.int (((((0 : Int32) + x0) + x1) + x2) + x3)), .val (.ref la), .val (.int (3 : Int32))] [(.ref la)])) _
        refine XS.iload X65.here hx rfl (hb hby d_prog_55_method_1_code_50) rfl ?_
        show Steps p.tables e below (T65.setTop (mkF m 52 #[.val (.ref a1), .val (.ref c1), .val (.int (((((0 : Int32) + x0) + x1) + x2) + x3)), .val (.ref la), .val (.int (3 : Int32))] [(.int (3 : Int32)), (.ref la)])) _
        refine st106 _ ?_
        show Steps p.tables e below (T106.setTop (mkF m 55 #[.val (.ref a1), .val (.ref c1), .val (.int (((((0 : Int32) + x0) + x1) + x2) + x3)), .val (.ref la), .val (.int (3 : Int32))] [(.ref bi3), (.ref la)])) _
        refine st107.trans ?_
        show Steps p.tables e below (T107.setTop (mkF m 60 #[.val (.ref a1), .val (.ref c1), .val (.int (((((0 : Int32) + x0) + x1) + x2) + x3)), .val (.ref la), .val (.int (3 : Int32))] [(.int (1 : Int32))])) _
        refine XS.pop X107.here hx rfl (hb hby d_prog_55_method_1_code_60) rfl rfl ?_
        show Steps p.tables e below (T107.setTop (mkF m 61 #[.val (.ref a1), .val (.ref c1), .val (.int (((((0 : Int32) + x0) + x1) + x2) + x3)), .val (.ref la), .val (.int (3 : Int32))] [])) _
        refine XS.iinc X107.here hx rfl (hb hby d_prog_55_method_1_code_61) rfl (l' := #[.val (.ref a1), .val (.ref c1), .val (.int (((((0 : Int32) + x0) + x1) + x2) + x3)), .val (.ref la), .val (.int (4 : Int32))]) rfl ?_
        show Steps p.tables e below (T107.setTop (mkF m 64 #[.val (.ref a1), .val (.ref c1), .val (.int (((((0 : Int32) + x0) + x1) + x2) + x3)), .val (.ref la), .val (.int (4 : Int32))] [])) _
        refine XS.goto X107.here hx rfl (pc0 := 64) (pc' := 28) rfl (hb hby d_prog_55_method_1_code_64) (by decide) (by decide) ?_
        exact k
    ·
      have A110 : Arv Z h65 c1 kc .int (4 : Int32) [.int x0, .int x1, .int x2, .int x3] (.int (0 : Int32)) := (A28.keep KS65 (ninS ne_c1_la nin0))
      obtain ⟨cl109, Ar109, qk109, Sz109, Nz109, Ha109, Ga109⟩ := id A110
      obtain ⟨cl111, Ar111, qk111, Sz111, Nz111, Ha111, Ga111⟩ := id A110
      have hin111 : ¬ ((3 : Int32) < 0 ∨ cl111.slots.size ≤ ((3 : Int32)).toNatClampNeg) := inb_of Sz111 ⟨by decide, by decide⟩
      have hat111 : cl111.slots[((3 : Int32)).toNatClampNeg]? = some (.int x3) := Has.at Ha111 hin111 (by rfl)
      obtain ⟨cl112, Ar112, qk112, Sz112, Nz112, Ha112, Ga112⟩ := id A110
      have hin112 : ¬ ((3 : Int32) < 0 ∨ cl112.slots.size ≤ ((3 : Int32)).toNatClampNeg) := inb_of Sz112 ⟨by decide, by decide⟩
      have hat112 : cl112.slots[((3 : Int32)).toNatClampNeg]? = some (.int x3) := Has.at Ha112 hin112 (by rfl)
      refine ⟨mc3, nn3, T65, _, _, own_mono X65 (by decide) (by decide), e65, N65, KS65, fE2, fM2, fS2, (fH2).imp id (fun ⟨ed, kk, vs, q1, q2, q3, q4, q5, q6, q7, q8, q9⟩ => ⟨ed, kk, vs, q1, q2, q3, q4, Int.le_trans q5 (by decide), q6, q7, q8, q9⟩), fun t k => ?_⟩
      show Steps p.tables e below (T65.setTop (mkF m 28 #[.val (.ref a1), .val (.ref c1), .val (.int ((((0 : Int32) + x0) + x1) + x2)), .val (.ref la), .val (.int (3 : Int32))] [])) _
      refine XS.iload X65.here hx rfl (hb hby d_prog_55_method_1_code_28) rfl ?_
      show Steps p.tables e below (T65.setTop (mkF m 30 #[.val (.ref a1), .val (.ref c1), .val (.int ((((0 : Int32) + x0) + x1) + x2)), .val (.ref la), .val (.int (3 : Int32))] [(.int (3 : Int32))])) _
      refine XS.aloadN X65.here hx rfl (hb hby d_prog_55_method_1_code_30) rfl rfl ?_
      show Steps p.tables e below (T65.setTop (mkF m 31 #[.val (.ref a1), .val (.ref c1), .val (.int ((((0 : Int32) + x0) + x1) + x2)), .val (.ref la), .val (.int (3 : Int32))] [(.ref c1), (.int (3 : Int32))])) _
      refine X65.arraylength hx (by rw [e65]; exact Ar109.1) (State.isArrayOf_alike hZ.alike Ar109.2.1) (g := (mkF m 31 #[.val (.ref a1), .val (.ref c1), .val (.int ((((0 : Int32) + x0) + x1) + x2)), .val (.ref la), .val (.int (3 : Int32))] [(.ref c1), (.int (3 : Int32))])) rfl rfl (hb hby d_prog_55_method_1_code_31) _ ?_
      rw [len_of Sz109 Nz109]
      show Steps p.tables e below (T65.setTop (mkF m 32 #[.val (.ref a1), .val (.ref c1), .val (.int ((((0 : Int32) + x0) + x1) + x2)), .val (.ref la), .val (.int (3 : Int32))] [(.int (4 : Int32)), (.int (3 : Int32))])) _
      refine XS.icmpNo X65.here hx rfl (hb hby d_prog_55_method_1_code_32) rfl (tlt (by decide : (3 : Int32) < (4 : Int32))).2.1 ?_
      show Steps p.tables e below (T65.setTop (mkF m 35 #[.val (.ref a1), .val (.ref c1), .val (.int ((((0 : Int32) + x0) + x1) + x2)), .val (.ref la), .val (.int (3 : Int32))] [])) _
      refine XS.iloadN X65.here hx rfl (hb hby d_prog_55_method_1_code_35) rfl ?_
      show Steps p.tables e below (T65.setTop (mkF m 36 #[.val (.ref a1), .val (.ref c1), .val (.int ((((0 : Int32) + x0) + x1) + x2)), .val (.ref la), .val (.int (3 : Int32))] [(.int ((((0 : Int32) + x0) + x1) + x2))])) _
      refine XS.aloadN X65.here hx rfl (hb hby d_prog_55_method_1_code_36) rfl rfl ?_
      show Steps p.tables e below (T65.setTop (mkF m 37 #[.val (.ref a1), .val (.ref c1), .val (.int ((((0 : Int32) + x0) + x1) + x2)), .val (.ref la), .val (.int (3 : Int32))] [(.ref c1), (.int ((((0 : Int32) + x0) + x1) + x2))])) _
      refine XS.iload X65.here hx rfl (hb hby d_prog_55_method_1_code_37) rfl ?_
      show Steps p.tables e below (T65.setTop (mkF m 39 #[.val (.ref a1), .val (.ref c1), .val (.int ((((0 : Int32) + x0) + x1) + x2)), .val (.ref la), .val (.int (3 : Int32))] [(.int (3 : Int32)), (.ref c1), (.int ((((0 : Int32) + x0) + x1) + x2))])) _
      refine X65.iaload hx (j := (3 : Int32)) (v := (.int x3)) (by rw [e65]; exact Ar111.1) (State.isArrayOf_alike hZ.alike Ar111.2.1) Ar111.2.2 hin111 hat111 (g := (mkF m 39 #[.val (.ref a1), .val (.ref c1), .val (.int ((((0 : Int32) + x0) + x1) + x2)), .val (.ref la), .val (.int (3 : Int32))] [(.int (3 : Int32)), (.ref c1), (.int ((((0 : Int32) + x0) + x1) + x2))])) rfl rfl (hb hby d_prog_55_method_1_code_39) _ ?_
      show Steps p.tables e below (T65.setTop (mkF m 40 #[.val (.ref a1), .val (.ref c1), .val (.int ((((0 : Int32) + x0) + x1) + x2)), .val (.ref la), .val (.int (3 : Int32))] [(.int x3), (.int ((((0 : Int32) + x0) + x1) + x2))])) _
      refine XS.iadd X65.here hx rfl (hb hby d_prog_55_method_1_code_40) rfl ?_
      show Steps p.tables e below (T65.setTop (mkF m 41 #[.val (.ref a1), .val (.ref c1), .val (.int ((((0 : Int32) + x0) + x1) + x2)), .val (.ref la), .val (.int (3 : Int32))] [(.int (((((0 : Int32) + x0) + x1) + x2) + x3))])) _
      refine XS.istoreN X65.here hx rfl (hb hby d_prog_55_method_1_code_41) rfl (l' := #[.val (.ref a1), .val (.ref c1), .val (.int (((((0 : Int32) + x0) + x1) + x2) + x3)), .val (.ref la), .val (.int (3 : Int32))]) rfl ?_
      show Steps p.tables e below (T65.setTop (mkF m 42 #[.val (.ref a1), .val (.ref c1), .val (.int (((((0 : Int32) + x0) + x1) + x2) + x3)), .val (.ref la), .val (.int (3 : Int32))] [])) _
      refine XS.aloadN X65.here hx rfl (hb hby d_prog_55_method_1_code_42) rfl rfl ?_
      show Steps p.tables e below (T65.setTop (mkF m 43 #[.val (.ref a1), .val (.ref c1), .val (.int (((((0 : Int32) + x0) + x1) + x2) + x3)), .val (.ref la), .val (.int (3 : Int32))] [(.ref c1)])) _
      refine XS.iload X65.here hx rfl (hb hby d_prog_55_method_1_code_43) rfl ?_
      show Steps p.tables e below (T65.setTop (mkF m 45 #[.val (.ref a1), .val (.ref c1), .val (.int (((((0 : Int32) + x0) + x1) + x2) + x3)), .val (.ref la), .val (.int (3 : Int32))] [(.int (3 : Int32)), (.ref c1)])) _
      refine X65.iaload hx (j := (3 : Int32)) (v := (.int x3)) (by rw [e65]; exact Ar112.1) (State.isArrayOf_alike hZ.alike Ar112.2.1) Ar112.2.2 hin112 hat112 (g := (mkF m 45 #[.val (.ref a1), .val (.ref c1), .val (.int (((((0 : Int32) + x0) + x1) + x2) + x3)), .val (.ref la), .val (.int (3 : Int32))] [(.int (3 : Int32)), (.ref c1)])) rfl rfl (hb hby d_prog_55_method_1_code_45) _ ?_
      show Steps p.tables e below (T65.setTop (mkF m 46 #[.val (.ref a1), .val (.ref c1), .val (.int (((((0 : Int32) + x0) + x1) + x2) + x3)), .val (.ref la), .val (.int (3 : Int32))] [(.int x3)])) _
      refine XS.ifYes X65.here hx rfl (pc0 := 46) (pc' := 61) rfl (hb hby d_prog_55_method_1_code_46) rfl ((if0 _ _).trans (flt (hc3 : ¬ ((0 : Int32) < x3))).2.2.2) (by decide) (by decide) ?_
      show Steps p.tables e below (T65.setTop (mkF m 61 #[.val (.ref a1), .val (.ref c1), .val (.int (((((0 : Int32) + x0) + x1) + x2) + x3)), .val (.ref la), .val (.int (3 : Int32))] [])) _
      refine XS.iinc X65.here hx rfl (hb hby d_prog_55_method_1_code_61) rfl (l' := #[.val (.ref a1), .val (.ref c1), .val (.int (((((0 : Int32) + x0) + x1) + x2) + x3)), .val (.ref la), .val (.int (4 : Int32))]) rfl ?_
      show Steps p.tables e below (T65.setTop (mkF m 64 #[.val (.ref a1), .val (.ref c1), .val (.int (((((0 : Int32) + x0) + x1) + x2) + x3)), .val (.ref la), .val (.int (4 : Int32))] [])) _
      refine XS.goto X65.here hx rfl (pc0 := 64) (pc' := 28) rfl (hb hby d_prog_55_method_1_code_64) (by decide) (by decide) ?_
      exact k
  have PL3 : Keep h0 h89 [a1] := P21.trans KS89 (allS (Or.inr sz_la) all0)
  have A114 : Arv Z h89 c1 kc .int (4 : Int32) [.int x0, .int x1, .int x2, .int x3] (.int (0 : Int32)) := (A28.keep KS89 (ninS ne_c1_la nin0))
  obtain ⟨cl113, Ar113, qk113, Sz113, Nz113, Ha113, Ga113⟩ := id A114
  have F115 : Fld Z h89 a1 "com/example/inkcap/inkcap/lexicon/WordCategories" "senseCount" "I" u2 := (F26.keep KS89 (ninS ne_a1_la nin0))
  have E116 : Exa Z h89 a1 "com/example/inkcap/inkcap/lexicon/WordCategories" := (E22.keep KS89)
  obtain ⟨T117, h117, X117, e117, W117, st117⟩ := putF X89 hx hZ hown (host := "") (Or.inl (hw _ (List.mem_of_getElem? (i := 88) rfl))) Via.refl e89 F115 E116 (Or.inr ⟨(hw _ (List.mem_of_getElem? (i := 89) rfl)), rfl, hnm⟩) (hw _ (List.mem_of_getElem? (i := 3) rfl)) (ty := .int) (by decide) rfl rfl (g := (mkF m 69 #[.val (.ref a1), .val (.ref c1), .val (.int (((((0 : Int32) + x0) + x1) + x2) + x3)), .val (.ref la), .val (.int (4 : Int32))] [(.int (((((0 : Int32) + x0) + x1) + x2) + x3)), (.ref a1)])) rfl rfl (hb hby d_prog_55_method_1_code_69)
  have P118 : Keep h0 h117 [a1] := PL3.wr W117 (Or.inl (List.mem_of_getElem? (i := 0) rfl))
  have F119 : Fld Z h117 a1 "com/example/inkcap/inkcap/lexicon/WordCategories" "senseCount" "I" (.int (((((0 : Int32) + x0) + x1) + x2) + x3)) := Fld.same W117 F115
  have N117 := Fr.snoc X117 N89 pg4
  have E121 : Exa Z h117 la "java/util/ArrayList" := (Exa.wr W117 fE3)
  obtain ⟨v120, vm120, ⟨T120, L120, k120, n120⟩, hW120, X120, ⟨Dc120, fc120, fl120, hv120, -, -, hk120, l120, y120, z120⟩, st120⟩ := Jvm.LawKit.callS X117 hx (y := (⟨"java/util/Collections", "unmodifiableList", "(Ljava/util/List;)Ljava/util/List;"⟩ : MethodName)) hown (mvT hZ (hw _ (List.mem_of_getElem? (i := 90) rfl))) (mvT hZ (hw _ (List.mem_of_getElem? (i := 91) rfl))) (mvT hZ (hw _ (List.mem_of_getElem? (i := 92) rfl))) (mvT hZ (hw _ (List.mem_of_getElem? (i := 93) rfl))) (by decide) (Jvm.Free.ULB.Unm.pays "java/util/ArrayList" la mA mL mR 1 (own_tab hw hZ) (mvT hZ (hw _ (List.mem_of_getElem? (i := 92) rfl))) (by decide) (by decide)) (g := (mkF m 74 #[.val (.ref a1), .val (.ref c1), .val (.int (((((0 : Int32) + x0) + x1) + x2) + x3)), .val (.ref la), .val (.int (4 : Int32))] [(.ref la), (.ref a1)])) rfl (by rw [hml]; rfl) (argsL := [(.ref la)]) (rest := [(.ref a1)]) (lenOf pd_28Ljava2futil2fList3b29Ljava2futil2fList3b rfl) rfl (by show 2 * 0 + _ ≤ _; exact Nat.le_of_eq rfl) (hb hby d_prog_55_method_1_code_74) (fun vm1 hW1 => ⟨(by decide : 6 + 1 ≤ _), (by decide : 47 + 2 ≤ _), own_P (wtrans (U := T117.setVm vm1) hZ hW1).alike e117 E121 hmA hmL hmR (hw _ (List.mem_of_getElem? (i := 109) rfl))⟩)
  dsimp only [Pt.U, Pt.locs, Pt.cells, Pt.slots] at X120 l120 y120 z120 st120 hv120 hk120
  subst l120 y120 z120 hv120
  have E120 : Ext h117 T120.heap := by have q := own_ext hk120; rw [show (T117.setVm vm120).heap = h117 from e117] at q; exact q
  obtain ⟨bu, g120⟩ : ∃ z, z = (T117.setVm vm120).heap.size := ⟨_, rfl⟩
  rw [← g120] at st120
  have P122 : Keep h0 T120.heap [a1] := P118.ext E120
  have F123 : Fld Z T120.heap a1 "com/example/inkcap/inkcap/lexicon/WordCategories" "categories" "Ljava/util/List;" u3 := (Fld.ext E120 (Fld.other W117 (F27.keep KS89 (ninS ne_a1_la nin0)) (Or.inr (slot_ne (t := (.object "java/util/List")) (t' := .int) (C := "com/example/inkcap/inkcap/lexicon/WordCategories") (a0 := a0) (Or.inr (hw _ (List.mem_of_getElem? (i := 133) rfl))) (Or.inr (hw _ (List.mem_of_getElem? (i := 89) rfl))) (by decide) (by decide) (by decide)))))
  have E124 : Exa Z T120.heap a1 "com/example/inkcap/inkcap/lexicon/WordCategories" := (Exa.ext E120 (Exa.wr W117 E116))
  obtain ⟨T125, h125, X125, e125, W125, st125⟩ := putF X120 hx hZ hown (host := "") (Or.inl (hw _ (List.mem_of_getElem? (i := 132) rfl))) Via.refl rfl F123 E124 (Or.inr ⟨(hw _ (List.mem_of_getElem? (i := 133) rfl)), rfl, hnm⟩) (hw _ (List.mem_of_getElem? (i := 3) rfl)) (ty := (.object "java/util/List")) (by decide) rfl rfl (g := (mkF m 77 #[.val (.ref a1), .val (.ref c1), .val (.int (((((0 : Int32) + x0) + x1) + x2) + x3)), .val (.ref la), .val (.int (4 : Int32))] [(.ref bu), (.ref a1)])) rfl rfl (hb hby d_prog_55_method_1_code_77)
  have P126 : Keep h0 h125 [a1] := P122.wr W125 (Or.inl (List.mem_of_getElem? (i := 0) rfl))
  have F127 : Fld Z h125 a1 "com/example/inkcap/inkcap/lexicon/WordCategories" "categories" "Ljava/util/List;" (.ref bu) := Fld.same W125 F123
  have N125 := Fr.snoc X125 N117 pg4
  have E128 : Exa Z h125 a1 "com/example/inkcap/inkcap/lexicon/WordCategories" := (Exa.wr W125 E124)
  have F129 : Fld Z h125 a1 "com/example/inkcap/inkcap/lexicon/WordCategories" "senseCounts" "[I" (.ref bc) := (Fld.other W125 (Fld.ext E120 (Fld.other W117 (F25.keep KS89 (ninS ne_a1_la nin0)) (Or.inr (slot_ne (t := (.array .int)) (t' := .int) (C := "com/example/inkcap/inkcap/lexicon/WordCategories") (a0 := a0) (Or.inr (hw _ (List.mem_of_getElem? (i := 21) rfl))) (Or.inr (hw _ (List.mem_of_getElem? (i := 89) rfl))) (by decide) (by decide) (by decide))))) (Or.inr (slot_ne (t := (.array .int)) (t' := (.object "java/util/List")) (C := "com/example/inkcap/inkcap/lexicon/WordCategories") (a0 := a0) (Or.inr (hw _ (List.mem_of_getElem? (i := 21) rfl))) (Or.inr (hw _ (List.mem_of_getElem? (i := 133) rfl))) (by decide) (by decide) (by decide))))
  have F130 : Fld Z h125 a1 "com/example/inkcap/inkcap/lexicon/WordCategories" "senseCount" "I" (.int (((((0 : Int32) + x0) + x1) + x2) + x3)) := (Fld.other W125 (Fld.ext E120 F119) (Or.inr (slot_ne (t := .int) (t' := (.object "java/util/List")) (C := "com/example/inkcap/inkcap/lexicon/WordCategories") (a0 := a0) (Or.inr (hw _ (List.mem_of_getElem? (i := 89) rfl))) (Or.inr (hw _ (List.mem_of_getElem? (i := 133) rfl))) (by decide) (by decide) (by decide))))
  have A131 : Arv Z h125 bc kc .int (4 : Int32) [.int x0, .int x1, .int x2, .int x3] (.int (0 : Int32)) := ((((A29.keep KS89 (ninS ne_bc_la nin0)).other W117 ne_a1_bc.symm).ext E120).other W125 ne_a1_bc.symm)
  obtain ⟨fs, hr, hrun, hended, hW, hsame⟩ := X125.leave (v := none) (fun _ => rfl)
  refine ⟨_, _, pre0 _ ?_, hrun, hended, _, _, rfl, ?_, ⟨_, rfl⟩, hW, hsame.mono (by decide) (by decide)⟩
  · show Steps p.tables e below (s₁.setTop (mkF m 0 #[.val (.ref a1), .val (.ref c1), .unset, .unset, .unset] [])) _
    refine XS.aloadN X0.here hx rfl (hb hby d_prog_55_method_1_code_0) rfl rfl ?_
    show Steps p.tables e below (s₁.setTop (mkF m 1 #[.val (.ref a1), .val (.ref c1), .unset, .unset, .unset] [(.ref a1)])) _
    refine st1 _ ?_
    show Steps p.tables e below (T1.setTop (mkF m 4 #[.val (.ref a1), .val (.ref c1), .unset, .unset, .unset] [])) _
    refine XS.aloadN X1.here hx rfl (hb hby d_prog_55_method_1_code_4) rfl rfl ?_
    show Steps p.tables e below (T1.setTop (mkF m 5 #[.val (.ref a1), .val (.ref c1), .unset, .unset, .unset] [(.ref a1)])) _
    refine XS.aloadN X1.here hx rfl (hb hby d_prog_55_method_1_code_5) rfl rfl ?_
    show Steps p.tables e below (T1.setTop (mkF m 6 #[.val (.ref a1), .val (.ref c1), .unset, .unset, .unset] [(.ref c1), (.ref a1)])) _
    refine st2 _ ?_
    show Steps p.tables e below (T2.setTop (mkF m 9 #[.val (.ref a1), .val (.ref c1), .unset, .unset, .unset] [(.ref bc), (.ref a1)])) _
    refine st5 _ ?_
    show Steps p.tables e below (T5.setTop (mkF m 12 #[.val (.ref a1), .val (.ref c1), .unset, .unset, .unset] [(.ref bc), (.ref a1)])) _
    refine st8 _ ?_
    show Steps p.tables e below (T8.setTop (mkF m 15 #[.val (.ref a1), .val (.ref c1), .unset, .unset, .unset] [])) _
    refine XS.iconst X8.here hx rfl (hb hby d_prog_55_method_1_code_15) ?_
    show Steps p.tables e below (T8.setTop (mkF m 16 #[.val (.ref a1), .val (.ref c1), .unset, .unset, .unset] [(.int (0 : Int32))])) _
    refine XS.istoreN X8.here hx rfl (hb hby d_prog_55_method_1_code_16) rfl (l' := #[.val (.ref a1), .val (.ref c1), .val (.int (0 : Int32)), .unset, .unset]) rfl ?_
    show Steps p.tables e below (T8.setTop (mkF m 17 #[.val (.ref a1), .val (.ref c1), .val (.int (0 : Int32)), .unset, .unset] [])) _
    refine st11 _ ?_
    show Steps p.tables e below (T11.setTop (mkF m 20 #[.val (.ref a1), .val (.ref c1), .val (.int (0 : Int32)), .unset, .unset] [(.ref la)])) _
    refine XS.dup X11.here hx rfl (hb hby d_prog_55_method_1_code_20) rfl rfl ?_
    show Steps p.tables e below (T11.setTop (mkF m 21 #[.val (.ref a1), .val (.ref c1), .val (.int (0 : Int32)), .unset, .unset] [(.ref la), (.ref la)])) _
    refine st20.trans ?_
    show Steps p.tables e below (T20.setTop (mkF m 24 #[.val (.ref a1), .val (.ref c1), .val (.int (0 : Int32)), .unset, .unset] [(.ref la)])) _
    refine XS.astoreN X20.here hx rfl (hb hby d_prog_55_method_1_code_24) rfl rfl (l' := #[.val (.ref a1), .val (.ref c1), .val (.int (0 : Int32)), .val (.ref la), .unset]) rfl ?_
    show Steps p.tables e below (T20.setTop (mkF m 25 #[.val (.ref a1), .val (.ref c1), .val (.int (0 : Int32)), .val (.ref la), .unset] [])) _
    refine XS.iconst X20.here hx rfl (hb hby d_prog_55_method_1_code_25) ?_
    show Steps p.tables e below (T20.setTop (mkF m 26 #[.val (.ref a1), .val (.ref c1), .val (.int (0 : Int32)), .val (.ref la), .unset] [(.int (0 : Int32))])) _
    refine XS.istore X20.here hx rfl (hb hby d_prog_55_method_1_code_26) rfl (l' := #[.val (.ref a1), .val (.ref c1), .val (.int (0 : Int32)), .val (.ref la), .val (.int (0 : Int32))]) rfl ?_
    show Steps p.tables e below (T20.setTop (mkF m 28 #[.val (.ref a1), .val (.ref c1), .val (.int (0 : Int32)), .val (.ref la), .val (.int (0 : Int32))] [])) _
    refine mg30 _ ?_
    show Steps p.tables e below (T30.setTop (mkF m 28 #[.val (.ref a1), .val (.ref c1), .val (.int ((0 : Int32) + x0)), .val (.ref la), .val (.int (1 : Int32))] [])) _
    refine mg41 _ ?_
    show Steps p.tables e below (T41.setTop (mkF m 28 #[.val (.ref a1), .val (.ref c1), .val (.int (((0 : Int32) + x0) + x1)), .val (.ref la), .val (.int (2 : Int32))] [])) _
    refine mg65 _ ?_
    show Steps p.tables e below (T65.setTop (mkF m 28 #[.val (.ref a1), .val (.ref c1), .val (.int ((((0 : Int32) + x0) + x1) + x2)), .val (.ref la), .val (.int (3 : Int32))] [])) _
    refine mg89 _ ?_
    show Steps p.tables e below (T89.setTop (mkF m 28 #[.val (.ref a1), .val (.ref c1), .val (.int (((((0 : Int32) + x0) + x1) + x2) + x3)), .val (.ref la), .val (.int (4 : Int32))] [])) _
    refine XS.iload X89.here hx rfl (hb hby d_prog_55_method_1_code_28) rfl ?_
    show Steps p.tables e below (T89.setTop (mkF m 30 #[.val (.ref a1), .val (.ref c1), .val (.int (((((0 : Int32) + x0) + x1) + x2) + x3)), .val (.ref la), .val (.int (4 : Int32))] [(.int (4 : Int32))])) _
    refine XS.aloadN X89.here hx rfl (hb hby d_prog_55_method_1_code_30) rfl rfl ?_
    show Steps p.tables e below (T89.setTop (mkF m 31 #[.val (.ref a1), .val (.ref c1), .val (.int (((((0 : Int32) + x0) + x1) + x2) + x3)), .val (.ref la), .val (.int (4 : Int32))] [(.ref c1), (.int (4 : Int32))])) _
    refine X89.arraylength hx (by rw [e89]; exact Ar113.1) (State.isArrayOf_alike hZ.alike Ar113.2.1) (g := (mkF m 31 #[.val (.ref a1), .val (.ref c1), .val (.int (((((0 : Int32) + x0) + x1) + x2) + x3)), .val (.ref la), .val (.int (4 : Int32))] [(.ref c1), (.int (4 : Int32))])) rfl rfl (hb hby d_prog_55_method_1_code_31) _ ?_
    rw [len_of Sz113 Nz113]
    show Steps p.tables e below (T89.setTop (mkF m 32 #[.val (.ref a1), .val (.ref c1), .val (.int (((((0 : Int32) + x0) + x1) + x2) + x3)), .val (.ref la), .val (.int (4 : Int32))] [(.int (4 : Int32)), (.int (4 : Int32))])) _
    refine XS.icmpYes X89.here hx rfl (pc0 := 32) (pc' := 67) rfl (hb hby d_prog_55_method_1_code_32) rfl (flt (by decide : ¬ ((4 : Int32) < (4 : Int32)))).2.1 (by decide) (by decide) ?_
    show Steps p.tables e below (T89.setTop (mkF m 67 #[.val (.ref a1), .val (.ref c1), .val (.int (((((0 : Int32) + x0) + x1) + x2) + x3)), .val (.ref la), .val (.int (4 : Int32))] [])) _
    refine XS.aloadN X89.here hx rfl (hb hby d_prog_55_method_1_code_67) rfl rfl ?_
    show Steps p.tables e below (T89.setTop (mkF m 68 #[.val (.ref a1), .val (.ref c1), .val (.int (((((0 : Int32) + x0) + x1) + x2) + x3)), .val (.ref la), .val (.int (4 : Int32))] [(.ref a1)])) _
    refine XS.iloadN X89.here hx rfl (hb hby d_prog_55_method_1_code_68) rfl ?_
    show Steps p.tables e below (T89.setTop (mkF m 69 #[.val (.ref a1), .val (.ref c1), .val (.int (((((0 : Int32) + x0) + x1) + x2) + x3)), .val (.ref la), .val (.int (4 : Int32))] [(.int (((((0 : Int32) + x0) + x1) + x2) + x3)), (.ref a1)])) _
    refine st117 _ ?_
    show Steps p.tables e below (T117.setTop (mkF m 72 #[.val (.ref a1), .val (.ref c1), .val (.int (((((0 : Int32) + x0) + x1) + x2) + x3)), .val (.ref la), .val (.int (4 : Int32))] [])) _
    refine XS.aloadN X117.here hx rfl (hb hby d_prog_55_method_1_code_72) rfl rfl ?_
    show Steps p.tables e below (T117.setTop (mkF m 73 #[.val (.ref a1), .val (.ref c1), .val (.int (((((0 : Int32) + x0) + x1) + x2) + x3)), .val (.ref la), .val (.int (4 : Int32))] [(.ref a1)])) _
    refine XS.aloadN X117.here hx rfl (hb hby d_prog_55_method_1_code_73) rfl rfl ?_
    show Steps p.tables e below (T117.setTop (mkF m 74 #[.val (.ref a1), .val (.ref c1), .val (.int (((((0 : Int32) + x0) + x1) + x2) + x3)), .val (.ref la), .val (.int (4 : Int32))] [(.ref la), (.ref a1)])) _
    refine st120 _ ?_
    show Steps p.tables e below (T120.setTop (mkF m 77 #[.val (.ref a1), .val (.ref c1), .val (.int (((((0 : Int32) + x0) + x1) + x2) + x3)), .val (.ref la), .val (.int (4 : Int32))] [(.ref bu), (.ref a1)])) _
    refine st125 _ ?_
    show Steps p.tables e below (T125.setTop (mkF m 80 #[.val (.ref a1), .val (.ref c1), .val (.int (((((0 : Int32) + x0) + x1) + x2) + x3)), .val (.ref la), .val (.int (4 : Int32))] [])) _
    exact X125.returnOut hx Bd.returns (hb hby d_prog_55_method_1_code_80) hr
  · show Q_wci Z a1 c1 kc x0 x1 x2 x3 dce kd ca cl bi0 bi1 bi2 bi3 mA mL mR u1 u2 u3 h0 n0 _ T125.heap _
    rw [e125]
    exact ⟨bc, rfl, N125, P126, sz_bc, ge_bc, E128, F129, F130, A131⟩
theorem own_nd (x : Int32) {t : Int32} (h : ¬ (t = (0 : Int32))) : NoNaN64 (FP.ddiv (FP.i2d x) (FP.i2d t)) := ddiv_out (i2d_fin x).noNaN (i2d_fin t) (i2d_nz h)
theorem own_z0 : Fin64 FP.dconst0 := by unfold Fin64 FP.dconst0; decide
theorem own_dr (x t : Int32) : ∃ dr : UInt64, ((t = (0 : Int32) ∧ dr = FP.dconst0) ∨ (¬ (t = (0 : Int32)) ∧ dr = FP.ddiv (FP.i2d x) (FP.i2d t))) ∧ NoNaN64 dr := by
  by_cases h : t = (0 : Int32)
  · exact ⟨_, Or.inl ⟨h, rfl⟩, own_z0.noNaN⟩
  · exact ⟨_, Or.inr ⟨h, rfl⟩, own_nd x h⟩
theorem own_pick (x0 x1 x2 x3 : Int32) {j : Int32} (hj : 0 ≤ j.toInt ∧ j.toInt ≤ 3) : ∃ xv : Int32, (¬ (j < (0 : Int32)) ∧ j < (4 : Int32)) ∧ ([.int x0, .int x1, .int x2, .int x3] : List Value).getD (j).toNatClampNeg (.int (0 : Int32)) = .int xv ∧
    (j = (0 : Int32) → x0 = xv) ∧ (j = (1 : Int32) → x1 = xv) ∧ (j = (2 : Int32) → x2 = xv) ∧ (¬ (j = (0 : Int32)) → ¬ (j = (1 : Int32)) → ¬ (j = (2 : Int32)) → x3 = xv) := by
  have hc : j.toInt = 0 ∨ j.toInt = 1 ∨ j.toInt = 2 ∨ j.toInt = 3 := by omega
  rcases hc with h | h | h | h
  · obtain rfl : j = 0 := Int32.toInt_inj.mp (by rw [h]; decide)
    exact ⟨x0, by decide, rfl, fun _ => rfl, fun q => absurd q (by decide), fun q => absurd q (by decide), fun q => absurd rfl q⟩
  · obtain rfl : j = 1 := Int32.toInt_inj.mp (by rw [h]; decide)
    exact ⟨x1, by decide, rfl, fun q => absurd q (by decide), fun _ => rfl, fun q => absurd q (by decide), fun _ q => absurd rfl q⟩
  · obtain rfl : j = 2 := Int32.toInt_inj.mp (by rw [h]; decide)
    exact ⟨x2, by decide, rfl, fun q => absurd q (by decide), fun q => absurd q (by decide), fun _ => rfl, fun _ _ q => absurd rfl q⟩
  · obtain rfl : j = 3 := Int32.toInt_inj.mp (by rw [h]; decide)
    exact ⟨x3, by decide, rfl, fun q => absurd q (by decide), fun q => absurd q (by decide), fun q => absurd q (by decide), fun _ _ _ => rfl⟩
theorem own_cat (q : Int32) : 0 ≤ (q &&& (3 : Int32)).toInt ∧ (q &&& (3 : Int32)).toInt ≤ 3 := by
  have h := c_and q (3 : Int32) (by decide); rw [show (3 : Int32).toInt = 3 by decide] at h; exact h
theorem d_prog_55_method_4_code_0 : decode prog_55_method_4_code 0 = .ok (.aload_n 0, 1) := by decide +kernel
theorem d_prog_55_method_4_code_1 : decode prog_55_method_4_code 1 = .ok (.getfield 33, 3) := by decide +kernel
theorem d_prog_55_method_4_code_4 : decode prog_55_method_4_code 4 = .ok (.ifCond .ne 7, 3) := by decide +kernel
theorem d_prog_55_method_4_code_7 : decode prog_55_method_4_code 7 = .ok (.dconst 0, 1) := by decide +kernel
theorem d_prog_55_method_4_code_8 : decode prog_55_method_4_code 8 = .ok (.goto 16, 3) := by decide +kernel
theorem d_prog_55_method_4_code_24 : decode prog_55_method_4_code 24 = .ok (.dreturn, 1) := by decide +kernel
theorem ef_gp0 (m : MethodId) (x0 : Addr) (x1 : Int32) : entryFrame m #[(.ref x0), (.int x1)] 2 = mkF m 0 #[.val (.ref x0), .val (.int x1)] [] := by first | (simp [entryFrame, mkF, argsToLocals, Value.category]; done) | rfl
def Q_gp0 (Z : State) (a1 : Addr) (k1 : Int32) (tt : Int32) (cc : Addr) (kc : ClassId) (x0 : Int32) (x1 : Int32) (x2 : Int32) (x3 : Int32) (xv : Int32) (dr : UInt64) (h0 : Heap) (n0 : Nat) (v : Option Value) (h : Heap) (L : List Loc) : Prop := v = some (.double dr) ∧ Fr n0 L ∧ h = h0
set_option maxRecDepth 65536 in
set_option maxHeartbeats 40000000 in
theorem rm_gp0 (l : Launch) (Z : State) (a0 : Array Value) (hw : ∀ d ∈ tables_1, d.before a0 Z = true) (ws : List Jvm.Cond) (a1 : Addr) (k1 : Int32) (tt : Int32) (cc : Addr) (kc : ClassId) (x0 : Int32) (x1 : Int32) (x2 : Int32) (x3 : Int32) (xv : Int32) (dr : UInt64) (h0 : Heap) (n0 : Nat) (Z0 : n0 ≤ h0.size) (pF0 : Fld Z h0 a1 "com/example/inkcap/inkcap/lexicon/WordCategories" "senseCount" "I" (.int tt)) (pF1 : Fld Z h0 a1 "com/example/inkcap/inkcap/lexicon/WordCategories" "senseCounts" "[I" (.ref cc)) (pA2 : Arv Z h0 cc kc .int (4 : Int32) [.int x0, .int x1, .int x2, .int x3] (.int (0 : Int32))) (hinb : ¬ (k1 < (0 : Int32)) ∧ k1 < (4 : Int32)) (hget : ([.int x0, .int x1, .int x2, .int x3] : List Value).getD (k1).toNatClampNeg (.int (0 : Int32)) = .int xv) (hc : tt = (0 : Int32)) (hrr : dr = FP.dconst0) :
    MetFree l (⟨"com/example/inkcap/inkcap/lexicon/WordCategories", "getProbability", "(I)D"⟩ : MethodName) (head1 (Jvm.Cond.code (⟨"com/example/inkcap/inkcap/lexicon/WordCategories", "getProbability", "(I)D"⟩ : MethodName) prog_55_method_4_code 2 (some .double) :: ws) ({ frames := 0, cells := 0, slots := 0, locals := 0 } : Room)) (fun a U => a = #[(.ref a1), (.int k1)] ∧ Z.Warmed39 U.vm ∧ U.heap = h0) (fun _ _ _ _ _ => True) (fun _ U o U' => ∃ v L, o = .returned v ∧ Q_gp0 Z a1 k1 tt cc kc x0 x1 x2 x3 xv dr h0 n0 v U'.heap L ∧ FrameEnd U o U' L ({ frames := 0, cells := 0, slots := 0, locals := 0 } : Room).cells ({ frames := 0, cells := 0, slots := 0, locals := 0 } : Room).slots) := by
  refine MetFree.of_bodySF (plainFor_of_name pn_com_example_inkcap_inkcap_lexicon_WordCategories) hisR ?_
  intro p e s m args below meth c s₁ Bd hml0 hP hK
  obtain ⟨rfl, hZ, hh⟩ := hP
  have hx := Bd.exec
  have hby := Bd.bytes
  have hml : c.maxLocals = 2 := hml0
  have hown : s.vm.findClass "com/example/inkcap/inkcap/lexicon/WordCategories" = some m.cls := findClass_of_methodNamed Bd.named
  have hnm := (name_of_methodNamed Bd.named Bd.method).1
  have X0 : Stand p l e ({ frames := 0, cells := 0, slots := 0, locals := 0 } : Room) s m #[(.ref a1), (.int k1)] below meth c s₁ [] 0 0 := Stand.of_body Bd
  have e0 : s₁.heap = h0 := by rw [← hh, Bd.state]; rfl
  have N0 := Fr.nil n0
  have P0 : Keep h0 h0 [] := Keep.refl _ _
  have pre0 : ∀ t, Steps p.tables e below (s₁.setTop (mkF m 0 #[.val (.ref a1), .val (.int k1)] [])) t → Steps p.tables e below (s₁.setTop (entryFrame m #[(.ref a1), (.int k1)] 2)) t := fun t k => castTop (ef_gp0 m a1 k1) k
  obtain ⟨T1, X1, e1, st1⟩ := getF X0 hx hZ hown (host := "") (Or.inl (hw _ (List.mem_of_getElem? (i := 88) rfl))) Via.refl e0 pF0 (g := (mkF m 1 #[.val (.ref a1), .val (.int k1)] [(.ref a1)])) rfl rfl (hb hby d_prog_55_method_4_code_1)
  obtain ⟨fs, hr, hrun, hended, hW, hsame⟩ := X1.leave (v := some (.double FP.dconst0)) (fun h => by rw [Bd.returns] at h; cases h)
  refine ⟨_, _, pre0 _ ?_, hrun, hended, _, _, rfl, ?_, ⟨_, rfl⟩, hW, hsame.mono (by decide) (by decide)⟩
  · show Steps p.tables e below (s₁.setTop (mkF m 0 #[.val (.ref a1), .val (.int k1)] [])) _
    refine XS.aloadN X0.here hx rfl (hb hby d_prog_55_method_4_code_0) rfl rfl ?_
    show Steps p.tables e below (s₁.setTop (mkF m 1 #[.val (.ref a1), .val (.int k1)] [(.ref a1)])) _
    refine st1 _ ?_
    show Steps p.tables e below (T1.setTop (mkF m 4 #[.val (.ref a1), .val (.int k1)] [(.int tt)])) _
    refine XS.ifNo X1.here hx rfl (hb hby d_prog_55_method_4_code_4) rfl ((if0 _ _).trans (teq (hc : tt = (0 : Int32))).2) ?_
    show Steps p.tables e below (T1.setTop (mkF m 7 #[.val (.ref a1), .val (.int k1)] [])) _
    refine XS.dconst0 X1.here hx rfl (hb hby d_prog_55_method_4_code_7) rfl ?_
    show Steps p.tables e below (T1.setTop (mkF m 8 #[.val (.ref a1), .val (.int k1)] [(.double FP.dconst0)])) _
    refine XS.goto X1.here hx rfl (pc0 := 8) (pc' := 24) rfl (hb hby d_prog_55_method_4_code_8) (by decide) (by decide) ?_
    show Steps p.tables e below (T1.setTop (mkF m 24 #[.val (.ref a1), .val (.int k1)] [(.double FP.dconst0)])) _
    exact retOut X1 hx (t := .double) (i := .dreturn) Bd.returns rfl (Or.inr (Or.inr (Or.inl ⟨rfl, rfl, _, rfl⟩))) (hb hby d_prog_55_method_4_code_24) hr
  · show Q_gp0 Z a1 k1 tt cc kc x0 x1 x2 x3 xv dr h0 n0 _ T1.heap _
    rw [e1]
    exact ⟨(by rw [hrr]), N0, rfl⟩
theorem d_prog_55_method_4_code_11 : decode prog_55_method_4_code 11 = .ok (.aload_n 0, 1) := by decide +kernel
theorem d_prog_55_method_4_code_12 : decode prog_55_method_4_code 12 = .ok (.getfield 13, 3) := by decide +kernel
theorem d_prog_55_method_4_code_15 : decode prog_55_method_4_code 15 = .ok (.iload_n 1, 1) := by decide +kernel
theorem d_prog_55_method_4_code_16 : decode prog_55_method_4_code 16 = .ok (.iaload, 1) := by decide +kernel
theorem d_prog_55_method_4_code_17 : decode prog_55_method_4_code 17 = .ok (.i2d, 1) := by decide +kernel
theorem d_prog_55_method_4_code_18 : decode prog_55_method_4_code 18 = .ok (.aload_n 0, 1) := by decide +kernel
theorem d_prog_55_method_4_code_19 : decode prog_55_method_4_code 19 = .ok (.getfield 33, 3) := by decide +kernel
theorem d_prog_55_method_4_code_22 : decode prog_55_method_4_code 22 = .ok (.i2d, 1) := by decide +kernel
theorem d_prog_55_method_4_code_23 : decode prog_55_method_4_code 23 = .ok (.ddiv, 1) := by decide +kernel
theorem ef_gp1 (m : MethodId) (x0 : Addr) (x1 : Int32) : entryFrame m #[(.ref x0), (.int x1)] 2 = mkF m 0 #[.val (.ref x0), .val (.int x1)] [] := by first | (simp [entryFrame, mkF, argsToLocals, Value.category]; done) | rfl
set_option maxRecDepth 65536 in
set_option maxHeartbeats 40000000 in
theorem rm_gp1 (l : Launch) (Z : State) (a0 : Array Value) (hw : ∀ d ∈ tables_1, d.before a0 Z = true) (ws : List Jvm.Cond) (a1 : Addr) (k1 : Int32) (tt : Int32) (cc : Addr) (kc : ClassId) (x0 : Int32) (x1 : Int32) (x2 : Int32) (x3 : Int32) (xv : Int32) (dr : UInt64) (h0 : Heap) (n0 : Nat) (Z0 : n0 ≤ h0.size) (pF0 : Fld Z h0 a1 "com/example/inkcap/inkcap/lexicon/WordCategories" "senseCount" "I" (.int tt)) (pF1 : Fld Z h0 a1 "com/example/inkcap/inkcap/lexicon/WordCategories" "senseCounts" "[I" (.ref cc)) (pA2 : Arv Z h0 cc kc .int (4 : Int32) [.int x0, .int x1, .int x2, .int x3] (.int (0 : Int32))) (hinb : ¬ (k1 < (0 : Int32)) ∧ k1 < (4 : Int32)) (hget : ([.int x0, .int x1, .int x2, .int x3] : List Value).getD (k1).toNatClampNeg (.int (0 : Int32)) = .int xv) (hc : ¬ (tt = (0 : Int32))) (hrr : dr = FP.ddiv (FP.i2d xv) (FP.i2d tt)) :
    MetFree l (⟨"com/example/inkcap/inkcap/lexicon/WordCategories", "getProbability", "(I)D"⟩ : MethodName) (head1 (Jvm.Cond.code (⟨"com/example/inkcap/inkcap/lexicon/WordCategories", "getProbability", "(I)D"⟩ : MethodName) prog_55_method_4_code 2 (some .double) :: ws) ({ frames := 0, cells := 0, slots := 0, locals := 0 } : Room)) (fun a U => a = #[(.ref a1), (.int k1)] ∧ Z.Warmed39 U.vm ∧ U.heap = h0) (fun _ _ _ _ _ => True) (fun _ U o U' => ∃ v L, o = .returned v ∧ Q_gp0 Z a1 k1 tt cc kc x0 x1 x2 x3 xv dr h0 n0 v U'.heap L ∧ FrameEnd U o U' L ({ frames := 0, cells := 0, slots := 0, locals := 0 } : Room).cells ({ frames := 0, cells := 0, slots := 0, locals := 0 } : Room).slots) := by
  refine MetFree.of_bodySF (plainFor_of_name pn_com_example_inkcap_inkcap_lexicon_WordCategories) hisR ?_
  intro p e s m args below meth c s₁ Bd hml0 hP hK
  obtain ⟨rfl, hZ, hh⟩ := hP
  have hx := Bd.exec
  have hby := Bd.bytes
  have hml : c.maxLocals = 2 := hml0
  have hown : s.vm.findClass "com/example/inkcap/inkcap/lexicon/WordCategories" = some m.cls := findClass_of_methodNamed Bd.named
  have hnm := (name_of_methodNamed Bd.named Bd.method).1
  have X0 : Stand p l e ({ frames := 0, cells := 0, slots := 0, locals := 0 } : Room) s m #[(.ref a1), (.int k1)] below meth c s₁ [] 0 0 := Stand.of_body Bd
  have e0 : s₁.heap = h0 := by rw [← hh, Bd.state]; rfl
  have N0 := Fr.nil n0
  have P0 : Keep h0 h0 [] := Keep.refl _ _
  have pre0 : ∀ t, Steps p.tables e below (s₁.setTop (mkF m 0 #[.val (.ref a1), .val (.int k1)] [])) t → Steps p.tables e below (s₁.setTop (entryFrame m #[(.ref a1), (.int k1)] 2)) t := fun t k => castTop (ef_gp1 m a1 k1) k
  obtain ⟨T1, X1, e1, st1⟩ := getF X0 hx hZ hown (host := "") (Or.inl (hw _ (List.mem_of_getElem? (i := 88) rfl))) Via.refl e0 pF0 (g := (mkF m 1 #[.val (.ref a1), .val (.int k1)] [(.ref a1)])) rfl rfl (hb hby d_prog_55_method_4_code_1)
  obtain ⟨T2, X2, e2, st2⟩ := getF X1 hx hZ hown (host := "") (Or.inl (hw _ (List.mem_of_getElem? (i := 20) rfl))) Via.refl e1 pF1 (g := (mkF m 12 #[.val (.ref a1), .val (.int k1)] [(.ref a1)])) rfl rfl (hb hby d_prog_55_method_4_code_12)
  obtain ⟨cl3, Ar3, qk3, Sz3, Nz3, Ha3, Ga3⟩ := id pA2
  have hin3 : ¬ (k1 < 0 ∨ cl3.slots.size ≤ (k1).toNatClampNeg) := inb_of Sz3 hinb
  have hat3 : cl3.slots[(k1).toNatClampNeg]? = some (.int xv) := Has.at Ha3 hin3 hget
  obtain ⟨T4, X4, e4, st4⟩ := getF X2 hx hZ hown (host := "") (Or.inl (hw _ (List.mem_of_getElem? (i := 88) rfl))) Via.refl e2 pF0 (g := (mkF m 19 #[.val (.ref a1), .val (.int k1)] [(.ref a1), (.double (FP.i2d xv))])) rfl rfl (hb hby d_prog_55_method_4_code_19)
  obtain ⟨fs, hr, hrun, hended, hW, hsame⟩ := X4.leave (v := some (.double (FP.ddiv (FP.i2d xv) (FP.i2d tt)))) (fun h => by rw [Bd.returns] at h; cases h)
  refine ⟨_, _, pre0 _ ?_, hrun, hended, _, _, rfl, ?_, ⟨_, rfl⟩, hW, hsame.mono (by decide) (by decide)⟩
  · show Steps p.tables e below (s₁.setTop (mkF m 0 #[.val (.ref a1), .val (.int k1)] [])) _
    refine XS.aloadN X0.here hx rfl (hb hby d_prog_55_method_4_code_0) rfl rfl ?_
    show Steps p.tables e below (s₁.setTop (mkF m 1 #[.val (.ref a1), .val (.int k1)] [(.ref a1)])) _
    refine st1 _ ?_
    show Steps p.tables e below (T1.setTop (mkF m 4 #[.val (.ref a1), .val (.int k1)] [(.int tt)])) _
    refine XS.ifYes X1.here hx rfl (pc0 := 4) (pc' := 11) rfl (hb hby d_prog_55_method_4_code_4) rfl ((if0 _ _).trans (feq (hc : ¬ (tt = (0 : Int32)))).2) (by decide) (by decide) ?_
    show Steps p.tables e below (T1.setTop (mkF m 11 #[.val (.ref a1), .val (.int k1)] [])) _
    refine XS.aloadN X1.here hx rfl (hb hby d_prog_55_method_4_code_11) rfl rfl ?_
    show Steps p.tables e below (T1.setTop (mkF m 12 #[.val (.ref a1), .val (.int k1)] [(.ref a1)])) _
    refine st2 _ ?_
    show Steps p.tables e below (T2.setTop (mkF m 15 #[.val (.ref a1), .val (.int k1)] [(.ref cc)])) _
    refine XS.iloadN X2.here hx rfl (hb hby d_prog_55_method_4_code_15) rfl ?_
    show Steps p.tables e below (T2.setTop (mkF m 16 #[.val (.ref a1), .val (.int k1)] [(.int k1), (.ref cc)])) _
    refine X2.iaload hx (j := k1) (v := (.int xv)) (by rw [e2]; exact Ar3.1) (State.isArrayOf_alike hZ.alike Ar3.2.1) Ar3.2.2 hin3 hat3 (g := (mkF m 16 #[.val (.ref a1), .val (.int k1)] [(.int k1), (.ref cc)])) rfl rfl (hb hby d_prog_55_method_4_code_16) _ ?_
    show Steps p.tables e below (T2.setTop (mkF m 17 #[.val (.ref a1), .val (.int k1)] [(.int xv)])) _
    refine XS.i2dS X2.here hx rfl (hb hby d_prog_55_method_4_code_17) rfl rfl ?_
    show Steps p.tables e below (T2.setTop (mkF m 18 #[.val (.ref a1), .val (.int k1)] [(.double (FP.i2d xv))])) _
    refine XS.aloadN X2.here hx rfl (hb hby d_prog_55_method_4_code_18) rfl rfl ?_
    show Steps p.tables e below (T2.setTop (mkF m 19 #[.val (.ref a1), .val (.int k1)] [(.ref a1), (.double (FP.i2d xv))])) _
    refine st4 _ ?_
    show Steps p.tables e below (T4.setTop (mkF m 22 #[.val (.ref a1), .val (.int k1)] [(.int tt), (.double (FP.i2d xv))])) _
    refine XS.i2dS X4.here hx rfl (hb hby d_prog_55_method_4_code_22) rfl rfl ?_
    show Steps p.tables e below (T4.setTop (mkF m 23 #[.val (.ref a1), .val (.int k1)] [(.double (FP.i2d tt)), (.double (FP.i2d xv))])) _
    refine XS.ddivS X4.here hx rfl (hb hby d_prog_55_method_4_code_23) rfl (own_nd xv hc) rfl ?_
    show Steps p.tables e below (T4.setTop (mkF m 24 #[.val (.ref a1), .val (.int k1)] [(.double (FP.ddiv (FP.i2d xv) (FP.i2d tt)))])) _
    exact retOut X4 hx (t := .double) (i := .dreturn) Bd.returns rfl (Or.inr (Or.inr (Or.inl ⟨rfl, rfl, _, rfl⟩))) (hb hby d_prog_55_method_4_code_24) hr
  · show Q_gp0 Z a1 k1 tt cc kc x0 x1 x2 x3 xv dr h0 n0 _ T4.heap _
    rw [e4]
    exact ⟨(by rw [hrr]), N0, rfl⟩
set_option maxRecDepth 65536 in
theorem rm_gprob (l : Launch) (Z : State) (a0 : Array Value) (hw : ∀ d ∈ tables_1, d.before a0 Z = true) (ws : List Jvm.Cond) (a1 : Addr) (k1 : Int32) (tt : Int32) (cc : Addr) (kc : ClassId) (x0 : Int32) (x1 : Int32) (x2 : Int32) (x3 : Int32) (xv : Int32) (dr : UInt64) (h0 : Heap) (n0 : Nat) (Z0 : n0 ≤ h0.size) (pF0 : Fld Z h0 a1 "com/example/inkcap/inkcap/lexicon/WordCategories" "senseCount" "I" (.int tt)) (pF1 : Fld Z h0 a1 "com/example/inkcap/inkcap/lexicon/WordCategories" "senseCounts" "[I" (.ref cc)) (pA2 : Arv Z h0 cc kc .int (4 : Int32) [.int x0, .int x1, .int x2, .int x3] (.int (0 : Int32))) (hinb : ¬ (k1 < (0 : Int32)) ∧ k1 < (4 : Int32)) (hget : ([.int x0, .int x1, .int x2, .int x3] : List Value).getD (k1).toNatClampNeg (.int (0 : Int32)) = .int xv) (hj : (tt = (0 : Int32) ∧ dr = FP.dconst0) ∨ (¬ (tt = (0 : Int32)) ∧ dr = FP.ddiv (FP.i2d xv) (FP.i2d tt))) :
    MetFree l (⟨"com/example/inkcap/inkcap/lexicon/WordCategories", "getProbability", "(I)D"⟩ : MethodName) (head1 (Jvm.Cond.code (⟨"com/example/inkcap/inkcap/lexicon/WordCategories", "getProbability", "(I)D"⟩ : MethodName) prog_55_method_4_code 2 (some .double) :: ws) ({ frames := 0, cells := 0, slots := 0, locals := 0 } : Room)) (fun a U => a = #[(.ref a1), (.int k1)] ∧ Z.Warmed39 U.vm ∧ U.heap = h0) (fun _ _ _ _ _ => True) (fun _ U o U' => ∃ v L, o = .returned v ∧ Q_gp0 Z a1 k1 tt cc kc x0 x1 x2 x3 xv dr h0 n0 v U'.heap L ∧ FrameEnd U o U' L ({ frames := 0, cells := 0, slots := 0, locals := 0 } : Room).cells ({ frames := 0, cells := 0, slots := 0, locals := 0 } : Room).slots) := by
  rcases hj with ⟨hc, hrr⟩ | ⟨hc, hrr⟩
  · exact rm_gp0 l Z a0 hw ws a1 k1 tt cc kc x0 x1 x2 x3 xv dr h0 n0 Z0 pF0 pF1 pA2 hinb hget hc hrr
  · exact rm_gp1 l Z a0 hw ws a1 k1 tt cc kc x0 x1 x2 x3 xv dr h0 n0 Z0 pF0 pF1 pA2 hinb hget hc hrr
theorem pd_285bI29V : parseMethodDescriptor "([I)V" = some ⟨[(.array .int)], none⟩ := by decide +kernel
theorem pd_28I29D : parseMethodDescriptor "(I)D" = some ⟨[.int], some .double⟩ := by decide +kernel
theorem pn_com_example_inkcap_inkcap_lexicon_WordCategoriesGetProbabilityPinLaw : plainName "com/example/inkcap/inkcap/lexicon/WordCategoriesGetProbabilityPinLaw" = true := by first | (simp [plainName, overriddenIn]; done) | decide +kernel
theorem ef_law (m : MethodId) (x0 : Int32) (x1 : Int32) (x2 : Int32) (x3 : Int32) (x4 : Int32) : entryFrame m #[(.int x0), (.int x1), (.int x2), (.int x3), (.int x4)] maxLocals = mkF m 0 #[.val (.int x0), .val (.int x1), .val (.int x2), .val (.int x3), .val (.int x4), .unset, .unset, .unset, .unset, .unset, .unset, .unset, .unset, .unset, .unset, .unset, .unset, .unset] [] := by first | (simp [entryFrame, mkF, argsToLocals, Value.category, maxLocals]; done) | rfl
def Q_law (Z : State) (p1 : Int32) (p2 : Int32) (p3 : Int32) (p4 : Int32) (p5 : Int32) (dce : Addr) (kd : ClassId) (ca : Addr) (cl : Cell) (bi0 : Addr) (bi1 : Addr) (bi2 : Addr) (bi3 : Addr) (mA : Addr) (mL : Addr) (mR : Addr) (h0 : Heap) (n0 : Nat) (v : Option Value) (h : Heap) (L : List Loc) : Prop := v = some (.int (1 : Int32)) ∧ Fr n0 L
set_option maxRecDepth 65536 in
set_option maxHeartbeats 40000000 in
theorem rm_law (l : Launch) (Z : State) (a0 : Array Value) (hw : ∀ d ∈ tables_1, d.before a0 Z = true) (ws : List Jvm.Cond) (p1 : Int32) (p2 : Int32) (p3 : Int32) (p4 : Int32) (p5 : Int32) (dce : Addr) (kd : ClassId) (ca : Addr) (cl : Cell) (bi0 : Addr) (bi1 : Addr) (bi2 : Addr) (bi3 : Addr) (mA : Addr) (mL : Addr) (mR : Addr) (h0 : Heap) (n0 : Nat) (Z0 : n0 ≤ h0.size) (hO : Old Z n0 h0) (zS1 : Sta Z Z.heap "java/util/ArrayList" "DEFAULTCAPACITY_EMPTY_ELEMENTDATA" "[Ljava/lang/Object;" (.ref dce)) (zA2 : Arv Z Z.heap dce kd (.object "java/lang/Object") (0 : Int32) [] .null) (zS3 : Sta Z Z.heap "java/lang/Integer$IntegerCache" "high" "I" (.int (127 : Int32))) (zS4 : Sta Z Z.heap "java/lang/Integer$IntegerCache" "cache" "[Ljava/lang/Integer;" (.ref ca)) (hcl : Arr Z Z.heap ca cl (.object "java/lang/Integer")) (zE6 : Exa Z Z.heap bi0 "java/lang/Integer") (zhin0 : ¬ (((0 : Int32) + (128 : Int32)) < 0 ∨ cl.slots.size ≤ (((0 : Int32) + (128 : Int32))).toNatClampNeg)) (zhat0 : cl.slots[(((0 : Int32) + (128 : Int32))).toNatClampNeg]? = some (.ref bi0)) (zE9 : Exa Z Z.heap bi1 "java/lang/Integer") (zhin1 : ¬ (((1 : Int32) + (128 : Int32)) < 0 ∨ cl.slots.size ≤ (((1 : Int32) + (128 : Int32))).toNatClampNeg)) (zhat1 : cl.slots[(((1 : Int32) + (128 : Int32))).toNatClampNeg]? = some (.ref bi1)) (zE12 : Exa Z Z.heap bi2 "java/lang/Integer") (zhin2 : ¬ (((2 : Int32) + (128 : Int32)) < 0 ∨ cl.slots.size ≤ (((2 : Int32) + (128 : Int32))).toNatClampNeg)) (zhat2 : cl.slots[(((2 : Int32) + (128 : Int32))).toNatClampNeg]? = some (.ref bi2)) (zE15 : Exa Z Z.heap bi3 "java/lang/Integer") (zhin3 : ¬ (((3 : Int32) + (128 : Int32)) < 0 ∨ cl.slots.size ≤ (((3 : Int32) + (128 : Int32))).toNatClampNeg)) (zhat3 : cl.slots[(((3 : Int32) + (128 : Int32))).toNatClampNeg]? = some (.ref bi3)) (hmA : Mir Z "java/util/ArrayList" mA) (hmL : Mir Z "java/util/Collections$UnmodifiableList" mL) (hmR : Mir Z "java/util/Collections$UnmodifiableRandomAccessList" mR) :
    MetFree l x (head1 (Jvm.Cond.code x code maxLocals ret :: ws) room_1) (fun a U => a = #[(.int p1), (.int p2), (.int p3), (.int p4), (.int p5)] ∧ Z.Warmed39 U.vm ∧ U.heap = h0) (fun _ _ _ _ _ => True) (fun _ U o U' => ∃ v L, o = .returned v ∧ Q_law Z p1 p2 p3 p4 p5 dce kd ca cl bi0 bi1 bi2 bi3 mA mL mR h0 n0 v U'.heap L ∧ FrameEnd U o U' L room_1.cells room_1.slots) := by
  refine MetFree.of_bodySF (plainFor_of_name pn_com_example_inkcap_inkcap_lexicon_WordCategoriesGetProbabilityPinLaw) hisR ?_
  intro p e s m args below meth c s₁ Bd hml0 hP hK
  obtain ⟨rfl, hZ, hh⟩ := hP
  have hx := Bd.exec
  have hby := Bd.bytes
  have hml : c.maxLocals = 18 := hml0
  have hown : s.vm.findClass "com/example/inkcap/inkcap/lexicon/WordCategoriesGetProbabilityPinLaw" = some m.cls := findClass_of_methodNamed Bd.named
  have hnm := (name_of_methodNamed Bd.named Bd.method).1
  have X0 : Stand p l e room_1 s m #[(.int p1), (.int p2), (.int p3), (.int p4), (.int p5)] below meth c s₁ [] 0 0 := Stand.of_body Bd
  have e0 : s₁.heap = h0 := by rw [← hh, Bd.state]; rfl
  have N0 := Fr.nil n0
  have P0 : Keep h0 h0 [] := Keep.refl _ _
  have pre0 : ∀ t, Steps p.tables e below (s₁.setTop (mkF m 0 #[.val (.int p1), .val (.int p2), .val (.int p3), .val (.int p4), .val (.int p5), .unset, .unset, .unset, .unset, .unset, .unset, .unset, .unset, .unset, .unset, .unset, .unset, .unset] [])) t → Steps p.tables e below (s₁.setTop (entryFrame m #[(.int p1), (.int p2), (.int p3), (.int p4), (.int p5)] maxLocals)) t := fun t k => castTop (ef_law m p1 p2 p3 p4 p5) k
  have htt : (((((0 : Int32) + (p1 &&& (268435455 : Int32))) + (p2 &&& (268435455 : Int32))) + (p3 &&& (268435455 : Int32))) + (p4 &&& (268435455 : Int32))) = ((((p1 &&& (268435455 : Int32)) + (p2 &&& (268435455 : Int32))) + (p3 &&& (268435455 : Int32))) + (p4 &&& (268435455 : Int32))) := by rw [Int32.zero_add]
  obtain ⟨xv, hinb, hget, hc0, hc1, hc2, hc3⟩ := own_pick (p1 &&& (268435455 : Int32)) (p2 &&& (268435455 : Int32)) (p3 &&& (268435455 : Int32)) (p4 &&& (268435455 : Int32)) (own_cat p5)
  obtain ⟨dr, hdr, hnn⟩ := own_dr xv (((((0 : Int32) + (p1 &&& (268435455 : Int32))) + (p2 &&& (268435455 : Int32))) + (p3 &&& (268435455 : Int32))) + (p4 &&& (268435455 : Int32)))
  obtain ⟨T1, h1, k1, X1, e1, E1, A1, Q1, st1⟩ := newPE X0 hx hZ (hw _ (List.mem_of_getElem? (i := 1) rfl)) e0 (g := (mkF m 31 #[.val (.int p1), .val (.int p2), .val (.int p3), .val (.int p4), .val (.int p5), .val (.int (p1 &&& (268435455 : Int32))), .val (.int (p2 &&& (268435455 : Int32))), .val (.int (p3 &&& (268435455 : Int32))), .val (.int (p4 &&& (268435455 : Int32))), .val (.int (p5 &&& (3 : Int32))), .unset, .unset, .unset, .unset, .unset, .unset, .unset, .unset] [(.int (4 : Int32))])) rfl (hb hby at_31) rfl (by decide) (cap := 4) (by decide) (by decide) (by decide) (by decide) (ad := "[I") (by decide)
  obtain ⟨ba, g1⟩ : ∃ z, z = h0.size := ⟨_, rfl⟩
  rw [← g1] at A1 Q1 st1
  have ge_ba : n0 ≤ ba := Nat.le_trans (Nat.le_trans Z0 P0.1) (Nat.le_of_eq g1.symm)
  have sz_ba : h0.size ≤ ba := Nat.le_trans P0.1 (Nat.le_of_eq g1.symm)
  have P2 : Keep h0 h1 [] := P0.ext E1
  have V3 : Arv Z h1 ba k1 .int (4 : Int32) (List.replicate 4 (.int (0 : Int32))) (.int (0 : Int32)) := (Arv.new A1 (by decide)).pad (pad_rep [] (.int (0 : Int32)) 4)
  obtain ⟨cl4, Ar4, qk4, Sz4, Nz4, Ha4, Ga4⟩ := id V3
  have hin4 : ¬ ((0 : Int32) < 0 ∨ cl4.slots.size ≤ ((0 : Int32)).toNatClampNeg) := inb_of Sz4 ⟨by decide, by decide⟩
  obtain ⟨T4, h4, X4, e4, W4, st4⟩ := stI X1 hx hZ e1 Ar4 (j := (0 : Int32)) hin4 (g := (mkF m 40 #[.val (.int p1), .val (.int p2), .val (.int p3), .val (.int p4), .val (.int p5), .val (.int (p1 &&& (268435455 : Int32))), .val (.int (p2 &&& (268435455 : Int32))), .val (.int (p3 &&& (268435455 : Int32))), .val (.int (p4 &&& (268435455 : Int32))), .val (.int (p5 &&& (3 : Int32))), .val (.ref ba), .unset, .unset, .unset, .unset, .unset, .unset, .unset] [(.int (p1 &&& (268435455 : Int32))), (.int (0 : Int32)), (.ref ba)])) rfl rfl (hb hby at_40)
  have P5 : Keep h0 h4 [] := P2.wr W4 (Or.inr sz_ba)
  have V6 : Arv Z h4 ba k1 .int (4 : Int32) (List.set (List.replicate 4 (.int (0 : Int32))) 0 (.int (p1 &&& (268435455 : Int32)))) (.int (0 : Int32)) := Arv.set Ar4 qk4 Sz4 Nz4 Ha4 Ga4 rfl W4 0 (by decide) (by simp only [List.length_set, List.length_replicate]; decide)
  have N4 := Fr.snoc X4 N0 ge_ba
  obtain ⟨cl7, Ar7, qk7, Sz7, Nz7, Ha7, Ga7⟩ := id V6
  have hin7 : ¬ ((1 : Int32) < 0 ∨ cl7.slots.size ≤ ((1 : Int32)).toNatClampNeg) := inb_of Sz7 ⟨by decide, by decide⟩
  obtain ⟨T7, h7, X7, e7, W7, st7⟩ := stI X4 hx hZ e4 Ar7 (j := (1 : Int32)) hin7 (g := (mkF m 46 #[.val (.int p1), .val (.int p2), .val (.int p3), .val (.int p4), .val (.int p5), .val (.int (p1 &&& (268435455 : Int32))), .val (.int (p2 &&& (268435455 : Int32))), .val (.int (p3 &&& (268435455 : Int32))), .val (.int (p4 &&& (268435455 : Int32))), .val (.int (p5 &&& (3 : Int32))), .val (.ref ba), .unset, .unset, .unset, .unset, .unset, .unset, .unset] [(.int (p2 &&& (268435455 : Int32))), (.int (1 : Int32)), (.ref ba)])) rfl rfl (hb hby at_46)
  have P8 : Keep h0 h7 [] := P5.wr W7 (Or.inr sz_ba)
  have V9 : Arv Z h7 ba k1 .int (4 : Int32) (List.set (List.set (List.replicate 4 (.int (0 : Int32))) 0 (.int (p1 &&& (268435455 : Int32)))) 1 (.int (p2 &&& (268435455 : Int32)))) (.int (0 : Int32)) := Arv.set Ar7 qk7 Sz7 Nz7 Ha7 Ga7 rfl W7 1 (by decide) (by simp only [List.length_set, List.length_replicate]; decide)
  have N7 := Fr.snoc X7 N4 ge_ba
  obtain ⟨cl10, Ar10, qk10, Sz10, Nz10, Ha10, Ga10⟩ := id V9
  have hin10 : ¬ ((2 : Int32) < 0 ∨ cl10.slots.size ≤ ((2 : Int32)).toNatClampNeg) := inb_of Sz10 ⟨by decide, by decide⟩
  obtain ⟨T10, h10, X10, e10, W10, st10⟩ := stI X7 hx hZ e7 Ar10 (j := (2 : Int32)) hin10 (g := (mkF m 52 #[.val (.int p1), .val (.int p2), .val (.int p3), .val (.int p4), .val (.int p5), .val (.int (p1 &&& (268435455 : Int32))), .val (.int (p2 &&& (268435455 : Int32))), .val (.int (p3 &&& (268435455 : Int32))), .val (.int (p4 &&& (268435455 : Int32))), .val (.int (p5 &&& (3 : Int32))), .val (.ref ba), .unset, .unset, .unset, .unset, .unset, .unset, .unset] [(.int (p3 &&& (268435455 : Int32))), (.int (2 : Int32)), (.ref ba)])) rfl rfl (hb hby at_52)
  have P11 : Keep h0 h10 [] := P8.wr W10 (Or.inr sz_ba)
  have V12 : Arv Z h10 ba k1 .int (4 : Int32) (List.set (List.set (List.set (List.replicate 4 (.int (0 : Int32))) 0 (.int (p1 &&& (268435455 : Int32)))) 1 (.int (p2 &&& (268435455 : Int32)))) 2 (.int (p3 &&& (268435455 : Int32)))) (.int (0 : Int32)) := Arv.set Ar10 qk10 Sz10 Nz10 Ha10 Ga10 rfl W10 2 (by decide) (by simp only [List.length_set, List.length_replicate]; decide)
  have N10 := Fr.snoc X10 N7 ge_ba
  obtain ⟨cl13, Ar13, qk13, Sz13, Nz13, Ha13, Ga13⟩ := id V12
  have hin13 : ¬ ((3 : Int32) < 0 ∨ cl13.slots.size ≤ ((3 : Int32)).toNatClampNeg) := inb_of Sz13 ⟨by decide, by decide⟩
  obtain ⟨T13, h13, X13, e13, W13, st13⟩ := stI X10 hx hZ e10 Ar13 (j := (3 : Int32)) hin13 (g := (mkF m 58 #[.val (.int p1), .val (.int p2), .val (.int p3), .val (.int p4), .val (.int p5), .val (.int (p1 &&& (268435455 : Int32))), .val (.int (p2 &&& (268435455 : Int32))), .val (.int (p3 &&& (268435455 : Int32))), .val (.int (p4 &&& (268435455 : Int32))), .val (.int (p5 &&& (3 : Int32))), .val (.ref ba), .unset, .unset, .unset, .unset, .unset, .unset, .unset] [(.int (p4 &&& (268435455 : Int32))), (.int (3 : Int32)), (.ref ba)])) rfl rfl (hb hby at_58)
  have P14 : Keep h0 h13 [] := P11.wr W13 (Or.inr sz_ba)
  have V15 : Arv Z h13 ba k1 .int (4 : Int32) (List.set (List.set (List.set (List.set (List.replicate 4 (.int (0 : Int32))) 0 (.int (p1 &&& (268435455 : Int32)))) 1 (.int (p2 &&& (268435455 : Int32)))) 2 (.int (p3 &&& (268435455 : Int32)))) 3 (.int (p4 &&& (268435455 : Int32)))) (.int (0 : Int32)) := Arv.set Ar13 qk13 Sz13 Nz13 Ha13 Ga13 rfl W13 3 (by decide) (by simp only [List.length_set, List.length_replicate]; decide)
  have N13 := Fr.snoc X13 N10 ge_ba
  obtain ⟨T16, h16, X16, e16, E16, A16, D16, -, st16⟩ := newO X13 hx hZ hown (hw _ (List.mem_of_getElem? (i := 2) rfl)) (hw _ (List.mem_of_getElem? (i := 3) rfl)) (hw _ (List.mem_of_getElem? (i := 4) rfl)) e13 (g := (mkF m 59 #[.val (.int p1), .val (.int p2), .val (.int p3), .val (.int p4), .val (.int p5), .val (.int (p1 &&& (268435455 : Int32))), .val (.int (p2 &&& (268435455 : Int32))), .val (.int (p3 &&& (268435455 : Int32))), .val (.int (p4 &&& (268435455 : Int32))), .val (.int (p5 &&& (3 : Int32))), .val (.ref ba), .unset, .unset, .unset, .unset, .unset, .unset, .unset] [])) rfl (hb hby at_59) (by decide) (by decide)
  obtain ⟨bw, g16⟩ : ∃ z, z = h13.size := ⟨_, rfl⟩
  rw [← g16] at A16 D16 st16
  have E17 : Exa Z h13 ba "[I" := (Exa.wr W13 (Exa.wr W10 (Exa.wr W7 (Exa.wr W4 Q1))))
  have ne_ba_bw : ba ≠ bw := Nat.ne_of_lt (Nat.lt_of_lt_of_eq E17.lt g16.symm)
  have ge_bw : n0 ≤ bw := Nat.le_trans (Nat.le_trans Z0 P14.1) (Nat.le_of_eq g16.symm)
  have sz_bw : h0.size ≤ bw := Nat.le_trans P14.1 (Nat.le_of_eq g16.symm)
  have P18 : Keep h0 h16 [] := P14.ext E16
  have F19 : Fld Z h16 bw "com/example/inkcap/inkcap/lexicon/WordCategories" "senseCounts" "[I" .null := D16 (Or.inr (hw _ (List.mem_of_getElem? (i := 21) rfl))) (ty := (.array .int)) (by decide)
  have F20 : Fld Z h16 bw "com/example/inkcap/inkcap/lexicon/WordCategories" "senseCount" "I" (.int (0 : Int32)) := D16 (Or.inr (hw _ (List.mem_of_getElem? (i := 89) rfl))) (ty := .int) (by decide)
  have F21 : Fld Z h16 bw "com/example/inkcap/inkcap/lexicon/WordCategories" "categories" "Ljava/util/List;" .null := D16 (Or.inr (hw _ (List.mem_of_getElem? (i := 133) rfl))) (ty := (.object "java/util/List")) (by decide)
  have O22 : Old Z n0 h16 := hO.keep P18 all0
  have E23 : Exa Z h16 ba "[I" := (Exa.ext E16 E17)
  have A24 : Arv Z h16 ba k1 .int (4 : Int32) (List.set (List.set (List.set (List.set (List.replicate 4 (.int (0 : Int32))) 0 (.int (p1 &&& (268435455 : Int32)))) 1 (.int (p2 &&& (268435455 : Int32)))) 2 (.int (p3 &&& (268435455 : Int32)))) 3 (.int (p4 &&& (268435455 : Int32)))) (.int (0 : Int32)) := (V15.ext E16)
  obtain ⟨_, _, ⟨T25, L25, k25, n25⟩, -, X25, ⟨Lc25, hQ25, l25, y25, z25⟩, st25⟩ := X16.specialBack hx (y := (⟨"com/example/inkcap/inkcap/lexicon/WordCategories", "<init>", "([I)V"⟩ : MethodName)) rfl hown (mvT hZ (hw _ (List.mem_of_getElem? (i := 5) rfl))) (mvT hZ (hw _ (List.mem_of_getElem? (i := 6) rfl))) (mvT hZ (hw _ (List.mem_of_getElem? (i := 7) rfl))) (by decide) (backOf (W := 1) (rm_wci l Z a0 hw [] bw ba k1 (p1 &&& (268435455 : Int32)) (p2 &&& (268435455 : Int32)) (p3 &&& (268435455 : Int32)) (p4 &&& (268435455 : Int32)) dce kd ca cl bi0 bi1 bi2 bi3 mA mL mR .null (.int (0 : Int32)) .null h16 n0 (Nat.le_trans Z0 P18.1) A16 F19 F20 F21 ge_bw E23 A24 ne_ba_bw.symm O22 zS1 zA2 zS3 zS4 hcl zE6 zhin0 zhat0 zE9 zhin1 zhat1 zE12 zhin2 zhat2 zE15 zhin3 zhat3 hmA hmL hmR) hZ (hw _ (List.mem_of_getElem? (i := 7) rfl)) (hw _ (List.mem_of_getElem? (i := 4) rfl)) (by decide) (by decide)) (g := (mkF m 65 #[.val (.int p1), .val (.int p2), .val (.int p3), .val (.int p4), .val (.int p5), .val (.int (p1 &&& (268435455 : Int32))), .val (.int (p2 &&& (268435455 : Int32))), .val (.int (p3 &&& (268435455 : Int32))), .val (.int (p4 &&& (268435455 : Int32))), .val (.int (p5 &&& (3 : Int32))), .val (.ref ba), .unset, .unset, .unset, .unset, .unset, .unset, .unset] [(.ref ba), (.ref bw), (.ref bw)])) rfl (by rw [hml]; rfl) (Steps.refl _) (a := bw) (argsL := [(.ref ba)]) (rest := [(.ref bw)]) (lenOf pd_285bI29V rfl) rfl (by show 2 * 0 + _ ≤ _; exact Nat.le_of_eq rfl) (hb hby at_65) (fun _ _ => ⟨rfl, e16, (by decide : 2 + 7 ≤ _), (by decide : 7 + 49 ≤ _)⟩)
  dsimp only [Pt.U, Pt.locs, Pt.cells, Pt.slots] at X25 l25 y25 z25 st25 hQ25
  subst l25 y25 z25
  obtain ⟨bk, rfl, N25q, K25, r25_0, r25_1, r25_2, r25_3, r25_4, r25_5⟩ := hQ25
  have N25 := Fr.app N13 N25q
  have ne_ba_bk : ba ≠ bk := Nat.ne_of_lt (Nat.lt_of_lt_of_le E23.lt r25_0)
  have ne_bw_bk : bw ≠ bk := Nat.ne_of_lt (Nat.lt_of_lt_of_le A16.lt r25_0)
  have ge_bk : n0 ≤ bk := Nat.le_trans (Nat.le_trans Z0 P18.1) r25_0
  have sz_bk : h0.size ≤ bk := Nat.le_trans P18.1 r25_0
  have P26 : Keep h0 T25.heap [] := P18.trans K25 (allS (Or.inr sz_bw) all0)
  have A28 : Arv Z T25.heap ba k1 .int (4 : Int32) (List.set (List.set (List.set (List.set (List.replicate 4 (.int (0 : Int32))) 0 (.int (p1 &&& (268435455 : Int32)))) 1 (.int (p2 &&& (268435455 : Int32)))) 2 (.int (p3 &&& (268435455 : Int32)))) 3 (.int (p4 &&& (268435455 : Int32)))) (.int (0 : Int32)) := (A24.keep K25 (ninS ne_ba_bw nin0))
  obtain ⟨cl27, Ar27, qk27, Sz27, Nz27, Ha27, Ga27⟩ := id A28
  have hin27 : ¬ ((0 : Int32) < 0 ∨ cl27.slots.size ≤ ((0 : Int32)).toNatClampNeg) := inb_of Sz27 ⟨by decide, by decide⟩
  obtain ⟨T27, h27, X27, e27, W27, st27⟩ := stI X25 hx hZ rfl Ar27 (j := (0 : Int32)) hin27 (g := (mkF m 75 #[.val (.int p1), .val (.int p2), .val (.int p3), .val (.int p4), .val (.int p5), .val (.int (p1 &&& (268435455 : Int32))), .val (.int (p2 &&& (268435455 : Int32))), .val (.int (p3 &&& (268435455 : Int32))), .val (.int (p4 &&& (268435455 : Int32))), .val (.int (p5 &&& (3 : Int32))), .val (.ref ba), .val (.ref bw), .unset, .unset, .unset, .unset, .unset, .unset] [(.int (7 : Int32)), (.int (0 : Int32)), (.ref ba)])) rfl rfl (hb hby at_75)
  have P29 : Keep h0 h27 [] := P26.wr W27 (Or.inr sz_ba)
  have V30 : Arv Z h27 ba k1 .int (4 : Int32) (List.set (List.set (List.set (List.set (List.set (List.replicate 4 (.int (0 : Int32))) 0 (.int (p1 &&& (268435455 : Int32)))) 1 (.int (p2 &&& (268435455 : Int32)))) 2 (.int (p3 &&& (268435455 : Int32)))) 3 (.int (p4 &&& (268435455 : Int32)))) 0 (.int (7 : Int32))) (.int (0 : Int32)) := Arv.set Ar27 qk27 Sz27 Nz27 Ha27 Ga27 rfl W27 0 (by decide) (by simp only [List.length_set, List.length_replicate]; decide)
  have N27 := Fr.snoc X27 N25 ge_ba
  obtain ⟨cl31, Ar31, qk31, Sz31, Nz31, Ha31, Ga31⟩ := id V30
  have hin31 : ¬ ((1 : Int32) < 0 ∨ cl31.slots.size ≤ ((1 : Int32)).toNatClampNeg) := inb_of Sz31 ⟨by decide, by decide⟩
  obtain ⟨T31, h31, X31, e31, W31, st31⟩ := stI X27 hx hZ e27 Ar31 (j := (1 : Int32)) hin31 (g := (mkF m 80 #[.val (.int p1), .val (.int p2), .val (.int p3), .val (.int p4), .val (.int p5), .val (.int (p1 &&& (268435455 : Int32))), .val (.int (p2 &&& (268435455 : Int32))), .val (.int (p3 &&& (268435455 : Int32))), .val (.int (p4 &&& (268435455 : Int32))), .val (.int (p5 &&& (3 : Int32))), .val (.ref ba), .val (.ref bw), .unset, .unset, .unset, .unset, .unset, .unset] [(.int (0 : Int32)), (.int (1 : Int32)), (.ref ba)])) rfl rfl (hb hby at_80)
  have P32 : Keep h0 h31 [] := P29.wr W31 (Or.inr sz_ba)
  have V33 : Arv Z h31 ba k1 .int (4 : Int32) (List.set (List.set (List.set (List.set (List.set (List.set (List.replicate 4 (.int (0 : Int32))) 0 (.int (p1 &&& (268435455 : Int32)))) 1 (.int (p2 &&& (268435455 : Int32)))) 2 (.int (p3 &&& (268435455 : Int32)))) 3 (.int (p4 &&& (268435455 : Int32)))) 0 (.int (7 : Int32))) 1 (.int (0 : Int32))) (.int (0 : Int32)) := Arv.set Ar31 qk31 Sz31 Nz31 Ha31 Ga31 rfl W31 1 (by decide) (by simp only [List.length_set, List.length_replicate]; decide)
  have N31 := Fr.snoc X31 N27 ge_ba
  obtain ⟨cl34, Ar34, qk34, Sz34, Nz34, Ha34, Ga34⟩ := id V33
  have hin34 : ¬ ((2 : Int32) < 0 ∨ cl34.slots.size ≤ ((2 : Int32)).toNatClampNeg) := inb_of Sz34 ⟨by decide, by decide⟩
  obtain ⟨T34, h34, X34, e34, W34, st34⟩ := stI X31 hx hZ e31 Ar34 (j := (2 : Int32)) hin34 (g := (mkF m 85 #[.val (.int p1), .val (.int p2), .val (.int p3), .val (.int p4), .val (.int p5), .val (.int (p1 &&& (268435455 : Int32))), .val (.int (p2 &&& (268435455 : Int32))), .val (.int (p3 &&& (268435455 : Int32))), .val (.int (p4 &&& (268435455 : Int32))), .val (.int (p5 &&& (3 : Int32))), .val (.ref ba), .val (.ref bw), .unset, .unset, .unset, .unset, .unset, .unset] [(.int (3 : Int32)), (.int (2 : Int32)), (.ref ba)])) rfl rfl (hb hby at_85)
  have P35 : Keep h0 h34 [] := P32.wr W34 (Or.inr sz_ba)
  have V36 : Arv Z h34 ba k1 .int (4 : Int32) (List.set (List.set (List.set (List.set (List.set (List.set (List.set (List.replicate 4 (.int (0 : Int32))) 0 (.int (p1 &&& (268435455 : Int32)))) 1 (.int (p2 &&& (268435455 : Int32)))) 2 (.int (p3 &&& (268435455 : Int32)))) 3 (.int (p4 &&& (268435455 : Int32)))) 0 (.int (7 : Int32))) 1 (.int (0 : Int32))) 2 (.int (3 : Int32))) (.int (0 : Int32)) := Arv.set Ar34 qk34 Sz34 Nz34 Ha34 Ga34 rfl W34 2 (by decide) (by simp only [List.length_set, List.length_replicate]; decide)
  have N34 := Fr.snoc X34 N31 ge_ba
  obtain ⟨cl37, Ar37, qk37, Sz37, Nz37, Ha37, Ga37⟩ := id V36
  have hin37 : ¬ ((3 : Int32) < 0 ∨ cl37.slots.size ≤ ((3 : Int32)).toNatClampNeg) := inb_of Sz37 ⟨by decide, by decide⟩
  obtain ⟨T37, h37, X37, e37, W37, st37⟩ := stI X34 hx hZ e34 Ar37 (j := (3 : Int32)) hin37 (g := (mkF m 90 #[.val (.int p1), .val (.int p2), .val (.int p3), .val (.int p4), .val (.int p5), .val (.int (p1 &&& (268435455 : Int32))), .val (.int (p2 &&& (268435455 : Int32))), .val (.int (p3 &&& (268435455 : Int32))), .val (.int (p4 &&& (268435455 : Int32))), .val (.int (p5 &&& (3 : Int32))), .val (.ref ba), .val (.ref bw), .unset, .unset, .unset, .unset, .unset, .unset] [(.int (1 : Int32)), (.int (3 : Int32)), (.ref ba)])) rfl rfl (hb hby at_90)
  have P38 : Keep h0 h37 [] := P35.wr W37 (Or.inr sz_ba)
  have V39 : Arv Z h37 ba k1 .int (4 : Int32) (List.set (List.set (List.set (List.set (List.set (List.set (List.set (List.set (List.replicate 4 (.int (0 : Int32))) 0 (.int (p1 &&& (268435455 : Int32)))) 1 (.int (p2 &&& (268435455 : Int32)))) 2 (.int (p3 &&& (268435455 : Int32)))) 3 (.int (p4 &&& (268435455 : Int32)))) 0 (.int (7 : Int32))) 1 (.int (0 : Int32))) 2 (.int (3 : Int32))) 3 (.int (1 : Int32))) (.int (0 : Int32)) := Arv.set Ar37 qk37 Sz37 Nz37 Ha37 Ga37 rfl W37 3 (by decide) (by simp only [List.length_set, List.length_replicate]; decide)
  have N37 := Fr.snoc X37 N34 ge_ba
  have F40 : Fld Z h37 bw "com/example/inkcap/inkcap/lexicon/WordCategories" "senseCount" "I" (.int (((((0 : Int32) + (p1 &&& (268435455 : Int32))) + (p2 &&& (268435455 : Int32))) + (p3 &&& (268435455 : Int32))) + (p4 &&& (268435455 : Int32)))) := (Fld.other W37 (Fld.other W34 (Fld.other W31 (Fld.other W27 r25_4 (Or.inl ne_ba_bw.symm)) (Or.inl ne_ba_bw.symm)) (Or.inl ne_ba_bw.symm)) (Or.inl ne_ba_bw.symm))
  have F41 : Fld Z h37 bw "com/example/inkcap/inkcap/lexicon/WordCategories" "senseCounts" "[I" (.ref bk) := (Fld.other W37 (Fld.other W34 (Fld.other W31 (Fld.other W27 r25_3 (Or.inl ne_ba_bw.symm)) (Or.inl ne_ba_bw.symm)) (Or.inl ne_ba_bw.symm)) (Or.inl ne_ba_bw.symm))
  have A42 : Arv Z h37 bk k1 .int (4 : Int32) [.int (p1 &&& (268435455 : Int32)), .int (p2 &&& (268435455 : Int32)), .int (p3 &&& (268435455 : Int32)), .int (p4 &&& (268435455 : Int32))] (.int (0 : Int32)) := ((((r25_5.other W27 ne_ba_bk.symm).other W31 ne_ba_bk.symm).other W34 ne_ba_bk.symm).other W37 ne_ba_bk.symm)
  have E44 : Exa Z h37 bw "com/example/inkcap/inkcap/lexicon/WordCategories" := (Exa.wr W37 (Exa.wr W34 (Exa.wr W31 (Exa.wr W27 r25_2))))
  obtain ⟨cq43, kq43, q43a, q43b, q43c⟩ := isOf hZ e37 E44
  obtain ⟨_, _, ⟨T43, L43, k43, n43⟩, -, X43, ⟨Lc43, hQ43, l43, y43, z43⟩, st43⟩ := X37.virtualBack hx (y := (⟨"com/example/inkcap/inkcap/lexicon/WordCategories", "getProbability", "(I)D"⟩ : MethodName)) (z := (⟨"com/example/inkcap/inkcap/lexicon/WordCategories", "getProbability", "(I)D"⟩ : MethodName)) hown (mvT hZ (hw _ (List.mem_of_getElem? (i := 134) rfl))) (mvT hZ (hw _ (List.mem_of_getElem? (i := 135) rfl))) (notFace_of_selects (args := #[]) (mvT hZ (hw _ (List.mem_of_getElem? (i := 137) rfl)))) (mvT hZ (hw _ (List.mem_of_getElem? (i := 137) rfl))) (mvT hZ (hw _ (List.mem_of_getElem? (i := 136) rfl))) (by decide) (backOf (W := 0) (rm_gprob l Z a0 hw [] bw (p5 &&& (3 : Int32)) (((((0 : Int32) + (p1 &&& (268435455 : Int32))) + (p2 &&& (268435455 : Int32))) + (p3 &&& (268435455 : Int32))) + (p4 &&& (268435455 : Int32))) bk k1 (p1 &&& (268435455 : Int32)) (p2 &&& (268435455 : Int32)) (p3 &&& (268435455 : Int32)) (p4 &&& (268435455 : Int32)) xv dr h37 n0 (Nat.le_trans Z0 P38.1) F40 F41 A42 hinb hget hdr) hZ (hw _ (List.mem_of_getElem? (i := 138) rfl)) (hw _ (List.mem_of_getElem? (i := 4) rfl)) (by decide) (by decide)) q43a q43c (g := (mkF m 95 #[.val (.int p1), .val (.int p2), .val (.int p3), .val (.int p4), .val (.int p5), .val (.int (p1 &&& (268435455 : Int32))), .val (.int (p2 &&& (268435455 : Int32))), .val (.int (p3 &&& (268435455 : Int32))), .val (.int (p4 &&& (268435455 : Int32))), .val (.int (p5 &&& (3 : Int32))), .val (.ref ba), .val (.ref bw), .unset, .unset, .unset, .unset, .unset, .unset] [(.int (p5 &&& (3 : Int32))), (.ref bw)])) rfl (by rw [hml]; rfl) (Steps.refl _) (argsL := [(.int (p5 &&& (3 : Int32)))]) (rest := []) (lenOf pd_28I29D rfl) rfl (by show 2 * 0 + _ ≤ _; exact Nat.le_of_eq rfl) (hb hby at_95) (fun _ _ => ⟨rfl, e37, (by decide : 9 + 0 ≤ _), (by decide : 56 + 0 ≤ _)⟩)
  dsimp only [Pt.U, Pt.locs, Pt.cells, Pt.slots] at X43 l43 y43 z43 st43 hQ43
  subst l43 y43 z43
  obtain ⟨rfl, N43q, e43⟩ := hQ43
  have N43 := Fr.app N37 N43q
  obtain ⟨xc, hm45, mg45⟩ : ∃ xc : Int32, (xc = xv) ∧ ∀ t, Steps p.tables e below (T43.setTop (mkF m 155 #[.val (.int p1), .val (.int p2), .val (.int p3), .val (.int p4), .val (.int p5), .val (.int (p1 &&& (268435455 : Int32))), .val (.int (p2 &&& (268435455 : Int32))), .val (.int (p3 &&& (268435455 : Int32))), .val (.int (p4 &&& (268435455 : Int32))), .val (.int (p5 &&& (3 : Int32))), .val (.ref ba), .val (.ref bw), .val (.double dr), .second, .val (.int ((((p1 &&& (268435455 : Int32)) + (p2 &&& (268435455 : Int32))) + (p3 &&& (268435455 : Int32))) + (p4 &&& (268435455 : Int32)))), .val (.int xc), .unset, .unset] [])) t → Steps p.tables e below (T43.setTop (mkF m 115 #[.val (.int p1), .val (.int p2), .val (.int p3), .val (.int p4), .val (.int p5), .val (.int (p1 &&& (268435455 : Int32))), .val (.int (p2 &&& (268435455 : Int32))), .val (.int (p3 &&& (268435455 : Int32))), .val (.int (p4 &&& (268435455 : Int32))), .val (.int (p5 &&& (3 : Int32))), .val (.ref ba), .val (.ref bw), .val (.double dr), .second, .val (.int ((((p1 &&& (268435455 : Int32)) + (p2 &&& (268435455 : Int32))) + (p3 &&& (268435455 : Int32))) + (p4 &&& (268435455 : Int32)))), .unset, .unset, .unset] [(.int (p5 &&& (3 : Int32)))])) t := by
    by_cases z115 : (p5 &&& (3 : Int32)) = (0 : Int32)
    ·
      refine ⟨(p1 &&& (268435455 : Int32)), hc0 z115, fun t k => ?_⟩
      show Steps p.tables e below (T43.setTop (mkF m 115 #[.val (.int p1), .val (.int p2), .val (.int p3), .val (.int p4), .val (.int p5), .val (.int (p1 &&& (268435455 : Int32))), .val (.int (p2 &&& (268435455 : Int32))), .val (.int (p3 &&& (268435455 : Int32))), .val (.int (p4 &&& (268435455 : Int32))), .val (.int (p5 &&& (3 : Int32))), .val (.ref ba), .val (.ref bw), .val (.double dr), .second, .val (.int ((((p1 &&& (268435455 : Int32)) + (p2 &&& (268435455 : Int32))) + (p3 &&& (268435455 : Int32))) + (p4 &&& (268435455 : Int32)))), .unset, .unset, .unset] [(.int (p5 &&& (3 : Int32)))])) _
      refine XS.ifNo X43.here hx rfl (hb hby at_115) rfl ((if0 _ _).trans (teq (z115 : (p5 &&& (3 : Int32)) = (0 : Int32))).2) ?_
      show Steps p.tables e below (T43.setTop (mkF m 118 #[.val (.int p1), .val (.int p2), .val (.int p3), .val (.int p4), .val (.int p5), .val (.int (p1 &&& (268435455 : Int32))), .val (.int (p2 &&& (268435455 : Int32))), .val (.int (p3 &&& (268435455 : Int32))), .val (.int (p4 &&& (268435455 : Int32))), .val (.int (p5 &&& (3 : Int32))), .val (.ref ba), .val (.ref bw), .val (.double dr), .second, .val (.int ((((p1 &&& (268435455 : Int32)) + (p2 &&& (268435455 : Int32))) + (p3 &&& (268435455 : Int32))) + (p4 &&& (268435455 : Int32)))), .unset, .unset, .unset] [])) _
      refine XS.iload X43.here hx rfl (hb hby at_118) rfl ?_
      show Steps p.tables e below (T43.setTop (mkF m 120 #[.val (.int p1), .val (.int p2), .val (.int p3), .val (.int p4), .val (.int p5), .val (.int (p1 &&& (268435455 : Int32))), .val (.int (p2 &&& (268435455 : Int32))), .val (.int (p3 &&& (268435455 : Int32))), .val (.int (p4 &&& (268435455 : Int32))), .val (.int (p5 &&& (3 : Int32))), .val (.ref ba), .val (.ref bw), .val (.double dr), .second, .val (.int ((((p1 &&& (268435455 : Int32)) + (p2 &&& (268435455 : Int32))) + (p3 &&& (268435455 : Int32))) + (p4 &&& (268435455 : Int32)))), .unset, .unset, .unset] [(.int (p1 &&& (268435455 : Int32)))])) _
      refine XS.istore X43.here hx rfl (hb hby at_120) rfl (l' := #[.val (.int p1), .val (.int p2), .val (.int p3), .val (.int p4), .val (.int p5), .val (.int (p1 &&& (268435455 : Int32))), .val (.int (p2 &&& (268435455 : Int32))), .val (.int (p3 &&& (268435455 : Int32))), .val (.int (p4 &&& (268435455 : Int32))), .val (.int (p5 &&& (3 : Int32))), .val (.ref ba), .val (.ref bw), .val (.double dr), .second, .val (.int ((((p1 &&& (268435455 : Int32)) + (p2 &&& (268435455 : Int32))) + (p3 &&& (268435455 : Int32))) + (p4 &&& (268435455 : Int32)))), .val (.int (p1 &&& (268435455 : Int32))), .unset, .unset]) rfl ?_
      show Steps p.tables e below (T43.setTop (mkF m 122 #[.val (.int p1), .val (.int p2), .val (.int p3), .val (.int p4), .val (.int p5), .val (.int (p1 &&& (268435455 : Int32))), .val (.int (p2 &&& (268435455 : Int32))), .val (.int (p3 &&& (268435455 : Int32))), .val (.int (p4 &&& (268435455 : Int32))), .val (.int (p5 &&& (3 : Int32))), .val (.ref ba), .val (.ref bw), .val (.double dr), .second, .val (.int ((((p1 &&& (268435455 : Int32)) + (p2 &&& (268435455 : Int32))) + (p3 &&& (268435455 : Int32))) + (p4 &&& (268435455 : Int32)))), .val (.int (p1 &&& (268435455 : Int32))), .unset, .unset] [])) _
      refine XS.goto X43.here hx rfl (pc0 := 122) (pc' := 155) rfl (hb hby at_122) (by decide) (by decide) ?_
      exact k
    ·
      by_cases z128 : (p5 &&& (3 : Int32)) = (1 : Int32)
      ·
        refine ⟨(p2 &&& (268435455 : Int32)), hc1 z128, fun t k => ?_⟩
        show Steps p.tables e below (T43.setTop (mkF m 115 #[.val (.int p1), .val (.int p2), .val (.int p3), .val (.int p4), .val (.int p5), .val (.int (p1 &&& (268435455 : Int32))), .val (.int (p2 &&& (268435455 : Int32))), .val (.int (p3 &&& (268435455 : Int32))), .val (.int (p4 &&& (268435455 : Int32))), .val (.int (p5 &&& (3 : Int32))), .val (.ref ba), .val (.ref bw), .val (.double dr), .second, .val (.int ((((p1 &&& (268435455 : Int32)) + (p2 &&& (268435455 : Int32))) + (p3 &&& (268435455 : Int32))) + (p4 &&& (268435455 : Int32)))), .unset, .unset, .unset] [(.int (p5 &&& (3 : Int32)))])) _
        refine XS.ifYes X43.here hx rfl (pc0 := 115) (pc' := 125) rfl (hb hby at_115) rfl ((if0 _ _).trans (feq (z115 : ¬ ((p5 &&& (3 : Int32)) = (0 : Int32)))).2) (by decide) (by decide) ?_
        show Steps p.tables e below (T43.setTop (mkF m 125 #[.val (.int p1), .val (.int p2), .val (.int p3), .val (.int p4), .val (.int p5), .val (.int (p1 &&& (268435455 : Int32))), .val (.int (p2 &&& (268435455 : Int32))), .val (.int (p3 &&& (268435455 : Int32))), .val (.int (p4 &&& (268435455 : Int32))), .val (.int (p5 &&& (3 : Int32))), .val (.ref ba), .val (.ref bw), .val (.double dr), .second, .val (.int ((((p1 &&& (268435455 : Int32)) + (p2 &&& (268435455 : Int32))) + (p3 &&& (268435455 : Int32))) + (p4 &&& (268435455 : Int32)))), .unset, .unset, .unset] [])) _
        refine XS.iload X43.here hx rfl (hb hby at_125) rfl ?_
        show Steps p.tables e below (T43.setTop (mkF m 127 #[.val (.int p1), .val (.int p2), .val (.int p3), .val (.int p4), .val (.int p5), .val (.int (p1 &&& (268435455 : Int32))), .val (.int (p2 &&& (268435455 : Int32))), .val (.int (p3 &&& (268435455 : Int32))), .val (.int (p4 &&& (268435455 : Int32))), .val (.int (p5 &&& (3 : Int32))), .val (.ref ba), .val (.ref bw), .val (.double dr), .second, .val (.int ((((p1 &&& (268435455 : Int32)) + (p2 &&& (268435455 : Int32))) + (p3 &&& (268435455 : Int32))) + (p4 &&& (268435455 : Int32)))), .unset, .unset, .unset] [(.int (p5 &&& (3 : Int32)))])) _
        refine XS.iconst X43.here hx rfl (hb hby at_127) ?_
        show Steps p.tables e below (T43.setTop (mkF m 128 #[.val (.int p1), .val (.int p2), .val (.int p3), .val (.int p4), .val (.int p5), .val (.int (p1 &&& (268435455 : Int32))), .val (.int (p2 &&& (268435455 : Int32))), .val (.int (p3 &&& (268435455 : Int32))), .val (.int (p4 &&& (268435455 : Int32))), .val (.int (p5 &&& (3 : Int32))), .val (.ref ba), .val (.ref bw), .val (.double dr), .second, .val (.int ((((p1 &&& (268435455 : Int32)) + (p2 &&& (268435455 : Int32))) + (p3 &&& (268435455 : Int32))) + (p4 &&& (268435455 : Int32)))), .unset, .unset, .unset] [(.int (1 : Int32)), (.int (p5 &&& (3 : Int32)))])) _
        refine XS.icmpNo X43.here hx rfl (hb hby at_128) rfl (teq (z128 : (p5 &&& (3 : Int32)) = (1 : Int32))).2 ?_
        show Steps p.tables e below (T43.setTop (mkF m 131 #[.val (.int p1), .val (.int p2), .val (.int p3), .val (.int p4), .val (.int p5), .val (.int (p1 &&& (268435455 : Int32))), .val (.int (p2 &&& (268435455 : Int32))), .val (.int (p3 &&& (268435455 : Int32))), .val (.int (p4 &&& (268435455 : Int32))), .val (.int (p5 &&& (3 : Int32))), .val (.ref ba), .val (.ref bw), .val (.double dr), .second, .val (.int ((((p1 &&& (268435455 : Int32)) + (p2 &&& (268435455 : Int32))) + (p3 &&& (268435455 : Int32))) + (p4 &&& (268435455 : Int32)))), .unset, .unset, .unset] [])) _
        refine XS.iload X43.here hx rfl (hb hby at_131) rfl ?_
        show Steps p.tables e below (T43.setTop (mkF m 133 #[.val (.int p1), .val (.int p2), .val (.int p3), .val (.int p4), .val (.int p5), .val (.int (p1 &&& (268435455 : Int32))), .val (.int (p2 &&& (268435455 : Int32))), .val (.int (p3 &&& (268435455 : Int32))), .val (.int (p4 &&& (268435455 : Int32))), .val (.int (p5 &&& (3 : Int32))), .val (.ref ba), .val (.ref bw), .val (.double dr), .second, .val (.int ((((p1 &&& (268435455 : Int32)) + (p2 &&& (268435455 : Int32))) + (p3 &&& (268435455 : Int32))) + (p4 &&& (268435455 : Int32)))), .unset, .unset, .unset] [(.int (p2 &&& (268435455 : Int32)))])) _
        refine XS.istore X43.here hx rfl (hb hby at_133) rfl (l' := #[.val (.int p1), .val (.int p2), .val (.int p3), .val (.int p4), .val (.int p5), .val (.int (p1 &&& (268435455 : Int32))), .val (.int (p2 &&& (268435455 : Int32))), .val (.int (p3 &&& (268435455 : Int32))), .val (.int (p4 &&& (268435455 : Int32))), .val (.int (p5 &&& (3 : Int32))), .val (.ref ba), .val (.ref bw), .val (.double dr), .second, .val (.int ((((p1 &&& (268435455 : Int32)) + (p2 &&& (268435455 : Int32))) + (p3 &&& (268435455 : Int32))) + (p4 &&& (268435455 : Int32)))), .val (.int (p2 &&& (268435455 : Int32))), .unset, .unset]) rfl ?_
        show Steps p.tables e below (T43.setTop (mkF m 135 #[.val (.int p1), .val (.int p2), .val (.int p3), .val (.int p4), .val (.int p5), .val (.int (p1 &&& (268435455 : Int32))), .val (.int (p2 &&& (268435455 : Int32))), .val (.int (p3 &&& (268435455 : Int32))), .val (.int (p4 &&& (268435455 : Int32))), .val (.int (p5 &&& (3 : Int32))), .val (.ref ba), .val (.ref bw), .val (.double dr), .second, .val (.int ((((p1 &&& (268435455 : Int32)) + (p2 &&& (268435455 : Int32))) + (p3 &&& (268435455 : Int32))) + (p4 &&& (268435455 : Int32)))), .val (.int (p2 &&& (268435455 : Int32))), .unset, .unset] [])) _
        refine XS.goto X43.here hx rfl (pc0 := 135) (pc' := 155) rfl (hb hby at_135) (by decide) (by decide) ?_
        exact k
      ·
        by_cases z141 : (p5 &&& (3 : Int32)) = (2 : Int32)
        ·
          refine ⟨(p3 &&& (268435455 : Int32)), hc2 z141, fun t k => ?_⟩
          show Steps p.tables e below (T43.setTop (mkF m 115 #[.val (.int p1), .val (.int p2), .val (.int p3), .val (.int p4), .val (.int p5), .val (.int (p1 &&& (268435455 : Int32))), .val (.int (p2 &&& (268435455 : Int32))), .val (.int (p3 &&& (268435455 : Int32))), .val (.int (p4 &&& (268435455 : Int32))), .val (.int (p5 &&& (3 : Int32))), .val (.ref ba), .val (.ref bw), .val (.double dr), .second, .val (.int ((((p1 &&& (268435455 : Int32)) + (p2 &&& (268435455 : Int32))) + (p3 &&& (268435455 : Int32))) + (p4 &&& (268435455 : Int32)))), .unset, .unset, .unset] [(.int (p5 &&& (3 : Int32)))])) _
          refine XS.ifYes X43.here hx rfl (pc0 := 115) (pc' := 125) rfl (hb hby at_115) rfl ((if0 _ _).trans (feq (z115 : ¬ ((p5 &&& (3 : Int32)) = (0 : Int32)))).2) (by decide) (by decide) ?_
          show Steps p.tables e below (T43.setTop (mkF m 125 #[.val (.int p1), .val (.int p2), .val (.int p3), .val (.int p4), .val (.int p5), .val (.int (p1 &&& (268435455 : Int32))), .val (.int (p2 &&& (268435455 : Int32))), .val (.int (p3 &&& (268435455 : Int32))), .val (.int (p4 &&& (268435455 : Int32))), .val (.int (p5 &&& (3 : Int32))), .val (.ref ba), .val (.ref bw), .val (.double dr), .second, .val (.int ((((p1 &&& (268435455 : Int32)) + (p2 &&& (268435455 : Int32))) + (p3 &&& (268435455 : Int32))) + (p4 &&& (268435455 : Int32)))), .unset, .unset, .unset] [])) _
          refine XS.iload X43.here hx rfl (hb hby at_125) rfl ?_
          show Steps p.tables e below (T43.setTop (mkF m 127 #[.val (.int p1), .val (.int p2), .val (.int p3), .val (.int p4), .val (.int p5), .val (.int (p1 &&& (268435455 : Int32))), .val (.int (p2 &&& (268435455 : Int32))), .val (.int (p3 &&& (268435455 : Int32))), .val (.int (p4 &&& (268435455 : Int32))), .val (.int (p5 &&& (3 : Int32))), .val (.ref ba), .val (.ref bw), .val (.double dr), .second, .val (.int ((((p1 &&& (268435455 : Int32)) + (p2 &&& (268435455 : Int32))) + (p3 &&& (268435455 : Int32))) + (p4 &&& (268435455 : Int32)))), .unset, .unset, .unset] [(.int (p5 &&& (3 : Int32)))])) _
          refine XS.iconst X43.here hx rfl (hb hby at_127) ?_
          show Steps p.tables e below (T43.setTop (mkF m 128 #[.val (.int p1), .val (.int p2), .val (.int p3), .val (.int p4), .val (.int p5), .val (.int (p1 &&& (268435455 : Int32))), .val (.int (p2 &&& (268435455 : Int32))), .val (.int (p3 &&& (268435455 : Int32))), .val (.int (p4 &&& (268435455 : Int32))), .val (.int (p5 &&& (3 : Int32))), .val (.ref ba), .val (.ref bw), .val (.double dr), .second, .val (.int ((((p1 &&& (268435455 : Int32)) + (p2 &&& (268435455 : Int32))) + (p3 &&& (268435455 : Int32))) + (p4 &&& (268435455 : Int32)))), .unset, .unset, .unset] [(.int (1 : Int32)), (.int (p5 &&& (3 : Int32)))])) _
          refine XS.icmpYes X43.here hx rfl (pc0 := 128) (pc' := 138) rfl (hb hby at_128) rfl (feq (z128 : ¬ ((p5 &&& (3 : Int32)) = (1 : Int32)))).2 (by decide) (by decide) ?_
          show Steps p.tables e below (T43.setTop (mkF m 138 #[.val (.int p1), .val (.int p2), .val (.int p3), .val (.int p4), .val (.int p5), .val (.int (p1 &&& (268435455 : Int32))), .val (.int (p2 &&& (268435455 : Int32))), .val (.int (p3 &&& (268435455 : Int32))), .val (.int (p4 &&& (268435455 : Int32))), .val (.int (p5 &&& (3 : Int32))), .val (.ref ba), .val (.ref bw), .val (.double dr), .second, .val (.int ((((p1 &&& (268435455 : Int32)) + (p2 &&& (268435455 : Int32))) + (p3 &&& (268435455 : Int32))) + (p4 &&& (268435455 : Int32)))), .unset, .unset, .unset] [])) _
          refine XS.iload X43.here hx rfl (hb hby at_138) rfl ?_
          show Steps p.tables e below (T43.setTop (mkF m 140 #[.val (.int p1), .val (.int p2), .val (.int p3), .val (.int p4), .val (.int p5), .val (.int (p1 &&& (268435455 : Int32))), .val (.int (p2 &&& (268435455 : Int32))), .val (.int (p3 &&& (268435455 : Int32))), .val (.int (p4 &&& (268435455 : Int32))), .val (.int (p5 &&& (3 : Int32))), .val (.ref ba), .val (.ref bw), .val (.double dr), .second, .val (.int ((((p1 &&& (268435455 : Int32)) + (p2 &&& (268435455 : Int32))) + (p3 &&& (268435455 : Int32))) + (p4 &&& (268435455 : Int32)))), .unset, .unset, .unset] [(.int (p5 &&& (3 : Int32)))])) _
          refine XS.iconst X43.here hx rfl (hb hby at_140) ?_
          show Steps p.tables e below (T43.setTop (mkF m 141 #[.val (.int p1), .val (.int p2), .val (.int p3), .val (.int p4), .val (.int p5), .val (.int (p1 &&& (268435455 : Int32))), .val (.int (p2 &&& (268435455 : Int32))), .val (.int (p3 &&& (268435455 : Int32))), .val (.int (p4 &&& (268435455 : Int32))), .val (.int (p5 &&& (3 : Int32))), .val (.ref ba), .val (.ref bw), .val (.double dr), .second, .val (.int ((((p1 &&& (268435455 : Int32)) + (p2 &&& (268435455 : Int32))) + (p3 &&& (268435455 : Int32))) + (p4 &&& (268435455 : Int32)))), .unset, .unset, .unset] [(.int (2 : Int32)), (.int (p5 &&& (3 : Int32)))])) _
          refine XS.icmpNo X43.here hx rfl (hb hby at_141) rfl (teq (z141 : (p5 &&& (3 : Int32)) = (2 : Int32))).2 ?_
          show Steps p.tables e below (T43.setTop (mkF m 144 #[.val (.int p1), .val (.int p2), .val (.int p3), .val (.int p4), .val (.int p5), .val (.int (p1 &&& (268435455 : Int32))), .val (.int (p2 &&& (268435455 : Int32))), .val (.int (p3 &&& (268435455 : Int32))), .val (.int (p4 &&& (268435455 : Int32))), .val (.int (p5 &&& (3 : Int32))), .val (.ref ba), .val (.ref bw), .val (.double dr), .second, .val (.int ((((p1 &&& (268435455 : Int32)) + (p2 &&& (268435455 : Int32))) + (p3 &&& (268435455 : Int32))) + (p4 &&& (268435455 : Int32)))), .unset, .unset, .unset] [])) _
          refine XS.iload X43.here hx rfl (hb hby at_144) rfl ?_
          show Steps p.tables e below (T43.setTop (mkF m 146 #[.val (.int p1), .val (.int p2), .val (.int p3), .val (.int p4), .val (.int p5), .val (.int (p1 &&& (268435455 : Int32))), .val (.int (p2 &&& (268435455 : Int32))), .val (.int (p3 &&& (268435455 : Int32))), .val (.int (p4 &&& (268435455 : Int32))), .val (.int (p5 &&& (3 : Int32))), .val (.ref ba), .val (.ref bw), .val (.double dr), .second, .val (.int ((((p1 &&& (268435455 : Int32)) + (p2 &&& (268435455 : Int32))) + (p3 &&& (268435455 : Int32))) + (p4 &&& (268435455 : Int32)))), .unset, .unset, .unset] [(.int (p3 &&& (268435455 : Int32)))])) _
          refine XS.istore X43.here hx rfl (hb hby at_146) rfl (l' := #[.val (.int p1), .val (.int p2), .val (.int p3), .val (.int p4), .val (.int p5), .val (.int (p1 &&& (268435455 : Int32))), .val (.int (p2 &&& (268435455 : Int32))), .val (.int (p3 &&& (268435455 : Int32))), .val (.int (p4 &&& (268435455 : Int32))), .val (.int (p5 &&& (3 : Int32))), .val (.ref ba), .val (.ref bw), .val (.double dr), .second, .val (.int ((((p1 &&& (268435455 : Int32)) + (p2 &&& (268435455 : Int32))) + (p3 &&& (268435455 : Int32))) + (p4 &&& (268435455 : Int32)))), .val (.int (p3 &&& (268435455 : Int32))), .unset, .unset]) rfl ?_
          show Steps p.tables e below (T43.setTop (mkF m 148 #[.val (.int p1), .val (.int p2), .val (.int p3), .val (.int p4), .val (.int p5), .val (.int (p1 &&& (268435455 : Int32))), .val (.int (p2 &&& (268435455 : Int32))), .val (.int (p3 &&& (268435455 : Int32))), .val (.int (p4 &&& (268435455 : Int32))), .val (.int (p5 &&& (3 : Int32))), .val (.ref ba), .val (.ref bw), .val (.double dr), .second, .val (.int ((((p1 &&& (268435455 : Int32)) + (p2 &&& (268435455 : Int32))) + (p3 &&& (268435455 : Int32))) + (p4 &&& (268435455 : Int32)))), .val (.int (p3 &&& (268435455 : Int32))), .unset, .unset] [])) _
          refine XS.goto X43.here hx rfl (pc0 := 148) (pc' := 155) rfl (hb hby at_148) (by decide) (by decide) ?_
          exact k
        ·
          refine ⟨(p4 &&& (268435455 : Int32)), hc3 z115 z128 z141, fun t k => ?_⟩
          show Steps p.tables e below (T43.setTop (mkF m 115 #[.val (.int p1), .val (.int p2), .val (.int p3), .val (.int p4), .val (.int p5), .val (.int (p1 &&& (268435455 : Int32))), .val (.int (p2 &&& (268435455 : Int32))), .val (.int (p3 &&& (268435455 : Int32))), .val (.int (p4 &&& (268435455 : Int32))), .val (.int (p5 &&& (3 : Int32))), .val (.ref ba), .val (.ref bw), .val (.double dr), .second, .val (.int ((((p1 &&& (268435455 : Int32)) + (p2 &&& (268435455 : Int32))) + (p3 &&& (268435455 : Int32))) + (p4 &&& (268435455 : Int32)))), .unset, .unset, .unset] [(.int (p5 &&& (3 : Int32)))])) _
          refine XS.ifYes X43.here hx rfl (pc0 := 115) (pc' := 125) rfl (hb hby at_115) rfl ((if0 _ _).trans (feq (z115 : ¬ ((p5 &&& (3 : Int32)) = (0 : Int32)))).2) (by decide) (by decide) ?_
          show Steps p.tables e below (T43.setTop (mkF m 125 #[.val (.int p1), .val (.int p2), .val (.int p3), .val (.int p4), .val (.int p5), .val (.int (p1 &&& (268435455 : Int32))), .val (.int (p2 &&& (268435455 : Int32))), .val (.int (p3 &&& (268435455 : Int32))), .val (.int (p4 &&& (268435455 : Int32))), .val (.int (p5 &&& (3 : Int32))), .val (.ref ba), .val (.ref bw), .val (.double dr), .second, .val (.int ((((p1 &&& (268435455 : Int32)) + (p2 &&& (268435455 : Int32))) + (p3 &&& (268435455 : Int32))) + (p4 &&& (268435455 : Int32)))), .unset, .unset, .unset] [])) _
          refine XS.iload X43.here hx rfl (hb hby at_125) rfl ?_
          show Steps p.tables e below (T43.setTop (mkF m 127 #[.val (.int p1), .val (.int p2), .val (.int p3), .val (.int p4), .val (.int p5), .val (.int (p1 &&& (268435455 : Int32))), .val (.int (p2 &&& (268435455 : Int32))), .val (.int (p3 &&& (268435455 : Int32))), .val (.int (p4 &&& (268435455 : Int32))), .val (.int (p5 &&& (3 : Int32))), .val (.ref ba), .val (.ref bw), .val (.double dr), .second, .val (.int ((((p1 &&& (268435455 : Int32)) + (p2 &&& (268435455 : Int32))) + (p3 &&& (268435455 : Int32))) + (p4 &&& (268435455 : Int32)))), .unset, .unset, .unset] [(.int (p5 &&& (3 : Int32)))])) _
          refine XS.iconst X43.here hx rfl (hb hby at_127) ?_
          show Steps p.tables e below (T43.setTop (mkF m 128 #[.val (.int p1), .val (.int p2), .val (.int p3), .val (.int p4), .val (.int p5), .val (.int (p1 &&& (268435455 : Int32))), .val (.int (p2 &&& (268435455 : Int32))), .val (.int (p3 &&& (268435455 : Int32))), .val (.int (p4 &&& (268435455 : Int32))), .val (.int (p5 &&& (3 : Int32))), .val (.ref ba), .val (.ref bw), .val (.double dr), .second, .val (.int ((((p1 &&& (268435455 : Int32)) + (p2 &&& (268435455 : Int32))) + (p3 &&& (268435455 : Int32))) + (p4 &&& (268435455 : Int32)))), .unset, .unset, .unset] [(.int (1 : Int32)), (.int (p5 &&& (3 : Int32)))])) _
          refine XS.icmpYes X43.here hx rfl (pc0 := 128) (pc' := 138) rfl (hb hby at_128) rfl (feq (z128 : ¬ ((p5 &&& (3 : Int32)) = (1 : Int32)))).2 (by decide) (by decide) ?_
          show Steps p.tables e below (T43.setTop (mkF m 138 #[.val (.int p1), .val (.int p2), .val (.int p3), .val (.int p4), .val (.int p5), .val (.int (p1 &&& (268435455 : Int32))), .val (.int (p2 &&& (268435455 : Int32))), .val (.int (p3 &&& (268435455 : Int32))), .val (.int (p4 &&& (268435455 : Int32))), .val (.int (p5 &&& (3 : Int32))), .val (.ref ba), .val (.ref bw), .val (.double dr), .second, .val (.int ((((p1 &&& (268435455 : Int32)) + (p2 &&& (268435455 : Int32))) + (p3 &&& (268435455 : Int32))) + (p4 &&& (268435455 : Int32)))), .unset, .unset, .unset] [])) _
          refine XS.iload X43.here hx rfl (hb hby at_138) rfl ?_
          show Steps p.tables e below (T43.setTop (mkF m 140 #[.val (.int p1), .val (.int p2), .val (.int p3), .val (.int p4), .val (.int p5), .val (.int (p1 &&& (268435455 : Int32))), .val (.int (p2 &&& (268435455 : Int32))), .val (.int (p3 &&& (268435455 : Int32))), .val (.int (p4 &&& (268435455 : Int32))), .val (.int (p5 &&& (3 : Int32))), .val (.ref ba), .val (.ref bw), .val (.double dr), .second, .val (.int ((((p1 &&& (268435455 : Int32)) + (p2 &&& (268435455 : Int32))) + (p3 &&& (268435455 : Int32))) + (p4 &&& (268435455 : Int32)))), .unset, .unset, .unset] [(.int (p5 &&& (3 : Int32)))])) _
          refine XS.iconst X43.here hx rfl (hb hby at_140) ?_
          show Steps p.tables e below (T43.setTop (mkF m 141 #[.val (.int p1), .val (.int p2), .val (.int p3), .val (.int p4), .val (.int p5), .val (.int (p1 &&& (268435455 : Int32))), .val (.int (p2 &&& (268435455 : Int32))), .val (.int (p3 &&& (268435455 : Int32))), .val (.int (p4 &&& (268435455 : Int32))), .val (.int (p5 &&& (3 : Int32))), .val (.ref ba), .val (.ref bw), .val (.double dr), .second, .val (.int ((((p1 &&& (268435455 : Int32)) + (p2 &&& (268435455 : Int32))) + (p3 &&& (268435455 : Int32))) + (p4 &&& (268435455 : Int32)))), .unset, .unset, .unset] [(.int (2 : Int32)), (.int (p5 &&& (3 : Int32)))])) _
          refine XS.icmpYes X43.here hx rfl (pc0 := 141) (pc' := 151) rfl (hb hby at_141) rfl (feq (z141 : ¬ ((p5 &&& (3 : Int32)) = (2 : Int32)))).2 (by decide) (by decide) ?_
          show Steps p.tables e below (T43.setTop (mkF m 151 #[.val (.int p1), .val (.int p2), .val (.int p3), .val (.int p4), .val (.int p5), .val (.int (p1 &&& (268435455 : Int32))), .val (.int (p2 &&& (268435455 : Int32))), .val (.int (p3 &&& (268435455 : Int32))), .val (.int (p4 &&& (268435455 : Int32))), .val (.int (p5 &&& (3 : Int32))), .val (.ref ba), .val (.ref bw), .val (.double dr), .second, .val (.int ((((p1 &&& (268435455 : Int32)) + (p2 &&& (268435455 : Int32))) + (p3 &&& (268435455 : Int32))) + (p4 &&& (268435455 : Int32)))), .unset, .unset, .unset] [])) _
          refine XS.iload X43.here hx rfl (hb hby at_151) rfl ?_
          show Steps p.tables e below (T43.setTop (mkF m 153 #[.val (.int p1), .val (.int p2), .val (.int p3), .val (.int p4), .val (.int p5), .val (.int (p1 &&& (268435455 : Int32))), .val (.int (p2 &&& (268435455 : Int32))), .val (.int (p3 &&& (268435455 : Int32))), .val (.int (p4 &&& (268435455 : Int32))), .val (.int (p5 &&& (3 : Int32))), .val (.ref ba), .val (.ref bw), .val (.double dr), .second, .val (.int ((((p1 &&& (268435455 : Int32)) + (p2 &&& (268435455 : Int32))) + (p3 &&& (268435455 : Int32))) + (p4 &&& (268435455 : Int32)))), .unset, .unset, .unset] [(.int (p4 &&& (268435455 : Int32)))])) _
          refine XS.istore X43.here hx rfl (hb hby at_153) rfl (l' := #[.val (.int p1), .val (.int p2), .val (.int p3), .val (.int p4), .val (.int p5), .val (.int (p1 &&& (268435455 : Int32))), .val (.int (p2 &&& (268435455 : Int32))), .val (.int (p3 &&& (268435455 : Int32))), .val (.int (p4 &&& (268435455 : Int32))), .val (.int (p5 &&& (3 : Int32))), .val (.ref ba), .val (.ref bw), .val (.double dr), .second, .val (.int ((((p1 &&& (268435455 : Int32)) + (p2 &&& (268435455 : Int32))) + (p3 &&& (268435455 : Int32))) + (p4 &&& (268435455 : Int32)))), .val (.int (p4 &&& (268435455 : Int32))), .unset, .unset]) rfl ?_
          exact k
  obtain ⟨dx, hm46, mg46⟩ : ∃ dx : UInt64, (dx = dr) ∧ ∀ t, Steps p.tables e below (T43.setTop (mkF m 175 #[.val (.int p1), .val (.int p2), .val (.int p3), .val (.int p4), .val (.int p5), .val (.int (p1 &&& (268435455 : Int32))), .val (.int (p2 &&& (268435455 : Int32))), .val (.int (p3 &&& (268435455 : Int32))), .val (.int (p4 &&& (268435455 : Int32))), .val (.int (p5 &&& (3 : Int32))), .val (.ref ba), .val (.ref bw), .val (.double dr), .second, .val (.int ((((p1 &&& (268435455 : Int32)) + (p2 &&& (268435455 : Int32))) + (p3 &&& (268435455 : Int32))) + (p4 &&& (268435455 : Int32)))), .val (.int xc), .val (.double dx), .second] [])) t → Steps p.tables e below (T43.setTop (mkF m 157 #[.val (.int p1), .val (.int p2), .val (.int p3), .val (.int p4), .val (.int p5), .val (.int (p1 &&& (268435455 : Int32))), .val (.int (p2 &&& (268435455 : Int32))), .val (.int (p3 &&& (268435455 : Int32))), .val (.int (p4 &&& (268435455 : Int32))), .val (.int (p5 &&& (3 : Int32))), .val (.ref ba), .val (.ref bw), .val (.double dr), .second, .val (.int ((((p1 &&& (268435455 : Int32)) + (p2 &&& (268435455 : Int32))) + (p3 &&& (268435455 : Int32))) + (p4 &&& (268435455 : Int32)))), .val (.int xc), .unset, .unset] [(.int ((((p1 &&& (268435455 : Int32)) + (p2 &&& (268435455 : Int32))) + (p3 &&& (268435455 : Int32))) + (p4 &&& (268435455 : Int32))))])) t := by
    rcases hdr with ⟨h1, h2⟩ | ⟨h1, h2⟩
    ·
      refine ⟨FP.dconst0, h2.symm, fun t k => ?_⟩
      show Steps p.tables e below (T43.setTop (mkF m 157 #[.val (.int p1), .val (.int p2), .val (.int p3), .val (.int p4), .val (.int p5), .val (.int (p1 &&& (268435455 : Int32))), .val (.int (p2 &&& (268435455 : Int32))), .val (.int (p3 &&& (268435455 : Int32))), .val (.int (p4 &&& (268435455 : Int32))), .val (.int (p5 &&& (3 : Int32))), .val (.ref ba), .val (.ref bw), .val (.double dr), .second, .val (.int ((((p1 &&& (268435455 : Int32)) + (p2 &&& (268435455 : Int32))) + (p3 &&& (268435455 : Int32))) + (p4 &&& (268435455 : Int32)))), .val (.int xc), .unset, .unset] [(.int ((((p1 &&& (268435455 : Int32)) + (p2 &&& (268435455 : Int32))) + (p3 &&& (268435455 : Int32))) + (p4 &&& (268435455 : Int32))))])) _
      refine XS.ifNo X43.here hx rfl (hb hby at_157) rfl ((if0 _ _).trans (teq (htt.symm.trans h1 : ((((p1 &&& (268435455 : Int32)) + (p2 &&& (268435455 : Int32))) + (p3 &&& (268435455 : Int32))) + (p4 &&& (268435455 : Int32))) = (0 : Int32))).2) ?_
      show Steps p.tables e below (T43.setTop (mkF m 160 #[.val (.int p1), .val (.int p2), .val (.int p3), .val (.int p4), .val (.int p5), .val (.int (p1 &&& (268435455 : Int32))), .val (.int (p2 &&& (268435455 : Int32))), .val (.int (p3 &&& (268435455 : Int32))), .val (.int (p4 &&& (268435455 : Int32))), .val (.int (p5 &&& (3 : Int32))), .val (.ref ba), .val (.ref bw), .val (.double dr), .second, .val (.int ((((p1 &&& (268435455 : Int32)) + (p2 &&& (268435455 : Int32))) + (p3 &&& (268435455 : Int32))) + (p4 &&& (268435455 : Int32)))), .val (.int xc), .unset, .unset] [])) _
      refine XS.dconst0 X43.here hx rfl (hb hby at_160) rfl ?_
      show Steps p.tables e below (T43.setTop (mkF m 161 #[.val (.int p1), .val (.int p2), .val (.int p3), .val (.int p4), .val (.int p5), .val (.int (p1 &&& (268435455 : Int32))), .val (.int (p2 &&& (268435455 : Int32))), .val (.int (p3 &&& (268435455 : Int32))), .val (.int (p4 &&& (268435455 : Int32))), .val (.int (p5 &&& (3 : Int32))), .val (.ref ba), .val (.ref bw), .val (.double dr), .second, .val (.int ((((p1 &&& (268435455 : Int32)) + (p2 &&& (268435455 : Int32))) + (p3 &&& (268435455 : Int32))) + (p4 &&& (268435455 : Int32)))), .val (.int xc), .unset, .unset] [(.double FP.dconst0)])) _
      refine XS.dstore X43.here hx rfl (hb hby at_161) rfl (l' := #[.val (.int p1), .val (.int p2), .val (.int p3), .val (.int p4), .val (.int p5), .val (.int (p1 &&& (268435455 : Int32))), .val (.int (p2 &&& (268435455 : Int32))), .val (.int (p3 &&& (268435455 : Int32))), .val (.int (p4 &&& (268435455 : Int32))), .val (.int (p5 &&& (3 : Int32))), .val (.ref ba), .val (.ref bw), .val (.double dr), .second, .val (.int ((((p1 &&& (268435455 : Int32)) + (p2 &&& (268435455 : Int32))) + (p3 &&& (268435455 : Int32))) + (p4 &&& (268435455 : Int32)))), .val (.int xc), .val (.double FP.dconst0), .second]) rfl ?_
      show Steps p.tables e below (T43.setTop (mkF m 163 #[.val (.int p1), .val (.int p2), .val (.int p3), .val (.int p4), .val (.int p5), .val (.int (p1 &&& (268435455 : Int32))), .val (.int (p2 &&& (268435455 : Int32))), .val (.int (p3 &&& (268435455 : Int32))), .val (.int (p4 &&& (268435455 : Int32))), .val (.int (p5 &&& (3 : Int32))), .val (.ref ba), .val (.ref bw), .val (.double dr), .second, .val (.int ((((p1 &&& (268435455 : Int32)) + (p2 &&& (268435455 : Int32))) + (p3 &&& (268435455 : Int32))) + (p4 &&& (268435455 : Int32)))), .val (.int xc), .val (.double FP.dconst0), .second] [])) _
      refine XS.goto X43.here hx rfl (pc0 := 163) (pc' := 175) rfl (hb hby at_163) (by decide) (by decide) ?_
      exact k
    ·
      refine ⟨(FP.ddiv (FP.i2d xc) (FP.i2d ((((p1 &&& (268435455 : Int32)) + (p2 &&& (268435455 : Int32))) + (p3 &&& (268435455 : Int32))) + (p4 &&& (268435455 : Int32))))), (by rw [h2, hm45, htt]), fun t k => ?_⟩
      show Steps p.tables e below (T43.setTop (mkF m 157 #[.val (.int p1), .val (.int p2), .val (.int p3), .val (.int p4), .val (.int p5), .val (.int (p1 &&& (268435455 : Int32))), .val (.int (p2 &&& (268435455 : Int32))), .val (.int (p3 &&& (268435455 : Int32))), .val (.int (p4 &&& (268435455 : Int32))), .val (.int (p5 &&& (3 : Int32))), .val (.ref ba), .val (.ref bw), .val (.double dr), .second, .val (.int ((((p1 &&& (268435455 : Int32)) + (p2 &&& (268435455 : Int32))) + (p3 &&& (268435455 : Int32))) + (p4 &&& (268435455 : Int32)))), .val (.int xc), .unset, .unset] [(.int ((((p1 &&& (268435455 : Int32)) + (p2 &&& (268435455 : Int32))) + (p3 &&& (268435455 : Int32))) + (p4 &&& (268435455 : Int32))))])) _
      refine XS.ifYes X43.here hx rfl (pc0 := 157) (pc' := 166) rfl (hb hby at_157) rfl ((if0 _ _).trans (feq (fun q => h1 (htt.trans q) : ¬ (((((p1 &&& (268435455 : Int32)) + (p2 &&& (268435455 : Int32))) + (p3 &&& (268435455 : Int32))) + (p4 &&& (268435455 : Int32))) = (0 : Int32)))).2) (by decide) (by decide) ?_
      show Steps p.tables e below (T43.setTop (mkF m 166 #[.val (.int p1), .val (.int p2), .val (.int p3), .val (.int p4), .val (.int p5), .val (.int (p1 &&& (268435455 : Int32))), .val (.int (p2 &&& (268435455 : Int32))), .val (.int (p3 &&& (268435455 : Int32))), .val (.int (p4 &&& (268435455 : Int32))), .val (.int (p5 &&& (3 : Int32))), .val (.ref ba), .val (.ref bw), .val (.double dr), .second, .val (.int ((((p1 &&& (268435455 : Int32)) + (p2 &&& (268435455 : Int32))) + (p3 &&& (268435455 : Int32))) + (p4 &&& (268435455 : Int32)))), .val (.int xc), .unset, .unset] [])) _
      refine XS.iload X43.here hx rfl (hb hby at_166) rfl ?_
      show Steps p.tables e below (T43.setTop (mkF m 168 #[.val (.int p1), .val (.int p2), .val (.int p3), .val (.int p4), .val (.int p5), .val (.int (p1 &&& (268435455 : Int32))), .val (.int (p2 &&& (268435455 : Int32))), .val (.int (p3 &&& (268435455 : Int32))), .val (.int (p4 &&& (268435455 : Int32))), .val (.int (p5 &&& (3 : Int32))), .val (.ref ba), .val (.ref bw), .val (.double dr), .second, .val (.int ((((p1 &&& (268435455 : Int32)) + (p2 &&& (268435455 : Int32))) + (p3 &&& (268435455 : Int32))) + (p4 &&& (268435455 : Int32)))), .val (.int xc), .unset, .unset] [(.int xc)])) _
      refine XS.i2dS X43.here hx rfl (hb hby at_168) rfl rfl ?_
      show Steps p.tables e below (T43.setTop (mkF m 169 #[.val (.int p1), .val (.int p2), .val (.int p3), .val (.int p4), .val (.int p5), .val (.int (p1 &&& (268435455 : Int32))), .val (.int (p2 &&& (268435455 : Int32))), .val (.int (p3 &&& (268435455 : Int32))), .val (.int (p4 &&& (268435455 : Int32))), .val (.int (p5 &&& (3 : Int32))), .val (.ref ba), .val (.ref bw), .val (.double dr), .second, .val (.int ((((p1 &&& (268435455 : Int32)) + (p2 &&& (268435455 : Int32))) + (p3 &&& (268435455 : Int32))) + (p4 &&& (268435455 : Int32)))), .val (.int xc), .unset, .unset] [(.double (FP.i2d xc))])) _
      refine XS.iload X43.here hx rfl (hb hby at_169) rfl ?_
      show Steps p.tables e below (T43.setTop (mkF m 171 #[.val (.int p1), .val (.int p2), .val (.int p3), .val (.int p4), .val (.int p5), .val (.int (p1 &&& (268435455 : Int32))), .val (.int (p2 &&& (268435455 : Int32))), .val (.int (p3 &&& (268435455 : Int32))), .val (.int (p4 &&& (268435455 : Int32))), .val (.int (p5 &&& (3 : Int32))), .val (.ref ba), .val (.ref bw), .val (.double dr), .second, .val (.int ((((p1 &&& (268435455 : Int32)) + (p2 &&& (268435455 : Int32))) + (p3 &&& (268435455 : Int32))) + (p4 &&& (268435455 : Int32)))), .val (.int xc), .unset, .unset] [(.int ((((p1 &&& (268435455 : Int32)) + (p2 &&& (268435455 : Int32))) + (p3 &&& (268435455 : Int32))) + (p4 &&& (268435455 : Int32)))), (.double (FP.i2d xc))])) _
      refine XS.i2dS X43.here hx rfl (hb hby at_171) rfl rfl ?_
      show Steps p.tables e below (T43.setTop (mkF m 172 #[.val (.int p1), .val (.int p2), .val (.int p3), .val (.int p4), .val (.int p5), .val (.int (p1 &&& (268435455 : Int32))), .val (.int (p2 &&& (268435455 : Int32))), .val (.int (p3 &&& (268435455 : Int32))), .val (.int (p4 &&& (268435455 : Int32))), .val (.int (p5 &&& (3 : Int32))), .val (.ref ba), .val (.ref bw), .val (.double dr), .second, .val (.int ((((p1 &&& (268435455 : Int32)) + (p2 &&& (268435455 : Int32))) + (p3 &&& (268435455 : Int32))) + (p4 &&& (268435455 : Int32)))), .val (.int xc), .unset, .unset] [(.double (FP.i2d ((((p1 &&& (268435455 : Int32)) + (p2 &&& (268435455 : Int32))) + (p3 &&& (268435455 : Int32))) + (p4 &&& (268435455 : Int32))))), (.double (FP.i2d xc))])) _
      refine XS.ddivS X43.here hx rfl (hb hby at_172) rfl (own_nd xc (fun q => h1 (htt.trans q))) rfl ?_
      show Steps p.tables e below (T43.setTop (mkF m 173 #[.val (.int p1), .val (.int p2), .val (.int p3), .val (.int p4), .val (.int p5), .val (.int (p1 &&& (268435455 : Int32))), .val (.int (p2 &&& (268435455 : Int32))), .val (.int (p3 &&& (268435455 : Int32))), .val (.int (p4 &&& (268435455 : Int32))), .val (.int (p5 &&& (3 : Int32))), .val (.ref ba), .val (.ref bw), .val (.double dr), .second, .val (.int ((((p1 &&& (268435455 : Int32)) + (p2 &&& (268435455 : Int32))) + (p3 &&& (268435455 : Int32))) + (p4 &&& (268435455 : Int32)))), .val (.int xc), .unset, .unset] [(.double (FP.ddiv (FP.i2d xc) (FP.i2d ((((p1 &&& (268435455 : Int32)) + (p2 &&& (268435455 : Int32))) + (p3 &&& (268435455 : Int32))) + (p4 &&& (268435455 : Int32))))))])) _
      refine XS.dstore X43.here hx rfl (hb hby at_173) rfl (l' := #[.val (.int p1), .val (.int p2), .val (.int p3), .val (.int p4), .val (.int p5), .val (.int (p1 &&& (268435455 : Int32))), .val (.int (p2 &&& (268435455 : Int32))), .val (.int (p3 &&& (268435455 : Int32))), .val (.int (p4 &&& (268435455 : Int32))), .val (.int (p5 &&& (3 : Int32))), .val (.ref ba), .val (.ref bw), .val (.double dr), .second, .val (.int ((((p1 &&& (268435455 : Int32)) + (p2 &&& (268435455 : Int32))) + (p3 &&& (268435455 : Int32))) + (p4 &&& (268435455 : Int32)))), .val (.int xc), .val (.double (FP.ddiv (FP.i2d xc) (FP.i2d ((((p1 &&& (268435455 : Int32)) + (p2 &&& (268435455 : Int32))) + (p3 &&& (268435455 : Int32))) + (p4 &&& (268435455 : Int32)))))), .second]) rfl ?_
      exact k
  have hcm : cmpValue (FP.dcmp dr dx) .l = (0 : Int32) := by rw [hm46]; exact dcmpV_self hnn _
  obtain ⟨fs, hr, hrun, hended, hW, hsame⟩ := X43.leave (v := some (.int (1 : Int32))) (fun h => by rw [Bd.returns] at h; cases h)
  refine ⟨_, _, pre0 _ ?_, hrun, hended, _, _, rfl, ?_, ⟨_, rfl⟩, hW, hsame.mono (by decide) (by decide)⟩
  · show Steps p.tables e below (s₁.setTop (mkF m 0 #[.val (.int p1), .val (.int p2), .val (.int p3), .val (.int p4), .val (.int p5), .unset, .unset, .unset, .unset, .unset, .unset, .unset, .unset, .unset, .unset, .unset, .unset, .unset] [])) _
    refine XS.iloadN X0.here hx rfl (hb hby at_0) rfl ?_
    show Steps p.tables e below (s₁.setTop (mkF m 1 #[.val (.int p1), .val (.int p2), .val (.int p3), .val (.int p4), .val (.int p5), .unset, .unset, .unset, .unset, .unset, .unset, .unset, .unset, .unset, .unset, .unset, .unset, .unset] [(.int p1)])) _
    refine X0.ldcInt hx hown (mvT hZ (hw _ (List.mem_of_getElem? (i := 0) rfl))) (g := (mkF m 1 #[.val (.int p1), .val (.int p2), .val (.int p3), .val (.int p4), .val (.int p5), .unset, .unset, .unset, .unset, .unset, .unset, .unset, .unset, .unset, .unset, .unset, .unset, .unset] [(.int p1)])) rfl (hb hby at_1) _ ?_
    show Steps p.tables e below (s₁.setTop (mkF m 3 #[.val (.int p1), .val (.int p2), .val (.int p3), .val (.int p4), .val (.int p5), .unset, .unset, .unset, .unset, .unset, .unset, .unset, .unset, .unset, .unset, .unset, .unset, .unset] [(.int (268435455 : Int32)), (.int p1)])) _
    refine XS.iand X0.here hx rfl (hb hby at_3) rfl ?_
    show Steps p.tables e below (s₁.setTop (mkF m 4 #[.val (.int p1), .val (.int p2), .val (.int p3), .val (.int p4), .val (.int p5), .unset, .unset, .unset, .unset, .unset, .unset, .unset, .unset, .unset, .unset, .unset, .unset, .unset] [(.int (p1 &&& (268435455 : Int32)))])) _
    refine XS.istore X0.here hx rfl (hb hby at_4) rfl (l' := #[.val (.int p1), .val (.int p2), .val (.int p3), .val (.int p4), .val (.int p5), .val (.int (p1 &&& (268435455 : Int32))), .unset, .unset, .unset, .unset, .unset, .unset, .unset, .unset, .unset, .unset, .unset, .unset]) rfl ?_
    show Steps p.tables e below (s₁.setTop (mkF m 6 #[.val (.int p1), .val (.int p2), .val (.int p3), .val (.int p4), .val (.int p5), .val (.int (p1 &&& (268435455 : Int32))), .unset, .unset, .unset, .unset, .unset, .unset, .unset, .unset, .unset, .unset, .unset, .unset] [])) _
    refine XS.iloadN X0.here hx rfl (hb hby at_6) rfl ?_
    show Steps p.tables e below (s₁.setTop (mkF m 7 #[.val (.int p1), .val (.int p2), .val (.int p3), .val (.int p4), .val (.int p5), .val (.int (p1 &&& (268435455 : Int32))), .unset, .unset, .unset, .unset, .unset, .unset, .unset, .unset, .unset, .unset, .unset, .unset] [(.int p2)])) _
    refine X0.ldcInt hx hown (mvT hZ (hw _ (List.mem_of_getElem? (i := 0) rfl))) (g := (mkF m 7 #[.val (.int p1), .val (.int p2), .val (.int p3), .val (.int p4), .val (.int p5), .val (.int (p1 &&& (268435455 : Int32))), .unset, .unset, .unset, .unset, .unset, .unset, .unset, .unset, .unset, .unset, .unset, .unset] [(.int p2)])) rfl (hb hby at_7) _ ?_
    show Steps p.tables e below (s₁.setTop (mkF m 9 #[.val (.int p1), .val (.int p2), .val (.int p3), .val (.int p4), .val (.int p5), .val (.int (p1 &&& (268435455 : Int32))), .unset, .unset, .unset, .unset, .unset, .unset, .unset, .unset, .unset, .unset, .unset, .unset] [(.int (268435455 : Int32)), (.int p2)])) _
    refine XS.iand X0.here hx rfl (hb hby at_9) rfl ?_
    show Steps p.tables e below (s₁.setTop (mkF m 10 #[.val (.int p1), .val (.int p2), .val (.int p3), .val (.int p4), .val (.int p5), .val (.int (p1 &&& (268435455 : Int32))), .unset, .unset, .unset, .unset, .unset, .unset, .unset, .unset, .unset, .unset, .unset, .unset] [(.int (p2 &&& (268435455 : Int32)))])) _
    refine XS.istore X0.here hx rfl (hb hby at_10) rfl (l' := #[.val (.int p1), .val (.int p2), .val (.int p3), .val (.int p4), .val (.int p5), .val (.int (p1 &&& (268435455 : Int32))), .val (.int (p2 &&& (268435455 : Int32))), .unset, .unset, .unset, .unset, .unset, .unset, .unset, .unset, .unset, .unset, .unset]) rfl ?_
    show Steps p.tables e below (s₁.setTop (mkF m 12 #[.val (.int p1), .val (.int p2), .val (.int p3), .val (.int p4), .val (.int p5), .val (.int (p1 &&& (268435455 : Int32))), .val (.int (p2 &&& (268435455 : Int32))), .unset, .unset, .unset, .unset, .unset, .unset, .unset, .unset, .unset, .unset, .unset] [])) _
    refine XS.iloadN X0.here hx rfl (hb hby at_12) rfl ?_
    show Steps p.tables e below (s₁.setTop (mkF m 13 #[.val (.int p1), .val (.int p2), .val (.int p3), .val (.int p4), .val (.int p5), .val (.int (p1 &&& (268435455 : Int32))), .val (.int (p2 &&& (268435455 : Int32))), .unset, .unset, .unset, .unset, .unset, .unset, .unset, .unset, .unset, .unset, .unset] [(.int p3)])) _
    refine X0.ldcInt hx hown (mvT hZ (hw _ (List.mem_of_getElem? (i := 0) rfl))) (g := (mkF m 13 #[.val (.int p1), .val (.int p2), .val (.int p3), .val (.int p4), .val (.int p5), .val (.int (p1 &&& (268435455 : Int32))), .val (.int (p2 &&& (268435455 : Int32))), .unset, .unset, .unset, .unset, .unset, .unset, .unset, .unset, .unset, .unset, .unset] [(.int p3)])) rfl (hb hby at_13) _ ?_
    show Steps p.tables e below (s₁.setTop (mkF m 15 #[.val (.int p1), .val (.int p2), .val (.int p3), .val (.int p4), .val (.int p5), .val (.int (p1 &&& (268435455 : Int32))), .val (.int (p2 &&& (268435455 : Int32))), .unset, .unset, .unset, .unset, .unset, .unset, .unset, .unset, .unset, .unset, .unset] [(.int (268435455 : Int32)), (.int p3)])) _
    refine XS.iand X0.here hx rfl (hb hby at_15) rfl ?_
    show Steps p.tables e below (s₁.setTop (mkF m 16 #[.val (.int p1), .val (.int p2), .val (.int p3), .val (.int p4), .val (.int p5), .val (.int (p1 &&& (268435455 : Int32))), .val (.int (p2 &&& (268435455 : Int32))), .unset, .unset, .unset, .unset, .unset, .unset, .unset, .unset, .unset, .unset, .unset] [(.int (p3 &&& (268435455 : Int32)))])) _
    refine XS.istore X0.here hx rfl (hb hby at_16) rfl (l' := #[.val (.int p1), .val (.int p2), .val (.int p3), .val (.int p4), .val (.int p5), .val (.int (p1 &&& (268435455 : Int32))), .val (.int (p2 &&& (268435455 : Int32))), .val (.int (p3 &&& (268435455 : Int32))), .unset, .unset, .unset, .unset, .unset, .unset, .unset, .unset, .unset, .unset]) rfl ?_
    show Steps p.tables e below (s₁.setTop (mkF m 18 #[.val (.int p1), .val (.int p2), .val (.int p3), .val (.int p4), .val (.int p5), .val (.int (p1 &&& (268435455 : Int32))), .val (.int (p2 &&& (268435455 : Int32))), .val (.int (p3 &&& (268435455 : Int32))), .unset, .unset, .unset, .unset, .unset, .unset, .unset, .unset, .unset, .unset] [])) _
    refine XS.iloadN X0.here hx rfl (hb hby at_18) rfl ?_
    show Steps p.tables e below (s₁.setTop (mkF m 19 #[.val (.int p1), .val (.int p2), .val (.int p3), .val (.int p4), .val (.int p5), .val (.int (p1 &&& (268435455 : Int32))), .val (.int (p2 &&& (268435455 : Int32))), .val (.int (p3 &&& (268435455 : Int32))), .unset, .unset, .unset, .unset, .unset, .unset, .unset, .unset, .unset, .unset] [(.int p4)])) _
    refine X0.ldcInt hx hown (mvT hZ (hw _ (List.mem_of_getElem? (i := 0) rfl))) (g := (mkF m 19 #[.val (.int p1), .val (.int p2), .val (.int p3), .val (.int p4), .val (.int p5), .val (.int (p1 &&& (268435455 : Int32))), .val (.int (p2 &&& (268435455 : Int32))), .val (.int (p3 &&& (268435455 : Int32))), .unset, .unset, .unset, .unset, .unset, .unset, .unset, .unset, .unset, .unset] [(.int p4)])) rfl (hb hby at_19) _ ?_
    show Steps p.tables e below (s₁.setTop (mkF m 21 #[.val (.int p1), .val (.int p2), .val (.int p3), .val (.int p4), .val (.int p5), .val (.int (p1 &&& (268435455 : Int32))), .val (.int (p2 &&& (268435455 : Int32))), .val (.int (p3 &&& (268435455 : Int32))), .unset, .unset, .unset, .unset, .unset, .unset, .unset, .unset, .unset, .unset] [(.int (268435455 : Int32)), (.int p4)])) _
    refine XS.iand X0.here hx rfl (hb hby at_21) rfl ?_
    show Steps p.tables e below (s₁.setTop (mkF m 22 #[.val (.int p1), .val (.int p2), .val (.int p3), .val (.int p4), .val (.int p5), .val (.int (p1 &&& (268435455 : Int32))), .val (.int (p2 &&& (268435455 : Int32))), .val (.int (p3 &&& (268435455 : Int32))), .unset, .unset, .unset, .unset, .unset, .unset, .unset, .unset, .unset, .unset] [(.int (p4 &&& (268435455 : Int32)))])) _
    refine XS.istore X0.here hx rfl (hb hby at_22) rfl (l' := #[.val (.int p1), .val (.int p2), .val (.int p3), .val (.int p4), .val (.int p5), .val (.int (p1 &&& (268435455 : Int32))), .val (.int (p2 &&& (268435455 : Int32))), .val (.int (p3 &&& (268435455 : Int32))), .val (.int (p4 &&& (268435455 : Int32))), .unset, .unset, .unset, .unset, .unset, .unset, .unset, .unset, .unset]) rfl ?_
    show Steps p.tables e below (s₁.setTop (mkF m 24 #[.val (.int p1), .val (.int p2), .val (.int p3), .val (.int p4), .val (.int p5), .val (.int (p1 &&& (268435455 : Int32))), .val (.int (p2 &&& (268435455 : Int32))), .val (.int (p3 &&& (268435455 : Int32))), .val (.int (p4 &&& (268435455 : Int32))), .unset, .unset, .unset, .unset, .unset, .unset, .unset, .unset, .unset] [])) _
    refine XS.iload X0.here hx rfl (hb hby at_24) rfl ?_
    show Steps p.tables e below (s₁.setTop (mkF m 26 #[.val (.int p1), .val (.int p2), .val (.int p3), .val (.int p4), .val (.int p5), .val (.int (p1 &&& (268435455 : Int32))), .val (.int (p2 &&& (268435455 : Int32))), .val (.int (p3 &&& (268435455 : Int32))), .val (.int (p4 &&& (268435455 : Int32))), .unset, .unset, .unset, .unset, .unset, .unset, .unset, .unset, .unset] [(.int p5)])) _
    refine XS.iconst X0.here hx rfl (hb hby at_26) ?_
    show Steps p.tables e below (s₁.setTop (mkF m 27 #[.val (.int p1), .val (.int p2), .val (.int p3), .val (.int p4), .val (.int p5), .val (.int (p1 &&& (268435455 : Int32))), .val (.int (p2 &&& (268435455 : Int32))), .val (.int (p3 &&& (268435455 : Int32))), .val (.int (p4 &&& (268435455 : Int32))), .unset, .unset, .unset, .unset, .unset, .unset, .unset, .unset, .unset] [(.int (3 : Int32)), (.int p5)])) _
    refine XS.iand X0.here hx rfl (hb hby at_27) rfl ?_
    show Steps p.tables e below (s₁.setTop (mkF m 28 #[.val (.int p1), .val (.int p2), .val (.int p3), .val (.int p4), .val (.int p5), .val (.int (p1 &&& (268435455 : Int32))), .val (.int (p2 &&& (268435455 : Int32))), .val (.int (p3 &&& (268435455 : Int32))), .val (.int (p4 &&& (268435455 : Int32))), .unset, .unset, .unset, .unset, .unset, .unset, .unset, .unset, .unset] [(.int (p5 &&& (3 : Int32)))])) _
    refine XS.istore X0.here hx rfl (hb hby at_28) rfl (l' := #[.val (.int p1), .val (.int p2), .val (.int p3), .val (.int p4), .val (.int p5), .val (.int (p1 &&& (268435455 : Int32))), .val (.int (p2 &&& (268435455 : Int32))), .val (.int (p3 &&& (268435455 : Int32))), .val (.int (p4 &&& (268435455 : Int32))), .val (.int (p5 &&& (3 : Int32))), .unset, .unset, .unset, .unset, .unset, .unset, .unset, .unset]) rfl ?_
    show Steps p.tables e below (s₁.setTop (mkF m 30 #[.val (.int p1), .val (.int p2), .val (.int p3), .val (.int p4), .val (.int p5), .val (.int (p1 &&& (268435455 : Int32))), .val (.int (p2 &&& (268435455 : Int32))), .val (.int (p3 &&& (268435455 : Int32))), .val (.int (p4 &&& (268435455 : Int32))), .val (.int (p5 &&& (3 : Int32))), .unset, .unset, .unset, .unset, .unset, .unset, .unset, .unset] [])) _
    refine XS.iconst X0.here hx rfl (hb hby at_30) ?_
    show Steps p.tables e below (s₁.setTop (mkF m 31 #[.val (.int p1), .val (.int p2), .val (.int p3), .val (.int p4), .val (.int p5), .val (.int (p1 &&& (268435455 : Int32))), .val (.int (p2 &&& (268435455 : Int32))), .val (.int (p3 &&& (268435455 : Int32))), .val (.int (p4 &&& (268435455 : Int32))), .val (.int (p5 &&& (3 : Int32))), .unset, .unset, .unset, .unset, .unset, .unset, .unset, .unset] [(.int (4 : Int32))])) _
    refine st1 _ ?_
    show Steps p.tables e below (T1.setTop (mkF m 33 #[.val (.int p1), .val (.int p2), .val (.int p3), .val (.int p4), .val (.int p5), .val (.int (p1 &&& (268435455 : Int32))), .val (.int (p2 &&& (268435455 : Int32))), .val (.int (p3 &&& (268435455 : Int32))), .val (.int (p4 &&& (268435455 : Int32))), .val (.int (p5 &&& (3 : Int32))), .unset, .unset, .unset, .unset, .unset, .unset, .unset, .unset] [(.ref ba)])) _
    refine XS.astore X1.here hx rfl (hb hby at_33) rfl rfl (l' := #[.val (.int p1), .val (.int p2), .val (.int p3), .val (.int p4), .val (.int p5), .val (.int (p1 &&& (268435455 : Int32))), .val (.int (p2 &&& (268435455 : Int32))), .val (.int (p3 &&& (268435455 : Int32))), .val (.int (p4 &&& (268435455 : Int32))), .val (.int (p5 &&& (3 : Int32))), .val (.ref ba), .unset, .unset, .unset, .unset, .unset, .unset, .unset]) rfl ?_
    show Steps p.tables e below (T1.setTop (mkF m 35 #[.val (.int p1), .val (.int p2), .val (.int p3), .val (.int p4), .val (.int p5), .val (.int (p1 &&& (268435455 : Int32))), .val (.int (p2 &&& (268435455 : Int32))), .val (.int (p3 &&& (268435455 : Int32))), .val (.int (p4 &&& (268435455 : Int32))), .val (.int (p5 &&& (3 : Int32))), .val (.ref ba), .unset, .unset, .unset, .unset, .unset, .unset, .unset] [])) _
    refine XS.aload X1.here hx rfl (hb hby at_35) rfl rfl ?_
    show Steps p.tables e below (T1.setTop (mkF m 37 #[.val (.int p1), .val (.int p2), .val (.int p3), .val (.int p4), .val (.int p5), .val (.int (p1 &&& (268435455 : Int32))), .val (.int (p2 &&& (268435455 : Int32))), .val (.int (p3 &&& (268435455 : Int32))), .val (.int (p4 &&& (268435455 : Int32))), .val (.int (p5 &&& (3 : Int32))), .val (.ref ba), .unset, .unset, .unset, .unset, .unset, .unset, .unset] [(.ref ba)])) _
    refine XS.iconst X1.here hx rfl (hb hby at_37) ?_
    show Steps p.tables e below (T1.setTop (mkF m 38 #[.val (.int p1), .val (.int p2), .val (.int p3), .val (.int p4), .val (.int p5), .val (.int (p1 &&& (268435455 : Int32))), .val (.int (p2 &&& (268435455 : Int32))), .val (.int (p3 &&& (268435455 : Int32))), .val (.int (p4 &&& (268435455 : Int32))), .val (.int (p5 &&& (3 : Int32))), .val (.ref ba), .unset, .unset, .unset, .unset, .unset, .unset, .unset] [(.int (0 : Int32)), (.ref ba)])) _
    refine XS.iload X1.here hx rfl (hb hby at_38) rfl ?_
    show Steps p.tables e below (T1.setTop (mkF m 40 #[.val (.int p1), .val (.int p2), .val (.int p3), .val (.int p4), .val (.int p5), .val (.int (p1 &&& (268435455 : Int32))), .val (.int (p2 &&& (268435455 : Int32))), .val (.int (p3 &&& (268435455 : Int32))), .val (.int (p4 &&& (268435455 : Int32))), .val (.int (p5 &&& (3 : Int32))), .val (.ref ba), .unset, .unset, .unset, .unset, .unset, .unset, .unset] [(.int (p1 &&& (268435455 : Int32))), (.int (0 : Int32)), (.ref ba)])) _
    refine st4 _ ?_
    show Steps p.tables e below (T4.setTop (mkF m 41 #[.val (.int p1), .val (.int p2), .val (.int p3), .val (.int p4), .val (.int p5), .val (.int (p1 &&& (268435455 : Int32))), .val (.int (p2 &&& (268435455 : Int32))), .val (.int (p3 &&& (268435455 : Int32))), .val (.int (p4 &&& (268435455 : Int32))), .val (.int (p5 &&& (3 : Int32))), .val (.ref ba), .unset, .unset, .unset, .unset, .unset, .unset, .unset] [])) _
    refine XS.aload X4.here hx rfl (hb hby at_41) rfl rfl ?_
    show Steps p.tables e below (T4.setTop (mkF m 43 #[.val (.int p1), .val (.int p2), .val (.int p3), .val (.int p4), .val (.int p5), .val (.int (p1 &&& (268435455 : Int32))), .val (.int (p2 &&& (268435455 : Int32))), .val (.int (p3 &&& (268435455 : Int32))), .val (.int (p4 &&& (268435455 : Int32))), .val (.int (p5 &&& (3 : Int32))), .val (.ref ba), .unset, .unset, .unset, .unset, .unset, .unset, .unset] [(.ref ba)])) _
    refine XS.iconst X4.here hx rfl (hb hby at_43) ?_
    show Steps p.tables e below (T4.setTop (mkF m 44 #[.val (.int p1), .val (.int p2), .val (.int p3), .val (.int p4), .val (.int p5), .val (.int (p1 &&& (268435455 : Int32))), .val (.int (p2 &&& (268435455 : Int32))), .val (.int (p3 &&& (268435455 : Int32))), .val (.int (p4 &&& (268435455 : Int32))), .val (.int (p5 &&& (3 : Int32))), .val (.ref ba), .unset, .unset, .unset, .unset, .unset, .unset, .unset] [(.int (1 : Int32)), (.ref ba)])) _
    refine XS.iload X4.here hx rfl (hb hby at_44) rfl ?_
    show Steps p.tables e below (T4.setTop (mkF m 46 #[.val (.int p1), .val (.int p2), .val (.int p3), .val (.int p4), .val (.int p5), .val (.int (p1 &&& (268435455 : Int32))), .val (.int (p2 &&& (268435455 : Int32))), .val (.int (p3 &&& (268435455 : Int32))), .val (.int (p4 &&& (268435455 : Int32))), .val (.int (p5 &&& (3 : Int32))), .val (.ref ba), .unset, .unset, .unset, .unset, .unset, .unset, .unset] [(.int (p2 &&& (268435455 : Int32))), (.int (1 : Int32)), (.ref ba)])) _
    refine st7 _ ?_
    show Steps p.tables e below (T7.setTop (mkF m 47 #[.val (.int p1), .val (.int p2), .val (.int p3), .val (.int p4), .val (.int p5), .val (.int (p1 &&& (268435455 : Int32))), .val (.int (p2 &&& (268435455 : Int32))), .val (.int (p3 &&& (268435455 : Int32))), .val (.int (p4 &&& (268435455 : Int32))), .val (.int (p5 &&& (3 : Int32))), .val (.ref ba), .unset, .unset, .unset, .unset, .unset, .unset, .unset] [])) _
    refine XS.aload X7.here hx rfl (hb hby at_47) rfl rfl ?_
    show Steps p.tables e below (T7.setTop (mkF m 49 #[.val (.int p1), .val (.int p2), .val (.int p3), .val (.int p4), .val (.int p5), .val (.int (p1 &&& (268435455 : Int32))), .val (.int (p2 &&& (268435455 : Int32))), .val (.int (p3 &&& (268435455 : Int32))), .val (.int (p4 &&& (268435455 : Int32))), .val (.int (p5 &&& (3 : Int32))), .val (.ref ba), .unset, .unset, .unset, .unset, .unset, .unset, .unset] [(.ref ba)])) _
    refine XS.iconst X7.here hx rfl (hb hby at_49) ?_
    show Steps p.tables e below (T7.setTop (mkF m 50 #[.val (.int p1), .val (.int p2), .val (.int p3), .val (.int p4), .val (.int p5), .val (.int (p1 &&& (268435455 : Int32))), .val (.int (p2 &&& (268435455 : Int32))), .val (.int (p3 &&& (268435455 : Int32))), .val (.int (p4 &&& (268435455 : Int32))), .val (.int (p5 &&& (3 : Int32))), .val (.ref ba), .unset, .unset, .unset, .unset, .unset, .unset, .unset] [(.int (2 : Int32)), (.ref ba)])) _
    refine XS.iload X7.here hx rfl (hb hby at_50) rfl ?_
    show Steps p.tables e below (T7.setTop (mkF m 52 #[.val (.int p1), .val (.int p2), .val (.int p3), .val (.int p4), .val (.int p5), .val (.int (p1 &&& (268435455 : Int32))), .val (.int (p2 &&& (268435455 : Int32))), .val (.int (p3 &&& (268435455 : Int32))), .val (.int (p4 &&& (268435455 : Int32))), .val (.int (p5 &&& (3 : Int32))), .val (.ref ba), .unset, .unset, .unset, .unset, .unset, .unset, .unset] [(.int (p3 &&& (268435455 : Int32))), (.int (2 : Int32)), (.ref ba)])) _
    refine st10 _ ?_
    show Steps p.tables e below (T10.setTop (mkF m 53 #[.val (.int p1), .val (.int p2), .val (.int p3), .val (.int p4), .val (.int p5), .val (.int (p1 &&& (268435455 : Int32))), .val (.int (p2 &&& (268435455 : Int32))), .val (.int (p3 &&& (268435455 : Int32))), .val (.int (p4 &&& (268435455 : Int32))), .val (.int (p5 &&& (3 : Int32))), .val (.ref ba), .unset, .unset, .unset, .unset, .unset, .unset, .unset] [])) _
    refine XS.aload X10.here hx rfl (hb hby at_53) rfl rfl ?_
    show Steps p.tables e below (T10.setTop (mkF m 55 #[.val (.int p1), .val (.int p2), .val (.int p3), .val (.int p4), .val (.int p5), .val (.int (p1 &&& (268435455 : Int32))), .val (.int (p2 &&& (268435455 : Int32))), .val (.int (p3 &&& (268435455 : Int32))), .val (.int (p4 &&& (268435455 : Int32))), .val (.int (p5 &&& (3 : Int32))), .val (.ref ba), .unset, .unset, .unset, .unset, .unset, .unset, .unset] [(.ref ba)])) _
    refine XS.iconst X10.here hx rfl (hb hby at_55) ?_
    show Steps p.tables e below (T10.setTop (mkF m 56 #[.val (.int p1), .val (.int p2), .val (.int p3), .val (.int p4), .val (.int p5), .val (.int (p1 &&& (268435455 : Int32))), .val (.int (p2 &&& (268435455 : Int32))), .val (.int (p3 &&& (268435455 : Int32))), .val (.int (p4 &&& (268435455 : Int32))), .val (.int (p5 &&& (3 : Int32))), .val (.ref ba), .unset, .unset, .unset, .unset, .unset, .unset, .unset] [(.int (3 : Int32)), (.ref ba)])) _
    refine XS.iload X10.here hx rfl (hb hby at_56) rfl ?_
    show Steps p.tables e below (T10.setTop (mkF m 58 #[.val (.int p1), .val (.int p2), .val (.int p3), .val (.int p4), .val (.int p5), .val (.int (p1 &&& (268435455 : Int32))), .val (.int (p2 &&& (268435455 : Int32))), .val (.int (p3 &&& (268435455 : Int32))), .val (.int (p4 &&& (268435455 : Int32))), .val (.int (p5 &&& (3 : Int32))), .val (.ref ba), .unset, .unset, .unset, .unset, .unset, .unset, .unset] [(.int (p4 &&& (268435455 : Int32))), (.int (3 : Int32)), (.ref ba)])) _
    refine st13 _ ?_
    show Steps p.tables e below (T13.setTop (mkF m 59 #[.val (.int p1), .val (.int p2), .val (.int p3), .val (.int p4), .val (.int p5), .val (.int (p1 &&& (268435455 : Int32))), .val (.int (p2 &&& (268435455 : Int32))), .val (.int (p3 &&& (268435455 : Int32))), .val (.int (p4 &&& (268435455 : Int32))), .val (.int (p5 &&& (3 : Int32))), .val (.ref ba), .unset, .unset, .unset, .unset, .unset, .unset, .unset] [])) _
    refine st16 _ ?_
    show Steps p.tables e below (T16.setTop (mkF m 62 #[.val (.int p1), .val (.int p2), .val (.int p3), .val (.int p4), .val (.int p5), .val (.int (p1 &&& (268435455 : Int32))), .val (.int (p2 &&& (268435455 : Int32))), .val (.int (p3 &&& (268435455 : Int32))), .val (.int (p4 &&& (268435455 : Int32))), .val (.int (p5 &&& (3 : Int32))), .val (.ref ba), .unset, .unset, .unset, .unset, .unset, .unset, .unset] [(.ref bw)])) _
    refine XS.dup X16.here hx rfl (hb hby at_62) rfl rfl ?_
    show Steps p.tables e below (T16.setTop (mkF m 63 #[.val (.int p1), .val (.int p2), .val (.int p3), .val (.int p4), .val (.int p5), .val (.int (p1 &&& (268435455 : Int32))), .val (.int (p2 &&& (268435455 : Int32))), .val (.int (p3 &&& (268435455 : Int32))), .val (.int (p4 &&& (268435455 : Int32))), .val (.int (p5 &&& (3 : Int32))), .val (.ref ba), .unset, .unset, .unset, .unset, .unset, .unset, .unset] [(.ref bw), (.ref bw)])) _
    refine XS.aload X16.here hx rfl (hb hby at_63) rfl rfl ?_
    show Steps p.tables e below (T16.setTop (mkF m 65 #[.val (.int p1), .val (.int p2), .val (.int p3), .val (.int p4), .val (.int p5), .val (.int (p1 &&& (268435455 : Int32))), .val (.int (p2 &&& (268435455 : Int32))), .val (.int (p3 &&& (268435455 : Int32))), .val (.int (p4 &&& (268435455 : Int32))), .val (.int (p5 &&& (3 : Int32))), .val (.ref ba), .unset, .unset, .unset, .unset, .unset, .unset, .unset] [(.ref ba), (.ref bw), (.ref bw)])) _
    refine st25.trans ?_
    show Steps p.tables e below (T25.setTop (mkF m 68 #[.val (.int p1), .val (.int p2), .val (.int p3), .val (.int p4), .val (.int p5), .val (.int (p1 &&& (268435455 : Int32))), .val (.int (p2 &&& (268435455 : Int32))), .val (.int (p3 &&& (268435455 : Int32))), .val (.int (p4 &&& (268435455 : Int32))), .val (.int (p5 &&& (3 : Int32))), .val (.ref ba), .unset, .unset, .unset, .unset, .unset, .unset, .unset] [(.ref bw)])) _
    refine XS.astore X25.here hx rfl (hb hby at_68) rfl rfl (l' := #[.val (.int p1), .val (.int p2), .val (.int p3), .val (.int p4), .val (.int p5), .val (.int (p1 &&& (268435455 : Int32))), .val (.int (p2 &&& (268435455 : Int32))), .val (.int (p3 &&& (268435455 : Int32))), .val (.int (p4 &&& (268435455 : Int32))), .val (.int (p5 &&& (3 : Int32))), .val (.ref ba), .val (.ref bw), .unset, .unset, .unset, .unset, .unset, .unset]) rfl ?_
    show Steps p.tables e below (T25.setTop (mkF m 70 #[.val (.int p1), .val (.int p2), .val (.int p3), .val (.int p4), .val (.int p5), .val (.int (p1 &&& (268435455 : Int32))), .val (.int (p2 &&& (268435455 : Int32))), .val (.int (p3 &&& (268435455 : Int32))), .val (.int (p4 &&& (268435455 : Int32))), .val (.int (p5 &&& (3 : Int32))), .val (.ref ba), .val (.ref bw), .unset, .unset, .unset, .unset, .unset, .unset] [])) _
    refine XS.aload X25.here hx rfl (hb hby at_70) rfl rfl ?_
    show Steps p.tables e below (T25.setTop (mkF m 72 #[.val (.int p1), .val (.int p2), .val (.int p3), .val (.int p4), .val (.int p5), .val (.int (p1 &&& (268435455 : Int32))), .val (.int (p2 &&& (268435455 : Int32))), .val (.int (p3 &&& (268435455 : Int32))), .val (.int (p4 &&& (268435455 : Int32))), .val (.int (p5 &&& (3 : Int32))), .val (.ref ba), .val (.ref bw), .unset, .unset, .unset, .unset, .unset, .unset] [(.ref ba)])) _
    refine XS.iconst X25.here hx rfl (hb hby at_72) ?_
    show Steps p.tables e below (T25.setTop (mkF m 73 #[.val (.int p1), .val (.int p2), .val (.int p3), .val (.int p4), .val (.int p5), .val (.int (p1 &&& (268435455 : Int32))), .val (.int (p2 &&& (268435455 : Int32))), .val (.int (p3 &&& (268435455 : Int32))), .val (.int (p4 &&& (268435455 : Int32))), .val (.int (p5 &&& (3 : Int32))), .val (.ref ba), .val (.ref bw), .unset, .unset, .unset, .unset, .unset, .unset] [(.int (0 : Int32)), (.ref ba)])) _
    refine XS.bipush X25.here hx rfl (hb hby at_73) ?_
    show Steps p.tables e below (T25.setTop (mkF m 75 #[.val (.int p1), .val (.int p2), .val (.int p3), .val (.int p4), .val (.int p5), .val (.int (p1 &&& (268435455 : Int32))), .val (.int (p2 &&& (268435455 : Int32))), .val (.int (p3 &&& (268435455 : Int32))), .val (.int (p4 &&& (268435455 : Int32))), .val (.int (p5 &&& (3 : Int32))), .val (.ref ba), .val (.ref bw), .unset, .unset, .unset, .unset, .unset, .unset] [(.int (7 : Int32)), (.int (0 : Int32)), (.ref ba)])) _
    refine st27 _ ?_
    show Steps p.tables e below (T27.setTop (mkF m 76 #[.val (.int p1), .val (.int p2), .val (.int p3), .val (.int p4), .val (.int p5), .val (.int (p1 &&& (268435455 : Int32))), .val (.int (p2 &&& (268435455 : Int32))), .val (.int (p3 &&& (268435455 : Int32))), .val (.int (p4 &&& (268435455 : Int32))), .val (.int (p5 &&& (3 : Int32))), .val (.ref ba), .val (.ref bw), .unset, .unset, .unset, .unset, .unset, .unset] [])) _
    refine XS.aload X27.here hx rfl (hb hby at_76) rfl rfl ?_
    show Steps p.tables e below (T27.setTop (mkF m 78 #[.val (.int p1), .val (.int p2), .val (.int p3), .val (.int p4), .val (.int p5), .val (.int (p1 &&& (268435455 : Int32))), .val (.int (p2 &&& (268435455 : Int32))), .val (.int (p3 &&& (268435455 : Int32))), .val (.int (p4 &&& (268435455 : Int32))), .val (.int (p5 &&& (3 : Int32))), .val (.ref ba), .val (.ref bw), .unset, .unset, .unset, .unset, .unset, .unset] [(.ref ba)])) _
    refine XS.iconst X27.here hx rfl (hb hby at_78) ?_
    show Steps p.tables e below (T27.setTop (mkF m 79 #[.val (.int p1), .val (.int p2), .val (.int p3), .val (.int p4), .val (.int p5), .val (.int (p1 &&& (268435455 : Int32))), .val (.int (p2 &&& (268435455 : Int32))), .val (.int (p3 &&& (268435455 : Int32))), .val (.int (p4 &&& (268435455 : Int32))), .val (.int (p5 &&& (3 : Int32))), .val (.ref ba), .val (.ref bw), .unset, .unset, .unset, .unset, .unset, .unset] [(.int (1 : Int32)), (.ref ba)])) _
    refine XS.iconst X27.here hx rfl (hb hby at_79) ?_
    show Steps p.tables e below (T27.setTop (mkF m 80 #[.val (.int p1), .val (.int p2), .val (.int p3), .val (.int p4), .val (.int p5), .val (.int (p1 &&& (268435455 : Int32))), .val (.int (p2 &&& (268435455 : Int32))), .val (.int (p3 &&& (268435455 : Int32))), .val (.int (p4 &&& (268435455 : Int32))), .val (.int (p5 &&& (3 : Int32))), .val (.ref ba), .val (.ref bw), .unset, .unset, .unset, .unset, .unset, .unset] [(.int (0 : Int32)), (.int (1 : Int32)), (.ref ba)])) _
    refine st31 _ ?_
    show Steps p.tables e below (T31.setTop (mkF m 81 #[.val (.int p1), .val (.int p2), .val (.int p3), .val (.int p4), .val (.int p5), .val (.int (p1 &&& (268435455 : Int32))), .val (.int (p2 &&& (268435455 : Int32))), .val (.int (p3 &&& (268435455 : Int32))), .val (.int (p4 &&& (268435455 : Int32))), .val (.int (p5 &&& (3 : Int32))), .val (.ref ba), .val (.ref bw), .unset, .unset, .unset, .unset, .unset, .unset] [])) _
    refine XS.aload X31.here hx rfl (hb hby at_81) rfl rfl ?_
    show Steps p.tables e below (T31.setTop (mkF m 83 #[.val (.int p1), .val (.int p2), .val (.int p3), .val (.int p4), .val (.int p5), .val (.int (p1 &&& (268435455 : Int32))), .val (.int (p2 &&& (268435455 : Int32))), .val (.int (p3 &&& (268435455 : Int32))), .val (.int (p4 &&& (268435455 : Int32))), .val (.int (p5 &&& (3 : Int32))), .val (.ref ba), .val (.ref bw), .unset, .unset, .unset, .unset, .unset, .unset] [(.ref ba)])) _
    refine XS.iconst X31.here hx rfl (hb hby at_83) ?_
    show Steps p.tables e below (T31.setTop (mkF m 84 #[.val (.int p1), .val (.int p2), .val (.int p3), .val (.int p4), .val (.int p5), .val (.int (p1 &&& (268435455 : Int32))), .val (.int (p2 &&& (268435455 : Int32))), .val (.int (p3 &&& (268435455 : Int32))), .val (.int (p4 &&& (268435455 : Int32))), .val (.int (p5 &&& (3 : Int32))), .val (.ref ba), .val (.ref bw), .unset, .unset, .unset, .unset, .unset, .unset] [(.int (2 : Int32)), (.ref ba)])) _
    refine XS.iconst X31.here hx rfl (hb hby at_84) ?_
    show Steps p.tables e below (T31.setTop (mkF m 85 #[.val (.int p1), .val (.int p2), .val (.int p3), .val (.int p4), .val (.int p5), .val (.int (p1 &&& (268435455 : Int32))), .val (.int (p2 &&& (268435455 : Int32))), .val (.int (p3 &&& (268435455 : Int32))), .val (.int (p4 &&& (268435455 : Int32))), .val (.int (p5 &&& (3 : Int32))), .val (.ref ba), .val (.ref bw), .unset, .unset, .unset, .unset, .unset, .unset] [(.int (3 : Int32)), (.int (2 : Int32)), (.ref ba)])) _
    refine st34 _ ?_
    show Steps p.tables e below (T34.setTop (mkF m 86 #[.val (.int p1), .val (.int p2), .val (.int p3), .val (.int p4), .val (.int p5), .val (.int (p1 &&& (268435455 : Int32))), .val (.int (p2 &&& (268435455 : Int32))), .val (.int (p3 &&& (268435455 : Int32))), .val (.int (p4 &&& (268435455 : Int32))), .val (.int (p5 &&& (3 : Int32))), .val (.ref ba), .val (.ref bw), .unset, .unset, .unset, .unset, .unset, .unset] [])) _
    refine XS.aload X34.here hx rfl (hb hby at_86) rfl rfl ?_
    show Steps p.tables e below (T34.setTop (mkF m 88 #[.val (.int p1), .val (.int p2), .val (.int p3), .val (.int p4), .val (.int p5), .val (.int (p1 &&& (268435455 : Int32))), .val (.int (p2 &&& (268435455 : Int32))), .val (.int (p3 &&& (268435455 : Int32))), .val (.int (p4 &&& (268435455 : Int32))), .val (.int (p5 &&& (3 : Int32))), .val (.ref ba), .val (.ref bw), .unset, .unset, .unset, .unset, .unset, .unset] [(.ref ba)])) _
    refine XS.iconst X34.here hx rfl (hb hby at_88) ?_
    show Steps p.tables e below (T34.setTop (mkF m 89 #[.val (.int p1), .val (.int p2), .val (.int p3), .val (.int p4), .val (.int p5), .val (.int (p1 &&& (268435455 : Int32))), .val (.int (p2 &&& (268435455 : Int32))), .val (.int (p3 &&& (268435455 : Int32))), .val (.int (p4 &&& (268435455 : Int32))), .val (.int (p5 &&& (3 : Int32))), .val (.ref ba), .val (.ref bw), .unset, .unset, .unset, .unset, .unset, .unset] [(.int (3 : Int32)), (.ref ba)])) _
    refine XS.iconst X34.here hx rfl (hb hby at_89) ?_
    show Steps p.tables e below (T34.setTop (mkF m 90 #[.val (.int p1), .val (.int p2), .val (.int p3), .val (.int p4), .val (.int p5), .val (.int (p1 &&& (268435455 : Int32))), .val (.int (p2 &&& (268435455 : Int32))), .val (.int (p3 &&& (268435455 : Int32))), .val (.int (p4 &&& (268435455 : Int32))), .val (.int (p5 &&& (3 : Int32))), .val (.ref ba), .val (.ref bw), .unset, .unset, .unset, .unset, .unset, .unset] [(.int (1 : Int32)), (.int (3 : Int32)), (.ref ba)])) _
    refine st37 _ ?_
    show Steps p.tables e below (T37.setTop (mkF m 91 #[.val (.int p1), .val (.int p2), .val (.int p3), .val (.int p4), .val (.int p5), .val (.int (p1 &&& (268435455 : Int32))), .val (.int (p2 &&& (268435455 : Int32))), .val (.int (p3 &&& (268435455 : Int32))), .val (.int (p4 &&& (268435455 : Int32))), .val (.int (p5 &&& (3 : Int32))), .val (.ref ba), .val (.ref bw), .unset, .unset, .unset, .unset, .unset, .unset] [])) _
    refine XS.aload X37.here hx rfl (hb hby at_91) rfl rfl ?_
    show Steps p.tables e below (T37.setTop (mkF m 93 #[.val (.int p1), .val (.int p2), .val (.int p3), .val (.int p4), .val (.int p5), .val (.int (p1 &&& (268435455 : Int32))), .val (.int (p2 &&& (268435455 : Int32))), .val (.int (p3 &&& (268435455 : Int32))), .val (.int (p4 &&& (268435455 : Int32))), .val (.int (p5 &&& (3 : Int32))), .val (.ref ba), .val (.ref bw), .unset, .unset, .unset, .unset, .unset, .unset] [(.ref bw)])) _
    refine XS.iload X37.here hx rfl (hb hby at_93) rfl ?_
    show Steps p.tables e below (T37.setTop (mkF m 95 #[.val (.int p1), .val (.int p2), .val (.int p3), .val (.int p4), .val (.int p5), .val (.int (p1 &&& (268435455 : Int32))), .val (.int (p2 &&& (268435455 : Int32))), .val (.int (p3 &&& (268435455 : Int32))), .val (.int (p4 &&& (268435455 : Int32))), .val (.int (p5 &&& (3 : Int32))), .val (.ref ba), .val (.ref bw), .unset, .unset, .unset, .unset, .unset, .unset] [(.int (p5 &&& (3 : Int32))), (.ref bw)])) _
    refine st43.trans ?_
    show Steps p.tables e below (T43.setTop (mkF m 98 #[.val (.int p1), .val (.int p2), .val (.int p3), .val (.int p4), .val (.int p5), .val (.int (p1 &&& (268435455 : Int32))), .val (.int (p2 &&& (268435455 : Int32))), .val (.int (p3 &&& (268435455 : Int32))), .val (.int (p4 &&& (268435455 : Int32))), .val (.int (p5 &&& (3 : Int32))), .val (.ref ba), .val (.ref bw), .unset, .unset, .unset, .unset, .unset, .unset] [(.double dr)])) _
    refine XS.dstore X43.here hx rfl (hb hby at_98) rfl (l' := #[.val (.int p1), .val (.int p2), .val (.int p3), .val (.int p4), .val (.int p5), .val (.int (p1 &&& (268435455 : Int32))), .val (.int (p2 &&& (268435455 : Int32))), .val (.int (p3 &&& (268435455 : Int32))), .val (.int (p4 &&& (268435455 : Int32))), .val (.int (p5 &&& (3 : Int32))), .val (.ref ba), .val (.ref bw), .val (.double dr), .second, .unset, .unset, .unset, .unset]) rfl ?_
    show Steps p.tables e below (T43.setTop (mkF m 100 #[.val (.int p1), .val (.int p2), .val (.int p3), .val (.int p4), .val (.int p5), .val (.int (p1 &&& (268435455 : Int32))), .val (.int (p2 &&& (268435455 : Int32))), .val (.int (p3 &&& (268435455 : Int32))), .val (.int (p4 &&& (268435455 : Int32))), .val (.int (p5 &&& (3 : Int32))), .val (.ref ba), .val (.ref bw), .val (.double dr), .second, .unset, .unset, .unset, .unset] [])) _
    refine XS.iload X43.here hx rfl (hb hby at_100) rfl ?_
    show Steps p.tables e below (T43.setTop (mkF m 102 #[.val (.int p1), .val (.int p2), .val (.int p3), .val (.int p4), .val (.int p5), .val (.int (p1 &&& (268435455 : Int32))), .val (.int (p2 &&& (268435455 : Int32))), .val (.int (p3 &&& (268435455 : Int32))), .val (.int (p4 &&& (268435455 : Int32))), .val (.int (p5 &&& (3 : Int32))), .val (.ref ba), .val (.ref bw), .val (.double dr), .second, .unset, .unset, .unset, .unset] [(.int (p1 &&& (268435455 : Int32)))])) _
    refine XS.iload X43.here hx rfl (hb hby at_102) rfl ?_
    show Steps p.tables e below (T43.setTop (mkF m 104 #[.val (.int p1), .val (.int p2), .val (.int p3), .val (.int p4), .val (.int p5), .val (.int (p1 &&& (268435455 : Int32))), .val (.int (p2 &&& (268435455 : Int32))), .val (.int (p3 &&& (268435455 : Int32))), .val (.int (p4 &&& (268435455 : Int32))), .val (.int (p5 &&& (3 : Int32))), .val (.ref ba), .val (.ref bw), .val (.double dr), .second, .unset, .unset, .unset, .unset] [(.int (p2 &&& (268435455 : Int32))), (.int (p1 &&& (268435455 : Int32)))])) _
    refine XS.iadd X43.here hx rfl (hb hby at_104) rfl ?_
    show Steps p.tables e below (T43.setTop (mkF m 105 #[.val (.int p1), .val (.int p2), .val (.int p3), .val (.int p4), .val (.int p5), .val (.int (p1 &&& (268435455 : Int32))), .val (.int (p2 &&& (268435455 : Int32))), .val (.int (p3 &&& (268435455 : Int32))), .val (.int (p4 &&& (268435455 : Int32))), .val (.int (p5 &&& (3 : Int32))), .val (.ref ba), .val (.ref bw), .val (.double dr), .second, .unset, .unset, .unset, .unset] [(.int ((p1 &&& (268435455 : Int32)) + (p2 &&& (268435455 : Int32))))])) _
    refine XS.iload X43.here hx rfl (hb hby at_105) rfl ?_
    show Steps p.tables e below (T43.setTop (mkF m 107 #[.val (.int p1), .val (.int p2), .val (.int p3), .val (.int p4), .val (.int p5), .val (.int (p1 &&& (268435455 : Int32))), .val (.int (p2 &&& (268435455 : Int32))), .val (.int (p3 &&& (268435455 : Int32))), .val (.int (p4 &&& (268435455 : Int32))), .val (.int (p5 &&& (3 : Int32))), .val (.ref ba), .val (.ref bw), .val (.double dr), .second, .unset, .unset, .unset, .unset] [(.int (p3 &&& (268435455 : Int32))), (.int ((p1 &&& (268435455 : Int32)) + (p2 &&& (268435455 : Int32))))])) _
    refine XS.iadd X43.here hx rfl (hb hby at_107) rfl ?_
    show Steps p.tables e below (T43.setTop (mkF m 108 #[.val (.int p1), .val (.int p2), .val (.int p3), .val (.int p4), .val (.int p5), .val (.int (p1 &&& (268435455 : Int32))), .val (.int (p2 &&& (268435455 : Int32))), .val (.int (p3 &&& (268435455 : Int32))), .val (.int (p4 &&& (268435455 : Int32))), .val (.int (p5 &&& (3 : Int32))), .val (.ref ba), .val (.ref bw), .val (.double dr), .second, .unset, .unset, .unset, .unset] [(.int (((p1 &&& (268435455 : Int32)) + (p2 &&& (268435455 : Int32))) + (p3 &&& (268435455 : Int32))))])) _
    refine XS.iload X43.here hx rfl (hb hby at_108) rfl ?_
    show Steps p.tables e below (T43.setTop (mkF m 110 #[.val (.int p1), .val (.int p2), .val (.int p3), .val (.int p4), .val (.int p5), .val (.int (p1 &&& (268435455 : Int32))), .val (.int (p2 &&& (268435455 : Int32))), .val (.int (p3 &&& (268435455 : Int32))), .val (.int (p4 &&& (268435455 : Int32))), .val (.int (p5 &&& (3 : Int32))), .val (.ref ba), .val (.ref bw), .val (.double dr), .second, .unset, .unset, .unset, .unset] [(.int (p4 &&& (268435455 : Int32))), (.int (((p1 &&& (268435455 : Int32)) + (p2 &&& (268435455 : Int32))) + (p3 &&& (268435455 : Int32))))])) _
    refine XS.iadd X43.here hx rfl (hb hby at_110) rfl ?_
    show Steps p.tables e below (T43.setTop (mkF m 111 #[.val (.int p1), .val (.int p2), .val (.int p3), .val (.int p4), .val (.int p5), .val (.int (p1 &&& (268435455 : Int32))), .val (.int (p2 &&& (268435455 : Int32))), .val (.int (p3 &&& (268435455 : Int32))), .val (.int (p4 &&& (268435455 : Int32))), .val (.int (p5 &&& (3 : Int32))), .val (.ref ba), .val (.ref bw), .val (.double dr), .second, .unset, .unset, .unset, .unset] [(.int ((((p1 &&& (268435455 : Int32)) + (p2 &&& (268435455 : Int32))) + (p3 &&& (268435455 : Int32))) + (p4 &&& (268435455 : Int32))))])) _
    refine XS.istore X43.here hx rfl (hb hby at_111) rfl (l' := #[.val (.int p1), .val (.int p2), .val (.int p3), .val (.int p4), .val (.int p5), .val (.int (p1 &&& (268435455 : Int32))), .val (.int (p2 &&& (268435455 : Int32))), .val (.int (p3 &&& (268435455 : Int32))), .val (.int (p4 &&& (268435455 : Int32))), .val (.int (p5 &&& (3 : Int32))), .val (.ref ba), .val (.ref bw), .val (.double dr), .second, .val (.int ((((p1 &&& (268435455 : Int32)) + (p2 &&& (268435455 : Int32))) + (p3 &&& (268435455 : Int32))) + (p4 &&& (268435455 : Int32)))), .unset, .unset, .unset]) rfl ?_
    show Steps p.tables e below (T43.setTop (mkF m 113 #[.val (.int p1), .val (.int p2), .val (.int p3), .val (.int p4), .val (.int p5), .val (.int (p1 &&& (268435455 : Int32))), .val (.int (p2 &&& (268435455 : Int32))), .val (.int (p3 &&& (268435455 : Int32))), .val (.int (p4 &&& (268435455 : Int32))), .val (.int (p5 &&& (3 : Int32))), .val (.ref ba), .val (.ref bw), .val (.double dr), .second, .val (.int ((((p1 &&& (268435455 : Int32)) + (p2 &&& (268435455 : Int32))) + (p3 &&& (268435455 : Int32))) + (p4 &&& (268435455 : Int32)))), .unset, .unset, .unset] [])) _
    refine XS.iload X43.here hx rfl (hb hby at_113) rfl ?_
    show Steps p.tables e below (T43.setTop (mkF m 115 #[.val (.int p1), .val (.int p2), .val (.int p3), .val (.int p4), .val (.int p5), .val (.int (p1 &&& (268435455 : Int32))), .val (.int (p2 &&& (268435455 : Int32))), .val (.int (p3 &&& (268435455 : Int32))), .val (.int (p4 &&& (268435455 : Int32))), .val (.int (p5 &&& (3 : Int32))), .val (.ref ba), .val (.ref bw), .val (.double dr), .second, .val (.int ((((p1 &&& (268435455 : Int32)) + (p2 &&& (268435455 : Int32))) + (p3 &&& (268435455 : Int32))) + (p4 &&& (268435455 : Int32)))), .unset, .unset, .unset] [(.int (p5 &&& (3 : Int32)))])) _
    refine mg45 _ ?_
    show Steps p.tables e below (T43.setTop (mkF m 155 #[.val (.int p1), .val (.int p2), .val (.int p3), .val (.int p4), .val (.int p5), .val (.int (p1 &&& (268435455 : Int32))), .val (.int (p2 &&& (268435455 : Int32))), .val (.int (p3 &&& (268435455 : Int32))), .val (.int (p4 &&& (268435455 : Int32))), .val (.int (p5 &&& (3 : Int32))), .val (.ref ba), .val (.ref bw), .val (.double dr), .second, .val (.int ((((p1 &&& (268435455 : Int32)) + (p2 &&& (268435455 : Int32))) + (p3 &&& (268435455 : Int32))) + (p4 &&& (268435455 : Int32)))), .val (.int xc), .unset, .unset] [])) _
    refine XS.iload X43.here hx rfl (hb hby at_155) rfl ?_
    show Steps p.tables e below (T43.setTop (mkF m 157 #[.val (.int p1), .val (.int p2), .val (.int p3), .val (.int p4), .val (.int p5), .val (.int (p1 &&& (268435455 : Int32))), .val (.int (p2 &&& (268435455 : Int32))), .val (.int (p3 &&& (268435455 : Int32))), .val (.int (p4 &&& (268435455 : Int32))), .val (.int (p5 &&& (3 : Int32))), .val (.ref ba), .val (.ref bw), .val (.double dr), .second, .val (.int ((((p1 &&& (268435455 : Int32)) + (p2 &&& (268435455 : Int32))) + (p3 &&& (268435455 : Int32))) + (p4 &&& (268435455 : Int32)))), .val (.int xc), .unset, .unset] [(.int ((((p1 &&& (268435455 : Int32)) + (p2 &&& (268435455 : Int32))) + (p3 &&& (268435455 : Int32))) + (p4 &&& (268435455 : Int32))))])) _
    refine mg46 _ ?_
    show Steps p.tables e below (T43.setTop (mkF m 175 #[.val (.int p1), .val (.int p2), .val (.int p3), .val (.int p4), .val (.int p5), .val (.int (p1 &&& (268435455 : Int32))), .val (.int (p2 &&& (268435455 : Int32))), .val (.int (p3 &&& (268435455 : Int32))), .val (.int (p4 &&& (268435455 : Int32))), .val (.int (p5 &&& (3 : Int32))), .val (.ref ba), .val (.ref bw), .val (.double dr), .second, .val (.int ((((p1 &&& (268435455 : Int32)) + (p2 &&& (268435455 : Int32))) + (p3 &&& (268435455 : Int32))) + (p4 &&& (268435455 : Int32)))), .val (.int xc), .val (.double dx), .second] [])) _
    refine XS.dload X43.here hx rfl (hb hby at_175) rfl ?_
    show Steps p.tables e below (T43.setTop (mkF m 177 #[.val (.int p1), .val (.int p2), .val (.int p3), .val (.int p4), .val (.int p5), .val (.int (p1 &&& (268435455 : Int32))), .val (.int (p2 &&& (268435455 : Int32))), .val (.int (p3 &&& (268435455 : Int32))), .val (.int (p4 &&& (268435455 : Int32))), .val (.int (p5 &&& (3 : Int32))), .val (.ref ba), .val (.ref bw), .val (.double dr), .second, .val (.int ((((p1 &&& (268435455 : Int32)) + (p2 &&& (268435455 : Int32))) + (p3 &&& (268435455 : Int32))) + (p4 &&& (268435455 : Int32)))), .val (.int xc), .val (.double dx), .second] [(.double dr)])) _
    refine XS.dload X43.here hx rfl (hb hby at_177) rfl ?_
    show Steps p.tables e below (T43.setTop (mkF m 179 #[.val (.int p1), .val (.int p2), .val (.int p3), .val (.int p4), .val (.int p5), .val (.int (p1 &&& (268435455 : Int32))), .val (.int (p2 &&& (268435455 : Int32))), .val (.int (p3 &&& (268435455 : Int32))), .val (.int (p4 &&& (268435455 : Int32))), .val (.int (p5 &&& (3 : Int32))), .val (.ref ba), .val (.ref bw), .val (.double dr), .second, .val (.int ((((p1 &&& (268435455 : Int32)) + (p2 &&& (268435455 : Int32))) + (p3 &&& (268435455 : Int32))) + (p4 &&& (268435455 : Int32)))), .val (.int xc), .val (.double dx), .second] [(.double dx), (.double dr)])) _
    refine XS.dcmpS X43.here hx rfl (hb hby at_179) rfl hcm ?_
    show Steps p.tables e below (T43.setTop (mkF m 180 #[.val (.int p1), .val (.int p2), .val (.int p3), .val (.int p4), .val (.int p5), .val (.int (p1 &&& (268435455 : Int32))), .val (.int (p2 &&& (268435455 : Int32))), .val (.int (p3 &&& (268435455 : Int32))), .val (.int (p4 &&& (268435455 : Int32))), .val (.int (p5 &&& (3 : Int32))), .val (.ref ba), .val (.ref bw), .val (.double dr), .second, .val (.int ((((p1 &&& (268435455 : Int32)) + (p2 &&& (268435455 : Int32))) + (p3 &&& (268435455 : Int32))) + (p4 &&& (268435455 : Int32)))), .val (.int xc), .val (.double dx), .second] [(.int (0 : Int32))])) _
    refine XS.ifNo X43.here hx rfl (hb hby at_180) rfl ((if0 _ _).trans (teq (by decide : (0 : Int32) = (0 : Int32))).2) ?_
    show Steps p.tables e below (T43.setTop (mkF m 183 #[.val (.int p1), .val (.int p2), .val (.int p3), .val (.int p4), .val (.int p5), .val (.int (p1 &&& (268435455 : Int32))), .val (.int (p2 &&& (268435455 : Int32))), .val (.int (p3 &&& (268435455 : Int32))), .val (.int (p4 &&& (268435455 : Int32))), .val (.int (p5 &&& (3 : Int32))), .val (.ref ba), .val (.ref bw), .val (.double dr), .second, .val (.int ((((p1 &&& (268435455 : Int32)) + (p2 &&& (268435455 : Int32))) + (p3 &&& (268435455 : Int32))) + (p4 &&& (268435455 : Int32)))), .val (.int xc), .val (.double dx), .second] [])) _
    refine XS.iconst X43.here hx rfl (hb hby at_183) ?_
    show Steps p.tables e below (T43.setTop (mkF m 184 #[.val (.int p1), .val (.int p2), .val (.int p3), .val (.int p4), .val (.int p5), .val (.int (p1 &&& (268435455 : Int32))), .val (.int (p2 &&& (268435455 : Int32))), .val (.int (p3 &&& (268435455 : Int32))), .val (.int (p4 &&& (268435455 : Int32))), .val (.int (p5 &&& (3 : Int32))), .val (.ref ba), .val (.ref bw), .val (.double dr), .second, .val (.int ((((p1 &&& (268435455 : Int32)) + (p2 &&& (268435455 : Int32))) + (p3 &&& (268435455 : Int32))) + (p4 &&& (268435455 : Int32)))), .val (.int xc), .val (.double dx), .second] [(.int (1 : Int32))])) _
    refine XS.goto X43.here hx rfl (pc0 := 184) (pc' := 188) rfl (hb hby at_184) (by decide) (by decide) ?_
    show Steps p.tables e below (T43.setTop (mkF m 188 #[.val (.int p1), .val (.int p2), .val (.int p3), .val (.int p4), .val (.int p5), .val (.int (p1 &&& (268435455 : Int32))), .val (.int (p2 &&& (268435455 : Int32))), .val (.int (p3 &&& (268435455 : Int32))), .val (.int (p4 &&& (268435455 : Int32))), .val (.int (p5 &&& (3 : Int32))), .val (.ref ba), .val (.ref bw), .val (.double dr), .second, .val (.int ((((p1 &&& (268435455 : Int32)) + (p2 &&& (268435455 : Int32))) + (p3 &&& (268435455 : Int32))) + (p4 &&& (268435455 : Int32)))), .val (.int xc), .val (.double dx), .second] [(.int (1 : Int32))])) _
    exact retOut X43 hx (t := .boolean) (i := .ireturn) Bd.returns rfl (Or.inl ⟨rfl, Or.inr (Or.inl rfl), _, rfl⟩) (hb hby at_188) hr
  · show Q_law Z p1 p2 p3 p4 p5 dce kd ca cl bi0 bi1 bi2 bi3 mA mL mR h0 n0 _ T43.heap _
    rw [e43]
    exact ⟨rfl, N43⟩
theorem own_len {args : Array Value} {Z : State} {t : Term} {a : Addr} {cl : Cell} {ty : FieldType} {n : Int32} (ev : t.eval args Z none [] Z = some (.ref a)) (A : Arr Z Z.heap a cl ty) (h : (Cond.eq (Term.length t) (Term.int n)).value args Z none Z [] = some true) : cl.slots.size < 2 ^ 31 ∧ cl.slots.size.toInt32 = n := by
  obtain ⟨x, y, e1, e2, -⟩ := cmp_v (Or.inl h)
  obtain ⟨b, cell, h1, h2, h3, h4⟩ := Jvm.Lib.length_spec e1
  cases ev.symm.trans h1
  have h5 := Arr.fin (U := Z) (State.Warmed39.refl Z).alike A
  cases h5.symm.trans h2
  subst h4
  exact ⟨h3, gotT (Cond.eq_ints e1 (Term.int_eval n)) h⟩
theorem own_size {cl : Cell} {n : Int32} (q : cl.slots.size < 2 ^ 31) (e : cl.slots.size.toInt32 = n) : cl.slots.size = n.toNatClampNeg := by rw [← e]; simp only [Int32.toNatClampNeg, len_toInt q]; rfl
theorem own_cached {args : Array Value} {Z : State} {C f d : String} {ty : FieldType} {a : Addr} {cl : Cell} {c2 : Jvm.Cond} (ev : (Term.static C f d).eval args Z none [] Z = some (.ref a)) (A : Arr Z Z.heap a cl ty)
    (h : (Cond.all (Term.static C f d) (Cond.and (Cond.exactly (Term.elem (Term.static C f d) (Term.index 0)) "java/lang/Integer") c2)).value args Z none Z [] = some true) {j : Int32} (hj : ¬ (j < 0)) (hl : (j).toNatClampNeg < cl.slots.size) :
    ∃ b : Addr, Exa Z Z.heap b "java/lang/Integer" ∧ ¬ (j < 0 ∨ cl.slots.size ≤ (j).toNatClampNeg) ∧ cl.slots[(j).toNatClampNeg]? = some (.ref b) := by
  have h5 := Arr.fin (U := Z) (State.Warmed39.refl Z).alike A
  obtain ⟨h1, -⟩ := and_e (Cond.all_elim ev h5 h _ hl)
  obtain ⟨b, eb⟩ := exa_v h1
  have ev' : (Term.static C f d).eval args Z none [(j).toNatClampNeg] Z = some (.ref a) := by simpa only [Term.eval] using ev
  exact ⟨b, exa_at eb h1, fun q => q.elim hj (fun r => Nat.not_le_of_lt hl r), (elem_f ev' (idx_at hj) h5 hj).symm.trans eb⟩
theorem own_int {args : Array Value} {Z : State} {t : Term} {n : Int32} (h : (Cond.eq t (Term.int n)).value args Z none Z [] = some true) : t.eval args Z none [] Z = some (.int n) := by
  obtain ⟨x, y, e1, e2, -, k2⟩ := cmp_v (Or.inl h)
  cases (Term.int_eval n).symm.trans e2
  obtain ⟨z, rfl⟩ := k2
  rw [e1, gotT (Cond.eq_ints e1 (Term.int_eval n)) h]
set_option maxRecDepth 65536 in
set_option maxHeartbeats 40000000 in
theorem comes_1 {Post : Tables → Env → Array Value → State → Outcome → State → Prop} (hpost : ∀ tb e args s v u, (limb_1_1.after args s (.returned v) u = true ∧ limb_1_2.after args s (.returned v) u = true ∧ True) → FrameEnd s (.returned v) u (Jvm.fieldLocs frame_1_writes args s ++ Jvm.arrayLocs frame_1_arrays args s ++ Jvm.staticLocs frame_1_statics s) 24 128 → Post tb e args s (.returned v) u) :
    ArmFor flags0 classFile x code maxLocals ret World_1 tables_1 room_1 Calls_1 rest_1 Pre_1 Post := by
  intro l hfl _ _ p e ha hc hk s m args below hf hA hF happ hP
  obtain ⟨hcalls, hrest, hpre⟩ := hP
  obtain ⟨-, -, -, hnamed, -, -, -, hat⟩ := (Spec.applies_iff hf).mp happ
  obtain ⟨hg, hn⟩ := and_e (Cond.before_iff.mp (show (Jvm.Cond.and given_1 narrow_1).before args s = true from hpre))
  obtain ⟨g0, r0⟩ := and_e hg
  obtain ⟨g1, r1⟩ := and_e r0
  obtain ⟨g2, r2⟩ := and_e r1
  obtain ⟨g3, r3⟩ := and_e r2
  obtain ⟨g4, r4⟩ := and_e r3
  obtain ⟨w0, w1, w2, w3, w4, rfl⟩ : ∃ w0 w1 w2 w3 w4 : Value, args = #[w0, w1, w2, w3, w4] := by
    have hs : args.size = 5 := by simpa [Cond.value, given_1] using g0
    obtain ⟨L⟩ := args
    match L, hs with
    | [w0, w1, w2, w3, w4], _ => exact ⟨w0, w1, w2, w3, w4, rfl⟩
  have hw := fun d (hd : d ∈ tables_1) => atoms_spec (ws := Jvm.Cond.code x code maxLocals ret :: tables_1) hat d (List.mem_cons_of_mem _ hd)
  obtain ⟨hsets, hown0⟩ := atoms_of _ (rest_1_c_eq ▸ (show rest_1_c.before _ s = true from hrest))
  have hfit : Fit s := fun {y c} hc i hi => by
    obtain ⟨ha, rfl⟩ := Array.getElem?_eq_some_iff.mp hc
    have q := List.all_eq_true.mp ((Array.all_eq_true_iff_forall_mem.mp hF) _ (Array.getElem_mem ha)) i (List.mem_range.mpr hi)
    simpa [Array.getElem?_eq_getElem hi] using q
  obtain ⟨i0, q0⟩ := is_v g1
  obtain rfl : w0 = (.int i0) := Option.some.inj q0
  obtain ⟨i1, q1⟩ := is_v g2
  obtain rfl : w1 = (.int i1) := Option.some.inj q1
  obtain ⟨i2, q2⟩ := is_v g3
  obtain rfl : w2 = (.int i2) := Option.some.inj q2
  obtain ⟨i3, q3⟩ := is_v g4
  obtain rfl : w3 = (.int i3) := Option.some.inj q3
  obtain ⟨i4, q4⟩ := is_v r4
  obtain rfl : w4 = (.int i4) := Option.some.inj q4
  obtain ⟨⟨mc1, mk1, mA, hm1, hm2, hm3, hm4⟩, ⟨mc2, mk2, mL, hn1, hn2, hn3, hn4⟩, ⟨mc3, mk3, mR, ho1, ho2, ho3, ho4⟩, -⟩ := hcalls
  obtain ⟨dce, ed⟩ := arr_v (Cond.before_iff.mp (hsets _ (List.mem_of_getElem? (i := 6) rfl)))
  obtain ⟨dcl, Ad⟩ := Arr.start ed (Cond.before_iff.mp (hsets _ (List.mem_of_getElem? (i := 6) rfl)))
  obtain ⟨dl1, dl2⟩ := own_len ed Ad (Cond.before_iff.mp (hsets _ (List.mem_of_getElem? (i := 8) rfl)))
  have Sd : Sta s s.heap "java/util/ArrayList" "DEFAULTCAPACITY_EMPTY_ELEMENTDATA" "[Ljava/lang/Object;" (.ref dce) := Sta.start ed (Or.inr ⟨(hw _ (List.mem_of_getElem? (i := 24) rfl)), (hsets _ (List.mem_of_getElem? (i := 2) rfl))⟩)
  have Vd : Arv s s.heap dce dcl.cls (.object "java/lang/Object") (0 : Int32) [] .null := Arv.start hfit Ad dl1 dl2 (by decide) rfl trivial
  have Sh : Sta s s.heap "java/lang/Integer$IntegerCache" "high" "I" (.int (127 : Int32)) := Sta.start (own_int (Cond.before_iff.mp (hsets _ (List.mem_of_getElem? (i := 12) rfl)))) (Or.inl (hsets _ (List.mem_of_getElem? (i := 10) rfl)))
  obtain ⟨ca, ec⟩ := arr_v (Cond.before_iff.mp (hsets _ (List.mem_of_getElem? (i := 13) rfl)))
  obtain ⟨cl, Ac⟩ := Arr.start ec (Cond.before_iff.mp (hsets _ (List.mem_of_getElem? (i := 13) rfl)))
  obtain ⟨cl1, cl2⟩ := own_len ec Ac (Cond.before_iff.mp (hsets _ (List.mem_of_getElem? (i := 15) rfl)))
  have cz := own_size cl1 cl2
  have Sc : Sta s s.heap "java/lang/Integer$IntegerCache" "cache" "[Ljava/lang/Integer;" (.ref ca) := Sta.start ec (Or.inr ⟨(hw _ (List.mem_of_getElem? (i := 51) rfl)), (hsets _ (List.mem_of_getElem? (i := 11) rfl))⟩)
  obtain ⟨bi0, zE0, zin0, zat0⟩ := own_cached ec Ac (Cond.before_iff.mp (hsets _ (List.mem_of_getElem? (i := 16) rfl))) (j := ((0 : Int32) + (128 : Int32))) (by decide) (by rw [cz]; decide)
  obtain ⟨bi1, zE1, zin1, zat1⟩ := own_cached ec Ac (Cond.before_iff.mp (hsets _ (List.mem_of_getElem? (i := 16) rfl))) (j := ((1 : Int32) + (128 : Int32))) (by decide) (by rw [cz]; decide)
  obtain ⟨bi2, zE2, zin2, zat2⟩ := own_cached ec Ac (Cond.before_iff.mp (hsets _ (List.mem_of_getElem? (i := 16) rfl))) (j := ((2 : Int32) + (128 : Int32))) (by decide) (by rw [cz]; decide)
  obtain ⟨bi3, zE3, zin3, zat3⟩ := own_cached ec Ac (Cond.before_iff.mp (hsets _ (List.mem_of_getElem? (i := 16) rfl))) (j := ((3 : Int32) + (128 : Int32))) (by decide) (by rw [cz]; decide)
  obtain ⟨n, o, h1, h2, h3, _, L, rfl, ⟨rfl, N⟩, hq⟩ := rm_law l s _ hw tables_1 i0 i1 i2 i3 i4 dce dcl.cls ca cl bi0 bi1 bi2 bi3 mA mL mR s.heap s.heap.size (Nat.le_refl _) (Old.start s) Sd Vd Sh Sc Ac zE0 zin0 zat0 zE1 zin1 zat1 zE2 zin2 zat2 zE3 zin3 zat3 ⟨mc1, mk1, hm1, hm2, hm3, hm4⟩ ⟨mc2, mk2, hn1, hn2, hn3, hn4⟩ ⟨mc3, mk3, ho1, ho2, ho3, ho4⟩ p e ha hc hk s m _ below hf ((Spec.applies_iff_loose hf).mp happ).1 ⟨rfl, State.Warmed39.refl s, rfl⟩ trivial
  refine ⟨n, _, h1, h2, h3, hpost _ _ _ _ _ _ ⟨Cond.after_iff.mpr rfl, Cond.after_iff.mpr (eq_i res_at (Term.int_eval (1)) rfl), trivial⟩ ⟨hq.1, hq.2.1, (hq.2.2.sift fun y hy => Or.inr (N y hy)).mono (by decide) (by decide)⟩⟩
theorem main_1_1 : Claimed_1_1 := comes_1 fun _ _ _ _ _ _ h hF => ⟨h.1, hF⟩
theorem main_1_2 : Claimed_1_2 := comes_1 fun _ _ _ _ _ _ h hF => ⟨h.2.1, hF⟩
end Jvm.Pilot.@@N@@
namespace Jvm.Pilot.@@N@@
open Jvm Jvm.ClassFile Sem Op Lib Jvm.Free Jvm.Stand Jvm.Pilot.@@N@@.Jvm.D
/-! MADE BY PROGRAM (witnessworld.py) out of the Statement's table words and the real class files: 31 classes; the members and pool entries that the words name. The judged class is class 1, her method 1. -/
namespace start1
open Jvm.ClassFile
def u (s : String) : CpInfo := .utf8 (stringToUtf16 s)
/-- a pool by its gaps: so many unusable entries, then the entry; so many at the end -/
def gap : Nat → List CpInfo → List CpInfo
  | 0, r => r
  | n + 1, r => .unusable :: gap n r
def poolList (es : List (Nat × CpInfo)) (last : Nat) : List CpInfo := es.foldr (fun e r => gap e.1 (e.2 :: r)) (gap last [])
def pool (es : List (Nat × CpInfo)) (last : Nat) : Array CpInfo := ⟨poolList es last⟩
def fileOf (pool : Array CpInfo) (this : Nat) (attrs : Array Attribute := #[]) (ms : Array MethodInfo := #[]) (fl : Nat := 33) (sup : Nat := 0) (ifs : Array Nat := #[]) (fds : Array FieldInfo := #[]) : ClassFile where
  minorVersion := 0
  majorVersion := 65
  constantPool := pool
  accessFlags := fl
  thisClass := this
  superClass := sup
  interfaces := ifs
  fields := fds
  methods := ms
  attributes := attrs
def plain (name : String) (sup : Option ClassId) : Class where
  name := name
  kind := .ordinary
  loader := none
  accessFlags := 33
  super := sup
  interfaces := #[]
  cf := none
  fields := #[]
  methods := #[]
  instanceTypes := #[]
  staticTypes := #[]
  resolved := #[]
  callSites := []
  init := .initialized
  statics := none
  mirror := none

def pool0 : Array CpInfo := pool [(5, u "<init>"), (0, u "()V"), (1, .class_ 10), (1, u "java/lang/Object"), (0, u "getClass"), (0, u "()Ljava/lang/Class;"), (83, u "clone"), (0, u "()Ljava/lang/Object;")] 26

def k0c0 : Code := { maxStack := 0, maxLocals := 1, code := object_method_1_code, exceptionTable := #[], attributes := #[] }
def k0m0 : Method := { name := "<init>", desc := "()V", sig := { parameters := [], returnType := none }, accessFlags := 1, code := some k0c0 }
def k0m1 : Method := { name := "getClass", desc := "()Ljava/lang/Class;", sig := { parameters := [], returnType := some (.object "java/lang/Class") }, accessFlags := 273, code := none }
def k0m2 : Method := { name := "clone", desc := "()Ljava/lang/Object;", sig := { parameters := [], returnType := some (.object "java/lang/Object") }, accessFlags := 260, code := none }
/-- java/lang/Object -/
def k0 : Class := { plain "java/lang/Object" none with
  accessFlags := 33
  interfaces := #[]
  cf := some (fileOf pool0 8 #[] #[{ accessFlags := 1, nameIndex := 5, descriptorIndex := 6, attributes := #[] }, { accessFlags := 273, nameIndex := 11, descriptorIndex := 12, attributes := #[] }, { accessFlags := 260, nameIndex := 96, descriptorIndex := 97, attributes := #[] }] 33 0 #[] #[])
  fields := #[]
  methods := #[k0m0, k0m1, k0m2]
  instanceTypes := #[]
  staticTypes := #[]
  resolved := Array.replicate 124 none
  statics := none }

def pool1 : Array CpInfo := pool [(2, .class_ 4), (1, u "java/lang/Object"), (0, u "<init>"), (0, u "()V"), (0, .integer 268435455), (0, .class_ 9), (0, u "com/example/inkcap/inkcap/lexicon/WordCategories"), (0, .methodref 8 11), (0, .nameAndType 5 12), (0, u "([I)V"), (0, .methodref 8 14), (0, .nameAndType 15 16), (0, u "getProbability"), (0, u "(I)D"), (0, .class_ 18), (0, u "com/example/inkcap/inkcap/lexicon/WordCategoriesGetProbabilityPinLaw"), (2, u "law"), (0, u "(IIIII)Z")] 5

def k1m0 : Method := { name := "<init>", desc := "()V", sig := { parameters := [], returnType := none }, accessFlags := 2, code := none }
def k1c1 : Code := { maxStack := 4, maxLocals := 18, code := code, exceptionTable := #[], attributes := #[] }
def k1m1 : Method := { name := "law", desc := "(IIIII)Z", sig := { parameters := [.int, .int, .int, .int, .int], returnType := some .boolean }, accessFlags := 9, code := some k1c1 }
/-- com/example/inkcap/inkcap/lexicon/WordCategoriesGetProbabilityPinLaw -/
def k1 : Class := { plain "com/example/inkcap/inkcap/lexicon/WordCategoriesGetProbabilityPinLaw" (some 0) with
  accessFlags := 49
  interfaces := #[]
  cf := some (fileOf pool1 17 #[] #[{ accessFlags := 2, nameIndex := 5, descriptorIndex := 6, attributes := #[] }, { accessFlags := 9, nameIndex := 21, descriptorIndex := 22, attributes := #[] }] 49 2 #[] #[])
  fields := #[]
  methods := #[k1m0, k1m1]
  instanceTypes := #[]
  staticTypes := #[]
  resolved := Array.replicate 28 none
  statics := none }

def pool2 : Array CpInfo := pool [(1, .methodref 2 3), (0, .class_ 4), (0, .nameAndType 5 6), (0, u "java/lang/Object"), (0, u "<init>"), (0, u "()V"), (0, .methodref 8 9), (0, .class_ 10), (0, .nameAndType 11 12), (0, u "[I"), (0, u "clone"), (0, u "()Ljava/lang/Object;"), (0, .fieldref 14 15), (0, .class_ 16), (0, .nameAndType 17 10), (0, u "com/example/inkcap/inkcap/lexicon/WordCategories"), (0, u "senseCounts"), (0, .class_ 19), (0, u "java/util/ArrayList"), (0, .methodref 18 3), (0, .methodref 22 23), (0, .class_ 24), (0, .nameAndType 25 26), (0, u "java/lang/Integer"), (0, u "valueOf"), (0, u "(I)Ljava/lang/Integer;"), (0, .interfaceMethodref 28 29), (0, .class_ 30), (0, .nameAndType 31 32), (0, u "java/util/List"), (0, u "add"), (0, u "(Ljava/lang/Object;)Z"), (0, .fieldref 14 34), (0, .nameAndType 35 36), (0, u "senseCount"), (0, u "I"), (0, .methodref 38 39), (0, .class_ 40), (0, .nameAndType 41 42), (0, u "java/util/Collections"), (0, u "unmodifiableList"), (0, u "(Ljava/util/List;)Ljava/util/List;"), (0, .fieldref 14 44), (0, .nameAndType 45 46), (0, u "categories"), (0, u "Ljava/util/List;"), (59, u "([I)V"), (7, u "getProbability"), (0, u "(I)D")] 4

def k2c0 : Code := { maxStack := 3, maxLocals := 5, code := prog_55_method_1_code, exceptionTable := #[], attributes := #[] }
def k2m0 : Method := { name := "<init>", desc := "([I)V", sig := { parameters := [(.array .int)], returnType := none }, accessFlags := 0, code := some k2c0 }
def k2c1 : Code := { maxStack := 4, maxLocals := 2, code := prog_55_method_4_code, exceptionTable := #[], attributes := #[] }
def k2m1 : Method := { name := "getProbability", desc := "(I)D", sig := { parameters := [.int], returnType := some .double }, accessFlags := 1, code := some k2c1 }
/-- com/example/inkcap/inkcap/lexicon/WordCategories -/
def k2 : Class := { plain "com/example/inkcap/inkcap/lexicon/WordCategories" (some 0) with
  accessFlags := 33
  interfaces := #[]
  cf := some (fileOf pool2 14 #[] #[{ accessFlags := 0, nameIndex := 5, descriptorIndex := 106, attributes := #[] }, { accessFlags := 1, nameIndex := 114, descriptorIndex := 115, attributes := #[] }] 33 2 #[] #[{ accessFlags := 18, nameIndex := 17, descriptorIndex := 10, attributes := #[] }, { accessFlags := 18, nameIndex := 35, descriptorIndex := 36, attributes := #[] }, { accessFlags := 18, nameIndex := 45, descriptorIndex := 46, attributes := #[] }])
  fields := #[{ name := "senseCounts", type := (.array .int), accessFlags := 18, slot := 0, constantValue := 0 }, { name := "senseCount", type := .int, accessFlags := 18, slot := 1, constantValue := 0 }, { name := "categories", type := (.object "java/util/List"), accessFlags := 18, slot := 2, constantValue := 0 }]
  methods := #[k2m0, k2m1]
  instanceTypes := #[(.array .int), .int, (.object "java/util/List")]
  staticTypes := #[]
  resolved := Array.replicate 120 none
  statics := none }

def pool3 : Array CpInfo := pool [(1, .class_ 2), (0, u "java/lang/Cloneable"), (0, .class_ 4), (0, u "java/lang/Object")] 2

/-- java/lang/Cloneable -/
def k3 : Class := { plain "java/lang/Cloneable" (some 0) with
  accessFlags := 1537
  interfaces := #[]
  cf := some (fileOf pool3 1 #[] #[] 1537 3 #[] #[])
  fields := #[]
  methods := #[]
  instanceTypes := #[]
  staticTypes := #[]
  resolved := Array.replicate 7 none
  statics := none }

def pool4 : Array CpInfo := pool [(8, .class_ 10), (1, u "java/lang/Iterable"), (24, .class_ 36), (0, u "java/lang/Object")] 25

/-- java/lang/Iterable -/
def k4 : Class := { plain "java/lang/Iterable" (some 0) with
  accessFlags := 1537
  interfaces := #[]
  cf := some (fileOf pool4 8 #[] #[] 1537 35 #[] #[])
  fields := #[]
  methods := #[]
  instanceTypes := #[]
  staticTypes := #[]
  resolved := Array.replicate 62 none
  statics := none }

def pool5 : Array CpInfo := pool [(10, .class_ 12), (1, u "java/util/Collection"), (47, .class_ 61), (0, u "java/lang/Object"), (0, .class_ 63), (0, u "java/lang/Iterable")] 51

/-- java/util/Collection -/
def k5 : Class := { plain "java/util/Collection" (some 0) with
  accessFlags := 1537
  interfaces := #[4]
  cf := some (fileOf pool5 10 #[] #[] 1537 60 #[62] #[])
  fields := #[]
  methods := #[]
  instanceTypes := #[]
  staticTypes := #[]
  resolved := Array.replicate 115 none
  statics := none }

def pool6 : Array CpInfo := pool [(1, .methodref 2 3), (0, .class_ 4), (0, .nameAndType 5 6), (0, u "java/lang/Object"), (0, u "<init>"), (0, u "()V"), (1, .class_ 10), (1, u "java/util/AbstractCollection"), (66, .class_ 78), (0, u "java/util/Collection")] 81

def k6c0 : Code := { maxStack := 1, maxLocals := 1, code := jdk_22_method_1_code, exceptionTable := #[], attributes := #[] }
def k6m0 : Method := { name := "<init>", desc := "()V", sig := { parameters := [], returnType := none }, accessFlags := 4, code := some k6c0 }
/-- java/util/AbstractCollection -/
def k6 : Class := { plain "java/util/AbstractCollection" (some 0) with
  accessFlags := 1057
  interfaces := #[5]
  cf := some (fileOf pool6 8 #[] #[{ accessFlags := 4, nameIndex := 5, descriptorIndex := 6, attributes := #[] }] 1057 2 #[77] #[])
  fields := #[]
  methods := #[k6m0]
  instanceTypes := #[]
  staticTypes := #[]
  resolved := Array.replicate 160 none
  statics := none }

def pool7 : Array CpInfo := pool [(8, .class_ 10), (1, u "java/util/SequencedCollection"), (15, .class_ 27), (0, u "java/lang/Object"), (0, .class_ 29), (0, u "java/util/Collection")] 27

/-- java/util/SequencedCollection -/
def k7 : Class := { plain "java/util/SequencedCollection" (some 0) with
  accessFlags := 1537
  interfaces := #[5]
  cf := some (fileOf pool7 8 #[] #[] 1537 26 #[28] #[])
  fields := #[]
  methods := #[]
  instanceTypes := #[]
  staticTypes := #[]
  resolved := Array.replicate 57 none
  statics := none }

def pool8 : Array CpInfo := pool [(8, .class_ 10), (1, u "java/util/List"), (49, u "add"), (3, u "(Ljava/lang/Object;)Z"), (38, .class_ 104), (0, u "java/lang/Object"), (15, .class_ 121), (0, u "java/util/SequencedCollection")] 129

def k8m0 : Method := { name := "add", desc := "(Ljava/lang/Object;)Z", sig := { parameters := [(.object "java/lang/Object")], returnType := some .boolean }, accessFlags := 1025, code := none }
/-- java/util/List -/
def k8 : Class := { plain "java/util/List" (some 0) with
  accessFlags := 1537
  interfaces := #[7]
  cf := some (fileOf pool8 8 #[] #[{ accessFlags := 1025, nameIndex := 60, descriptorIndex := 64, attributes := #[] }] 1537 103 #[120] #[])
  fields := #[]
  methods := #[k8m0]
  instanceTypes := #[]
  staticTypes := #[]
  resolved := Array.replicate 251 none
  statics := none }

def pool9 : Array CpInfo := pool [(1, .methodref 2 3), (0, .class_ 4), (0, .nameAndType 5 6), (0, u "java/util/AbstractCollection"), (0, u "<init>"), (0, u "()V"), (0, .fieldref 8 9), (0, .class_ 10), (0, .nameAndType 11 12), (0, u "java/util/AbstractList"), (0, u "modCount"), (0, u "I"), (64, .class_ 78), (0, u "java/util/AbstractList$Itr"), (3, .class_ 83), (0, u "java/util/AbstractList$ListItr"), (9, .class_ 94), (0, u "java/util/AbstractList$RandomAccessSubList"), (3, .class_ 99), (0, u "java/util/AbstractList$SubList"), (33, .class_ 134), (0, u "java/util/List"), (73, .class_ 209), (0, u "java/util/AbstractList$SubList$1"), (0, .class_ 211), (0, u "java/util/AbstractList$RandomAccessSpliterator")] 6

def k9c0 : Code := { maxStack := 2, maxLocals := 1, code := jdk_39_method_1_code, exceptionTable := #[], attributes := #[] }
def k9m0 : Method := { name := "<init>", desc := "()V", sig := { parameters := [], returnType := none }, accessFlags := 4, code := some k9c0 }
/-- java/util/AbstractList -/
def k9 : Class := { plain "java/util/AbstractList" (some 6) with
  accessFlags := 1057
  interfaces := #[8]
  cf := some (fileOf pool9 8 #[.nestMembers #[93, 98, 208, 210, 82, 77]] #[{ accessFlags := 4, nameIndex := 5, descriptorIndex := 6, attributes := #[] }] 1057 2 #[133] #[{ accessFlags := 132, nameIndex := 11, descriptorIndex := 12, attributes := #[] }])
  fields := #[{ name := "modCount", type := .int, accessFlags := 132, slot := 0, constantValue := 0 }]
  methods := #[k9m0]
  instanceTypes := #[.int]
  staticTypes := #[]
  resolved := Array.replicate 218 none
  statics := none }

def pool10 : Array CpInfo := pool [(1, .class_ 2), (0, u "java/util/RandomAccess"), (0, .class_ 4), (0, u "java/lang/Object")] 2

/-- java/util/RandomAccess -/
def k10 : Class := { plain "java/util/RandomAccess" (some 0) with
  accessFlags := 1537
  interfaces := #[]
  cf := some (fileOf pool10 1 #[] #[] 1537 3 #[] #[])
  fields := #[]
  methods := #[]
  instanceTypes := #[]
  staticTypes := #[]
  resolved := Array.replicate 7 none
  statics := none }

def pool11 : Array CpInfo := pool [(1, .class_ 2), (0, u "java/io/Serializable"), (0, .class_ 4), (0, u "java/lang/Object")] 2

/-- java/io/Serializable -/
def k11 : Class := { plain "java/io/Serializable" (some 0) with
  accessFlags := 1537
  interfaces := #[]
  cf := some (fileOf pool11 1 #[] #[] 1537 3 #[] #[])
  fields := #[]
  methods := #[]
  instanceTypes := #[]
  staticTypes := #[]
  resolved := Array.replicate 7 none
  statics := none }

def pool12 : Array CpInfo := pool [(1, .methodref 2 3), (0, .class_ 4), (0, .nameAndType 5 6), (0, u "java/util/AbstractList"), (0, u "<init>"), (0, u "()V"), (0, .class_ 8), (0, u "java/lang/Object"), (0, .fieldref 10 11), (0, .class_ 12), (0, .nameAndType 13 14), (0, u "java/util/ArrayList"), (0, u "elementData"), (0, u "[Ljava/lang/Object;"), (2, u "EMPTY_ELEMENTDATA"), (21, .fieldref 10 40), (0, .nameAndType 41 14), (0, u "DEFAULTCAPACITY_EMPTY_ELEMENTDATA"), (5, u "()[Ljava/lang/Object;"), (0, .fieldref 10 49), (0, .nameAndType 50 51), (0, u "size"), (0, u "I"), (11, .fieldref 10 64), (0, .nameAndType 65 51), (0, u "modCount"), (3, .methodref 10 70), (0, .nameAndType 71 72), (0, u "grow"), (0, u "(I)[Ljava/lang/Object;"), (6, .methodref 80 81), (0, .class_ 82), (0, .nameAndType 83 84), (0, u "java/lang/Math"), (0, u "max"), (0, u "(II)I"), (11, u "(Ljava/lang/Object;)Z"), (32, .methodref 10 130), (0, .nameAndType 71 47), (0, .methodref 10 132), (0, .nameAndType 133 134), (0, u "add"), (0, u "(Ljava/lang/Object;[Ljava/lang/Object;I)V"), (13, .class_ 149), (0, u "java/util/List"), (112, .class_ 263), (0, u "java/util/ArrayList$ListItr"), (3, .class_ 268), (0, u "java/util/ArrayList$Itr"), (7, .class_ 277), (0, u "java/util/ArrayList$SubList"), (12, .class_ 291), (0, u "java/util/ArrayList$ArrayListSpliterator"), (37, .class_ 330), (0, u "java/util/RandomAccess"), (0, .class_ 332), (0, u "java/lang/Cloneable"), (0, .class_ 334), (0, u "java/io/Serializable"), (0, u "serialVersionUID"), (0, u "J"), (3, u "DEFAULT_CAPACITY"), (159, .class_ 501), (0, u "java/util/ArrayList$SubList$2"), (0, .class_ 503), (0, u "java/util/ArrayList$SubList$1")] 5

def k12c0 : Code := { maxStack := 2, maxLocals := 1, code := jdk_38_method_2_code, exceptionTable := #[], attributes := #[] }
def k12m0 : Method := { name := "<init>", desc := "()V", sig := { parameters := [], returnType := none }, accessFlags := 1, code := some k12c0 }
def k12c1 : Code := { maxStack := 4, maxLocals := 4, code := jdk_38_method_6_code, exceptionTable := #[], attributes := #[] }
def k12m1 : Method := { name := "grow", desc := "(I)[Ljava/lang/Object;", sig := { parameters := [.int], returnType := some (.array (.object "java/lang/Object")) }, accessFlags := 2, code := some k12c1 }
def k12c2 : Code := { maxStack := 3, maxLocals := 1, code := jdk_38_method_7_code, exceptionTable := #[], attributes := #[] }
def k12m2 : Method := { name := "grow", desc := "()[Ljava/lang/Object;", sig := { parameters := [], returnType := some (.array (.object "java/lang/Object")) }, accessFlags := 2, code := some k12c2 }
def k12c3 : Code := { maxStack := 3, maxLocals := 4, code := jdk_38_method_24_code, exceptionTable := #[], attributes := #[] }
def k12m3 : Method := { name := "add", desc := "(Ljava/lang/Object;[Ljava/lang/Object;I)V", sig := { parameters := [(.object "java/lang/Object"), (.array (.object "java/lang/Object")), .int], returnType := none }, accessFlags := 2, code := some k12c3 }
def k12c4 : Code := { maxStack := 4, maxLocals := 2, code := jdk_38_method_25_code, exceptionTable := #[], attributes := #[] }
def k12m4 : Method := { name := "add", desc := "(Ljava/lang/Object;)Z", sig := { parameters := [(.object "java/lang/Object")], returnType := some .boolean }, accessFlags := 1, code := some k12c4 }
/-- java/util/ArrayList -/
def k12 : Class := { plain "java/util/ArrayList" (some 9) with
  accessFlags := 33
  interfaces := #[8, 10, 3, 11]
  cf := some (fileOf pool12 10 #[.nestMembers #[290, 276, 500, 502, 262, 267]] #[{ accessFlags := 1, nameIndex := 5, descriptorIndex := 6, attributes := #[] }, { accessFlags := 2, nameIndex := 71, descriptorIndex := 72, attributes := #[] }, { accessFlags := 2, nameIndex := 71, descriptorIndex := 47, attributes := #[] }, { accessFlags := 2, nameIndex := 133, descriptorIndex := 134, attributes := #[] }, { accessFlags := 1, nameIndex := 133, descriptorIndex := 96, attributes := #[] }] 33 2 #[148, 329, 331, 333] #[{ accessFlags := 26, nameIndex := 335, descriptorIndex := 336, attributes := #[] }, { accessFlags := 26, nameIndex := 340, descriptorIndex := 51, attributes := #[] }, { accessFlags := 26, nameIndex := 17, descriptorIndex := 14, attributes := #[] }, { accessFlags := 26, nameIndex := 41, descriptorIndex := 14, attributes := #[] }, { accessFlags := 128, nameIndex := 13, descriptorIndex := 14, attributes := #[] }, { accessFlags := 2, nameIndex := 50, descriptorIndex := 51, attributes := #[] }])
  fields := #[{ name := "serialVersionUID", type := .long, accessFlags := 26, slot := 0, constantValue := 0 }, { name := "DEFAULT_CAPACITY", type := .int, accessFlags := 26, slot := 1, constantValue := 0 }, { name := "EMPTY_ELEMENTDATA", type := (.array (.object "java/lang/Object")), accessFlags := 26, slot := 2, constantValue := 0 }, { name := "DEFAULTCAPACITY_EMPTY_ELEMENTDATA", type := (.array (.object "java/lang/Object")), accessFlags := 26, slot := 3, constantValue := 0 }, { name := "elementData", type := (.array (.object "java/lang/Object")), accessFlags := 128, slot := 1, constantValue := 0 }, { name := "size", type := .int, accessFlags := 2, slot := 2, constantValue := 0 }]
  methods := #[k12m0, k12m1, k12m2, k12m3, k12m4]
  instanceTypes := #[.int, (.array (.object "java/lang/Object")), .int]
  staticTypes := #[.long, .int, (.array (.object "java/lang/Object")), (.array (.object "java/lang/Object"))]
  resolved := Array.replicate 509 none
  mirror := some 2
  statics := some 0 }

def pool13 : Array CpInfo := pool [(2, .class_ 4), (1, u "java/lang/Object"), (0, u "<init>"), (0, u "()V"), (1, .class_ 10), (1, u "java/lang/Number"), (2, .class_ 14), (0, u "java/io/Serializable"), (0, u "serialVersionUID"), (0, u "J")] 20

def k13m0 : Method := { name := "<init>", desc := "()V", sig := { parameters := [], returnType := none }, accessFlags := 1, code := none }
/-- java/lang/Number -/
def k13 : Class := { plain "java/lang/Number" (some 0) with
  accessFlags := 1057
  interfaces := #[11]
  cf := some (fileOf pool13 8 #[] #[{ accessFlags := 1, nameIndex := 5, descriptorIndex := 6, attributes := #[] }] 1057 2 #[13] #[{ accessFlags := 26, nameIndex := 15, descriptorIndex := 16, attributes := #[] }])
  fields := #[{ name := "serialVersionUID", type := .long, accessFlags := 26, slot := 0, constantValue := 0 }]
  methods := #[k13m0]
  instanceTypes := #[]
  staticTypes := #[.long]
  resolved := Array.replicate 37 none
  statics := none }

def pool14 : Array CpInfo := pool [(1, .class_ 2), (0, u "java/lang/Comparable"), (0, .class_ 4), (0, u "java/lang/Object")] 7

/-- java/lang/Comparable -/
def k14 : Class := { plain "java/lang/Comparable" (some 0) with
  accessFlags := 1537
  interfaces := #[]
  cf := some (fileOf pool14 1 #[] #[] 1537 3 #[] #[])
  fields := #[]
  methods := #[]
  instanceTypes := #[]
  staticTypes := #[]
  resolved := Array.replicate 12 none
  statics := none }

def pool15 : Array CpInfo := pool [(1, .class_ 2), (0, u "java/lang/constant/Constable"), (0, .class_ 4), (0, u "java/lang/Object")] 6

/-- java/lang/constant/Constable -/
def k15 : Class := { plain "java/lang/constant/Constable" (some 0) with
  accessFlags := 1537
  interfaces := #[]
  cf := some (fileOf pool15 1 #[] #[] 1537 3 #[] #[])
  fields := #[]
  methods := #[]
  instanceTypes := #[]
  staticTypes := #[]
  resolved := Array.replicate 11 none
  statics := none }

def pool16 : Array CpInfo := pool [(1, .class_ 2), (0, u "java/lang/constant/ConstantDesc"), (0, .class_ 4), (0, u "java/lang/Object")] 32

/-- java/lang/constant/ConstantDesc -/
def k16 : Class := { plain "java/lang/constant/ConstantDesc" (some 0) with
  accessFlags := 1537
  interfaces := #[]
  cf := some (fileOf pool16 1 #[] #[] 1537 3 #[] #[])
  fields := #[]
  methods := #[]
  instanceTypes := #[]
  staticTypes := #[]
  resolved := Array.replicate 37 none
  statics := none }

def pool17 : Array CpInfo := pool [(1, .class_ 2), (0, u "java/lang/Integer"), (16, u "digits"), (0, u "[C"), (64, u "DigitOnes"), (0, u "[B"), (2, u "DigitTens"), (97, u "valueOf"), (0, u "(I)Ljava/lang/Integer;"), (0, .class_ 190), (0, u "java/lang/Integer$IntegerCache"), (0, .fieldref 189 192), (0, .nameAndType 193 194), (0, u "high"), (0, u "I"), (0, .fieldref 189 196), (0, .nameAndType 197 198), (0, u "cache"), (0, u "[Ljava/lang/Integer;"), (4, .class_ 204), (0, u "java/lang/Number"), (2, u "value"), (94, u "TYPE"), (0, u "Ljava/lang/Class;"), (0, .class_ 305), (0, u "java/lang/Comparable"), (0, .class_ 307), (0, u "java/lang/constant/Constable"), (0, .class_ 309), (0, u "java/lang/constant/ConstantDesc"), (0, u "MIN_VALUE"), (1, u "MAX_VALUE"), (3, u "SIZE"), (1, u "BYTES"), (1, u "serialVersionUID"), (0, u "J")] 131

def k17c0 : Code := { maxStack := 3, maxLocals := 1, code := jdk_33_method_22_code, exceptionTable := #[], attributes := #[] }
def k17m0 : Method := { name := "valueOf", desc := "(I)Ljava/lang/Integer;", sig := { parameters := [.int], returnType := some (.object "java/lang/Integer") }, accessFlags := 9, code := some k17c0 }
/-- java/lang/Integer -/
def k17 : Class := { plain "java/lang/Integer" (some 13) with
  accessFlags := 49
  interfaces := #[14, 15, 16]
  cf := some (fileOf pool17 1 #[.nestMembers #[189]] #[{ accessFlags := 9, nameIndex := 187, descriptorIndex := 188, attributes := #[] }] 49 203 #[304, 306, 308] #[{ accessFlags := 25, nameIndex := 310, descriptorIndex := 194, attributes := #[] }, { accessFlags := 25, nameIndex := 312, descriptorIndex := 194, attributes := #[] }, { accessFlags := 25, nameIndex := 302, descriptorIndex := 303, attributes := #[] }, { accessFlags := 24, nameIndex := 19, descriptorIndex := 20, attributes := #[] }, { accessFlags := 24, nameIndex := 89, descriptorIndex := 86, attributes := #[] }, { accessFlags := 24, nameIndex := 85, descriptorIndex := 86, attributes := #[] }, { accessFlags := 18, nameIndex := 207, descriptorIndex := 194, attributes := #[] }, { accessFlags := 25, nameIndex := 316, descriptorIndex := 194, attributes := #[] }, { accessFlags := 25, nameIndex := 318, descriptorIndex := 194, attributes := #[] }, { accessFlags := 26, nameIndex := 320, descriptorIndex := 321, attributes := #[] }])
  fields := #[{ name := "MIN_VALUE", type := .int, accessFlags := 25, slot := 0, constantValue := 0 }, { name := "MAX_VALUE", type := .int, accessFlags := 25, slot := 1, constantValue := 0 }, { name := "TYPE", type := (.object "java/lang/Class"), accessFlags := 25, slot := 2, constantValue := 0 }, { name := "digits", type := (.array .char), accessFlags := 24, slot := 3, constantValue := 0 }, { name := "DigitTens", type := (.array .byte), accessFlags := 24, slot := 4, constantValue := 0 }, { name := "DigitOnes", type := (.array .byte), accessFlags := 24, slot := 5, constantValue := 0 }, { name := "value", type := .int, accessFlags := 18, slot := 0, constantValue := 0 }, { name := "SIZE", type := .int, accessFlags := 25, slot := 6, constantValue := 0 }, { name := "BYTES", type := .int, accessFlags := 25, slot := 7, constantValue := 0 }, { name := "serialVersionUID", type := .long, accessFlags := 26, slot := 8, constantValue := 0 }]
  methods := #[k17m0]
  instanceTypes := #[.int]
  staticTypes := #[.int, .int, (.object "java/lang/Class"), (.array .char), (.array .byte), (.array .byte), .int, .int, .long]
  resolved := Array.replicate 453 none
  statics := none }

def pool18 : Array CpInfo := pool [(2, .class_ 4), (1, u "java/lang/Object"), (0, u "<init>"), (0, u "()V"), (0, .class_ 8), (0, u "java/lang/Integer"), (7, .class_ 18), (1, u "java/lang/Integer$IntegerCache"), (0, u "$assertionsDisabled"), (0, u "Z"), (26, u "high"), (0, u "I"), (8, u "archivedCache"), (0, u "[Ljava/lang/Integer;"), (12, u "cache"), (0, u "low")] 27

def k18m0 : Method := { name := "<init>", desc := "()V", sig := { parameters := [], returnType := none }, accessFlags := 2, code := none }
/-- java/lang/Integer$IntegerCache -/
def k18 : Class := { plain "java/lang/Integer$IntegerCache" (some 0) with
  accessFlags := 48
  interfaces := #[]
  cf := some (fileOf pool18 16 #[.nestHost 7] #[{ accessFlags := 2, nameIndex := 5, descriptorIndex := 6, attributes := #[] }] 48 2 #[] #[{ accessFlags := 24, nameIndex := 72, descriptorIndex := 48, attributes := #[] }, { accessFlags := 24, nameIndex := 47, descriptorIndex := 48, attributes := #[] }, { accessFlags := 24, nameIndex := 71, descriptorIndex := 58, attributes := #[] }, { accessFlags := 8, nameIndex := 57, descriptorIndex := 58, attributes := #[] }, { accessFlags := 4120, nameIndex := 19, descriptorIndex := 20, attributes := #[] }])
  fields := #[{ name := "low", type := .int, accessFlags := 24, slot := 0, constantValue := 0 }, { name := "high", type := .int, accessFlags := 24, slot := 1, constantValue := 0 }, { name := "cache", type := (.array (.object "java/lang/Integer")), accessFlags := 24, slot := 2, constantValue := 0 }, { name := "archivedCache", type := (.array (.object "java/lang/Integer")), accessFlags := 8, slot := 3, constantValue := 0 }, { name := "$assertionsDisabled", type := .boolean, accessFlags := 4120, slot := 4, constantValue := 0 }]
  methods := #[k18m0]
  instanceTypes := #[]
  staticTypes := #[.int, .int, (.array (.object "java/lang/Integer")), (.array (.object "java/lang/Integer")), .boolean]
  resolved := Array.replicate 100 none
  statics := some 1 }

def pool19 : Array CpInfo := pool [(1, .class_ 2), (0, u "java/lang/Math"), (1, .class_ 6), (1, u "java/lang/Object"), (0, u "<init>"), (0, u "()V"), (89, .class_ 100), (1, u "java/lang/Math$RandomNumberGeneratorHolder"), (71, u "negativeZeroFloatBits"), (0, u "J"), (2, u "negativeZeroDoubleBits"), (21, u "max"), (46, u "$assertionsDisabled"), (0, u "Z"), (88, u "(II)I"), (2, u "twoToTheDoubleScaleDown"), (0, u "D"), (4, u "twoToTheDoubleScaleUp"), (9, u "E"), (3, u "PI"), (2, u "TAU"), (2, u "DEGREES_TO_RADIANS"), (0, u "RADIANS_TO_DEGREES")] 94

def k19m0 : Method := { name := "<init>", desc := "()V", sig := { parameters := [], returnType := none }, accessFlags := 2, code := none }
def k19c1 : Code := { maxStack := 2, maxLocals := 2, code := jdk_29_method_65_code, exceptionTable := #[], attributes := #[] }
def k19m1 : Method := { name := "max", desc := "(II)I", sig := { parameters := [.int, .int], returnType := some .int }, accessFlags := 9, code := some k19c1 }
/-- java/lang/Math -/
def k19 : Class := { plain "java/lang/Math" (some 0) with
  accessFlags := 49
  interfaces := #[]
  cf := some (fileOf pool19 1 #[.nestMembers #[98]] #[{ accessFlags := 2, nameIndex := 7, descriptorIndex := 8, attributes := #[] }, { accessFlags := 9, nameIndex := 198, descriptorIndex := 335, attributes := #[] }] 49 4 #[] #[{ accessFlags := 25, nameIndex := 354, descriptorIndex := 339, attributes := #[] }, { accessFlags := 25, nameIndex := 358, descriptorIndex := 339, attributes := #[] }, { accessFlags := 25, nameIndex := 361, descriptorIndex := 339, attributes := #[] }, { accessFlags := 26, nameIndex := 364, descriptorIndex := 339, attributes := #[] }, { accessFlags := 26, nameIndex := 365, descriptorIndex := 339, attributes := #[] }, { accessFlags := 26, nameIndex := 172, descriptorIndex := 173, attributes := #[] }, { accessFlags := 26, nameIndex := 176, descriptorIndex := 173, attributes := #[] }, { accessFlags := 8, nameIndex := 344, descriptorIndex := 339, attributes := #[] }, { accessFlags := 8, nameIndex := 338, descriptorIndex := 339, attributes := #[] }, { accessFlags := 4120, nameIndex := 245, descriptorIndex := 246, attributes := #[] }])
  fields := #[{ name := "E", type := .double, accessFlags := 25, slot := 0, constantValue := 0 }, { name := "PI", type := .double, accessFlags := 25, slot := 1, constantValue := 0 }, { name := "TAU", type := .double, accessFlags := 25, slot := 2, constantValue := 0 }, { name := "DEGREES_TO_RADIANS", type := .double, accessFlags := 26, slot := 3, constantValue := 0 }, { name := "RADIANS_TO_DEGREES", type := .double, accessFlags := 26, slot := 4, constantValue := 0 }, { name := "negativeZeroFloatBits", type := .long, accessFlags := 26, slot := 5, constantValue := 0 }, { name := "negativeZeroDoubleBits", type := .long, accessFlags := 26, slot := 6, constantValue := 0 }, { name := "twoToTheDoubleScaleUp", type := .double, accessFlags := 8, slot := 7, constantValue := 0 }, { name := "twoToTheDoubleScaleDown", type := .double, accessFlags := 8, slot := 8, constantValue := 0 }, { name := "$assertionsDisabled", type := .boolean, accessFlags := 4120, slot := 9, constantValue := 0 }]
  methods := #[k19m0, k19m1]
  instanceTypes := #[]
  staticTypes := #[.double, .double, .double, .double, .double, .long, .long, .double, .double, .boolean]
  resolved := Array.replicate 460 none
  statics := none }

def pool20 : Array CpInfo := pool [(2, .class_ 4), (1, u "java/lang/Object"), (0, u "<init>"), (0, u "()V"), (1, .class_ 10), (1, u "java/util/List"), (2, .class_ 14), (0, u "java/util/RandomAccess"), (4, .class_ 20), (0, u "java/util/Collections"), (63, u "r"), (0, u "Ljava/util/Random;"), (67, u "(Ljava/util/List;)V"), (9, .nameAndType 164 165), (0, u "getClass"), (0, u "()Ljava/lang/Class;"), (0, .class_ 167), (0, u "java/util/Collections$UnmodifiableCollection"), (6, .class_ 175), (0, u "java/util/Collections$UnmodifiableSequencedCollection"), (6, .class_ 183), (0, u "java/util/Collections$UnmodifiableSet"), (6, .class_ 191), (0, u "java/util/Collections$UnmodifiableSequencedSet"), (6, .class_ 199), (0, u "java/util/Collections$UnmodifiableSortedSet"), (6, .class_ 207), (0, u "java/util/Collections$UnmodifiableNavigableSet"), (3, .interfaceMethodref 8 163), (0, .class_ 213), (0, u "java/util/Collections$UnmodifiableList"), (0, .interfaceMethodref 8 163), (0, .class_ 216), (0, u "java/util/Collections$UnmodifiableRandomAccessList"), (0, .methodref 215 218), (0, .nameAndType 5 153), (4, .class_ 224), (0, u "java/util/Collections$UnmodifiableMap"), (6, .class_ 232), (0, u "java/util/Collections$UnmodifiableSequencedMap"), (4, .class_ 238), (0, u "java/util/Collections$UnmodifiableSortedMap"), (6, .class_ 246), (0, u "java/util/Collections$UnmodifiableNavigableMap"), (3, .class_ 251), (0, u "java/util/Collections$SynchronizedCollection"), (4, .class_ 257), (0, u "java/util/Collections$SynchronizedSet"), (4, .class_ 263), (0, u "java/util/Collections$SynchronizedSortedSet"), (1, .class_ 266), (0, u "java/util/Collections$SynchronizedNavigableSet"), (1, .class_ 269), (0, u "java/util/Collections$SynchronizedRandomAccessList"), (1, .class_ 272), (0, u "java/util/Collections$SynchronizedList"), (5, .class_ 279), (0, u "java/util/Collections$SynchronizedMap"), (1, .class_ 282), (0, u "java/util/Collections$SynchronizedSortedMap"), (1, .class_ 285), (0, u "java/util/Collections$SynchronizedNavigableMap"), (1, .class_ 288), (0, u "java/util/Collections$CheckedCollection"), (11, .class_ 301), (0, u "java/util/Collections$CheckedQueue"), (3, .class_ 306), (0, u "java/util/Collections$CheckedSet"), (3, .class_ 311), (0, u "java/util/Collections$CheckedSortedSet"), (3, .class_ 316), (0, u "java/util/Collections$CheckedNavigableSet"), (3, .class_ 321), (0, u "java/util/Collections$CheckedRandomAccessList"), (3, .class_ 326), (0, u "java/util/Collections$CheckedList"), (1, .class_ 329), (0, u "java/util/Collections$CheckedMap"), (3, .class_ 334), (0, u "java/util/Collections$CheckedSortedMap"), (3, .class_ 339), (0, u "java/util/Collections$CheckedNavigableMap"), (4, .class_ 346), (1, u "java/util/Collections$EmptyIterator"), (3, .class_ 352), (1, u "java/util/Collections$EmptyListIterator"), (2, .class_ 357), (1, u "java/util/Collections$EmptyEnumeration"), (4, u "EMPTY_SET"), (0, u "Ljava/util/Set;"), (6, u "EMPTY_LIST"), (0, u "Ljava/util/List;"), (2, u "EMPTY_MAP"), (0, u "Ljava/util/Map;"), (4, .class_ 381), (0, u "java/util/Collections$SingletonSet"), (2, .class_ 385), (0, u "java/util/Collections$1"), (1, .class_ 388), (0, u "java/util/Collections$2"), (1, .class_ 391), (0, u "java/util/Collections$SingletonList"), (1, .class_ 394), (0, u "java/util/Collections$SingletonMap"), (22, .class_ 418), (0, u "java/util/Collections$CopiesList"), (4, .class_ 425), (1, u "java/util/Collections$ReverseComparator"), (8, .class_ 435), (0, u "java/util/Collections$ReverseComparator2"), (6, .class_ 443), (0, u "java/util/Collections$3"), (25, .class_ 470), (0, u "java/util/Collections$SetFromMap"), (2, .class_ 474), (0, u "java/util/Collections$SequencedSetFromMap"), (3, .class_ 479), (0, u "java/util/Collections$AsLIFOQueue"), (11, .class_ 492), (0, u "java/util/Collections$EmptySet"), (1, .class_ 495), (0, u "java/util/Collections$EmptyList"), (1, .class_ 498), (0, u "java/util/Collections$EmptyMap"), (1, u "BINARYSEARCH_THRESHOLD"), (0, u "I"), (2, u "REVERSE_THRESHOLD"), (1, u "SHUFFLE_THRESHOLD"), (1, u "FILL_THRESHOLD"), (1, u "ROTATE_THRESHOLD"), (1, u "COPY_THRESHOLD"), (1, u "REPLACEALL_THRESHOLD"), (1, u "INDEXOFSUBLIST_THRESHOLD"), (129, u "unmodifiableList"), (0, u "(Ljava/util/List;)Ljava/util/List;"), (202, .class_ 851), (0, u "java/util/Collections$CheckedMap$CheckedEntrySet"), (0, .class_ 853), (0, u "java/util/Collections$CheckedMap$CheckedEntrySet$CheckedEntry"), (0, .class_ 855), (0, u "java/util/Collections$CheckedMap$CheckedEntrySet$1"), (0, .class_ 857), (0, u "java/util/Collections$CheckedList$1"), (0, .class_ 859), (0, u "java/util/Collections$CheckedCollection$1"), (0, .class_ 861), (0, u "java/util/Collections$UnmodifiableNavigableMap$EmptyNavigableMap"), (0, .class_ 863), (0, u "java/util/Collections$UnmodifiableMap$UnmodifiableEntrySet"), (0, .class_ 865), (0, u "java/util/Collections$UnmodifiableMap$UnmodifiableEntrySet$UnmodifiableEntry"), (0, .class_ 867), (0, u "java/util/Collections$UnmodifiableMap$UnmodifiableEntrySet$UnmodifiableEntrySetSpliterator"), (0, .class_ 869), (0, u "java/util/Collections$UnmodifiableMap$UnmodifiableEntrySet$1"), (0, .class_ 871), (0, u "java/util/Collections$UnmodifiableList$1"), (0, .class_ 873), (0, u "java/util/Collections$UnmodifiableNavigableSet$EmptyNavigableSet"), (0, .class_ 875), (0, u "java/util/Collections$UnmodifiableCollection$1")] 57

def k20m0 : Method := { name := "<init>", desc := "()V", sig := { parameters := [], returnType := none }, accessFlags := 2, code := none }
def k20c1 : Code := { maxStack := 3, maxLocals := 1, code := jdk_79_method_35_code, exceptionTable := #[], attributes := #[] }
def k20m1 : Method := { name := "unmodifiableList", desc := "(Ljava/util/List;)Ljava/util/List;", sig := { parameters := [(.object "java/util/List")], returnType := some (.object "java/util/List") }, accessFlags := 9, code := some k20c1 }
/-- java/util/Collections -/
def k20 : Class := { plain "java/util/Collections" (some 0) with
  accessFlags := 33
  interfaces := #[]
  cf := some (fileOf pool20 19 #[.nestMembers #[478, 473, 469, 434, 423, 417, 393, 390, 380, 497, 494, 491, 355, 350, 344, 338, 333, 328, 850, 852, 854, 320, 325, 856, 315, 310, 305, 300, 287, 858, 284, 281, 278, 268, 271, 265, 262, 256, 250, 245, 860, 237, 231, 223, 862, 864, 866, 868, 215, 212, 870, 206, 872, 198, 190, 182, 174, 166, 874, 442, 387, 384]] #[{ accessFlags := 2, nameIndex := 5, descriptorIndex := 6, attributes := #[] }, { accessFlags := 9, nameIndex := 646, descriptorIndex := 647, attributes := #[] }] 33 2 #[] #[{ accessFlags := 26, nameIndex := 500, descriptorIndex := 501, attributes := #[] }, { accessFlags := 26, nameIndex := 504, descriptorIndex := 501, attributes := #[] }, { accessFlags := 26, nameIndex := 506, descriptorIndex := 501, attributes := #[] }, { accessFlags := 26, nameIndex := 508, descriptorIndex := 501, attributes := #[] }, { accessFlags := 26, nameIndex := 510, descriptorIndex := 501, attributes := #[] }, { accessFlags := 26, nameIndex := 512, descriptorIndex := 501, attributes := #[] }, { accessFlags := 26, nameIndex := 514, descriptorIndex := 501, attributes := #[] }, { accessFlags := 26, nameIndex := 516, descriptorIndex := 501, attributes := #[] }, { accessFlags := 10, nameIndex := 84, descriptorIndex := 85, attributes := #[] }, { accessFlags := 25, nameIndex := 362, descriptorIndex := 363, attributes := #[] }, { accessFlags := 25, nameIndex := 370, descriptorIndex := 371, attributes := #[] }, { accessFlags := 25, nameIndex := 374, descriptorIndex := 375, attributes := #[] }])
  fields := #[{ name := "BINARYSEARCH_THRESHOLD", type := .int, accessFlags := 26, slot := 0, constantValue := 0 }, { name := "REVERSE_THRESHOLD", type := .int, accessFlags := 26, slot := 1, constantValue := 0 }, { name := "SHUFFLE_THRESHOLD", type := .int, accessFlags := 26, slot := 2, constantValue := 0 }, { name := "FILL_THRESHOLD", type := .int, accessFlags := 26, slot := 3, constantValue := 0 }, { name := "ROTATE_THRESHOLD", type := .int, accessFlags := 26, slot := 4, constantValue := 0 }, { name := "COPY_THRESHOLD", type := .int, accessFlags := 26, slot := 5, constantValue := 0 }, { name := "REPLACEALL_THRESHOLD", type := .int, accessFlags := 26, slot := 6, constantValue := 0 }, { name := "INDEXOFSUBLIST_THRESHOLD", type := .int, accessFlags := 26, slot := 7, constantValue := 0 }, { name := "r", type := (.object "java/util/Random"), accessFlags := 10, slot := 8, constantValue := 0 }, { name := "EMPTY_SET", type := (.object "java/util/Set"), accessFlags := 25, slot := 9, constantValue := 0 }, { name := "EMPTY_LIST", type := (.object "java/util/List"), accessFlags := 25, slot := 10, constantValue := 0 }, { name := "EMPTY_MAP", type := (.object "java/util/Map"), accessFlags := 25, slot := 11, constantValue := 0 }]
  methods := #[k20m0, k20m1]
  instanceTypes := #[]
  staticTypes := #[.int, .int, .int, .int, .int, .int, .int, .int, (.object "java/util/Random"), (.object "java/util/Set"), (.object "java/util/List"), (.object "java/util/Map")]
  resolved := Array.replicate 933 none
  statics := none }

def pool21 : Array CpInfo := pool [(1, .methodref 2 3), (0, .class_ 4), (0, .nameAndType 5 6), (0, u "java/lang/Object"), (0, u "<init>"), (0, u "()V"), (3, .fieldref 11 12), (0, .class_ 13), (0, .nameAndType 14 15), (0, u "java/util/Collections$UnmodifiableCollection"), (0, u "c"), (0, u "Ljava/util/Collection;"), (1, .class_ 19), (1, u "java/util/Collection"), (51, .class_ 72), (0, u "java/io/Serializable"), (0, u "serialVersionUID"), (0, u "J"), (5, u "(Ljava/util/Collection;)V"), (51, .class_ 133), (0, u "java/util/Collections")] 2

def k21c0 : Code := { maxStack := 2, maxLocals := 2, code := jdk_119_method_1_code, exceptionTable := #[], attributes := #[] }
def k21m0 : Method := { name := "<init>", desc := "(Ljava/util/Collection;)V", sig := { parameters := [(.object "java/util/Collection")], returnType := none }, accessFlags := 0, code := some k21c0 }
/-- java/util/Collections$UnmodifiableCollection -/
def k21 : Class := { plain "java/util/Collections$UnmodifiableCollection" (some 0) with
  accessFlags := 32
  interfaces := #[5, 11]
  cf := some (fileOf pool21 11 #[.nestHost 132] #[{ accessFlags := 0, nameIndex := 5, descriptorIndex := 80, attributes := #[] }] 32 2 #[17, 71] #[{ accessFlags := 26, nameIndex := 73, descriptorIndex := 74, attributes := #[] }, { accessFlags := 16, nameIndex := 14, descriptorIndex := 15, attributes := #[] }])
  fields := #[{ name := "serialVersionUID", type := .long, accessFlags := 26, slot := 0, constantValue := 0 }, { name := "c", type := (.object "java/util/Collection"), accessFlags := 16, slot := 0, constantValue := 0 }]
  methods := #[k21m0]
  instanceTypes := #[(.object "java/util/Collection")]
  staticTypes := #[.long]
  resolved := Array.replicate 136 none
  statics := none }

def pool22 : Array CpInfo := pool [(1, .methodref 2 3), (0, .class_ 4), (0, .nameAndType 5 6), (0, u "java/util/Collections$UnmodifiableCollection"), (0, u "<init>"), (0, u "(Ljava/util/Collection;)V"), (0, .fieldref 8 9), (0, .class_ 10), (0, .nameAndType 11 12), (0, u "java/util/Collections$UnmodifiableList"), (0, u "list"), (0, u "Ljava/util/List;"), (1, .class_ 16), (1, u "java/util/List"), (37, u "(Ljava/util/List;)V"), (5, u "serialVersionUID"), (0, u "J"), (59, .class_ 122), (0, u "java/util/Collections")] 4

def k22c0 : Code := { maxStack := 2, maxLocals := 2, code := jdk_120_method_1_code, exceptionTable := #[], attributes := #[] }
def k22m0 : Method := { name := "<init>", desc := "(Ljava/util/List;)V", sig := { parameters := [(.object "java/util/List")], returnType := none }, accessFlags := 0, code := some k22c0 }
/-- java/util/Collections$UnmodifiableList -/
def k22 : Class := { plain "java/util/Collections$UnmodifiableList" (some 21) with
  accessFlags := 32
  interfaces := #[8]
  cf := some (fileOf pool22 8 #[.nestHost 121] #[{ accessFlags := 0, nameIndex := 5, descriptorIndex := 54, attributes := #[] }] 32 2 #[14] #[{ accessFlags := 26, nameIndex := 60, descriptorIndex := 61, attributes := #[] }, { accessFlags := 16, nameIndex := 11, descriptorIndex := 12, attributes := #[] }])
  fields := #[{ name := "serialVersionUID", type := .long, accessFlags := 26, slot := 0, constantValue := 0 }, { name := "list", type := (.object "java/util/List"), accessFlags := 16, slot := 1, constantValue := 0 }]
  methods := #[k22m0]
  instanceTypes := #[(.object "java/util/Collection"), (.object "java/util/List")]
  staticTypes := #[.long]
  resolved := Array.replicate 127 none
  mirror := some 3
  statics := none }

def pool23 : Array CpInfo := pool [(1, .methodref 2 3), (0, .class_ 4), (0, .nameAndType 5 6), (0, u "java/util/Collections$UnmodifiableList"), (0, u "<init>"), (0, u "(Ljava/util/List;)V"), (0, .class_ 8), (0, u "java/util/Collections$UnmodifiableRandomAccessList"), (11, .class_ 21), (0, u "java/util/RandomAccess"), (0, u "serialVersionUID"), (0, u "J"), (23, .class_ 48), (0, u "java/util/Collections")] 3

def k23c0 : Code := { maxStack := 2, maxLocals := 2, code := jdk_121_method_1_code, exceptionTable := #[], attributes := #[] }
def k23m0 : Method := { name := "<init>", desc := "(Ljava/util/List;)V", sig := { parameters := [(.object "java/util/List")], returnType := none }, accessFlags := 0, code := some k23c0 }
/-- java/util/Collections$UnmodifiableRandomAccessList -/
def k23 : Class := { plain "java/util/Collections$UnmodifiableRandomAccessList" (some 22) with
  accessFlags := 32
  interfaces := #[10]
  cf := some (fileOf pool23 7 #[.nestHost 47] #[{ accessFlags := 0, nameIndex := 5, descriptorIndex := 6, attributes := #[] }] 32 2 #[20] #[{ accessFlags := 26, nameIndex := 22, descriptorIndex := 23, attributes := #[] }])
  fields := #[{ name := "serialVersionUID", type := .long, accessFlags := 26, slot := 0, constantValue := 0 }]
  methods := #[k23m0]
  instanceTypes := #[(.object "java/util/Collection"), (.object "java/util/List")]
  staticTypes := #[.long]
  resolved := Array.replicate 52 none
  mirror := some 4
  statics := none }

def pool24 : Array CpInfo := pool [(1, u "java/lang/Class"), (0, .class_ 1), (0, u "java/lang/Object"), (0, .class_ 3)] 3

/-- java/lang/Class -/
def k24 : Class := { plain "java/lang/Class" (some 0) with
  accessFlags := 49
  interfaces := #[]
  cf := some (fileOf pool24 2 #[] #[] 49 4 #[] #[])
  fields := #[]
  methods := #[]
  instanceTypes := #[]
  staticTypes := #[]
  resolved := Array.replicate 8 none
  statics := none }

/-- the primitive byte -/
def k25 : Class := { plain "byte" none with kind := .primitive 'B', accessFlags := 0x411 }
/-- [B -/
def k26 : Class := { plain "[B" (some 0) with kind := .array 25 .byte, interfaces := #[3, 11], accessFlags := 1041 }

/-- the primitive int -/
def k27 : Class := { plain "int" none with kind := .primitive 'I', accessFlags := 0x411 }
/-- [I -/
def k28 : Class := { plain "[I" (some 0) with kind := .array 27 .int, interfaces := #[3, 11], accessFlags := 1041 }

/-- [Ljava/lang/Integer; -/
def k29 : Class := { plain "[Ljava/lang/Integer;" (some 0) with kind := .array 17 (.object "java/lang/Integer"), interfaces := #[3, 11], accessFlags := 1041 }

/-- [Ljava/lang/Object; -/
def k30 : Class := { plain "[Ljava/lang/Object;" (some 0) with kind := .array 0 (.object "java/lang/Object"), interfaces := #[3, 11], accessFlags := 1041 }

def heap : Heap := #[{ cls := 12, slots := #[.long 0, .int 0, .ref 262, .ref 263], vm := .statics 12 },
  { cls := 18, slots := #[.int 0, .int 127, .ref 5, .null, .int 0], vm := .statics 18 },
  { cls := 24, slots := #[], vm := .mirror 12 },
  { cls := 24, slots := #[], vm := .mirror 22 },
  { cls := 24, slots := #[], vm := .mirror 23 },
  { cls := 29, slots := #[.ref 6, .ref 7, .ref 8, .ref 9, .ref 10, .ref 11, .ref 12, .ref 13, .ref 14, .ref 15, .ref 16, .ref 17, .ref 18, .ref 19, .ref 20, .ref 21, .ref 22, .ref 23, .ref 24, .ref 25, .ref 26, .ref 27, .ref 28, .ref 29, .ref 30, .ref 31, .ref 32, .ref 33, .ref 34, .ref 35, .ref 36, .ref 37, .ref 38, .ref 39, .ref 40, .ref 41, .ref 42, .ref 43, .ref 44, .ref 45, .ref 46, .ref 47, .ref 48, .ref 49, .ref 50, .ref 51, .ref 52, .ref 53, .ref 54, .ref 55, .ref 56, .ref 57, .ref 58, .ref 59, .ref 60, .ref 61, .ref 62, .ref 63, .ref 64, .ref 65, .ref 66, .ref 67, .ref 68, .ref 69, .ref 70, .ref 71, .ref 72, .ref 73, .ref 74, .ref 75, .ref 76, .ref 77, .ref 78, .ref 79, .ref 80, .ref 81, .ref 82, .ref 83, .ref 84, .ref 85, .ref 86, .ref 87, .ref 88, .ref 89, .ref 90, .ref 91, .ref 92, .ref 93, .ref 94, .ref 95, .ref 96, .ref 97, .ref 98, .ref 99, .ref 100, .ref 101, .ref 102, .ref 103, .ref 104, .ref 105, .ref 106, .ref 107, .ref 108, .ref 109, .ref 110, .ref 111, .ref 112, .ref 113, .ref 114, .ref 115, .ref 116, .ref 117, .ref 118, .ref 119, .ref 120, .ref 121, .ref 122, .ref 123, .ref 124, .ref 125, .ref 126, .ref 127, .ref 128, .ref 129, .ref 130, .ref 131, .ref 132, .ref 133, .ref 134, .ref 135, .ref 136, .ref 137, .ref 138, .ref 139, .ref 140, .ref 141, .ref 142, .ref 143, .ref 144, .ref 145, .ref 146, .ref 147, .ref 148, .ref 149, .ref 150, .ref 151, .ref 152, .ref 153, .ref 154, .ref 155, .ref 156, .ref 157, .ref 158, .ref 159, .ref 160, .ref 161, .ref 162, .ref 163, .ref 164, .ref 165, .ref 166, .ref 167, .ref 168, .ref 169, .ref 170, .ref 171, .ref 172, .ref 173, .ref 174, .ref 175, .ref 176, .ref 177, .ref 178, .ref 179, .ref 180, .ref 181, .ref 182, .ref 183, .ref 184, .ref 185, .ref 186, .ref 187, .ref 188, .ref 189, .ref 190, .ref 191, .ref 192, .ref 193, .ref 194, .ref 195, .ref 196, .ref 197, .ref 198, .ref 199, .ref 200, .ref 201, .ref 202, .ref 203, .ref 204, .ref 205, .ref 206, .ref 207, .ref 208, .ref 209, .ref 210, .ref 211, .ref 212, .ref 213, .ref 214, .ref 215, .ref 216, .ref 217, .ref 218, .ref 219, .ref 220, .ref 221, .ref 222, .ref 223, .ref 224, .ref 225, .ref 226, .ref 227, .ref 228, .ref 229, .ref 230, .ref 231, .ref 232, .ref 233, .ref 234, .ref 235, .ref 236, .ref 237, .ref 238, .ref 239, .ref 240, .ref 241, .ref 242, .ref 243, .ref 244, .ref 245, .ref 246, .ref 247, .ref 248, .ref 249, .ref 250, .ref 251, .ref 252, .ref 253, .ref 254, .ref 255, .ref 256, .ref 257, .ref 258, .ref 259, .ref 260, .ref 261], vm := .none },
  { cls := 17, slots := #[.int (-128)], vm := .none },
  { cls := 17, slots := #[.int (-127)], vm := .none },
  { cls := 17, slots := #[.int (-126)], vm := .none },
  { cls := 17, slots := #[.int (-125)], vm := .none },
  { cls := 17, slots := #[.int (-124)], vm := .none },
  { cls := 17, slots := #[.int (-123)], vm := .none },
  { cls := 17, slots := #[.int (-122)], vm := .none },
  { cls := 17, slots := #[.int (-121)], vm := .none },
  { cls := 17, slots := #[.int (-120)], vm := .none },
  { cls := 17, slots := #[.int (-119)], vm := .none },
  { cls := 17, slots := #[.int (-118)], vm := .none },
  { cls := 17, slots := #[.int (-117)], vm := .none },
  { cls := 17, slots := #[.int (-116)], vm := .none },
  { cls := 17, slots := #[.int (-115)], vm := .none },
  { cls := 17, slots := #[.int (-114)], vm := .none },
  { cls := 17, slots := #[.int (-113)], vm := .none },
  { cls := 17, slots := #[.int (-112)], vm := .none },
  { cls := 17, slots := #[.int (-111)], vm := .none },
  { cls := 17, slots := #[.int (-110)], vm := .none },
  { cls := 17, slots := #[.int (-109)], vm := .none },
  { cls := 17, slots := #[.int (-108)], vm := .none },
  { cls := 17, slots := #[.int (-107)], vm := .none },
  { cls := 17, slots := #[.int (-106)], vm := .none },
  { cls := 17, slots := #[.int (-105)], vm := .none },
  { cls := 17, slots := #[.int (-104)], vm := .none },
  { cls := 17, slots := #[.int (-103)], vm := .none },
  { cls := 17, slots := #[.int (-102)], vm := .none },
  { cls := 17, slots := #[.int (-101)], vm := .none },
  { cls := 17, slots := #[.int (-100)], vm := .none },
  { cls := 17, slots := #[.int (-99)], vm := .none },
  { cls := 17, slots := #[.int (-98)], vm := .none },
  { cls := 17, slots := #[.int (-97)], vm := .none },
  { cls := 17, slots := #[.int (-96)], vm := .none },
  { cls := 17, slots := #[.int (-95)], vm := .none },
  { cls := 17, slots := #[.int (-94)], vm := .none },
  { cls := 17, slots := #[.int (-93)], vm := .none },
  { cls := 17, slots := #[.int (-92)], vm := .none },
  { cls := 17, slots := #[.int (-91)], vm := .none },
  { cls := 17, slots := #[.int (-90)], vm := .none },
  { cls := 17, slots := #[.int (-89)], vm := .none },
  { cls := 17, slots := #[.int (-88)], vm := .none },
  { cls := 17, slots := #[.int (-87)], vm := .none },
  { cls := 17, slots := #[.int (-86)], vm := .none },
  { cls := 17, slots := #[.int (-85)], vm := .none },
  { cls := 17, slots := #[.int (-84)], vm := .none },
  { cls := 17, slots := #[.int (-83)], vm := .none },
  { cls := 17, slots := #[.int (-82)], vm := .none },
  { cls := 17, slots := #[.int (-81)], vm := .none },
  { cls := 17, slots := #[.int (-80)], vm := .none },
  { cls := 17, slots := #[.int (-79)], vm := .none },
  { cls := 17, slots := #[.int (-78)], vm := .none },
  { cls := 17, slots := #[.int (-77)], vm := .none },
  { cls := 17, slots := #[.int (-76)], vm := .none },
  { cls := 17, slots := #[.int (-75)], vm := .none },
  { cls := 17, slots := #[.int (-74)], vm := .none },
  { cls := 17, slots := #[.int (-73)], vm := .none },
  { cls := 17, slots := #[.int (-72)], vm := .none },
  { cls := 17, slots := #[.int (-71)], vm := .none },
  { cls := 17, slots := #[.int (-70)], vm := .none },
  { cls := 17, slots := #[.int (-69)], vm := .none },
  { cls := 17, slots := #[.int (-68)], vm := .none },
  { cls := 17, slots := #[.int (-67)], vm := .none },
  { cls := 17, slots := #[.int (-66)], vm := .none },
  { cls := 17, slots := #[.int (-65)], vm := .none },
  { cls := 17, slots := #[.int (-64)], vm := .none },
  { cls := 17, slots := #[.int (-63)], vm := .none },
  { cls := 17, slots := #[.int (-62)], vm := .none },
  { cls := 17, slots := #[.int (-61)], vm := .none },
  { cls := 17, slots := #[.int (-60)], vm := .none },
  { cls := 17, slots := #[.int (-59)], vm := .none },
  { cls := 17, slots := #[.int (-58)], vm := .none },
  { cls := 17, slots := #[.int (-57)], vm := .none },
  { cls := 17, slots := #[.int (-56)], vm := .none },
  { cls := 17, slots := #[.int (-55)], vm := .none },
  { cls := 17, slots := #[.int (-54)], vm := .none },
  { cls := 17, slots := #[.int (-53)], vm := .none },
  { cls := 17, slots := #[.int (-52)], vm := .none },
  { cls := 17, slots := #[.int (-51)], vm := .none },
  { cls := 17, slots := #[.int (-50)], vm := .none },
  { cls := 17, slots := #[.int (-49)], vm := .none },
  { cls := 17, slots := #[.int (-48)], vm := .none },
  { cls := 17, slots := #[.int (-47)], vm := .none },
  { cls := 17, slots := #[.int (-46)], vm := .none },
  { cls := 17, slots := #[.int (-45)], vm := .none },
  { cls := 17, slots := #[.int (-44)], vm := .none },
  { cls := 17, slots := #[.int (-43)], vm := .none },
  { cls := 17, slots := #[.int (-42)], vm := .none },
  { cls := 17, slots := #[.int (-41)], vm := .none },
  { cls := 17, slots := #[.int (-40)], vm := .none },
  { cls := 17, slots := #[.int (-39)], vm := .none },
  { cls := 17, slots := #[.int (-38)], vm := .none },
  { cls := 17, slots := #[.int (-37)], vm := .none },
  { cls := 17, slots := #[.int (-36)], vm := .none },
  { cls := 17, slots := #[.int (-35)], vm := .none },
  { cls := 17, slots := #[.int (-34)], vm := .none },
  { cls := 17, slots := #[.int (-33)], vm := .none },
  { cls := 17, slots := #[.int (-32)], vm := .none },
  { cls := 17, slots := #[.int (-31)], vm := .none },
  { cls := 17, slots := #[.int (-30)], vm := .none },
  { cls := 17, slots := #[.int (-29)], vm := .none },
  { cls := 17, slots := #[.int (-28)], vm := .none },
  { cls := 17, slots := #[.int (-27)], vm := .none },
  { cls := 17, slots := #[.int (-26)], vm := .none },
  { cls := 17, slots := #[.int (-25)], vm := .none },
  { cls := 17, slots := #[.int (-24)], vm := .none },
  { cls := 17, slots := #[.int (-23)], vm := .none },
  { cls := 17, slots := #[.int (-22)], vm := .none },
  { cls := 17, slots := #[.int (-21)], vm := .none },
  { cls := 17, slots := #[.int (-20)], vm := .none },
  { cls := 17, slots := #[.int (-19)], vm := .none },
  { cls := 17, slots := #[.int (-18)], vm := .none },
  { cls := 17, slots := #[.int (-17)], vm := .none },
  { cls := 17, slots := #[.int (-16)], vm := .none },
  { cls := 17, slots := #[.int (-15)], vm := .none },
  { cls := 17, slots := #[.int (-14)], vm := .none },
  { cls := 17, slots := #[.int (-13)], vm := .none },
  { cls := 17, slots := #[.int (-12)], vm := .none },
  { cls := 17, slots := #[.int (-11)], vm := .none },
  { cls := 17, slots := #[.int (-10)], vm := .none },
  { cls := 17, slots := #[.int (-9)], vm := .none },
  { cls := 17, slots := #[.int (-8)], vm := .none },
  { cls := 17, slots := #[.int (-7)], vm := .none },
  { cls := 17, slots := #[.int (-6)], vm := .none },
  { cls := 17, slots := #[.int (-5)], vm := .none },
  { cls := 17, slots := #[.int (-4)], vm := .none },
  { cls := 17, slots := #[.int (-3)], vm := .none },
  { cls := 17, slots := #[.int (-2)], vm := .none },
  { cls := 17, slots := #[.int (-1)], vm := .none },
  { cls := 17, slots := #[.int 0], vm := .none },
  { cls := 17, slots := #[.int 1], vm := .none },
  { cls := 17, slots := #[.int 2], vm := .none },
  { cls := 17, slots := #[.int 3], vm := .none },
  { cls := 17, slots := #[.int 4], vm := .none },
  { cls := 17, slots := #[.int 5], vm := .none },
  { cls := 17, slots := #[.int 6], vm := .none },
  { cls := 17, slots := #[.int 7], vm := .none },
  { cls := 17, slots := #[.int 8], vm := .none },
  { cls := 17, slots := #[.int 9], vm := .none },
  { cls := 17, slots := #[.int 10], vm := .none },
  { cls := 17, slots := #[.int 11], vm := .none },
  { cls := 17, slots := #[.int 12], vm := .none },
  { cls := 17, slots := #[.int 13], vm := .none },
  { cls := 17, slots := #[.int 14], vm := .none },
  { cls := 17, slots := #[.int 15], vm := .none },
  { cls := 17, slots := #[.int 16], vm := .none },
  { cls := 17, slots := #[.int 17], vm := .none },
  { cls := 17, slots := #[.int 18], vm := .none },
  { cls := 17, slots := #[.int 19], vm := .none },
  { cls := 17, slots := #[.int 20], vm := .none },
  { cls := 17, slots := #[.int 21], vm := .none },
  { cls := 17, slots := #[.int 22], vm := .none },
  { cls := 17, slots := #[.int 23], vm := .none },
  { cls := 17, slots := #[.int 24], vm := .none },
  { cls := 17, slots := #[.int 25], vm := .none },
  { cls := 17, slots := #[.int 26], vm := .none },
  { cls := 17, slots := #[.int 27], vm := .none },
  { cls := 17, slots := #[.int 28], vm := .none },
  { cls := 17, slots := #[.int 29], vm := .none },
  { cls := 17, slots := #[.int 30], vm := .none },
  { cls := 17, slots := #[.int 31], vm := .none },
  { cls := 17, slots := #[.int 32], vm := .none },
  { cls := 17, slots := #[.int 33], vm := .none },
  { cls := 17, slots := #[.int 34], vm := .none },
  { cls := 17, slots := #[.int 35], vm := .none },
  { cls := 17, slots := #[.int 36], vm := .none },
  { cls := 17, slots := #[.int 37], vm := .none },
  { cls := 17, slots := #[.int 38], vm := .none },
  { cls := 17, slots := #[.int 39], vm := .none },
  { cls := 17, slots := #[.int 40], vm := .none },
  { cls := 17, slots := #[.int 41], vm := .none },
  { cls := 17, slots := #[.int 42], vm := .none },
  { cls := 17, slots := #[.int 43], vm := .none },
  { cls := 17, slots := #[.int 44], vm := .none },
  { cls := 17, slots := #[.int 45], vm := .none },
  { cls := 17, slots := #[.int 46], vm := .none },
  { cls := 17, slots := #[.int 47], vm := .none },
  { cls := 17, slots := #[.int 48], vm := .none },
  { cls := 17, slots := #[.int 49], vm := .none },
  { cls := 17, slots := #[.int 50], vm := .none },
  { cls := 17, slots := #[.int 51], vm := .none },
  { cls := 17, slots := #[.int 52], vm := .none },
  { cls := 17, slots := #[.int 53], vm := .none },
  { cls := 17, slots := #[.int 54], vm := .none },
  { cls := 17, slots := #[.int 55], vm := .none },
  { cls := 17, slots := #[.int 56], vm := .none },
  { cls := 17, slots := #[.int 57], vm := .none },
  { cls := 17, slots := #[.int 58], vm := .none },
  { cls := 17, slots := #[.int 59], vm := .none },
  { cls := 17, slots := #[.int 60], vm := .none },
  { cls := 17, slots := #[.int 61], vm := .none },
  { cls := 17, slots := #[.int 62], vm := .none },
  { cls := 17, slots := #[.int 63], vm := .none },
  { cls := 17, slots := #[.int 64], vm := .none },
  { cls := 17, slots := #[.int 65], vm := .none },
  { cls := 17, slots := #[.int 66], vm := .none },
  { cls := 17, slots := #[.int 67], vm := .none },
  { cls := 17, slots := #[.int 68], vm := .none },
  { cls := 17, slots := #[.int 69], vm := .none },
  { cls := 17, slots := #[.int 70], vm := .none },
  { cls := 17, slots := #[.int 71], vm := .none },
  { cls := 17, slots := #[.int 72], vm := .none },
  { cls := 17, slots := #[.int 73], vm := .none },
  { cls := 17, slots := #[.int 74], vm := .none },
  { cls := 17, slots := #[.int 75], vm := .none },
  { cls := 17, slots := #[.int 76], vm := .none },
  { cls := 17, slots := #[.int 77], vm := .none },
  { cls := 17, slots := #[.int 78], vm := .none },
  { cls := 17, slots := #[.int 79], vm := .none },
  { cls := 17, slots := #[.int 80], vm := .none },
  { cls := 17, slots := #[.int 81], vm := .none },
  { cls := 17, slots := #[.int 82], vm := .none },
  { cls := 17, slots := #[.int 83], vm := .none },
  { cls := 17, slots := #[.int 84], vm := .none },
  { cls := 17, slots := #[.int 85], vm := .none },
  { cls := 17, slots := #[.int 86], vm := .none },
  { cls := 17, slots := #[.int 87], vm := .none },
  { cls := 17, slots := #[.int 88], vm := .none },
  { cls := 17, slots := #[.int 89], vm := .none },
  { cls := 17, slots := #[.int 90], vm := .none },
  { cls := 17, slots := #[.int 91], vm := .none },
  { cls := 17, slots := #[.int 92], vm := .none },
  { cls := 17, slots := #[.int 93], vm := .none },
  { cls := 17, slots := #[.int 94], vm := .none },
  { cls := 17, slots := #[.int 95], vm := .none },
  { cls := 17, slots := #[.int 96], vm := .none },
  { cls := 17, slots := #[.int 97], vm := .none },
  { cls := 17, slots := #[.int 98], vm := .none },
  { cls := 17, slots := #[.int 99], vm := .none },
  { cls := 17, slots := #[.int 100], vm := .none },
  { cls := 17, slots := #[.int 101], vm := .none },
  { cls := 17, slots := #[.int 102], vm := .none },
  { cls := 17, slots := #[.int 103], vm := .none },
  { cls := 17, slots := #[.int 104], vm := .none },
  { cls := 17, slots := #[.int 105], vm := .none },
  { cls := 17, slots := #[.int 106], vm := .none },
  { cls := 17, slots := #[.int 107], vm := .none },
  { cls := 17, slots := #[.int 108], vm := .none },
  { cls := 17, slots := #[.int 109], vm := .none },
  { cls := 17, slots := #[.int 110], vm := .none },
  { cls := 17, slots := #[.int 111], vm := .none },
  { cls := 17, slots := #[.int 112], vm := .none },
  { cls := 17, slots := #[.int 113], vm := .none },
  { cls := 17, slots := #[.int 114], vm := .none },
  { cls := 17, slots := #[.int 115], vm := .none },
  { cls := 17, slots := #[.int 116], vm := .none },
  { cls := 17, slots := #[.int 117], vm := .none },
  { cls := 17, slots := #[.int 118], vm := .none },
  { cls := 17, slots := #[.int 119], vm := .none },
  { cls := 17, slots := #[.int 120], vm := .none },
  { cls := 17, slots := #[.int 121], vm := .none },
  { cls := 17, slots := #[.int 122], vm := .none },
  { cls := 17, slots := #[.int 123], vm := .none },
  { cls := 17, slots := #[.int 124], vm := .none },
  { cls := 17, slots := #[.int 125], vm := .none },
  { cls := 17, slots := #[.int 126], vm := .none },
  { cls := 17, slots := #[.int 127], vm := .none },
  { cls := 30, slots := #[], vm := .none },
  { cls := 30, slots := #[], vm := .none }]
def classes : Array Class := #[k0, k1, k2, k3, k4, k5, k6, k7, k8, k9, k10, k11, k12, k13, k14, k15, k16, k17, k18, k19, k20, k21, k22, k23, k24, k25, k26, k27, k28, k29, k30]
def interned : List (Array UInt16 × Addr) := []
def slotsUsed : Nat := 521
def theMethod : MethodId := ⟨1, 1⟩
def args0 : Array Value := #[.int 1, .int 1, .int 3, .int 4, .int 9]
def aboutOver (below : List Frame) : State where
  vm := { classes := classes, interned := interned.toArray }
  heap := heap
  slotsUsed := slotsUsed
  threads := #[{ frames := .invoking theMethod args0 :: below }]
def below0 : List Frame := [.native { method := ⟨0, 0⟩, args := #[] }]
def about1 : State := aboutOver below0
def p0 : Program := .bare "" "" ""
def e0 : Env := launch0.env 0 0 0
theorem w_frames : about1.frames = Frame.invoking theMethod args0 :: below0 := rfl
set_option maxRecDepth 65536 in
theorem w_args : argsFit about1.vm theMethod args0 = true := by decide +kernel
set_option maxRecDepth 65536 in
theorem w_heap : heapFits about1 = true := by decide +kernel
set_option maxRecDepth 65536 in
theorem w_runnable : about1.curStatus? = some .runnable := by decide +kernel
set_option maxRecDepth 65536 in
theorem w_alone : about1.alone = true := by decide +kernel
set_option maxRecDepth 65536 in
theorem w_named : about1.methodNamed? x = some theMethod := by decide +kernel
set_option maxRecDepth 65536 in
theorem w_hears : about1.hears theMethod below0 = true := by decide +kernel
set_option maxRecDepth 65536 in
theorem w_ripe : about1.ripe theMethod args0 below0 = true := by decide +kernel
theorem w_running : about1.status = .running := rfl
set_option maxRecDepth 65536 in
theorem w_room : about1.hasRoom e0.platform room_1 = true :=
  launch0.hasRoom_least _ room_1 (by decide +kernel) (by decide +kernel) (by decide +kernel) (by decide +kernel) (by decide +kernel) (by decide +kernel)
theorem allAtoms_all (ts : List Jvm.Cond) (a : Array Jvm.Value) (st : Jvm.State) : (allAtoms ts).before a st = ts.all (fun c => c.before a st) := by
  induction ts with
  | nil => rfl
  | cons c t ih =>
    show (Jvm.Cond.and c (allAtoms t)).before a st = _
    rw [Jvm.Cond.before_and, ih, List.all_cons]
def words1 : List Jvm.Cond := Jvm.Cond.code x code maxLocals ret :: tables_1
/-- a 'code' word, met by the world's own term for the bytes: nothing is compared byte by byte -/
theorem code_word {y : MethodName} {bytes : ByteArray} {mx : Nat} {rt : Option FieldType} {a : Array Value} {s : State} {m : MethodId} {meth : Method} {c : Code} (h1 : s.methodNamed? y = some m) (h2 : s.vm.method? m = some meth) (h3 : meth.code = some c) (h4 : c.code = bytes)
    (h5 : (c.maxLocals == mx && c.exceptionTable.isEmpty && decide (c.maxStack ≤ mostOperands) && decide (meth.sig.returnType = rt) && !meth.locks && decide (parseMethodDescriptor y.desc = some meth.sig)) = true) : (Jvm.Cond.code y bytes mx rt).before a s = true := by
  simp only [Bool.and_eq_true, beq_iff_eq, Bool.not_eq_true', decide_eq_true_eq] at h5
  obtain ⟨⟨⟨⟨⟨g1, g2⟩, g3⟩, g4⟩, g5⟩, g6⟩ := h5
  simp [Cond.before, Cond.holds, Cond.value, h1, h2, h3, h4, g1, g2, g3, g4, g5, g6]
def isCode : Jvm.Cond → Bool
  | .code _ _ _ _ => true
  | _ => false
theorem all_split {L : List Jvm.Cond} {P : Jvm.Cond → Bool} (h1 : L.all (fun c => isCode c || P c) = true) (h2 : ∀ c ∈ L.filter isCode, P c = true) : L.all P = true := by
  refine List.all_eq_true.mpr fun c hc => ?_
  have h := List.all_eq_true.mp h1 c hc
  rcases Bool.eq_false_or_eq_true (isCode c) with hi | hi
  · exact h2 c (List.mem_filter.mpr ⟨hc, hi⟩)
  · simpa [hi] using h
set_option maxRecDepth 65536 in
theorem w_c0 : (Jvm.Cond.code x code maxLocals ret).before args0 about1 = true := code_word (m := ⟨1, 1⟩) (meth := k1m1) (c := k1c1) (by decide +kernel) rfl rfl rfl (by decide +kernel)
set_option maxRecDepth 65536 in
theorem w_c1 : (Jvm.Cond.code ({ cls := "com/example/inkcap/inkcap/lexicon/WordCategories", name := "<init>", desc := "([I)V" } : Jvm.MethodName) prog_55_method_1_code (5 : Nat) (Option.none : Option Jvm.ClassFile.FieldType)).before args0 about1 = true := code_word (m := ⟨2, 0⟩) (meth := k2m0) (c := k2c0) (by decide +kernel) rfl rfl rfl (by decide +kernel)
set_option maxRecDepth 65536 in
theorem w_c2 : (Jvm.Cond.code ({ cls := "java/lang/Object", name := "<init>", desc := "()V" } : Jvm.MethodName) object_method_1_code (1 : Nat) (Option.none : Option Jvm.ClassFile.FieldType)).before args0 about1 = true := code_word (m := ⟨0, 0⟩) (meth := k0m0) (c := k0c0) (by decide +kernel) rfl rfl rfl (by decide +kernel)
set_option maxRecDepth 65536 in
theorem w_c3 : (Jvm.Cond.code ({ cls := "java/util/ArrayList", name := "<init>", desc := "()V" } : Jvm.MethodName) jdk_38_method_2_code (1 : Nat) (Option.none : Option Jvm.ClassFile.FieldType)).before args0 about1 = true := code_word (m := ⟨12, 0⟩) (meth := k12m0) (c := k12c0) (by decide +kernel) rfl rfl rfl (by decide +kernel)
set_option maxRecDepth 65536 in
theorem w_c4 : (Jvm.Cond.code ({ cls := "java/util/AbstractList", name := "<init>", desc := "()V" } : Jvm.MethodName) jdk_39_method_1_code (1 : Nat) (Option.none : Option Jvm.ClassFile.FieldType)).before args0 about1 = true := code_word (m := ⟨9, 0⟩) (meth := k9m0) (c := k9c0) (by decide +kernel) rfl rfl rfl (by decide +kernel)
set_option maxRecDepth 65536 in
theorem w_c5 : (Jvm.Cond.code ({ cls := "java/util/AbstractCollection", name := "<init>", desc := "()V" } : Jvm.MethodName) jdk_22_method_1_code (1 : Nat) (Option.none : Option Jvm.ClassFile.FieldType)).before args0 about1 = true := code_word (m := ⟨6, 0⟩) (meth := k6m0) (c := k6c0) (by decide +kernel) rfl rfl rfl (by decide +kernel)
set_option maxRecDepth 65536 in
theorem w_c6 : (Jvm.Cond.code ({ cls := "java/lang/Integer", name := "valueOf", desc := "(I)Ljava/lang/Integer;" } : Jvm.MethodName) jdk_33_method_22_code (1 : Nat) (Option.some (Jvm.ClassFile.FieldType.object "java/lang/Integer"))).before args0 about1 = true := code_word (m := ⟨17, 0⟩) (meth := k17m0) (c := k17c0) (by decide +kernel) rfl rfl rfl (by decide +kernel)
set_option maxRecDepth 65536 in
theorem w_c7 : (Jvm.Cond.code ({ cls := "java/util/ArrayList", name := "add", desc := "(Ljava/lang/Object;)Z" } : Jvm.MethodName) jdk_38_method_25_code (2 : Nat) (Option.some Jvm.ClassFile.FieldType.boolean)).before args0 about1 = true := code_word (m := ⟨12, 4⟩) (meth := k12m4) (c := k12c4) (by decide +kernel) rfl rfl rfl (by decide +kernel)
set_option maxRecDepth 65536 in
theorem w_c8 : (Jvm.Cond.code ({ cls := "java/util/ArrayList", name := "add", desc := "(Ljava/lang/Object;[Ljava/lang/Object;I)V" } : Jvm.MethodName) jdk_38_method_24_code (4 : Nat) (Option.none : Option Jvm.ClassFile.FieldType)).before args0 about1 = true := code_word (m := ⟨12, 3⟩) (meth := k12m3) (c := k12c3) (by decide +kernel) rfl rfl rfl (by decide +kernel)
set_option maxRecDepth 65536 in
theorem w_c9 : (Jvm.Cond.code ({ cls := "java/util/ArrayList", name := "grow", desc := "()[Ljava/lang/Object;" } : Jvm.MethodName) jdk_38_method_7_code (1 : Nat) (Option.some (Jvm.ClassFile.FieldType.array (Jvm.ClassFile.FieldType.object "java/lang/Object")))).before args0 about1 = true := code_word (m := ⟨12, 2⟩) (meth := k12m2) (c := k12c2) (by decide +kernel) rfl rfl rfl (by decide +kernel)
set_option maxRecDepth 65536 in
theorem w_c10 : (Jvm.Cond.code ({ cls := "java/util/ArrayList", name := "grow", desc := "(I)[Ljava/lang/Object;" } : Jvm.MethodName) jdk_38_method_6_code (4 : Nat) (Option.some (Jvm.ClassFile.FieldType.array (Jvm.ClassFile.FieldType.object "java/lang/Object")))).before args0 about1 = true := code_word (m := ⟨12, 1⟩) (meth := k12m1) (c := k12c1) (by decide +kernel) rfl rfl rfl (by decide +kernel)
set_option maxRecDepth 65536 in
theorem w_c11 : (Jvm.Cond.code ({ cls := "java/lang/Math", name := "max", desc := "(II)I" } : Jvm.MethodName) jdk_29_method_65_code (2 : Nat) (Option.some Jvm.ClassFile.FieldType.int)).before args0 about1 = true := code_word (m := ⟨19, 1⟩) (meth := k19m1) (c := k19c1) (by decide +kernel) rfl rfl rfl (by decide +kernel)
set_option maxRecDepth 65536 in
theorem w_c12 : (Jvm.Cond.code ({ cls := "java/util/Collections", name := "unmodifiableList", desc := "(Ljava/util/List;)Ljava/util/List;" } : Jvm.MethodName) jdk_79_method_35_code (1 : Nat) (Option.some (Jvm.ClassFile.FieldType.object "java/util/List"))).before args0 about1 = true := code_word (m := ⟨20, 1⟩) (meth := k20m1) (c := k20c1) (by decide +kernel) rfl rfl rfl (by decide +kernel)
set_option maxRecDepth 65536 in
theorem w_c13 : (Jvm.Cond.code ({ cls := "java/util/Collections$UnmodifiableRandomAccessList", name := "<init>", desc := "(Ljava/util/List;)V" } : Jvm.MethodName) jdk_121_method_1_code (2 : Nat) (Option.none : Option Jvm.ClassFile.FieldType)).before args0 about1 = true := code_word (m := ⟨23, 0⟩) (meth := k23m0) (c := k23c0) (by decide +kernel) rfl rfl rfl (by decide +kernel)
set_option maxRecDepth 65536 in
theorem w_c14 : (Jvm.Cond.code ({ cls := "java/util/Collections$UnmodifiableList", name := "<init>", desc := "(Ljava/util/List;)V" } : Jvm.MethodName) jdk_120_method_1_code (2 : Nat) (Option.none : Option Jvm.ClassFile.FieldType)).before args0 about1 = true := code_word (m := ⟨22, 0⟩) (meth := k22m0) (c := k22c0) (by decide +kernel) rfl rfl rfl (by decide +kernel)
set_option maxRecDepth 65536 in
theorem w_c15 : (Jvm.Cond.code ({ cls := "java/util/Collections$UnmodifiableCollection", name := "<init>", desc := "(Ljava/util/Collection;)V" } : Jvm.MethodName) jdk_119_method_1_code (2 : Nat) (Option.none : Option Jvm.ClassFile.FieldType)).before args0 about1 = true := code_word (m := ⟨21, 0⟩) (meth := k21m0) (c := k21c0) (by decide +kernel) rfl rfl rfl (by decide +kernel)
set_option maxRecDepth 65536 in
theorem w_c16 : (Jvm.Cond.code ({ cls := "com/example/inkcap/inkcap/lexicon/WordCategories", name := "getProbability", desc := "(I)D" } : Jvm.MethodName) prog_55_method_4_code (2 : Nat) (Option.some Jvm.ClassFile.FieldType.double)).before args0 about1 = true := code_word (m := ⟨2, 1⟩) (meth := k2m1) (c := k2c1) (by decide +kernel) rfl rfl rfl (by decide +kernel)
def codes1 : List Jvm.Cond := [Jvm.Cond.code x code maxLocals ret, Jvm.Cond.code ({ cls := "com/example/inkcap/inkcap/lexicon/WordCategories", name := "<init>", desc := "([I)V" } : Jvm.MethodName) prog_55_method_1_code (5 : Nat) (Option.none : Option Jvm.ClassFile.FieldType), Jvm.Cond.code ({ cls := "java/lang/Object", name := "<init>", desc := "()V" } : Jvm.MethodName) object_method_1_code (1 : Nat) (Option.none : Option Jvm.ClassFile.FieldType), Jvm.Cond.code ({ cls := "java/util/ArrayList", name := "<init>", desc := "()V" } : Jvm.MethodName) jdk_38_method_2_code (1 : Nat) (Option.none : Option Jvm.ClassFile.FieldType), Jvm.Cond.code ({ cls := "java/util/AbstractList", name := "<init>", desc := "()V" } : Jvm.MethodName) jdk_39_method_1_code (1 : Nat) (Option.none : Option Jvm.ClassFile.FieldType), Jvm.Cond.code ({ cls := "java/util/AbstractCollection", name := "<init>", desc := "()V" } : Jvm.MethodName) jdk_22_method_1_code (1 : Nat) (Option.none : Option Jvm.ClassFile.FieldType), Jvm.Cond.code ({ cls := "java/lang/Integer", name := "valueOf", desc := "(I)Ljava/lang/Integer;" } : Jvm.MethodName) jdk_33_method_22_code (1 : Nat) (Option.some (Jvm.ClassFile.FieldType.object "java/lang/Integer")), Jvm.Cond.code ({ cls := "java/util/ArrayList", name := "add", desc := "(Ljava/lang/Object;)Z" } : Jvm.MethodName) jdk_38_method_25_code (2 : Nat) (Option.some Jvm.ClassFile.FieldType.boolean), Jvm.Cond.code ({ cls := "java/util/ArrayList", name := "add", desc := "(Ljava/lang/Object;[Ljava/lang/Object;I)V" } : Jvm.MethodName) jdk_38_method_24_code (4 : Nat) (Option.none : Option Jvm.ClassFile.FieldType), Jvm.Cond.code ({ cls := "java/util/ArrayList", name := "grow", desc := "()[Ljava/lang/Object;" } : Jvm.MethodName) jdk_38_method_7_code (1 : Nat) (Option.some (Jvm.ClassFile.FieldType.array (Jvm.ClassFile.FieldType.object "java/lang/Object"))), Jvm.Cond.code ({ cls := "java/util/ArrayList", name := "grow", desc := "(I)[Ljava/lang/Object;" } : Jvm.MethodName) jdk_38_method_6_code (4 : Nat) (Option.some (Jvm.ClassFile.FieldType.array (Jvm.ClassFile.FieldType.object "java/lang/Object"))), Jvm.Cond.code ({ cls := "java/lang/Math", name := "max", desc := "(II)I" } : Jvm.MethodName) jdk_29_method_65_code (2 : Nat) (Option.some Jvm.ClassFile.FieldType.int), Jvm.Cond.code ({ cls := "java/util/Collections", name := "unmodifiableList", desc := "(Ljava/util/List;)Ljava/util/List;" } : Jvm.MethodName) jdk_79_method_35_code (1 : Nat) (Option.some (Jvm.ClassFile.FieldType.object "java/util/List")), Jvm.Cond.code ({ cls := "java/util/Collections$UnmodifiableRandomAccessList", name := "<init>", desc := "(Ljava/util/List;)V" } : Jvm.MethodName) jdk_121_method_1_code (2 : Nat) (Option.none : Option Jvm.ClassFile.FieldType), Jvm.Cond.code ({ cls := "java/util/Collections$UnmodifiableList", name := "<init>", desc := "(Ljava/util/List;)V" } : Jvm.MethodName) jdk_120_method_1_code (2 : Nat) (Option.none : Option Jvm.ClassFile.FieldType), Jvm.Cond.code ({ cls := "java/util/Collections$UnmodifiableCollection", name := "<init>", desc := "(Ljava/util/Collection;)V" } : Jvm.MethodName) jdk_119_method_1_code (2 : Nat) (Option.none : Option Jvm.ClassFile.FieldType), Jvm.Cond.code ({ cls := "com/example/inkcap/inkcap/lexicon/WordCategories", name := "getProbability", desc := "(I)D" } : Jvm.MethodName) prog_55_method_4_code (2 : Nat) (Option.some Jvm.ClassFile.FieldType.double)]
set_option maxRecDepth 65536 in
theorem codes_eq : words1.filter isCode = codes1 := rfl
theorem w_codes : ∀ c ∈ words1.filter isCode, c.before args0 about1 = true := by
  rw [codes_eq]
  intro c hc
  simp only [codes1, List.mem_cons, List.not_mem_nil, or_false] at hc
  rcases hc with rfl | rfl | rfl | rfl | rfl | rfl | rfl | rfl | rfl | rfl | rfl | rfl | rfl | rfl | rfl | rfl | rfl
  · exact w_c0
  · exact w_c1
  · exact w_c2
  · exact w_c3
  · exact w_c4
  · exact w_c5
  · exact w_c6
  · exact w_c7
  · exact w_c8
  · exact w_c9
  · exact w_c10
  · exact w_c11
  · exact w_c12
  · exact w_c13
  · exact w_c14
  · exact w_c15
  · exact w_c16
set_option maxRecDepth 65536 in
theorem w_t1 : (words1.take 24).all (fun c => isCode c || c.before args0 about1) = true := by decide +kernel
set_option maxRecDepth 65536 in
theorem w_t2 : ((words1.drop 24).take 24).all (fun c => isCode c || c.before args0 about1) = true := by decide +kernel
set_option maxRecDepth 65536 in
theorem w_t3 : (((words1.drop 24).drop 24).take 24).all (fun c => isCode c || c.before args0 about1) = true := by decide +kernel
set_option maxRecDepth 65536 in
theorem w_t4 : ((((words1.drop 24).drop 24).drop 24).take 24).all (fun c => isCode c || c.before args0 about1) = true := by decide +kernel
set_option maxRecDepth 65536 in
theorem w_t5 : (((((words1.drop 24).drop 24).drop 24).drop 24).take 24).all (fun c => isCode c || c.before args0 about1) = true := by decide +kernel
set_option maxRecDepth 65536 in
theorem w_t6 : (((((words1.drop 24).drop 24).drop 24).drop 24).drop 24).all (fun c => isCode c || c.before args0 about1) = true := by decide +kernel
theorem w_tables : (allAtoms (Jvm.Cond.code x code maxLocals ret :: tables_1)).before args0 about1 = true := by
  rw [allAtoms_all]
  show words1.all (fun c => c.before args0 about1) = true
  refine all_split ?_ w_codes
  rw [← List.take_append_drop 24 words1, List.all_append, w_t1, ← List.take_append_drop 24 (words1.drop 24), List.all_append, w_t2, ← List.take_append_drop 24 ((words1.drop 24).drop 24), List.all_append, w_t3, ← List.take_append_drop 24 (((words1.drop 24).drop 24).drop 24), List.all_append, w_t4, ← List.take_append_drop 24 ((((words1.drop 24).drop 24).drop 24).drop 24), List.all_append, w_t5, w_t6]
  rfl
set_option maxRecDepth 65536 in
theorem w_rest : rest_1_c.before args0 about1 = true := by decide +kernel
set_option maxRecDepth 65536 in
theorem w_case : (Jvm.Cond.and given_1 narrow_1).before args0 about1 = true := by decide +kernel
theorem w_applies : (headSpec (Jvm.Cond.code x code maxLocals ret :: tables_1) room_1).applies x e0.platform about1 = true :=
  (Spec.applies_iff w_frames).mpr ⟨w_running, w_runnable, w_alone, w_named, w_hears, w_ripe, w_room, w_tables⟩
set_option maxRecDepth 65536 in
set_option maxHeartbeats 40000000 in
theorem atStart : AtStart classFile x code maxLocals ret World_1 tables_1 room_1 Calls_1 rest_1 Pre_1 launch0 p0 e0 about1 theMethod args0 below0 :=
  ⟨lists_1, trivial, launch0.admits_env _ _ _, launch0.least_env, fairChoices_fair.cas, fairChoices_fair.clock, w_frames, w_args, w_heap, w_applies, ⟨⟨12, k12, 2, by decide +kernel, rfl, rfl, _, rfl, rfl⟩, ⟨⟨22, k22, 3, by decide +kernel, rfl, rfl, _, rfl, rfl⟩, ⟨⟨23, k23, 4, by decide +kernel, rfl, rfl, _, rfl, rfl⟩, trivial⟩⟩⟩, w_rest, w_case⟩
end start1
theorem witness_1 : WitnessClaimed_1 := ⟨start1.p0, start1.e0, start1.about1, start1.theMethod, start1.args0, start1.below0, start1.atStart⟩
end Jvm.Pilot.@@N@@
