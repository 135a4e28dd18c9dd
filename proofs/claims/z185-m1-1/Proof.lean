import JvmDerived
import JvmDerived.Pilot.@@N@@Statement
import JvmDerived.Pilot.@@N@@Code
set_option linter.unusedVariables false
set_option linter.unusedSimpArgs false
namespace Jvm.Pilot.@@N@@
open Jvm Jvm.ClassFile Sem Op Lib Jvm.Free Jvm.Stand Jvm.LawKit Jvm.RoadKit Jvm.Free.Fl Bundle Jvm.Pilot.@@N@@.Jvm.D
theorem own_selects {s : State} {args : Array Value} {y : MethodName} {n : Nat} (wi : (Jvm.Cond.instantiable y.cls n).before args s = true) (hp : s.PrivateAt y) (hi : (Jvm.Cond.instanceMethod y).before args s = true)
    (hy : y.cls ≠ "java/lang/invoke/MethodHandle" ∧ y.cls ≠ "java/lang/invoke/VarHandle") : (Jvm.Cond.selects y.cls y y).before args s = true := by
  obtain ⟨cc, kk, h1, h2, h3, h4, -⟩ := Cond.instantiable_spec wi
  exact selects_self_of_private h1 h2 (by rw [Bool.or_eq_false_iff] at h4; exact h4.1) hp hi hy
theorem d_jdk_30_method_1_code_0 : decode jdk_30_method_1_code 0 = .ok (.aload_n 0, 1) := by decide +kernel
theorem d_jdk_30_method_1_code_1 : decode jdk_30_method_1_code 1 = .ok (.invokespecial 1, 3) := by decide +kernel
theorem d_jdk_30_method_1_code_4 : decode jdk_30_method_1_code 4 = .ok (.return_, 1) := by decide +kernel
theorem pn_java_lang_Record : plainName "java/lang/Record" = true := by first | (simp [plainName, overriddenIn]; done) | decide +kernel
theorem ef_rec (m : MethodId) (x0 : Addr) : entryFrame m #[(.ref x0)] 1 = mkF m 0 #[.val (.ref x0)] [] := by first | (simp [entryFrame, mkF, argsToLocals, Value.category]; done) | rfl
def Q_rec (Z : State) (a1 : Addr) (h0 : Heap) (n0 : Nat) (v : Option Value) (h : Heap) (L : List Loc) : Prop := v = none ∧ Fr n0 L ∧ h = h0
set_option maxRecDepth 65536 in
set_option maxHeartbeats 40000000 in
theorem rm_rec (l : Launch) (Z : State) (a0 : Array Value) (hw : ∀ d ∈ tables_1, d.before a0 Z = true) (ws : List Jvm.Cond) (a1 : Addr) (h0 : Heap) (n0 : Nat) (Z0 : n0 ≤ h0.size)  :
    MetFree l (⟨"java/lang/Record", "<init>", "()V"⟩ : MethodName) (head1 (Jvm.Cond.code (⟨"java/lang/Record", "<init>", "()V"⟩ : MethodName) jdk_30_method_1_code 1 none :: ws) ({ frames := 1, cells := 0, slots := 0, locals := 12 } : Room)) (fun a U => a = #[(.ref a1)] ∧ Z.Warmed39 U.vm ∧ U.heap = h0) (fun _ _ _ _ _ => True) (fun _ U o U' => ∃ v L, o = .returned v ∧ Q_rec Z a1 h0 n0 v U'.heap L ∧ FrameEnd U o U' L ({ frames := 1, cells := 0, slots := 0, locals := 12 } : Room).cells ({ frames := 1, cells := 0, slots := 0, locals := 12 } : Room).slots) := by
  refine MetFree.of_bodySF (plainFor_of_name pn_java_lang_Record) hisR ?_
  intro p e s m args below meth c s₁ Bd hml0 hP hK
  obtain ⟨rfl, hZ, hh⟩ := hP
  have hx := Bd.exec
  have hby := Bd.bytes
  have hml : c.maxLocals = 1 := hml0
  have hown : s.vm.findClass "java/lang/Record" = some m.cls := findClass_of_methodNamed Bd.named
  have hnm := (name_of_methodNamed Bd.named Bd.method).1
  have X0 : Stand p l e ({ frames := 1, cells := 0, slots := 0, locals := 12 } : Room) s m #[(.ref a1)] below meth c s₁ [] 0 0 := Stand.of_body Bd
  have e0 : s₁.heap = h0 := by rw [← hh, Bd.state]; rfl
  have N0 := Fr.nil n0
  have P0 : Keep h0 h0 [] := Keep.refl _ _
  have pre0 : ∀ t, Steps p.tables e below (s₁.setTop (mkF m 0 #[.val (.ref a1)] [])) t → Steps p.tables e below (s₁.setTop (entryFrame m #[(.ref a1)] 1)) t := fun t k => castTop (ef_rec m a1) k
  obtain ⟨T1, X1, e1, st1⟩ := initO X0 hx hZ hown (hw _ (List.mem_of_getElem? (i := 30) rfl)) (hw _ (List.mem_of_getElem? (i := 8) rfl)) (hw _ (List.mem_of_getElem? (i := 9) rfl)) e0 (g := (mkF m 1 #[.val (.ref a1)] [(.ref a1)])) rfl (by rw [hml]; rfl) rfl (hb hby d_jdk_30_method_1_code_1) (by decide) (W := 0) (by show 2 * 0 + _ ≤ _; exact Nat.le_of_eq rfl) (by decide)
  obtain ⟨fs, hr, hrun, hended, hW, hsame⟩ := X1.leave (v := none) (fun _ => rfl)
  refine ⟨_, _, pre0 _ ?_, hrun, hended, _, _, rfl, ?_, ⟨_, rfl⟩, hW, hsame.mono (by decide) (by decide)⟩
  · show Steps p.tables e below (s₁.setTop (mkF m 0 #[.val (.ref a1)] [])) _
    refine XS.aloadN X0.here hx rfl (hb hby d_jdk_30_method_1_code_0) rfl rfl ?_
    show Steps p.tables e below (s₁.setTop (mkF m 1 #[.val (.ref a1)] [(.ref a1)])) _
    refine st1 _ ?_
    show Steps p.tables e below (T1.setTop (mkF m 4 #[.val (.ref a1)] [])) _
    exact X1.returnOut hx Bd.returns (hb hby d_jdk_30_method_1_code_4) hr
  · show Q_rec Z a1 h0 n0 _ T1.heap _
    rw [e1]
    exact ⟨rfl, N0, rfl⟩
theorem d_prog_46_method_1_code_0 : decode prog_46_method_1_code 0 = .ok (.aload_n 0, 1) := by decide +kernel
theorem d_prog_46_method_1_code_1 : decode prog_46_method_1_code 1 = .ok (.invokespecial 1, 3) := by decide +kernel
theorem d_prog_46_method_1_code_4 : decode prog_46_method_1_code 4 = .ok (.aload_n 0, 1) := by decide +kernel
theorem d_prog_46_method_1_code_5 : decode prog_46_method_1_code 5 = .ok (.iload_n 1, 1) := by decide +kernel
theorem d_prog_46_method_1_code_6 : decode prog_46_method_1_code 6 = .ok (.putfield 7, 3) := by decide +kernel
theorem d_prog_46_method_1_code_9 : decode prog_46_method_1_code 9 = .ok (.aload_n 0, 1) := by decide +kernel
theorem d_prog_46_method_1_code_10 : decode prog_46_method_1_code 10 = .ok (.dload_n 3, 1) := by decide +kernel
theorem d_prog_46_method_1_code_11 : decode prog_46_method_1_code 11 = .ok (.putfield 13, 3) := by decide +kernel
theorem d_prog_46_method_1_code_14 : decode prog_46_method_1_code 14 = .ok (.aload_n 0, 1) := by decide +kernel
theorem d_prog_46_method_1_code_15 : decode prog_46_method_1_code 15 = .ok (.dload 5, 2) := by decide +kernel
theorem d_prog_46_method_1_code_17 : decode prog_46_method_1_code 17 = .ok (.putfield 17, 3) := by decide +kernel
theorem d_prog_46_method_1_code_20 : decode prog_46_method_1_code 20 = .ok (.aload_n 0, 1) := by decide +kernel
theorem d_prog_46_method_1_code_21 : decode prog_46_method_1_code 21 = .ok (.iload_n 2, 1) := by decide +kernel
theorem d_prog_46_method_1_code_22 : decode prog_46_method_1_code 22 = .ok (.newarray .double, 2) := by decide +kernel
theorem d_prog_46_method_1_code_24 : decode prog_46_method_1_code 24 = .ok (.putfield 20, 3) := by decide +kernel
theorem d_prog_46_method_1_code_27 : decode prog_46_method_1_code 27 = .ok (.return_, 1) := by decide +kernel
theorem pn_com_example_podflow_podflow_simulate_RunLog : plainName "com/example/podflow/podflow/simulate/RunLog" = true := by first | (simp [plainName, overriddenIn]; done) | decide +kernel
theorem ef_lini (m : MethodId) (x0 : Addr) (x1 : Int32) (x2 : Int32) (x3 : UInt64) (x4 : UInt64) : entryFrame m #[(.ref x0), (.int x1), (.int x2), (.double x3), (.double x4)] 7 = mkF m 0 #[.val (.ref x0), .val (.int x1), .val (.int x2), .val (.double x3), .second, .val (.double x4), .second] [] := by first | (simp [entryFrame, mkF, argsToLocals, Value.category]; done) | rfl
def Q_lini (Z : State) (a1 : Addr) (k1 : Int32) (k3 : Int32) (u0 : Value) (u1 : Value) (u2 : Value) (u3 : Value) (h0 : Heap) (n0 : Nat) (v : Option Value) (h : Heap) (L : List Loc) : Prop := ∃ t : Addr, ∃ kk : ClassId, v = none ∧ Fr n0 L ∧ Keep h0 h [a1] ∧ (h0.size ≤ t) ∧ (n0 ≤ t) ∧ (Exa Z h a1 "com/example/podflow/podflow/simulate/RunLog") ∧ (Fld Z h a1 "com/example/podflow/podflow/simulate/RunLog" "warmup" "I" (.int k1)) ∧ (Fld Z h a1 "com/example/podflow/podflow/simulate/RunLog" "windowStart" "D" (.double FP.dconst0)) ∧ (Fld Z h a1 "com/example/podflow/podflow/simulate/RunLog" "windowEnd" "D" (.double FP.dconst1)) ∧ (Fld Z h a1 "com/example/podflow/podflow/simulate/RunLog" "waits" "[D" (.ref t)) ∧ (Fld Z h a1 "com/example/podflow/podflow/simulate/RunLog" "pickedUp" "I" (.int (0 : Int32))) ∧ (Fld Z h a1 "com/example/podflow/podflow/simulate/RunLog" "movingSeconds" "D" (.double (0 : UInt64))) ∧ (Fld Z h a1 "com/example/podflow/podflow/simulate/RunLog" "emptySeconds" "D" (.double (0 : UInt64))) ∧ (Fld Z h a1 "com/example/podflow/podflow/simulate/RunLog" "backlog" "I" (.int (0 : Int32))) ∧ (Fld Z h a1 "com/example/podflow/podflow/simulate/RunLog" "decisionNanos" "J" (.long (0 : Int64))) ∧ (Arv Z h t kk .double k3 (List.replicate 2 (.double (0 : UInt64))) (.double (0 : UInt64)))
set_option maxRecDepth 65536 in
set_option maxHeartbeats 40000000 in
theorem rm_lini (l : Launch) (Z : State) (a0 : Array Value) (hw : ∀ d ∈ tables_1, d.before a0 Z = true) (ws : List Jvm.Cond) (a1 : Addr) (k1 : Int32) (k3 : Int32) (u0 : Value) (u1 : Value) (u2 : Value) (u3 : Value) (h0 : Heap) (n0 : Nat) (Z0 : n0 ≤ h0.size) (pE0 : Exa Z h0 a1 "com/example/podflow/podflow/simulate/RunLog") (pF1 : Fld Z h0 a1 "com/example/podflow/podflow/simulate/RunLog" "warmup" "I" u0) (pF2 : Fld Z h0 a1 "com/example/podflow/podflow/simulate/RunLog" "windowStart" "D" u1) (pF3 : Fld Z h0 a1 "com/example/podflow/podflow/simulate/RunLog" "windowEnd" "D" u2) (pF4 : Fld Z h0 a1 "com/example/podflow/podflow/simulate/RunLog" "waits" "[D" u3) (pF5 : Fld Z h0 a1 "com/example/podflow/podflow/simulate/RunLog" "pickedUp" "I" (.int (0 : Int32))) (pF6 : Fld Z h0 a1 "com/example/podflow/podflow/simulate/RunLog" "movingSeconds" "D" (.double (0 : UInt64))) (pF7 : Fld Z h0 a1 "com/example/podflow/podflow/simulate/RunLog" "emptySeconds" "D" (.double (0 : UInt64))) (pF8 : Fld Z h0 a1 "com/example/podflow/podflow/simulate/RunLog" "backlog" "I" (.int (0 : Int32))) (pF9 : Fld Z h0 a1 "com/example/podflow/podflow/simulate/RunLog" "decisionNanos" "J" (.long (0 : Int64))) (pg10 : n0 ≤ a1) (hn : ¬ (k3 < (0 : Int32))) (hcap : (k3).toNatClampNeg ≤ 2) :
    MetFree l (⟨"com/example/podflow/podflow/simulate/RunLog", "<init>", "(IIDD)V"⟩ : MethodName) (head1 (Jvm.Cond.code (⟨"com/example/podflow/podflow/simulate/RunLog", "<init>", "(IIDD)V"⟩ : MethodName) prog_46_method_1_code 7 none :: ws) ({ frames := 1, cells := 1, slots := 2, locals := 12 } : Room)) (fun a U => a = #[(.ref a1), (.int k1), (.int k3), (.double FP.dconst0), (.double FP.dconst1)] ∧ Z.Warmed39 U.vm ∧ U.heap = h0) (fun _ _ _ _ _ => True) (fun _ U o U' => ∃ v L, o = .returned v ∧ Q_lini Z a1 k1 k3 u0 u1 u2 u3 h0 n0 v U'.heap L ∧ FrameEnd U o U' L ({ frames := 1, cells := 1, slots := 2, locals := 12 } : Room).cells ({ frames := 1, cells := 1, slots := 2, locals := 12 } : Room).slots) := by
  refine MetFree.of_bodySF (plainFor_of_name pn_com_example_podflow_podflow_simulate_RunLog) hisR ?_
  intro p e s m args below meth c s₁ Bd hml0 hP hK
  obtain ⟨rfl, hZ, hh⟩ := hP
  have hx := Bd.exec
  have hby := Bd.bytes
  have hml : c.maxLocals = 7 := hml0
  have hown : s.vm.findClass "com/example/podflow/podflow/simulate/RunLog" = some m.cls := findClass_of_methodNamed Bd.named
  have hnm := (name_of_methodNamed Bd.named Bd.method).1
  have X0 : Stand p l e ({ frames := 1, cells := 1, slots := 2, locals := 12 } : Room) s m #[(.ref a1), (.int k1), (.int k3), (.double FP.dconst0), (.double FP.dconst1)] below meth c s₁ [] 0 0 := Stand.of_body Bd
  have e0 : s₁.heap = h0 := by rw [← hh, Bd.state]; rfl
  have N0 := Fr.nil n0
  have P0 : Keep h0 h0 [a1] := Keep.refl _ _
  have pre0 : ∀ t, Steps p.tables e below (s₁.setTop (mkF m 0 #[.val (.ref a1), .val (.int k1), .val (.int k3), .val (.double FP.dconst0), .second, .val (.double FP.dconst1), .second] [])) t → Steps p.tables e below (s₁.setTop (entryFrame m #[(.ref a1), (.int k1), (.int k3), (.double FP.dconst0), (.double FP.dconst1)] 7)) t := fun t k => castTop (ef_lini m a1 k1 k3 FP.dconst0 FP.dconst1) k
  obtain ⟨T1, X1, e1, st1⟩ := initO X0 hx hZ hown (hw _ (List.mem_of_getElem? (i := 7) rfl)) (hw _ (List.mem_of_getElem? (i := 8) rfl)) (hw _ (List.mem_of_getElem? (i := 9) rfl)) e0 (g := (mkF m 1 #[.val (.ref a1), .val (.int k1), .val (.int k3), .val (.double FP.dconst0), .second, .val (.double FP.dconst1), .second] [(.ref a1)])) rfl (by rw [hml]; rfl) rfl (hb hby d_prog_46_method_1_code_1) (by decide) (W := 0) (by show 2 * 0 + _ ≤ _; exact Nat.le_of_eq rfl) (by decide)
  obtain ⟨T2, h2, X2, e2, W2, st2⟩ := putF X1 hx hZ hown (host := "") (Or.inl (hw _ (List.mem_of_getElem? (i := 10) rfl))) Via.refl e1 pF1 pE0 (Or.inr ⟨(hw _ (List.mem_of_getElem? (i := 11) rfl)), rfl, hnm⟩) (hw _ (List.mem_of_getElem? (i := 2) rfl)) (ty := .int) (by decide) rfl rfl (g := (mkF m 6 #[.val (.ref a1), .val (.int k1), .val (.int k3), .val (.double FP.dconst0), .second, .val (.double FP.dconst1), .second] [(.int k1), (.ref a1)])) rfl rfl (hb hby d_prog_46_method_1_code_6)
  have P3 : Keep h0 h2 [a1] := P0.wr W2 (Or.inl (List.mem_of_getElem? (i := 0) rfl))
  have F4 : Fld Z h2 a1 "com/example/podflow/podflow/simulate/RunLog" "warmup" "I" (.int k1) := Fld.same W2 pF1
  have N2 := Fr.snoc X2 N0 pg10
  have F5 : Fld Z h2 a1 "com/example/podflow/podflow/simulate/RunLog" "windowStart" "D" u1 := (Fld.other W2 pF2 (Or.inr (slot_ne (t := .double) (t' := .int) (C := "com/example/podflow/podflow/simulate/RunLog") (a0 := a0) (Or.inr (hw _ (List.mem_of_getElem? (i := 13) rfl))) (Or.inr (hw _ (List.mem_of_getElem? (i := 11) rfl))) (by decide) (by decide) (by decide))))
  have E6 : Exa Z h2 a1 "com/example/podflow/podflow/simulate/RunLog" := (Exa.wr W2 pE0)
  obtain ⟨T7, h7, X7, e7, W7, st7⟩ := putF X2 hx hZ hown (host := "") (Or.inl (hw _ (List.mem_of_getElem? (i := 12) rfl))) Via.refl e2 F5 E6 (Or.inr ⟨(hw _ (List.mem_of_getElem? (i := 13) rfl)), rfl, hnm⟩) (hw _ (List.mem_of_getElem? (i := 2) rfl)) (ty := .double) (by decide) rfl rfl (g := (mkF m 11 #[.val (.ref a1), .val (.int k1), .val (.int k3), .val (.double FP.dconst0), .second, .val (.double FP.dconst1), .second] [(.double FP.dconst0), (.ref a1)])) rfl rfl (hb hby d_prog_46_method_1_code_11)
  have P8 : Keep h0 h7 [a1] := P3.wr W7 (Or.inl (List.mem_of_getElem? (i := 0) rfl))
  have F9 : Fld Z h7 a1 "com/example/podflow/podflow/simulate/RunLog" "windowStart" "D" (.double FP.dconst0) := Fld.same W7 F5
  have N7 := Fr.snoc X7 N2 pg10
  have F10 : Fld Z h7 a1 "com/example/podflow/podflow/simulate/RunLog" "windowEnd" "D" u2 := (Fld.other W7 (Fld.other W2 pF3 (Or.inr (slot_ne (t := .double) (t' := .int) (C := "com/example/podflow/podflow/simulate/RunLog") (a0 := a0) (Or.inr (hw _ (List.mem_of_getElem? (i := 15) rfl))) (Or.inr (hw _ (List.mem_of_getElem? (i := 11) rfl))) (by decide) (by decide) (by decide)))) (Or.inr (slot_ne (t := .double) (t' := .double) (C := "com/example/podflow/podflow/simulate/RunLog") (a0 := a0) (Or.inr (hw _ (List.mem_of_getElem? (i := 15) rfl))) (Or.inr (hw _ (List.mem_of_getElem? (i := 13) rfl))) (by decide) (by decide) (by decide))))
  have E11 : Exa Z h7 a1 "com/example/podflow/podflow/simulate/RunLog" := (Exa.wr W7 E6)
  obtain ⟨T12, h12, X12, e12, W12, st12⟩ := putF X7 hx hZ hown (host := "") (Or.inl (hw _ (List.mem_of_getElem? (i := 14) rfl))) Via.refl e7 F10 E11 (Or.inr ⟨(hw _ (List.mem_of_getElem? (i := 15) rfl)), rfl, hnm⟩) (hw _ (List.mem_of_getElem? (i := 2) rfl)) (ty := .double) (by decide) rfl rfl (g := (mkF m 17 #[.val (.ref a1), .val (.int k1), .val (.int k3), .val (.double FP.dconst0), .second, .val (.double FP.dconst1), .second] [(.double FP.dconst1), (.ref a1)])) rfl rfl (hb hby d_prog_46_method_1_code_17)
  have P13 : Keep h0 h12 [a1] := P8.wr W12 (Or.inl (List.mem_of_getElem? (i := 0) rfl))
  have F14 : Fld Z h12 a1 "com/example/podflow/podflow/simulate/RunLog" "windowEnd" "D" (.double FP.dconst1) := Fld.same W12 F10
  have N12 := Fr.snoc X12 N7 pg10
  obtain ⟨T15, h15, k15, X15, e15, E15, A15, st15⟩ := newP X12 hx hZ (hw _ (List.mem_of_getElem? (i := 16) rfl)) e12 (g := (mkF m 22 #[.val (.ref a1), .val (.int k1), .val (.int k3), .val (.double FP.dconst0), .second, .val (.double FP.dconst1), .second] [(.int k3), (.ref a1)])) rfl (hb hby d_prog_46_method_1_code_22) rfl hn (cap := 2) hcap (by decide) (by decide) (by decide)
  obtain ⟨bt, g15⟩ : ∃ z, z = h12.size := ⟨_, rfl⟩
  rw [← g15] at A15 st15
  have E16 : Exa Z h12 a1 "com/example/podflow/podflow/simulate/RunLog" := (Exa.wr W12 E11)
  have ne_a1_bt : a1 ≠ bt := Nat.ne_of_lt (Nat.lt_of_lt_of_eq E16.lt g15.symm)
  have ge_bt : n0 ≤ bt := Nat.le_trans (Nat.le_trans Z0 P13.1) (Nat.le_of_eq g15.symm)
  have sz_bt : h0.size ≤ bt := Nat.le_trans P13.1 (Nat.le_of_eq g15.symm)
  have P17 : Keep h0 h15 [a1] := P13.ext E15
  have V18 : Arv Z h15 bt k15 .double k3 (List.replicate 2 (.double (0 : UInt64))) (.double (0 : UInt64)) := (Arv.new A15 hn).pad (pad_rep [] (.double (0 : UInt64)) 2)
  have F19 : Fld Z h15 a1 "com/example/podflow/podflow/simulate/RunLog" "waits" "[D" u3 := (Fld.ext E15 (Fld.other W12 (Fld.other W7 (Fld.other W2 pF4 (Or.inr (slot_ne (t := (.array .double)) (t' := .int) (C := "com/example/podflow/podflow/simulate/RunLog") (a0 := a0) (Or.inr (hw _ (List.mem_of_getElem? (i := 18) rfl))) (Or.inr (hw _ (List.mem_of_getElem? (i := 11) rfl))) (by decide) (by decide) (by decide)))) (Or.inr (slot_ne (t := (.array .double)) (t' := .double) (C := "com/example/podflow/podflow/simulate/RunLog") (a0 := a0) (Or.inr (hw _ (List.mem_of_getElem? (i := 18) rfl))) (Or.inr (hw _ (List.mem_of_getElem? (i := 13) rfl))) (by decide) (by decide) (by decide)))) (Or.inr (slot_ne (t := (.array .double)) (t' := .double) (C := "com/example/podflow/podflow/simulate/RunLog") (a0 := a0) (Or.inr (hw _ (List.mem_of_getElem? (i := 18) rfl))) (Or.inr (hw _ (List.mem_of_getElem? (i := 15) rfl))) (by decide) (by decide) (by decide)))))
  have E20 : Exa Z h15 a1 "com/example/podflow/podflow/simulate/RunLog" := (Exa.ext E15 E16)
  obtain ⟨T21, h21, X21, e21, W21, st21⟩ := putF X15 hx hZ hown (host := "") (Or.inl (hw _ (List.mem_of_getElem? (i := 17) rfl))) Via.refl e15 F19 E20 (Or.inr ⟨(hw _ (List.mem_of_getElem? (i := 18) rfl)), rfl, hnm⟩) (hw _ (List.mem_of_getElem? (i := 2) rfl)) (ty := (.array .double)) (by decide) rfl rfl (g := (mkF m 24 #[.val (.ref a1), .val (.int k1), .val (.int k3), .val (.double FP.dconst0), .second, .val (.double FP.dconst1), .second] [(.ref bt), (.ref a1)])) rfl rfl (hb hby d_prog_46_method_1_code_24)
  have P22 : Keep h0 h21 [a1] := P17.wr W21 (Or.inl (List.mem_of_getElem? (i := 0) rfl))
  have F23 : Fld Z h21 a1 "com/example/podflow/podflow/simulate/RunLog" "waits" "[D" (.ref bt) := Fld.same W21 F19
  have N21 := Fr.snoc X21 N12 pg10
  have E24 : Exa Z h21 a1 "com/example/podflow/podflow/simulate/RunLog" := (Exa.wr W21 E20)
  have F25 : Fld Z h21 a1 "com/example/podflow/podflow/simulate/RunLog" "warmup" "I" (.int k1) := (Fld.other W21 (Fld.ext E15 (Fld.other W12 (Fld.other W7 F4 (Or.inr (slot_ne (t := .int) (t' := .double) (C := "com/example/podflow/podflow/simulate/RunLog") (a0 := a0) (Or.inr (hw _ (List.mem_of_getElem? (i := 11) rfl))) (Or.inr (hw _ (List.mem_of_getElem? (i := 13) rfl))) (by decide) (by decide) (by decide)))) (Or.inr (slot_ne (t := .int) (t' := .double) (C := "com/example/podflow/podflow/simulate/RunLog") (a0 := a0) (Or.inr (hw _ (List.mem_of_getElem? (i := 11) rfl))) (Or.inr (hw _ (List.mem_of_getElem? (i := 15) rfl))) (by decide) (by decide) (by decide))))) (Or.inr (slot_ne (t := .int) (t' := (.array .double)) (C := "com/example/podflow/podflow/simulate/RunLog") (a0 := a0) (Or.inr (hw _ (List.mem_of_getElem? (i := 11) rfl))) (Or.inr (hw _ (List.mem_of_getElem? (i := 18) rfl))) (by decide) (by decide) (by decide))))
  have F26 : Fld Z h21 a1 "com/example/podflow/podflow/simulate/RunLog" "windowStart" "D" (.double FP.dconst0) := (Fld.other W21 (Fld.ext E15 (Fld.other W12 F9 (Or.inr (slot_ne (t := .double) (t' := .double) (C := "com/example/podflow/podflow/simulate/RunLog") (a0 := a0) (Or.inr (hw _ (List.mem_of_getElem? (i := 13) rfl))) (Or.inr (hw _ (List.mem_of_getElem? (i := 15) rfl))) (by decide) (by decide) (by decide))))) (Or.inr (slot_ne (t := .double) (t' := (.array .double)) (C := "com/example/podflow/podflow/simulate/RunLog") (a0 := a0) (Or.inr (hw _ (List.mem_of_getElem? (i := 13) rfl))) (Or.inr (hw _ (List.mem_of_getElem? (i := 18) rfl))) (by decide) (by decide) (by decide))))
  have F27 : Fld Z h21 a1 "com/example/podflow/podflow/simulate/RunLog" "windowEnd" "D" (.double FP.dconst1) := (Fld.other W21 (Fld.ext E15 F14) (Or.inr (slot_ne (t := .double) (t' := (.array .double)) (C := "com/example/podflow/podflow/simulate/RunLog") (a0 := a0) (Or.inr (hw _ (List.mem_of_getElem? (i := 15) rfl))) (Or.inr (hw _ (List.mem_of_getElem? (i := 18) rfl))) (by decide) (by decide) (by decide))))
  have F28 : Fld Z h21 a1 "com/example/podflow/podflow/simulate/RunLog" "pickedUp" "I" (.int (0 : Int32)) := (Fld.other W21 (Fld.ext E15 (Fld.other W12 (Fld.other W7 (Fld.other W2 pF5 (Or.inr (slot_ne (t := .int) (t' := .int) (C := "com/example/podflow/podflow/simulate/RunLog") (a0 := a0) (Or.inl (hw _ (List.mem_of_getElem? (i := 64) rfl))) (Or.inr (hw _ (List.mem_of_getElem? (i := 11) rfl))) (by decide) (by decide) (by decide)))) (Or.inr (slot_ne (t := .int) (t' := .double) (C := "com/example/podflow/podflow/simulate/RunLog") (a0 := a0) (Or.inl (hw _ (List.mem_of_getElem? (i := 64) rfl))) (Or.inr (hw _ (List.mem_of_getElem? (i := 13) rfl))) (by decide) (by decide) (by decide)))) (Or.inr (slot_ne (t := .int) (t' := .double) (C := "com/example/podflow/podflow/simulate/RunLog") (a0 := a0) (Or.inl (hw _ (List.mem_of_getElem? (i := 64) rfl))) (Or.inr (hw _ (List.mem_of_getElem? (i := 15) rfl))) (by decide) (by decide) (by decide))))) (Or.inr (slot_ne (t := .int) (t' := (.array .double)) (C := "com/example/podflow/podflow/simulate/RunLog") (a0 := a0) (Or.inl (hw _ (List.mem_of_getElem? (i := 64) rfl))) (Or.inr (hw _ (List.mem_of_getElem? (i := 18) rfl))) (by decide) (by decide) (by decide))))
  have F29 : Fld Z h21 a1 "com/example/podflow/podflow/simulate/RunLog" "movingSeconds" "D" (.double (0 : UInt64)) := (Fld.other W21 (Fld.ext E15 (Fld.other W12 (Fld.other W7 (Fld.other W2 pF6 (Or.inr (slot_ne (t := .double) (t' := .int) (C := "com/example/podflow/podflow/simulate/RunLog") (a0 := a0) (Or.inl (hw _ (List.mem_of_getElem? (i := 69) rfl))) (Or.inr (hw _ (List.mem_of_getElem? (i := 11) rfl))) (by decide) (by decide) (by decide)))) (Or.inr (slot_ne (t := .double) (t' := .double) (C := "com/example/podflow/podflow/simulate/RunLog") (a0 := a0) (Or.inl (hw _ (List.mem_of_getElem? (i := 69) rfl))) (Or.inr (hw _ (List.mem_of_getElem? (i := 13) rfl))) (by decide) (by decide) (by decide)))) (Or.inr (slot_ne (t := .double) (t' := .double) (C := "com/example/podflow/podflow/simulate/RunLog") (a0 := a0) (Or.inl (hw _ (List.mem_of_getElem? (i := 69) rfl))) (Or.inr (hw _ (List.mem_of_getElem? (i := 15) rfl))) (by decide) (by decide) (by decide))))) (Or.inr (slot_ne (t := .double) (t' := (.array .double)) (C := "com/example/podflow/podflow/simulate/RunLog") (a0 := a0) (Or.inl (hw _ (List.mem_of_getElem? (i := 69) rfl))) (Or.inr (hw _ (List.mem_of_getElem? (i := 18) rfl))) (by decide) (by decide) (by decide))))
  have F30 : Fld Z h21 a1 "com/example/podflow/podflow/simulate/RunLog" "emptySeconds" "D" (.double (0 : UInt64)) := (Fld.other W21 (Fld.ext E15 (Fld.other W12 (Fld.other W7 (Fld.other W2 pF7 (Or.inr (slot_ne (t := .double) (t' := .int) (C := "com/example/podflow/podflow/simulate/RunLog") (a0 := a0) (Or.inl (hw _ (List.mem_of_getElem? (i := 71) rfl))) (Or.inr (hw _ (List.mem_of_getElem? (i := 11) rfl))) (by decide) (by decide) (by decide)))) (Or.inr (slot_ne (t := .double) (t' := .double) (C := "com/example/podflow/podflow/simulate/RunLog") (a0 := a0) (Or.inl (hw _ (List.mem_of_getElem? (i := 71) rfl))) (Or.inr (hw _ (List.mem_of_getElem? (i := 13) rfl))) (by decide) (by decide) (by decide)))) (Or.inr (slot_ne (t := .double) (t' := .double) (C := "com/example/podflow/podflow/simulate/RunLog") (a0 := a0) (Or.inl (hw _ (List.mem_of_getElem? (i := 71) rfl))) (Or.inr (hw _ (List.mem_of_getElem? (i := 15) rfl))) (by decide) (by decide) (by decide))))) (Or.inr (slot_ne (t := .double) (t' := (.array .double)) (C := "com/example/podflow/podflow/simulate/RunLog") (a0 := a0) (Or.inl (hw _ (List.mem_of_getElem? (i := 71) rfl))) (Or.inr (hw _ (List.mem_of_getElem? (i := 18) rfl))) (by decide) (by decide) (by decide))))
  have F31 : Fld Z h21 a1 "com/example/podflow/podflow/simulate/RunLog" "backlog" "I" (.int (0 : Int32)) := (Fld.other W21 (Fld.ext E15 (Fld.other W12 (Fld.other W7 (Fld.other W2 pF8 (Or.inr (slot_ne (t := .int) (t' := .int) (C := "com/example/podflow/podflow/simulate/RunLog") (a0 := a0) (Or.inl (hw _ (List.mem_of_getElem? (i := 73) rfl))) (Or.inr (hw _ (List.mem_of_getElem? (i := 11) rfl))) (by decide) (by decide) (by decide)))) (Or.inr (slot_ne (t := .int) (t' := .double) (C := "com/example/podflow/podflow/simulate/RunLog") (a0 := a0) (Or.inl (hw _ (List.mem_of_getElem? (i := 73) rfl))) (Or.inr (hw _ (List.mem_of_getElem? (i := 13) rfl))) (by decide) (by decide) (by decide)))) (Or.inr (slot_ne (t := .int) (t' := .double) (C := "com/example/podflow/podflow/simulate/RunLog") (a0 := a0) (Or.inl (hw _ (List.mem_of_getElem? (i := 73) rfl))) (Or.inr (hw _ (List.mem_of_getElem? (i := 15) rfl))) (by decide) (by decide) (by decide))))) (Or.inr (slot_ne (t := .int) (t' := (.array .double)) (C := "com/example/podflow/podflow/simulate/RunLog") (a0 := a0) (Or.inl (hw _ (List.mem_of_getElem? (i := 73) rfl))) (Or.inr (hw _ (List.mem_of_getElem? (i := 18) rfl))) (by decide) (by decide) (by decide))))
  have F32 : Fld Z h21 a1 "com/example/podflow/podflow/simulate/RunLog" "decisionNanos" "J" (.long (0 : Int64)) := (Fld.other W21 (Fld.ext E15 (Fld.other W12 (Fld.other W7 (Fld.other W2 pF9 (Or.inr (slot_ne (t := .long) (t' := .int) (C := "com/example/podflow/podflow/simulate/RunLog") (a0 := a0) (Or.inl (hw _ (List.mem_of_getElem? (i := 75) rfl))) (Or.inr (hw _ (List.mem_of_getElem? (i := 11) rfl))) (by decide) (by decide) (by decide)))) (Or.inr (slot_ne (t := .long) (t' := .double) (C := "com/example/podflow/podflow/simulate/RunLog") (a0 := a0) (Or.inl (hw _ (List.mem_of_getElem? (i := 75) rfl))) (Or.inr (hw _ (List.mem_of_getElem? (i := 13) rfl))) (by decide) (by decide) (by decide)))) (Or.inr (slot_ne (t := .long) (t' := .double) (C := "com/example/podflow/podflow/simulate/RunLog") (a0 := a0) (Or.inl (hw _ (List.mem_of_getElem? (i := 75) rfl))) (Or.inr (hw _ (List.mem_of_getElem? (i := 15) rfl))) (by decide) (by decide) (by decide))))) (Or.inr (slot_ne (t := .long) (t' := (.array .double)) (C := "com/example/podflow/podflow/simulate/RunLog") (a0 := a0) (Or.inl (hw _ (List.mem_of_getElem? (i := 75) rfl))) (Or.inr (hw _ (List.mem_of_getElem? (i := 18) rfl))) (by decide) (by decide) (by decide))))
  have A33 : Arv Z h21 bt k15 .double k3 (List.replicate 2 (.double (0 : UInt64))) (.double (0 : UInt64)) := (V18.other W21 ne_a1_bt.symm)
  obtain ⟨fs, hr, hrun, hended, hW, hsame⟩ := X21.leave (v := none) (fun _ => rfl)
  refine ⟨_, _, pre0 _ ?_, hrun, hended, _, _, rfl, ?_, ⟨_, rfl⟩, hW, hsame.mono (by decide) (by decide)⟩
  · show Steps p.tables e below (s₁.setTop (mkF m 0 #[.val (.ref a1), .val (.int k1), .val (.int k3), .val (.double FP.dconst0), .second, .val (.double FP.dconst1), .second] [])) _
    refine XS.aloadN X0.here hx rfl (hb hby d_prog_46_method_1_code_0) rfl rfl ?_
    show Steps p.tables e below (s₁.setTop (mkF m 1 #[.val (.ref a1), .val (.int k1), .val (.int k3), .val (.double FP.dconst0), .second, .val (.double FP.dconst1), .second] [(.ref a1)])) _
    refine st1 _ ?_
    show Steps p.tables e below (T1.setTop (mkF m 4 #[.val (.ref a1), .val (.int k1), .val (.int k3), .val (.double FP.dconst0), .second, .val (.double FP.dconst1), .second] [])) _
    refine XS.aloadN X1.here hx rfl (hb hby d_prog_46_method_1_code_4) rfl rfl ?_
    show Steps p.tables e below (T1.setTop (mkF m 5 #[.val (.ref a1), .val (.int k1), .val (.int k3), .val (.double FP.dconst0), .second, .val (.double FP.dconst1), .second] [(.ref a1)])) _
    refine XS.iloadN X1.here hx rfl (hb hby d_prog_46_method_1_code_5) rfl ?_
    show Steps p.tables e below (T1.setTop (mkF m 6 #[.val (.ref a1), .val (.int k1), .val (.int k3), .val (.double FP.dconst0), .second, .val (.double FP.dconst1), .second] [(.int k1), (.ref a1)])) _
    refine st2 _ ?_
    show Steps p.tables e below (T2.setTop (mkF m 9 #[.val (.ref a1), .val (.int k1), .val (.int k3), .val (.double FP.dconst0), .second, .val (.double FP.dconst1), .second] [])) _
    refine XS.aloadN X2.here hx rfl (hb hby d_prog_46_method_1_code_9) rfl rfl ?_
    show Steps p.tables e below (T2.setTop (mkF m 10 #[.val (.ref a1), .val (.int k1), .val (.int k3), .val (.double FP.dconst0), .second, .val (.double FP.dconst1), .second] [(.ref a1)])) _
    refine XS.dloadN X2.here hx rfl (hb hby d_prog_46_method_1_code_10) rfl ?_
    show Steps p.tables e below (T2.setTop (mkF m 11 #[.val (.ref a1), .val (.int k1), .val (.int k3), .val (.double FP.dconst0), .second, .val (.double FP.dconst1), .second] [(.double FP.dconst0), (.ref a1)])) _
    refine st7 _ ?_
    show Steps p.tables e below (T7.setTop (mkF m 14 #[.val (.ref a1), .val (.int k1), .val (.int k3), .val (.double FP.dconst0), .second, .val (.double FP.dconst1), .second] [])) _
    refine XS.aloadN X7.here hx rfl (hb hby d_prog_46_method_1_code_14) rfl rfl ?_
    show Steps p.tables e below (T7.setTop (mkF m 15 #[.val (.ref a1), .val (.int k1), .val (.int k3), .val (.double FP.dconst0), .second, .val (.double FP.dconst1), .second] [(.ref a1)])) _
    refine XS.dload X7.here hx rfl (hb hby d_prog_46_method_1_code_15) rfl ?_
    show Steps p.tables e below (T7.setTop (mkF m 17 #[.val (.ref a1), .val (.int k1), .val (.int k3), .val (.double FP.dconst0), .second, .val (.double FP.dconst1), .second] [(.double FP.dconst1), (.ref a1)])) _
    refine st12 _ ?_
    show Steps p.tables e below (T12.setTop (mkF m 20 #[.val (.ref a1), .val (.int k1), .val (.int k3), .val (.double FP.dconst0), .second, .val (.double FP.dconst1), .second] [])) _
    refine XS.aloadN X12.here hx rfl (hb hby d_prog_46_method_1_code_20) rfl rfl ?_
    show Steps p.tables e below (T12.setTop (mkF m 21 #[.val (.ref a1), .val (.int k1), .val (.int k3), .val (.double FP.dconst0), .second, .val (.double FP.dconst1), .second] [(.ref a1)])) _
    refine XS.iloadN X12.here hx rfl (hb hby d_prog_46_method_1_code_21) rfl ?_
    show Steps p.tables e below (T12.setTop (mkF m 22 #[.val (.ref a1), .val (.int k1), .val (.int k3), .val (.double FP.dconst0), .second, .val (.double FP.dconst1), .second] [(.int k3), (.ref a1)])) _
    refine st15 _ ?_
    show Steps p.tables e below (T15.setTop (mkF m 24 #[.val (.ref a1), .val (.int k1), .val (.int k3), .val (.double FP.dconst0), .second, .val (.double FP.dconst1), .second] [(.ref bt), (.ref a1)])) _
    refine st21 _ ?_
    show Steps p.tables e below (T21.setTop (mkF m 27 #[.val (.ref a1), .val (.int k1), .val (.int k3), .val (.double FP.dconst0), .second, .val (.double FP.dconst1), .second] [])) _
    exact X21.returnOut hx Bd.returns (hb hby d_prog_46_method_1_code_27) hr
  · show Q_lini Z a1 k1 k3 u0 u1 u2 u3 h0 n0 _ T21.heap _
    rw [e21]
    exact ⟨bt, k15, rfl, N21, P22, sz_bt, ge_bt, E24, F25, F26, F27, F23, F28, F29, F30, F31, F32, A33⟩
theorem d_prog_45_method_1_code_0 : decode prog_45_method_1_code 0 = .ok (.aload_n 0, 1) := by decide +kernel
theorem d_prog_45_method_1_code_1 : decode prog_45_method_1_code 1 = .ok (.invokespecial 1, 3) := by decide +kernel
theorem pd_2829V : parseMethodDescriptor "()V" = some ⟨[], none⟩ := by decide +kernel
theorem d_prog_45_method_1_code_4 : decode prog_45_method_1_code 4 = .ok (.aload_n 0, 1) := by decide +kernel
theorem d_prog_45_method_1_code_5 : decode prog_45_method_1_code 5 = .ok (.iload_n 1, 1) := by decide +kernel
theorem d_prog_45_method_1_code_6 : decode prog_45_method_1_code 6 = .ok (.putfield 7, 3) := by decide +kernel
theorem d_prog_45_method_1_code_9 : decode prog_45_method_1_code 9 = .ok (.aload_n 0, 1) := by decide +kernel
theorem d_prog_45_method_1_code_10 : decode prog_45_method_1_code 10 = .ok (.dload_n 2, 1) := by decide +kernel
theorem d_prog_45_method_1_code_11 : decode prog_45_method_1_code 11 = .ok (.putfield 13, 3) := by decide +kernel
theorem d_prog_45_method_1_code_14 : decode prog_45_method_1_code 14 = .ok (.aload_n 0, 1) := by decide +kernel
theorem d_prog_45_method_1_code_15 : decode prog_45_method_1_code 15 = .ok (.iload 4, 2) := by decide +kernel
theorem d_prog_45_method_1_code_17 : decode prog_45_method_1_code 17 = .ok (.putfield 17, 3) := by decide +kernel
theorem d_prog_45_method_1_code_20 : decode prog_45_method_1_code 20 = .ok (.aload_n 0, 1) := by decide +kernel
theorem d_prog_45_method_1_code_21 : decode prog_45_method_1_code 21 = .ok (.iload 5, 2) := by decide +kernel
theorem d_prog_45_method_1_code_23 : decode prog_45_method_1_code 23 = .ok (.putfield 20, 3) := by decide +kernel
theorem d_prog_45_method_1_code_26 : decode prog_45_method_1_code 26 = .ok (.return_, 1) := by decide +kernel
theorem pn_com_example_podflow_podflow_simulate_Request : plainName "com/example/podflow/podflow/simulate/Request" = true := by first | (simp [plainName, overriddenIn]; done) | decide +kernel
theorem ef_qini (m : MethodId) (x0 : Addr) (x1 : Int32) (x2 : UInt64) (x3 : Int32) (x4 : Int32) : entryFrame m #[(.ref x0), (.int x1), (.double x2), (.int x3), (.int x4)] 6 = mkF m 0 #[.val (.ref x0), .val (.int x1), .val (.double x2), .second, .val (.int x3), .val (.int x4)] [] := by first | (simp [entryFrame, mkF, argsToLocals, Value.category]; done) | rfl
def Q_qini (Z : State) (a1 : Addr) (k1 : Int32) (u0 : Value) (u1 : Value) (u2 : Value) (u3 : Value) (h0 : Heap) (n0 : Nat) (v : Option Value) (h : Heap) (L : List Loc) : Prop := v = none ∧ Fr n0 L ∧ Keep h0 h [a1] ∧ (Exa Z h a1 "com/example/podflow/podflow/simulate/Request") ∧ (Fld Z h a1 "com/example/podflow/podflow/simulate/Request" "number" "I" (.int k1)) ∧ (Fld Z h a1 "com/example/podflow/podflow/simulate/Request" "time" "D" (.double FP.dconst0)) ∧ (Fld Z h a1 "com/example/podflow/podflow/simulate/Request" "origin" "I" (.int (0 : Int32))) ∧ (Fld Z h a1 "com/example/podflow/podflow/simulate/Request" "destination" "I" (.int (0 : Int32)))
set_option maxRecDepth 65536 in
set_option maxHeartbeats 40000000 in
theorem rm_qini (l : Launch) (Z : State) (a0 : Array Value) (hw : ∀ d ∈ tables_1, d.before a0 Z = true) (ws : List Jvm.Cond) (a1 : Addr) (k1 : Int32) (u0 : Value) (u1 : Value) (u2 : Value) (u3 : Value) (h0 : Heap) (n0 : Nat) (Z0 : n0 ≤ h0.size) (pE0 : Exa Z h0 a1 "com/example/podflow/podflow/simulate/Request") (pF1 : Fld Z h0 a1 "com/example/podflow/podflow/simulate/Request" "number" "I" u0) (pF2 : Fld Z h0 a1 "com/example/podflow/podflow/simulate/Request" "time" "D" u1) (pF3 : Fld Z h0 a1 "com/example/podflow/podflow/simulate/Request" "origin" "I" u2) (pF4 : Fld Z h0 a1 "com/example/podflow/podflow/simulate/Request" "destination" "I" u3) (pg5 : n0 ≤ a1) :
    MetFree l (⟨"com/example/podflow/podflow/simulate/Request", "<init>", "(IDII)V"⟩ : MethodName) (head1 (Jvm.Cond.code (⟨"com/example/podflow/podflow/simulate/Request", "<init>", "(IDII)V"⟩ : MethodName) prog_45_method_1_code 6 none :: ws) ({ frames := 2, cells := 0, slots := 0, locals := 24 } : Room)) (fun a U => a = #[(.ref a1), (.int k1), (.double FP.dconst0), (.int (0 : Int32)), (.int (0 : Int32))] ∧ Z.Warmed39 U.vm ∧ U.heap = h0) (fun _ _ _ _ _ => True) (fun _ U o U' => ∃ v L, o = .returned v ∧ Q_qini Z a1 k1 u0 u1 u2 u3 h0 n0 v U'.heap L ∧ FrameEnd U o U' L ({ frames := 2, cells := 0, slots := 0, locals := 24 } : Room).cells ({ frames := 2, cells := 0, slots := 0, locals := 24 } : Room).slots) := by
  refine MetFree.of_bodySF (plainFor_of_name pn_com_example_podflow_podflow_simulate_Request) hisR ?_
  intro p e s m args below meth c s₁ Bd hml0 hP hK
  obtain ⟨rfl, hZ, hh⟩ := hP
  have hx := Bd.exec
  have hby := Bd.bytes
  have hml : c.maxLocals = 6 := hml0
  have hown : s.vm.findClass "com/example/podflow/podflow/simulate/Request" = some m.cls := findClass_of_methodNamed Bd.named
  have hnm := (name_of_methodNamed Bd.named Bd.method).1
  have X0 : Stand p l e ({ frames := 2, cells := 0, slots := 0, locals := 24 } : Room) s m #[(.ref a1), (.int k1), (.double FP.dconst0), (.int (0 : Int32)), (.int (0 : Int32))] below meth c s₁ [] 0 0 := Stand.of_body Bd
  have e0 : s₁.heap = h0 := by rw [← hh, Bd.state]; rfl
  have N0 := Fr.nil n0
  have P0 : Keep h0 h0 [a1] := Keep.refl _ _
  have pre0 : ∀ t, Steps p.tables e below (s₁.setTop (mkF m 0 #[.val (.ref a1), .val (.int k1), .val (.double FP.dconst0), .second, .val (.int (0 : Int32)), .val (.int (0 : Int32))] [])) t → Steps p.tables e below (s₁.setTop (entryFrame m #[(.ref a1), (.int k1), (.double FP.dconst0), (.int (0 : Int32)), (.int (0 : Int32))] 6)) t := fun t k => castTop (ef_qini m a1 k1 FP.dconst0 (0 : Int32) (0 : Int32)) k
  obtain ⟨_, _, ⟨T1, L1, k1, n1⟩, -, X1, ⟨Lc1, hQ1, l1, y1, z1⟩, st1⟩ := X0.specialBack hx (y := (⟨"java/lang/Record", "<init>", "()V"⟩ : MethodName)) rfl hown (mvT hZ (hw _ (List.mem_of_getElem? (i := 25) rfl))) (mvT hZ (hw _ (List.mem_of_getElem? (i := 26) rfl))) (mvT hZ (hw _ (List.mem_of_getElem? (i := 29) rfl))) (by decide) (backOf (W := 0) (rm_rec l Z a0 hw [] a1 h0 n0 (Nat.le_trans Z0 P0.1) ) hZ (hw _ (List.mem_of_getElem? (i := 29) rfl)) (hw _ (List.mem_of_getElem? (i := 28) rfl)) (by decide) (by decide)) (g := (mkF m 1 #[.val (.ref a1), .val (.int k1), .val (.double FP.dconst0), .second, .val (.int (0 : Int32)), .val (.int (0 : Int32))] [(.ref a1)])) rfl (by rw [hml]; rfl) (Steps.refl _) (a := a1) (argsL := []) (rest := []) (lenOf pd_2829V rfl) rfl (by show 2 * 0 + _ ≤ _; exact Nat.le_of_eq rfl) (hb hby d_prog_45_method_1_code_1) (fun _ _ => ⟨rfl, e0, (by decide : 0 + 0 ≤ _), (by decide : 0 + 0 ≤ _)⟩)
  dsimp only [Pt.U, Pt.locs, Pt.cells, Pt.slots] at X1 l1 y1 z1 st1 hQ1
  subst l1 y1 z1
  obtain ⟨rfl, N1q, e1⟩ := hQ1
  have N1 := Fr.app N0 N1q
  obtain ⟨T2, h2, X2, e2, W2, st2⟩ := putF X1 hx hZ hown (host := "") (Or.inl (hw _ (List.mem_of_getElem? (i := 31) rfl))) Via.refl e1 pF1 pE0 (Or.inr ⟨(hw _ (List.mem_of_getElem? (i := 32) rfl)), rfl, hnm⟩) (hw _ (List.mem_of_getElem? (i := 20) rfl)) (ty := .int) (by decide) rfl rfl (g := (mkF m 6 #[.val (.ref a1), .val (.int k1), .val (.double FP.dconst0), .second, .val (.int (0 : Int32)), .val (.int (0 : Int32))] [(.int k1), (.ref a1)])) rfl rfl (hb hby d_prog_45_method_1_code_6)
  have P3 : Keep h0 h2 [a1] := P0.wr W2 (Or.inl (List.mem_of_getElem? (i := 0) rfl))
  have F4 : Fld Z h2 a1 "com/example/podflow/podflow/simulate/Request" "number" "I" (.int k1) := Fld.same W2 pF1
  have N2 := Fr.snoc X2 N1 pg5
  have F5 : Fld Z h2 a1 "com/example/podflow/podflow/simulate/Request" "time" "D" u1 := (Fld.other W2 pF2 (Or.inr (slot_ne (t := .double) (t' := .int) (C := "com/example/podflow/podflow/simulate/Request") (a0 := a0) (Or.inr (hw _ (List.mem_of_getElem? (i := 34) rfl))) (Or.inr (hw _ (List.mem_of_getElem? (i := 32) rfl))) (by decide) (by decide) (by decide))))
  have E6 : Exa Z h2 a1 "com/example/podflow/podflow/simulate/Request" := (Exa.wr W2 pE0)
  obtain ⟨T7, h7, X7, e7, W7, st7⟩ := putF X2 hx hZ hown (host := "") (Or.inl (hw _ (List.mem_of_getElem? (i := 33) rfl))) Via.refl e2 F5 E6 (Or.inr ⟨(hw _ (List.mem_of_getElem? (i := 34) rfl)), rfl, hnm⟩) (hw _ (List.mem_of_getElem? (i := 20) rfl)) (ty := .double) (by decide) rfl rfl (g := (mkF m 11 #[.val (.ref a1), .val (.int k1), .val (.double FP.dconst0), .second, .val (.int (0 : Int32)), .val (.int (0 : Int32))] [(.double FP.dconst0), (.ref a1)])) rfl rfl (hb hby d_prog_45_method_1_code_11)
  have P8 : Keep h0 h7 [a1] := P3.wr W7 (Or.inl (List.mem_of_getElem? (i := 0) rfl))
  have F9 : Fld Z h7 a1 "com/example/podflow/podflow/simulate/Request" "time" "D" (.double FP.dconst0) := Fld.same W7 F5
  have N7 := Fr.snoc X7 N2 pg5
  have F10 : Fld Z h7 a1 "com/example/podflow/podflow/simulate/Request" "origin" "I" u2 := (Fld.other W7 (Fld.other W2 pF3 (Or.inr (slot_ne (t := .int) (t' := .int) (C := "com/example/podflow/podflow/simulate/Request") (a0 := a0) (Or.inr (hw _ (List.mem_of_getElem? (i := 36) rfl))) (Or.inr (hw _ (List.mem_of_getElem? (i := 32) rfl))) (by decide) (by decide) (by decide)))) (Or.inr (slot_ne (t := .int) (t' := .double) (C := "com/example/podflow/podflow/simulate/Request") (a0 := a0) (Or.inr (hw _ (List.mem_of_getElem? (i := 36) rfl))) (Or.inr (hw _ (List.mem_of_getElem? (i := 34) rfl))) (by decide) (by decide) (by decide))))
  have E11 : Exa Z h7 a1 "com/example/podflow/podflow/simulate/Request" := (Exa.wr W7 E6)
  obtain ⟨T12, h12, X12, e12, W12, st12⟩ := putF X7 hx hZ hown (host := "") (Or.inl (hw _ (List.mem_of_getElem? (i := 35) rfl))) Via.refl e7 F10 E11 (Or.inr ⟨(hw _ (List.mem_of_getElem? (i := 36) rfl)), rfl, hnm⟩) (hw _ (List.mem_of_getElem? (i := 20) rfl)) (ty := .int) (by decide) rfl rfl (g := (mkF m 17 #[.val (.ref a1), .val (.int k1), .val (.double FP.dconst0), .second, .val (.int (0 : Int32)), .val (.int (0 : Int32))] [(.int (0 : Int32)), (.ref a1)])) rfl rfl (hb hby d_prog_45_method_1_code_17)
  have P13 : Keep h0 h12 [a1] := P8.wr W12 (Or.inl (List.mem_of_getElem? (i := 0) rfl))
  have F14 : Fld Z h12 a1 "com/example/podflow/podflow/simulate/Request" "origin" "I" (.int (0 : Int32)) := Fld.same W12 F10
  have N12 := Fr.snoc X12 N7 pg5
  have F15 : Fld Z h12 a1 "com/example/podflow/podflow/simulate/Request" "destination" "I" u3 := (Fld.other W12 (Fld.other W7 (Fld.other W2 pF4 (Or.inr (slot_ne (t := .int) (t' := .int) (C := "com/example/podflow/podflow/simulate/Request") (a0 := a0) (Or.inr (hw _ (List.mem_of_getElem? (i := 38) rfl))) (Or.inr (hw _ (List.mem_of_getElem? (i := 32) rfl))) (by decide) (by decide) (by decide)))) (Or.inr (slot_ne (t := .int) (t' := .double) (C := "com/example/podflow/podflow/simulate/Request") (a0 := a0) (Or.inr (hw _ (List.mem_of_getElem? (i := 38) rfl))) (Or.inr (hw _ (List.mem_of_getElem? (i := 34) rfl))) (by decide) (by decide) (by decide)))) (Or.inr (slot_ne (t := .int) (t' := .int) (C := "com/example/podflow/podflow/simulate/Request") (a0 := a0) (Or.inr (hw _ (List.mem_of_getElem? (i := 38) rfl))) (Or.inr (hw _ (List.mem_of_getElem? (i := 36) rfl))) (by decide) (by decide) (by decide))))
  have E16 : Exa Z h12 a1 "com/example/podflow/podflow/simulate/Request" := (Exa.wr W12 E11)
  obtain ⟨T17, h17, X17, e17, W17, st17⟩ := putF X12 hx hZ hown (host := "") (Or.inl (hw _ (List.mem_of_getElem? (i := 37) rfl))) Via.refl e12 F15 E16 (Or.inr ⟨(hw _ (List.mem_of_getElem? (i := 38) rfl)), rfl, hnm⟩) (hw _ (List.mem_of_getElem? (i := 20) rfl)) (ty := .int) (by decide) rfl rfl (g := (mkF m 23 #[.val (.ref a1), .val (.int k1), .val (.double FP.dconst0), .second, .val (.int (0 : Int32)), .val (.int (0 : Int32))] [(.int (0 : Int32)), (.ref a1)])) rfl rfl (hb hby d_prog_45_method_1_code_23)
  have P18 : Keep h0 h17 [a1] := P13.wr W17 (Or.inl (List.mem_of_getElem? (i := 0) rfl))
  have F19 : Fld Z h17 a1 "com/example/podflow/podflow/simulate/Request" "destination" "I" (.int (0 : Int32)) := Fld.same W17 F15
  have N17 := Fr.snoc X17 N12 pg5
  have E20 : Exa Z h17 a1 "com/example/podflow/podflow/simulate/Request" := (Exa.wr W17 E16)
  have F21 : Fld Z h17 a1 "com/example/podflow/podflow/simulate/Request" "number" "I" (.int k1) := (Fld.other W17 (Fld.other W12 (Fld.other W7 F4 (Or.inr (slot_ne (t := .int) (t' := .double) (C := "com/example/podflow/podflow/simulate/Request") (a0 := a0) (Or.inr (hw _ (List.mem_of_getElem? (i := 32) rfl))) (Or.inr (hw _ (List.mem_of_getElem? (i := 34) rfl))) (by decide) (by decide) (by decide)))) (Or.inr (slot_ne (t := .int) (t' := .int) (C := "com/example/podflow/podflow/simulate/Request") (a0 := a0) (Or.inr (hw _ (List.mem_of_getElem? (i := 32) rfl))) (Or.inr (hw _ (List.mem_of_getElem? (i := 36) rfl))) (by decide) (by decide) (by decide)))) (Or.inr (slot_ne (t := .int) (t' := .int) (C := "com/example/podflow/podflow/simulate/Request") (a0 := a0) (Or.inr (hw _ (List.mem_of_getElem? (i := 32) rfl))) (Or.inr (hw _ (List.mem_of_getElem? (i := 38) rfl))) (by decide) (by decide) (by decide))))
  have F22 : Fld Z h17 a1 "com/example/podflow/podflow/simulate/Request" "time" "D" (.double FP.dconst0) := (Fld.other W17 (Fld.other W12 F9 (Or.inr (slot_ne (t := .double) (t' := .int) (C := "com/example/podflow/podflow/simulate/Request") (a0 := a0) (Or.inr (hw _ (List.mem_of_getElem? (i := 34) rfl))) (Or.inr (hw _ (List.mem_of_getElem? (i := 36) rfl))) (by decide) (by decide) (by decide)))) (Or.inr (slot_ne (t := .double) (t' := .int) (C := "com/example/podflow/podflow/simulate/Request") (a0 := a0) (Or.inr (hw _ (List.mem_of_getElem? (i := 34) rfl))) (Or.inr (hw _ (List.mem_of_getElem? (i := 38) rfl))) (by decide) (by decide) (by decide))))
  have F23 : Fld Z h17 a1 "com/example/podflow/podflow/simulate/Request" "origin" "I" (.int (0 : Int32)) := (Fld.other W17 F14 (Or.inr (slot_ne (t := .int) (t' := .int) (C := "com/example/podflow/podflow/simulate/Request") (a0 := a0) (Or.inr (hw _ (List.mem_of_getElem? (i := 36) rfl))) (Or.inr (hw _ (List.mem_of_getElem? (i := 38) rfl))) (by decide) (by decide) (by decide))))
  obtain ⟨fs, hr, hrun, hended, hW, hsame⟩ := X17.leave (v := none) (fun _ => rfl)
  refine ⟨_, _, pre0 _ ?_, hrun, hended, _, _, rfl, ?_, ⟨_, rfl⟩, hW, hsame.mono (by decide) (by decide)⟩
  · show Steps p.tables e below (s₁.setTop (mkF m 0 #[.val (.ref a1), .val (.int k1), .val (.double FP.dconst0), .second, .val (.int (0 : Int32)), .val (.int (0 : Int32))] [])) _
    refine XS.aloadN X0.here hx rfl (hb hby d_prog_45_method_1_code_0) rfl rfl ?_
    show Steps p.tables e below (s₁.setTop (mkF m 1 #[.val (.ref a1), .val (.int k1), .val (.double FP.dconst0), .second, .val (.int (0 : Int32)), .val (.int (0 : Int32))] [(.ref a1)])) _
    refine st1.trans ?_
    show Steps p.tables e below (T1.setTop (mkF m 4 #[.val (.ref a1), .val (.int k1), .val (.double FP.dconst0), .second, .val (.int (0 : Int32)), .val (.int (0 : Int32))] [])) _
    refine XS.aloadN X1.here hx rfl (hb hby d_prog_45_method_1_code_4) rfl rfl ?_
    show Steps p.tables e below (T1.setTop (mkF m 5 #[.val (.ref a1), .val (.int k1), .val (.double FP.dconst0), .second, .val (.int (0 : Int32)), .val (.int (0 : Int32))] [(.ref a1)])) _
    refine XS.iloadN X1.here hx rfl (hb hby d_prog_45_method_1_code_5) rfl ?_
    show Steps p.tables e below (T1.setTop (mkF m 6 #[.val (.ref a1), .val (.int k1), .val (.double FP.dconst0), .second, .val (.int (0 : Int32)), .val (.int (0 : Int32))] [(.int k1), (.ref a1)])) _
    refine st2 _ ?_
    show Steps p.tables e below (T2.setTop (mkF m 9 #[.val (.ref a1), .val (.int k1), .val (.double FP.dconst0), .second, .val (.int (0 : Int32)), .val (.int (0 : Int32))] [])) _
    refine XS.aloadN X2.here hx rfl (hb hby d_prog_45_method_1_code_9) rfl rfl ?_
    show Steps p.tables e below (T2.setTop (mkF m 10 #[.val (.ref a1), .val (.int k1), .val (.double FP.dconst0), .second, .val (.int (0 : Int32)), .val (.int (0 : Int32))] [(.ref a1)])) _
    refine XS.dloadN X2.here hx rfl (hb hby d_prog_45_method_1_code_10) rfl ?_
    show Steps p.tables e below (T2.setTop (mkF m 11 #[.val (.ref a1), .val (.int k1), .val (.double FP.dconst0), .second, .val (.int (0 : Int32)), .val (.int (0 : Int32))] [(.double FP.dconst0), (.ref a1)])) _
    refine st7 _ ?_
    show Steps p.tables e below (T7.setTop (mkF m 14 #[.val (.ref a1), .val (.int k1), .val (.double FP.dconst0), .second, .val (.int (0 : Int32)), .val (.int (0 : Int32))] [])) _
    refine XS.aloadN X7.here hx rfl (hb hby d_prog_45_method_1_code_14) rfl rfl ?_
    show Steps p.tables e below (T7.setTop (mkF m 15 #[.val (.ref a1), .val (.int k1), .val (.double FP.dconst0), .second, .val (.int (0 : Int32)), .val (.int (0 : Int32))] [(.ref a1)])) _
    refine XS.iload X7.here hx rfl (hb hby d_prog_45_method_1_code_15) rfl ?_
    show Steps p.tables e below (T7.setTop (mkF m 17 #[.val (.ref a1), .val (.int k1), .val (.double FP.dconst0), .second, .val (.int (0 : Int32)), .val (.int (0 : Int32))] [(.int (0 : Int32)), (.ref a1)])) _
    refine st12 _ ?_
    show Steps p.tables e below (T12.setTop (mkF m 20 #[.val (.ref a1), .val (.int k1), .val (.double FP.dconst0), .second, .val (.int (0 : Int32)), .val (.int (0 : Int32))] [])) _
    refine XS.aloadN X12.here hx rfl (hb hby d_prog_45_method_1_code_20) rfl rfl ?_
    show Steps p.tables e below (T12.setTop (mkF m 21 #[.val (.ref a1), .val (.int k1), .val (.double FP.dconst0), .second, .val (.int (0 : Int32)), .val (.int (0 : Int32))] [(.ref a1)])) _
    refine XS.iload X12.here hx rfl (hb hby d_prog_45_method_1_code_21) rfl ?_
    show Steps p.tables e below (T12.setTop (mkF m 23 #[.val (.ref a1), .val (.int k1), .val (.double FP.dconst0), .second, .val (.int (0 : Int32)), .val (.int (0 : Int32))] [(.int (0 : Int32)), (.ref a1)])) _
    refine st17 _ ?_
    show Steps p.tables e below (T17.setTop (mkF m 26 #[.val (.ref a1), .val (.int k1), .val (.double FP.dconst0), .second, .val (.int (0 : Int32)), .val (.int (0 : Int32))] [])) _
    exact X17.returnOut hx Bd.returns (hb hby d_prog_45_method_1_code_26) hr
  · show Q_qini Z a1 k1 u0 u1 u2 u3 h0 n0 _ T17.heap _
    rw [e17]
    exact ⟨rfl, N17, P18, E20, F21, F22, F23, F19⟩
theorem d_prog_45_method_5_code_0 : decode prog_45_method_5_code 0 = .ok (.aload_n 0, 1) := by decide +kernel
theorem d_prog_45_method_5_code_1 : decode prog_45_method_5_code 1 = .ok (.getfield 7, 3) := by decide +kernel
theorem d_prog_45_method_5_code_4 : decode prog_45_method_5_code 4 = .ok (.ireturn, 1) := by decide +kernel
theorem ef_gnum (m : MethodId) (x0 : Addr) : entryFrame m #[(.ref x0)] 1 = mkF m 0 #[.val (.ref x0)] [] := by first | (simp [entryFrame, mkF, argsToLocals, Value.category]; done) | rfl
def Q_gnum (Z : State) (a1 : Addr) (k1 : Int32) (h0 : Heap) (n0 : Nat) (v : Option Value) (h : Heap) (L : List Loc) : Prop := v = some (.int k1) ∧ Fr n0 L ∧ h = h0
set_option maxRecDepth 65536 in
set_option maxHeartbeats 40000000 in
theorem rm_gnum (l : Launch) (Z : State) (a0 : Array Value) (hw : ∀ d ∈ tables_1, d.before a0 Z = true) (ws : List Jvm.Cond) (a1 : Addr) (k1 : Int32) (h0 : Heap) (n0 : Nat) (Z0 : n0 ≤ h0.size) (pF0 : Fld Z h0 a1 "com/example/podflow/podflow/simulate/Request" "number" "I" (.int k1)) :
    MetFree l (⟨"com/example/podflow/podflow/simulate/Request", "number", "()I"⟩ : MethodName) (head1 (Jvm.Cond.code (⟨"com/example/podflow/podflow/simulate/Request", "number", "()I"⟩ : MethodName) prog_45_method_5_code 1 (some .int) :: ws) ({ frames := 0, cells := 0, slots := 0, locals := 0 } : Room)) (fun a U => a = #[(.ref a1)] ∧ Z.Warmed39 U.vm ∧ U.heap = h0) (fun _ _ _ _ _ => True) (fun _ U o U' => ∃ v L, o = .returned v ∧ Q_gnum Z a1 k1 h0 n0 v U'.heap L ∧ FrameEnd U o U' L ({ frames := 0, cells := 0, slots := 0, locals := 0 } : Room).cells ({ frames := 0, cells := 0, slots := 0, locals := 0 } : Room).slots) := by
  refine MetFree.of_bodySF (plainFor_of_name pn_com_example_podflow_podflow_simulate_Request) hisR ?_
  intro p e s m args below meth c s₁ Bd hml0 hP hK
  obtain ⟨rfl, hZ, hh⟩ := hP
  have hx := Bd.exec
  have hby := Bd.bytes
  have hml : c.maxLocals = 1 := hml0
  have hown : s.vm.findClass "com/example/podflow/podflow/simulate/Request" = some m.cls := findClass_of_methodNamed Bd.named
  have hnm := (name_of_methodNamed Bd.named Bd.method).1
  have X0 : Stand p l e ({ frames := 0, cells := 0, slots := 0, locals := 0 } : Room) s m #[(.ref a1)] below meth c s₁ [] 0 0 := Stand.of_body Bd
  have e0 : s₁.heap = h0 := by rw [← hh, Bd.state]; rfl
  have N0 := Fr.nil n0
  have P0 : Keep h0 h0 [] := Keep.refl _ _
  have pre0 : ∀ t, Steps p.tables e below (s₁.setTop (mkF m 0 #[.val (.ref a1)] [])) t → Steps p.tables e below (s₁.setTop (entryFrame m #[(.ref a1)] 1)) t := fun t k => castTop (ef_gnum m a1) k
  obtain ⟨T1, X1, e1, st1⟩ := getF X0 hx hZ hown (host := "") (Or.inl (hw _ (List.mem_of_getElem? (i := 31) rfl))) Via.refl e0 pF0 (g := (mkF m 1 #[.val (.ref a1)] [(.ref a1)])) rfl rfl (hb hby d_prog_45_method_5_code_1)
  obtain ⟨fs, hr, hrun, hended, hW, hsame⟩ := X1.leave (v := some (.int k1)) (fun h => by rw [Bd.returns] at h; cases h)
  refine ⟨_, _, pre0 _ ?_, hrun, hended, _, _, rfl, ?_, ⟨_, rfl⟩, hW, hsame.mono (by decide) (by decide)⟩
  · show Steps p.tables e below (s₁.setTop (mkF m 0 #[.val (.ref a1)] [])) _
    refine XS.aloadN X0.here hx rfl (hb hby d_prog_45_method_5_code_0) rfl rfl ?_
    show Steps p.tables e below (s₁.setTop (mkF m 1 #[.val (.ref a1)] [(.ref a1)])) _
    refine st1 _ ?_
    show Steps p.tables e below (T1.setTop (mkF m 4 #[.val (.ref a1)] [(.int k1)])) _
    exact retOut X1 hx (t := .int) (i := .ireturn) Bd.returns rfl (Or.inl ⟨rfl, Or.inl rfl, _, rfl⟩) (hb hby d_prog_45_method_5_code_4) hr
  · show Q_gnum Z a1 k1 h0 n0 _ T1.heap _
    rw [e1]
    exact ⟨rfl, N0, rfl⟩
theorem d_prog_45_method_6_code_0 : decode prog_45_method_6_code 0 = .ok (.aload_n 0, 1) := by decide +kernel
theorem d_prog_45_method_6_code_1 : decode prog_45_method_6_code 1 = .ok (.getfield 13, 3) := by decide +kernel
theorem d_prog_45_method_6_code_4 : decode prog_45_method_6_code 4 = .ok (.dreturn, 1) := by decide +kernel
theorem ef_gtim (m : MethodId) (x0 : Addr) : entryFrame m #[(.ref x0)] 1 = mkF m 0 #[.val (.ref x0)] [] := by first | (simp [entryFrame, mkF, argsToLocals, Value.category]; done) | rfl
def Q_gtim (Z : State) (a1 : Addr) (h0 : Heap) (n0 : Nat) (v : Option Value) (h : Heap) (L : List Loc) : Prop := v = some (.double FP.dconst0) ∧ Fr n0 L ∧ h = h0
set_option maxRecDepth 65536 in
set_option maxHeartbeats 40000000 in
theorem rm_gtim (l : Launch) (Z : State) (a0 : Array Value) (hw : ∀ d ∈ tables_1, d.before a0 Z = true) (ws : List Jvm.Cond) (a1 : Addr) (h0 : Heap) (n0 : Nat) (Z0 : n0 ≤ h0.size) (pF0 : Fld Z h0 a1 "com/example/podflow/podflow/simulate/Request" "time" "D" (.double FP.dconst0)) :
    MetFree l (⟨"com/example/podflow/podflow/simulate/Request", "time", "()D"⟩ : MethodName) (head1 (Jvm.Cond.code (⟨"com/example/podflow/podflow/simulate/Request", "time", "()D"⟩ : MethodName) prog_45_method_6_code 1 (some .double) :: ws) ({ frames := 0, cells := 0, slots := 0, locals := 0 } : Room)) (fun a U => a = #[(.ref a1)] ∧ Z.Warmed39 U.vm ∧ U.heap = h0) (fun _ _ _ _ _ => True) (fun _ U o U' => ∃ v L, o = .returned v ∧ Q_gtim Z a1 h0 n0 v U'.heap L ∧ FrameEnd U o U' L ({ frames := 0, cells := 0, slots := 0, locals := 0 } : Room).cells ({ frames := 0, cells := 0, slots := 0, locals := 0 } : Room).slots) := by
  refine MetFree.of_bodySF (plainFor_of_name pn_com_example_podflow_podflow_simulate_Request) hisR ?_
  intro p e s m args below meth c s₁ Bd hml0 hP hK
  obtain ⟨rfl, hZ, hh⟩ := hP
  have hx := Bd.exec
  have hby := Bd.bytes
  have hml : c.maxLocals = 1 := hml0
  have hown : s.vm.findClass "com/example/podflow/podflow/simulate/Request" = some m.cls := findClass_of_methodNamed Bd.named
  have hnm := (name_of_methodNamed Bd.named Bd.method).1
  have X0 : Stand p l e ({ frames := 0, cells := 0, slots := 0, locals := 0 } : Room) s m #[(.ref a1)] below meth c s₁ [] 0 0 := Stand.of_body Bd
  have e0 : s₁.heap = h0 := by rw [← hh, Bd.state]; rfl
  have N0 := Fr.nil n0
  have P0 : Keep h0 h0 [] := Keep.refl _ _
  have pre0 : ∀ t, Steps p.tables e below (s₁.setTop (mkF m 0 #[.val (.ref a1)] [])) t → Steps p.tables e below (s₁.setTop (entryFrame m #[(.ref a1)] 1)) t := fun t k => castTop (ef_gtim m a1) k
  obtain ⟨T1, X1, e1, st1⟩ := getF X0 hx hZ hown (host := "") (Or.inl (hw _ (List.mem_of_getElem? (i := 33) rfl))) Via.refl e0 pF0 (g := (mkF m 1 #[.val (.ref a1)] [(.ref a1)])) rfl rfl (hb hby d_prog_45_method_6_code_1)
  obtain ⟨fs, hr, hrun, hended, hW, hsame⟩ := X1.leave (v := some (.double FP.dconst0)) (fun h => by rw [Bd.returns] at h; cases h)
  refine ⟨_, _, pre0 _ ?_, hrun, hended, _, _, rfl, ?_, ⟨_, rfl⟩, hW, hsame.mono (by decide) (by decide)⟩
  · show Steps p.tables e below (s₁.setTop (mkF m 0 #[.val (.ref a1)] [])) _
    refine XS.aloadN X0.here hx rfl (hb hby d_prog_45_method_6_code_0) rfl rfl ?_
    show Steps p.tables e below (s₁.setTop (mkF m 1 #[.val (.ref a1)] [(.ref a1)])) _
    refine st1 _ ?_
    show Steps p.tables e below (T1.setTop (mkF m 4 #[.val (.ref a1)] [(.double FP.dconst0)])) _
    exact retOut X1 hx (t := .double) (i := .dreturn) Bd.returns rfl (Or.inr (Or.inr (Or.inl ⟨rfl, rfl, _, rfl⟩))) (hb hby d_prog_45_method_6_code_4) hr
  · show Q_gtim Z a1 h0 n0 _ T1.heap _
    rw [e1]
    exact ⟨rfl, N0, rfl⟩
theorem d_prog_47_method_10_code_0 : decode prog_47_method_10_code 0 = .ok (.aload_n 0, 1) := by decide +kernel
theorem d_prog_47_method_10_code_1 : decode prog_47_method_10_code 1 = .ok (.getfield 27, 3) := by decide +kernel
theorem d_prog_47_method_10_code_4 : decode prog_47_method_10_code 4 = .ok (.dreturn, 1) := by decide +kernel
theorem pn_com_example_podflow_podflow_simulate_RunLog_RunResult : plainName "com/example/podflow/podflow/simulate/RunLog$RunResult" = true := by first | (simp [plainName, overriddenIn]; done) | decide +kernel
theorem ef_gdec (m : MethodId) (x0 : Addr) : entryFrame m #[(.ref x0)] 1 = mkF m 0 #[.val (.ref x0)] [] := by first | (simp [entryFrame, mkF, argsToLocals, Value.category]; done) | rfl
def Q_gdec (Z : State) (a1 : Addr) (d1 : UInt64) (h0 : Heap) (n0 : Nat) (v : Option Value) (h : Heap) (L : List Loc) : Prop := v = some (.double d1) ∧ Fr n0 L ∧ h = h0
set_option maxRecDepth 65536 in
set_option maxHeartbeats 40000000 in
theorem rm_gdec (l : Launch) (Z : State) (a0 : Array Value) (hw : ∀ d ∈ tables_1, d.before a0 Z = true) (ws : List Jvm.Cond) (a1 : Addr) (d1 : UInt64) (h0 : Heap) (n0 : Nat) (Z0 : n0 ≤ h0.size) (pF0 : Fld Z h0 a1 "com/example/podflow/podflow/simulate/RunLog$RunResult" "decisionSeconds" "D" (.double d1)) :
    MetFree l (⟨"com/example/podflow/podflow/simulate/RunLog$RunResult", "decisionSeconds", "()D"⟩ : MethodName) (head1 (Jvm.Cond.code (⟨"com/example/podflow/podflow/simulate/RunLog$RunResult", "decisionSeconds", "()D"⟩ : MethodName) prog_47_method_10_code 1 (some .double) :: ws) ({ frames := 0, cells := 0, slots := 0, locals := 0 } : Room)) (fun a U => a = #[(.ref a1)] ∧ Z.Warmed39 U.vm ∧ U.heap = h0) (fun _ _ _ _ _ => True) (fun _ U o U' => ∃ v L, o = .returned v ∧ Q_gdec Z a1 d1 h0 n0 v U'.heap L ∧ FrameEnd U o U' L ({ frames := 0, cells := 0, slots := 0, locals := 0 } : Room).cells ({ frames := 0, cells := 0, slots := 0, locals := 0 } : Room).slots) := by
  refine MetFree.of_bodySF (plainFor_of_name pn_com_example_podflow_podflow_simulate_RunLog_RunResult) hisR ?_
  intro p e s m args below meth c s₁ Bd hml0 hP hK
  obtain ⟨rfl, hZ, hh⟩ := hP
  have hx := Bd.exec
  have hby := Bd.bytes
  have hml : c.maxLocals = 1 := hml0
  have hown : s.vm.findClass "com/example/podflow/podflow/simulate/RunLog$RunResult" = some m.cls := findClass_of_methodNamed Bd.named
  have hnm := (name_of_methodNamed Bd.named Bd.method).1
  have X0 : Stand p l e ({ frames := 0, cells := 0, slots := 0, locals := 0 } : Room) s m #[(.ref a1)] below meth c s₁ [] 0 0 := Stand.of_body Bd
  have e0 : s₁.heap = h0 := by rw [← hh, Bd.state]; rfl
  have N0 := Fr.nil n0
  have P0 : Keep h0 h0 [] := Keep.refl _ _
  have pre0 : ∀ t, Steps p.tables e below (s₁.setTop (mkF m 0 #[.val (.ref a1)] [])) t → Steps p.tables e below (s₁.setTop (entryFrame m #[(.ref a1)] 1)) t := fun t k => castTop (ef_gdec m a1) k
  obtain ⟨T1, X1, e1, st1⟩ := getF X0 hx hZ hown (host := "") (Or.inl (hw _ (List.mem_of_getElem? (i := 91) rfl))) Via.refl e0 pF0 (g := (mkF m 1 #[.val (.ref a1)] [(.ref a1)])) rfl rfl (hb hby d_prog_47_method_10_code_1)
  obtain ⟨fs, hr, hrun, hended, hW, hsame⟩ := X1.leave (v := some (.double d1)) (fun h => by rw [Bd.returns] at h; cases h)
  refine ⟨_, _, pre0 _ ?_, hrun, hended, _, _, rfl, ?_, ⟨_, rfl⟩, hW, hsame.mono (by decide) (by decide)⟩
  · show Steps p.tables e below (s₁.setTop (mkF m 0 #[.val (.ref a1)] [])) _
    refine XS.aloadN X0.here hx rfl (hb hby d_prog_47_method_10_code_0) rfl rfl ?_
    show Steps p.tables e below (s₁.setTop (mkF m 1 #[.val (.ref a1)] [(.ref a1)])) _
    refine st1 _ ?_
    show Steps p.tables e below (T1.setTop (mkF m 4 #[.val (.ref a1)] [(.double d1)])) _
    exact retOut X1 hx (t := .double) (i := .dreturn) Bd.returns rfl (Or.inr (Or.inr (Or.inl ⟨rfl, rfl, _, rfl⟩))) (hb hby d_prog_47_method_10_code_4) hr
  · show Q_gdec Z a1 d1 h0 n0 _ T1.heap _
    rw [e1]
    exact ⟨rfl, N0, rfl⟩
theorem d_prog_46_method_4_code_0 : decode prog_46_method_4_code 0 = .ok (.aload_n 1, 1) := by decide +kernel
theorem d_prog_46_method_4_code_1 : decode prog_46_method_4_code 1 = .ok (.invokevirtual 31, 3) := by decide +kernel
theorem pd_2829I : parseMethodDescriptor "()I" = some ⟨[], some .int⟩ := by decide +kernel
theorem d_prog_46_method_4_code_4 : decode prog_46_method_4_code 4 = .ok (.aload_n 0, 1) := by decide +kernel
theorem d_prog_46_method_4_code_5 : decode prog_46_method_4_code 5 = .ok (.getfield 7, 3) := by decide +kernel
theorem d_prog_46_method_4_code_8 : decode prog_46_method_4_code 8 = .ok (.isub, 1) := by decide +kernel
theorem d_prog_46_method_4_code_9 : decode prog_46_method_4_code 9 = .ok (.istore_n 2, 1) := by decide +kernel
theorem d_prog_46_method_4_code_10 : decode prog_46_method_4_code 10 = .ok (.iload_n 2, 1) := by decide +kernel
theorem d_prog_46_method_4_code_11 : decode prog_46_method_4_code 11 = .ok (.ifCond .lt 16, 3) := by decide +kernel
theorem d_prog_46_method_4_code_27 : decode prog_46_method_4_code 27 = .ok (.iconst 0, 1) := by decide +kernel
theorem d_prog_46_method_4_code_28 : decode prog_46_method_4_code 28 = .ok (.ireturn, 1) := by decide +kernel
theorem ef_cn0 (m : MethodId) (x0 : Addr) (x1 : Addr) : entryFrame m #[(.ref x0), (.ref x1)] 3 = mkF m 0 #[.val (.ref x0), .val (.ref x1), .unset] [] := by first | (simp [entryFrame, mkF, argsToLocals, Value.category]; done) | rfl
def Q_cn0 (Z : State) (a1 : Addr) (a2 : Addr) (k1 : Int32) (k2 : Int32) (k3 : Int32) (t1 : Addr) (kk : ClassId) (vs : List Value) (r : Int32) (h0 : Heap) (n0 : Nat) (v : Option Value) (h : Heap) (L : List Loc) : Prop := v = some (.int r) ∧ Fr n0 L ∧ h = h0
set_option maxRecDepth 65536 in
set_option maxHeartbeats 40000000 in
theorem rm_cn0 (l : Launch) (Z : State) (a0 : Array Value) (hw : ∀ d ∈ tables_1, d.before a0 Z = true) (ws : List Jvm.Cond) (a1 : Addr) (a2 : Addr) (k1 : Int32) (k2 : Int32) (k3 : Int32) (t1 : Addr) (kk : ClassId) (vs : List Value) (r : Int32) (h0 : Heap) (n0 : Nat) (Z0 : n0 ≤ h0.size) (pE0 : Exa Z h0 a1 "com/example/podflow/podflow/simulate/RunLog") (pE1 : Exa Z h0 a2 "com/example/podflow/podflow/simulate/Request") (pF2 : Fld Z h0 a2 "com/example/podflow/podflow/simulate/Request" "number" "I" (.int k2)) (pF3 : Fld Z h0 a1 "com/example/podflow/podflow/simulate/RunLog" "warmup" "I" (.int k1)) (pF4 : Fld Z h0 a1 "com/example/podflow/podflow/simulate/RunLog" "waits" "[D" (.ref t1)) (pA5 : Arv Z h0 t1 kk .double k3 vs (.double (0 : UInt64))) (h1 : (k2 - k1) < (0 : Int32)) (hrr : r = 0) :
    MetFree l (⟨"com/example/podflow/podflow/simulate/RunLog", "counts", "(Lcom/example/podflow/podflow/simulate/Request;)Z"⟩ : MethodName) (head1 (Jvm.Cond.code (⟨"com/example/podflow/podflow/simulate/RunLog", "counts", "(Lcom/example/podflow/podflow/simulate/Request;)Z"⟩ : MethodName) prog_46_method_4_code 3 (some .boolean) :: ws) ({ frames := 1, cells := 0, slots := 0, locals := 12 } : Room)) (fun a U => a = #[(.ref a1), (.ref a2)] ∧ Z.Warmed39 U.vm ∧ U.heap = h0) (fun _ _ _ _ _ => True) (fun _ U o U' => ∃ v L, o = .returned v ∧ Q_cn0 Z a1 a2 k1 k2 k3 t1 kk vs r h0 n0 v U'.heap L ∧ FrameEnd U o U' L ({ frames := 1, cells := 0, slots := 0, locals := 12 } : Room).cells ({ frames := 1, cells := 0, slots := 0, locals := 12 } : Room).slots) := by
  refine MetFree.of_bodySF (plainFor_of_name pn_com_example_podflow_podflow_simulate_RunLog) hisR ?_
  intro p e s m args below meth c s₁ Bd hml0 hP hK
  obtain ⟨rfl, hZ, hh⟩ := hP
  have hx := Bd.exec
  have hby := Bd.bytes
  have hml : c.maxLocals = 3 := hml0
  have hown : s.vm.findClass "com/example/podflow/podflow/simulate/RunLog" = some m.cls := findClass_of_methodNamed Bd.named
  have hnm := (name_of_methodNamed Bd.named Bd.method).1
  have X0 : Stand p l e ({ frames := 1, cells := 0, slots := 0, locals := 12 } : Room) s m #[(.ref a1), (.ref a2)] below meth c s₁ [] 0 0 := Stand.of_body Bd
  have e0 : s₁.heap = h0 := by rw [← hh, Bd.state]; rfl
  have N0 := Fr.nil n0
  have P0 : Keep h0 h0 [] := Keep.refl _ _
  have pre0 : ∀ t, Steps p.tables e below (s₁.setTop (mkF m 0 #[.val (.ref a1), .val (.ref a2), .unset] [])) t → Steps p.tables e below (s₁.setTop (entryFrame m #[(.ref a1), (.ref a2)] 3)) t := fun t k => castTop (ef_cn0 m a1 a2) k
  obtain ⟨cq1, kq1, q1a, q1b, q1c⟩ := isOf hZ e0 pE1
  obtain ⟨_, _, ⟨T1, L1, k1, n1⟩, -, X1, ⟨Lc1, hQ1, l1, y1, z1⟩, st1⟩ := X0.virtualBack hx (y := (⟨"com/example/podflow/podflow/simulate/Request", "number", "()I"⟩ : MethodName)) (z := (⟨"com/example/podflow/podflow/simulate/Request", "number", "()I"⟩ : MethodName)) hown (mvT hZ (hw _ (List.mem_of_getElem? (i := 48) rfl))) (mvT hZ (hw _ (List.mem_of_getElem? (i := 49) rfl))) (notFace_of_selects (args := #[]) (mvT hZ (hw _ (List.mem_of_getElem? (i := 51) rfl)))) (mvT hZ (hw _ (List.mem_of_getElem? (i := 51) rfl))) (mvT hZ (hw _ (List.mem_of_getElem? (i := 50) rfl))) (by decide) (backOf (W := 0) (rm_gnum l Z a0 hw [] a2 k2 h0 n0 (Nat.le_trans Z0 P0.1) pF2) hZ (hw _ (List.mem_of_getElem? (i := 52) rfl)) (hw _ (List.mem_of_getElem? (i := 21) rfl)) (by decide) (by decide)) q1a q1c (g := (mkF m 1 #[.val (.ref a1), .val (.ref a2), .unset] [(.ref a2)])) rfl (by rw [hml]; rfl) (Steps.refl _) (argsL := []) (rest := []) (lenOf pd_2829I rfl) rfl (by show 2 * 0 + _ ≤ _; exact Nat.le_of_eq rfl) (hb hby d_prog_46_method_4_code_1) (fun _ _ => ⟨rfl, e0, (by decide : 0 + 0 ≤ _), (by decide : 0 + 0 ≤ _)⟩)
  dsimp only [Pt.U, Pt.locs, Pt.cells, Pt.slots] at X1 l1 y1 z1 st1 hQ1
  subst l1 y1 z1
  obtain ⟨rfl, N1q, e1⟩ := hQ1
  have N1 := Fr.app N0 N1q
  obtain ⟨T2, X2, e2, st2⟩ := getF X1 hx hZ hown (host := "") (Or.inl (hw _ (List.mem_of_getElem? (i := 10) rfl))) Via.refl e1 pF3 (g := (mkF m 5 #[.val (.ref a1), .val (.ref a2), .unset] [(.ref a1), (.int k2)])) rfl rfl (hb hby d_prog_46_method_4_code_5)
  obtain ⟨fs, hr, hrun, hended, hW, hsame⟩ := X2.leave (v := some (.int (0 : Int32))) (fun h => by rw [Bd.returns] at h; cases h)
  refine ⟨_, _, pre0 _ ?_, hrun, hended, _, _, rfl, ?_, ⟨_, rfl⟩, hW, hsame.mono (by decide) (by decide)⟩
  · show Steps p.tables e below (s₁.setTop (mkF m 0 #[.val (.ref a1), .val (.ref a2), .unset] [])) _
    refine XS.aloadN X0.here hx rfl (hb hby d_prog_46_method_4_code_0) rfl rfl ?_
    show Steps p.tables e below (s₁.setTop (mkF m 1 #[.val (.ref a1), .val (.ref a2), .unset] [(.ref a2)])) _
    refine st1.trans ?_
    show Steps p.tables e below (T1.setTop (mkF m 4 #[.val (.ref a1), .val (.ref a2), .unset] [(.int k2)])) _
    refine XS.aloadN X1.here hx rfl (hb hby d_prog_46_method_4_code_4) rfl rfl ?_
    show Steps p.tables e below (T1.setTop (mkF m 5 #[.val (.ref a1), .val (.ref a2), .unset] [(.ref a1), (.int k2)])) _
    refine st2 _ ?_
    show Steps p.tables e below (T2.setTop (mkF m 8 #[.val (.ref a1), .val (.ref a2), .unset] [(.int k1), (.int k2)])) _
    refine XS.isub X2.here hx rfl (hb hby d_prog_46_method_4_code_8) rfl ?_
    show Steps p.tables e below (T2.setTop (mkF m 9 #[.val (.ref a1), .val (.ref a2), .unset] [(.int (k2 - k1))])) _
    refine XS.istoreN X2.here hx rfl (hb hby d_prog_46_method_4_code_9) rfl (l' := #[.val (.ref a1), .val (.ref a2), .val (.int (k2 - k1))]) rfl ?_
    show Steps p.tables e below (T2.setTop (mkF m 10 #[.val (.ref a1), .val (.ref a2), .val (.int (k2 - k1))] [])) _
    refine XS.iloadN X2.here hx rfl (hb hby d_prog_46_method_4_code_10) rfl ?_
    show Steps p.tables e below (T2.setTop (mkF m 11 #[.val (.ref a1), .val (.ref a2), .val (.int (k2 - k1))] [(.int (k2 - k1))])) _
    refine XS.ifYes X2.here hx rfl (pc0 := 11) (pc' := 27) rfl (hb hby d_prog_46_method_4_code_11) rfl ((if0 _ _).trans (tlt (h1 : (k2 - k1) < (0 : Int32))).1) (by decide) (by decide) ?_
    show Steps p.tables e below (T2.setTop (mkF m 27 #[.val (.ref a1), .val (.ref a2), .val (.int (k2 - k1))] [])) _
    refine XS.iconst X2.here hx rfl (hb hby d_prog_46_method_4_code_27) ?_
    show Steps p.tables e below (T2.setTop (mkF m 28 #[.val (.ref a1), .val (.ref a2), .val (.int (k2 - k1))] [(.int (0 : Int32))])) _
    exact retOut X2 hx (t := .boolean) (i := .ireturn) Bd.returns rfl (Or.inl ⟨rfl, Or.inr (Or.inl rfl), _, rfl⟩) (hb hby d_prog_46_method_4_code_28) hr
  · show Q_cn0 Z a1 a2 k1 k2 k3 t1 kk vs r h0 n0 _ T2.heap _
    rw [e2]
    exact ⟨(by rw [hrr]), N1, rfl⟩
theorem d_prog_46_method_4_code_14 : decode prog_46_method_4_code 14 = .ok (.iload_n 2, 1) := by decide +kernel
theorem d_prog_46_method_4_code_15 : decode prog_46_method_4_code 15 = .ok (.aload_n 0, 1) := by decide +kernel
theorem d_prog_46_method_4_code_16 : decode prog_46_method_4_code 16 = .ok (.getfield 20, 3) := by decide +kernel
theorem d_prog_46_method_4_code_19 : decode prog_46_method_4_code 19 = .ok (.arraylength, 1) := by decide +kernel
theorem d_prog_46_method_4_code_20 : decode prog_46_method_4_code 20 = .ok (.if_icmp .ge 7, 3) := by decide +kernel
theorem ef_cn1 (m : MethodId) (x0 : Addr) (x1 : Addr) : entryFrame m #[(.ref x0), (.ref x1)] 3 = mkF m 0 #[.val (.ref x0), .val (.ref x1), .unset] [] := by first | (simp [entryFrame, mkF, argsToLocals, Value.category]; done) | rfl
set_option maxRecDepth 65536 in
set_option maxHeartbeats 40000000 in
theorem rm_cn1 (l : Launch) (Z : State) (a0 : Array Value) (hw : ∀ d ∈ tables_1, d.before a0 Z = true) (ws : List Jvm.Cond) (a1 : Addr) (a2 : Addr) (k1 : Int32) (k2 : Int32) (k3 : Int32) (t1 : Addr) (kk : ClassId) (vs : List Value) (r : Int32) (h0 : Heap) (n0 : Nat) (Z0 : n0 ≤ h0.size) (pE0 : Exa Z h0 a1 "com/example/podflow/podflow/simulate/RunLog") (pE1 : Exa Z h0 a2 "com/example/podflow/podflow/simulate/Request") (pF2 : Fld Z h0 a2 "com/example/podflow/podflow/simulate/Request" "number" "I" (.int k2)) (pF3 : Fld Z h0 a1 "com/example/podflow/podflow/simulate/RunLog" "warmup" "I" (.int k1)) (pF4 : Fld Z h0 a1 "com/example/podflow/podflow/simulate/RunLog" "waits" "[D" (.ref t1)) (pA5 : Arv Z h0 t1 kk .double k3 vs (.double (0 : UInt64))) (h1 : ¬ ((k2 - k1) < (0 : Int32))) (h2 : ¬ ((k2 - k1) < k3)) (hrr : r = 0) :
    MetFree l (⟨"com/example/podflow/podflow/simulate/RunLog", "counts", "(Lcom/example/podflow/podflow/simulate/Request;)Z"⟩ : MethodName) (head1 (Jvm.Cond.code (⟨"com/example/podflow/podflow/simulate/RunLog", "counts", "(Lcom/example/podflow/podflow/simulate/Request;)Z"⟩ : MethodName) prog_46_method_4_code 3 (some .boolean) :: ws) ({ frames := 1, cells := 0, slots := 0, locals := 12 } : Room)) (fun a U => a = #[(.ref a1), (.ref a2)] ∧ Z.Warmed39 U.vm ∧ U.heap = h0) (fun _ _ _ _ _ => True) (fun _ U o U' => ∃ v L, o = .returned v ∧ Q_cn0 Z a1 a2 k1 k2 k3 t1 kk vs r h0 n0 v U'.heap L ∧ FrameEnd U o U' L ({ frames := 1, cells := 0, slots := 0, locals := 12 } : Room).cells ({ frames := 1, cells := 0, slots := 0, locals := 12 } : Room).slots) := by
  refine MetFree.of_bodySF (plainFor_of_name pn_com_example_podflow_podflow_simulate_RunLog) hisR ?_
  intro p e s m args below meth c s₁ Bd hml0 hP hK
  obtain ⟨rfl, hZ, hh⟩ := hP
  have hx := Bd.exec
  have hby := Bd.bytes
  have hml : c.maxLocals = 3 := hml0
  have hown : s.vm.findClass "com/example/podflow/podflow/simulate/RunLog" = some m.cls := findClass_of_methodNamed Bd.named
  have hnm := (name_of_methodNamed Bd.named Bd.method).1
  have X0 : Stand p l e ({ frames := 1, cells := 0, slots := 0, locals := 12 } : Room) s m #[(.ref a1), (.ref a2)] below meth c s₁ [] 0 0 := Stand.of_body Bd
  have e0 : s₁.heap = h0 := by rw [← hh, Bd.state]; rfl
  have N0 := Fr.nil n0
  have P0 : Keep h0 h0 [] := Keep.refl _ _
  have pre0 : ∀ t, Steps p.tables e below (s₁.setTop (mkF m 0 #[.val (.ref a1), .val (.ref a2), .unset] [])) t → Steps p.tables e below (s₁.setTop (entryFrame m #[(.ref a1), (.ref a2)] 3)) t := fun t k => castTop (ef_cn1 m a1 a2) k
  obtain ⟨cq1, kq1, q1a, q1b, q1c⟩ := isOf hZ e0 pE1
  obtain ⟨_, _, ⟨T1, L1, k1, n1⟩, -, X1, ⟨Lc1, hQ1, l1, y1, z1⟩, st1⟩ := X0.virtualBack hx (y := (⟨"com/example/podflow/podflow/simulate/Request", "number", "()I"⟩ : MethodName)) (z := (⟨"com/example/podflow/podflow/simulate/Request", "number", "()I"⟩ : MethodName)) hown (mvT hZ (hw _ (List.mem_of_getElem? (i := 48) rfl))) (mvT hZ (hw _ (List.mem_of_getElem? (i := 49) rfl))) (notFace_of_selects (args := #[]) (mvT hZ (hw _ (List.mem_of_getElem? (i := 51) rfl)))) (mvT hZ (hw _ (List.mem_of_getElem? (i := 51) rfl))) (mvT hZ (hw _ (List.mem_of_getElem? (i := 50) rfl))) (by decide) (backOf (W := 0) (rm_gnum l Z a0 hw [] a2 k2 h0 n0 (Nat.le_trans Z0 P0.1) pF2) hZ (hw _ (List.mem_of_getElem? (i := 52) rfl)) (hw _ (List.mem_of_getElem? (i := 21) rfl)) (by decide) (by decide)) q1a q1c (g := (mkF m 1 #[.val (.ref a1), .val (.ref a2), .unset] [(.ref a2)])) rfl (by rw [hml]; rfl) (Steps.refl _) (argsL := []) (rest := []) (lenOf pd_2829I rfl) rfl (by show 2 * 0 + _ ≤ _; exact Nat.le_of_eq rfl) (hb hby d_prog_46_method_4_code_1) (fun _ _ => ⟨rfl, e0, (by decide : 0 + 0 ≤ _), (by decide : 0 + 0 ≤ _)⟩)
  dsimp only [Pt.U, Pt.locs, Pt.cells, Pt.slots] at X1 l1 y1 z1 st1 hQ1
  subst l1 y1 z1
  obtain ⟨rfl, N1q, e1⟩ := hQ1
  have N1 := Fr.app N0 N1q
  obtain ⟨T2, X2, e2, st2⟩ := getF X1 hx hZ hown (host := "") (Or.inl (hw _ (List.mem_of_getElem? (i := 10) rfl))) Via.refl e1 pF3 (g := (mkF m 5 #[.val (.ref a1), .val (.ref a2), .unset] [(.ref a1), (.int k2)])) rfl rfl (hb hby d_prog_46_method_4_code_5)
  obtain ⟨T3, X3, e3, st3⟩ := getF X2 hx hZ hown (host := "") (Or.inl (hw _ (List.mem_of_getElem? (i := 17) rfl))) Via.refl e2 pF4 (g := (mkF m 16 #[.val (.ref a1), .val (.ref a2), .val (.int (k2 - k1))] [(.ref a1), (.int (k2 - k1))])) rfl rfl (hb hby d_prog_46_method_4_code_16)
  obtain ⟨cl4, Ar4, qk4, Sz4, Nz4, Ha4, Ga4⟩ := id pA5
  obtain ⟨fs, hr, hrun, hended, hW, hsame⟩ := X3.leave (v := some (.int (0 : Int32))) (fun h => by rw [Bd.returns] at h; cases h)
  refine ⟨_, _, pre0 _ ?_, hrun, hended, _, _, rfl, ?_, ⟨_, rfl⟩, hW, hsame.mono (by decide) (by decide)⟩
  · show Steps p.tables e below (s₁.setTop (mkF m 0 #[.val (.ref a1), .val (.ref a2), .unset] [])) _
    refine XS.aloadN X0.here hx rfl (hb hby d_prog_46_method_4_code_0) rfl rfl ?_
    show Steps p.tables e below (s₁.setTop (mkF m 1 #[.val (.ref a1), .val (.ref a2), .unset] [(.ref a2)])) _
    refine st1.trans ?_
    show Steps p.tables e below (T1.setTop (mkF m 4 #[.val (.ref a1), .val (.ref a2), .unset] [(.int k2)])) _
    refine XS.aloadN X1.here hx rfl (hb hby d_prog_46_method_4_code_4) rfl rfl ?_
    show Steps p.tables e below (T1.setTop (mkF m 5 #[.val (.ref a1), .val (.ref a2), .unset] [(.ref a1), (.int k2)])) _
    refine st2 _ ?_
    show Steps p.tables e below (T2.setTop (mkF m 8 #[.val (.ref a1), .val (.ref a2), .unset] [(.int k1), (.int k2)])) _
    refine XS.isub X2.here hx rfl (hb hby d_prog_46_method_4_code_8) rfl ?_
    show Steps p.tables e below (T2.setTop (mkF m 9 #[.val (.ref a1), .val (.ref a2), .unset] [(.int (k2 - k1))])) _
    refine XS.istoreN X2.here hx rfl (hb hby d_prog_46_method_4_code_9) rfl (l' := #[.val (.ref a1), .val (.ref a2), .val (.int (k2 - k1))]) rfl ?_
    show Steps p.tables e below (T2.setTop (mkF m 10 #[.val (.ref a1), .val (.ref a2), .val (.int (k2 - k1))] [])) _
    refine XS.iloadN X2.here hx rfl (hb hby d_prog_46_method_4_code_10) rfl ?_
    show Steps p.tables e below (T2.setTop (mkF m 11 #[.val (.ref a1), .val (.ref a2), .val (.int (k2 - k1))] [(.int (k2 - k1))])) _
    refine XS.ifNo X2.here hx rfl (hb hby d_prog_46_method_4_code_11) rfl ((if0 _ _).trans (flt (h1 : ¬ ((k2 - k1) < (0 : Int32)))).1) ?_
    show Steps p.tables e below (T2.setTop (mkF m 14 #[.val (.ref a1), .val (.ref a2), .val (.int (k2 - k1))] [])) _
    refine XS.iloadN X2.here hx rfl (hb hby d_prog_46_method_4_code_14) rfl ?_
    show Steps p.tables e below (T2.setTop (mkF m 15 #[.val (.ref a1), .val (.ref a2), .val (.int (k2 - k1))] [(.int (k2 - k1))])) _
    refine XS.aloadN X2.here hx rfl (hb hby d_prog_46_method_4_code_15) rfl rfl ?_
    show Steps p.tables e below (T2.setTop (mkF m 16 #[.val (.ref a1), .val (.ref a2), .val (.int (k2 - k1))] [(.ref a1), (.int (k2 - k1))])) _
    refine st3 _ ?_
    show Steps p.tables e below (T3.setTop (mkF m 19 #[.val (.ref a1), .val (.ref a2), .val (.int (k2 - k1))] [(.ref t1), (.int (k2 - k1))])) _
    refine X3.arraylength hx (by rw [e3]; exact Ar4.1) (State.isArrayOf_alike hZ.alike Ar4.2.1) (g := (mkF m 19 #[.val (.ref a1), .val (.ref a2), .val (.int (k2 - k1))] [(.ref t1), (.int (k2 - k1))])) rfl rfl (hb hby d_prog_46_method_4_code_19) _ ?_
    rw [len_of Sz4 Nz4]
    show Steps p.tables e below (T3.setTop (mkF m 20 #[.val (.ref a1), .val (.ref a2), .val (.int (k2 - k1))] [(.int k3), (.int (k2 - k1))])) _
    refine XS.icmpYes X3.here hx rfl (pc0 := 20) (pc' := 27) rfl (hb hby d_prog_46_method_4_code_20) rfl (flt (h2 : ¬ ((k2 - k1) < k3))).2.1 (by decide) (by decide) ?_
    show Steps p.tables e below (T3.setTop (mkF m 27 #[.val (.ref a1), .val (.ref a2), .val (.int (k2 - k1))] [])) _
    refine XS.iconst X3.here hx rfl (hb hby d_prog_46_method_4_code_27) ?_
    show Steps p.tables e below (T3.setTop (mkF m 28 #[.val (.ref a1), .val (.ref a2), .val (.int (k2 - k1))] [(.int (0 : Int32))])) _
    exact retOut X3 hx (t := .boolean) (i := .ireturn) Bd.returns rfl (Or.inl ⟨rfl, Or.inr (Or.inl rfl), _, rfl⟩) (hb hby d_prog_46_method_4_code_28) hr
  · show Q_cn0 Z a1 a2 k1 k2 k3 t1 kk vs r h0 n0 _ T3.heap _
    rw [e3]
    exact ⟨(by rw [hrr]), N1, rfl⟩
theorem d_prog_46_method_4_code_23 : decode prog_46_method_4_code 23 = .ok (.iconst 1, 1) := by decide +kernel
theorem d_prog_46_method_4_code_24 : decode prog_46_method_4_code 24 = .ok (.goto 4, 3) := by decide +kernel
theorem ef_cn2 (m : MethodId) (x0 : Addr) (x1 : Addr) : entryFrame m #[(.ref x0), (.ref x1)] 3 = mkF m 0 #[.val (.ref x0), .val (.ref x1), .unset] [] := by first | (simp [entryFrame, mkF, argsToLocals, Value.category]; done) | rfl
set_option maxRecDepth 65536 in
set_option maxHeartbeats 40000000 in
theorem rm_cn2 (l : Launch) (Z : State) (a0 : Array Value) (hw : ∀ d ∈ tables_1, d.before a0 Z = true) (ws : List Jvm.Cond) (a1 : Addr) (a2 : Addr) (k1 : Int32) (k2 : Int32) (k3 : Int32) (t1 : Addr) (kk : ClassId) (vs : List Value) (r : Int32) (h0 : Heap) (n0 : Nat) (Z0 : n0 ≤ h0.size) (pE0 : Exa Z h0 a1 "com/example/podflow/podflow/simulate/RunLog") (pE1 : Exa Z h0 a2 "com/example/podflow/podflow/simulate/Request") (pF2 : Fld Z h0 a2 "com/example/podflow/podflow/simulate/Request" "number" "I" (.int k2)) (pF3 : Fld Z h0 a1 "com/example/podflow/podflow/simulate/RunLog" "warmup" "I" (.int k1)) (pF4 : Fld Z h0 a1 "com/example/podflow/podflow/simulate/RunLog" "waits" "[D" (.ref t1)) (pA5 : Arv Z h0 t1 kk .double k3 vs (.double (0 : UInt64))) (h1 : ¬ ((k2 - k1) < (0 : Int32))) (h2 : (k2 - k1) < k3) (hrr : r = 1) :
    MetFree l (⟨"com/example/podflow/podflow/simulate/RunLog", "counts", "(Lcom/example/podflow/podflow/simulate/Request;)Z"⟩ : MethodName) (head1 (Jvm.Cond.code (⟨"com/example/podflow/podflow/simulate/RunLog", "counts", "(Lcom/example/podflow/podflow/simulate/Request;)Z"⟩ : MethodName) prog_46_method_4_code 3 (some .boolean) :: ws) ({ frames := 1, cells := 0, slots := 0, locals := 12 } : Room)) (fun a U => a = #[(.ref a1), (.ref a2)] ∧ Z.Warmed39 U.vm ∧ U.heap = h0) (fun _ _ _ _ _ => True) (fun _ U o U' => ∃ v L, o = .returned v ∧ Q_cn0 Z a1 a2 k1 k2 k3 t1 kk vs r h0 n0 v U'.heap L ∧ FrameEnd U o U' L ({ frames := 1, cells := 0, slots := 0, locals := 12 } : Room).cells ({ frames := 1, cells := 0, slots := 0, locals := 12 } : Room).slots) := by
  refine MetFree.of_bodySF (plainFor_of_name pn_com_example_podflow_podflow_simulate_RunLog) hisR ?_
  intro p e s m args below meth c s₁ Bd hml0 hP hK
  obtain ⟨rfl, hZ, hh⟩ := hP
  have hx := Bd.exec
  have hby := Bd.bytes
  have hml : c.maxLocals = 3 := hml0
  have hown : s.vm.findClass "com/example/podflow/podflow/simulate/RunLog" = some m.cls := findClass_of_methodNamed Bd.named
  have hnm := (name_of_methodNamed Bd.named Bd.method).1
  have X0 : Stand p l e ({ frames := 1, cells := 0, slots := 0, locals := 12 } : Room) s m #[(.ref a1), (.ref a2)] below meth c s₁ [] 0 0 := Stand.of_body Bd
  have e0 : s₁.heap = h0 := by rw [← hh, Bd.state]; rfl
  have N0 := Fr.nil n0
  have P0 : Keep h0 h0 [] := Keep.refl _ _
  have pre0 : ∀ t, Steps p.tables e below (s₁.setTop (mkF m 0 #[.val (.ref a1), .val (.ref a2), .unset] [])) t → Steps p.tables e below (s₁.setTop (entryFrame m #[(.ref a1), (.ref a2)] 3)) t := fun t k => castTop (ef_cn2 m a1 a2) k
  obtain ⟨cq1, kq1, q1a, q1b, q1c⟩ := isOf hZ e0 pE1
  obtain ⟨_, _, ⟨T1, L1, k1, n1⟩, -, X1, ⟨Lc1, hQ1, l1, y1, z1⟩, st1⟩ := X0.virtualBack hx (y := (⟨"com/example/podflow/podflow/simulate/Request", "number", "()I"⟩ : MethodName)) (z := (⟨"com/example/podflow/podflow/simulate/Request", "number", "()I"⟩ : MethodName)) hown (mvT hZ (hw _ (List.mem_of_getElem? (i := 48) rfl))) (mvT hZ (hw _ (List.mem_of_getElem? (i := 49) rfl))) (notFace_of_selects (args := #[]) (mvT hZ (hw _ (List.mem_of_getElem? (i := 51) rfl)))) (mvT hZ (hw _ (List.mem_of_getElem? (i := 51) rfl))) (mvT hZ (hw _ (List.mem_of_getElem? (i := 50) rfl))) (by decide) (backOf (W := 0) (rm_gnum l Z a0 hw [] a2 k2 h0 n0 (Nat.le_trans Z0 P0.1) pF2) hZ (hw _ (List.mem_of_getElem? (i := 52) rfl)) (hw _ (List.mem_of_getElem? (i := 21) rfl)) (by decide) (by decide)) q1a q1c (g := (mkF m 1 #[.val (.ref a1), .val (.ref a2), .unset] [(.ref a2)])) rfl (by rw [hml]; rfl) (Steps.refl _) (argsL := []) (rest := []) (lenOf pd_2829I rfl) rfl (by show 2 * 0 + _ ≤ _; exact Nat.le_of_eq rfl) (hb hby d_prog_46_method_4_code_1) (fun _ _ => ⟨rfl, e0, (by decide : 0 + 0 ≤ _), (by decide : 0 + 0 ≤ _)⟩)
  dsimp only [Pt.U, Pt.locs, Pt.cells, Pt.slots] at X1 l1 y1 z1 st1 hQ1
  subst l1 y1 z1
  obtain ⟨rfl, N1q, e1⟩ := hQ1
  have N1 := Fr.app N0 N1q
  obtain ⟨T2, X2, e2, st2⟩ := getF X1 hx hZ hown (host := "") (Or.inl (hw _ (List.mem_of_getElem? (i := 10) rfl))) Via.refl e1 pF3 (g := (mkF m 5 #[.val (.ref a1), .val (.ref a2), .unset] [(.ref a1), (.int k2)])) rfl rfl (hb hby d_prog_46_method_4_code_5)
  obtain ⟨T3, X3, e3, st3⟩ := getF X2 hx hZ hown (host := "") (Or.inl (hw _ (List.mem_of_getElem? (i := 17) rfl))) Via.refl e2 pF4 (g := (mkF m 16 #[.val (.ref a1), .val (.ref a2), .val (.int (k2 - k1))] [(.ref a1), (.int (k2 - k1))])) rfl rfl (hb hby d_prog_46_method_4_code_16)
  obtain ⟨cl4, Ar4, qk4, Sz4, Nz4, Ha4, Ga4⟩ := id pA5
  obtain ⟨fs, hr, hrun, hended, hW, hsame⟩ := X3.leave (v := some (.int (1 : Int32))) (fun h => by rw [Bd.returns] at h; cases h)
  refine ⟨_, _, pre0 _ ?_, hrun, hended, _, _, rfl, ?_, ⟨_, rfl⟩, hW, hsame.mono (by decide) (by decide)⟩
  · show Steps p.tables e below (s₁.setTop (mkF m 0 #[.val (.ref a1), .val (.ref a2), .unset] [])) _
    refine XS.aloadN X0.here hx rfl (hb hby d_prog_46_method_4_code_0) rfl rfl ?_
    show Steps p.tables e below (s₁.setTop (mkF m 1 #[.val (.ref a1), .val (.ref a2), .unset] [(.ref a2)])) _
    refine st1.trans ?_
    show Steps p.tables e below (T1.setTop (mkF m 4 #[.val (.ref a1), .val (.ref a2), .unset] [(.int k2)])) _
    refine XS.aloadN X1.here hx rfl (hb hby d_prog_46_method_4_code_4) rfl rfl ?_
    show Steps p.tables e below (T1.setTop (mkF m 5 #[.val (.ref a1), .val (.ref a2), .unset] [(.ref a1), (.int k2)])) _
    refine st2 _ ?_
    show Steps p.tables e below (T2.setTop (mkF m 8 #[.val (.ref a1), .val (.ref a2), .unset] [(.int k1), (.int k2)])) _
    refine XS.isub X2.here hx rfl (hb hby d_prog_46_method_4_code_8) rfl ?_
    show Steps p.tables e below (T2.setTop (mkF m 9 #[.val (.ref a1), .val (.ref a2), .unset] [(.int (k2 - k1))])) _
    refine XS.istoreN X2.here hx rfl (hb hby d_prog_46_method_4_code_9) rfl (l' := #[.val (.ref a1), .val (.ref a2), .val (.int (k2 - k1))]) rfl ?_
    show Steps p.tables e below (T2.setTop (mkF m 10 #[.val (.ref a1), .val (.ref a2), .val (.int (k2 - k1))] [])) _
    refine XS.iloadN X2.here hx rfl (hb hby d_prog_46_method_4_code_10) rfl ?_
    show Steps p.tables e below (T2.setTop (mkF m 11 #[.val (.ref a1), .val (.ref a2), .val (.int (k2 - k1))] [(.int (k2 - k1))])) _
    refine XS.ifNo X2.here hx rfl (hb hby d_prog_46_method_4_code_11) rfl ((if0 _ _).trans (flt (h1 : ¬ ((k2 - k1) < (0 : Int32)))).1) ?_
    show Steps p.tables e below (T2.setTop (mkF m 14 #[.val (.ref a1), .val (.ref a2), .val (.int (k2 - k1))] [])) _
    refine XS.iloadN X2.here hx rfl (hb hby d_prog_46_method_4_code_14) rfl ?_
    show Steps p.tables e below (T2.setTop (mkF m 15 #[.val (.ref a1), .val (.ref a2), .val (.int (k2 - k1))] [(.int (k2 - k1))])) _
    refine XS.aloadN X2.here hx rfl (hb hby d_prog_46_method_4_code_15) rfl rfl ?_
    show Steps p.tables e below (T2.setTop (mkF m 16 #[.val (.ref a1), .val (.ref a2), .val (.int (k2 - k1))] [(.ref a1), (.int (k2 - k1))])) _
    refine st3 _ ?_
    show Steps p.tables e below (T3.setTop (mkF m 19 #[.val (.ref a1), .val (.ref a2), .val (.int (k2 - k1))] [(.ref t1), (.int (k2 - k1))])) _
    refine X3.arraylength hx (by rw [e3]; exact Ar4.1) (State.isArrayOf_alike hZ.alike Ar4.2.1) (g := (mkF m 19 #[.val (.ref a1), .val (.ref a2), .val (.int (k2 - k1))] [(.ref t1), (.int (k2 - k1))])) rfl rfl (hb hby d_prog_46_method_4_code_19) _ ?_
    rw [len_of Sz4 Nz4]
    show Steps p.tables e below (T3.setTop (mkF m 20 #[.val (.ref a1), .val (.ref a2), .val (.int (k2 - k1))] [(.int k3), (.int (k2 - k1))])) _
    refine XS.icmpNo X3.here hx rfl (hb hby d_prog_46_method_4_code_20) rfl (tlt (h2 : (k2 - k1) < k3)).2.1 ?_
    show Steps p.tables e below (T3.setTop (mkF m 23 #[.val (.ref a1), .val (.ref a2), .val (.int (k2 - k1))] [])) _
    refine XS.iconst X3.here hx rfl (hb hby d_prog_46_method_4_code_23) ?_
    show Steps p.tables e below (T3.setTop (mkF m 24 #[.val (.ref a1), .val (.ref a2), .val (.int (k2 - k1))] [(.int (1 : Int32))])) _
    refine XS.goto X3.here hx rfl (pc0 := 24) (pc' := 28) rfl (hb hby d_prog_46_method_4_code_24) (by decide) (by decide) ?_
    show Steps p.tables e below (T3.setTop (mkF m 28 #[.val (.ref a1), .val (.ref a2), .val (.int (k2 - k1))] [(.int (1 : Int32))])) _
    exact retOut X3 hx (t := .boolean) (i := .ireturn) Bd.returns rfl (Or.inl ⟨rfl, Or.inr (Or.inl rfl), _, rfl⟩) (hb hby d_prog_46_method_4_code_28) hr
  · show Q_cn0 Z a1 a2 k1 k2 k3 t1 kk vs r h0 n0 _ T3.heap _
    rw [e3]
    exact ⟨(by rw [hrr]), N1, rfl⟩
set_option maxRecDepth 65536 in
theorem rm_counts (l : Launch) (Z : State) (a0 : Array Value) (hw : ∀ d ∈ tables_1, d.before a0 Z = true) (ws : List Jvm.Cond) (a1 : Addr) (a2 : Addr) (k1 : Int32) (k2 : Int32) (k3 : Int32) (t1 : Addr) (kk : ClassId) (vs : List Value) (r : Int32) (h0 : Heap) (n0 : Nat) (Z0 : n0 ≤ h0.size) (pE0 : Exa Z h0 a1 "com/example/podflow/podflow/simulate/RunLog") (pE1 : Exa Z h0 a2 "com/example/podflow/podflow/simulate/Request") (pF2 : Fld Z h0 a2 "com/example/podflow/podflow/simulate/Request" "number" "I" (.int k2)) (pF3 : Fld Z h0 a1 "com/example/podflow/podflow/simulate/RunLog" "warmup" "I" (.int k1)) (pF4 : Fld Z h0 a1 "com/example/podflow/podflow/simulate/RunLog" "waits" "[D" (.ref t1)) (pA5 : Arv Z h0 t1 kk .double k3 vs (.double (0 : UInt64))) (hj : ((k2 - k1) < (0 : Int32) ∧ r = 0) ∨ (¬ ((k2 - k1) < (0 : Int32)) ∧ ¬ ((k2 - k1) < k3) ∧ r = 0) ∨ (¬ ((k2 - k1) < (0 : Int32)) ∧ (k2 - k1) < k3 ∧ r = 1)) :
    MetFree l (⟨"com/example/podflow/podflow/simulate/RunLog", "counts", "(Lcom/example/podflow/podflow/simulate/Request;)Z"⟩ : MethodName) (head1 (Jvm.Cond.code (⟨"com/example/podflow/podflow/simulate/RunLog", "counts", "(Lcom/example/podflow/podflow/simulate/Request;)Z"⟩ : MethodName) prog_46_method_4_code 3 (some .boolean) :: ws) ({ frames := 1, cells := 0, slots := 0, locals := 12 } : Room)) (fun a U => a = #[(.ref a1), (.ref a2)] ∧ Z.Warmed39 U.vm ∧ U.heap = h0) (fun _ _ _ _ _ => True) (fun _ U o U' => ∃ v L, o = .returned v ∧ Q_cn0 Z a1 a2 k1 k2 k3 t1 kk vs r h0 n0 v U'.heap L ∧ FrameEnd U o U' L ({ frames := 1, cells := 0, slots := 0, locals := 12 } : Room).cells ({ frames := 1, cells := 0, slots := 0, locals := 12 } : Room).slots) := by
  rcases hj with ⟨h1, hrr⟩ | ⟨h1, h2, hrr⟩ | ⟨h1, h2, hrr⟩
  · exact rm_cn0 l Z a0 hw ws a1 a2 k1 k2 k3 t1 kk vs r h0 n0 Z0 pE0 pE1 pF2 pF3 pF4 pA5 h1 hrr
  · exact rm_cn1 l Z a0 hw ws a1 a2 k1 k2 k3 t1 kk vs r h0 n0 Z0 pE0 pE1 pF2 pF3 pF4 pA5 h1 h2 hrr
  · exact rm_cn2 l Z a0 hw ws a1 a2 k1 k2 k3 t1 kk vs r h0 n0 Z0 pE0 pE1 pF2 pF3 pF4 pA5 h1 h2 hrr
theorem own_hj0 {k1 k2 k3 : Int32} (h : ((k2 - k1) < (0 : Int32)) ∨ ¬ ((k2 - k1) < k3)) : (((k2 - k1) < (0 : Int32)) ∧ (0 : Int32) = 0) ∨ (¬ ((k2 - k1) < (0 : Int32)) ∧ ¬ ((k2 - k1) < k3) ∧ (0 : Int32) = 0) ∨ (¬ ((k2 - k1) < (0 : Int32)) ∧ (k2 - k1) < k3 ∧ (0 : Int32) = 1) := by
  by_cases q : (k2 - k1) < (0 : Int32)
  · exact Or.inl ⟨q, rfl⟩
  · exact Or.inr (Or.inl ⟨q, h.resolve_left q, rfl⟩)
theorem own_il {j k3 : Int32} {vs : List Value} (h1 : ¬ (j < (0 : Int32))) (h2 : j < k3) (h3 : (k3).toNatClampNeg ≤ 2) (hv : vs.length = 2) : (j).toNatClampNeg < vs.length := by
  have e1 := nat_of h1
  have h4 : ¬ (k3 < (0 : Int32)) := fun q => h1 (Int32.lt_trans h2 q)
  have e2 := nat_of h4
  have q := Int32.lt_iff_toInt_lt.mp h2
  omega
theorem own_dn0 : NoNaN64 (FP.dsub FP.dconst0 FP.dconst0) := by unfold NoNaN64; decide +kernel
theorem own_dn1 : NoNaN64 (FP.dsub FP.dconst1 FP.dconst0) := by unfold NoNaN64; decide +kernel
theorem own_cm : cmpValue (FP.dcmp FP.dconst0 FP.dconst1) .l = -1 := by decide +kernel
theorem own_dd (q : Int64) : NoNaN64 (FP.ddiv (FP.l2d q) (4741671816366391296 : UInt64)) := ddiv_out (l2d_fin q).noNaN (by unfold Fin64; decide) (by unfold Nz64; decide)
theorem d_prog_46_method_2_code_0 : decode prog_46_method_2_code 0 = .ok (.dload_n 2, 1) := by decide +kernel
theorem d_prog_46_method_2_code_1 : decode prog_46_method_2_code 1 = .ok (.aload_n 0, 1) := by decide +kernel
theorem d_prog_46_method_2_code_2 : decode prog_46_method_2_code 2 = .ok (.getfield 17, 3) := by decide +kernel
theorem d_prog_46_method_2_code_5 : decode prog_46_method_2_code 5 = .ok (.dcmp .l, 1) := by decide +kernel
theorem d_prog_46_method_2_code_6 : decode prog_46_method_2_code 6 = .ok (.ifCond .le 13, 3) := by decide +kernel
theorem d_prog_46_method_2_code_19 : decode prog_46_method_2_code 19 = .ok (.aload_n 0, 1) := by decide +kernel
theorem d_prog_46_method_2_code_20 : decode prog_46_method_2_code 20 = .ok (.aload_n 1, 1) := by decide +kernel
theorem d_prog_46_method_2_code_21 : decode prog_46_method_2_code 21 = .ok (.invokevirtual 27, 3) := by decide +kernel
theorem pd_28Lcom2fexample2fpodflow2fpodflow2fsimulate2fRequest3b29Z : parseMethodDescriptor "(Lcom/example/podflow/podflow/simulate/Request;)Z" = some ⟨[(.object "com/example/podflow/podflow/simulate/Request")], some .boolean⟩ := by decide +kernel
theorem d_prog_46_method_2_code_24 : decode prog_46_method_2_code 24 = .ok (.ifCond .eq 33, 3) := by decide +kernel
theorem d_prog_46_method_2_code_27 : decode prog_46_method_2_code 27 = .ok (.aload_n 0, 1) := by decide +kernel
theorem d_prog_46_method_2_code_28 : decode prog_46_method_2_code 28 = .ok (.getfield 20, 3) := by decide +kernel
theorem d_prog_46_method_2_code_31 : decode prog_46_method_2_code 31 = .ok (.aload_n 1, 1) := by decide +kernel
theorem d_prog_46_method_2_code_32 : decode prog_46_method_2_code 32 = .ok (.invokevirtual 31, 3) := by decide +kernel
theorem d_prog_46_method_2_code_35 : decode prog_46_method_2_code 35 = .ok (.aload_n 0, 1) := by decide +kernel
theorem d_prog_46_method_2_code_36 : decode prog_46_method_2_code 36 = .ok (.getfield 7, 3) := by decide +kernel
theorem d_prog_46_method_2_code_39 : decode prog_46_method_2_code 39 = .ok (.isub, 1) := by decide +kernel
theorem d_prog_46_method_2_code_40 : decode prog_46_method_2_code 40 = .ok (.dload_n 2, 1) := by decide +kernel
theorem d_prog_46_method_2_code_41 : decode prog_46_method_2_code 41 = .ok (.aload_n 1, 1) := by decide +kernel
theorem d_prog_46_method_2_code_42 : decode prog_46_method_2_code 42 = .ok (.invokevirtual 37, 3) := by decide +kernel
theorem pd_2829D : parseMethodDescriptor "()D" = some ⟨[], some .double⟩ := by decide +kernel
theorem d_prog_46_method_2_code_45 : decode prog_46_method_2_code 45 = .ok (.dsub, 1) := by decide +kernel
theorem d_prog_46_method_2_code_46 : decode prog_46_method_2_code 46 = .ok (.dastore, 1) := by decide +kernel
theorem d_prog_46_method_2_code_47 : decode prog_46_method_2_code 47 = .ok (.aload_n 0, 1) := by decide +kernel
theorem d_prog_46_method_2_code_48 : decode prog_46_method_2_code 48 = .ok (.dup, 1) := by decide +kernel
theorem d_prog_46_method_2_code_49 : decode prog_46_method_2_code 49 = .ok (.getfield 41, 3) := by decide +kernel
theorem d_prog_46_method_2_code_52 : decode prog_46_method_2_code 52 = .ok (.iconst 1, 1) := by decide +kernel
theorem d_prog_46_method_2_code_53 : decode prog_46_method_2_code 53 = .ok (.iadd, 1) := by decide +kernel
theorem d_prog_46_method_2_code_54 : decode prog_46_method_2_code 54 = .ok (.putfield 41, 3) := by decide +kernel
theorem d_prog_46_method_2_code_57 : decode prog_46_method_2_code 57 = .ok (.return_, 1) := by decide +kernel
theorem ef_pk1 (m : MethodId) (x0 : Addr) (x1 : Addr) (x2 : UInt64) : entryFrame m #[(.ref x0), (.ref x1), (.double x2)] 4 = mkF m 0 #[.val (.ref x0), .val (.ref x1), .val (.double x2), .second] [] := by first | (simp [entryFrame, mkF, argsToLocals, Value.category]; done) | rfl
def Q_pk1 (Z : State) (a1 : Addr) (a2 : Addr) (k1 : Int32) (k2 : Int32) (k3 : Int32) (t1 : Addr) (kk : ClassId) (vs : List Value) (k4 : Int32) (j0 : Int64) (r : Int32) (h0 : Heap) (n0 : Nat) (v : Option Value) (h : Heap) (L : List Loc) : Prop := ∃ vs2 : List Value, v = none ∧ Fr n0 L ∧ Keep h0 h [a1, t1] ∧ (Exa Z h a1 "com/example/podflow/podflow/simulate/RunLog") ∧ (Fld Z h a1 "com/example/podflow/podflow/simulate/RunLog" "warmup" "I" (.int k1)) ∧ (Fld Z h a1 "com/example/podflow/podflow/simulate/RunLog" "windowStart" "D" (.double FP.dconst0)) ∧ (Fld Z h a1 "com/example/podflow/podflow/simulate/RunLog" "windowEnd" "D" (.double FP.dconst1)) ∧ (Fld Z h a1 "com/example/podflow/podflow/simulate/RunLog" "waits" "[D" (.ref t1)) ∧ (Fld Z h a1 "com/example/podflow/podflow/simulate/RunLog" "pickedUp" "I" (.int (k4 + r))) ∧ (Fld Z h a1 "com/example/podflow/podflow/simulate/RunLog" "movingSeconds" "D" (.double (0 : UInt64))) ∧ (Fld Z h a1 "com/example/podflow/podflow/simulate/RunLog" "emptySeconds" "D" (.double (0 : UInt64))) ∧ (Fld Z h a1 "com/example/podflow/podflow/simulate/RunLog" "backlog" "I" (.int (0 : Int32))) ∧ (Fld Z h a1 "com/example/podflow/podflow/simulate/RunLog" "decisionNanos" "J" (.long j0)) ∧ (Arv Z h t1 kk .double k3 vs2 (.double (0 : UInt64))) ∧ (vs2.length = 2)
set_option maxRecDepth 65536 in
set_option maxHeartbeats 40000000 in
theorem rm_pk1 (l : Launch) (Z : State) (a0 : Array Value) (hw : ∀ d ∈ tables_1, d.before a0 Z = true) (ws : List Jvm.Cond) (a1 : Addr) (a2 : Addr) (k1 : Int32) (k2 : Int32) (k3 : Int32) (t1 : Addr) (kk : ClassId) (vs : List Value) (k4 : Int32) (j0 : Int64) (r : Int32) (h0 : Heap) (n0 : Nat) (Z0 : n0 ≤ h0.size) (pE0 : Exa Z h0 a1 "com/example/podflow/podflow/simulate/RunLog") (pE1 : Exa Z h0 a2 "com/example/podflow/podflow/simulate/Request") (pF2 : Fld Z h0 a2 "com/example/podflow/podflow/simulate/Request" "number" "I" (.int k2)) (pF3 : Fld Z h0 a2 "com/example/podflow/podflow/simulate/Request" "time" "D" (.double FP.dconst0)) (pF4 : Fld Z h0 a1 "com/example/podflow/podflow/simulate/RunLog" "warmup" "I" (.int k1)) (pF5 : Fld Z h0 a1 "com/example/podflow/podflow/simulate/RunLog" "windowStart" "D" (.double FP.dconst0)) (pF6 : Fld Z h0 a1 "com/example/podflow/podflow/simulate/RunLog" "windowEnd" "D" (.double FP.dconst1)) (pF7 : Fld Z h0 a1 "com/example/podflow/podflow/simulate/RunLog" "waits" "[D" (.ref t1)) (pF8 : Fld Z h0 a1 "com/example/podflow/podflow/simulate/RunLog" "pickedUp" "I" (.int k4)) (pF9 : Fld Z h0 a1 "com/example/podflow/podflow/simulate/RunLog" "movingSeconds" "D" (.double (0 : UInt64))) (pF10 : Fld Z h0 a1 "com/example/podflow/podflow/simulate/RunLog" "emptySeconds" "D" (.double (0 : UInt64))) (pF11 : Fld Z h0 a1 "com/example/podflow/podflow/simulate/RunLog" "backlog" "I" (.int (0 : Int32))) (pF12 : Fld Z h0 a1 "com/example/podflow/podflow/simulate/RunLog" "decisionNanos" "J" (.long j0)) (pA13 : Arv Z h0 t1 kk .double k3 vs (.double (0 : UInt64))) (pg14 : n0 ≤ a1) (pg15 : n0 ≤ t1) (pn16 : a1 ≠ t1) (pn17 : a2 ≠ t1) (hv : vs.length = 2) (h3 : (k3).toNatClampNeg ≤ 2) (hc : ¬ ((k2 - k1) < (0 : Int32))) (hl : (k2 - k1) < k3) (hrr : r = 1) :
    MetFree l (⟨"com/example/podflow/podflow/simulate/RunLog", "pickUp", "(Lcom/example/podflow/podflow/simulate/Request;D)V"⟩ : MethodName) (head1 (Jvm.Cond.code (⟨"com/example/podflow/podflow/simulate/RunLog", "pickUp", "(Lcom/example/podflow/podflow/simulate/Request;D)V"⟩ : MethodName) prog_46_method_2_code 4 none :: ws) ({ frames := 2, cells := 0, slots := 0, locals := 30 } : Room)) (fun a U => a = #[(.ref a1), (.ref a2), (.double FP.dconst0)] ∧ Z.Warmed39 U.vm ∧ U.heap = h0) (fun _ _ _ _ _ => True) (fun _ U o U' => ∃ v L, o = .returned v ∧ Q_pk1 Z a1 a2 k1 k2 k3 t1 kk vs k4 j0 r h0 n0 v U'.heap L ∧ FrameEnd U o U' L ({ frames := 2, cells := 0, slots := 0, locals := 30 } : Room).cells ({ frames := 2, cells := 0, slots := 0, locals := 30 } : Room).slots) := by
  refine MetFree.of_bodySF (plainFor_of_name pn_com_example_podflow_podflow_simulate_RunLog) hisR ?_
  intro p e s m args below meth c s₁ Bd hml0 hP hK
  obtain ⟨rfl, hZ, hh⟩ := hP
  have hx := Bd.exec
  have hby := Bd.bytes
  have hml : c.maxLocals = 4 := hml0
  have hown : s.vm.findClass "com/example/podflow/podflow/simulate/RunLog" = some m.cls := findClass_of_methodNamed Bd.named
  have hnm := (name_of_methodNamed Bd.named Bd.method).1
  have X0 : Stand p l e ({ frames := 2, cells := 0, slots := 0, locals := 30 } : Room) s m #[(.ref a1), (.ref a2), (.double FP.dconst0)] below meth c s₁ [] 0 0 := Stand.of_body Bd
  have e0 : s₁.heap = h0 := by rw [← hh, Bd.state]; rfl
  have N0 := Fr.nil n0
  have P0 : Keep h0 h0 [a1, t1] := Keep.refl _ _
  have pre0 : ∀ t, Steps p.tables e below (s₁.setTop (mkF m 0 #[.val (.ref a1), .val (.ref a2), .val (.double FP.dconst0), .second] [])) t → Steps p.tables e below (s₁.setTop (entryFrame m #[(.ref a1), (.ref a2), (.double FP.dconst0)] 4)) t := fun t k => castTop (ef_pk1 m a1 a2 FP.dconst0) k
  obtain ⟨T1, X1, e1, st1⟩ := getF X0 hx hZ hown (host := "") (Or.inl (hw _ (List.mem_of_getElem? (i := 14) rfl))) Via.refl e0 pF6 (g := (mkF m 2 #[.val (.ref a1), .val (.ref a2), .val (.double FP.dconst0), .second] [(.ref a1), (.double FP.dconst0)])) rfl rfl (hb hby d_prog_46_method_2_code_2)
  obtain ⟨cq2, q2, q2'⟩ := pE0.cell
  obtain ⟨_, _, ⟨T2, L2, k2, n2⟩, -, X2, ⟨Lc2, hQ2, l2, y2, z2⟩, st2⟩ := X1.privateBack hx (y := (⟨"com/example/podflow/podflow/simulate/RunLog", "counts", "(Lcom/example/podflow/podflow/simulate/Request;)Z"⟩ : MethodName)) hown (mvT hZ (hw _ (List.mem_of_getElem? (i := 44) rfl))) (mvT hZ (hw _ (List.mem_of_getElem? (i := 45) rfl))) (own_selects (mvT hZ (hw _ (List.mem_of_getElem? (i := 2) rfl))) (Cond.privateMethod_at (mvP hZ (hw _ (List.mem_of_getElem? (i := 46) rfl)) (args := #[]))) (mvT hZ (hw _ (List.mem_of_getElem? (i := 45) rfl))) (by decide)) (Cond.privateMethod_at (mvP hZ (hw _ (List.mem_of_getElem? (i := 46) rfl)) (args := #[]))) (mvT hZ (hw _ (List.mem_of_getElem? (i := 47) rfl))) (by decide) (backOf (W := 0) (rm_counts l Z a0 hw [] a1 a2 k1 k2 k3 t1 kk vs (1 : Int32) h0 n0 (Nat.le_trans Z0 P0.1) pE0 pE1 pF2 pF4 pF7 pA13 (Or.inr (Or.inr ⟨hc, hl, rfl⟩))) hZ (hw _ (List.mem_of_getElem? (i := 47) rfl)) (hw _ (List.mem_of_getElem? (i := 3) rfl)) (by decide) (by decide)) (g := (mkF m 21 #[.val (.ref a1), .val (.ref a2), .val (.double FP.dconst0), .second] [(.ref a2), (.ref a1)])) rfl (by rw [hml]; rfl) (Steps.refl _) (a := a1) (by rw [e1]; exact q2) q2' (argsL := [(.ref a2)]) (rest := []) (lenOf pd_28Lcom2fexample2fpodflow2fpodflow2fsimulate2fRequest3b29Z rfl) rfl (by show 2 * 0 + _ ≤ _; exact Nat.le_of_eq rfl) (hb hby d_prog_46_method_2_code_21) (fun _ _ => ⟨rfl, e1, (by decide : 0 + 0 ≤ _), (by decide : 0 + 0 ≤ _)⟩)
  dsimp only [Pt.U, Pt.locs, Pt.cells, Pt.slots] at X2 l2 y2 z2 st2 hQ2
  subst l2 y2 z2
  obtain ⟨rfl, N2q, e2⟩ := hQ2
  have N2 := Fr.app N0 N2q
  obtain ⟨T3, X3, e3, st3⟩ := getF X2 hx hZ hown (host := "") (Or.inl (hw _ (List.mem_of_getElem? (i := 17) rfl))) Via.refl e2 pF7 (g := (mkF m 28 #[.val (.ref a1), .val (.ref a2), .val (.double FP.dconst0), .second] [(.ref a1)])) rfl rfl (hb hby d_prog_46_method_2_code_28)
  obtain ⟨cq4, kq4, q4a, q4b, q4c⟩ := isOf hZ e3 pE1
  obtain ⟨_, _, ⟨T4, L4, k4, n4⟩, -, X4, ⟨Lc4, hQ4, l4, y4, z4⟩, st4⟩ := X3.virtualBack hx (y := (⟨"com/example/podflow/podflow/simulate/Request", "number", "()I"⟩ : MethodName)) (z := (⟨"com/example/podflow/podflow/simulate/Request", "number", "()I"⟩ : MethodName)) hown (mvT hZ (hw _ (List.mem_of_getElem? (i := 48) rfl))) (mvT hZ (hw _ (List.mem_of_getElem? (i := 49) rfl))) (notFace_of_selects (args := #[]) (mvT hZ (hw _ (List.mem_of_getElem? (i := 51) rfl)))) (mvT hZ (hw _ (List.mem_of_getElem? (i := 51) rfl))) (mvT hZ (hw _ (List.mem_of_getElem? (i := 50) rfl))) (by decide) (backOf (W := 1) (rm_gnum l Z a0 hw [] a2 k2 h0 n0 (Nat.le_trans Z0 P0.1) pF2) hZ (hw _ (List.mem_of_getElem? (i := 52) rfl)) (hw _ (List.mem_of_getElem? (i := 21) rfl)) (by decide) (by decide)) q4a q4c (g := (mkF m 32 #[.val (.ref a1), .val (.ref a2), .val (.double FP.dconst0), .second] [(.ref a2), (.ref t1)])) rfl (by rw [hml]; rfl) (Steps.refl _) (argsL := []) (rest := [(.ref t1)]) (lenOf pd_2829I rfl) rfl (by show 2 * 0 + _ ≤ _; exact Nat.le_of_eq rfl) (hb hby d_prog_46_method_2_code_32) (fun _ _ => ⟨rfl, e3, (by decide : 0 + 0 ≤ _), (by decide : 0 + 0 ≤ _)⟩)
  dsimp only [Pt.U, Pt.locs, Pt.cells, Pt.slots] at X4 l4 y4 z4 st4 hQ4
  subst l4 y4 z4
  obtain ⟨rfl, N4q, e4⟩ := hQ4
  have N4 := Fr.app N2 N4q
  obtain ⟨T5, X5, e5, st5⟩ := getF X4 hx hZ hown (host := "") (Or.inl (hw _ (List.mem_of_getElem? (i := 10) rfl))) Via.refl e4 pF4 (g := (mkF m 36 #[.val (.ref a1), .val (.ref a2), .val (.double FP.dconst0), .second] [(.ref a1), (.int k2), (.ref t1)])) rfl rfl (hb hby d_prog_46_method_2_code_36)
  obtain ⟨cq6, kq6, q6a, q6b, q6c⟩ := isOf hZ e5 pE1
  obtain ⟨_, _, ⟨T6, L6, k6, n6⟩, -, X6, ⟨Lc6, hQ6, l6, y6, z6⟩, st6⟩ := X5.virtualBack hx (y := (⟨"com/example/podflow/podflow/simulate/Request", "time", "()D"⟩ : MethodName)) (z := (⟨"com/example/podflow/podflow/simulate/Request", "time", "()D"⟩ : MethodName)) hown (mvT hZ (hw _ (List.mem_of_getElem? (i := 103) rfl))) (mvT hZ (hw _ (List.mem_of_getElem? (i := 104) rfl))) (notFace_of_selects (args := #[]) (mvT hZ (hw _ (List.mem_of_getElem? (i := 106) rfl)))) (mvT hZ (hw _ (List.mem_of_getElem? (i := 106) rfl))) (mvT hZ (hw _ (List.mem_of_getElem? (i := 105) rfl))) (by decide) (backOf (W := 4) (rm_gtim l Z a0 hw [] a2 h0 n0 (Nat.le_trans Z0 P0.1) pF3) hZ (hw _ (List.mem_of_getElem? (i := 107) rfl)) (hw _ (List.mem_of_getElem? (i := 21) rfl)) (by decide) (by decide)) q6a q6c (g := (mkF m 42 #[.val (.ref a1), .val (.ref a2), .val (.double FP.dconst0), .second] [(.ref a2), (.double FP.dconst0), (.int (k2 - k1)), (.ref t1)])) rfl (by rw [hml]; rfl) (Steps.refl _) (argsL := []) (rest := [(.double FP.dconst0), (.int (k2 - k1)), (.ref t1)]) (lenOf pd_2829D rfl) rfl (by show 2 * 0 + _ ≤ _; exact Nat.le_of_eq rfl) (hb hby d_prog_46_method_2_code_42) (fun _ _ => ⟨rfl, e5, (by decide : 0 + 0 ≤ _), (by decide : 0 + 0 ≤ _)⟩)
  dsimp only [Pt.U, Pt.locs, Pt.cells, Pt.slots] at X6 l6 y6 z6 st6 hQ6
  subst l6 y6 z6
  obtain ⟨rfl, N6q, e6⟩ := hQ6
  have N6 := Fr.app N4 N6q
  obtain ⟨cl7, Ar7, qk7, Sz7, Nz7, Ha7, Ga7⟩ := id pA13
  have hin7 : ¬ ((k2 - k1) < 0 ∨ cl7.slots.size ≤ ((k2 - k1)).toNatClampNeg) := inb_of Sz7 ⟨hc, hl⟩
  obtain ⟨T7, h7, X7, e7, W7, st7⟩ := stD X6 hx hZ e6 Ar7 (j := (k2 - k1)) hin7 (g := (mkF m 46 #[.val (.ref a1), .val (.ref a2), .val (.double FP.dconst0), .second] [(.double (FP.dsub FP.dconst0 FP.dconst0)), (.int (k2 - k1)), (.ref t1)])) rfl rfl (hb hby d_prog_46_method_2_code_46)
  have P8 : Keep h0 h7 [a1, t1] := P0.wr W7 (Or.inl (List.mem_of_getElem? (i := 1) rfl))
  have V9 : Arv Z h7 t1 kk .double k3 (List.set vs ((k2 - k1)).toNatClampNeg (.double (FP.dsub FP.dconst0 FP.dconst0))) (.double (0 : UInt64)) := Arv.set Ar7 qk7 Sz7 Nz7 Ha7 Ga7 rfl W7 ((k2 - k1)).toNatClampNeg rfl (own_il hc hl h3 hv)
  have N7 := Fr.snoc X7 N6 pg15
  have F10 : Fld Z h7 a1 "com/example/podflow/podflow/simulate/RunLog" "pickedUp" "I" (.int k4) := (Fld.other W7 pF8 (Or.inl pn16))
  obtain ⟨T11, X11, e11, st11⟩ := getF X7 hx hZ hown (host := "") (Or.inl (hw _ (List.mem_of_getElem? (i := 63) rfl))) Via.refl e7 F10 (g := (mkF m 49 #[.val (.ref a1), .val (.ref a2), .val (.double FP.dconst0), .second] [(.ref a1), (.ref a1)])) rfl rfl (hb hby d_prog_46_method_2_code_49)
  have E12 : Exa Z h7 a1 "com/example/podflow/podflow/simulate/RunLog" := (Exa.wr W7 pE0)
  obtain ⟨T13, h13, X13, e13, W13, st13⟩ := putF X11 hx hZ hown (host := "") (Or.inl (hw _ (List.mem_of_getElem? (i := 63) rfl))) Via.refl e11 F10 E12 (Or.inl (hw _ (List.mem_of_getElem? (i := 64) rfl))) (hw _ (List.mem_of_getElem? (i := 2) rfl)) (ty := .int) (by decide) rfl rfl (g := (mkF m 54 #[.val (.ref a1), .val (.ref a2), .val (.double FP.dconst0), .second] [(.int (k4 + (1 : Int32))), (.ref a1)])) rfl rfl (hb hby d_prog_46_method_2_code_54)
  have P14 : Keep h0 h13 [a1, t1] := P8.wr W13 (Or.inl (List.mem_of_getElem? (i := 0) rfl))
  have F15 : Fld Z h13 a1 "com/example/podflow/podflow/simulate/RunLog" "pickedUp" "I" (.int (k4 + (1 : Int32))) := Fld.same W13 F10
  have N13 := Fr.snoc X13 N7 pg14
  have E16 : Exa Z h13 a1 "com/example/podflow/podflow/simulate/RunLog" := (Exa.wr W13 E12)
  have F17 : Fld Z h13 a1 "com/example/podflow/podflow/simulate/RunLog" "warmup" "I" (.int k1) := (Fld.other W13 (Fld.other W7 pF4 (Or.inl pn16)) (Or.inr (slot_ne (t := .int) (t' := .int) (C := "com/example/podflow/podflow/simulate/RunLog") (a0 := a0) (Or.inr (hw _ (List.mem_of_getElem? (i := 11) rfl))) (Or.inl (hw _ (List.mem_of_getElem? (i := 64) rfl))) (by decide) (by decide) (by decide))))
  have F18 : Fld Z h13 a1 "com/example/podflow/podflow/simulate/RunLog" "windowStart" "D" (.double FP.dconst0) := (Fld.other W13 (Fld.other W7 pF5 (Or.inl pn16)) (Or.inr (slot_ne (t := .double) (t' := .int) (C := "com/example/podflow/podflow/simulate/RunLog") (a0 := a0) (Or.inr (hw _ (List.mem_of_getElem? (i := 13) rfl))) (Or.inl (hw _ (List.mem_of_getElem? (i := 64) rfl))) (by decide) (by decide) (by decide))))
  have F19 : Fld Z h13 a1 "com/example/podflow/podflow/simulate/RunLog" "windowEnd" "D" (.double FP.dconst1) := (Fld.other W13 (Fld.other W7 pF6 (Or.inl pn16)) (Or.inr (slot_ne (t := .double) (t' := .int) (C := "com/example/podflow/podflow/simulate/RunLog") (a0 := a0) (Or.inr (hw _ (List.mem_of_getElem? (i := 15) rfl))) (Or.inl (hw _ (List.mem_of_getElem? (i := 64) rfl))) (by decide) (by decide) (by decide))))
  have F20 : Fld Z h13 a1 "com/example/podflow/podflow/simulate/RunLog" "waits" "[D" (.ref t1) := (Fld.other W13 (Fld.other W7 pF7 (Or.inl pn16)) (Or.inr (slot_ne (t := (.array .double)) (t' := .int) (C := "com/example/podflow/podflow/simulate/RunLog") (a0 := a0) (Or.inr (hw _ (List.mem_of_getElem? (i := 18) rfl))) (Or.inl (hw _ (List.mem_of_getElem? (i := 64) rfl))) (by decide) (by decide) (by decide))))
  have F21 : Fld Z h13 a1 "com/example/podflow/podflow/simulate/RunLog" "movingSeconds" "D" (.double (0 : UInt64)) := (Fld.other W13 (Fld.other W7 pF9 (Or.inl pn16)) (Or.inr (slot_ne (t := .double) (t' := .int) (C := "com/example/podflow/podflow/simulate/RunLog") (a0 := a0) (Or.inl (hw _ (List.mem_of_getElem? (i := 69) rfl))) (Or.inl (hw _ (List.mem_of_getElem? (i := 64) rfl))) (by decide) (by decide) (by decide))))
  have F22 : Fld Z h13 a1 "com/example/podflow/podflow/simulate/RunLog" "emptySeconds" "D" (.double (0 : UInt64)) := (Fld.other W13 (Fld.other W7 pF10 (Or.inl pn16)) (Or.inr (slot_ne (t := .double) (t' := .int) (C := "com/example/podflow/podflow/simulate/RunLog") (a0 := a0) (Or.inl (hw _ (List.mem_of_getElem? (i := 71) rfl))) (Or.inl (hw _ (List.mem_of_getElem? (i := 64) rfl))) (by decide) (by decide) (by decide))))
  have F23 : Fld Z h13 a1 "com/example/podflow/podflow/simulate/RunLog" "backlog" "I" (.int (0 : Int32)) := (Fld.other W13 (Fld.other W7 pF11 (Or.inl pn16)) (Or.inr (slot_ne (t := .int) (t' := .int) (C := "com/example/podflow/podflow/simulate/RunLog") (a0 := a0) (Or.inl (hw _ (List.mem_of_getElem? (i := 73) rfl))) (Or.inl (hw _ (List.mem_of_getElem? (i := 64) rfl))) (by decide) (by decide) (by decide))))
  have F24 : Fld Z h13 a1 "com/example/podflow/podflow/simulate/RunLog" "decisionNanos" "J" (.long j0) := (Fld.other W13 (Fld.other W7 pF12 (Or.inl pn16)) (Or.inr (slot_ne (t := .long) (t' := .int) (C := "com/example/podflow/podflow/simulate/RunLog") (a0 := a0) (Or.inl (hw _ (List.mem_of_getElem? (i := 75) rfl))) (Or.inl (hw _ (List.mem_of_getElem? (i := 64) rfl))) (by decide) (by decide) (by decide))))
  have A25 : Arv Z h13 t1 kk .double k3 (List.set vs ((k2 - k1)).toNatClampNeg (.double (FP.dsub FP.dconst0 FP.dconst0))) (.double (0 : UInt64)) := (V9.other W13 pn16.symm)
  obtain ⟨fs, hr, hrun, hended, hW, hsame⟩ := X13.leave (v := none) (fun _ => rfl)
  refine ⟨_, _, pre0 _ ?_, hrun, hended, _, _, rfl, ?_, ⟨_, rfl⟩, hW, hsame.mono (by decide) (by decide)⟩
  · show Steps p.tables e below (s₁.setTop (mkF m 0 #[.val (.ref a1), .val (.ref a2), .val (.double FP.dconst0), .second] [])) _
    refine XS.dloadN X0.here hx rfl (hb hby d_prog_46_method_2_code_0) rfl ?_
    show Steps p.tables e below (s₁.setTop (mkF m 1 #[.val (.ref a1), .val (.ref a2), .val (.double FP.dconst0), .second] [(.double FP.dconst0)])) _
    refine XS.aloadN X0.here hx rfl (hb hby d_prog_46_method_2_code_1) rfl rfl ?_
    show Steps p.tables e below (s₁.setTop (mkF m 2 #[.val (.ref a1), .val (.ref a2), .val (.double FP.dconst0), .second] [(.ref a1), (.double FP.dconst0)])) _
    refine st1 _ ?_
    show Steps p.tables e below (T1.setTop (mkF m 5 #[.val (.ref a1), .val (.ref a2), .val (.double FP.dconst0), .second] [(.double FP.dconst1), (.double FP.dconst0)])) _
    refine XS.dcmpS X1.here hx rfl (hb hby d_prog_46_method_2_code_5) rfl own_cm ?_
    show Steps p.tables e below (T1.setTop (mkF m 6 #[.val (.ref a1), .val (.ref a2), .val (.double FP.dconst0), .second] [(.int (-1 : Int32))])) _
    refine XS.ifYes X1.here hx rfl (pc0 := 6) (pc' := 19) rfl (hb hby d_prog_46_method_2_code_6) rfl ((if0 _ _).trans (flt (by decide : ¬ ((0 : Int32) < (-1 : Int32)))).2.2.2) (by decide) (by decide) ?_
    show Steps p.tables e below (T1.setTop (mkF m 19 #[.val (.ref a1), .val (.ref a2), .val (.double FP.dconst0), .second] [])) _
    refine XS.aloadN X1.here hx rfl (hb hby d_prog_46_method_2_code_19) rfl rfl ?_
    show Steps p.tables e below (T1.setTop (mkF m 20 #[.val (.ref a1), .val (.ref a2), .val (.double FP.dconst0), .second] [(.ref a1)])) _
    refine XS.aloadN X1.here hx rfl (hb hby d_prog_46_method_2_code_20) rfl rfl ?_
    show Steps p.tables e below (T1.setTop (mkF m 21 #[.val (.ref a1), .val (.ref a2), .val (.double FP.dconst0), .second] [(.ref a2), (.ref a1)])) _
    refine st2.trans ?_
    show Steps p.tables e below (T2.setTop (mkF m 24 #[.val (.ref a1), .val (.ref a2), .val (.double FP.dconst0), .second] [(.int (1 : Int32))])) _
    refine XS.ifNo X2.here hx rfl (hb hby d_prog_46_method_2_code_24) rfl ((if0 _ _).trans (feq (by decide : ¬ ((1 : Int32) = (0 : Int32)))).1) ?_
    show Steps p.tables e below (T2.setTop (mkF m 27 #[.val (.ref a1), .val (.ref a2), .val (.double FP.dconst0), .second] [])) _
    refine XS.aloadN X2.here hx rfl (hb hby d_prog_46_method_2_code_27) rfl rfl ?_
    show Steps p.tables e below (T2.setTop (mkF m 28 #[.val (.ref a1), .val (.ref a2), .val (.double FP.dconst0), .second] [(.ref a1)])) _
    refine st3 _ ?_
    show Steps p.tables e below (T3.setTop (mkF m 31 #[.val (.ref a1), .val (.ref a2), .val (.double FP.dconst0), .second] [(.ref t1)])) _
    refine XS.aloadN X3.here hx rfl (hb hby d_prog_46_method_2_code_31) rfl rfl ?_
    show Steps p.tables e below (T3.setTop (mkF m 32 #[.val (.ref a1), .val (.ref a2), .val (.double FP.dconst0), .second] [(.ref a2), (.ref t1)])) _
    refine st4.trans ?_
    show Steps p.tables e below (T4.setTop (mkF m 35 #[.val (.ref a1), .val (.ref a2), .val (.double FP.dconst0), .second] [(.int k2), (.ref t1)])) _
    refine XS.aloadN X4.here hx rfl (hb hby d_prog_46_method_2_code_35) rfl rfl ?_
    show Steps p.tables e below (T4.setTop (mkF m 36 #[.val (.ref a1), .val (.ref a2), .val (.double FP.dconst0), .second] [(.ref a1), (.int k2), (.ref t1)])) _
    refine st5 _ ?_
    show Steps p.tables e below (T5.setTop (mkF m 39 #[.val (.ref a1), .val (.ref a2), .val (.double FP.dconst0), .second] [(.int k1), (.int k2), (.ref t1)])) _
    refine XS.isub X5.here hx rfl (hb hby d_prog_46_method_2_code_39) rfl ?_
    show Steps p.tables e below (T5.setTop (mkF m 40 #[.val (.ref a1), .val (.ref a2), .val (.double FP.dconst0), .second] [(.int (k2 - k1)), (.ref t1)])) _
    refine XS.dloadN X5.here hx rfl (hb hby d_prog_46_method_2_code_40) rfl ?_
    show Steps p.tables e below (T5.setTop (mkF m 41 #[.val (.ref a1), .val (.ref a2), .val (.double FP.dconst0), .second] [(.double FP.dconst0), (.int (k2 - k1)), (.ref t1)])) _
    refine XS.aloadN X5.here hx rfl (hb hby d_prog_46_method_2_code_41) rfl rfl ?_
    show Steps p.tables e below (T5.setTop (mkF m 42 #[.val (.ref a1), .val (.ref a2), .val (.double FP.dconst0), .second] [(.ref a2), (.double FP.dconst0), (.int (k2 - k1)), (.ref t1)])) _
    refine st6.trans ?_
    show Steps p.tables e below (T6.setTop (mkF m 45 #[.val (.ref a1), .val (.ref a2), .val (.double FP.dconst0), .second] [(.double FP.dconst0), (.double FP.dconst0), (.int (k2 - k1)), (.ref t1)])) _
    refine XS.dsubS X6.here hx rfl (hb hby d_prog_46_method_2_code_45) rfl own_dn0 rfl ?_
    show Steps p.tables e below (T6.setTop (mkF m 46 #[.val (.ref a1), .val (.ref a2), .val (.double FP.dconst0), .second] [(.double (FP.dsub FP.dconst0 FP.dconst0)), (.int (k2 - k1)), (.ref t1)])) _
    refine st7 _ ?_
    show Steps p.tables e below (T7.setTop (mkF m 47 #[.val (.ref a1), .val (.ref a2), .val (.double FP.dconst0), .second] [])) _
    refine XS.aloadN X7.here hx rfl (hb hby d_prog_46_method_2_code_47) rfl rfl ?_
    show Steps p.tables e below (T7.setTop (mkF m 48 #[.val (.ref a1), .val (.ref a2), .val (.double FP.dconst0), .second] [(.ref a1)])) _
    refine XS.dup X7.here hx rfl (hb hby d_prog_46_method_2_code_48) rfl rfl ?_
    show Steps p.tables e below (T7.setTop (mkF m 49 #[.val (.ref a1), .val (.ref a2), .val (.double FP.dconst0), .second] [(.ref a1), (.ref a1)])) _
    refine st11 _ ?_
    show Steps p.tables e below (T11.setTop (mkF m 52 #[.val (.ref a1), .val (.ref a2), .val (.double FP.dconst0), .second] [(.int k4), (.ref a1)])) _
    refine XS.iconst X11.here hx rfl (hb hby d_prog_46_method_2_code_52) ?_
    show Steps p.tables e below (T11.setTop (mkF m 53 #[.val (.ref a1), .val (.ref a2), .val (.double FP.dconst0), .second] [(.int (1 : Int32)), (.int k4), (.ref a1)])) _
    refine XS.iadd X11.here hx rfl (hb hby d_prog_46_method_2_code_53) rfl ?_
    show Steps p.tables e below (T11.setTop (mkF m 54 #[.val (.ref a1), .val (.ref a2), .val (.double FP.dconst0), .second] [(.int (k4 + (1 : Int32))), (.ref a1)])) _
    refine st13 _ ?_
    show Steps p.tables e below (T13.setTop (mkF m 57 #[.val (.ref a1), .val (.ref a2), .val (.double FP.dconst0), .second] [])) _
    exact X13.returnOut hx Bd.returns (hb hby d_prog_46_method_2_code_57) hr
  · show Q_pk1 Z a1 a2 k1 k2 k3 t1 kk vs k4 j0 r h0 n0 _ T13.heap _
    rw [e13]
    exact ⟨(List.set vs ((k2 - k1)).toNatClampNeg (.double (FP.dsub FP.dconst0 FP.dconst0))), rfl, N13, P14, E16, F17, F18, F19, F20, (by rw [hrr]; exact F15), F21, F22, F23, F24, A25, (by rw [List.length_set]; exact hv)⟩
theorem ef_pk0 (m : MethodId) (x0 : Addr) (x1 : Addr) (x2 : UInt64) : entryFrame m #[(.ref x0), (.ref x1), (.double x2)] 4 = mkF m 0 #[.val (.ref x0), .val (.ref x1), .val (.double x2), .second] [] := by first | (simp [entryFrame, mkF, argsToLocals, Value.category]; done) | rfl
set_option maxRecDepth 65536 in
set_option maxHeartbeats 40000000 in
theorem rm_pk0 (l : Launch) (Z : State) (a0 : Array Value) (hw : ∀ d ∈ tables_1, d.before a0 Z = true) (ws : List Jvm.Cond) (a1 : Addr) (a2 : Addr) (k1 : Int32) (k2 : Int32) (k3 : Int32) (t1 : Addr) (kk : ClassId) (vs : List Value) (k4 : Int32) (j0 : Int64) (r : Int32) (h0 : Heap) (n0 : Nat) (Z0 : n0 ≤ h0.size) (pE0 : Exa Z h0 a1 "com/example/podflow/podflow/simulate/RunLog") (pE1 : Exa Z h0 a2 "com/example/podflow/podflow/simulate/Request") (pF2 : Fld Z h0 a2 "com/example/podflow/podflow/simulate/Request" "number" "I" (.int k2)) (pF3 : Fld Z h0 a2 "com/example/podflow/podflow/simulate/Request" "time" "D" (.double FP.dconst0)) (pF4 : Fld Z h0 a1 "com/example/podflow/podflow/simulate/RunLog" "warmup" "I" (.int k1)) (pF5 : Fld Z h0 a1 "com/example/podflow/podflow/simulate/RunLog" "windowStart" "D" (.double FP.dconst0)) (pF6 : Fld Z h0 a1 "com/example/podflow/podflow/simulate/RunLog" "windowEnd" "D" (.double FP.dconst1)) (pF7 : Fld Z h0 a1 "com/example/podflow/podflow/simulate/RunLog" "waits" "[D" (.ref t1)) (pF8 : Fld Z h0 a1 "com/example/podflow/podflow/simulate/RunLog" "pickedUp" "I" (.int k4)) (pF9 : Fld Z h0 a1 "com/example/podflow/podflow/simulate/RunLog" "movingSeconds" "D" (.double (0 : UInt64))) (pF10 : Fld Z h0 a1 "com/example/podflow/podflow/simulate/RunLog" "emptySeconds" "D" (.double (0 : UInt64))) (pF11 : Fld Z h0 a1 "com/example/podflow/podflow/simulate/RunLog" "backlog" "I" (.int (0 : Int32))) (pF12 : Fld Z h0 a1 "com/example/podflow/podflow/simulate/RunLog" "decisionNanos" "J" (.long j0)) (pA13 : Arv Z h0 t1 kk .double k3 vs (.double (0 : UInt64))) (pg14 : n0 ≤ a1) (pg15 : n0 ≤ t1) (pn16 : a1 ≠ t1) (pn17 : a2 ≠ t1) (hv : vs.length = 2) (h3 : (k3).toNatClampNeg ≤ 2) (hc : ((k2 - k1) < (0 : Int32)) ∨ ¬ ((k2 - k1) < k3)) (hrr : r = 0) :
    MetFree l (⟨"com/example/podflow/podflow/simulate/RunLog", "pickUp", "(Lcom/example/podflow/podflow/simulate/Request;D)V"⟩ : MethodName) (head1 (Jvm.Cond.code (⟨"com/example/podflow/podflow/simulate/RunLog", "pickUp", "(Lcom/example/podflow/podflow/simulate/Request;D)V"⟩ : MethodName) prog_46_method_2_code 4 none :: ws) ({ frames := 2, cells := 0, slots := 0, locals := 30 } : Room)) (fun a U => a = #[(.ref a1), (.ref a2), (.double FP.dconst0)] ∧ Z.Warmed39 U.vm ∧ U.heap = h0) (fun _ _ _ _ _ => True) (fun _ U o U' => ∃ v L, o = .returned v ∧ Q_pk1 Z a1 a2 k1 k2 k3 t1 kk vs k4 j0 r h0 n0 v U'.heap L ∧ FrameEnd U o U' L ({ frames := 2, cells := 0, slots := 0, locals := 30 } : Room).cells ({ frames := 2, cells := 0, slots := 0, locals := 30 } : Room).slots) := by
  refine MetFree.of_bodySF (plainFor_of_name pn_com_example_podflow_podflow_simulate_RunLog) hisR ?_
  intro p e s m args below meth c s₁ Bd hml0 hP hK
  obtain ⟨rfl, hZ, hh⟩ := hP
  have hx := Bd.exec
  have hby := Bd.bytes
  have hml : c.maxLocals = 4 := hml0
  have hown : s.vm.findClass "com/example/podflow/podflow/simulate/RunLog" = some m.cls := findClass_of_methodNamed Bd.named
  have hnm := (name_of_methodNamed Bd.named Bd.method).1
  have X0 : Stand p l e ({ frames := 2, cells := 0, slots := 0, locals := 30 } : Room) s m #[(.ref a1), (.ref a2), (.double FP.dconst0)] below meth c s₁ [] 0 0 := Stand.of_body Bd
  have e0 : s₁.heap = h0 := by rw [← hh, Bd.state]; rfl
  have N0 := Fr.nil n0
  have P0 : Keep h0 h0 [a1, t1] := Keep.refl _ _
  have pre0 : ∀ t, Steps p.tables e below (s₁.setTop (mkF m 0 #[.val (.ref a1), .val (.ref a2), .val (.double FP.dconst0), .second] [])) t → Steps p.tables e below (s₁.setTop (entryFrame m #[(.ref a1), (.ref a2), (.double FP.dconst0)] 4)) t := fun t k => castTop (ef_pk0 m a1 a2 FP.dconst0) k
  obtain ⟨T1, X1, e1, st1⟩ := getF X0 hx hZ hown (host := "") (Or.inl (hw _ (List.mem_of_getElem? (i := 14) rfl))) Via.refl e0 pF6 (g := (mkF m 2 #[.val (.ref a1), .val (.ref a2), .val (.double FP.dconst0), .second] [(.ref a1), (.double FP.dconst0)])) rfl rfl (hb hby d_prog_46_method_2_code_2)
  obtain ⟨cq2, q2, q2'⟩ := pE0.cell
  obtain ⟨_, _, ⟨T2, L2, k2, n2⟩, -, X2, ⟨Lc2, hQ2, l2, y2, z2⟩, st2⟩ := X1.privateBack hx (y := (⟨"com/example/podflow/podflow/simulate/RunLog", "counts", "(Lcom/example/podflow/podflow/simulate/Request;)Z"⟩ : MethodName)) hown (mvT hZ (hw _ (List.mem_of_getElem? (i := 44) rfl))) (mvT hZ (hw _ (List.mem_of_getElem? (i := 45) rfl))) (own_selects (mvT hZ (hw _ (List.mem_of_getElem? (i := 2) rfl))) (Cond.privateMethod_at (mvP hZ (hw _ (List.mem_of_getElem? (i := 46) rfl)) (args := #[]))) (mvT hZ (hw _ (List.mem_of_getElem? (i := 45) rfl))) (by decide)) (Cond.privateMethod_at (mvP hZ (hw _ (List.mem_of_getElem? (i := 46) rfl)) (args := #[]))) (mvT hZ (hw _ (List.mem_of_getElem? (i := 47) rfl))) (by decide) (backOf (W := 0) (rm_counts l Z a0 hw [] a1 a2 k1 k2 k3 t1 kk vs (0 : Int32) h0 n0 (Nat.le_trans Z0 P0.1) pE0 pE1 pF2 pF4 pF7 pA13 (own_hj0 hc)) hZ (hw _ (List.mem_of_getElem? (i := 47) rfl)) (hw _ (List.mem_of_getElem? (i := 3) rfl)) (by decide) (by decide)) (g := (mkF m 21 #[.val (.ref a1), .val (.ref a2), .val (.double FP.dconst0), .second] [(.ref a2), (.ref a1)])) rfl (by rw [hml]; rfl) (Steps.refl _) (a := a1) (by rw [e1]; exact q2) q2' (argsL := [(.ref a2)]) (rest := []) (lenOf pd_28Lcom2fexample2fpodflow2fpodflow2fsimulate2fRequest3b29Z rfl) rfl (by show 2 * 0 + _ ≤ _; exact Nat.le_of_eq rfl) (hb hby d_prog_46_method_2_code_21) (fun _ _ => ⟨rfl, e1, (by decide : 0 + 0 ≤ _), (by decide : 0 + 0 ≤ _)⟩)
  dsimp only [Pt.U, Pt.locs, Pt.cells, Pt.slots] at X2 l2 y2 z2 st2 hQ2
  subst l2 y2 z2
  obtain ⟨rfl, N2q, e2⟩ := hQ2
  have N2 := Fr.app N0 N2q
  obtain ⟨fs, hr, hrun, hended, hW, hsame⟩ := X2.leave (v := none) (fun _ => rfl)
  refine ⟨_, _, pre0 _ ?_, hrun, hended, _, _, rfl, ?_, ⟨_, rfl⟩, hW, hsame.mono (by decide) (by decide)⟩
  · show Steps p.tables e below (s₁.setTop (mkF m 0 #[.val (.ref a1), .val (.ref a2), .val (.double FP.dconst0), .second] [])) _
    refine XS.dloadN X0.here hx rfl (hb hby d_prog_46_method_2_code_0) rfl ?_
    show Steps p.tables e below (s₁.setTop (mkF m 1 #[.val (.ref a1), .val (.ref a2), .val (.double FP.dconst0), .second] [(.double FP.dconst0)])) _
    refine XS.aloadN X0.here hx rfl (hb hby d_prog_46_method_2_code_1) rfl rfl ?_
    show Steps p.tables e below (s₁.setTop (mkF m 2 #[.val (.ref a1), .val (.ref a2), .val (.double FP.dconst0), .second] [(.ref a1), (.double FP.dconst0)])) _
    refine st1 _ ?_
    show Steps p.tables e below (T1.setTop (mkF m 5 #[.val (.ref a1), .val (.ref a2), .val (.double FP.dconst0), .second] [(.double FP.dconst1), (.double FP.dconst0)])) _
    refine XS.dcmpS X1.here hx rfl (hb hby d_prog_46_method_2_code_5) rfl own_cm ?_
    show Steps p.tables e below (T1.setTop (mkF m 6 #[.val (.ref a1), .val (.ref a2), .val (.double FP.dconst0), .second] [(.int (-1 : Int32))])) _
    refine XS.ifYes X1.here hx rfl (pc0 := 6) (pc' := 19) rfl (hb hby d_prog_46_method_2_code_6) rfl ((if0 _ _).trans (flt (by decide : ¬ ((0 : Int32) < (-1 : Int32)))).2.2.2) (by decide) (by decide) ?_
    show Steps p.tables e below (T1.setTop (mkF m 19 #[.val (.ref a1), .val (.ref a2), .val (.double FP.dconst0), .second] [])) _
    refine XS.aloadN X1.here hx rfl (hb hby d_prog_46_method_2_code_19) rfl rfl ?_
    show Steps p.tables e below (T1.setTop (mkF m 20 #[.val (.ref a1), .val (.ref a2), .val (.double FP.dconst0), .second] [(.ref a1)])) _
    refine XS.aloadN X1.here hx rfl (hb hby d_prog_46_method_2_code_20) rfl rfl ?_
    show Steps p.tables e below (T1.setTop (mkF m 21 #[.val (.ref a1), .val (.ref a2), .val (.double FP.dconst0), .second] [(.ref a2), (.ref a1)])) _
    refine st2.trans ?_
    show Steps p.tables e below (T2.setTop (mkF m 24 #[.val (.ref a1), .val (.ref a2), .val (.double FP.dconst0), .second] [(.int (0 : Int32))])) _
    refine XS.ifYes X2.here hx rfl (pc0 := 24) (pc' := 57) rfl (hb hby d_prog_46_method_2_code_24) rfl ((if0 _ _).trans (teq (by decide : (0 : Int32) = (0 : Int32))).1) (by decide) (by decide) ?_
    show Steps p.tables e below (T2.setTop (mkF m 57 #[.val (.ref a1), .val (.ref a2), .val (.double FP.dconst0), .second] [])) _
    exact X2.returnOut hx Bd.returns (hb hby d_prog_46_method_2_code_57) hr
  · show Q_pk1 Z a1 a2 k1 k2 k3 t1 kk vs k4 j0 r h0 n0 _ T2.heap _
    rw [e2]
    exact ⟨vs, rfl, N2, P0, pE0, pF4, pF5, pF6, pF7, (by rw [hrr, Int32.add_zero]; exact pF8), pF9, pF10, pF11, pF12, pA13, hv⟩
set_option maxRecDepth 65536 in
theorem rm_pickUp (l : Launch) (Z : State) (a0 : Array Value) (hw : ∀ d ∈ tables_1, d.before a0 Z = true) (ws : List Jvm.Cond) (a1 : Addr) (a2 : Addr) (k1 : Int32) (k2 : Int32) (k3 : Int32) (t1 : Addr) (kk : ClassId) (vs : List Value) (k4 : Int32) (j0 : Int64) (r : Int32) (h0 : Heap) (n0 : Nat) (Z0 : n0 ≤ h0.size) (pE0 : Exa Z h0 a1 "com/example/podflow/podflow/simulate/RunLog") (pE1 : Exa Z h0 a2 "com/example/podflow/podflow/simulate/Request") (pF2 : Fld Z h0 a2 "com/example/podflow/podflow/simulate/Request" "number" "I" (.int k2)) (pF3 : Fld Z h0 a2 "com/example/podflow/podflow/simulate/Request" "time" "D" (.double FP.dconst0)) (pF4 : Fld Z h0 a1 "com/example/podflow/podflow/simulate/RunLog" "warmup" "I" (.int k1)) (pF5 : Fld Z h0 a1 "com/example/podflow/podflow/simulate/RunLog" "windowStart" "D" (.double FP.dconst0)) (pF6 : Fld Z h0 a1 "com/example/podflow/podflow/simulate/RunLog" "windowEnd" "D" (.double FP.dconst1)) (pF7 : Fld Z h0 a1 "com/example/podflow/podflow/simulate/RunLog" "waits" "[D" (.ref t1)) (pF8 : Fld Z h0 a1 "com/example/podflow/podflow/simulate/RunLog" "pickedUp" "I" (.int k4)) (pF9 : Fld Z h0 a1 "com/example/podflow/podflow/simulate/RunLog" "movingSeconds" "D" (.double (0 : UInt64))) (pF10 : Fld Z h0 a1 "com/example/podflow/podflow/simulate/RunLog" "emptySeconds" "D" (.double (0 : UInt64))) (pF11 : Fld Z h0 a1 "com/example/podflow/podflow/simulate/RunLog" "backlog" "I" (.int (0 : Int32))) (pF12 : Fld Z h0 a1 "com/example/podflow/podflow/simulate/RunLog" "decisionNanos" "J" (.long j0)) (pA13 : Arv Z h0 t1 kk .double k3 vs (.double (0 : UInt64))) (pg14 : n0 ≤ a1) (pg15 : n0 ≤ t1) (pn16 : a1 ≠ t1) (pn17 : a2 ≠ t1) (hv : vs.length = 2) (h3 : (k3).toNatClampNeg ≤ 2) (hj : (¬ ((k2 - k1) < (0 : Int32)) ∧ (k2 - k1) < k3 ∧ r = 1) ∨ ((((k2 - k1) < (0 : Int32)) ∨ ¬ ((k2 - k1) < k3)) ∧ r = 0)) :
    MetFree l (⟨"com/example/podflow/podflow/simulate/RunLog", "pickUp", "(Lcom/example/podflow/podflow/simulate/Request;D)V"⟩ : MethodName) (head1 (Jvm.Cond.code (⟨"com/example/podflow/podflow/simulate/RunLog", "pickUp", "(Lcom/example/podflow/podflow/simulate/Request;D)V"⟩ : MethodName) prog_46_method_2_code 4 none :: ws) ({ frames := 2, cells := 0, slots := 0, locals := 30 } : Room)) (fun a U => a = #[(.ref a1), (.ref a2), (.double FP.dconst0)] ∧ Z.Warmed39 U.vm ∧ U.heap = h0) (fun _ _ _ _ _ => True) (fun _ U o U' => ∃ v L, o = .returned v ∧ Q_pk1 Z a1 a2 k1 k2 k3 t1 kk vs k4 j0 r h0 n0 v U'.heap L ∧ FrameEnd U o U' L ({ frames := 2, cells := 0, slots := 0, locals := 30 } : Room).cells ({ frames := 2, cells := 0, slots := 0, locals := 30 } : Room).slots) := by
  rcases hj with ⟨hc, hl, hrr⟩ | ⟨hc, hrr⟩
  · exact rm_pk1 l Z a0 hw ws a1 a2 k1 k2 k3 t1 kk vs k4 j0 r h0 n0 Z0 pE0 pE1 pF2 pF3 pF4 pF5 pF6 pF7 pF8 pF9 pF10 pF11 pF12 pA13 pg14 pg15 pn16 pn17 hv h3 hc hl hrr
  · exact rm_pk0 l Z a0 hw ws a1 a2 k1 k2 k3 t1 kk vs k4 j0 r h0 n0 Z0 pE0 pE1 pF2 pF3 pF4 pF5 pF6 pF7 pF8 pF9 pF10 pF11 pF12 pA13 pg14 pg15 pn16 pn17 hv h3 hc hrr
theorem d_prog_46_method_3_code_0 : decode prog_46_method_3_code 0 = .ok (.aload_n 0, 1) := by decide +kernel
theorem d_prog_46_method_3_code_1 : decode prog_46_method_3_code 1 = .ok (.aload_n 1, 1) := by decide +kernel
theorem d_prog_46_method_3_code_2 : decode prog_46_method_3_code 2 = .ok (.invokevirtual 27, 3) := by decide +kernel
theorem d_prog_46_method_3_code_5 : decode prog_46_method_3_code 5 = .ok (.ifCond .eq 13, 3) := by decide +kernel
theorem d_prog_46_method_3_code_8 : decode prog_46_method_3_code 8 = .ok (.aload_n 0, 1) := by decide +kernel
theorem d_prog_46_method_3_code_9 : decode prog_46_method_3_code 9 = .ok (.dup, 1) := by decide +kernel
theorem d_prog_46_method_3_code_10 : decode prog_46_method_3_code 10 = .ok (.getfield 44, 3) := by decide +kernel
theorem d_prog_46_method_3_code_13 : decode prog_46_method_3_code 13 = .ok (.lload_n 2, 1) := by decide +kernel
theorem d_prog_46_method_3_code_14 : decode prog_46_method_3_code 14 = .ok (.ladd, 1) := by decide +kernel
theorem d_prog_46_method_3_code_15 : decode prog_46_method_3_code 15 = .ok (.putfield 44, 3) := by decide +kernel
theorem d_prog_46_method_3_code_18 : decode prog_46_method_3_code 18 = .ok (.return_, 1) := by decide +kernel
theorem ef_dc1 (m : MethodId) (x0 : Addr) (x1 : Addr) (x2 : Int64) : entryFrame m #[(.ref x0), (.ref x1), (.long x2)] 4 = mkF m 0 #[.val (.ref x0), .val (.ref x1), .val (.long x2), .second] [] := by first | (simp [entryFrame, mkF, argsToLocals, Value.category]; done) | rfl
def Q_dc1 (Z : State) (a1 : Addr) (a2 : Addr) (k1 : Int32) (k2 : Int32) (k3 : Int32) (t1 : Addr) (kk : ClassId) (vs : List Value) (k4 : Int32) (j0 : Int64) (j1 : Int64) (qv : Int64) (h0 : Heap) (n0 : Nat) (v : Option Value) (h : Heap) (L : List Loc) : Prop := v = none ∧ Fr n0 L ∧ Keep h0 h [a1] ∧ (Exa Z h a1 "com/example/podflow/podflow/simulate/RunLog") ∧ (Fld Z h a1 "com/example/podflow/podflow/simulate/RunLog" "warmup" "I" (.int k1)) ∧ (Fld Z h a1 "com/example/podflow/podflow/simulate/RunLog" "windowStart" "D" (.double FP.dconst0)) ∧ (Fld Z h a1 "com/example/podflow/podflow/simulate/RunLog" "windowEnd" "D" (.double FP.dconst1)) ∧ (Fld Z h a1 "com/example/podflow/podflow/simulate/RunLog" "waits" "[D" (.ref t1)) ∧ (Fld Z h a1 "com/example/podflow/podflow/simulate/RunLog" "pickedUp" "I" (.int k4)) ∧ (Fld Z h a1 "com/example/podflow/podflow/simulate/RunLog" "movingSeconds" "D" (.double (0 : UInt64))) ∧ (Fld Z h a1 "com/example/podflow/podflow/simulate/RunLog" "emptySeconds" "D" (.double (0 : UInt64))) ∧ (Fld Z h a1 "com/example/podflow/podflow/simulate/RunLog" "backlog" "I" (.int (0 : Int32))) ∧ (Fld Z h a1 "com/example/podflow/podflow/simulate/RunLog" "decisionNanos" "J" (.long (j0 + qv))) ∧ (Arv Z h t1 kk .double k3 vs (.double (0 : UInt64)))
set_option maxRecDepth 65536 in
set_option maxHeartbeats 40000000 in
theorem rm_dc1 (l : Launch) (Z : State) (a0 : Array Value) (hw : ∀ d ∈ tables_1, d.before a0 Z = true) (ws : List Jvm.Cond) (a1 : Addr) (a2 : Addr) (k1 : Int32) (k2 : Int32) (k3 : Int32) (t1 : Addr) (kk : ClassId) (vs : List Value) (k4 : Int32) (j0 : Int64) (j1 : Int64) (qv : Int64) (h0 : Heap) (n0 : Nat) (Z0 : n0 ≤ h0.size) (pE0 : Exa Z h0 a1 "com/example/podflow/podflow/simulate/RunLog") (pE1 : Exa Z h0 a2 "com/example/podflow/podflow/simulate/Request") (pF2 : Fld Z h0 a2 "com/example/podflow/podflow/simulate/Request" "number" "I" (.int k2)) (pF3 : Fld Z h0 a1 "com/example/podflow/podflow/simulate/RunLog" "warmup" "I" (.int k1)) (pF4 : Fld Z h0 a1 "com/example/podflow/podflow/simulate/RunLog" "windowStart" "D" (.double FP.dconst0)) (pF5 : Fld Z h0 a1 "com/example/podflow/podflow/simulate/RunLog" "windowEnd" "D" (.double FP.dconst1)) (pF6 : Fld Z h0 a1 "com/example/podflow/podflow/simulate/RunLog" "waits" "[D" (.ref t1)) (pF7 : Fld Z h0 a1 "com/example/podflow/podflow/simulate/RunLog" "pickedUp" "I" (.int k4)) (pF8 : Fld Z h0 a1 "com/example/podflow/podflow/simulate/RunLog" "movingSeconds" "D" (.double (0 : UInt64))) (pF9 : Fld Z h0 a1 "com/example/podflow/podflow/simulate/RunLog" "emptySeconds" "D" (.double (0 : UInt64))) (pF10 : Fld Z h0 a1 "com/example/podflow/podflow/simulate/RunLog" "backlog" "I" (.int (0 : Int32))) (pF11 : Fld Z h0 a1 "com/example/podflow/podflow/simulate/RunLog" "decisionNanos" "J" (.long j0)) (pA12 : Arv Z h0 t1 kk .double k3 vs (.double (0 : UInt64))) (pg13 : n0 ≤ a1) (pn14 : a1 ≠ t1) (hc : ¬ ((k2 - k1) < (0 : Int32))) (hl : (k2 - k1) < k3) (hrr : qv = j1) :
    MetFree l (⟨"com/example/podflow/podflow/simulate/RunLog", "decided", "(Lcom/example/podflow/podflow/simulate/Request;J)V"⟩ : MethodName) (head1 (Jvm.Cond.code (⟨"com/example/podflow/podflow/simulate/RunLog", "decided", "(Lcom/example/podflow/podflow/simulate/Request;J)V"⟩ : MethodName) prog_46_method_3_code 4 none :: ws) ({ frames := 2, cells := 0, slots := 0, locals := 30 } : Room)) (fun a U => a = #[(.ref a1), (.ref a2), (.long j1)] ∧ Z.Warmed39 U.vm ∧ U.heap = h0) (fun _ _ _ _ _ => True) (fun _ U o U' => ∃ v L, o = .returned v ∧ Q_dc1 Z a1 a2 k1 k2 k3 t1 kk vs k4 j0 j1 qv h0 n0 v U'.heap L ∧ FrameEnd U o U' L ({ frames := 2, cells := 0, slots := 0, locals := 30 } : Room).cells ({ frames := 2, cells := 0, slots := 0, locals := 30 } : Room).slots) := by
  refine MetFree.of_bodySF (plainFor_of_name pn_com_example_podflow_podflow_simulate_RunLog) hisR ?_
  intro p e s m args below meth c s₁ Bd hml0 hP hK
  obtain ⟨rfl, hZ, hh⟩ := hP
  have hx := Bd.exec
  have hby := Bd.bytes
  have hml : c.maxLocals = 4 := hml0
  have hown : s.vm.findClass "com/example/podflow/podflow/simulate/RunLog" = some m.cls := findClass_of_methodNamed Bd.named
  have hnm := (name_of_methodNamed Bd.named Bd.method).1
  have X0 : Stand p l e ({ frames := 2, cells := 0, slots := 0, locals := 30 } : Room) s m #[(.ref a1), (.ref a2), (.long j1)] below meth c s₁ [] 0 0 := Stand.of_body Bd
  have e0 : s₁.heap = h0 := by rw [← hh, Bd.state]; rfl
  have N0 := Fr.nil n0
  have P0 : Keep h0 h0 [a1] := Keep.refl _ _
  have pre0 : ∀ t, Steps p.tables e below (s₁.setTop (mkF m 0 #[.val (.ref a1), .val (.ref a2), .val (.long j1), .second] [])) t → Steps p.tables e below (s₁.setTop (entryFrame m #[(.ref a1), (.ref a2), (.long j1)] 4)) t := fun t k => castTop (ef_dc1 m a1 a2 j1) k
  obtain ⟨cq1, q1, q1'⟩ := pE0.cell
  obtain ⟨_, _, ⟨T1, L1, k1, n1⟩, -, X1, ⟨Lc1, hQ1, l1, y1, z1⟩, st1⟩ := X0.privateBack hx (y := (⟨"com/example/podflow/podflow/simulate/RunLog", "counts", "(Lcom/example/podflow/podflow/simulate/Request;)Z"⟩ : MethodName)) hown (mvT hZ (hw _ (List.mem_of_getElem? (i := 44) rfl))) (mvT hZ (hw _ (List.mem_of_getElem? (i := 45) rfl))) (own_selects (mvT hZ (hw _ (List.mem_of_getElem? (i := 2) rfl))) (Cond.privateMethod_at (mvP hZ (hw _ (List.mem_of_getElem? (i := 46) rfl)) (args := #[]))) (mvT hZ (hw _ (List.mem_of_getElem? (i := 45) rfl))) (by decide)) (Cond.privateMethod_at (mvP hZ (hw _ (List.mem_of_getElem? (i := 46) rfl)) (args := #[]))) (mvT hZ (hw _ (List.mem_of_getElem? (i := 47) rfl))) (by decide) (backOf (W := 0) (rm_counts l Z a0 hw [] a1 a2 k1 k2 k3 t1 kk vs (1 : Int32) h0 n0 (Nat.le_trans Z0 P0.1) pE0 pE1 pF2 pF3 pF6 pA12 (Or.inr (Or.inr ⟨hc, hl, rfl⟩))) hZ (hw _ (List.mem_of_getElem? (i := 47) rfl)) (hw _ (List.mem_of_getElem? (i := 3) rfl)) (by decide) (by decide)) (g := (mkF m 2 #[.val (.ref a1), .val (.ref a2), .val (.long j1), .second] [(.ref a2), (.ref a1)])) rfl (by rw [hml]; rfl) (Steps.refl _) (a := a1) (by rw [e0]; exact q1) q1' (argsL := [(.ref a2)]) (rest := []) (lenOf pd_28Lcom2fexample2fpodflow2fpodflow2fsimulate2fRequest3b29Z rfl) rfl (by show 2 * 0 + _ ≤ _; exact Nat.le_of_eq rfl) (hb hby d_prog_46_method_3_code_2) (fun _ _ => ⟨rfl, e0, (by decide : 0 + 0 ≤ _), (by decide : 0 + 0 ≤ _)⟩)
  dsimp only [Pt.U, Pt.locs, Pt.cells, Pt.slots] at X1 l1 y1 z1 st1 hQ1
  subst l1 y1 z1
  obtain ⟨rfl, N1q, e1⟩ := hQ1
  have N1 := Fr.app N0 N1q
  obtain ⟨T2, X2, e2, st2⟩ := getF X1 hx hZ hown (host := "") (Or.inl (hw _ (List.mem_of_getElem? (i := 74) rfl))) Via.refl e1 pF11 (g := (mkF m 10 #[.val (.ref a1), .val (.ref a2), .val (.long j1), .second] [(.ref a1), (.ref a1)])) rfl rfl (hb hby d_prog_46_method_3_code_10)
  obtain ⟨T3, h3, X3, e3, W3, st3⟩ := putF X2 hx hZ hown (host := "") (Or.inl (hw _ (List.mem_of_getElem? (i := 74) rfl))) Via.refl e2 pF11 pE0 (Or.inl (hw _ (List.mem_of_getElem? (i := 75) rfl))) (hw _ (List.mem_of_getElem? (i := 2) rfl)) (ty := .long) (by decide) rfl rfl (g := (mkF m 15 #[.val (.ref a1), .val (.ref a2), .val (.long j1), .second] [(.long (j0 + j1)), (.ref a1)])) rfl rfl (hb hby d_prog_46_method_3_code_15)
  have P4 : Keep h0 h3 [a1] := P0.wr W3 (Or.inl (List.mem_of_getElem? (i := 0) rfl))
  have F5 : Fld Z h3 a1 "com/example/podflow/podflow/simulate/RunLog" "decisionNanos" "J" (.long (j0 + j1)) := Fld.same W3 pF11
  have N3 := Fr.snoc X3 N1 pg13
  have E6 : Exa Z h3 a1 "com/example/podflow/podflow/simulate/RunLog" := (Exa.wr W3 pE0)
  have F7 : Fld Z h3 a1 "com/example/podflow/podflow/simulate/RunLog" "warmup" "I" (.int k1) := (Fld.other W3 pF3 (Or.inr (slot_ne (t := .int) (t' := .long) (C := "com/example/podflow/podflow/simulate/RunLog") (a0 := a0) (Or.inr (hw _ (List.mem_of_getElem? (i := 11) rfl))) (Or.inl (hw _ (List.mem_of_getElem? (i := 75) rfl))) (by decide) (by decide) (by decide))))
  have F8 : Fld Z h3 a1 "com/example/podflow/podflow/simulate/RunLog" "windowStart" "D" (.double FP.dconst0) := (Fld.other W3 pF4 (Or.inr (slot_ne (t := .double) (t' := .long) (C := "com/example/podflow/podflow/simulate/RunLog") (a0 := a0) (Or.inr (hw _ (List.mem_of_getElem? (i := 13) rfl))) (Or.inl (hw _ (List.mem_of_getElem? (i := 75) rfl))) (by decide) (by decide) (by decide))))
  have F9 : Fld Z h3 a1 "com/example/podflow/podflow/simulate/RunLog" "windowEnd" "D" (.double FP.dconst1) := (Fld.other W3 pF5 (Or.inr (slot_ne (t := .double) (t' := .long) (C := "com/example/podflow/podflow/simulate/RunLog") (a0 := a0) (Or.inr (hw _ (List.mem_of_getElem? (i := 15) rfl))) (Or.inl (hw _ (List.mem_of_getElem? (i := 75) rfl))) (by decide) (by decide) (by decide))))
  have F10 : Fld Z h3 a1 "com/example/podflow/podflow/simulate/RunLog" "waits" "[D" (.ref t1) := (Fld.other W3 pF6 (Or.inr (slot_ne (t := (.array .double)) (t' := .long) (C := "com/example/podflow/podflow/simulate/RunLog") (a0 := a0) (Or.inr (hw _ (List.mem_of_getElem? (i := 18) rfl))) (Or.inl (hw _ (List.mem_of_getElem? (i := 75) rfl))) (by decide) (by decide) (by decide))))
  have F11 : Fld Z h3 a1 "com/example/podflow/podflow/simulate/RunLog" "pickedUp" "I" (.int k4) := (Fld.other W3 pF7 (Or.inr (slot_ne (t := .int) (t' := .long) (C := "com/example/podflow/podflow/simulate/RunLog") (a0 := a0) (Or.inl (hw _ (List.mem_of_getElem? (i := 64) rfl))) (Or.inl (hw _ (List.mem_of_getElem? (i := 75) rfl))) (by decide) (by decide) (by decide))))
  have F12 : Fld Z h3 a1 "com/example/podflow/podflow/simulate/RunLog" "movingSeconds" "D" (.double (0 : UInt64)) := (Fld.other W3 pF8 (Or.inr (slot_ne (t := .double) (t' := .long) (C := "com/example/podflow/podflow/simulate/RunLog") (a0 := a0) (Or.inl (hw _ (List.mem_of_getElem? (i := 69) rfl))) (Or.inl (hw _ (List.mem_of_getElem? (i := 75) rfl))) (by decide) (by decide) (by decide))))
  have F13 : Fld Z h3 a1 "com/example/podflow/podflow/simulate/RunLog" "emptySeconds" "D" (.double (0 : UInt64)) := (Fld.other W3 pF9 (Or.inr (slot_ne (t := .double) (t' := .long) (C := "com/example/podflow/podflow/simulate/RunLog") (a0 := a0) (Or.inl (hw _ (List.mem_of_getElem? (i := 71) rfl))) (Or.inl (hw _ (List.mem_of_getElem? (i := 75) rfl))) (by decide) (by decide) (by decide))))
  have F14 : Fld Z h3 a1 "com/example/podflow/podflow/simulate/RunLog" "backlog" "I" (.int (0 : Int32)) := (Fld.other W3 pF10 (Or.inr (slot_ne (t := .int) (t' := .long) (C := "com/example/podflow/podflow/simulate/RunLog") (a0 := a0) (Or.inl (hw _ (List.mem_of_getElem? (i := 73) rfl))) (Or.inl (hw _ (List.mem_of_getElem? (i := 75) rfl))) (by decide) (by decide) (by decide))))
  have A15 : Arv Z h3 t1 kk .double k3 vs (.double (0 : UInt64)) := (pA12.other W3 pn14.symm)
  obtain ⟨fs, hr, hrun, hended, hW, hsame⟩ := X3.leave (v := none) (fun _ => rfl)
  refine ⟨_, _, pre0 _ ?_, hrun, hended, _, _, rfl, ?_, ⟨_, rfl⟩, hW, hsame.mono (by decide) (by decide)⟩
  · show Steps p.tables e below (s₁.setTop (mkF m 0 #[.val (.ref a1), .val (.ref a2), .val (.long j1), .second] [])) _
    refine XS.aloadN X0.here hx rfl (hb hby d_prog_46_method_3_code_0) rfl rfl ?_
    show Steps p.tables e below (s₁.setTop (mkF m 1 #[.val (.ref a1), .val (.ref a2), .val (.long j1), .second] [(.ref a1)])) _
    refine XS.aloadN X0.here hx rfl (hb hby d_prog_46_method_3_code_1) rfl rfl ?_
    show Steps p.tables e below (s₁.setTop (mkF m 2 #[.val (.ref a1), .val (.ref a2), .val (.long j1), .second] [(.ref a2), (.ref a1)])) _
    refine st1.trans ?_
    show Steps p.tables e below (T1.setTop (mkF m 5 #[.val (.ref a1), .val (.ref a2), .val (.long j1), .second] [(.int (1 : Int32))])) _
    refine XS.ifNo X1.here hx rfl (hb hby d_prog_46_method_3_code_5) rfl ((if0 _ _).trans (feq (by decide : ¬ ((1 : Int32) = (0 : Int32)))).1) ?_
    show Steps p.tables e below (T1.setTop (mkF m 8 #[.val (.ref a1), .val (.ref a2), .val (.long j1), .second] [])) _
    refine XS.aloadN X1.here hx rfl (hb hby d_prog_46_method_3_code_8) rfl rfl ?_
    show Steps p.tables e below (T1.setTop (mkF m 9 #[.val (.ref a1), .val (.ref a2), .val (.long j1), .second] [(.ref a1)])) _
    refine XS.dup X1.here hx rfl (hb hby d_prog_46_method_3_code_9) rfl rfl ?_
    show Steps p.tables e below (T1.setTop (mkF m 10 #[.val (.ref a1), .val (.ref a2), .val (.long j1), .second] [(.ref a1), (.ref a1)])) _
    refine st2 _ ?_
    show Steps p.tables e below (T2.setTop (mkF m 13 #[.val (.ref a1), .val (.ref a2), .val (.long j1), .second] [(.long j0), (.ref a1)])) _
    refine XS.lloadN X2.here hx rfl (hb hby d_prog_46_method_3_code_13) rfl ?_
    show Steps p.tables e below (T2.setTop (mkF m 14 #[.val (.ref a1), .val (.ref a2), .val (.long j1), .second] [(.long j1), (.long j0), (.ref a1)])) _
    refine XS.ladd X2.here hx rfl (hb hby d_prog_46_method_3_code_14) rfl ?_
    show Steps p.tables e below (T2.setTop (mkF m 15 #[.val (.ref a1), .val (.ref a2), .val (.long j1), .second] [(.long (j0 + j1)), (.ref a1)])) _
    refine st3 _ ?_
    show Steps p.tables e below (T3.setTop (mkF m 18 #[.val (.ref a1), .val (.ref a2), .val (.long j1), .second] [])) _
    exact X3.returnOut hx Bd.returns (hb hby d_prog_46_method_3_code_18) hr
  · show Q_dc1 Z a1 a2 k1 k2 k3 t1 kk vs k4 j0 j1 qv h0 n0 _ T3.heap _
    rw [e3]
    exact ⟨rfl, N3, P4, E6, F7, F8, F9, F10, F11, F12, F13, F14, (by rw [hrr]; exact F5), A15⟩
theorem ef_dc0 (m : MethodId) (x0 : Addr) (x1 : Addr) (x2 : Int64) : entryFrame m #[(.ref x0), (.ref x1), (.long x2)] 4 = mkF m 0 #[.val (.ref x0), .val (.ref x1), .val (.long x2), .second] [] := by first | (simp [entryFrame, mkF, argsToLocals, Value.category]; done) | rfl
set_option maxRecDepth 65536 in
set_option maxHeartbeats 40000000 in
theorem rm_dc0 (l : Launch) (Z : State) (a0 : Array Value) (hw : ∀ d ∈ tables_1, d.before a0 Z = true) (ws : List Jvm.Cond) (a1 : Addr) (a2 : Addr) (k1 : Int32) (k2 : Int32) (k3 : Int32) (t1 : Addr) (kk : ClassId) (vs : List Value) (k4 : Int32) (j0 : Int64) (j1 : Int64) (qv : Int64) (h0 : Heap) (n0 : Nat) (Z0 : n0 ≤ h0.size) (pE0 : Exa Z h0 a1 "com/example/podflow/podflow/simulate/RunLog") (pE1 : Exa Z h0 a2 "com/example/podflow/podflow/simulate/Request") (pF2 : Fld Z h0 a2 "com/example/podflow/podflow/simulate/Request" "number" "I" (.int k2)) (pF3 : Fld Z h0 a1 "com/example/podflow/podflow/simulate/RunLog" "warmup" "I" (.int k1)) (pF4 : Fld Z h0 a1 "com/example/podflow/podflow/simulate/RunLog" "windowStart" "D" (.double FP.dconst0)) (pF5 : Fld Z h0 a1 "com/example/podflow/podflow/simulate/RunLog" "windowEnd" "D" (.double FP.dconst1)) (pF6 : Fld Z h0 a1 "com/example/podflow/podflow/simulate/RunLog" "waits" "[D" (.ref t1)) (pF7 : Fld Z h0 a1 "com/example/podflow/podflow/simulate/RunLog" "pickedUp" "I" (.int k4)) (pF8 : Fld Z h0 a1 "com/example/podflow/podflow/simulate/RunLog" "movingSeconds" "D" (.double (0 : UInt64))) (pF9 : Fld Z h0 a1 "com/example/podflow/podflow/simulate/RunLog" "emptySeconds" "D" (.double (0 : UInt64))) (pF10 : Fld Z h0 a1 "com/example/podflow/podflow/simulate/RunLog" "backlog" "I" (.int (0 : Int32))) (pF11 : Fld Z h0 a1 "com/example/podflow/podflow/simulate/RunLog" "decisionNanos" "J" (.long j0)) (pA12 : Arv Z h0 t1 kk .double k3 vs (.double (0 : UInt64))) (pg13 : n0 ≤ a1) (pn14 : a1 ≠ t1) (hc : ((k2 - k1) < (0 : Int32)) ∨ ¬ ((k2 - k1) < k3)) (hrr : qv = 0) :
    MetFree l (⟨"com/example/podflow/podflow/simulate/RunLog", "decided", "(Lcom/example/podflow/podflow/simulate/Request;J)V"⟩ : MethodName) (head1 (Jvm.Cond.code (⟨"com/example/podflow/podflow/simulate/RunLog", "decided", "(Lcom/example/podflow/podflow/simulate/Request;J)V"⟩ : MethodName) prog_46_method_3_code 4 none :: ws) ({ frames := 2, cells := 0, slots := 0, locals := 30 } : Room)) (fun a U => a = #[(.ref a1), (.ref a2), (.long j1)] ∧ Z.Warmed39 U.vm ∧ U.heap = h0) (fun _ _ _ _ _ => True) (fun _ U o U' => ∃ v L, o = .returned v ∧ Q_dc1 Z a1 a2 k1 k2 k3 t1 kk vs k4 j0 j1 qv h0 n0 v U'.heap L ∧ FrameEnd U o U' L ({ frames := 2, cells := 0, slots := 0, locals := 30 } : Room).cells ({ frames := 2, cells := 0, slots := 0, locals := 30 } : Room).slots) := by
  refine MetFree.of_bodySF (plainFor_of_name pn_com_example_podflow_podflow_simulate_RunLog) hisR ?_
  intro p e s m args below meth c s₁ Bd hml0 hP hK
  obtain ⟨rfl, hZ, hh⟩ := hP
  have hx := Bd.exec
  have hby := Bd.bytes
  have hml : c.maxLocals = 4 := hml0
  have hown : s.vm.findClass "com/example/podflow/podflow/simulate/RunLog" = some m.cls := findClass_of_methodNamed Bd.named
  have hnm := (name_of_methodNamed Bd.named Bd.method).1
  have X0 : Stand p l e ({ frames := 2, cells := 0, slots := 0, locals := 30 } : Room) s m #[(.ref a1), (.ref a2), (.long j1)] below meth c s₁ [] 0 0 := Stand.of_body Bd
  have e0 : s₁.heap = h0 := by rw [← hh, Bd.state]; rfl
  have N0 := Fr.nil n0
  have P0 : Keep h0 h0 [a1] := Keep.refl _ _
  have pre0 : ∀ t, Steps p.tables e below (s₁.setTop (mkF m 0 #[.val (.ref a1), .val (.ref a2), .val (.long j1), .second] [])) t → Steps p.tables e below (s₁.setTop (entryFrame m #[(.ref a1), (.ref a2), (.long j1)] 4)) t := fun t k => castTop (ef_dc0 m a1 a2 j1) k
  obtain ⟨cq1, q1, q1'⟩ := pE0.cell
  obtain ⟨_, _, ⟨T1, L1, k1, n1⟩, -, X1, ⟨Lc1, hQ1, l1, y1, z1⟩, st1⟩ := X0.privateBack hx (y := (⟨"com/example/podflow/podflow/simulate/RunLog", "counts", "(Lcom/example/podflow/podflow/simulate/Request;)Z"⟩ : MethodName)) hown (mvT hZ (hw _ (List.mem_of_getElem? (i := 44) rfl))) (mvT hZ (hw _ (List.mem_of_getElem? (i := 45) rfl))) (own_selects (mvT hZ (hw _ (List.mem_of_getElem? (i := 2) rfl))) (Cond.privateMethod_at (mvP hZ (hw _ (List.mem_of_getElem? (i := 46) rfl)) (args := #[]))) (mvT hZ (hw _ (List.mem_of_getElem? (i := 45) rfl))) (by decide)) (Cond.privateMethod_at (mvP hZ (hw _ (List.mem_of_getElem? (i := 46) rfl)) (args := #[]))) (mvT hZ (hw _ (List.mem_of_getElem? (i := 47) rfl))) (by decide) (backOf (W := 0) (rm_counts l Z a0 hw [] a1 a2 k1 k2 k3 t1 kk vs (0 : Int32) h0 n0 (Nat.le_trans Z0 P0.1) pE0 pE1 pF2 pF3 pF6 pA12 (own_hj0 hc)) hZ (hw _ (List.mem_of_getElem? (i := 47) rfl)) (hw _ (List.mem_of_getElem? (i := 3) rfl)) (by decide) (by decide)) (g := (mkF m 2 #[.val (.ref a1), .val (.ref a2), .val (.long j1), .second] [(.ref a2), (.ref a1)])) rfl (by rw [hml]; rfl) (Steps.refl _) (a := a1) (by rw [e0]; exact q1) q1' (argsL := [(.ref a2)]) (rest := []) (lenOf pd_28Lcom2fexample2fpodflow2fpodflow2fsimulate2fRequest3b29Z rfl) rfl (by show 2 * 0 + _ ≤ _; exact Nat.le_of_eq rfl) (hb hby d_prog_46_method_3_code_2) (fun _ _ => ⟨rfl, e0, (by decide : 0 + 0 ≤ _), (by decide : 0 + 0 ≤ _)⟩)
  dsimp only [Pt.U, Pt.locs, Pt.cells, Pt.slots] at X1 l1 y1 z1 st1 hQ1
  subst l1 y1 z1
  obtain ⟨rfl, N1q, e1⟩ := hQ1
  have N1 := Fr.app N0 N1q
  obtain ⟨fs, hr, hrun, hended, hW, hsame⟩ := X1.leave (v := none) (fun _ => rfl)
  refine ⟨_, _, pre0 _ ?_, hrun, hended, _, _, rfl, ?_, ⟨_, rfl⟩, hW, hsame.mono (by decide) (by decide)⟩
  · show Steps p.tables e below (s₁.setTop (mkF m 0 #[.val (.ref a1), .val (.ref a2), .val (.long j1), .second] [])) _
    refine XS.aloadN X0.here hx rfl (hb hby d_prog_46_method_3_code_0) rfl rfl ?_
    show Steps p.tables e below (s₁.setTop (mkF m 1 #[.val (.ref a1), .val (.ref a2), .val (.long j1), .second] [(.ref a1)])) _
    refine XS.aloadN X0.here hx rfl (hb hby d_prog_46_method_3_code_1) rfl rfl ?_
    show Steps p.tables e below (s₁.setTop (mkF m 2 #[.val (.ref a1), .val (.ref a2), .val (.long j1), .second] [(.ref a2), (.ref a1)])) _
    refine st1.trans ?_
    show Steps p.tables e below (T1.setTop (mkF m 5 #[.val (.ref a1), .val (.ref a2), .val (.long j1), .second] [(.int (0 : Int32))])) _
    refine XS.ifYes X1.here hx rfl (pc0 := 5) (pc' := 18) rfl (hb hby d_prog_46_method_3_code_5) rfl ((if0 _ _).trans (teq (by decide : (0 : Int32) = (0 : Int32))).1) (by decide) (by decide) ?_
    show Steps p.tables e below (T1.setTop (mkF m 18 #[.val (.ref a1), .val (.ref a2), .val (.long j1), .second] [])) _
    exact X1.returnOut hx Bd.returns (hb hby d_prog_46_method_3_code_18) hr
  · show Q_dc1 Z a1 a2 k1 k2 k3 t1 kk vs k4 j0 j1 qv h0 n0 _ T1.heap _
    rw [e1]
    exact ⟨rfl, N1, P0, pE0, pF3, pF4, pF5, pF6, pF7, pF8, pF9, pF10, (by rw [hrr, Int64.add_zero]; exact pF11), pA12⟩
set_option maxRecDepth 65536 in
theorem rm_decided (l : Launch) (Z : State) (a0 : Array Value) (hw : ∀ d ∈ tables_1, d.before a0 Z = true) (ws : List Jvm.Cond) (a1 : Addr) (a2 : Addr) (k1 : Int32) (k2 : Int32) (k3 : Int32) (t1 : Addr) (kk : ClassId) (vs : List Value) (k4 : Int32) (j0 : Int64) (j1 : Int64) (qv : Int64) (h0 : Heap) (n0 : Nat) (Z0 : n0 ≤ h0.size) (pE0 : Exa Z h0 a1 "com/example/podflow/podflow/simulate/RunLog") (pE1 : Exa Z h0 a2 "com/example/podflow/podflow/simulate/Request") (pF2 : Fld Z h0 a2 "com/example/podflow/podflow/simulate/Request" "number" "I" (.int k2)) (pF3 : Fld Z h0 a1 "com/example/podflow/podflow/simulate/RunLog" "warmup" "I" (.int k1)) (pF4 : Fld Z h0 a1 "com/example/podflow/podflow/simulate/RunLog" "windowStart" "D" (.double FP.dconst0)) (pF5 : Fld Z h0 a1 "com/example/podflow/podflow/simulate/RunLog" "windowEnd" "D" (.double FP.dconst1)) (pF6 : Fld Z h0 a1 "com/example/podflow/podflow/simulate/RunLog" "waits" "[D" (.ref t1)) (pF7 : Fld Z h0 a1 "com/example/podflow/podflow/simulate/RunLog" "pickedUp" "I" (.int k4)) (pF8 : Fld Z h0 a1 "com/example/podflow/podflow/simulate/RunLog" "movingSeconds" "D" (.double (0 : UInt64))) (pF9 : Fld Z h0 a1 "com/example/podflow/podflow/simulate/RunLog" "emptySeconds" "D" (.double (0 : UInt64))) (pF10 : Fld Z h0 a1 "com/example/podflow/podflow/simulate/RunLog" "backlog" "I" (.int (0 : Int32))) (pF11 : Fld Z h0 a1 "com/example/podflow/podflow/simulate/RunLog" "decisionNanos" "J" (.long j0)) (pA12 : Arv Z h0 t1 kk .double k3 vs (.double (0 : UInt64))) (pg13 : n0 ≤ a1) (pn14 : a1 ≠ t1) (hj : (¬ ((k2 - k1) < (0 : Int32)) ∧ (k2 - k1) < k3 ∧ qv = j1) ∨ ((((k2 - k1) < (0 : Int32)) ∨ ¬ ((k2 - k1) < k3)) ∧ qv = 0)) :
    MetFree l (⟨"com/example/podflow/podflow/simulate/RunLog", "decided", "(Lcom/example/podflow/podflow/simulate/Request;J)V"⟩ : MethodName) (head1 (Jvm.Cond.code (⟨"com/example/podflow/podflow/simulate/RunLog", "decided", "(Lcom/example/podflow/podflow/simulate/Request;J)V"⟩ : MethodName) prog_46_method_3_code 4 none :: ws) ({ frames := 2, cells := 0, slots := 0, locals := 30 } : Room)) (fun a U => a = #[(.ref a1), (.ref a2), (.long j1)] ∧ Z.Warmed39 U.vm ∧ U.heap = h0) (fun _ _ _ _ _ => True) (fun _ U o U' => ∃ v L, o = .returned v ∧ Q_dc1 Z a1 a2 k1 k2 k3 t1 kk vs k4 j0 j1 qv h0 n0 v U'.heap L ∧ FrameEnd U o U' L ({ frames := 2, cells := 0, slots := 0, locals := 30 } : Room).cells ({ frames := 2, cells := 0, slots := 0, locals := 30 } : Room).slots) := by
  rcases hj with ⟨hc, hl, hrr⟩ | ⟨hc, hrr⟩
  · exact rm_dc1 l Z a0 hw ws a1 a2 k1 k2 k3 t1 kk vs k4 j0 j1 qv h0 n0 Z0 pE0 pE1 pF2 pF3 pF4 pF5 pF6 pF7 pF8 pF9 pF10 pF11 pA12 pg13 pn14 hc hl hrr
  · exact rm_dc0 l Z a0 hw ws a1 a2 k1 k2 k3 t1 kk vs k4 j0 j1 qv h0 n0 Z0 pE0 pE1 pF2 pF3 pF4 pF5 pF6 pF7 pF8 pF9 pF10 pF11 pA12 pg13 pn14 hc hrr
theorem d_prog_47_method_1_code_0 : decode prog_47_method_1_code 0 = .ok (.aload_n 0, 1) := by decide +kernel
theorem d_prog_47_method_1_code_1 : decode prog_47_method_1_code 1 = .ok (.invokespecial 1, 3) := by decide +kernel
theorem d_prog_47_method_1_code_4 : decode prog_47_method_1_code 4 = .ok (.aload_n 0, 1) := by decide +kernel
theorem d_prog_47_method_1_code_5 : decode prog_47_method_1_code 5 = .ok (.aload_n 1, 1) := by decide +kernel
theorem d_prog_47_method_1_code_6 : decode prog_47_method_1_code 6 = .ok (.putfield 7, 3) := by decide +kernel
theorem d_prog_47_method_1_code_9 : decode prog_47_method_1_code 9 = .ok (.aload_n 0, 1) := by decide +kernel
theorem d_prog_47_method_1_code_10 : decode prog_47_method_1_code 10 = .ok (.dload_n 2, 1) := by decide +kernel
theorem d_prog_47_method_1_code_11 : decode prog_47_method_1_code 11 = .ok (.putfield 13, 3) := by decide +kernel
theorem d_prog_47_method_1_code_14 : decode prog_47_method_1_code 14 = .ok (.aload_n 0, 1) := by decide +kernel
theorem d_prog_47_method_1_code_15 : decode prog_47_method_1_code 15 = .ok (.dload 4, 2) := by decide +kernel
theorem d_prog_47_method_1_code_17 : decode prog_47_method_1_code 17 = .ok (.putfield 17, 3) := by decide +kernel
theorem d_prog_47_method_1_code_20 : decode prog_47_method_1_code 20 = .ok (.aload_n 0, 1) := by decide +kernel
theorem d_prog_47_method_1_code_21 : decode prog_47_method_1_code 21 = .ok (.dload 6, 2) := by decide +kernel
theorem d_prog_47_method_1_code_23 : decode prog_47_method_1_code 23 = .ok (.putfield 20, 3) := by decide +kernel
theorem d_prog_47_method_1_code_26 : decode prog_47_method_1_code 26 = .ok (.aload_n 0, 1) := by decide +kernel
theorem d_prog_47_method_1_code_27 : decode prog_47_method_1_code 27 = .ok (.iload 8, 2) := by decide +kernel
theorem d_prog_47_method_1_code_29 : decode prog_47_method_1_code 29 = .ok (.putfield 23, 3) := by decide +kernel
theorem d_prog_47_method_1_code_32 : decode prog_47_method_1_code 32 = .ok (.aload_n 0, 1) := by decide +kernel
theorem d_prog_47_method_1_code_33 : decode prog_47_method_1_code 33 = .ok (.dload 9, 2) := by decide +kernel
theorem d_prog_47_method_1_code_35 : decode prog_47_method_1_code 35 = .ok (.putfield 27, 3) := by decide +kernel
theorem d_prog_47_method_1_code_38 : decode prog_47_method_1_code 38 = .ok (.return_, 1) := by decide +kernel
theorem ef_rini (m : MethodId) (x0 : Addr) (x1 : Addr) (x2 : UInt64) (x3 : UInt64) (x4 : UInt64) (x5 : Int32) (x6 : UInt64) : entryFrame m #[(.ref x0), (.ref x1), (.double x2), (.double x3), (.double x4), (.int x5), (.double x6)] 11 = mkF m 0 #[.val (.ref x0), .val (.ref x1), .val (.double x2), .second, .val (.double x3), .second, .val (.double x4), .second, .val (.int x5), .val (.double x6), .second] [] := by first | (simp [entryFrame, mkF, argsToLocals, Value.category]; done) | rfl
def Q_rini (Z : State) (a1 : Addr) (t1 : Addr) (d1 : UInt64) (d2 : UInt64) (d3 : UInt64) (k1 : Int32) (d4 : UInt64) (u0 : Value) (u1 : Value) (u2 : Value) (u3 : Value) (u4 : Value) (u5 : Value) (h0 : Heap) (n0 : Nat) (v : Option Value) (h : Heap) (L : List Loc) : Prop := v = none ∧ Fr n0 L ∧ Keep h0 h [a1] ∧ (Exa Z h a1 "com/example/podflow/podflow/simulate/RunLog$RunResult") ∧ (Fld Z h a1 "com/example/podflow/podflow/simulate/RunLog$RunResult" "decisionSeconds" "D" (.double d4))
set_option maxRecDepth 65536 in
set_option maxHeartbeats 40000000 in
theorem rm_rini (l : Launch) (Z : State) (a0 : Array Value) (hw : ∀ d ∈ tables_1, d.before a0 Z = true) (ws : List Jvm.Cond) (a1 : Addr) (t1 : Addr) (d1 : UInt64) (d2 : UInt64) (d3 : UInt64) (k1 : Int32) (d4 : UInt64) (u0 : Value) (u1 : Value) (u2 : Value) (u3 : Value) (u4 : Value) (u5 : Value) (h0 : Heap) (n0 : Nat) (Z0 : n0 ≤ h0.size) (pE0 : Exa Z h0 a1 "com/example/podflow/podflow/simulate/RunLog$RunResult") (pF1 : Fld Z h0 a1 "com/example/podflow/podflow/simulate/RunLog$RunResult" "waits" "[D" u0) (pF2 : Fld Z h0 a1 "com/example/podflow/podflow/simulate/RunLog$RunResult" "movingSeconds" "D" u1) (pF3 : Fld Z h0 a1 "com/example/podflow/podflow/simulate/RunLog$RunResult" "emptySeconds" "D" u2) (pF4 : Fld Z h0 a1 "com/example/podflow/podflow/simulate/RunLog$RunResult" "windowSeconds" "D" u3) (pF5 : Fld Z h0 a1 "com/example/podflow/podflow/simulate/RunLog$RunResult" "backlog" "I" u4) (pF6 : Fld Z h0 a1 "com/example/podflow/podflow/simulate/RunLog$RunResult" "decisionSeconds" "D" u5) (pg7 : n0 ≤ a1) :
    MetFree l (⟨"com/example/podflow/podflow/simulate/RunLog$RunResult", "<init>", "([DDDDID)V"⟩ : MethodName) (head1 (Jvm.Cond.code (⟨"com/example/podflow/podflow/simulate/RunLog$RunResult", "<init>", "([DDDDID)V"⟩ : MethodName) prog_47_method_1_code 11 none :: ws) ({ frames := 2, cells := 0, slots := 0, locals := 24 } : Room)) (fun a U => a = #[(.ref a1), (.ref t1), (.double d1), (.double d2), (.double d3), (.int k1), (.double d4)] ∧ Z.Warmed39 U.vm ∧ U.heap = h0) (fun _ _ _ _ _ => True) (fun _ U o U' => ∃ v L, o = .returned v ∧ Q_rini Z a1 t1 d1 d2 d3 k1 d4 u0 u1 u2 u3 u4 u5 h0 n0 v U'.heap L ∧ FrameEnd U o U' L ({ frames := 2, cells := 0, slots := 0, locals := 24 } : Room).cells ({ frames := 2, cells := 0, slots := 0, locals := 24 } : Room).slots) := by
  refine MetFree.of_bodySF (plainFor_of_name pn_com_example_podflow_podflow_simulate_RunLog_RunResult) hisR ?_
  intro p e s m args below meth c s₁ Bd hml0 hP hK
  obtain ⟨rfl, hZ, hh⟩ := hP
  have hx := Bd.exec
  have hby := Bd.bytes
  have hml : c.maxLocals = 11 := hml0
  have hown : s.vm.findClass "com/example/podflow/podflow/simulate/RunLog$RunResult" = some m.cls := findClass_of_methodNamed Bd.named
  have hnm := (name_of_methodNamed Bd.named Bd.method).1
  have X0 : Stand p l e ({ frames := 2, cells := 0, slots := 0, locals := 24 } : Room) s m #[(.ref a1), (.ref t1), (.double d1), (.double d2), (.double d3), (.int k1), (.double d4)] below meth c s₁ [] 0 0 := Stand.of_body Bd
  have e0 : s₁.heap = h0 := by rw [← hh, Bd.state]; rfl
  have N0 := Fr.nil n0
  have P0 : Keep h0 h0 [a1] := Keep.refl _ _
  have pre0 : ∀ t, Steps p.tables e below (s₁.setTop (mkF m 0 #[.val (.ref a1), .val (.ref t1), .val (.double d1), .second, .val (.double d2), .second, .val (.double d3), .second, .val (.int k1), .val (.double d4), .second] [])) t → Steps p.tables e below (s₁.setTop (entryFrame m #[(.ref a1), (.ref t1), (.double d1), (.double d2), (.double d3), (.int k1), (.double d4)] 11)) t := fun t k => castTop (ef_rini m a1 t1 d1 d2 d3 k1 d4) k
  obtain ⟨_, _, ⟨T1, L1, k1, n1⟩, -, X1, ⟨Lc1, hQ1, l1, y1, z1⟩, st1⟩ := X0.specialBack hx (y := (⟨"java/lang/Record", "<init>", "()V"⟩ : MethodName)) rfl hown (mvT hZ (hw _ (List.mem_of_getElem? (i := 80) rfl))) (mvT hZ (hw _ (List.mem_of_getElem? (i := 26) rfl))) (mvT hZ (hw _ (List.mem_of_getElem? (i := 29) rfl))) (by decide) (backOf (W := 0) (rm_rec l Z a0 hw [] a1 h0 n0 (Nat.le_trans Z0 P0.1) ) hZ (hw _ (List.mem_of_getElem? (i := 29) rfl)) (hw _ (List.mem_of_getElem? (i := 28) rfl)) (by decide) (by decide)) (g := (mkF m 1 #[.val (.ref a1), .val (.ref t1), .val (.double d1), .second, .val (.double d2), .second, .val (.double d3), .second, .val (.int k1), .val (.double d4), .second] [(.ref a1)])) rfl (by rw [hml]; rfl) (Steps.refl _) (a := a1) (argsL := []) (rest := []) (lenOf pd_2829V rfl) rfl (by show 2 * 0 + _ ≤ _; exact Nat.le_of_eq rfl) (hb hby d_prog_47_method_1_code_1) (fun _ _ => ⟨rfl, e0, (by decide : 0 + 0 ≤ _), (by decide : 0 + 0 ≤ _)⟩)
  dsimp only [Pt.U, Pt.locs, Pt.cells, Pt.slots] at X1 l1 y1 z1 st1 hQ1
  subst l1 y1 z1
  obtain ⟨rfl, N1q, e1⟩ := hQ1
  have N1 := Fr.app N0 N1q
  obtain ⟨T2, h2, X2, e2, W2, st2⟩ := putF X1 hx hZ hown (host := "") (Or.inl (hw _ (List.mem_of_getElem? (i := 81) rfl))) Via.refl e1 pF1 pE0 (Or.inr ⟨(hw _ (List.mem_of_getElem? (i := 82) rfl)), rfl, hnm⟩) (hw _ (List.mem_of_getElem? (i := 66) rfl)) (ty := (.array .double)) (by decide) rfl rfl (g := (mkF m 6 #[.val (.ref a1), .val (.ref t1), .val (.double d1), .second, .val (.double d2), .second, .val (.double d3), .second, .val (.int k1), .val (.double d4), .second] [(.ref t1), (.ref a1)])) rfl rfl (hb hby d_prog_47_method_1_code_6)
  have P3 : Keep h0 h2 [a1] := P0.wr W2 (Or.inl (List.mem_of_getElem? (i := 0) rfl))
  have F4 : Fld Z h2 a1 "com/example/podflow/podflow/simulate/RunLog$RunResult" "waits" "[D" (.ref t1) := Fld.same W2 pF1
  have N2 := Fr.snoc X2 N1 pg7
  have F5 : Fld Z h2 a1 "com/example/podflow/podflow/simulate/RunLog$RunResult" "movingSeconds" "D" u1 := (Fld.other W2 pF2 (Or.inr (slot_ne (t := .double) (t' := (.array .double)) (C := "com/example/podflow/podflow/simulate/RunLog$RunResult") (a0 := a0) (Or.inr (hw _ (List.mem_of_getElem? (i := 84) rfl))) (Or.inr (hw _ (List.mem_of_getElem? (i := 82) rfl))) (by decide) (by decide) (by decide))))
  have E6 : Exa Z h2 a1 "com/example/podflow/podflow/simulate/RunLog$RunResult" := (Exa.wr W2 pE0)
  obtain ⟨T7, h7, X7, e7, W7, st7⟩ := putF X2 hx hZ hown (host := "") (Or.inl (hw _ (List.mem_of_getElem? (i := 83) rfl))) Via.refl e2 F5 E6 (Or.inr ⟨(hw _ (List.mem_of_getElem? (i := 84) rfl)), rfl, hnm⟩) (hw _ (List.mem_of_getElem? (i := 66) rfl)) (ty := .double) (by decide) rfl rfl (g := (mkF m 11 #[.val (.ref a1), .val (.ref t1), .val (.double d1), .second, .val (.double d2), .second, .val (.double d3), .second, .val (.int k1), .val (.double d4), .second] [(.double d1), (.ref a1)])) rfl rfl (hb hby d_prog_47_method_1_code_11)
  have P8 : Keep h0 h7 [a1] := P3.wr W7 (Or.inl (List.mem_of_getElem? (i := 0) rfl))
  have F9 : Fld Z h7 a1 "com/example/podflow/podflow/simulate/RunLog$RunResult" "movingSeconds" "D" (.double d1) := Fld.same W7 F5
  have N7 := Fr.snoc X7 N2 pg7
  have F10 : Fld Z h7 a1 "com/example/podflow/podflow/simulate/RunLog$RunResult" "emptySeconds" "D" u2 := (Fld.other W7 (Fld.other W2 pF3 (Or.inr (slot_ne (t := .double) (t' := (.array .double)) (C := "com/example/podflow/podflow/simulate/RunLog$RunResult") (a0 := a0) (Or.inr (hw _ (List.mem_of_getElem? (i := 86) rfl))) (Or.inr (hw _ (List.mem_of_getElem? (i := 82) rfl))) (by decide) (by decide) (by decide)))) (Or.inr (slot_ne (t := .double) (t' := .double) (C := "com/example/podflow/podflow/simulate/RunLog$RunResult") (a0 := a0) (Or.inr (hw _ (List.mem_of_getElem? (i := 86) rfl))) (Or.inr (hw _ (List.mem_of_getElem? (i := 84) rfl))) (by decide) (by decide) (by decide))))
  have E11 : Exa Z h7 a1 "com/example/podflow/podflow/simulate/RunLog$RunResult" := (Exa.wr W7 E6)
  obtain ⟨T12, h12, X12, e12, W12, st12⟩ := putF X7 hx hZ hown (host := "") (Or.inl (hw _ (List.mem_of_getElem? (i := 85) rfl))) Via.refl e7 F10 E11 (Or.inr ⟨(hw _ (List.mem_of_getElem? (i := 86) rfl)), rfl, hnm⟩) (hw _ (List.mem_of_getElem? (i := 66) rfl)) (ty := .double) (by decide) rfl rfl (g := (mkF m 17 #[.val (.ref a1), .val (.ref t1), .val (.double d1), .second, .val (.double d2), .second, .val (.double d3), .second, .val (.int k1), .val (.double d4), .second] [(.double d2), (.ref a1)])) rfl rfl (hb hby d_prog_47_method_1_code_17)
  have P13 : Keep h0 h12 [a1] := P8.wr W12 (Or.inl (List.mem_of_getElem? (i := 0) rfl))
  have F14 : Fld Z h12 a1 "com/example/podflow/podflow/simulate/RunLog$RunResult" "emptySeconds" "D" (.double d2) := Fld.same W12 F10
  have N12 := Fr.snoc X12 N7 pg7
  have F15 : Fld Z h12 a1 "com/example/podflow/podflow/simulate/RunLog$RunResult" "windowSeconds" "D" u3 := (Fld.other W12 (Fld.other W7 (Fld.other W2 pF4 (Or.inr (slot_ne (t := .double) (t' := (.array .double)) (C := "com/example/podflow/podflow/simulate/RunLog$RunResult") (a0 := a0) (Or.inr (hw _ (List.mem_of_getElem? (i := 88) rfl))) (Or.inr (hw _ (List.mem_of_getElem? (i := 82) rfl))) (by decide) (by decide) (by decide)))) (Or.inr (slot_ne (t := .double) (t' := .double) (C := "com/example/podflow/podflow/simulate/RunLog$RunResult") (a0 := a0) (Or.inr (hw _ (List.mem_of_getElem? (i := 88) rfl))) (Or.inr (hw _ (List.mem_of_getElem? (i := 84) rfl))) (by decide) (by decide) (by decide)))) (Or.inr (slot_ne (t := .double) (t' := .double) (C := "com/example/podflow/podflow/simulate/RunLog$RunResult") (a0 := a0) (Or.inr (hw _ (List.mem_of_getElem? (i := 88) rfl))) (Or.inr (hw _ (List.mem_of_getElem? (i := 86) rfl))) (by decide) (by decide) (by decide))))
  have E16 : Exa Z h12 a1 "com/example/podflow/podflow/simulate/RunLog$RunResult" := (Exa.wr W12 E11)
  obtain ⟨T17, h17, X17, e17, W17, st17⟩ := putF X12 hx hZ hown (host := "") (Or.inl (hw _ (List.mem_of_getElem? (i := 87) rfl))) Via.refl e12 F15 E16 (Or.inr ⟨(hw _ (List.mem_of_getElem? (i := 88) rfl)), rfl, hnm⟩) (hw _ (List.mem_of_getElem? (i := 66) rfl)) (ty := .double) (by decide) rfl rfl (g := (mkF m 23 #[.val (.ref a1), .val (.ref t1), .val (.double d1), .second, .val (.double d2), .second, .val (.double d3), .second, .val (.int k1), .val (.double d4), .second] [(.double d3), (.ref a1)])) rfl rfl (hb hby d_prog_47_method_1_code_23)
  have P18 : Keep h0 h17 [a1] := P13.wr W17 (Or.inl (List.mem_of_getElem? (i := 0) rfl))
  have F19 : Fld Z h17 a1 "com/example/podflow/podflow/simulate/RunLog$RunResult" "windowSeconds" "D" (.double d3) := Fld.same W17 F15
  have N17 := Fr.snoc X17 N12 pg7
  have F20 : Fld Z h17 a1 "com/example/podflow/podflow/simulate/RunLog$RunResult" "backlog" "I" u4 := (Fld.other W17 (Fld.other W12 (Fld.other W7 (Fld.other W2 pF5 (Or.inr (slot_ne (t := .int) (t' := (.array .double)) (C := "com/example/podflow/podflow/simulate/RunLog$RunResult") (a0 := a0) (Or.inr (hw _ (List.mem_of_getElem? (i := 90) rfl))) (Or.inr (hw _ (List.mem_of_getElem? (i := 82) rfl))) (by decide) (by decide) (by decide)))) (Or.inr (slot_ne (t := .int) (t' := .double) (C := "com/example/podflow/podflow/simulate/RunLog$RunResult") (a0 := a0) (Or.inr (hw _ (List.mem_of_getElem? (i := 90) rfl))) (Or.inr (hw _ (List.mem_of_getElem? (i := 84) rfl))) (by decide) (by decide) (by decide)))) (Or.inr (slot_ne (t := .int) (t' := .double) (C := "com/example/podflow/podflow/simulate/RunLog$RunResult") (a0 := a0) (Or.inr (hw _ (List.mem_of_getElem? (i := 90) rfl))) (Or.inr (hw _ (List.mem_of_getElem? (i := 86) rfl))) (by decide) (by decide) (by decide)))) (Or.inr (slot_ne (t := .int) (t' := .double) (C := "com/example/podflow/podflow/simulate/RunLog$RunResult") (a0 := a0) (Or.inr (hw _ (List.mem_of_getElem? (i := 90) rfl))) (Or.inr (hw _ (List.mem_of_getElem? (i := 88) rfl))) (by decide) (by decide) (by decide))))
  have E21 : Exa Z h17 a1 "com/example/podflow/podflow/simulate/RunLog$RunResult" := (Exa.wr W17 E16)
  obtain ⟨T22, h22, X22, e22, W22, st22⟩ := putF X17 hx hZ hown (host := "") (Or.inl (hw _ (List.mem_of_getElem? (i := 89) rfl))) Via.refl e17 F20 E21 (Or.inr ⟨(hw _ (List.mem_of_getElem? (i := 90) rfl)), rfl, hnm⟩) (hw _ (List.mem_of_getElem? (i := 66) rfl)) (ty := .int) (by decide) rfl rfl (g := (mkF m 29 #[.val (.ref a1), .val (.ref t1), .val (.double d1), .second, .val (.double d2), .second, .val (.double d3), .second, .val (.int k1), .val (.double d4), .second] [(.int k1), (.ref a1)])) rfl rfl (hb hby d_prog_47_method_1_code_29)
  have P23 : Keep h0 h22 [a1] := P18.wr W22 (Or.inl (List.mem_of_getElem? (i := 0) rfl))
  have F24 : Fld Z h22 a1 "com/example/podflow/podflow/simulate/RunLog$RunResult" "backlog" "I" (.int k1) := Fld.same W22 F20
  have N22 := Fr.snoc X22 N17 pg7
  have F25 : Fld Z h22 a1 "com/example/podflow/podflow/simulate/RunLog$RunResult" "decisionSeconds" "D" u5 := (Fld.other W22 (Fld.other W17 (Fld.other W12 (Fld.other W7 (Fld.other W2 pF6 (Or.inr (slot_ne (t := .double) (t' := (.array .double)) (C := "com/example/podflow/podflow/simulate/RunLog$RunResult") (a0 := a0) (Or.inr (hw _ (List.mem_of_getElem? (i := 92) rfl))) (Or.inr (hw _ (List.mem_of_getElem? (i := 82) rfl))) (by decide) (by decide) (by decide)))) (Or.inr (slot_ne (t := .double) (t' := .double) (C := "com/example/podflow/podflow/simulate/RunLog$RunResult") (a0 := a0) (Or.inr (hw _ (List.mem_of_getElem? (i := 92) rfl))) (Or.inr (hw _ (List.mem_of_getElem? (i := 84) rfl))) (by decide) (by decide) (by decide)))) (Or.inr (slot_ne (t := .double) (t' := .double) (C := "com/example/podflow/podflow/simulate/RunLog$RunResult") (a0 := a0) (Or.inr (hw _ (List.mem_of_getElem? (i := 92) rfl))) (Or.inr (hw _ (List.mem_of_getElem? (i := 86) rfl))) (by decide) (by decide) (by decide)))) (Or.inr (slot_ne (t := .double) (t' := .double) (C := "com/example/podflow/podflow/simulate/RunLog$RunResult") (a0 := a0) (Or.inr (hw _ (List.mem_of_getElem? (i := 92) rfl))) (Or.inr (hw _ (List.mem_of_getElem? (i := 88) rfl))) (by decide) (by decide) (by decide)))) (Or.inr (slot_ne (t := .double) (t' := .int) (C := "com/example/podflow/podflow/simulate/RunLog$RunResult") (a0 := a0) (Or.inr (hw _ (List.mem_of_getElem? (i := 92) rfl))) (Or.inr (hw _ (List.mem_of_getElem? (i := 90) rfl))) (by decide) (by decide) (by decide))))
  have E26 : Exa Z h22 a1 "com/example/podflow/podflow/simulate/RunLog$RunResult" := (Exa.wr W22 E21)
  obtain ⟨T27, h27, X27, e27, W27, st27⟩ := putF X22 hx hZ hown (host := "") (Or.inl (hw _ (List.mem_of_getElem? (i := 91) rfl))) Via.refl e22 F25 E26 (Or.inr ⟨(hw _ (List.mem_of_getElem? (i := 92) rfl)), rfl, hnm⟩) (hw _ (List.mem_of_getElem? (i := 66) rfl)) (ty := .double) (by decide) rfl rfl (g := (mkF m 35 #[.val (.ref a1), .val (.ref t1), .val (.double d1), .second, .val (.double d2), .second, .val (.double d3), .second, .val (.int k1), .val (.double d4), .second] [(.double d4), (.ref a1)])) rfl rfl (hb hby d_prog_47_method_1_code_35)
  have P28 : Keep h0 h27 [a1] := P23.wr W27 (Or.inl (List.mem_of_getElem? (i := 0) rfl))
  have F29 : Fld Z h27 a1 "com/example/podflow/podflow/simulate/RunLog$RunResult" "decisionSeconds" "D" (.double d4) := Fld.same W27 F25
  have N27 := Fr.snoc X27 N22 pg7
  have E30 : Exa Z h27 a1 "com/example/podflow/podflow/simulate/RunLog$RunResult" := (Exa.wr W27 E26)
  obtain ⟨fs, hr, hrun, hended, hW, hsame⟩ := X27.leave (v := none) (fun _ => rfl)
  refine ⟨_, _, pre0 _ ?_, hrun, hended, _, _, rfl, ?_, ⟨_, rfl⟩, hW, hsame.mono (by decide) (by decide)⟩
  · show Steps p.tables e below (s₁.setTop (mkF m 0 #[.val (.ref a1), .val (.ref t1), .val (.double d1), .second, .val (.double d2), .second, .val (.double d3), .second, .val (.int k1), .val (.double d4), .second] [])) _
    refine XS.aloadN X0.here hx rfl (hb hby d_prog_47_method_1_code_0) rfl rfl ?_
    show Steps p.tables e below (s₁.setTop (mkF m 1 #[.val (.ref a1), .val (.ref t1), .val (.double d1), .second, .val (.double d2), .second, .val (.double d3), .second, .val (.int k1), .val (.double d4), .second] [(.ref a1)])) _
    refine st1.trans ?_
    show Steps p.tables e below (T1.setTop (mkF m 4 #[.val (.ref a1), .val (.ref t1), .val (.double d1), .second, .val (.double d2), .second, .val (.double d3), .second, .val (.int k1), .val (.double d4), .second] [])) _
    refine XS.aloadN X1.here hx rfl (hb hby d_prog_47_method_1_code_4) rfl rfl ?_
    show Steps p.tables e below (T1.setTop (mkF m 5 #[.val (.ref a1), .val (.ref t1), .val (.double d1), .second, .val (.double d2), .second, .val (.double d3), .second, .val (.int k1), .val (.double d4), .second] [(.ref a1)])) _
    refine XS.aloadN X1.here hx rfl (hb hby d_prog_47_method_1_code_5) rfl rfl ?_
    show Steps p.tables e below (T1.setTop (mkF m 6 #[.val (.ref a1), .val (.ref t1), .val (.double d1), .second, .val (.double d2), .second, .val (.double d3), .second, .val (.int k1), .val (.double d4), .second] [(.ref t1), (.ref a1)])) _
    refine st2 _ ?_
    show Steps p.tables e below (T2.setTop (mkF m 9 #[.val (.ref a1), .val (.ref t1), .val (.double d1), .second, .val (.double d2), .second, .val (.double d3), .second, .val (.int k1), .val (.double d4), .second] [])) _
    refine XS.aloadN X2.here hx rfl (hb hby d_prog_47_method_1_code_9) rfl rfl ?_
    show Steps p.tables e below (T2.setTop (mkF m 10 #[.val (.ref a1), .val (.ref t1), .val (.double d1), .second, .val (.double d2), .second, .val (.double d3), .second, .val (.int k1), .val (.double d4), .second] [(.ref a1)])) _
    refine XS.dloadN X2.here hx rfl (hb hby d_prog_47_method_1_code_10) rfl ?_
    show Steps p.tables e below (T2.setTop (mkF m 11 #[.val (.ref a1), .val (.ref t1), .val (.double d1), .second, .val (.double d2), .second, .val (.double d3), .second, .val (.int k1), .val (.double d4), .second] [(.double d1), (.ref a1)])) _
    refine st7 _ ?_
    show Steps p.tables e below (T7.setTop (mkF m 14 #[.val (.ref a1), .val (.ref t1), .val (.double d1), .second, .val (.double d2), .second, .val (.double d3), .second, .val (.int k1), .val (.double d4), .second] [])) _
    refine XS.aloadN X7.here hx rfl (hb hby d_prog_47_method_1_code_14) rfl rfl ?_
    show Steps p.tables e below (T7.setTop (mkF m 15 #[.val (.ref a1), .val (.ref t1), .val (.double d1), .second, .val (.double d2), .second, .val (.double d3), .second, .val (.int k1), .val (.double d4), .second] [(.ref a1)])) _
    refine XS.dload X7.here hx rfl (hb hby d_prog_47_method_1_code_15) rfl ?_
    show Steps p.tables e below (T7.setTop (mkF m 17 #[.val (.ref a1), .val (.ref t1), .val (.double d1), .second, .val (.double d2), .second, .val (.double d3), .second, .val (.int k1), .val (.double d4), .second] [(.double d2), (.ref a1)])) _
    refine st12 _ ?_
    show Steps p.tables e below (T12.setTop (mkF m 20 #[.val (.ref a1), .val (.ref t1), .val (.double d1), .second, .val (.double d2), .second, .val (.double d3), .second, .val (.int k1), .val (.double d4), .second] [])) _
    refine XS.aloadN X12.here hx rfl (hb hby d_prog_47_method_1_code_20) rfl rfl ?_
    show Steps p.tables e below (T12.setTop (mkF m 21 #[.val (.ref a1), .val (.ref t1), .val (.double d1), .second, .val (.double d2), .second, .val (.double d3), .second, .val (.int k1), .val (.double d4), .second] [(.ref a1)])) _
    refine XS.dload X12.here hx rfl (hb hby d_prog_47_method_1_code_21) rfl ?_
    show Steps p.tables e below (T12.setTop (mkF m 23 #[.val (.ref a1), .val (.ref t1), .val (.double d1), .second, .val (.double d2), .second, .val (.double d3), .second, .val (.int k1), .val (.double d4), .second] [(.double d3), (.ref a1)])) _
    refine st17 _ ?_
    show Steps p.tables e below (T17.setTop (mkF m 26 #[.val (.ref a1), .val (.ref t1), .val (.double d1), .second, .val (.double d2), .second, .val (.double d3), .second, .val (.int k1), .val (.double d4), .second] [])) _
    refine XS.aloadN X17.here hx rfl (hb hby d_prog_47_method_1_code_26) rfl rfl ?_
    show Steps p.tables e below (T17.setTop (mkF m 27 #[.val (.ref a1), .val (.ref t1), .val (.double d1), .second, .val (.double d2), .second, .val (.double d3), .second, .val (.int k1), .val (.double d4), .second] [(.ref a1)])) _
    refine XS.iload X17.here hx rfl (hb hby d_prog_47_method_1_code_27) rfl ?_
    show Steps p.tables e below (T17.setTop (mkF m 29 #[.val (.ref a1), .val (.ref t1), .val (.double d1), .second, .val (.double d2), .second, .val (.double d3), .second, .val (.int k1), .val (.double d4), .second] [(.int k1), (.ref a1)])) _
    refine st22 _ ?_
    show Steps p.tables e below (T22.setTop (mkF m 32 #[.val (.ref a1), .val (.ref t1), .val (.double d1), .second, .val (.double d2), .second, .val (.double d3), .second, .val (.int k1), .val (.double d4), .second] [])) _
    refine XS.aloadN X22.here hx rfl (hb hby d_prog_47_method_1_code_32) rfl rfl ?_
    show Steps p.tables e below (T22.setTop (mkF m 33 #[.val (.ref a1), .val (.ref t1), .val (.double d1), .second, .val (.double d2), .second, .val (.double d3), .second, .val (.int k1), .val (.double d4), .second] [(.ref a1)])) _
    refine XS.dload X22.here hx rfl (hb hby d_prog_47_method_1_code_33) rfl ?_
    show Steps p.tables e below (T22.setTop (mkF m 35 #[.val (.ref a1), .val (.ref t1), .val (.double d1), .second, .val (.double d2), .second, .val (.double d3), .second, .val (.int k1), .val (.double d4), .second] [(.double d4), (.ref a1)])) _
    refine st27 _ ?_
    show Steps p.tables e below (T27.setTop (mkF m 38 #[.val (.ref a1), .val (.ref t1), .val (.double d1), .second, .val (.double d2), .second, .val (.double d3), .second, .val (.int k1), .val (.double d4), .second] [])) _
    exact X27.returnOut hx Bd.returns (hb hby d_prog_47_method_1_code_38) hr
  · show Q_rini Z a1 t1 d1 d2 d3 k1 d4 u0 u1 u2 u3 u4 u5 h0 n0 _ T27.heap _
    rw [e27]
    exact ⟨rfl, N27, P28, E30, F29⟩
theorem d_prog_46_method_6_code_0 : decode prog_46_method_6_code 0 = .ok (.aload_n 0, 1) := by decide +kernel
theorem d_prog_46_method_6_code_1 : decode prog_46_method_6_code 1 = .ok (.getfield 41, 3) := by decide +kernel
theorem d_prog_46_method_6_code_4 : decode prog_46_method_6_code 4 = .ok (.aload_n 0, 1) := by decide +kernel
theorem d_prog_46_method_6_code_5 : decode prog_46_method_6_code 5 = .ok (.getfield 20, 3) := by decide +kernel
theorem d_prog_46_method_6_code_8 : decode prog_46_method_6_code 8 = .ok (.arraylength, 1) := by decide +kernel
theorem d_prog_46_method_6_code_9 : decode prog_46_method_6_code 9 = .ok (.if_icmp .eq 25, 3) := by decide +kernel
theorem d_prog_46_method_6_code_34 : decode prog_46_method_6_code 34 = .ok (.new 72, 3) := by decide +kernel
theorem d_prog_46_method_6_code_37 : decode prog_46_method_6_code 37 = .ok (.dup, 1) := by decide +kernel
theorem d_prog_46_method_6_code_38 : decode prog_46_method_6_code 38 = .ok (.aload_n 0, 1) := by decide +kernel
theorem d_prog_46_method_6_code_39 : decode prog_46_method_6_code 39 = .ok (.getfield 20, 3) := by decide +kernel
theorem d_prog_46_method_6_code_42 : decode prog_46_method_6_code 42 = .ok (.aload_n 0, 1) := by decide +kernel
theorem d_prog_46_method_6_code_43 : decode prog_46_method_6_code 43 = .ok (.getfield 57, 3) := by decide +kernel
theorem d_prog_46_method_6_code_46 : decode prog_46_method_6_code 46 = .ok (.aload_n 0, 1) := by decide +kernel
theorem d_prog_46_method_6_code_47 : decode prog_46_method_6_code 47 = .ok (.getfield 60, 3) := by decide +kernel
theorem d_prog_46_method_6_code_50 : decode prog_46_method_6_code 50 = .ok (.aload_n 0, 1) := by decide +kernel
theorem d_prog_46_method_6_code_51 : decode prog_46_method_6_code 51 = .ok (.getfield 17, 3) := by decide +kernel
theorem d_prog_46_method_6_code_54 : decode prog_46_method_6_code 54 = .ok (.aload_n 0, 1) := by decide +kernel
theorem d_prog_46_method_6_code_55 : decode prog_46_method_6_code 55 = .ok (.getfield 13, 3) := by decide +kernel
theorem d_prog_46_method_6_code_58 : decode prog_46_method_6_code 58 = .ok (.dsub, 1) := by decide +kernel
theorem d_prog_46_method_6_code_59 : decode prog_46_method_6_code 59 = .ok (.aload_n 0, 1) := by decide +kernel
theorem d_prog_46_method_6_code_60 : decode prog_46_method_6_code 60 = .ok (.getfield 24, 3) := by decide +kernel
theorem d_prog_46_method_6_code_63 : decode prog_46_method_6_code 63 = .ok (.aload_n 0, 1) := by decide +kernel
theorem d_prog_46_method_6_code_64 : decode prog_46_method_6_code 64 = .ok (.getfield 44, 3) := by decide +kernel
theorem d_prog_46_method_6_code_67 : decode prog_46_method_6_code 67 = .ok (.l2d, 1) := by decide +kernel
theorem d_prog_46_method_6_code_68 : decode prog_46_method_6_code 68 = .ok (.ldc2_w 74, 3) := by decide +kernel
theorem d_prog_46_method_6_code_71 : decode prog_46_method_6_code 71 = .ok (.ddiv, 1) := by decide +kernel
theorem d_prog_46_method_6_code_72 : decode prog_46_method_6_code 72 = .ok (.invokespecial 76, 3) := by decide +kernel
theorem pd_285bDDDDID29V : parseMethodDescriptor "([DDDDID)V" = some ⟨[(.array .double), .double, .double, .double, .int, .double], none⟩ := by decide +kernel
theorem d_prog_46_method_6_code_75 : decode prog_46_method_6_code 75 = .ok (.areturn, 1) := by decide +kernel
theorem ef_res (m : MethodId) (x0 : Addr) : entryFrame m #[(.ref x0)] 1 = mkF m 0 #[.val (.ref x0)] [] := by first | (simp [entryFrame, mkF, argsToLocals, Value.category]; done) | rfl
def Q_res (Z : State) (a1 : Addr) (k1 : Int32) (k3 : Int32) (t1 : Addr) (kk : ClassId) (vs : List Value) (k4 : Int32) (j0 : Int64) (h0 : Heap) (n0 : Nat) (v : Option Value) (h : Heap) (L : List Loc) : Prop := ∃ b : Addr, v = some (.ref b) ∧ Fr n0 L ∧ Keep h0 h [] ∧ (h0.size ≤ b) ∧ (n0 ≤ b) ∧ (Exa Z h b "com/example/podflow/podflow/simulate/RunLog$RunResult") ∧ (Fld Z h b "com/example/podflow/podflow/simulate/RunLog$RunResult" "decisionSeconds" "D" (.double (FP.ddiv (FP.l2d j0) (4741671816366391296 : UInt64))))
set_option maxRecDepth 65536 in
set_option maxHeartbeats 40000000 in
theorem rm_res (l : Launch) (Z : State) (a0 : Array Value) (hw : ∀ d ∈ tables_1, d.before a0 Z = true) (ws : List Jvm.Cond) (a1 : Addr) (k1 : Int32) (k3 : Int32) (t1 : Addr) (kk : ClassId) (vs : List Value) (k4 : Int32) (j0 : Int64) (h0 : Heap) (n0 : Nat) (Z0 : n0 ≤ h0.size) (pE0 : Exa Z h0 a1 "com/example/podflow/podflow/simulate/RunLog") (pF1 : Fld Z h0 a1 "com/example/podflow/podflow/simulate/RunLog" "warmup" "I" (.int k1)) (pF2 : Fld Z h0 a1 "com/example/podflow/podflow/simulate/RunLog" "windowStart" "D" (.double FP.dconst0)) (pF3 : Fld Z h0 a1 "com/example/podflow/podflow/simulate/RunLog" "windowEnd" "D" (.double FP.dconst1)) (pF4 : Fld Z h0 a1 "com/example/podflow/podflow/simulate/RunLog" "waits" "[D" (.ref t1)) (pF5 : Fld Z h0 a1 "com/example/podflow/podflow/simulate/RunLog" "pickedUp" "I" (.int k4)) (pF6 : Fld Z h0 a1 "com/example/podflow/podflow/simulate/RunLog" "movingSeconds" "D" (.double (0 : UInt64))) (pF7 : Fld Z h0 a1 "com/example/podflow/podflow/simulate/RunLog" "emptySeconds" "D" (.double (0 : UInt64))) (pF8 : Fld Z h0 a1 "com/example/podflow/podflow/simulate/RunLog" "backlog" "I" (.int (0 : Int32))) (pF9 : Fld Z h0 a1 "com/example/podflow/podflow/simulate/RunLog" "decisionNanos" "J" (.long j0)) (pA10 : Arv Z h0 t1 kk .double k3 vs (.double (0 : UInt64))) (hp : k4 = k3) :
    MetFree l (⟨"com/example/podflow/podflow/simulate/RunLog", "result", "()Lcom/example/podflow/podflow/simulate/RunLog$RunResult;"⟩ : MethodName) (head1 (Jvm.Cond.code (⟨"com/example/podflow/podflow/simulate/RunLog", "result", "()Lcom/example/podflow/podflow/simulate/RunLog$RunResult;"⟩ : MethodName) prog_46_method_6_code 1 (some (.object "com/example/podflow/podflow/simulate/RunLog$RunResult")) :: ws) ({ frames := 3, cells := 1, slots := 6, locals := 47 } : Room)) (fun a U => a = #[(.ref a1)] ∧ Z.Warmed39 U.vm ∧ U.heap = h0) (fun _ _ _ _ _ => True) (fun _ U o U' => ∃ v L, o = .returned v ∧ Q_res Z a1 k1 k3 t1 kk vs k4 j0 h0 n0 v U'.heap L ∧ FrameEnd U o U' L ({ frames := 3, cells := 1, slots := 6, locals := 47 } : Room).cells ({ frames := 3, cells := 1, slots := 6, locals := 47 } : Room).slots) := by
  refine MetFree.of_bodySF (plainFor_of_name pn_com_example_podflow_podflow_simulate_RunLog) hisR ?_
  intro p e s m args below meth c s₁ Bd hml0 hP hK
  obtain ⟨rfl, hZ, hh⟩ := hP
  have hx := Bd.exec
  have hby := Bd.bytes
  have hml : c.maxLocals = 1 := hml0
  have hown : s.vm.findClass "com/example/podflow/podflow/simulate/RunLog" = some m.cls := findClass_of_methodNamed Bd.named
  have hnm := (name_of_methodNamed Bd.named Bd.method).1
  have X0 : Stand p l e ({ frames := 3, cells := 1, slots := 6, locals := 47 } : Room) s m #[(.ref a1)] below meth c s₁ [] 0 0 := Stand.of_body Bd
  have e0 : s₁.heap = h0 := by rw [← hh, Bd.state]; rfl
  have N0 := Fr.nil n0
  have P0 : Keep h0 h0 [] := Keep.refl _ _
  have pre0 : ∀ t, Steps p.tables e below (s₁.setTop (mkF m 0 #[.val (.ref a1)] [])) t → Steps p.tables e below (s₁.setTop (entryFrame m #[(.ref a1)] 1)) t := fun t k => castTop (ef_res m a1) k
  obtain ⟨T1, X1, e1, st1⟩ := getF X0 hx hZ hown (host := "") (Or.inl (hw _ (List.mem_of_getElem? (i := 63) rfl))) Via.refl e0 pF5 (g := (mkF m 1 #[.val (.ref a1)] [(.ref a1)])) rfl rfl (hb hby d_prog_46_method_6_code_1)
  obtain ⟨T2, X2, e2, st2⟩ := getF X1 hx hZ hown (host := "") (Or.inl (hw _ (List.mem_of_getElem? (i := 17) rfl))) Via.refl e1 pF4 (g := (mkF m 5 #[.val (.ref a1)] [(.ref a1), (.int k4)])) rfl rfl (hb hby d_prog_46_method_6_code_5)
  obtain ⟨cl3, Ar3, qk3, Sz3, Nz3, Ha3, Ga3⟩ := id pA10
  obtain ⟨T4, h4, X4, e4, E4, A4, D4, -, st4⟩ := newO X2 hx hZ hown (hw _ (List.mem_of_getElem? (i := 65) rfl)) (hw _ (List.mem_of_getElem? (i := 66) rfl)) (hw _ (List.mem_of_getElem? (i := 67) rfl)) e2 (g := (mkF m 34 #[.val (.ref a1)] [])) rfl (hb hby d_prog_46_method_6_code_34) (by decide) (by decide)
  obtain ⟨bn, g4⟩ : ∃ z, z = h0.size := ⟨_, rfl⟩
  rw [← g4] at A4 D4 st4
  have ne_a1_bn : a1 ≠ bn := Nat.ne_of_lt (Nat.lt_of_lt_of_eq pE0.lt g4.symm)
  have ne_t1_bn : t1 ≠ bn := Nat.ne_of_lt (Nat.lt_of_lt_of_eq pA10.lt g4.symm)
  have ge_bn : n0 ≤ bn := Nat.le_trans (Nat.le_trans Z0 P0.1) (Nat.le_of_eq g4.symm)
  have sz_bn : h0.size ≤ bn := Nat.le_trans P0.1 (Nat.le_of_eq g4.symm)
  have P5 : Keep h0 h4 [] := P0.ext E4
  have F6 : Fld Z h4 bn "com/example/podflow/podflow/simulate/RunLog$RunResult" "waits" "[D" .null := D4 (Or.inr (hw _ (List.mem_of_getElem? (i := 82) rfl))) (ty := (.array .double)) (by decide)
  have F7 : Fld Z h4 bn "com/example/podflow/podflow/simulate/RunLog$RunResult" "movingSeconds" "D" (.double (0 : UInt64)) := D4 (Or.inr (hw _ (List.mem_of_getElem? (i := 84) rfl))) (ty := .double) (by decide)
  have F8 : Fld Z h4 bn "com/example/podflow/podflow/simulate/RunLog$RunResult" "emptySeconds" "D" (.double (0 : UInt64)) := D4 (Or.inr (hw _ (List.mem_of_getElem? (i := 86) rfl))) (ty := .double) (by decide)
  have F9 : Fld Z h4 bn "com/example/podflow/podflow/simulate/RunLog$RunResult" "windowSeconds" "D" (.double (0 : UInt64)) := D4 (Or.inr (hw _ (List.mem_of_getElem? (i := 88) rfl))) (ty := .double) (by decide)
  have F10 : Fld Z h4 bn "com/example/podflow/podflow/simulate/RunLog$RunResult" "backlog" "I" (.int (0 : Int32)) := D4 (Or.inr (hw _ (List.mem_of_getElem? (i := 90) rfl))) (ty := .int) (by decide)
  have F11 : Fld Z h4 bn "com/example/podflow/podflow/simulate/RunLog$RunResult" "decisionSeconds" "D" (.double (0 : UInt64)) := D4 (Or.inr (hw _ (List.mem_of_getElem? (i := 92) rfl))) (ty := .double) (by decide)
  have F12 : Fld Z h4 a1 "com/example/podflow/podflow/simulate/RunLog" "waits" "[D" (.ref t1) := (Fld.ext E4 pF4)
  obtain ⟨T13, X13, e13, st13⟩ := getF X4 hx hZ hown (host := "") (Or.inl (hw _ (List.mem_of_getElem? (i := 17) rfl))) Via.refl e4 F12 (g := (mkF m 39 #[.val (.ref a1)] [(.ref a1), (.ref bn), (.ref bn)])) rfl rfl (hb hby d_prog_46_method_6_code_39)
  have F14 : Fld Z h4 a1 "com/example/podflow/podflow/simulate/RunLog" "movingSeconds" "D" (.double (0 : UInt64)) := (Fld.ext E4 pF6)
  obtain ⟨T15, X15, e15, st15⟩ := getF X13 hx hZ hown (host := "") (Or.inl (hw _ (List.mem_of_getElem? (i := 68) rfl))) Via.refl e13 F14 (g := (mkF m 43 #[.val (.ref a1)] [(.ref a1), (.ref t1), (.ref bn), (.ref bn)])) rfl rfl (hb hby d_prog_46_method_6_code_43)
  have F16 : Fld Z h4 a1 "com/example/podflow/podflow/simulate/RunLog" "emptySeconds" "D" (.double (0 : UInt64)) := (Fld.ext E4 pF7)
  obtain ⟨T17, X17, e17, st17⟩ := getF X15 hx hZ hown (host := "") (Or.inl (hw _ (List.mem_of_getElem? (i := 70) rfl))) Via.refl e15 F16 (g := (mkF m 47 #[.val (.ref a1)] [(.ref a1), (.double (0 : UInt64)), (.ref t1), (.ref bn), (.ref bn)])) rfl rfl (hb hby d_prog_46_method_6_code_47)
  have F18 : Fld Z h4 a1 "com/example/podflow/podflow/simulate/RunLog" "windowEnd" "D" (.double FP.dconst1) := (Fld.ext E4 pF3)
  obtain ⟨T19, X19, e19, st19⟩ := getF X17 hx hZ hown (host := "") (Or.inl (hw _ (List.mem_of_getElem? (i := 14) rfl))) Via.refl e17 F18 (g := (mkF m 51 #[.val (.ref a1)] [(.ref a1), (.double (0 : UInt64)), (.double (0 : UInt64)), (.ref t1), (.ref bn), (.ref bn)])) rfl rfl (hb hby d_prog_46_method_6_code_51)
  have F20 : Fld Z h4 a1 "com/example/podflow/podflow/simulate/RunLog" "windowStart" "D" (.double FP.dconst0) := (Fld.ext E4 pF2)
  obtain ⟨T21, X21, e21, st21⟩ := getF X19 hx hZ hown (host := "") (Or.inl (hw _ (List.mem_of_getElem? (i := 12) rfl))) Via.refl e19 F20 (g := (mkF m 55 #[.val (.ref a1)] [(.ref a1), (.double FP.dconst1), (.double (0 : UInt64)), (.double (0 : UInt64)), (.ref t1), (.ref bn), (.ref bn)])) rfl rfl (hb hby d_prog_46_method_6_code_55)
  have F22 : Fld Z h4 a1 "com/example/podflow/podflow/simulate/RunLog" "backlog" "I" (.int (0 : Int32)) := (Fld.ext E4 pF8)
  obtain ⟨T23, X23, e23, st23⟩ := getF X21 hx hZ hown (host := "") (Or.inl (hw _ (List.mem_of_getElem? (i := 72) rfl))) Via.refl e21 F22 (g := (mkF m 60 #[.val (.ref a1)] [(.ref a1), (.double (FP.dsub FP.dconst1 FP.dconst0)), (.double (0 : UInt64)), (.double (0 : UInt64)), (.ref t1), (.ref bn), (.ref bn)])) rfl rfl (hb hby d_prog_46_method_6_code_60)
  have F24 : Fld Z h4 a1 "com/example/podflow/podflow/simulate/RunLog" "decisionNanos" "J" (.long j0) := (Fld.ext E4 pF9)
  obtain ⟨T25, X25, e25, st25⟩ := getF X23 hx hZ hown (host := "") (Or.inl (hw _ (List.mem_of_getElem? (i := 74) rfl))) Via.refl e23 F24 (g := (mkF m 64 #[.val (.ref a1)] [(.ref a1), (.int (0 : Int32)), (.double (FP.dsub FP.dconst1 FP.dconst0)), (.double (0 : UInt64)), (.double (0 : UInt64)), (.ref t1), (.ref bn), (.ref bn)])) rfl rfl (hb hby d_prog_46_method_6_code_64)
  obtain ⟨_, _, ⟨T26, L26, k26, n26⟩, -, X26, ⟨Lc26, hQ26, l26, y26, z26⟩, st26⟩ := X25.specialBack hx (y := (⟨"com/example/podflow/podflow/simulate/RunLog$RunResult", "<init>", "([DDDDID)V"⟩ : MethodName)) rfl hown (mvT hZ (hw _ (List.mem_of_getElem? (i := 77) rfl))) (mvT hZ (hw _ (List.mem_of_getElem? (i := 78) rfl))) (mvT hZ (hw _ (List.mem_of_getElem? (i := 79) rfl))) (by decide) (backOf (W := 1) (rm_rini l Z a0 hw [] bn t1 (0 : UInt64) (0 : UInt64) (FP.dsub FP.dconst1 FP.dconst0) (0 : Int32) (FP.ddiv (FP.l2d j0) (4741671816366391296 : UInt64)) .null (.double (0 : UInt64)) (.double (0 : UInt64)) (.double (0 : UInt64)) (.int (0 : Int32)) (.double (0 : UInt64)) h4 n0 (Nat.le_trans Z0 P5.1) A4 F6 F7 F8 F9 F10 F11 ge_bn) hZ (hw _ (List.mem_of_getElem? (i := 79) rfl)) (hw _ (List.mem_of_getElem? (i := 67) rfl)) (by decide) (by decide)) (g := (mkF m 72 #[.val (.ref a1)] [(.double (FP.ddiv (FP.l2d j0) (4741671816366391296 : UInt64))), (.int (0 : Int32)), (.double (FP.dsub FP.dconst1 FP.dconst0)), (.double (0 : UInt64)), (.double (0 : UInt64)), (.ref t1), (.ref bn), (.ref bn)])) rfl (by rw [hml]; rfl) (Steps.refl _) (a := bn) (argsL := [(.ref t1), (.double (0 : UInt64)), (.double (0 : UInt64)), (.double (FP.dsub FP.dconst1 FP.dconst0)), (.int (0 : Int32)), (.double (FP.ddiv (FP.l2d j0) (4741671816366391296 : UInt64)))]) (rest := [(.ref bn)]) (lenOf pd_285bDDDDID29V rfl) rfl (by show 2 * 0 + _ ≤ _; exact Nat.le_of_eq rfl) (hb hby d_prog_46_method_6_code_72) (fun _ _ => ⟨rfl, e25, (by decide : 1 + 0 ≤ _), (by decide : 6 + 0 ≤ _)⟩)
  dsimp only [Pt.U, Pt.locs, Pt.cells, Pt.slots] at X26 l26 y26 z26 st26 hQ26
  subst l26 y26 z26
  obtain ⟨rfl, N26q, K26, r26_0, r26_1⟩ := hQ26
  have N26 := Fr.app N0 N26q
  have P27 : Keep h0 T26.heap [] := P5.trans K26 (allS (Or.inr sz_bn) all0)
  obtain ⟨fs, hr, hrun, hended, hW, hsame⟩ := X26.leave (v := some (.ref bn)) (fun h => by rw [Bd.returns] at h; cases h)
  refine ⟨_, _, pre0 _ ?_, hrun, hended, _, _, rfl, ?_, ⟨_, rfl⟩, hW, hsame.mono (by decide) (by decide)⟩
  · show Steps p.tables e below (s₁.setTop (mkF m 0 #[.val (.ref a1)] [])) _
    refine XS.aloadN X0.here hx rfl (hb hby d_prog_46_method_6_code_0) rfl rfl ?_
    show Steps p.tables e below (s₁.setTop (mkF m 1 #[.val (.ref a1)] [(.ref a1)])) _
    refine st1 _ ?_
    show Steps p.tables e below (T1.setTop (mkF m 4 #[.val (.ref a1)] [(.int k4)])) _
    refine XS.aloadN X1.here hx rfl (hb hby d_prog_46_method_6_code_4) rfl rfl ?_
    show Steps p.tables e below (T1.setTop (mkF m 5 #[.val (.ref a1)] [(.ref a1), (.int k4)])) _
    refine st2 _ ?_
    show Steps p.tables e below (T2.setTop (mkF m 8 #[.val (.ref a1)] [(.ref t1), (.int k4)])) _
    refine X2.arraylength hx (by rw [e2]; exact Ar3.1) (State.isArrayOf_alike hZ.alike Ar3.2.1) (g := (mkF m 8 #[.val (.ref a1)] [(.ref t1), (.int k4)])) rfl rfl (hb hby d_prog_46_method_6_code_8) _ ?_
    rw [len_of Sz3 Nz3]
    show Steps p.tables e below (T2.setTop (mkF m 9 #[.val (.ref a1)] [(.int k3), (.int k4)])) _
    refine XS.icmpYes X2.here hx rfl (pc0 := 9) (pc' := 34) rfl (hb hby d_prog_46_method_6_code_9) rfl (teq (hp : k4 = k3)).1 (by decide) (by decide) ?_
    show Steps p.tables e below (T2.setTop (mkF m 34 #[.val (.ref a1)] [])) _
    refine st4 _ ?_
    show Steps p.tables e below (T4.setTop (mkF m 37 #[.val (.ref a1)] [(.ref bn)])) _
    refine XS.dup X4.here hx rfl (hb hby d_prog_46_method_6_code_37) rfl rfl ?_
    show Steps p.tables e below (T4.setTop (mkF m 38 #[.val (.ref a1)] [(.ref bn), (.ref bn)])) _
    refine XS.aloadN X4.here hx rfl (hb hby d_prog_46_method_6_code_38) rfl rfl ?_
    show Steps p.tables e below (T4.setTop (mkF m 39 #[.val (.ref a1)] [(.ref a1), (.ref bn), (.ref bn)])) _
    refine st13 _ ?_
    show Steps p.tables e below (T13.setTop (mkF m 42 #[.val (.ref a1)] [(.ref t1), (.ref bn), (.ref bn)])) _
    refine XS.aloadN X13.here hx rfl (hb hby d_prog_46_method_6_code_42) rfl rfl ?_
    show Steps p.tables e below (T13.setTop (mkF m 43 #[.val (.ref a1)] [(.ref a1), (.ref t1), (.ref bn), (.ref bn)])) _
    refine st15 _ ?_
    show Steps p.tables e below (T15.setTop (mkF m 46 #[.val (.ref a1)] [(.double (0 : UInt64)), (.ref t1), (.ref bn), (.ref bn)])) _
    refine XS.aloadN X15.here hx rfl (hb hby d_prog_46_method_6_code_46) rfl rfl ?_
    show Steps p.tables e below (T15.setTop (mkF m 47 #[.val (.ref a1)] [(.ref a1), (.double (0 : UInt64)), (.ref t1), (.ref bn), (.ref bn)])) _
    refine st17 _ ?_
    show Steps p.tables e below (T17.setTop (mkF m 50 #[.val (.ref a1)] [(.double (0 : UInt64)), (.double (0 : UInt64)), (.ref t1), (.ref bn), (.ref bn)])) _
    refine XS.aloadN X17.here hx rfl (hb hby d_prog_46_method_6_code_50) rfl rfl ?_
    show Steps p.tables e below (T17.setTop (mkF m 51 #[.val (.ref a1)] [(.ref a1), (.double (0 : UInt64)), (.double (0 : UInt64)), (.ref t1), (.ref bn), (.ref bn)])) _
    refine st19 _ ?_
    show Steps p.tables e below (T19.setTop (mkF m 54 #[.val (.ref a1)] [(.double FP.dconst1), (.double (0 : UInt64)), (.double (0 : UInt64)), (.ref t1), (.ref bn), (.ref bn)])) _
    refine XS.aloadN X19.here hx rfl (hb hby d_prog_46_method_6_code_54) rfl rfl ?_
    show Steps p.tables e below (T19.setTop (mkF m 55 #[.val (.ref a1)] [(.ref a1), (.double FP.dconst1), (.double (0 : UInt64)), (.double (0 : UInt64)), (.ref t1), (.ref bn), (.ref bn)])) _
    refine st21 _ ?_
    show Steps p.tables e below (T21.setTop (mkF m 58 #[.val (.ref a1)] [(.double FP.dconst0), (.double FP.dconst1), (.double (0 : UInt64)), (.double (0 : UInt64)), (.ref t1), (.ref bn), (.ref bn)])) _
    refine XS.dsubS X21.here hx rfl (hb hby d_prog_46_method_6_code_58) rfl own_dn1 rfl ?_
    show Steps p.tables e below (T21.setTop (mkF m 59 #[.val (.ref a1)] [(.double (FP.dsub FP.dconst1 FP.dconst0)), (.double (0 : UInt64)), (.double (0 : UInt64)), (.ref t1), (.ref bn), (.ref bn)])) _
    refine XS.aloadN X21.here hx rfl (hb hby d_prog_46_method_6_code_59) rfl rfl ?_
    show Steps p.tables e below (T21.setTop (mkF m 60 #[.val (.ref a1)] [(.ref a1), (.double (FP.dsub FP.dconst1 FP.dconst0)), (.double (0 : UInt64)), (.double (0 : UInt64)), (.ref t1), (.ref bn), (.ref bn)])) _
    refine st23 _ ?_
    show Steps p.tables e below (T23.setTop (mkF m 63 #[.val (.ref a1)] [(.int (0 : Int32)), (.double (FP.dsub FP.dconst1 FP.dconst0)), (.double (0 : UInt64)), (.double (0 : UInt64)), (.ref t1), (.ref bn), (.ref bn)])) _
    refine XS.aloadN X23.here hx rfl (hb hby d_prog_46_method_6_code_63) rfl rfl ?_
    show Steps p.tables e below (T23.setTop (mkF m 64 #[.val (.ref a1)] [(.ref a1), (.int (0 : Int32)), (.double (FP.dsub FP.dconst1 FP.dconst0)), (.double (0 : UInt64)), (.double (0 : UInt64)), (.ref t1), (.ref bn), (.ref bn)])) _
    refine st25 _ ?_
    show Steps p.tables e below (T25.setTop (mkF m 67 #[.val (.ref a1)] [(.long j0), (.int (0 : Int32)), (.double (FP.dsub FP.dconst1 FP.dconst0)), (.double (0 : UInt64)), (.double (0 : UInt64)), (.ref t1), (.ref bn), (.ref bn)])) _
    refine XS.l2dS X25.here hx rfl (hb hby d_prog_46_method_6_code_67) rfl rfl ?_
    show Steps p.tables e below (T25.setTop (mkF m 68 #[.val (.ref a1)] [(.double (FP.l2d j0)), (.int (0 : Int32)), (.double (FP.dsub FP.dconst1 FP.dconst0)), (.double (0 : UInt64)), (.double (0 : UInt64)), (.ref t1), (.ref bn), (.ref bn)])) _
    refine X25.ldc2DoubleC hx hown (mvT hZ (hw _ (List.mem_of_getElem? (i := 76) rfl))) (g := (mkF m 68 #[.val (.ref a1)] [(.double (FP.l2d j0)), (.int (0 : Int32)), (.double (FP.dsub FP.dconst1 FP.dconst0)), (.double (0 : UInt64)), (.double (0 : UInt64)), (.ref t1), (.ref bn), (.ref bn)])) rfl (hb hby d_prog_46_method_6_code_68) _ ?_
    show Steps p.tables e below (T25.setTop (mkF m 71 #[.val (.ref a1)] [(.double (4741671816366391296 : UInt64)), (.double (FP.l2d j0)), (.int (0 : Int32)), (.double (FP.dsub FP.dconst1 FP.dconst0)), (.double (0 : UInt64)), (.double (0 : UInt64)), (.ref t1), (.ref bn), (.ref bn)])) _
    refine XS.ddivS X25.here hx rfl (hb hby d_prog_46_method_6_code_71) rfl (own_dd j0) rfl ?_
    show Steps p.tables e below (T25.setTop (mkF m 72 #[.val (.ref a1)] [(.double (FP.ddiv (FP.l2d j0) (4741671816366391296 : UInt64))), (.int (0 : Int32)), (.double (FP.dsub FP.dconst1 FP.dconst0)), (.double (0 : UInt64)), (.double (0 : UInt64)), (.ref t1), (.ref bn), (.ref bn)])) _
    refine st26.trans ?_
    show Steps p.tables e below (T26.setTop (mkF m 75 #[.val (.ref a1)] [(.ref bn)])) _
    exact retOut X26 hx (t := (.object "com/example/podflow/podflow/simulate/RunLog$RunResult")) (i := .areturn) Bd.returns rfl (Or.inr (Or.inr (Or.inr (Or.inr ⟨rfl, rfl, rfl⟩)))) (hb hby d_prog_46_method_6_code_75) hr
  · show Q_res Z a1 k1 k3 t1 kk vs k4 j0 h0 n0 _ T26.heap _
    skip
    exact ⟨bn, rfl, N26, P27, sz_bn, ge_bn, r26_0, r26_1⟩
theorem d_method_2_code_0 : decode method_2_code 0 = .ok (.iload_n 0, 1) := by decide +kernel
theorem d_method_2_code_1 : decode method_2_code 1 = .ok (.iload_n 1, 1) := by decide +kernel
theorem d_method_2_code_2 : decode method_2_code 2 = .ok (.if_icmp .lt 14, 3) := by decide +kernel
theorem d_method_2_code_16 : decode method_2_code 16 = .ok (.iconst 0, 1) := by decide +kernel
theorem d_method_2_code_17 : decode method_2_code 17 = .ok (.ireturn, 1) := by decide +kernel
theorem pn_com_example_podflow_podflow_simulate_RunLogDecidedPinLaw : plainName "com/example/podflow/podflow/simulate/RunLogDecidedPinLaw" = true := by first | (simp [plainName, overriddenIn]; done) | decide +kernel
theorem ef_ct0 (m : MethodId) (x0 : Int32) (x1 : Int32) (x2 : Int32) : entryFrame m #[(.int x0), (.int x1), (.int x2)] 3 = mkF m 0 #[.val (.int x0), .val (.int x1), .val (.int x2)] [] := by first | (simp [entryFrame, mkF, argsToLocals, Value.category]; done) | rfl
def Q_ct0 (Z : State) (k2 : Int32) (k1 : Int32) (k3 : Int32) (r : Int32) (h0 : Heap) (n0 : Nat) (v : Option Value) (h : Heap) (L : List Loc) : Prop := v = some (.int r) ∧ Fr n0 L ∧ h = h0
set_option maxRecDepth 65536 in
set_option maxHeartbeats 40000000 in
theorem rm_ct0 (l : Launch) (Z : State) (a0 : Array Value) (hw : ∀ d ∈ tables_1, d.before a0 Z = true) (ws : List Jvm.Cond) (k2 : Int32) (k1 : Int32) (k3 : Int32) (r : Int32) (h0 : Heap) (n0 : Nat) (Z0 : n0 ≤ h0.size) (h1 : k2 < k1) (hrr : r = 0) :
    MetFree l (⟨"com/example/podflow/podflow/simulate/RunLogDecidedPinLaw", "counted", "(III)Z"⟩ : MethodName) (head1 (Jvm.Cond.code (⟨"com/example/podflow/podflow/simulate/RunLogDecidedPinLaw", "counted", "(III)Z"⟩ : MethodName) method_2_code 3 (some .boolean) :: ws) ({ frames := 0, cells := 0, slots := 0, locals := 0 } : Room)) (fun a U => a = #[(.int k2), (.int k1), (.int k3)] ∧ Z.Warmed39 U.vm ∧ U.heap = h0) (fun _ _ _ _ _ => True) (fun _ U o U' => ∃ v L, o = .returned v ∧ Q_ct0 Z k2 k1 k3 r h0 n0 v U'.heap L ∧ FrameEnd U o U' L ({ frames := 0, cells := 0, slots := 0, locals := 0 } : Room).cells ({ frames := 0, cells := 0, slots := 0, locals := 0 } : Room).slots) := by
  refine MetFree.of_bodySF (plainFor_of_name pn_com_example_podflow_podflow_simulate_RunLogDecidedPinLaw) hisR ?_
  intro p e s m args below meth c s₁ Bd hml0 hP hK
  obtain ⟨rfl, hZ, hh⟩ := hP
  have hx := Bd.exec
  have hby := Bd.bytes
  have hml : c.maxLocals = 3 := hml0
  have hown : s.vm.findClass "com/example/podflow/podflow/simulate/RunLogDecidedPinLaw" = some m.cls := findClass_of_methodNamed Bd.named
  have hnm := (name_of_methodNamed Bd.named Bd.method).1
  have X0 : Stand p l e ({ frames := 0, cells := 0, slots := 0, locals := 0 } : Room) s m #[(.int k2), (.int k1), (.int k3)] below meth c s₁ [] 0 0 := Stand.of_body Bd
  have e0 : s₁.heap = h0 := by rw [← hh, Bd.state]; rfl
  have N0 := Fr.nil n0
  have P0 : Keep h0 h0 [] := Keep.refl _ _
  have pre0 : ∀ t, Steps p.tables e below (s₁.setTop (mkF m 0 #[.val (.int k2), .val (.int k1), .val (.int k3)] [])) t → Steps p.tables e below (s₁.setTop (entryFrame m #[(.int k2), (.int k1), (.int k3)] 3)) t := fun t k => castTop (ef_ct0 m k2 k1 k3) k
  obtain ⟨fs, hr, hrun, hended, hW, hsame⟩ := X0.leave (v := some (.int (0 : Int32))) (fun h => by rw [Bd.returns] at h; cases h)
  refine ⟨_, _, pre0 _ ?_, hrun, hended, _, _, rfl, ?_, ⟨_, rfl⟩, hW, hsame.mono (by decide) (by decide)⟩
  · show Steps p.tables e below (s₁.setTop (mkF m 0 #[.val (.int k2), .val (.int k1), .val (.int k3)] [])) _
    refine XS.iloadN X0.here hx rfl (hb hby d_method_2_code_0) rfl ?_
    show Steps p.tables e below (s₁.setTop (mkF m 1 #[.val (.int k2), .val (.int k1), .val (.int k3)] [(.int k2)])) _
    refine XS.iloadN X0.here hx rfl (hb hby d_method_2_code_1) rfl ?_
    show Steps p.tables e below (s₁.setTop (mkF m 2 #[.val (.int k2), .val (.int k1), .val (.int k3)] [(.int k1), (.int k2)])) _
    refine XS.icmpYes X0.here hx rfl (pc0 := 2) (pc' := 16) rfl (hb hby d_method_2_code_2) rfl (tlt (h1 : k2 < k1)).1 (by decide) (by decide) ?_
    show Steps p.tables e below (s₁.setTop (mkF m 16 #[.val (.int k2), .val (.int k1), .val (.int k3)] [])) _
    refine XS.iconst X0.here hx rfl (hb hby d_method_2_code_16) ?_
    show Steps p.tables e below (s₁.setTop (mkF m 17 #[.val (.int k2), .val (.int k1), .val (.int k3)] [(.int (0 : Int32))])) _
    exact retOut X0 hx (t := .boolean) (i := .ireturn) Bd.returns rfl (Or.inl ⟨rfl, Or.inr (Or.inl rfl), _, rfl⟩) (hb hby d_method_2_code_17) hr
  · show Q_ct0 Z k2 k1 k3 r h0 n0 _ s₁.heap _
    rw [e0]
    exact ⟨(by rw [hrr]), N0, rfl⟩
theorem d_method_2_code_5 : decode method_2_code 5 = .ok (.iload_n 0, 1) := by decide +kernel
theorem d_method_2_code_6 : decode method_2_code 6 = .ok (.iload_n 1, 1) := by decide +kernel
theorem d_method_2_code_7 : decode method_2_code 7 = .ok (.iload_n 2, 1) := by decide +kernel
theorem d_method_2_code_8 : decode method_2_code 8 = .ok (.iadd, 1) := by decide +kernel
theorem d_method_2_code_9 : decode method_2_code 9 = .ok (.if_icmp .ge 7, 3) := by decide +kernel
theorem ef_ct1 (m : MethodId) (x0 : Int32) (x1 : Int32) (x2 : Int32) : entryFrame m #[(.int x0), (.int x1), (.int x2)] 3 = mkF m 0 #[.val (.int x0), .val (.int x1), .val (.int x2)] [] := by first | (simp [entryFrame, mkF, argsToLocals, Value.category]; done) | rfl
set_option maxRecDepth 65536 in
set_option maxHeartbeats 40000000 in
theorem rm_ct1 (l : Launch) (Z : State) (a0 : Array Value) (hw : ∀ d ∈ tables_1, d.before a0 Z = true) (ws : List Jvm.Cond) (k2 : Int32) (k1 : Int32) (k3 : Int32) (r : Int32) (h0 : Heap) (n0 : Nat) (Z0 : n0 ≤ h0.size) (h1 : ¬ (k2 < k1)) (h2 : ¬ (k2 < (k1 + k3))) (hrr : r = 0) :
    MetFree l (⟨"com/example/podflow/podflow/simulate/RunLogDecidedPinLaw", "counted", "(III)Z"⟩ : MethodName) (head1 (Jvm.Cond.code (⟨"com/example/podflow/podflow/simulate/RunLogDecidedPinLaw", "counted", "(III)Z"⟩ : MethodName) method_2_code 3 (some .boolean) :: ws) ({ frames := 0, cells := 0, slots := 0, locals := 0 } : Room)) (fun a U => a = #[(.int k2), (.int k1), (.int k3)] ∧ Z.Warmed39 U.vm ∧ U.heap = h0) (fun _ _ _ _ _ => True) (fun _ U o U' => ∃ v L, o = .returned v ∧ Q_ct0 Z k2 k1 k3 r h0 n0 v U'.heap L ∧ FrameEnd U o U' L ({ frames := 0, cells := 0, slots := 0, locals := 0 } : Room).cells ({ frames := 0, cells := 0, slots := 0, locals := 0 } : Room).slots) := by
  refine MetFree.of_bodySF (plainFor_of_name pn_com_example_podflow_podflow_simulate_RunLogDecidedPinLaw) hisR ?_
  intro p e s m args below meth c s₁ Bd hml0 hP hK
  obtain ⟨rfl, hZ, hh⟩ := hP
  have hx := Bd.exec
  have hby := Bd.bytes
  have hml : c.maxLocals = 3 := hml0
  have hown : s.vm.findClass "com/example/podflow/podflow/simulate/RunLogDecidedPinLaw" = some m.cls := findClass_of_methodNamed Bd.named
  have hnm := (name_of_methodNamed Bd.named Bd.method).1
  have X0 : Stand p l e ({ frames := 0, cells := 0, slots := 0, locals := 0 } : Room) s m #[(.int k2), (.int k1), (.int k3)] below meth c s₁ [] 0 0 := Stand.of_body Bd
  have e0 : s₁.heap = h0 := by rw [← hh, Bd.state]; rfl
  have N0 := Fr.nil n0
  have P0 : Keep h0 h0 [] := Keep.refl _ _
  have pre0 : ∀ t, Steps p.tables e below (s₁.setTop (mkF m 0 #[.val (.int k2), .val (.int k1), .val (.int k3)] [])) t → Steps p.tables e below (s₁.setTop (entryFrame m #[(.int k2), (.int k1), (.int k3)] 3)) t := fun t k => castTop (ef_ct1 m k2 k1 k3) k
  obtain ⟨fs, hr, hrun, hended, hW, hsame⟩ := X0.leave (v := some (.int (0 : Int32))) (fun h => by rw [Bd.returns] at h; cases h)
  refine ⟨_, _, pre0 _ ?_, hrun, hended, _, _, rfl, ?_, ⟨_, rfl⟩, hW, hsame.mono (by decide) (by decide)⟩
  · show Steps p.tables e below (s₁.setTop (mkF m 0 #[.val (.int k2), .val (.int k1), .val (.int k3)] [])) _
    refine XS.iloadN X0.here hx rfl (hb hby d_method_2_code_0) rfl ?_
    show Steps p.tables e below (s₁.setTop (mkF m 1 #[.val (.int k2), .val (.int k1), .val (.int k3)] [(.int k2)])) _
    refine XS.iloadN X0.here hx rfl (hb hby d_method_2_code_1) rfl ?_
    show Steps p.tables e below (s₁.setTop (mkF m 2 #[.val (.int k2), .val (.int k1), .val (.int k3)] [(.int k1), (.int k2)])) _
    refine XS.icmpNo X0.here hx rfl (hb hby d_method_2_code_2) rfl (flt (h1 : ¬ (k2 < k1))).1 ?_
    show Steps p.tables e below (s₁.setTop (mkF m 5 #[.val (.int k2), .val (.int k1), .val (.int k3)] [])) _
    refine XS.iloadN X0.here hx rfl (hb hby d_method_2_code_5) rfl ?_
    show Steps p.tables e below (s₁.setTop (mkF m 6 #[.val (.int k2), .val (.int k1), .val (.int k3)] [(.int k2)])) _
    refine XS.iloadN X0.here hx rfl (hb hby d_method_2_code_6) rfl ?_
    show Steps p.tables e below (s₁.setTop (mkF m 7 #[.val (.int k2), .val (.int k1), .val (.int k3)] [(.int k1), (.int k2)])) _
    refine XS.iloadN X0.here hx rfl (hb hby d_method_2_code_7) rfl ?_
    show Steps p.tables e below (s₁.setTop (mkF m 8 #[.val (.int k2), .val (.int k1), .val (.int k3)] [(.int k3), (.int k1), (.int k2)])) _
    refine XS.iadd X0.here hx rfl (hb hby d_method_2_code_8) rfl ?_
    show Steps p.tables e below (s₁.setTop (mkF m 9 #[.val (.int k2), .val (.int k1), .val (.int k3)] [(.int (k1 + k3)), (.int k2)])) _
    refine XS.icmpYes X0.here hx rfl (pc0 := 9) (pc' := 16) rfl (hb hby d_method_2_code_9) rfl (flt (h2 : ¬ (k2 < (k1 + k3)))).2.1 (by decide) (by decide) ?_
    show Steps p.tables e below (s₁.setTop (mkF m 16 #[.val (.int k2), .val (.int k1), .val (.int k3)] [])) _
    refine XS.iconst X0.here hx rfl (hb hby d_method_2_code_16) ?_
    show Steps p.tables e below (s₁.setTop (mkF m 17 #[.val (.int k2), .val (.int k1), .val (.int k3)] [(.int (0 : Int32))])) _
    exact retOut X0 hx (t := .boolean) (i := .ireturn) Bd.returns rfl (Or.inl ⟨rfl, Or.inr (Or.inl rfl), _, rfl⟩) (hb hby d_method_2_code_17) hr
  · show Q_ct0 Z k2 k1 k3 r h0 n0 _ s₁.heap _
    rw [e0]
    exact ⟨(by rw [hrr]), N0, rfl⟩
theorem d_method_2_code_12 : decode method_2_code 12 = .ok (.iconst 1, 1) := by decide +kernel
theorem d_method_2_code_13 : decode method_2_code 13 = .ok (.goto 4, 3) := by decide +kernel
theorem ef_ct2 (m : MethodId) (x0 : Int32) (x1 : Int32) (x2 : Int32) : entryFrame m #[(.int x0), (.int x1), (.int x2)] 3 = mkF m 0 #[.val (.int x0), .val (.int x1), .val (.int x2)] [] := by first | (simp [entryFrame, mkF, argsToLocals, Value.category]; done) | rfl
set_option maxRecDepth 65536 in
set_option maxHeartbeats 40000000 in
theorem rm_ct2 (l : Launch) (Z : State) (a0 : Array Value) (hw : ∀ d ∈ tables_1, d.before a0 Z = true) (ws : List Jvm.Cond) (k2 : Int32) (k1 : Int32) (k3 : Int32) (r : Int32) (h0 : Heap) (n0 : Nat) (Z0 : n0 ≤ h0.size) (h1 : ¬ (k2 < k1)) (h2 : k2 < (k1 + k3)) (hrr : r = 1) :
    MetFree l (⟨"com/example/podflow/podflow/simulate/RunLogDecidedPinLaw", "counted", "(III)Z"⟩ : MethodName) (head1 (Jvm.Cond.code (⟨"com/example/podflow/podflow/simulate/RunLogDecidedPinLaw", "counted", "(III)Z"⟩ : MethodName) method_2_code 3 (some .boolean) :: ws) ({ frames := 0, cells := 0, slots := 0, locals := 0 } : Room)) (fun a U => a = #[(.int k2), (.int k1), (.int k3)] ∧ Z.Warmed39 U.vm ∧ U.heap = h0) (fun _ _ _ _ _ => True) (fun _ U o U' => ∃ v L, o = .returned v ∧ Q_ct0 Z k2 k1 k3 r h0 n0 v U'.heap L ∧ FrameEnd U o U' L ({ frames := 0, cells := 0, slots := 0, locals := 0 } : Room).cells ({ frames := 0, cells := 0, slots := 0, locals := 0 } : Room).slots) := by
  refine MetFree.of_bodySF (plainFor_of_name pn_com_example_podflow_podflow_simulate_RunLogDecidedPinLaw) hisR ?_
  intro p e s m args below meth c s₁ Bd hml0 hP hK
  obtain ⟨rfl, hZ, hh⟩ := hP
  have hx := Bd.exec
  have hby := Bd.bytes
  have hml : c.maxLocals = 3 := hml0
  have hown : s.vm.findClass "com/example/podflow/podflow/simulate/RunLogDecidedPinLaw" = some m.cls := findClass_of_methodNamed Bd.named
  have hnm := (name_of_methodNamed Bd.named Bd.method).1
  have X0 : Stand p l e ({ frames := 0, cells := 0, slots := 0, locals := 0 } : Room) s m #[(.int k2), (.int k1), (.int k3)] below meth c s₁ [] 0 0 := Stand.of_body Bd
  have e0 : s₁.heap = h0 := by rw [← hh, Bd.state]; rfl
  have N0 := Fr.nil n0
  have P0 : Keep h0 h0 [] := Keep.refl _ _
  have pre0 : ∀ t, Steps p.tables e below (s₁.setTop (mkF m 0 #[.val (.int k2), .val (.int k1), .val (.int k3)] [])) t → Steps p.tables e below (s₁.setTop (entryFrame m #[(.int k2), (.int k1), (.int k3)] 3)) t := fun t k => castTop (ef_ct2 m k2 k1 k3) k
  obtain ⟨fs, hr, hrun, hended, hW, hsame⟩ := X0.leave (v := some (.int (1 : Int32))) (fun h => by rw [Bd.returns] at h; cases h)
  refine ⟨_, _, pre0 _ ?_, hrun, hended, _, _, rfl, ?_, ⟨_, rfl⟩, hW, hsame.mono (by decide) (by decide)⟩
  · show Steps p.tables e below (s₁.setTop (mkF m 0 #[.val (.int k2), .val (.int k1), .val (.int k3)] [])) _
    refine XS.iloadN X0.here hx rfl (hb hby d_method_2_code_0) rfl ?_
    show Steps p.tables e below (s₁.setTop (mkF m 1 #[.val (.int k2), .val (.int k1), .val (.int k3)] [(.int k2)])) _
    refine XS.iloadN X0.here hx rfl (hb hby d_method_2_code_1) rfl ?_
    show Steps p.tables e below (s₁.setTop (mkF m 2 #[.val (.int k2), .val (.int k1), .val (.int k3)] [(.int k1), (.int k2)])) _
    refine XS.icmpNo X0.here hx rfl (hb hby d_method_2_code_2) rfl (flt (h1 : ¬ (k2 < k1))).1 ?_
    show Steps p.tables e below (s₁.setTop (mkF m 5 #[.val (.int k2), .val (.int k1), .val (.int k3)] [])) _
    refine XS.iloadN X0.here hx rfl (hb hby d_method_2_code_5) rfl ?_
    show Steps p.tables e below (s₁.setTop (mkF m 6 #[.val (.int k2), .val (.int k1), .val (.int k3)] [(.int k2)])) _
    refine XS.iloadN X0.here hx rfl (hb hby d_method_2_code_6) rfl ?_
    show Steps p.tables e below (s₁.setTop (mkF m 7 #[.val (.int k2), .val (.int k1), .val (.int k3)] [(.int k1), (.int k2)])) _
    refine XS.iloadN X0.here hx rfl (hb hby d_method_2_code_7) rfl ?_
    show Steps p.tables e below (s₁.setTop (mkF m 8 #[.val (.int k2), .val (.int k1), .val (.int k3)] [(.int k3), (.int k1), (.int k2)])) _
    refine XS.iadd X0.here hx rfl (hb hby d_method_2_code_8) rfl ?_
    show Steps p.tables e below (s₁.setTop (mkF m 9 #[.val (.int k2), .val (.int k1), .val (.int k3)] [(.int (k1 + k3)), (.int k2)])) _
    refine XS.icmpNo X0.here hx rfl (hb hby d_method_2_code_9) rfl (tlt (h2 : k2 < (k1 + k3))).2.1 ?_
    show Steps p.tables e below (s₁.setTop (mkF m 12 #[.val (.int k2), .val (.int k1), .val (.int k3)] [])) _
    refine XS.iconst X0.here hx rfl (hb hby d_method_2_code_12) ?_
    show Steps p.tables e below (s₁.setTop (mkF m 13 #[.val (.int k2), .val (.int k1), .val (.int k3)] [(.int (1 : Int32))])) _
    refine XS.goto X0.here hx rfl (pc0 := 13) (pc' := 17) rfl (hb hby d_method_2_code_13) (by decide) (by decide) ?_
    show Steps p.tables e below (s₁.setTop (mkF m 17 #[.val (.int k2), .val (.int k1), .val (.int k3)] [(.int (1 : Int32))])) _
    exact retOut X0 hx (t := .boolean) (i := .ireturn) Bd.returns rfl (Or.inl ⟨rfl, Or.inr (Or.inl rfl), _, rfl⟩) (hb hby d_method_2_code_17) hr
  · show Q_ct0 Z k2 k1 k3 r h0 n0 _ s₁.heap _
    rw [e0]
    exact ⟨(by rw [hrr]), N0, rfl⟩
set_option maxRecDepth 65536 in
theorem rm_counted (l : Launch) (Z : State) (a0 : Array Value) (hw : ∀ d ∈ tables_1, d.before a0 Z = true) (ws : List Jvm.Cond) (k2 : Int32) (k1 : Int32) (k3 : Int32) (r : Int32) (h0 : Heap) (n0 : Nat) (Z0 : n0 ≤ h0.size) (hj : (k2 < k1 ∧ r = 0) ∨ (¬ (k2 < k1) ∧ ¬ (k2 < (k1 + k3)) ∧ r = 0) ∨ (¬ (k2 < k1) ∧ k2 < (k1 + k3) ∧ r = 1)) :
    MetFree l (⟨"com/example/podflow/podflow/simulate/RunLogDecidedPinLaw", "counted", "(III)Z"⟩ : MethodName) (head1 (Jvm.Cond.code (⟨"com/example/podflow/podflow/simulate/RunLogDecidedPinLaw", "counted", "(III)Z"⟩ : MethodName) method_2_code 3 (some .boolean) :: ws) ({ frames := 0, cells := 0, slots := 0, locals := 0 } : Room)) (fun a U => a = #[(.int k2), (.int k1), (.int k3)] ∧ Z.Warmed39 U.vm ∧ U.heap = h0) (fun _ _ _ _ _ => True) (fun _ U o U' => ∃ v L, o = .returned v ∧ Q_ct0 Z k2 k1 k3 r h0 n0 v U'.heap L ∧ FrameEnd U o U' L ({ frames := 0, cells := 0, slots := 0, locals := 0 } : Room).cells ({ frames := 0, cells := 0, slots := 0, locals := 0 } : Room).slots) := by
  rcases hj with ⟨h1, hrr⟩ | ⟨h1, h2, hrr⟩ | ⟨h1, h2, hrr⟩
  · exact rm_ct0 l Z a0 hw ws k2 k1 k3 r h0 n0 Z0  h1 hrr
  · exact rm_ct1 l Z a0 hw ws k2 k1 k3 r h0 n0 Z0  h1 h2 hrr
  · exact rm_ct2 l Z a0 hw ws k2 k1 k3 r h0 n0 Z0  h1 h2 hrr
theorem own_w (x : Int32) : 0 ≤ (x &&& (3 : Int32)).toInt ∧ (x &&& (3 : Int32)).toInt ≤ 3 := by
  have h := c_and x (3 : Int32) (by decide); rw [show (3 : Int32).toInt = 3 by decide] at h; exact h
theorem own_c (x : Int32) : 0 ≤ ((x &&& (2147483647 : Int32)) % (3 : Int32)).toInt ∧ ((x &&& (2147483647 : Int32)) % (3 : Int32)).toInt ≤ 2 := by
  have h := c_and x (2147483647 : Int32) (by decide)
  have q := (c_irem (x &&& (2147483647 : Int32)) (3 : Int32) 3 (by decide)).1 h.1
  rw [q]; omega
theorem own_n (x : Int32) : -1 ≤ ((x &&& (7 : Int32)) - (1 : Int32)).toInt ∧ ((x &&& (7 : Int32)) - (1 : Int32)).toInt ≤ 6 := by
  have h := c_and x (7 : Int32) (by decide); rw [show (7 : Int32).toInt = 7 by decide] at h
  have q := c_isub (x &&& (7 : Int32)) 1; rw [show (1 : Int32).toInt = 1 by decide] at q
  have r := rng32 ((x &&& (7 : Int32)) - (1 : Int32))
  omega
theorem own_lt {a b : Int32} : a < b ↔ a.toInt < b.toInt := Int32.lt_iff_toInt_lt
theorem own_z : (0 : Int32).toInt = 0 := by decide
theorem own_o : (1 : Int32).toInt = 1 := by decide
theorem own_cneg {k : Int32} (h : 0 ≤ k.toInt ∧ k.toInt ≤ 2) : ¬ (k < (0 : Int32)) ∧ (k).toNatClampNeg ≤ 2 := by
  have h1 : ¬ (k < (0 : Int32)) := by rw [own_lt, own_z]; omega
  have := nat_of h1
  exact ⟨h1, by omega⟩
/-- whether a number is counted, both ways of saying it -/
theorem own_both {n w k : Int32} (hn : -1 ≤ n.toInt ∧ n.toInt ≤ 6) (hw : 0 ≤ w.toInt ∧ w.toInt ≤ 3) (hk : 0 ≤ k.toInt ∧ k.toInt ≤ 2) (j : Int64) : ∃ (r : Int32) (q : Int64),
    ((¬ ((n - w) < (0 : Int32)) ∧ (n - w) < k ∧ q = j) ∨ (((n - w) < (0 : Int32) ∨ ¬ ((n - w) < k)) ∧ q = 0)) ∧
    ((n < w ∧ r = 0) ∨ (¬ (n < w) ∧ ¬ (n < (w + k)) ∧ r = 0) ∨ (¬ (n < w) ∧ n < (w + k) ∧ r = 1)) ∧ ((r = 1 ∧ q = j) ∨ (r = 0 ∧ q = 0)) := by
  have e1 : (n - w).toInt = n.toInt - w.toInt := by have := c_isub n w; have := rng32 (n - w); omega
  have e2 : (w + k).toInt = w.toInt + k.toInt := by have := c_iadd w k; have := rng32 (w + k); omega
  simp only [own_lt, e1, e2, own_z]
  by_cases h1 : n.toInt < w.toInt
  · exact ⟨0, 0, Or.inr ⟨Or.inl (by omega), rfl⟩, Or.inl ⟨h1, rfl⟩, Or.inr ⟨rfl, rfl⟩⟩
  · by_cases h2 : n.toInt < w.toInt + k.toInt
    · exact ⟨1, j, Or.inl ⟨by omega, by omega, rfl⟩, Or.inr (Or.inr ⟨h1, h2, rfl⟩), Or.inl ⟨rfl, rfl⟩⟩
    · exact ⟨0, 0, Or.inr ⟨Or.inr (by omega), rfl⟩, Or.inr (Or.inl ⟨h1, h2, rfl⟩), Or.inr ⟨rfl, rfl⟩⟩
/-- the two that are picked up: as many as are counted -/
theorem own_two {w k : Int32} (hw : 0 ≤ w.toInt ∧ w.toInt ≤ 3) (hk : 0 ≤ k.toInt ∧ k.toInt ≤ 2) : ∃ (r s : Int32),
    ((¬ ((w - w) < (0 : Int32)) ∧ (w - w) < k ∧ r = 1) ∨ (((w - w) < (0 : Int32) ∨ ¬ ((w - w) < k)) ∧ r = 0)) ∧
    ((¬ (((w + (1 : Int32)) - w) < (0 : Int32)) ∧ ((w + (1 : Int32)) - w) < k ∧ s = 1) ∨ ((((w + (1 : Int32)) - w) < (0 : Int32) ∨ ¬ (((w + (1 : Int32)) - w) < k)) ∧ s = 0)) ∧ ((0 : Int32) + r) + s = k := by
  have e1 : (w - w).toInt = 0 := by have := c_isub w w; have := rng32 (w - w); omega
  have e2 : (w + (1 : Int32)).toInt = w.toInt + 1 := by have := c_iadd w 1; rw [own_o] at this; have := rng32 (w + (1 : Int32)); omega
  have e3 : ((w + (1 : Int32)) - w).toInt = 1 := by have := c_isub (w + (1 : Int32)) w; have := rng32 ((w + (1 : Int32)) - w); omega
  simp only [own_lt, e1, e3, own_z]
  have hc : k.toInt = 0 ∨ k.toInt = 1 ∨ k.toInt = 2 := by omega
  rcases hc with h | h | h
  · exact ⟨0, 0, Or.inr ⟨Or.inr (by omega), rfl⟩, Or.inr ⟨Or.inr (by omega), rfl⟩, Int32.toInt_inj.mp (by rw [h]; decide)⟩
  · exact ⟨1, 0, Or.inl ⟨by omega, by omega, rfl⟩, Or.inr ⟨Or.inr (by omega), rfl⟩, Int32.toInt_inj.mp (by rw [h]; decide)⟩
  · exact ⟨1, 1, Or.inl ⟨by omega, by omega, rfl⟩, Or.inl ⟨by omega, by omega, rfl⟩, Int32.toInt_inj.mp (by rw [h]; decide)⟩
theorem pd_28IIDD29V : parseMethodDescriptor "(IIDD)V" = some ⟨[.int, .int, .double, .double], none⟩ := by decide +kernel
theorem pd_28IDII29V : parseMethodDescriptor "(IDII)V" = some ⟨[.int, .double, .int, .int], none⟩ := by decide +kernel
theorem pd_28Lcom2fexample2fpodflow2fpodflow2fsimulate2fRequest3bD29V : parseMethodDescriptor "(Lcom/example/podflow/podflow/simulate/Request;D)V" = some ⟨[(.object "com/example/podflow/podflow/simulate/Request"), .double], none⟩ := by decide +kernel
theorem pd_28Lcom2fexample2fpodflow2fpodflow2fsimulate2fRequest3bJ29V : parseMethodDescriptor "(Lcom/example/podflow/podflow/simulate/Request;J)V" = some ⟨[(.object "com/example/podflow/podflow/simulate/Request"), .long], none⟩ := by decide +kernel
theorem pd_2829Lcom2fexample2fpodflow2fpodflow2fsimulate2fRunLog24RunResult3b : parseMethodDescriptor "()Lcom/example/podflow/podflow/simulate/RunLog$RunResult;" = some ⟨[], some (.object "com/example/podflow/podflow/simulate/RunLog$RunResult")⟩ := by decide +kernel
theorem pd_28III29Z : parseMethodDescriptor "(III)Z" = some ⟨[.int, .int, .int], some .boolean⟩ := by decide +kernel
theorem ef_law (m : MethodId) (x0 : Int32) (x1 : Int32) (x2 : Int32) (x3 : Int32) (x4 : Int64) (x5 : Int64) : entryFrame m #[(.int x0), (.int x1), (.int x2), (.int x3), (.long x4), (.long x5)] maxLocals = mkF m 0 #[.val (.int x0), .val (.int x1), .val (.int x2), .val (.int x3), .val (.long x4), .second, .val (.long x5), .second, .unset, .unset, .unset, .unset, .unset, .unset, .unset, .unset, .unset, .unset, .unset, .unset, .unset, .unset] [] := by first | (simp [entryFrame, mkF, argsToLocals, Value.category, maxLocals]; done) | rfl
def Q_law (Z : State) (p1 : Int32) (p2 : Int32) (p3 : Int32) (p4 : Int32) (p5 : Int64) (p6 : Int64) (h0 : Heap) (n0 : Nat) (v : Option Value) (h : Heap) (L : List Loc) : Prop := v = some (.int (1 : Int32)) ∧ Fr n0 L
set_option maxRecDepth 65536 in
set_option maxHeartbeats 40000000 in
theorem rm_law (l : Launch) (Z : State) (a0 : Array Value) (hw : ∀ d ∈ tables_1, d.before a0 Z = true) (ws : List Jvm.Cond) (p1 : Int32) (p2 : Int32) (p3 : Int32) (p4 : Int32) (p5 : Int64) (p6 : Int64) (h0 : Heap) (n0 : Nat) (Z0 : n0 ≤ h0.size)  :
    MetFree l x (head1 (Jvm.Cond.code x code maxLocals ret :: ws) room_1) (fun a U => a = #[(.int p1), (.int p2), (.int p3), (.int p4), (.long p5), (.long p6)] ∧ Z.Warmed39 U.vm ∧ U.heap = h0) (fun _ _ _ _ _ => True) (fun _ U o U' => ∃ v L, o = .returned v ∧ Q_law Z p1 p2 p3 p4 p5 p6 h0 n0 v U'.heap L ∧ FrameEnd U o U' L room_1.cells room_1.slots) := by
  refine MetFree.of_bodySF (plainFor_of_name pn_com_example_podflow_podflow_simulate_RunLogDecidedPinLaw) hisR ?_
  intro p e s m args below meth c s₁ Bd hml0 hP hK
  obtain ⟨rfl, hZ, hh⟩ := hP
  have hx := Bd.exec
  have hby := Bd.bytes
  have hml : c.maxLocals = 22 := hml0
  have hown : s.vm.findClass "com/example/podflow/podflow/simulate/RunLogDecidedPinLaw" = some m.cls := findClass_of_methodNamed Bd.named
  have hnm := (name_of_methodNamed Bd.named Bd.method).1
  have X0 : Stand p l e room_1 s m #[(.int p1), (.int p2), (.int p3), (.int p4), (.long p5), (.long p6)] below meth c s₁ [] 0 0 := Stand.of_body Bd
  have e0 : s₁.heap = h0 := by rw [← hh, Bd.state]; rfl
  have N0 := Fr.nil n0
  have P0 : Keep h0 h0 [] := Keep.refl _ _
  have pre0 : ∀ t, Steps p.tables e below (s₁.setTop (mkF m 0 #[.val (.int p1), .val (.int p2), .val (.int p3), .val (.int p4), .val (.long p5), .second, .val (.long p6), .second, .unset, .unset, .unset, .unset, .unset, .unset, .unset, .unset, .unset, .unset, .unset, .unset, .unset, .unset] [])) t → Steps p.tables e below (s₁.setTop (entryFrame m #[(.int p1), (.int p2), (.int p3), (.int p4), (.long p5), (.long p6)] maxLocals)) t := fun t k => castTop (ef_law m p1 p2 p3 p4 p5 p6) k
  have hwb := own_w p1
  have hcb := own_c p2
  obtain ⟨rA, rB, hjA, hjB, hAB⟩ := own_two hwb hcb
  obtain ⟨sA, qA, hdA, hcA, heA⟩ := own_both (own_n p3) hwb hcb p5
  obtain ⟨sB, qB, hdB, hcB, heB⟩ := own_both (own_n p4) hwb hcb p6
  obtain ⟨T1, h1, X1, e1, E1, A1, D1, -, st1⟩ := newO X0 hx hZ hown (hw _ (List.mem_of_getElem? (i := 1) rfl)) (hw _ (List.mem_of_getElem? (i := 2) rfl)) (hw _ (List.mem_of_getElem? (i := 3) rfl)) e0 (g := (mkF m 29 #[.val (.int p1), .val (.int p2), .val (.int p3), .val (.int p4), .val (.long p5), .second, .val (.long p6), .second, .val (.int (p1 &&& (3 : Int32))), .val (.int ((p2 &&& (2147483647 : Int32)) % (3 : Int32))), .val (.int ((p3 &&& (7 : Int32)) - (1 : Int32))), .val (.int ((p4 &&& (7 : Int32)) - (1 : Int32))), .unset, .unset, .unset, .unset, .unset, .unset, .unset, .unset, .unset, .unset] [])) rfl (hb hby at_29) (by decide) (by decide)
  obtain ⟨bl, g1⟩ : ∃ z, z = h0.size := ⟨_, rfl⟩
  rw [← g1] at A1 D1 st1
  have ge_bl : n0 ≤ bl := Nat.le_trans (Nat.le_trans Z0 P0.1) (Nat.le_of_eq g1.symm)
  have sz_bl : h0.size ≤ bl := Nat.le_trans P0.1 (Nat.le_of_eq g1.symm)
  have P2 : Keep h0 h1 [] := P0.ext E1
  have F3 : Fld Z h1 bl "com/example/podflow/podflow/simulate/RunLog" "warmup" "I" (.int (0 : Int32)) := D1 (Or.inr (hw _ (List.mem_of_getElem? (i := 11) rfl))) (ty := .int) (by decide)
  have F4 : Fld Z h1 bl "com/example/podflow/podflow/simulate/RunLog" "windowStart" "D" (.double (0 : UInt64)) := D1 (Or.inr (hw _ (List.mem_of_getElem? (i := 13) rfl))) (ty := .double) (by decide)
  have F5 : Fld Z h1 bl "com/example/podflow/podflow/simulate/RunLog" "windowEnd" "D" (.double (0 : UInt64)) := D1 (Or.inr (hw _ (List.mem_of_getElem? (i := 15) rfl))) (ty := .double) (by decide)
  have F6 : Fld Z h1 bl "com/example/podflow/podflow/simulate/RunLog" "waits" "[D" .null := D1 (Or.inr (hw _ (List.mem_of_getElem? (i := 18) rfl))) (ty := (.array .double)) (by decide)
  have F7 : Fld Z h1 bl "com/example/podflow/podflow/simulate/RunLog" "pickedUp" "I" (.int (0 : Int32)) := D1 (Or.inl (hw _ (List.mem_of_getElem? (i := 64) rfl))) (ty := .int) (by decide)
  have F8 : Fld Z h1 bl "com/example/podflow/podflow/simulate/RunLog" "movingSeconds" "D" (.double (0 : UInt64)) := D1 (Or.inl (hw _ (List.mem_of_getElem? (i := 69) rfl))) (ty := .double) (by decide)
  have F9 : Fld Z h1 bl "com/example/podflow/podflow/simulate/RunLog" "emptySeconds" "D" (.double (0 : UInt64)) := D1 (Or.inl (hw _ (List.mem_of_getElem? (i := 71) rfl))) (ty := .double) (by decide)
  have F10 : Fld Z h1 bl "com/example/podflow/podflow/simulate/RunLog" "backlog" "I" (.int (0 : Int32)) := D1 (Or.inl (hw _ (List.mem_of_getElem? (i := 73) rfl))) (ty := .int) (by decide)
  have F11 : Fld Z h1 bl "com/example/podflow/podflow/simulate/RunLog" "decisionNanos" "J" (.long (0 : Int64)) := D1 (Or.inl (hw _ (List.mem_of_getElem? (i := 75) rfl))) (ty := .long) (by decide)
  obtain ⟨_, _, ⟨T12, L12, k12, n12⟩, -, X12, ⟨Lc12, hQ12, l12, y12, z12⟩, st12⟩ := X1.specialBack hx (y := (⟨"com/example/podflow/podflow/simulate/RunLog", "<init>", "(IIDD)V"⟩ : MethodName)) rfl hown (mvT hZ (hw _ (List.mem_of_getElem? (i := 4) rfl))) (mvT hZ (hw _ (List.mem_of_getElem? (i := 5) rfl))) (mvT hZ (hw _ (List.mem_of_getElem? (i := 6) rfl))) (by decide) (backOf (W := 1) (rm_lini l Z a0 hw [] bl (p1 &&& (3 : Int32)) ((p2 &&& (2147483647 : Int32)) % (3 : Int32)) (.int (0 : Int32)) (.double (0 : UInt64)) (.double (0 : UInt64)) .null h1 n0 (Nat.le_trans Z0 P2.1) A1 F3 F4 F5 F6 F7 F8 F9 F10 F11 ge_bl (own_cneg hcb).1 (own_cneg hcb).2) hZ (hw _ (List.mem_of_getElem? (i := 6) rfl)) (hw _ (List.mem_of_getElem? (i := 3) rfl)) (by decide) (by decide)) (g := (mkF m 39 #[.val (.int p1), .val (.int p2), .val (.int p3), .val (.int p4), .val (.long p5), .second, .val (.long p6), .second, .val (.int (p1 &&& (3 : Int32))), .val (.int ((p2 &&& (2147483647 : Int32)) % (3 : Int32))), .val (.int ((p3 &&& (7 : Int32)) - (1 : Int32))), .val (.int ((p4 &&& (7 : Int32)) - (1 : Int32))), .unset, .unset, .unset, .unset, .unset, .unset, .unset, .unset, .unset, .unset] [(.double FP.dconst1), (.double FP.dconst0), (.int ((p2 &&& (2147483647 : Int32)) % (3 : Int32))), (.int (p1 &&& (3 : Int32))), (.ref bl), (.ref bl)])) rfl (by rw [hml]; rfl) (Steps.refl _) (a := bl) (argsL := [(.int (p1 &&& (3 : Int32))), (.int ((p2 &&& (2147483647 : Int32)) % (3 : Int32))), (.double FP.dconst0), (.double FP.dconst1)]) (rest := [(.ref bl)]) (lenOf pd_28IIDD29V rfl) rfl (by show 2 * 0 + _ ≤ _; exact Nat.le_of_eq rfl) (hb hby at_39) (fun _ _ => ⟨rfl, e1, (by decide : 1 + 1 ≤ _), (by decide : 9 + 2 ≤ _)⟩)
  dsimp only [Pt.U, Pt.locs, Pt.cells, Pt.slots] at X12 l12 y12 z12 st12 hQ12
  subst l12 y12 z12
  obtain ⟨bt, kk, rfl, N12q, K12, r12_0, r12_1, r12_2, r12_3, r12_4, r12_5, r12_6, r12_7, r12_8, r12_9, r12_10, r12_11, r12_12⟩ := hQ12
  have N12 := Fr.app N0 N12q
  have ne_bl_bt : bl ≠ bt := Nat.ne_of_lt (Nat.lt_of_lt_of_le A1.lt r12_0)
  have ge_bt : n0 ≤ bt := Nat.le_trans (Nat.le_trans Z0 P2.1) r12_0
  have sz_bt : h0.size ≤ bt := Nat.le_trans P2.1 r12_0
  have P13 : Keep h0 T12.heap [] := P2.trans K12 (allS (Or.inr sz_bl) all0)
  obtain ⟨T14, h14, X14, e14, E14, A14, D14, -, st14⟩ := newO X12 hx hZ hown (hw _ (List.mem_of_getElem? (i := 19) rfl)) (hw _ (List.mem_of_getElem? (i := 20) rfl)) (hw _ (List.mem_of_getElem? (i := 21) rfl)) rfl (g := (mkF m 44 #[.val (.int p1), .val (.int p2), .val (.int p3), .val (.int p4), .val (.long p5), .second, .val (.long p6), .second, .val (.int (p1 &&& (3 : Int32))), .val (.int ((p2 &&& (2147483647 : Int32)) % (3 : Int32))), .val (.int ((p3 &&& (7 : Int32)) - (1 : Int32))), .val (.int ((p4 &&& (7 : Int32)) - (1 : Int32))), .val (.ref bl), .unset, .unset, .unset, .unset, .unset, .unset, .unset, .unset, .unset] [])) rfl (hb hby at_44) (by decide) (by decide)
  obtain ⟨b0, g14⟩ : ∃ z, z = T12.heap.size := ⟨_, rfl⟩
  rw [← g14] at A14 D14 st14
  have ne_bl_b0 : bl ≠ b0 := Nat.ne_of_lt (Nat.lt_of_lt_of_eq r12_2.lt g14.symm)
  have ne_bt_b0 : bt ≠ b0 := Nat.ne_of_lt (Nat.lt_of_lt_of_eq r12_12.lt g14.symm)
  have ge_b0 : n0 ≤ b0 := Nat.le_trans (Nat.le_trans Z0 P13.1) (Nat.le_of_eq g14.symm)
  have sz_b0 : h0.size ≤ b0 := Nat.le_trans P13.1 (Nat.le_of_eq g14.symm)
  have P15 : Keep h0 h14 [] := P13.ext E14
  have F16 : Fld Z h14 b0 "com/example/podflow/podflow/simulate/Request" "number" "I" (.int (0 : Int32)) := D14 (Or.inr (hw _ (List.mem_of_getElem? (i := 32) rfl))) (ty := .int) (by decide)
  have F17 : Fld Z h14 b0 "com/example/podflow/podflow/simulate/Request" "time" "D" (.double (0 : UInt64)) := D14 (Or.inr (hw _ (List.mem_of_getElem? (i := 34) rfl))) (ty := .double) (by decide)
  have F18 : Fld Z h14 b0 "com/example/podflow/podflow/simulate/Request" "origin" "I" (.int (0 : Int32)) := D14 (Or.inr (hw _ (List.mem_of_getElem? (i := 36) rfl))) (ty := .int) (by decide)
  have F19 : Fld Z h14 b0 "com/example/podflow/podflow/simulate/Request" "destination" "I" (.int (0 : Int32)) := D14 (Or.inr (hw _ (List.mem_of_getElem? (i := 38) rfl))) (ty := .int) (by decide)
  obtain ⟨_, _, ⟨T20, L20, k20, n20⟩, -, X20, ⟨Lc20, hQ20, l20, y20, z20⟩, st20⟩ := X14.specialBack hx (y := (⟨"com/example/podflow/podflow/simulate/Request", "<init>", "(IDII)V"⟩ : MethodName)) rfl hown (mvT hZ (hw _ (List.mem_of_getElem? (i := 22) rfl))) (mvT hZ (hw _ (List.mem_of_getElem? (i := 23) rfl))) (mvT hZ (hw _ (List.mem_of_getElem? (i := 24) rfl))) (by decide) (backOf (W := 1) (rm_qini l Z a0 hw [] b0 (p1 &&& (3 : Int32)) (.int (0 : Int32)) (.double (0 : UInt64)) (.int (0 : Int32)) (.int (0 : Int32)) h14 n0 (Nat.le_trans Z0 P15.1) A14 F16 F17 F18 F19 ge_b0) hZ (hw _ (List.mem_of_getElem? (i := 24) rfl)) (hw _ (List.mem_of_getElem? (i := 21) rfl)) (by decide) (by decide)) (g := (mkF m 53 #[.val (.int p1), .val (.int p2), .val (.int p3), .val (.int p4), .val (.long p5), .second, .val (.long p6), .second, .val (.int (p1 &&& (3 : Int32))), .val (.int ((p2 &&& (2147483647 : Int32)) % (3 : Int32))), .val (.int ((p3 &&& (7 : Int32)) - (1 : Int32))), .val (.int ((p4 &&& (7 : Int32)) - (1 : Int32))), .val (.ref bl), .unset, .unset, .unset, .unset, .unset, .unset, .unset, .unset, .unset] [(.int (0 : Int32)), (.int (0 : Int32)), (.double FP.dconst0), (.int (p1 &&& (3 : Int32))), (.ref b0), (.ref b0)])) rfl (by rw [hml]; rfl) (Steps.refl _) (a := b0) (argsL := [(.int (p1 &&& (3 : Int32))), (.double FP.dconst0), (.int (0 : Int32)), (.int (0 : Int32))]) (rest := [(.ref b0)]) (lenOf pd_28IDII29V rfl) rfl (by show 2 * 0 + _ ≤ _; exact Nat.le_of_eq rfl) (hb hby at_53) (fun _ _ => ⟨rfl, e14, (by decide : 3 + 0 ≤ _), (by decide : 15 + 0 ≤ _)⟩)
  dsimp only [Pt.U, Pt.locs, Pt.cells, Pt.slots] at X20 l20 y20 z20 st20 hQ20
  subst l20 y20 z20
  obtain ⟨rfl, N20q, K20, r20_0, r20_1, r20_2, r20_3, r20_4⟩ := hQ20
  have N20 := Fr.app N12 N20q
  have P21 : Keep h0 T20.heap [] := P15.trans K20 (allS (Or.inr sz_b0) all0)
  obtain ⟨T22, h22, X22, e22, E22, A22, D22, -, st22⟩ := newO X20 hx hZ hown (hw _ (List.mem_of_getElem? (i := 19) rfl)) (hw _ (List.mem_of_getElem? (i := 20) rfl)) (hw _ (List.mem_of_getElem? (i := 21) rfl)) rfl (g := (mkF m 58 #[.val (.int p1), .val (.int p2), .val (.int p3), .val (.int p4), .val (.long p5), .second, .val (.long p6), .second, .val (.int (p1 &&& (3 : Int32))), .val (.int ((p2 &&& (2147483647 : Int32)) % (3 : Int32))), .val (.int ((p3 &&& (7 : Int32)) - (1 : Int32))), .val (.int ((p4 &&& (7 : Int32)) - (1 : Int32))), .val (.ref bl), .val (.ref b0), .unset, .unset, .unset, .unset, .unset, .unset, .unset, .unset] [])) rfl (hb hby at_58) (by decide) (by decide)
  obtain ⟨b1, g22⟩ : ∃ z, z = T20.heap.size := ⟨_, rfl⟩
  rw [← g22] at A22 D22 st22
  have E23 : Exa Z T20.heap bl "com/example/podflow/podflow/simulate/RunLog" := ((Exa.ext E14 r12_2).keep K20)
  have ne_bl_b1 : bl ≠ b1 := Nat.ne_of_lt (Nat.lt_of_lt_of_eq E23.lt g22.symm)
  have ne_b0_b1 : b0 ≠ b1 := Nat.ne_of_lt (Nat.lt_of_lt_of_eq r20_0.lt g22.symm)
  have A24 : Arv Z T20.heap bt kk .double ((p2 &&& (2147483647 : Int32)) % (3 : Int32)) (List.replicate 2 (.double (0 : UInt64))) (.double (0 : UInt64)) := ((r12_12.ext E14).keep K20 (ninS ne_bt_b0 nin0))
  have ne_bt_b1 : bt ≠ b1 := Nat.ne_of_lt (Nat.lt_of_lt_of_eq A24.lt g22.symm)
  have ge_b1 : n0 ≤ b1 := Nat.le_trans (Nat.le_trans Z0 P21.1) (Nat.le_of_eq g22.symm)
  have sz_b1 : h0.size ≤ b1 := Nat.le_trans P21.1 (Nat.le_of_eq g22.symm)
  have P25 : Keep h0 h22 [] := P21.ext E22
  have F26 : Fld Z h22 b1 "com/example/podflow/podflow/simulate/Request" "number" "I" (.int (0 : Int32)) := D22 (Or.inr (hw _ (List.mem_of_getElem? (i := 32) rfl))) (ty := .int) (by decide)
  have F27 : Fld Z h22 b1 "com/example/podflow/podflow/simulate/Request" "time" "D" (.double (0 : UInt64)) := D22 (Or.inr (hw _ (List.mem_of_getElem? (i := 34) rfl))) (ty := .double) (by decide)
  have F28 : Fld Z h22 b1 "com/example/podflow/podflow/simulate/Request" "origin" "I" (.int (0 : Int32)) := D22 (Or.inr (hw _ (List.mem_of_getElem? (i := 36) rfl))) (ty := .int) (by decide)
  have F29 : Fld Z h22 b1 "com/example/podflow/podflow/simulate/Request" "destination" "I" (.int (0 : Int32)) := D22 (Or.inr (hw _ (List.mem_of_getElem? (i := 38) rfl))) (ty := .int) (by decide)
  obtain ⟨_, _, ⟨T30, L30, k30, n30⟩, -, X30, ⟨Lc30, hQ30, l30, y30, z30⟩, st30⟩ := X22.specialBack hx (y := (⟨"com/example/podflow/podflow/simulate/Request", "<init>", "(IDII)V"⟩ : MethodName)) rfl hown (mvT hZ (hw _ (List.mem_of_getElem? (i := 22) rfl))) (mvT hZ (hw _ (List.mem_of_getElem? (i := 23) rfl))) (mvT hZ (hw _ (List.mem_of_getElem? (i := 24) rfl))) (by decide) (backOf (W := 1) (rm_qini l Z a0 hw [] b1 ((p1 &&& (3 : Int32)) + (1 : Int32)) (.int (0 : Int32)) (.double (0 : UInt64)) (.int (0 : Int32)) (.int (0 : Int32)) h22 n0 (Nat.le_trans Z0 P25.1) A22 F26 F27 F28 F29 ge_b1) hZ (hw _ (List.mem_of_getElem? (i := 24) rfl)) (hw _ (List.mem_of_getElem? (i := 21) rfl)) (by decide) (by decide)) (g := (mkF m 69 #[.val (.int p1), .val (.int p2), .val (.int p3), .val (.int p4), .val (.long p5), .second, .val (.long p6), .second, .val (.int (p1 &&& (3 : Int32))), .val (.int ((p2 &&& (2147483647 : Int32)) % (3 : Int32))), .val (.int ((p3 &&& (7 : Int32)) - (1 : Int32))), .val (.int ((p4 &&& (7 : Int32)) - (1 : Int32))), .val (.ref bl), .val (.ref b0), .unset, .unset, .unset, .unset, .unset, .unset, .unset, .unset] [(.int (0 : Int32)), (.int (0 : Int32)), (.double FP.dconst0), (.int ((p1 &&& (3 : Int32)) + (1 : Int32))), (.ref b1), (.ref b1)])) rfl (by rw [hml]; rfl) (Steps.refl _) (a := b1) (argsL := [(.int ((p1 &&& (3 : Int32)) + (1 : Int32))), (.double FP.dconst0), (.int (0 : Int32)), (.int (0 : Int32))]) (rest := [(.ref b1)]) (lenOf pd_28IDII29V rfl) rfl (by show 2 * 0 + _ ≤ _; exact Nat.le_of_eq rfl) (hb hby at_69) (fun _ _ => ⟨rfl, e22, (by decide : 4 + 0 ≤ _), (by decide : 19 + 0 ≤ _)⟩)
  dsimp only [Pt.U, Pt.locs, Pt.cells, Pt.slots] at X30 l30 y30 z30 st30 hQ30
  subst l30 y30 z30
  obtain ⟨rfl, N30q, K30, r30_0, r30_1, r30_2, r30_3, r30_4⟩ := hQ30
  have N30 := Fr.app N20 N30q
  have P31 : Keep h0 T30.heap [] := P25.trans K30 (allS (Or.inr sz_b1) all0)
  obtain ⟨T32, h32, X32, e32, E32, A32, D32, -, st32⟩ := newO X30 hx hZ hown (hw _ (List.mem_of_getElem? (i := 19) rfl)) (hw _ (List.mem_of_getElem? (i := 20) rfl)) (hw _ (List.mem_of_getElem? (i := 21) rfl)) rfl (g := (mkF m 74 #[.val (.int p1), .val (.int p2), .val (.int p3), .val (.int p4), .val (.long p5), .second, .val (.long p6), .second, .val (.int (p1 &&& (3 : Int32))), .val (.int ((p2 &&& (2147483647 : Int32)) % (3 : Int32))), .val (.int ((p3 &&& (7 : Int32)) - (1 : Int32))), .val (.int ((p4 &&& (7 : Int32)) - (1 : Int32))), .val (.ref bl), .val (.ref b0), .val (.ref b1), .unset, .unset, .unset, .unset, .unset, .unset, .unset] [])) rfl (hb hby at_74) (by decide) (by decide)
  obtain ⟨ba, g32⟩ : ∃ z, z = T30.heap.size := ⟨_, rfl⟩
  rw [← g32] at A32 D32 st32
  have E33 : Exa Z T30.heap bl "com/example/podflow/podflow/simulate/RunLog" := ((Exa.ext E22 E23).keep K30)
  have ne_bl_ba : bl ≠ ba := Nat.ne_of_lt (Nat.lt_of_lt_of_eq E33.lt g32.symm)
  have E34 : Exa Z T30.heap b0 "com/example/podflow/podflow/simulate/Request" := ((Exa.ext E22 r20_0).keep K30)
  have ne_b0_ba : b0 ≠ ba := Nat.ne_of_lt (Nat.lt_of_lt_of_eq E34.lt g32.symm)
  have ne_b1_ba : b1 ≠ ba := Nat.ne_of_lt (Nat.lt_of_lt_of_eq r30_0.lt g32.symm)
  have A35 : Arv Z T30.heap bt kk .double ((p2 &&& (2147483647 : Int32)) % (3 : Int32)) (List.replicate 2 (.double (0 : UInt64))) (.double (0 : UInt64)) := ((A24.ext E22).keep K30 (ninS ne_bt_b1 nin0))
  have ne_bt_ba : bt ≠ ba := Nat.ne_of_lt (Nat.lt_of_lt_of_eq A35.lt g32.symm)
  have ge_ba : n0 ≤ ba := Nat.le_trans (Nat.le_trans Z0 P31.1) (Nat.le_of_eq g32.symm)
  have sz_ba : h0.size ≤ ba := Nat.le_trans P31.1 (Nat.le_of_eq g32.symm)
  have P36 : Keep h0 h32 [] := P31.ext E32
  have F37 : Fld Z h32 ba "com/example/podflow/podflow/simulate/Request" "number" "I" (.int (0 : Int32)) := D32 (Or.inr (hw _ (List.mem_of_getElem? (i := 32) rfl))) (ty := .int) (by decide)
  have F38 : Fld Z h32 ba "com/example/podflow/podflow/simulate/Request" "time" "D" (.double (0 : UInt64)) := D32 (Or.inr (hw _ (List.mem_of_getElem? (i := 34) rfl))) (ty := .double) (by decide)
  have F39 : Fld Z h32 ba "com/example/podflow/podflow/simulate/Request" "origin" "I" (.int (0 : Int32)) := D32 (Or.inr (hw _ (List.mem_of_getElem? (i := 36) rfl))) (ty := .int) (by decide)
  have F40 : Fld Z h32 ba "com/example/podflow/podflow/simulate/Request" "destination" "I" (.int (0 : Int32)) := D32 (Or.inr (hw _ (List.mem_of_getElem? (i := 38) rfl))) (ty := .int) (by decide)
  obtain ⟨_, _, ⟨T41, L41, k41, n41⟩, -, X41, ⟨Lc41, hQ41, l41, y41, z41⟩, st41⟩ := X32.specialBack hx (y := (⟨"com/example/podflow/podflow/simulate/Request", "<init>", "(IDII)V"⟩ : MethodName)) rfl hown (mvT hZ (hw _ (List.mem_of_getElem? (i := 22) rfl))) (mvT hZ (hw _ (List.mem_of_getElem? (i := 23) rfl))) (mvT hZ (hw _ (List.mem_of_getElem? (i := 24) rfl))) (by decide) (backOf (W := 1) (rm_qini l Z a0 hw [] ba ((p3 &&& (7 : Int32)) - (1 : Int32)) (.int (0 : Int32)) (.double (0 : UInt64)) (.int (0 : Int32)) (.int (0 : Int32)) h32 n0 (Nat.le_trans Z0 P36.1) A32 F37 F38 F39 F40 ge_ba) hZ (hw _ (List.mem_of_getElem? (i := 24) rfl)) (hw _ (List.mem_of_getElem? (i := 21) rfl)) (by decide) (by decide)) (g := (mkF m 83 #[.val (.int p1), .val (.int p2), .val (.int p3), .val (.int p4), .val (.long p5), .second, .val (.long p6), .second, .val (.int (p1 &&& (3 : Int32))), .val (.int ((p2 &&& (2147483647 : Int32)) % (3 : Int32))), .val (.int ((p3 &&& (7 : Int32)) - (1 : Int32))), .val (.int ((p4 &&& (7 : Int32)) - (1 : Int32))), .val (.ref bl), .val (.ref b0), .val (.ref b1), .unset, .unset, .unset, .unset, .unset, .unset, .unset] [(.int (0 : Int32)), (.int (0 : Int32)), (.double FP.dconst0), (.int ((p3 &&& (7 : Int32)) - (1 : Int32))), (.ref ba), (.ref ba)])) rfl (by rw [hml]; rfl) (Steps.refl _) (a := ba) (argsL := [(.int ((p3 &&& (7 : Int32)) - (1 : Int32))), (.double FP.dconst0), (.int (0 : Int32)), (.int (0 : Int32))]) (rest := [(.ref ba)]) (lenOf pd_28IDII29V rfl) rfl (by show 2 * 0 + _ ≤ _; exact Nat.le_of_eq rfl) (hb hby at_83) (fun _ _ => ⟨rfl, e32, (by decide : 5 + 0 ≤ _), (by decide : 23 + 0 ≤ _)⟩)
  dsimp only [Pt.U, Pt.locs, Pt.cells, Pt.slots] at X41 l41 y41 z41 st41 hQ41
  subst l41 y41 z41
  obtain ⟨rfl, N41q, K41, r41_0, r41_1, r41_2, r41_3, r41_4⟩ := hQ41
  have N41 := Fr.app N30 N41q
  have P42 : Keep h0 T41.heap [] := P36.trans K41 (allS (Or.inr sz_ba) all0)
  obtain ⟨T43, h43, X43, e43, E43, A43, D43, -, st43⟩ := newO X41 hx hZ hown (hw _ (List.mem_of_getElem? (i := 19) rfl)) (hw _ (List.mem_of_getElem? (i := 20) rfl)) (hw _ (List.mem_of_getElem? (i := 21) rfl)) rfl (g := (mkF m 88 #[.val (.int p1), .val (.int p2), .val (.int p3), .val (.int p4), .val (.long p5), .second, .val (.long p6), .second, .val (.int (p1 &&& (3 : Int32))), .val (.int ((p2 &&& (2147483647 : Int32)) % (3 : Int32))), .val (.int ((p3 &&& (7 : Int32)) - (1 : Int32))), .val (.int ((p4 &&& (7 : Int32)) - (1 : Int32))), .val (.ref bl), .val (.ref b0), .val (.ref b1), .val (.ref ba), .unset, .unset, .unset, .unset, .unset, .unset] [])) rfl (hb hby at_88) (by decide) (by decide)
  obtain ⟨bb, g43⟩ : ∃ z, z = T41.heap.size := ⟨_, rfl⟩
  rw [← g43] at A43 D43 st43
  have E44 : Exa Z T41.heap bl "com/example/podflow/podflow/simulate/RunLog" := ((Exa.ext E32 E33).keep K41)
  have ne_bl_bb : bl ≠ bb := Nat.ne_of_lt (Nat.lt_of_lt_of_eq E44.lt g43.symm)
  have E45 : Exa Z T41.heap b0 "com/example/podflow/podflow/simulate/Request" := ((Exa.ext E32 E34).keep K41)
  have ne_b0_bb : b0 ≠ bb := Nat.ne_of_lt (Nat.lt_of_lt_of_eq E45.lt g43.symm)
  have E46 : Exa Z T41.heap b1 "com/example/podflow/podflow/simulate/Request" := ((Exa.ext E32 r30_0).keep K41)
  have ne_b1_bb : b1 ≠ bb := Nat.ne_of_lt (Nat.lt_of_lt_of_eq E46.lt g43.symm)
  have ne_ba_bb : ba ≠ bb := Nat.ne_of_lt (Nat.lt_of_lt_of_eq r41_0.lt g43.symm)
  have A47 : Arv Z T41.heap bt kk .double ((p2 &&& (2147483647 : Int32)) % (3 : Int32)) (List.replicate 2 (.double (0 : UInt64))) (.double (0 : UInt64)) := ((A35.ext E32).keep K41 (ninS ne_bt_ba nin0))
  have ne_bt_bb : bt ≠ bb := Nat.ne_of_lt (Nat.lt_of_lt_of_eq A47.lt g43.symm)
  have ge_bb : n0 ≤ bb := Nat.le_trans (Nat.le_trans Z0 P42.1) (Nat.le_of_eq g43.symm)
  have sz_bb : h0.size ≤ bb := Nat.le_trans P42.1 (Nat.le_of_eq g43.symm)
  have P48 : Keep h0 h43 [] := P42.ext E43
  have F49 : Fld Z h43 bb "com/example/podflow/podflow/simulate/Request" "number" "I" (.int (0 : Int32)) := D43 (Or.inr (hw _ (List.mem_of_getElem? (i := 32) rfl))) (ty := .int) (by decide)
  have F50 : Fld Z h43 bb "com/example/podflow/podflow/simulate/Request" "time" "D" (.double (0 : UInt64)) := D43 (Or.inr (hw _ (List.mem_of_getElem? (i := 34) rfl))) (ty := .double) (by decide)
  have F51 : Fld Z h43 bb "com/example/podflow/podflow/simulate/Request" "origin" "I" (.int (0 : Int32)) := D43 (Or.inr (hw _ (List.mem_of_getElem? (i := 36) rfl))) (ty := .int) (by decide)
  have F52 : Fld Z h43 bb "com/example/podflow/podflow/simulate/Request" "destination" "I" (.int (0 : Int32)) := D43 (Or.inr (hw _ (List.mem_of_getElem? (i := 38) rfl))) (ty := .int) (by decide)
  obtain ⟨_, _, ⟨T53, L53, k53, n53⟩, -, X53, ⟨Lc53, hQ53, l53, y53, z53⟩, st53⟩ := X43.specialBack hx (y := (⟨"com/example/podflow/podflow/simulate/Request", "<init>", "(IDII)V"⟩ : MethodName)) rfl hown (mvT hZ (hw _ (List.mem_of_getElem? (i := 22) rfl))) (mvT hZ (hw _ (List.mem_of_getElem? (i := 23) rfl))) (mvT hZ (hw _ (List.mem_of_getElem? (i := 24) rfl))) (by decide) (backOf (W := 1) (rm_qini l Z a0 hw [] bb ((p4 &&& (7 : Int32)) - (1 : Int32)) (.int (0 : Int32)) (.double (0 : UInt64)) (.int (0 : Int32)) (.int (0 : Int32)) h43 n0 (Nat.le_trans Z0 P48.1) A43 F49 F50 F51 F52 ge_bb) hZ (hw _ (List.mem_of_getElem? (i := 24) rfl)) (hw _ (List.mem_of_getElem? (i := 21) rfl)) (by decide) (by decide)) (g := (mkF m 97 #[.val (.int p1), .val (.int p2), .val (.int p3), .val (.int p4), .val (.long p5), .second, .val (.long p6), .second, .val (.int (p1 &&& (3 : Int32))), .val (.int ((p2 &&& (2147483647 : Int32)) % (3 : Int32))), .val (.int ((p3 &&& (7 : Int32)) - (1 : Int32))), .val (.int ((p4 &&& (7 : Int32)) - (1 : Int32))), .val (.ref bl), .val (.ref b0), .val (.ref b1), .val (.ref ba), .unset, .unset, .unset, .unset, .unset, .unset] [(.int (0 : Int32)), (.int (0 : Int32)), (.double FP.dconst0), (.int ((p4 &&& (7 : Int32)) - (1 : Int32))), (.ref bb), (.ref bb)])) rfl (by rw [hml]; rfl) (Steps.refl _) (a := bb) (argsL := [(.int ((p4 &&& (7 : Int32)) - (1 : Int32))), (.double FP.dconst0), (.int (0 : Int32)), (.int (0 : Int32))]) (rest := [(.ref bb)]) (lenOf pd_28IDII29V rfl) rfl (by show 2 * 0 + _ ≤ _; exact Nat.le_of_eq rfl) (hb hby at_97) (fun _ _ => ⟨rfl, e43, (by decide : 6 + 0 ≤ _), (by decide : 27 + 0 ≤ _)⟩)
  dsimp only [Pt.U, Pt.locs, Pt.cells, Pt.slots] at X53 l53 y53 z53 st53 hQ53
  subst l53 y53 z53
  obtain ⟨rfl, N53q, K53, r53_0, r53_1, r53_2, r53_3, r53_4⟩ := hQ53
  have N53 := Fr.app N41 N53q
  have P54 : Keep h0 T53.heap [] := P48.trans K53 (allS (Or.inr sz_bb) all0)
  have E55 : Exa Z T53.heap bl "com/example/podflow/podflow/simulate/RunLog" := ((Exa.ext E43 E44).keep K53)
  have E56 : Exa Z T53.heap b0 "com/example/podflow/podflow/simulate/Request" := ((Exa.ext E43 E45).keep K53)
  have F57 : Fld Z T53.heap b0 "com/example/podflow/podflow/simulate/Request" "number" "I" (.int (p1 &&& (3 : Int32))) := ((Fld.ext E43 ((Fld.ext E32 ((Fld.ext E22 r20_1).keep K30 (ninS ne_b0_b1 nin0))).keep K41 (ninS ne_b0_ba nin0))).keep K53 (ninS ne_b0_bb nin0))
  have F58 : Fld Z T53.heap b0 "com/example/podflow/podflow/simulate/Request" "time" "D" (.double FP.dconst0) := ((Fld.ext E43 ((Fld.ext E32 ((Fld.ext E22 r20_2).keep K30 (ninS ne_b0_b1 nin0))).keep K41 (ninS ne_b0_ba nin0))).keep K53 (ninS ne_b0_bb nin0))
  have F59 : Fld Z T53.heap bl "com/example/podflow/podflow/simulate/RunLog" "warmup" "I" (.int (p1 &&& (3 : Int32))) := ((Fld.ext E43 ((Fld.ext E32 ((Fld.ext E22 ((Fld.ext E14 r12_3).keep K20 (ninS ne_bl_b0 nin0))).keep K30 (ninS ne_bl_b1 nin0))).keep K41 (ninS ne_bl_ba nin0))).keep K53 (ninS ne_bl_bb nin0))
  have F60 : Fld Z T53.heap bl "com/example/podflow/podflow/simulate/RunLog" "windowStart" "D" (.double FP.dconst0) := ((Fld.ext E43 ((Fld.ext E32 ((Fld.ext E22 ((Fld.ext E14 r12_4).keep K20 (ninS ne_bl_b0 nin0))).keep K30 (ninS ne_bl_b1 nin0))).keep K41 (ninS ne_bl_ba nin0))).keep K53 (ninS ne_bl_bb nin0))
  have F61 : Fld Z T53.heap bl "com/example/podflow/podflow/simulate/RunLog" "windowEnd" "D" (.double FP.dconst1) := ((Fld.ext E43 ((Fld.ext E32 ((Fld.ext E22 ((Fld.ext E14 r12_5).keep K20 (ninS ne_bl_b0 nin0))).keep K30 (ninS ne_bl_b1 nin0))).keep K41 (ninS ne_bl_ba nin0))).keep K53 (ninS ne_bl_bb nin0))
  have F62 : Fld Z T53.heap bl "com/example/podflow/podflow/simulate/RunLog" "waits" "[D" (.ref bt) := ((Fld.ext E43 ((Fld.ext E32 ((Fld.ext E22 ((Fld.ext E14 r12_6).keep K20 (ninS ne_bl_b0 nin0))).keep K30 (ninS ne_bl_b1 nin0))).keep K41 (ninS ne_bl_ba nin0))).keep K53 (ninS ne_bl_bb nin0))
  have F63 : Fld Z T53.heap bl "com/example/podflow/podflow/simulate/RunLog" "pickedUp" "I" (.int (0 : Int32)) := ((Fld.ext E43 ((Fld.ext E32 ((Fld.ext E22 ((Fld.ext E14 r12_7).keep K20 (ninS ne_bl_b0 nin0))).keep K30 (ninS ne_bl_b1 nin0))).keep K41 (ninS ne_bl_ba nin0))).keep K53 (ninS ne_bl_bb nin0))
  have F64 : Fld Z T53.heap bl "com/example/podflow/podflow/simulate/RunLog" "movingSeconds" "D" (.double (0 : UInt64)) := ((Fld.ext E43 ((Fld.ext E32 ((Fld.ext E22 ((Fld.ext E14 r12_8).keep K20 (ninS ne_bl_b0 nin0))).keep K30 (ninS ne_bl_b1 nin0))).keep K41 (ninS ne_bl_ba nin0))).keep K53 (ninS ne_bl_bb nin0))
  have F65 : Fld Z T53.heap bl "com/example/podflow/podflow/simulate/RunLog" "emptySeconds" "D" (.double (0 : UInt64)) := ((Fld.ext E43 ((Fld.ext E32 ((Fld.ext E22 ((Fld.ext E14 r12_9).keep K20 (ninS ne_bl_b0 nin0))).keep K30 (ninS ne_bl_b1 nin0))).keep K41 (ninS ne_bl_ba nin0))).keep K53 (ninS ne_bl_bb nin0))
  have F66 : Fld Z T53.heap bl "com/example/podflow/podflow/simulate/RunLog" "backlog" "I" (.int (0 : Int32)) := ((Fld.ext E43 ((Fld.ext E32 ((Fld.ext E22 ((Fld.ext E14 r12_10).keep K20 (ninS ne_bl_b0 nin0))).keep K30 (ninS ne_bl_b1 nin0))).keep K41 (ninS ne_bl_ba nin0))).keep K53 (ninS ne_bl_bb nin0))
  have F67 : Fld Z T53.heap bl "com/example/podflow/podflow/simulate/RunLog" "decisionNanos" "J" (.long (0 : Int64)) := ((Fld.ext E43 ((Fld.ext E32 ((Fld.ext E22 ((Fld.ext E14 r12_11).keep K20 (ninS ne_bl_b0 nin0))).keep K30 (ninS ne_bl_b1 nin0))).keep K41 (ninS ne_bl_ba nin0))).keep K53 (ninS ne_bl_bb nin0))
  have A68 : Arv Z T53.heap bt kk .double ((p2 &&& (2147483647 : Int32)) % (3 : Int32)) (List.replicate 2 (.double (0 : UInt64))) (.double (0 : UInt64)) := ((A47.ext E43).keep K53 (ninS ne_bt_bb nin0))
  obtain ⟨cq69, kq69, q69a, q69b, q69c⟩ := isOf hZ rfl E55
  obtain ⟨_, _, ⟨T69, L69, k69, n69⟩, -, X69, ⟨Lc69, hQ69, l69, y69, z69⟩, st69⟩ := X53.virtualBack hx (y := (⟨"com/example/podflow/podflow/simulate/RunLog", "pickUp", "(Lcom/example/podflow/podflow/simulate/Request;D)V"⟩ : MethodName)) (z := (⟨"com/example/podflow/podflow/simulate/RunLog", "pickUp", "(Lcom/example/podflow/podflow/simulate/Request;D)V"⟩ : MethodName)) hown (mvT hZ (hw _ (List.mem_of_getElem? (i := 39) rfl))) (mvT hZ (hw _ (List.mem_of_getElem? (i := 40) rfl))) (notFace_of_selects (args := #[]) (mvT hZ (hw _ (List.mem_of_getElem? (i := 42) rfl)))) (mvT hZ (hw _ (List.mem_of_getElem? (i := 42) rfl))) (mvT hZ (hw _ (List.mem_of_getElem? (i := 41) rfl))) (by decide) (backOf (W := 0) (rm_pickUp l Z a0 hw [] bl b0 (p1 &&& (3 : Int32)) (p1 &&& (3 : Int32)) ((p2 &&& (2147483647 : Int32)) % (3 : Int32)) bt kk (List.replicate 2 (.double (0 : UInt64))) (0 : Int32) (0 : Int64) rA T53.heap n0 (Nat.le_trans Z0 P54.1) E55 E56 F57 F58 F59 F60 F61 F62 F63 F64 F65 F66 F67 A68 ge_bl r12_1 ne_bl_bt ne_bt_b0.symm rfl (own_cneg hcb).2 hjA) hZ (hw _ (List.mem_of_getElem? (i := 43) rfl)) (hw _ (List.mem_of_getElem? (i := 3) rfl)) (by decide) (by decide)) q69a q69c (g := (mkF m 107 #[.val (.int p1), .val (.int p2), .val (.int p3), .val (.int p4), .val (.long p5), .second, .val (.long p6), .second, .val (.int (p1 &&& (3 : Int32))), .val (.int ((p2 &&& (2147483647 : Int32)) % (3 : Int32))), .val (.int ((p3 &&& (7 : Int32)) - (1 : Int32))), .val (.int ((p4 &&& (7 : Int32)) - (1 : Int32))), .val (.ref bl), .val (.ref b0), .val (.ref b1), .val (.ref ba), .val (.ref bb), .unset, .unset, .unset, .unset, .unset] [(.double FP.dconst0), (.ref b0), (.ref bl)])) rfl (by rw [hml]; rfl) (Steps.refl _) (argsL := [(.ref b0), (.double FP.dconst0)]) (rest := []) (lenOf pd_28Lcom2fexample2fpodflow2fpodflow2fsimulate2fRequest3bD29V rfl) rfl (by show 2 * 0 + _ ≤ _; exact Nat.le_of_eq rfl) (hb hby at_107) (fun _ _ => ⟨rfl, rfl, (by decide : 6 + 0 ≤ _), (by decide : 27 + 0 ≤ _)⟩)
  dsimp only [Pt.U, Pt.locs, Pt.cells, Pt.slots] at X69 l69 y69 z69 st69 hQ69
  subst l69 y69 z69
  obtain ⟨vA, rfl, N69q, K69, r69_0, r69_1, r69_2, r69_3, r69_4, r69_5, r69_6, r69_7, r69_8, r69_9, r69_10, r69_11⟩ := hQ69
  have N69 := Fr.app N53 N69q
  have P70 : Keep h0 T69.heap [] := P54.trans K69 (allS (Or.inr sz_bl) (allS (Or.inr sz_bt) all0))
  have E71 : Exa Z T69.heap b1 "com/example/podflow/podflow/simulate/Request" := (((Exa.ext E43 E46).keep K53).keep K69)
  have F72 : Fld Z T69.heap b1 "com/example/podflow/podflow/simulate/Request" "number" "I" (.int ((p1 &&& (3 : Int32)) + (1 : Int32))) := (((Fld.ext E43 ((Fld.ext E32 r30_1).keep K41 (ninS ne_b1_ba nin0))).keep K53 (ninS ne_b1_bb nin0)).keep K69 (ninS ne_bl_b1.symm (ninS ne_bt_b1.symm nin0)))
  have F73 : Fld Z T69.heap b1 "com/example/podflow/podflow/simulate/Request" "time" "D" (.double FP.dconst0) := (((Fld.ext E43 ((Fld.ext E32 r30_2).keep K41 (ninS ne_b1_ba nin0))).keep K53 (ninS ne_b1_bb nin0)).keep K69 (ninS ne_bl_b1.symm (ninS ne_bt_b1.symm nin0)))
  obtain ⟨cq74, kq74, q74a, q74b, q74c⟩ := isOf hZ rfl r69_0
  obtain ⟨_, _, ⟨T74, L74, k74, n74⟩, -, X74, ⟨Lc74, hQ74, l74, y74, z74⟩, st74⟩ := X69.virtualBack hx (y := (⟨"com/example/podflow/podflow/simulate/RunLog", "pickUp", "(Lcom/example/podflow/podflow/simulate/Request;D)V"⟩ : MethodName)) (z := (⟨"com/example/podflow/podflow/simulate/RunLog", "pickUp", "(Lcom/example/podflow/podflow/simulate/Request;D)V"⟩ : MethodName)) hown (mvT hZ (hw _ (List.mem_of_getElem? (i := 39) rfl))) (mvT hZ (hw _ (List.mem_of_getElem? (i := 40) rfl))) (notFace_of_selects (args := #[]) (mvT hZ (hw _ (List.mem_of_getElem? (i := 42) rfl)))) (mvT hZ (hw _ (List.mem_of_getElem? (i := 42) rfl))) (mvT hZ (hw _ (List.mem_of_getElem? (i := 41) rfl))) (by decide) (backOf (W := 0) (rm_pickUp l Z a0 hw [] bl b1 (p1 &&& (3 : Int32)) ((p1 &&& (3 : Int32)) + (1 : Int32)) ((p2 &&& (2147483647 : Int32)) % (3 : Int32)) bt kk vA ((0 : Int32) + rA) (0 : Int64) rB T69.heap n0 (Nat.le_trans Z0 P70.1) r69_0 E71 F72 F73 r69_1 r69_2 r69_3 r69_4 r69_5 r69_6 r69_7 r69_8 r69_9 r69_10 ge_bl r12_1 ne_bl_bt ne_bt_b1.symm r69_11 (own_cneg hcb).2 hjB) hZ (hw _ (List.mem_of_getElem? (i := 43) rfl)) (hw _ (List.mem_of_getElem? (i := 3) rfl)) (by decide) (by decide)) q74a q74c (g := (mkF m 115 #[.val (.int p1), .val (.int p2), .val (.int p3), .val (.int p4), .val (.long p5), .second, .val (.long p6), .second, .val (.int (p1 &&& (3 : Int32))), .val (.int ((p2 &&& (2147483647 : Int32)) % (3 : Int32))), .val (.int ((p3 &&& (7 : Int32)) - (1 : Int32))), .val (.int ((p4 &&& (7 : Int32)) - (1 : Int32))), .val (.ref bl), .val (.ref b0), .val (.ref b1), .val (.ref ba), .val (.ref bb), .unset, .unset, .unset, .unset, .unset] [(.double FP.dconst0), (.ref b1), (.ref bl)])) rfl (by rw [hml]; rfl) (Steps.refl _) (argsL := [(.ref b1), (.double FP.dconst0)]) (rest := []) (lenOf pd_28Lcom2fexample2fpodflow2fpodflow2fsimulate2fRequest3bD29V rfl) rfl (by show 2 * 0 + _ ≤ _; exact Nat.le_of_eq rfl) (hb hby at_115) (fun _ _ => ⟨rfl, rfl, (by decide : 6 + 0 ≤ _), (by decide : 27 + 0 ≤ _)⟩)
  dsimp only [Pt.U, Pt.locs, Pt.cells, Pt.slots] at X74 l74 y74 z74 st74 hQ74
  subst l74 y74 z74
  obtain ⟨vB, rfl, N74q, K74, r74_0, r74_1, r74_2, r74_3, r74_4, r74_5, r74_6, r74_7, r74_8, r74_9, r74_10, r74_11⟩ := hQ74
  have N74 := Fr.app N69 N74q
  have P75 : Keep h0 T74.heap [] := P70.trans K74 (allS (Or.inr sz_bl) (allS (Or.inr sz_bt) all0))
  have E76 : Exa Z T74.heap ba "com/example/podflow/podflow/simulate/Request" := ((((Exa.ext E43 r41_0).keep K53).keep K69).keep K74)
  have F77 : Fld Z T74.heap ba "com/example/podflow/podflow/simulate/Request" "number" "I" (.int ((p3 &&& (7 : Int32)) - (1 : Int32))) := ((((Fld.ext E43 r41_1).keep K53 (ninS ne_ba_bb nin0)).keep K69 (ninS ne_bl_ba.symm (ninS ne_bt_ba.symm nin0))).keep K74 (ninS ne_bl_ba.symm (ninS ne_bt_ba.symm nin0)))
  obtain ⟨cq78, kq78, q78a, q78b, q78c⟩ := isOf hZ rfl r74_0
  obtain ⟨_, _, ⟨T78, L78, k78, n78⟩, -, X78, ⟨Lc78, hQ78, l78, y78, z78⟩, st78⟩ := X74.virtualBack hx (y := (⟨"com/example/podflow/podflow/simulate/RunLog", "decided", "(Lcom/example/podflow/podflow/simulate/Request;J)V"⟩ : MethodName)) (z := (⟨"com/example/podflow/podflow/simulate/RunLog", "decided", "(Lcom/example/podflow/podflow/simulate/Request;J)V"⟩ : MethodName)) hown (mvT hZ (hw _ (List.mem_of_getElem? (i := 53) rfl))) (mvT hZ (hw _ (List.mem_of_getElem? (i := 54) rfl))) (notFace_of_selects (args := #[]) (mvT hZ (hw _ (List.mem_of_getElem? (i := 56) rfl)))) (mvT hZ (hw _ (List.mem_of_getElem? (i := 56) rfl))) (mvT hZ (hw _ (List.mem_of_getElem? (i := 55) rfl))) (by decide) (backOf (W := 0) (rm_decided l Z a0 hw [] bl ba (p1 &&& (3 : Int32)) ((p3 &&& (7 : Int32)) - (1 : Int32)) ((p2 &&& (2147483647 : Int32)) % (3 : Int32)) bt kk vB (((0 : Int32) + rA) + rB) (0 : Int64) p5 qA T74.heap n0 (Nat.le_trans Z0 P75.1) r74_0 E76 F77 r74_1 r74_2 r74_3 r74_4 r74_5 r74_6 r74_7 r74_8 r74_9 r74_10 ge_bl ne_bl_bt hdA) hZ (hw _ (List.mem_of_getElem? (i := 57) rfl)) (hw _ (List.mem_of_getElem? (i := 3) rfl)) (by decide) (by decide)) q78a q78c (g := (mkF m 124 #[.val (.int p1), .val (.int p2), .val (.int p3), .val (.int p4), .val (.long p5), .second, .val (.long p6), .second, .val (.int (p1 &&& (3 : Int32))), .val (.int ((p2 &&& (2147483647 : Int32)) % (3 : Int32))), .val (.int ((p3 &&& (7 : Int32)) - (1 : Int32))), .val (.int ((p4 &&& (7 : Int32)) - (1 : Int32))), .val (.ref bl), .val (.ref b0), .val (.ref b1), .val (.ref ba), .val (.ref bb), .unset, .unset, .unset, .unset, .unset] [(.long p5), (.ref ba), (.ref bl)])) rfl (by rw [hml]; rfl) (Steps.refl _) (argsL := [(.ref ba), (.long p5)]) (rest := []) (lenOf pd_28Lcom2fexample2fpodflow2fpodflow2fsimulate2fRequest3bJ29V rfl) rfl (by show 2 * 0 + _ ≤ _; exact Nat.le_of_eq rfl) (hb hby at_124) (fun _ _ => ⟨rfl, rfl, (by decide : 6 + 0 ≤ _), (by decide : 27 + 0 ≤ _)⟩)
  dsimp only [Pt.U, Pt.locs, Pt.cells, Pt.slots] at X78 l78 y78 z78 st78 hQ78
  subst l78 y78 z78
  obtain ⟨rfl, N78q, K78, r78_0, r78_1, r78_2, r78_3, r78_4, r78_5, r78_6, r78_7, r78_8, r78_9, r78_10⟩ := hQ78
  have N78 := Fr.app N74 N78q
  have P79 : Keep h0 T78.heap [] := P75.trans K78 (allS (Or.inr sz_bl) all0)
  have E80 : Exa Z T78.heap bb "com/example/podflow/podflow/simulate/Request" := (((r53_0.keep K69).keep K74).keep K78)
  have F81 : Fld Z T78.heap bb "com/example/podflow/podflow/simulate/Request" "number" "I" (.int ((p4 &&& (7 : Int32)) - (1 : Int32))) := (((r53_1.keep K69 (ninS ne_bl_bb.symm (ninS ne_bt_bb.symm nin0))).keep K74 (ninS ne_bl_bb.symm (ninS ne_bt_bb.symm nin0))).keep K78 (ninS ne_bl_bb.symm nin0))
  obtain ⟨cq82, kq82, q82a, q82b, q82c⟩ := isOf hZ rfl r78_0
  obtain ⟨_, _, ⟨T82, L82, k82, n82⟩, -, X82, ⟨Lc82, hQ82, l82, y82, z82⟩, st82⟩ := X78.virtualBack hx (y := (⟨"com/example/podflow/podflow/simulate/RunLog", "decided", "(Lcom/example/podflow/podflow/simulate/Request;J)V"⟩ : MethodName)) (z := (⟨"com/example/podflow/podflow/simulate/RunLog", "decided", "(Lcom/example/podflow/podflow/simulate/Request;J)V"⟩ : MethodName)) hown (mvT hZ (hw _ (List.mem_of_getElem? (i := 53) rfl))) (mvT hZ (hw _ (List.mem_of_getElem? (i := 54) rfl))) (notFace_of_selects (args := #[]) (mvT hZ (hw _ (List.mem_of_getElem? (i := 56) rfl)))) (mvT hZ (hw _ (List.mem_of_getElem? (i := 56) rfl))) (mvT hZ (hw _ (List.mem_of_getElem? (i := 55) rfl))) (by decide) (backOf (W := 0) (rm_decided l Z a0 hw [] bl bb (p1 &&& (3 : Int32)) ((p4 &&& (7 : Int32)) - (1 : Int32)) ((p2 &&& (2147483647 : Int32)) % (3 : Int32)) bt kk vB (((0 : Int32) + rA) + rB) ((0 : Int64) + qA) p6 qB T78.heap n0 (Nat.le_trans Z0 P79.1) r78_0 E80 F81 r78_1 r78_2 r78_3 r78_4 r78_5 r78_6 r78_7 r78_8 r78_9 r78_10 ge_bl ne_bl_bt hdB) hZ (hw _ (List.mem_of_getElem? (i := 57) rfl)) (hw _ (List.mem_of_getElem? (i := 3) rfl)) (by decide) (by decide)) q82a q82c (g := (mkF m 133 #[.val (.int p1), .val (.int p2), .val (.int p3), .val (.int p4), .val (.long p5), .second, .val (.long p6), .second, .val (.int (p1 &&& (3 : Int32))), .val (.int ((p2 &&& (2147483647 : Int32)) % (3 : Int32))), .val (.int ((p3 &&& (7 : Int32)) - (1 : Int32))), .val (.int ((p4 &&& (7 : Int32)) - (1 : Int32))), .val (.ref bl), .val (.ref b0), .val (.ref b1), .val (.ref ba), .val (.ref bb), .unset, .unset, .unset, .unset, .unset] [(.long p6), (.ref bb), (.ref bl)])) rfl (by rw [hml]; rfl) (Steps.refl _) (argsL := [(.ref bb), (.long p6)]) (rest := []) (lenOf pd_28Lcom2fexample2fpodflow2fpodflow2fsimulate2fRequest3bJ29V rfl) rfl (by show 2 * 0 + _ ≤ _; exact Nat.le_of_eq rfl) (hb hby at_133) (fun _ _ => ⟨rfl, rfl, (by decide : 6 + 0 ≤ _), (by decide : 27 + 0 ≤ _)⟩)
  dsimp only [Pt.U, Pt.locs, Pt.cells, Pt.slots] at X82 l82 y82 z82 st82 hQ82
  subst l82 y82 z82
  obtain ⟨rfl, N82q, K82, r82_0, r82_1, r82_2, r82_3, r82_4, r82_5, r82_6, r82_7, r82_8, r82_9, r82_10⟩ := hQ82
  have N82 := Fr.app N78 N82q
  have P83 : Keep h0 T82.heap [] := P79.trans K82 (allS (Or.inr sz_bl) all0)
  obtain ⟨cq84, kq84, q84a, q84b, q84c⟩ := isOf hZ rfl r82_0
  obtain ⟨_, _, ⟨T84, L84, k84, n84⟩, -, X84, ⟨Lc84, hQ84, l84, y84, z84⟩, st84⟩ := X82.virtualBack hx (y := (⟨"com/example/podflow/podflow/simulate/RunLog", "result", "()Lcom/example/podflow/podflow/simulate/RunLog$RunResult;"⟩ : MethodName)) (z := (⟨"com/example/podflow/podflow/simulate/RunLog", "result", "()Lcom/example/podflow/podflow/simulate/RunLog$RunResult;"⟩ : MethodName)) hown (mvT hZ (hw _ (List.mem_of_getElem? (i := 58) rfl))) (mvT hZ (hw _ (List.mem_of_getElem? (i := 59) rfl))) (notFace_of_selects (args := #[]) (mvT hZ (hw _ (List.mem_of_getElem? (i := 61) rfl)))) (mvT hZ (hw _ (List.mem_of_getElem? (i := 61) rfl))) (mvT hZ (hw _ (List.mem_of_getElem? (i := 60) rfl))) (by decide) (backOf (W := 0) (rm_res l Z a0 hw [] bl (p1 &&& (3 : Int32)) ((p2 &&& (2147483647 : Int32)) % (3 : Int32)) bt kk vB (((0 : Int32) + rA) + rB) (((0 : Int64) + qA) + qB) T82.heap n0 (Nat.le_trans Z0 P83.1) r82_0 r82_1 r82_2 r82_3 r82_4 r82_5 r82_6 r82_7 r82_8 r82_9 r82_10 hAB) hZ (hw _ (List.mem_of_getElem? (i := 62) rfl)) (hw _ (List.mem_of_getElem? (i := 3) rfl)) (by decide) (by decide)) q84a q84c (g := (mkF m 138 #[.val (.int p1), .val (.int p2), .val (.int p3), .val (.int p4), .val (.long p5), .second, .val (.long p6), .second, .val (.int (p1 &&& (3 : Int32))), .val (.int ((p2 &&& (2147483647 : Int32)) % (3 : Int32))), .val (.int ((p3 &&& (7 : Int32)) - (1 : Int32))), .val (.int ((p4 &&& (7 : Int32)) - (1 : Int32))), .val (.ref bl), .val (.ref b0), .val (.ref b1), .val (.ref ba), .val (.ref bb), .unset, .unset, .unset, .unset, .unset] [(.ref bl)])) rfl (by rw [hml]; rfl) (Steps.refl _) (argsL := []) (rest := []) (lenOf pd_2829Lcom2fexample2fpodflow2fpodflow2fsimulate2fRunLog24RunResult3b rfl) rfl (by show 2 * 0 + _ ≤ _; exact Nat.le_of_eq rfl) (hb hby at_138) (fun _ _ => ⟨rfl, rfl, (by decide : 6 + 1 ≤ _), (by decide : 27 + 6 ≤ _)⟩)
  dsimp only [Pt.U, Pt.locs, Pt.cells, Pt.slots] at X84 l84 y84 z84 st84 hQ84
  subst l84 y84 z84
  obtain ⟨br, rfl, N84q, K84, r84_0, r84_1, r84_2, r84_3⟩ := hQ84
  have N84 := Fr.app N82 N84q
  have ne_bl_br : bl ≠ br := Nat.ne_of_lt (Nat.lt_of_lt_of_le r82_0.lt r84_0)
  have E85 : Exa Z T82.heap b0 "com/example/podflow/podflow/simulate/Request" := ((((E56.keep K69).keep K74).keep K78).keep K82)
  have ne_b0_br : b0 ≠ br := Nat.ne_of_lt (Nat.lt_of_lt_of_le E85.lt r84_0)
  have E86 : Exa Z T82.heap b1 "com/example/podflow/podflow/simulate/Request" := (((E71.keep K74).keep K78).keep K82)
  have ne_b1_br : b1 ≠ br := Nat.ne_of_lt (Nat.lt_of_lt_of_le E86.lt r84_0)
  have E87 : Exa Z T82.heap ba "com/example/podflow/podflow/simulate/Request" := ((E76.keep K78).keep K82)
  have ne_ba_br : ba ≠ br := Nat.ne_of_lt (Nat.lt_of_lt_of_le E87.lt r84_0)
  have E88 : Exa Z T82.heap bb "com/example/podflow/podflow/simulate/Request" := (E80.keep K82)
  have ne_bb_br : bb ≠ br := Nat.ne_of_lt (Nat.lt_of_lt_of_le E88.lt r84_0)
  have ne_bt_br : bt ≠ br := Nat.ne_of_lt (Nat.lt_of_lt_of_le r82_10.lt r84_0)
  have ge_br : n0 ≤ br := Nat.le_trans (Nat.le_trans Z0 P83.1) r84_0
  have sz_br : h0.size ≤ br := Nat.le_trans P83.1 r84_0
  have P89 : Keep h0 T84.heap [] := P83.trans K84 all0
  obtain ⟨_, _, ⟨T90, L90, k90, n90⟩, -, X90, ⟨Lc90, hQ90, l90, y90, z90⟩, st90⟩ := Jvm.LawKit.callS X84 hx (y := (⟨"com/example/podflow/podflow/simulate/RunLogDecidedPinLaw", "counted", "(III)Z"⟩ : MethodName)) hown (mvT hZ (hw _ (List.mem_of_getElem? (i := 93) rfl))) (mvT hZ (hw _ (List.mem_of_getElem? (i := 94) rfl))) (mvT hZ (hw _ (List.mem_of_getElem? (i := 95) rfl))) (mvT hZ (hw _ (List.mem_of_getElem? (i := 96) rfl))) (by decide) (backOf (W := 0) (rm_counted l Z a0 hw [] ((p3 &&& (7 : Int32)) - (1 : Int32)) (p1 &&& (3 : Int32)) ((p2 &&& (2147483647 : Int32)) % (3 : Int32)) sA T84.heap n0 (Nat.le_trans Z0 P89.1) hcA) hZ (hw _ (List.mem_of_getElem? (i := 96) rfl)) (hw _ (List.mem_of_getElem? (i := 95) rfl)) (by decide) (by decide)) (g := (mkF m 152 #[.val (.int p1), .val (.int p2), .val (.int p3), .val (.int p4), .val (.long p5), .second, .val (.long p6), .second, .val (.int (p1 &&& (3 : Int32))), .val (.int ((p2 &&& (2147483647 : Int32)) % (3 : Int32))), .val (.int ((p3 &&& (7 : Int32)) - (1 : Int32))), .val (.int ((p4 &&& (7 : Int32)) - (1 : Int32))), .val (.ref bl), .val (.ref b0), .val (.ref b1), .val (.ref ba), .val (.ref bb), .val (.ref br), .val (.long (0 : Int64)), .second, .unset, .unset] [(.int ((p2 &&& (2147483647 : Int32)) % (3 : Int32))), (.int (p1 &&& (3 : Int32))), (.int ((p3 &&& (7 : Int32)) - (1 : Int32)))])) rfl (by rw [hml]; rfl) (argsL := [(.int ((p3 &&& (7 : Int32)) - (1 : Int32))), (.int (p1 &&& (3 : Int32))), (.int ((p2 &&& (2147483647 : Int32)) % (3 : Int32)))]) (rest := []) (lenOf pd_28III29Z rfl) rfl (by show 2 * 0 + _ ≤ _; exact Nat.le_of_eq rfl) (hb hby at_152) (fun _ _ => ⟨rfl, rfl, (by decide : 7 + 0 ≤ _), (by decide : 33 + 0 ≤ _)⟩)
  dsimp only [Pt.U, Pt.locs, Pt.cells, Pt.slots] at X90 l90 y90 z90 st90 hQ90
  subst l90 y90 z90
  obtain ⟨rfl, N90q, e90⟩ := hQ90
  have N90 := Fr.app N84 N90q
  obtain ⟨xA, rfl, mg91⟩ : ∃ xA : Int64, (xA = ((0 : Int64) + qA)) ∧ ∀ t, Steps p.tables e below (T90.setTop (mkF m 165 #[.val (.int p1), .val (.int p2), .val (.int p3), .val (.int p4), .val (.long p5), .second, .val (.long p6), .second, .val (.int (p1 &&& (3 : Int32))), .val (.int ((p2 &&& (2147483647 : Int32)) % (3 : Int32))), .val (.int ((p3 &&& (7 : Int32)) - (1 : Int32))), .val (.int ((p4 &&& (7 : Int32)) - (1 : Int32))), .val (.ref bl), .val (.ref b0), .val (.ref b1), .val (.ref ba), .val (.ref bb), .val (.ref br), .val (.long xA), .second, .unset, .unset] [])) t → Steps p.tables e below (T90.setTop (mkF m 155 #[.val (.int p1), .val (.int p2), .val (.int p3), .val (.int p4), .val (.long p5), .second, .val (.long p6), .second, .val (.int (p1 &&& (3 : Int32))), .val (.int ((p2 &&& (2147483647 : Int32)) % (3 : Int32))), .val (.int ((p3 &&& (7 : Int32)) - (1 : Int32))), .val (.int ((p4 &&& (7 : Int32)) - (1 : Int32))), .val (.ref bl), .val (.ref b0), .val (.ref b1), .val (.ref ba), .val (.ref bb), .val (.ref br), .val (.long (0 : Int64)), .second, .unset, .unset] [(.int sA)])) t := by
    rcases heA with ⟨h1, h2⟩ | ⟨h1, h2⟩
    ·
      refine ⟨((0 : Int64) + p5), (by rw [h2]), fun t k => ?_⟩
      show Steps p.tables e below (T90.setTop (mkF m 155 #[.val (.int p1), .val (.int p2), .val (.int p3), .val (.int p4), .val (.long p5), .second, .val (.long p6), .second, .val (.int (p1 &&& (3 : Int32))), .val (.int ((p2 &&& (2147483647 : Int32)) % (3 : Int32))), .val (.int ((p3 &&& (7 : Int32)) - (1 : Int32))), .val (.int ((p4 &&& (7 : Int32)) - (1 : Int32))), .val (.ref bl), .val (.ref b0), .val (.ref b1), .val (.ref ba), .val (.ref bb), .val (.ref br), .val (.long (0 : Int64)), .second, .unset, .unset] [(.int sA)])) _
      refine XS.ifNo X90.here hx rfl (hb hby at_155) rfl ((if0 _ _).trans (feq (by rw [h1]; decide : ¬ (sA = (0 : Int32)))).1) ?_
      show Steps p.tables e below (T90.setTop (mkF m 158 #[.val (.int p1), .val (.int p2), .val (.int p3), .val (.int p4), .val (.long p5), .second, .val (.long p6), .second, .val (.int (p1 &&& (3 : Int32))), .val (.int ((p2 &&& (2147483647 : Int32)) % (3 : Int32))), .val (.int ((p3 &&& (7 : Int32)) - (1 : Int32))), .val (.int ((p4 &&& (7 : Int32)) - (1 : Int32))), .val (.ref bl), .val (.ref b0), .val (.ref b1), .val (.ref ba), .val (.ref bb), .val (.ref br), .val (.long (0 : Int64)), .second, .unset, .unset] [])) _
      refine XS.lload X90.here hx rfl (hb hby at_158) rfl ?_
      show Steps p.tables e below (T90.setTop (mkF m 160 #[.val (.int p1), .val (.int p2), .val (.int p3), .val (.int p4), .val (.long p5), .second, .val (.long p6), .second, .val (.int (p1 &&& (3 : Int32))), .val (.int ((p2 &&& (2147483647 : Int32)) % (3 : Int32))), .val (.int ((p3 &&& (7 : Int32)) - (1 : Int32))), .val (.int ((p4 &&& (7 : Int32)) - (1 : Int32))), .val (.ref bl), .val (.ref b0), .val (.ref b1), .val (.ref ba), .val (.ref bb), .val (.ref br), .val (.long (0 : Int64)), .second, .unset, .unset] [(.long (0 : Int64))])) _
      refine XS.lload X90.here hx rfl (hb hby at_160) rfl ?_
      show Steps p.tables e below (T90.setTop (mkF m 162 #[.val (.int p1), .val (.int p2), .val (.int p3), .val (.int p4), .val (.long p5), .second, .val (.long p6), .second, .val (.int (p1 &&& (3 : Int32))), .val (.int ((p2 &&& (2147483647 : Int32)) % (3 : Int32))), .val (.int ((p3 &&& (7 : Int32)) - (1 : Int32))), .val (.int ((p4 &&& (7 : Int32)) - (1 : Int32))), .val (.ref bl), .val (.ref b0), .val (.ref b1), .val (.ref ba), .val (.ref bb), .val (.ref br), .val (.long (0 : Int64)), .second, .unset, .unset] [(.long p5), (.long (0 : Int64))])) _
      refine XS.ladd X90.here hx rfl (hb hby at_162) rfl ?_
      show Steps p.tables e below (T90.setTop (mkF m 163 #[.val (.int p1), .val (.int p2), .val (.int p3), .val (.int p4), .val (.long p5), .second, .val (.long p6), .second, .val (.int (p1 &&& (3 : Int32))), .val (.int ((p2 &&& (2147483647 : Int32)) % (3 : Int32))), .val (.int ((p3 &&& (7 : Int32)) - (1 : Int32))), .val (.int ((p4 &&& (7 : Int32)) - (1 : Int32))), .val (.ref bl), .val (.ref b0), .val (.ref b1), .val (.ref ba), .val (.ref bb), .val (.ref br), .val (.long (0 : Int64)), .second, .unset, .unset] [(.long ((0 : Int64) + p5))])) _
      refine XS.lstore X90.here hx rfl (hb hby at_163) rfl (l' := #[.val (.int p1), .val (.int p2), .val (.int p3), .val (.int p4), .val (.long p5), .second, .val (.long p6), .second, .val (.int (p1 &&& (3 : Int32))), .val (.int ((p2 &&& (2147483647 : Int32)) % (3 : Int32))), .val (.int ((p3 &&& (7 : Int32)) - (1 : Int32))), .val (.int ((p4 &&& (7 : Int32)) - (1 : Int32))), .val (.ref bl), .val (.ref b0), .val (.ref b1), .val (.ref ba), .val (.ref bb), .val (.ref br), .val (.long ((0 : Int64) + p5)), .second, .unset, .unset]) rfl ?_
      exact k
    ·
      refine ⟨(0 : Int64), (by rw [h2, Int64.add_zero]), fun t k => ?_⟩
      show Steps p.tables e below (T90.setTop (mkF m 155 #[.val (.int p1), .val (.int p2), .val (.int p3), .val (.int p4), .val (.long p5), .second, .val (.long p6), .second, .val (.int (p1 &&& (3 : Int32))), .val (.int ((p2 &&& (2147483647 : Int32)) % (3 : Int32))), .val (.int ((p3 &&& (7 : Int32)) - (1 : Int32))), .val (.int ((p4 &&& (7 : Int32)) - (1 : Int32))), .val (.ref bl), .val (.ref b0), .val (.ref b1), .val (.ref ba), .val (.ref bb), .val (.ref br), .val (.long (0 : Int64)), .second, .unset, .unset] [(.int sA)])) _
      refine XS.ifYes X90.here hx rfl (pc0 := 155) (pc' := 165) rfl (hb hby at_155) rfl ((if0 _ _).trans (teq (h1 : sA = (0 : Int32))).1) (by decide) (by decide) ?_
      exact k
  obtain ⟨_, _, ⟨T92, L92, k92, n92⟩, -, X92, ⟨Lc92, hQ92, l92, y92, z92⟩, st92⟩ := Jvm.LawKit.callS X90 hx (y := (⟨"com/example/podflow/podflow/simulate/RunLogDecidedPinLaw", "counted", "(III)Z"⟩ : MethodName)) hown (mvT hZ (hw _ (List.mem_of_getElem? (i := 93) rfl))) (mvT hZ (hw _ (List.mem_of_getElem? (i := 94) rfl))) (mvT hZ (hw _ (List.mem_of_getElem? (i := 95) rfl))) (mvT hZ (hw _ (List.mem_of_getElem? (i := 96) rfl))) (by decide) (backOf (W := 0) (rm_counted l Z a0 hw [] ((p4 &&& (7 : Int32)) - (1 : Int32)) (p1 &&& (3 : Int32)) ((p2 &&& (2147483647 : Int32)) % (3 : Int32)) sB T84.heap n0 (Nat.le_trans Z0 P89.1) hcB) hZ (hw _ (List.mem_of_getElem? (i := 96) rfl)) (hw _ (List.mem_of_getElem? (i := 95) rfl)) (by decide) (by decide)) (g := (mkF m 171 #[.val (.int p1), .val (.int p2), .val (.int p3), .val (.int p4), .val (.long p5), .second, .val (.long p6), .second, .val (.int (p1 &&& (3 : Int32))), .val (.int ((p2 &&& (2147483647 : Int32)) % (3 : Int32))), .val (.int ((p3 &&& (7 : Int32)) - (1 : Int32))), .val (.int ((p4 &&& (7 : Int32)) - (1 : Int32))), .val (.ref bl), .val (.ref b0), .val (.ref b1), .val (.ref ba), .val (.ref bb), .val (.ref br), .val (.long ((0 : Int64) + qA)), .second, .unset, .unset] [(.int ((p2 &&& (2147483647 : Int32)) % (3 : Int32))), (.int (p1 &&& (3 : Int32))), (.int ((p4 &&& (7 : Int32)) - (1 : Int32)))])) rfl (by rw [hml]; rfl) (argsL := [(.int ((p4 &&& (7 : Int32)) - (1 : Int32))), (.int (p1 &&& (3 : Int32))), (.int ((p2 &&& (2147483647 : Int32)) % (3 : Int32)))]) (rest := []) (lenOf pd_28III29Z rfl) rfl (by show 2 * 0 + _ ≤ _; exact Nat.le_of_eq rfl) (hb hby at_171) (fun _ _ => ⟨rfl, e90, (by decide : 7 + 0 ≤ _), (by decide : 33 + 0 ≤ _)⟩)
  dsimp only [Pt.U, Pt.locs, Pt.cells, Pt.slots] at X92 l92 y92 z92 st92 hQ92
  subst l92 y92 z92
  obtain ⟨rfl, N92q, e92⟩ := hQ92
  have N92 := Fr.app N90 N92q
  obtain ⟨xB, rfl, mg93⟩ : ∃ xB : Int64, (xB = (((0 : Int64) + qA) + qB)) ∧ ∀ t, Steps p.tables e below (T92.setTop (mkF m 184 #[.val (.int p1), .val (.int p2), .val (.int p3), .val (.int p4), .val (.long p5), .second, .val (.long p6), .second, .val (.int (p1 &&& (3 : Int32))), .val (.int ((p2 &&& (2147483647 : Int32)) % (3 : Int32))), .val (.int ((p3 &&& (7 : Int32)) - (1 : Int32))), .val (.int ((p4 &&& (7 : Int32)) - (1 : Int32))), .val (.ref bl), .val (.ref b0), .val (.ref b1), .val (.ref ba), .val (.ref bb), .val (.ref br), .val (.long xB), .second, .unset, .unset] [])) t → Steps p.tables e below (T92.setTop (mkF m 174 #[.val (.int p1), .val (.int p2), .val (.int p3), .val (.int p4), .val (.long p5), .second, .val (.long p6), .second, .val (.int (p1 &&& (3 : Int32))), .val (.int ((p2 &&& (2147483647 : Int32)) % (3 : Int32))), .val (.int ((p3 &&& (7 : Int32)) - (1 : Int32))), .val (.int ((p4 &&& (7 : Int32)) - (1 : Int32))), .val (.ref bl), .val (.ref b0), .val (.ref b1), .val (.ref ba), .val (.ref bb), .val (.ref br), .val (.long ((0 : Int64) + qA)), .second, .unset, .unset] [(.int sB)])) t := by
    rcases heB with ⟨h1, h2⟩ | ⟨h1, h2⟩
    ·
      refine ⟨(((0 : Int64) + qA) + p6), (by rw [h2]), fun t k => ?_⟩
      show Steps p.tables e below (T92.setTop (mkF m 174 #[.val (.int p1), .val (.int p2), .val (.int p3), .val (.int p4), .val (.long p5), .second, .val (.long p6), .second, .val (.int (p1 &&& (3 : Int32))), .val (.int ((p2 &&& (2147483647 : Int32)) % (3 : Int32))), .val (.int ((p3 &&& (7 : Int32)) - (1 : Int32))), .val (.int ((p4 &&& (7 : Int32)) - (1 : Int32))), .val (.ref bl), .val (.ref b0), .val (.ref b1), .val (.ref ba), .val (.ref bb), .val (.ref br), .val (.long ((0 : Int64) + qA)), .second, .unset, .unset] [(.int sB)])) _
      refine XS.ifNo X92.here hx rfl (hb hby at_174) rfl ((if0 _ _).trans (feq (by rw [h1]; decide : ¬ (sB = (0 : Int32)))).1) ?_
      show Steps p.tables e below (T92.setTop (mkF m 177 #[.val (.int p1), .val (.int p2), .val (.int p3), .val (.int p4), .val (.long p5), .second, .val (.long p6), .second, .val (.int (p1 &&& (3 : Int32))), .val (.int ((p2 &&& (2147483647 : Int32)) % (3 : Int32))), .val (.int ((p3 &&& (7 : Int32)) - (1 : Int32))), .val (.int ((p4 &&& (7 : Int32)) - (1 : Int32))), .val (.ref bl), .val (.ref b0), .val (.ref b1), .val (.ref ba), .val (.ref bb), .val (.ref br), .val (.long ((0 : Int64) + qA)), .second, .unset, .unset] [])) _
      refine XS.lload X92.here hx rfl (hb hby at_177) rfl ?_
      show Steps p.tables e below (T92.setTop (mkF m 179 #[.val (.int p1), .val (.int p2), .val (.int p3), .val (.int p4), .val (.long p5), .second, .val (.long p6), .second, .val (.int (p1 &&& (3 : Int32))), .val (.int ((p2 &&& (2147483647 : Int32)) % (3 : Int32))), .val (.int ((p3 &&& (7 : Int32)) - (1 : Int32))), .val (.int ((p4 &&& (7 : Int32)) - (1 : Int32))), .val (.ref bl), .val (.ref b0), .val (.ref b1), .val (.ref ba), .val (.ref bb), .val (.ref br), .val (.long ((0 : Int64) + qA)), .second, .unset, .unset] [(.long ((0 : Int64) + qA))])) _
      refine XS.lload X92.here hx rfl (hb hby at_179) rfl ?_
      show Steps p.tables e below (T92.setTop (mkF m 181 #[.val (.int p1), .val (.int p2), .val (.int p3), .val (.int p4), .val (.long p5), .second, .val (.long p6), .second, .val (.int (p1 &&& (3 : Int32))), .val (.int ((p2 &&& (2147483647 : Int32)) % (3 : Int32))), .val (.int ((p3 &&& (7 : Int32)) - (1 : Int32))), .val (.int ((p4 &&& (7 : Int32)) - (1 : Int32))), .val (.ref bl), .val (.ref b0), .val (.ref b1), .val (.ref ba), .val (.ref bb), .val (.ref br), .val (.long ((0 : Int64) + qA)), .second, .unset, .unset] [(.long p6), (.long ((0 : Int64) + qA))])) _
      refine XS.ladd X92.here hx rfl (hb hby at_181) rfl ?_
      show Steps p.tables e below (T92.setTop (mkF m 182 #[.val (.int p1), .val (.int p2), .val (.int p3), .val (.int p4), .val (.long p5), .second, .val (.long p6), .second, .val (.int (p1 &&& (3 : Int32))), .val (.int ((p2 &&& (2147483647 : Int32)) % (3 : Int32))), .val (.int ((p3 &&& (7 : Int32)) - (1 : Int32))), .val (.int ((p4 &&& (7 : Int32)) - (1 : Int32))), .val (.ref bl), .val (.ref b0), .val (.ref b1), .val (.ref ba), .val (.ref bb), .val (.ref br), .val (.long ((0 : Int64) + qA)), .second, .unset, .unset] [(.long (((0 : Int64) + qA) + p6))])) _
      refine XS.lstore X92.here hx rfl (hb hby at_182) rfl (l' := #[.val (.int p1), .val (.int p2), .val (.int p3), .val (.int p4), .val (.long p5), .second, .val (.long p6), .second, .val (.int (p1 &&& (3 : Int32))), .val (.int ((p2 &&& (2147483647 : Int32)) % (3 : Int32))), .val (.int ((p3 &&& (7 : Int32)) - (1 : Int32))), .val (.int ((p4 &&& (7 : Int32)) - (1 : Int32))), .val (.ref bl), .val (.ref b0), .val (.ref b1), .val (.ref ba), .val (.ref bb), .val (.ref br), .val (.long (((0 : Int64) + qA) + p6)), .second, .unset, .unset]) rfl ?_
      exact k
    ·
      refine ⟨((0 : Int64) + qA), (by rw [h2, Int64.add_zero]), fun t k => ?_⟩
      show Steps p.tables e below (T92.setTop (mkF m 174 #[.val (.int p1), .val (.int p2), .val (.int p3), .val (.int p4), .val (.long p5), .second, .val (.long p6), .second, .val (.int (p1 &&& (3 : Int32))), .val (.int ((p2 &&& (2147483647 : Int32)) % (3 : Int32))), .val (.int ((p3 &&& (7 : Int32)) - (1 : Int32))), .val (.int ((p4 &&& (7 : Int32)) - (1 : Int32))), .val (.ref bl), .val (.ref b0), .val (.ref b1), .val (.ref ba), .val (.ref bb), .val (.ref br), .val (.long ((0 : Int64) + qA)), .second, .unset, .unset] [(.int sB)])) _
      refine XS.ifYes X92.here hx rfl (pc0 := 174) (pc' := 184) rfl (hb hby at_174) rfl ((if0 _ _).trans (teq (h1 : sB = (0 : Int32))).1) (by decide) (by decide) ?_
      exact k
  obtain ⟨cq94, kq94, q94a, q94b, q94c⟩ := isOf hZ e92 r84_2
  obtain ⟨_, _, ⟨T94, L94, k94, n94⟩, -, X94, ⟨Lc94, hQ94, l94, y94, z94⟩, st94⟩ := X92.virtualBack hx (y := (⟨"com/example/podflow/podflow/simulate/RunLog$RunResult", "decisionSeconds", "()D"⟩ : MethodName)) (z := (⟨"com/example/podflow/podflow/simulate/RunLog$RunResult", "decisionSeconds", "()D"⟩ : MethodName)) hown (mvT hZ (hw _ (List.mem_of_getElem? (i := 98) rfl))) (mvT hZ (hw _ (List.mem_of_getElem? (i := 99) rfl))) (notFace_of_selects (args := #[]) (mvT hZ (hw _ (List.mem_of_getElem? (i := 101) rfl)))) (mvT hZ (hw _ (List.mem_of_getElem? (i := 101) rfl))) (mvT hZ (hw _ (List.mem_of_getElem? (i := 100) rfl))) (by decide) (backOf (W := 0) (rm_gdec l Z a0 hw [] br (FP.ddiv (FP.l2d (((0 : Int64) + qA) + qB)) (4741671816366391296 : UInt64)) T84.heap n0 (Nat.le_trans Z0 P89.1) r84_3) hZ (hw _ (List.mem_of_getElem? (i := 102) rfl)) (hw _ (List.mem_of_getElem? (i := 67) rfl)) (by decide) (by decide)) q94a q94c (g := (mkF m 195 #[.val (.int p1), .val (.int p2), .val (.int p3), .val (.int p4), .val (.long p5), .second, .val (.long p6), .second, .val (.int (p1 &&& (3 : Int32))), .val (.int ((p2 &&& (2147483647 : Int32)) % (3 : Int32))), .val (.int ((p3 &&& (7 : Int32)) - (1 : Int32))), .val (.int ((p4 &&& (7 : Int32)) - (1 : Int32))), .val (.ref bl), .val (.ref b0), .val (.ref b1), .val (.ref ba), .val (.ref bb), .val (.ref br), .val (.long (((0 : Int64) + qA) + qB)), .second, .val (.double (FP.ddiv (FP.l2d (((0 : Int64) + qA) + qB)) (4741671816366391296 : UInt64))), .second] [(.ref br)])) rfl (by rw [hml]; rfl) (Steps.refl _) (argsL := []) (rest := []) (lenOf pd_2829D rfl) rfl (by show 2 * 0 + _ ≤ _; exact Nat.le_of_eq rfl) (hb hby at_195) (fun _ _ => ⟨rfl, e92, (by decide : 7 + 0 ≤ _), (by decide : 33 + 0 ≤ _)⟩)
  dsimp only [Pt.U, Pt.locs, Pt.cells, Pt.slots] at X94 l94 y94 z94 st94 hQ94
  subst l94 y94 z94
  obtain ⟨rfl, N94q, e94⟩ := hQ94
  have N94 := Fr.app N92 N94q
  obtain ⟨fs, hr, hrun, hended, hW, hsame⟩ := X94.leave (v := some (.int (1 : Int32))) (fun h => by rw [Bd.returns] at h; cases h)
  refine ⟨_, _, pre0 _ ?_, hrun, hended, _, _, rfl, ?_, ⟨_, rfl⟩, hW, hsame.mono (by decide) (by decide)⟩
  · show Steps p.tables e below (s₁.setTop (mkF m 0 #[.val (.int p1), .val (.int p2), .val (.int p3), .val (.int p4), .val (.long p5), .second, .val (.long p6), .second, .unset, .unset, .unset, .unset, .unset, .unset, .unset, .unset, .unset, .unset, .unset, .unset, .unset, .unset] [])) _
    refine XS.iloadN X0.here hx rfl (hb hby at_0) rfl ?_
    show Steps p.tables e below (s₁.setTop (mkF m 1 #[.val (.int p1), .val (.int p2), .val (.int p3), .val (.int p4), .val (.long p5), .second, .val (.long p6), .second, .unset, .unset, .unset, .unset, .unset, .unset, .unset, .unset, .unset, .unset, .unset, .unset, .unset, .unset] [(.int p1)])) _
    refine XS.iconst X0.here hx rfl (hb hby at_1) ?_
    show Steps p.tables e below (s₁.setTop (mkF m 2 #[.val (.int p1), .val (.int p2), .val (.int p3), .val (.int p4), .val (.long p5), .second, .val (.long p6), .second, .unset, .unset, .unset, .unset, .unset, .unset, .unset, .unset, .unset, .unset, .unset, .unset, .unset, .unset] [(.int (3 : Int32)), (.int p1)])) _
    refine XS.iand X0.here hx rfl (hb hby at_2) rfl ?_
    show Steps p.tables e below (s₁.setTop (mkF m 3 #[.val (.int p1), .val (.int p2), .val (.int p3), .val (.int p4), .val (.long p5), .second, .val (.long p6), .second, .unset, .unset, .unset, .unset, .unset, .unset, .unset, .unset, .unset, .unset, .unset, .unset, .unset, .unset] [(.int (p1 &&& (3 : Int32)))])) _
    refine XS.istore X0.here hx rfl (hb hby at_3) rfl (l' := #[.val (.int p1), .val (.int p2), .val (.int p3), .val (.int p4), .val (.long p5), .second, .val (.long p6), .second, .val (.int (p1 &&& (3 : Int32))), .unset, .unset, .unset, .unset, .unset, .unset, .unset, .unset, .unset, .unset, .unset, .unset, .unset]) rfl ?_
    show Steps p.tables e below (s₁.setTop (mkF m 5 #[.val (.int p1), .val (.int p2), .val (.int p3), .val (.int p4), .val (.long p5), .second, .val (.long p6), .second, .val (.int (p1 &&& (3 : Int32))), .unset, .unset, .unset, .unset, .unset, .unset, .unset, .unset, .unset, .unset, .unset, .unset, .unset] [])) _
    refine XS.iloadN X0.here hx rfl (hb hby at_5) rfl ?_
    show Steps p.tables e below (s₁.setTop (mkF m 6 #[.val (.int p1), .val (.int p2), .val (.int p3), .val (.int p4), .val (.long p5), .second, .val (.long p6), .second, .val (.int (p1 &&& (3 : Int32))), .unset, .unset, .unset, .unset, .unset, .unset, .unset, .unset, .unset, .unset, .unset, .unset, .unset] [(.int p2)])) _
    refine X0.ldcInt hx hown (mvT hZ (hw _ (List.mem_of_getElem? (i := 0) rfl))) (g := (mkF m 6 #[.val (.int p1), .val (.int p2), .val (.int p3), .val (.int p4), .val (.long p5), .second, .val (.long p6), .second, .val (.int (p1 &&& (3 : Int32))), .unset, .unset, .unset, .unset, .unset, .unset, .unset, .unset, .unset, .unset, .unset, .unset, .unset] [(.int p2)])) rfl (hb hby at_6) _ ?_
    show Steps p.tables e below (s₁.setTop (mkF m 8 #[.val (.int p1), .val (.int p2), .val (.int p3), .val (.int p4), .val (.long p5), .second, .val (.long p6), .second, .val (.int (p1 &&& (3 : Int32))), .unset, .unset, .unset, .unset, .unset, .unset, .unset, .unset, .unset, .unset, .unset, .unset, .unset] [(.int (2147483647 : Int32)), (.int p2)])) _
    refine XS.iand X0.here hx rfl (hb hby at_8) rfl ?_
    show Steps p.tables e below (s₁.setTop (mkF m 9 #[.val (.int p1), .val (.int p2), .val (.int p3), .val (.int p4), .val (.long p5), .second, .val (.long p6), .second, .val (.int (p1 &&& (3 : Int32))), .unset, .unset, .unset, .unset, .unset, .unset, .unset, .unset, .unset, .unset, .unset, .unset, .unset] [(.int (p2 &&& (2147483647 : Int32)))])) _
    refine XS.iconst X0.here hx rfl (hb hby at_9) ?_
    show Steps p.tables e below (s₁.setTop (mkF m 10 #[.val (.int p1), .val (.int p2), .val (.int p3), .val (.int p4), .val (.long p5), .second, .val (.long p6), .second, .val (.int (p1 &&& (3 : Int32))), .unset, .unset, .unset, .unset, .unset, .unset, .unset, .unset, .unset, .unset, .unset, .unset, .unset] [(.int (3 : Int32)), (.int (p2 &&& (2147483647 : Int32)))])) _
    refine iremM X0 hx (g := (mkF m 10 #[.val (.int p1), .val (.int p2), .val (.int p3), .val (.int p4), .val (.long p5), .second, .val (.long p6), .second, .val (.int (p1 &&& (3 : Int32))), .unset, .unset, .unset, .unset, .unset, .unset, .unset, .unset, .unset, .unset, .unset, .unset, .unset] [(.int (3 : Int32)), (.int (p2 &&& (2147483647 : Int32)))])) rfl (hb hby at_10) rfl (by decide) ?_
    show Steps p.tables e below (s₁.setTop (mkF m 11 #[.val (.int p1), .val (.int p2), .val (.int p3), .val (.int p4), .val (.long p5), .second, .val (.long p6), .second, .val (.int (p1 &&& (3 : Int32))), .unset, .unset, .unset, .unset, .unset, .unset, .unset, .unset, .unset, .unset, .unset, .unset, .unset] [(.int ((p2 &&& (2147483647 : Int32)) % (3 : Int32)))])) _
    refine XS.istore X0.here hx rfl (hb hby at_11) rfl (l' := #[.val (.int p1), .val (.int p2), .val (.int p3), .val (.int p4), .val (.long p5), .second, .val (.long p6), .second, .val (.int (p1 &&& (3 : Int32))), .val (.int ((p2 &&& (2147483647 : Int32)) % (3 : Int32))), .unset, .unset, .unset, .unset, .unset, .unset, .unset, .unset, .unset, .unset, .unset, .unset]) rfl ?_
    show Steps p.tables e below (s₁.setTop (mkF m 13 #[.val (.int p1), .val (.int p2), .val (.int p3), .val (.int p4), .val (.long p5), .second, .val (.long p6), .second, .val (.int (p1 &&& (3 : Int32))), .val (.int ((p2 &&& (2147483647 : Int32)) % (3 : Int32))), .unset, .unset, .unset, .unset, .unset, .unset, .unset, .unset, .unset, .unset, .unset, .unset] [])) _
    refine XS.iloadN X0.here hx rfl (hb hby at_13) rfl ?_
    show Steps p.tables e below (s₁.setTop (mkF m 14 #[.val (.int p1), .val (.int p2), .val (.int p3), .val (.int p4), .val (.long p5), .second, .val (.long p6), .second, .val (.int (p1 &&& (3 : Int32))), .val (.int ((p2 &&& (2147483647 : Int32)) % (3 : Int32))), .unset, .unset, .unset, .unset, .unset, .unset, .unset, .unset, .unset, .unset, .unset, .unset] [(.int p3)])) _
    refine XS.bipush X0.here hx rfl (hb hby at_14) ?_
    show Steps p.tables e below (s₁.setTop (mkF m 16 #[.val (.int p1), .val (.int p2), .val (.int p3), .val (.int p4), .val (.long p5), .second, .val (.long p6), .second, .val (.int (p1 &&& (3 : Int32))), .val (.int ((p2 &&& (2147483647 : Int32)) % (3 : Int32))), .unset, .unset, .unset, .unset, .unset, .unset, .unset, .unset, .unset, .unset, .unset, .unset] [(.int (7 : Int32)), (.int p3)])) _
    refine XS.iand X0.here hx rfl (hb hby at_16) rfl ?_
    show Steps p.tables e below (s₁.setTop (mkF m 17 #[.val (.int p1), .val (.int p2), .val (.int p3), .val (.int p4), .val (.long p5), .second, .val (.long p6), .second, .val (.int (p1 &&& (3 : Int32))), .val (.int ((p2 &&& (2147483647 : Int32)) % (3 : Int32))), .unset, .unset, .unset, .unset, .unset, .unset, .unset, .unset, .unset, .unset, .unset, .unset] [(.int (p3 &&& (7 : Int32)))])) _
    refine XS.iconst X0.here hx rfl (hb hby at_17) ?_
    show Steps p.tables e below (s₁.setTop (mkF m 18 #[.val (.int p1), .val (.int p2), .val (.int p3), .val (.int p4), .val (.long p5), .second, .val (.long p6), .second, .val (.int (p1 &&& (3 : Int32))), .val (.int ((p2 &&& (2147483647 : Int32)) % (3 : Int32))), .unset, .unset, .unset, .unset, .unset, .unset, .unset, .unset, .unset, .unset, .unset, .unset] [(.int (1 : Int32)), (.int (p3 &&& (7 : Int32)))])) _
    refine XS.isub X0.here hx rfl (hb hby at_18) rfl ?_
    show Steps p.tables e below (s₁.setTop (mkF m 19 #[.val (.int p1), .val (.int p2), .val (.int p3), .val (.int p4), .val (.long p5), .second, .val (.long p6), .second, .val (.int (p1 &&& (3 : Int32))), .val (.int ((p2 &&& (2147483647 : Int32)) % (3 : Int32))), .unset, .unset, .unset, .unset, .unset, .unset, .unset, .unset, .unset, .unset, .unset, .unset] [(.int ((p3 &&& (7 : Int32)) - (1 : Int32)))])) _
    refine XS.istore X0.here hx rfl (hb hby at_19) rfl (l' := #[.val (.int p1), .val (.int p2), .val (.int p3), .val (.int p4), .val (.long p5), .second, .val (.long p6), .second, .val (.int (p1 &&& (3 : Int32))), .val (.int ((p2 &&& (2147483647 : Int32)) % (3 : Int32))), .val (.int ((p3 &&& (7 : Int32)) - (1 : Int32))), .unset, .unset, .unset, .unset, .unset, .unset, .unset, .unset, .unset, .unset, .unset]) rfl ?_
    show Steps p.tables e below (s₁.setTop (mkF m 21 #[.val (.int p1), .val (.int p2), .val (.int p3), .val (.int p4), .val (.long p5), .second, .val (.long p6), .second, .val (.int (p1 &&& (3 : Int32))), .val (.int ((p2 &&& (2147483647 : Int32)) % (3 : Int32))), .val (.int ((p3 &&& (7 : Int32)) - (1 : Int32))), .unset, .unset, .unset, .unset, .unset, .unset, .unset, .unset, .unset, .unset, .unset] [])) _
    refine XS.iloadN X0.here hx rfl (hb hby at_21) rfl ?_
    show Steps p.tables e below (s₁.setTop (mkF m 22 #[.val (.int p1), .val (.int p2), .val (.int p3), .val (.int p4), .val (.long p5), .second, .val (.long p6), .second, .val (.int (p1 &&& (3 : Int32))), .val (.int ((p2 &&& (2147483647 : Int32)) % (3 : Int32))), .val (.int ((p3 &&& (7 : Int32)) - (1 : Int32))), .unset, .unset, .unset, .unset, .unset, .unset, .unset, .unset, .unset, .unset, .unset] [(.int p4)])) _
    refine XS.bipush X0.here hx rfl (hb hby at_22) ?_
    show Steps p.tables e below (s₁.setTop (mkF m 24 #[.val (.int p1), .val (.int p2), .val (.int p3), .val (.int p4), .val (.long p5), .second, .val (.long p6), .second, .val (.int (p1 &&& (3 : Int32))), .val (.int ((p2 &&& (2147483647 : Int32)) % (3 : Int32))), .val (.int ((p3 &&& (7 : Int32)) - (1 : Int32))), .unset, .unset, .unset, .unset, .unset, .unset, .unset, .unset, .unset, .unset, .unset] [(.int (7 : Int32)), (.int p4)])) _
    refine XS.iand X0.here hx rfl (hb hby at_24) rfl ?_
    show Steps p.tables e below (s₁.setTop (mkF m 25 #[.val (.int p1), .val (.int p2), .val (.int p3), .val (.int p4), .val (.long p5), .second, .val (.long p6), .second, .val (.int (p1 &&& (3 : Int32))), .val (.int ((p2 &&& (2147483647 : Int32)) % (3 : Int32))), .val (.int ((p3 &&& (7 : Int32)) - (1 : Int32))), .unset, .unset, .unset, .unset, .unset, .unset, .unset, .unset, .unset, .unset, .unset] [(.int (p4 &&& (7 : Int32)))])) _
    refine XS.iconst X0.here hx rfl (hb hby at_25) ?_
    show Steps p.tables e below (s₁.setTop (mkF m 26 #[.val (.int p1), .val (.int p2), .val (.int p3), .val (.int p4), .val (.long p5), .second, .val (.long p6), .second, .val (.int (p1 &&& (3 : Int32))), .val (.int ((p2 &&& (2147483647 : Int32)) % (3 : Int32))), .val (.int ((p3 &&& (7 : Int32)) - (1 : Int32))), .unset, .unset, .unset, .unset, .unset, .unset, .unset, .unset, .unset, .unset, .unset] [(.int (1 : Int32)), (.int (p4 &&& (7 : Int32)))])) _
    refine XS.isub X0.here hx rfl (hb hby at_26) rfl ?_
    show Steps p.tables e below (s₁.setTop (mkF m 27 #[.val (.int p1), .val (.int p2), .val (.int p3), .val (.int p4), .val (.long p5), .second, .val (.long p6), .second, .val (.int (p1 &&& (3 : Int32))), .val (.int ((p2 &&& (2147483647 : Int32)) % (3 : Int32))), .val (.int ((p3 &&& (7 : Int32)) - (1 : Int32))), .unset, .unset, .unset, .unset, .unset, .unset, .unset, .unset, .unset, .unset, .unset] [(.int ((p4 &&& (7 : Int32)) - (1 : Int32)))])) _
    refine XS.istore X0.here hx rfl (hb hby at_27) rfl (l' := #[.val (.int p1), .val (.int p2), .val (.int p3), .val (.int p4), .val (.long p5), .second, .val (.long p6), .second, .val (.int (p1 &&& (3 : Int32))), .val (.int ((p2 &&& (2147483647 : Int32)) % (3 : Int32))), .val (.int ((p3 &&& (7 : Int32)) - (1 : Int32))), .val (.int ((p4 &&& (7 : Int32)) - (1 : Int32))), .unset, .unset, .unset, .unset, .unset, .unset, .unset, .unset, .unset, .unset]) rfl ?_
    show Steps p.tables e below (s₁.setTop (mkF m 29 #[.val (.int p1), .val (.int p2), .val (.int p3), .val (.int p4), .val (.long p5), .second, .val (.long p6), .second, .val (.int (p1 &&& (3 : Int32))), .val (.int ((p2 &&& (2147483647 : Int32)) % (3 : Int32))), .val (.int ((p3 &&& (7 : Int32)) - (1 : Int32))), .val (.int ((p4 &&& (7 : Int32)) - (1 : Int32))), .unset, .unset, .unset, .unset, .unset, .unset, .unset, .unset, .unset, .unset] [])) _
    refine st1 _ ?_
    show Steps p.tables e below (T1.setTop (mkF m 32 #[.val (.int p1), .val (.int p2), .val (.int p3), .val (.int p4), .val (.long p5), .second, .val (.long p6), .second, .val (.int (p1 &&& (3 : Int32))), .val (.int ((p2 &&& (2147483647 : Int32)) % (3 : Int32))), .val (.int ((p3 &&& (7 : Int32)) - (1 : Int32))), .val (.int ((p4 &&& (7 : Int32)) - (1 : Int32))), .unset, .unset, .unset, .unset, .unset, .unset, .unset, .unset, .unset, .unset] [(.ref bl)])) _
    refine XS.dup X1.here hx rfl (hb hby at_32) rfl rfl ?_
    show Steps p.tables e below (T1.setTop (mkF m 33 #[.val (.int p1), .val (.int p2), .val (.int p3), .val (.int p4), .val (.long p5), .second, .val (.long p6), .second, .val (.int (p1 &&& (3 : Int32))), .val (.int ((p2 &&& (2147483647 : Int32)) % (3 : Int32))), .val (.int ((p3 &&& (7 : Int32)) - (1 : Int32))), .val (.int ((p4 &&& (7 : Int32)) - (1 : Int32))), .unset, .unset, .unset, .unset, .unset, .unset, .unset, .unset, .unset, .unset] [(.ref bl), (.ref bl)])) _
    refine XS.iload X1.here hx rfl (hb hby at_33) rfl ?_
    show Steps p.tables e below (T1.setTop (mkF m 35 #[.val (.int p1), .val (.int p2), .val (.int p3), .val (.int p4), .val (.long p5), .second, .val (.long p6), .second, .val (.int (p1 &&& (3 : Int32))), .val (.int ((p2 &&& (2147483647 : Int32)) % (3 : Int32))), .val (.int ((p3 &&& (7 : Int32)) - (1 : Int32))), .val (.int ((p4 &&& (7 : Int32)) - (1 : Int32))), .unset, .unset, .unset, .unset, .unset, .unset, .unset, .unset, .unset, .unset] [(.int (p1 &&& (3 : Int32))), (.ref bl), (.ref bl)])) _
    refine XS.iload X1.here hx rfl (hb hby at_35) rfl ?_
    show Steps p.tables e below (T1.setTop (mkF m 37 #[.val (.int p1), .val (.int p2), .val (.int p3), .val (.int p4), .val (.long p5), .second, .val (.long p6), .second, .val (.int (p1 &&& (3 : Int32))), .val (.int ((p2 &&& (2147483647 : Int32)) % (3 : Int32))), .val (.int ((p3 &&& (7 : Int32)) - (1 : Int32))), .val (.int ((p4 &&& (7 : Int32)) - (1 : Int32))), .unset, .unset, .unset, .unset, .unset, .unset, .unset, .unset, .unset, .unset] [(.int ((p2 &&& (2147483647 : Int32)) % (3 : Int32))), (.int (p1 &&& (3 : Int32))), (.ref bl), (.ref bl)])) _
    refine XS.dconst0 X1.here hx rfl (hb hby at_37) rfl ?_
    show Steps p.tables e below (T1.setTop (mkF m 38 #[.val (.int p1), .val (.int p2), .val (.int p3), .val (.int p4), .val (.long p5), .second, .val (.long p6), .second, .val (.int (p1 &&& (3 : Int32))), .val (.int ((p2 &&& (2147483647 : Int32)) % (3 : Int32))), .val (.int ((p3 &&& (7 : Int32)) - (1 : Int32))), .val (.int ((p4 &&& (7 : Int32)) - (1 : Int32))), .unset, .unset, .unset, .unset, .unset, .unset, .unset, .unset, .unset, .unset] [(.double FP.dconst0), (.int ((p2 &&& (2147483647 : Int32)) % (3 : Int32))), (.int (p1 &&& (3 : Int32))), (.ref bl), (.ref bl)])) _
    refine XS.dconst1 X1.here hx rfl (hb hby at_38) rfl ?_
    show Steps p.tables e below (T1.setTop (mkF m 39 #[.val (.int p1), .val (.int p2), .val (.int p3), .val (.int p4), .val (.long p5), .second, .val (.long p6), .second, .val (.int (p1 &&& (3 : Int32))), .val (.int ((p2 &&& (2147483647 : Int32)) % (3 : Int32))), .val (.int ((p3 &&& (7 : Int32)) - (1 : Int32))), .val (.int ((p4 &&& (7 : Int32)) - (1 : Int32))), .unset, .unset, .unset, .unset, .unset, .unset, .unset, .unset, .unset, .unset] [(.double FP.dconst1), (.double FP.dconst0), (.int ((p2 &&& (2147483647 : Int32)) % (3 : Int32))), (.int (p1 &&& (3 : Int32))), (.ref bl), (.ref bl)])) _
    refine st12.trans ?_
    show Steps p.tables e below (T12.setTop (mkF m 42 #[.val (.int p1), .val (.int p2), .val (.int p3), .val (.int p4), .val (.long p5), .second, .val (.long p6), .second, .val (.int (p1 &&& (3 : Int32))), .val (.int ((p2 &&& (2147483647 : Int32)) % (3 : Int32))), .val (.int ((p3 &&& (7 : Int32)) - (1 : Int32))), .val (.int ((p4 &&& (7 : Int32)) - (1 : Int32))), .unset, .unset, .unset, .unset, .unset, .unset, .unset, .unset, .unset, .unset] [(.ref bl)])) _
    refine XS.astore X12.here hx rfl (hb hby at_42) rfl rfl (l' := #[.val (.int p1), .val (.int p2), .val (.int p3), .val (.int p4), .val (.long p5), .second, .val (.long p6), .second, .val (.int (p1 &&& (3 : Int32))), .val (.int ((p2 &&& (2147483647 : Int32)) % (3 : Int32))), .val (.int ((p3 &&& (7 : Int32)) - (1 : Int32))), .val (.int ((p4 &&& (7 : Int32)) - (1 : Int32))), .val (.ref bl), .unset, .unset, .unset, .unset, .unset, .unset, .unset, .unset, .unset]) rfl ?_
    show Steps p.tables e below (T12.setTop (mkF m 44 #[.val (.int p1), .val (.int p2), .val (.int p3), .val (.int p4), .val (.long p5), .second, .val (.long p6), .second, .val (.int (p1 &&& (3 : Int32))), .val (.int ((p2 &&& (2147483647 : Int32)) % (3 : Int32))), .val (.int ((p3 &&& (7 : Int32)) - (1 : Int32))), .val (.int ((p4 &&& (7 : Int32)) - (1 : Int32))), .val (.ref bl), .unset, .unset, .unset, .unset, .unset, .unset, .unset, .unset, .unset] [])) _
    refine st14 _ ?_
    show Steps p.tables e below (T14.setTop (mkF m 47 #[.val (.int p1), .val (.int p2), .val (.int p3), .val (.int p4), .val (.long p5), .second, .val (.long p6), .second, .val (.int (p1 &&& (3 : Int32))), .val (.int ((p2 &&& (2147483647 : Int32)) % (3 : Int32))), .val (.int ((p3 &&& (7 : Int32)) - (1 : Int32))), .val (.int ((p4 &&& (7 : Int32)) - (1 : Int32))), .val (.ref bl), .unset, .unset, .unset, .unset, .unset, .unset, .unset, .unset, .unset] [(.ref b0)])) _
    refine XS.dup X14.here hx rfl (hb hby at_47) rfl rfl ?_
    show Steps p.tables e below (T14.setTop (mkF m 48 #[.val (.int p1), .val (.int p2), .val (.int p3), .val (.int p4), .val (.long p5), .second, .val (.long p6), .second, .val (.int (p1 &&& (3 : Int32))), .val (.int ((p2 &&& (2147483647 : Int32)) % (3 : Int32))), .val (.int ((p3 &&& (7 : Int32)) - (1 : Int32))), .val (.int ((p4 &&& (7 : Int32)) - (1 : Int32))), .val (.ref bl), .unset, .unset, .unset, .unset, .unset, .unset, .unset, .unset, .unset] [(.ref b0), (.ref b0)])) _
    refine XS.iload X14.here hx rfl (hb hby at_48) rfl ?_
    show Steps p.tables e below (T14.setTop (mkF m 50 #[.val (.int p1), .val (.int p2), .val (.int p3), .val (.int p4), .val (.long p5), .second, .val (.long p6), .second, .val (.int (p1 &&& (3 : Int32))), .val (.int ((p2 &&& (2147483647 : Int32)) % (3 : Int32))), .val (.int ((p3 &&& (7 : Int32)) - (1 : Int32))), .val (.int ((p4 &&& (7 : Int32)) - (1 : Int32))), .val (.ref bl), .unset, .unset, .unset, .unset, .unset, .unset, .unset, .unset, .unset] [(.int (p1 &&& (3 : Int32))), (.ref b0), (.ref b0)])) _
    refine XS.dconst0 X14.here hx rfl (hb hby at_50) rfl ?_
    show Steps p.tables e below (T14.setTop (mkF m 51 #[.val (.int p1), .val (.int p2), .val (.int p3), .val (.int p4), .val (.long p5), .second, .val (.long p6), .second, .val (.int (p1 &&& (3 : Int32))), .val (.int ((p2 &&& (2147483647 : Int32)) % (3 : Int32))), .val (.int ((p3 &&& (7 : Int32)) - (1 : Int32))), .val (.int ((p4 &&& (7 : Int32)) - (1 : Int32))), .val (.ref bl), .unset, .unset, .unset, .unset, .unset, .unset, .unset, .unset, .unset] [(.double FP.dconst0), (.int (p1 &&& (3 : Int32))), (.ref b0), (.ref b0)])) _
    refine XS.iconst X14.here hx rfl (hb hby at_51) ?_
    show Steps p.tables e below (T14.setTop (mkF m 52 #[.val (.int p1), .val (.int p2), .val (.int p3), .val (.int p4), .val (.long p5), .second, .val (.long p6), .second, .val (.int (p1 &&& (3 : Int32))), .val (.int ((p2 &&& (2147483647 : Int32)) % (3 : Int32))), .val (.int ((p3 &&& (7 : Int32)) - (1 : Int32))), .val (.int ((p4 &&& (7 : Int32)) - (1 : Int32))), .val (.ref bl), .unset, .unset, .unset, .unset, .unset, .unset, .unset, .unset, .unset] [(.int (0 : Int32)), (.double FP.dconst0), (.int (p1 &&& (3 : Int32))), (.ref b0), (.ref b0)])) _
    refine XS.iconst X14.here hx rfl (hb hby at_52) ?_
    show Steps p.tables e below (T14.setTop (mkF m 53 #[.val (.int p1), .val (.int p2), .val (.int p3), .val (.int p4), .val (.long p5), .second, .val (.long p6), .second, .val (.int (p1 &&& (3 : Int32))), .val (.int ((p2 &&& (2147483647 : Int32)) % (3 : Int32))), .val (.int ((p3 &&& (7 : Int32)) - (1 : Int32))), .val (.int ((p4 &&& (7 : Int32)) - (1 : Int32))), .val (.ref bl), .unset, .unset, .unset, .unset, .unset, .unset, .unset, .unset, .unset] [(.int (0 : Int32)), (.int (0 : Int32)), (.double FP.dconst0), (.int (p1 &&& (3 : Int32))), (.ref b0), (.ref b0)])) _
    refine st20.trans ?_
    show Steps p.tables e below (T20.setTop (mkF m 56 #[.val (.int p1), .val (.int p2), .val (.int p3), .val (.int p4), .val (.long p5), .second, .val (.long p6), .second, .val (.int (p1 &&& (3 : Int32))), .val (.int ((p2 &&& (2147483647 : Int32)) % (3 : Int32))), .val (.int ((p3 &&& (7 : Int32)) - (1 : Int32))), .val (.int ((p4 &&& (7 : Int32)) - (1 : Int32))), .val (.ref bl), .unset, .unset, .unset, .unset, .unset, .unset, .unset, .unset, .unset] [(.ref b0)])) _
    refine XS.astore X20.here hx rfl (hb hby at_56) rfl rfl (l' := #[.val (.int p1), .val (.int p2), .val (.int p3), .val (.int p4), .val (.long p5), .second, .val (.long p6), .second, .val (.int (p1 &&& (3 : Int32))), .val (.int ((p2 &&& (2147483647 : Int32)) % (3 : Int32))), .val (.int ((p3 &&& (7 : Int32)) - (1 : Int32))), .val (.int ((p4 &&& (7 : Int32)) - (1 : Int32))), .val (.ref bl), .val (.ref b0), .unset, .unset, .unset, .unset, .unset, .unset, .unset, .unset]) rfl ?_
    show Steps p.tables e below (T20.setTop (mkF m 58 #[.val (.int p1), .val (.int p2), .val (.int p3), .val (.int p4), .val (.long p5), .second, .val (.long p6), .second, .val (.int (p1 &&& (3 : Int32))), .val (.int ((p2 &&& (2147483647 : Int32)) % (3 : Int32))), .val (.int ((p3 &&& (7 : Int32)) - (1 : Int32))), .val (.int ((p4 &&& (7 : Int32)) - (1 : Int32))), .val (.ref bl), .val (.ref b0), .unset, .unset, .unset, .unset, .unset, .unset, .unset, .unset] [])) _
    refine st22 _ ?_
    show Steps p.tables e below (T22.setTop (mkF m 61 #[.val (.int p1), .val (.int p2), .val (.int p3), .val (.int p4), .val (.long p5), .second, .val (.long p6), .second, .val (.int (p1 &&& (3 : Int32))), .val (.int ((p2 &&& (2147483647 : Int32)) % (3 : Int32))), .val (.int ((p3 &&& (7 : Int32)) - (1 : Int32))), .val (.int ((p4 &&& (7 : Int32)) - (1 : Int32))), .val (.ref bl), .val (.ref b0), .unset, .unset, .unset, .unset, .unset, .unset, .unset, .unset] [(.ref b1)])) _
    refine XS.dup X22.here hx rfl (hb hby at_61) rfl rfl ?_
    show Steps p.tables e below (T22.setTop (mkF m 62 #[.val (.int p1), .val (.int p2), .val (.int p3), .val (.int p4), .val (.long p5), .second, .val (.long p6), .second, .val (.int (p1 &&& (3 : Int32))), .val (.int ((p2 &&& (2147483647 : Int32)) % (3 : Int32))), .val (.int ((p3 &&& (7 : Int32)) - (1 : Int32))), .val (.int ((p4 &&& (7 : Int32)) - (1 : Int32))), .val (.ref bl), .val (.ref b0), .unset, .unset, .unset, .unset, .unset, .unset, .unset, .unset] [(.ref b1), (.ref b1)])) _
    refine XS.iload X22.here hx rfl (hb hby at_62) rfl ?_
    show Steps p.tables e below (T22.setTop (mkF m 64 #[.val (.int p1), .val (.int p2), .val (.int p3), .val (.int p4), .val (.long p5), .second, .val (.long p6), .second, .val (.int (p1 &&& (3 : Int32))), .val (.int ((p2 &&& (2147483647 : Int32)) % (3 : Int32))), .val (.int ((p3 &&& (7 : Int32)) - (1 : Int32))), .val (.int ((p4 &&& (7 : Int32)) - (1 : Int32))), .val (.ref bl), .val (.ref b0), .unset, .unset, .unset, .unset, .unset, .unset, .unset, .unset] [(.int (p1 &&& (3 : Int32))), (.ref b1), (.ref b1)])) _
    refine XS.iconst X22.here hx rfl (hb hby at_64) ?_
    show Steps p.tables e below (T22.setTop (mkF m 65 #[.val (.int p1), .val (.int p2), .val (.int p3), .val (.int p4), .val (.long p5), .second, .val (.long p6), .second, .val (.int (p1 &&& (3 : Int32))), .val (.int ((p2 &&& (2147483647 : Int32)) % (3 : Int32))), .val (.int ((p3 &&& (7 : Int32)) - (1 : Int32))), .val (.int ((p4 &&& (7 : Int32)) - (1 : Int32))), .val (.ref bl), .val (.ref b0), .unset, .unset, .unset, .unset, .unset, .unset, .unset, .unset] [(.int (1 : Int32)), (.int (p1 &&& (3 : Int32))), (.ref b1), (.ref b1)])) _
    refine XS.iadd X22.here hx rfl (hb hby at_65) rfl ?_
    show Steps p.tables e below (T22.setTop (mkF m 66 #[.val (.int p1), .val (.int p2), .val (.int p3), .val (.int p4), .val (.long p5), .second, .val (.long p6), .second, .val (.int (p1 &&& (3 : Int32))), .val (.int ((p2 &&& (2147483647 : Int32)) % (3 : Int32))), .val (.int ((p3 &&& (7 : Int32)) - (1 : Int32))), .val (.int ((p4 &&& (7 : Int32)) - (1 : Int32))), .val (.ref bl), .val (.ref b0), .unset, .unset, .unset, .unset, .unset, .unset, .unset, .unset] [(.int ((p1 &&& (3 : Int32)) + (1 : Int32))), (.ref b1), (.ref b1)])) _
    refine XS.dconst0 X22.here hx rfl (hb hby at_66) rfl ?_
    show Steps p.tables e below (T22.setTop (mkF m 67 #[.val (.int p1), .val (.int p2), .val (.int p3), .val (.int p4), .val (.long p5), .second, .val (.long p6), .second, .val (.int (p1 &&& (3 : Int32))), .val (.int ((p2 &&& (2147483647 : Int32)) % (3 : Int32))), .val (.int ((p3 &&& (7 : Int32)) - (1 : Int32))), .val (.int ((p4 &&& (7 : Int32)) - (1 : Int32))), .val (.ref bl), .val (.ref b0), .unset, .unset, .unset, .unset, .unset, .unset, .unset, .unset] [(.double FP.dconst0), (.int ((p1 &&& (3 : Int32)) + (1 : Int32))), (.ref b1), (.ref b1)])) _
    refine XS.iconst X22.here hx rfl (hb hby at_67) ?_
    show Steps p.tables e below (T22.setTop (mkF m 68 #[.val (.int p1), .val (.int p2), .val (.int p3), .val (.int p4), .val (.long p5), .second, .val (.long p6), .second, .val (.int (p1 &&& (3 : Int32))), .val (.int ((p2 &&& (2147483647 : Int32)) % (3 : Int32))), .val (.int ((p3 &&& (7 : Int32)) - (1 : Int32))), .val (.int ((p4 &&& (7 : Int32)) - (1 : Int32))), .val (.ref bl), .val (.ref b0), .unset, .unset, .unset, .unset, .unset, .unset, .unset, .unset] [(.int (0 : Int32)), (.double FP.dconst0), (.int ((p1 &&& (3 : Int32)) + (1 : Int32))), (.ref b1), (.ref b1)])) _
    refine XS.iconst X22.here hx rfl (hb hby at_68) ?_
    show Steps p.tables e below (T22.setTop (mkF m 69 #[.val (.int p1), .val (.int p2), .val (.int p3), .val (.int p4), .val (.long p5), .second, .val (.long p6), .second, .val (.int (p1 &&& (3 : Int32))), .val (.int ((p2 &&& (2147483647 : Int32)) % (3 : Int32))), .val (.int ((p3 &&& (7 : Int32)) - (1 : Int32))), .val (.int ((p4 &&& (7 : Int32)) - (1 : Int32))), .val (.ref bl), .val (.ref b0), .unset, .unset, .unset, .unset, .unset, .unset, .unset, .unset] [(.int (0 : Int32)), (.int (0 : Int32)), (.double FP.dconst0), (.int ((p1 &&& (3 : Int32)) + (1 : Int32))), (.ref b1), (.ref b1)])) _
    refine st30.trans ?_
    show Steps p.tables e below (T30.setTop (mkF m 72 #[.val (.int p1), .val (.int p2), .val (.int p3), .val (.int p4), .val (.long p5), .second, .val (.long p6), .second, .val (.int (p1 &&& (3 : Int32))), .val (.int ((p2 &&& (2147483647 : Int32)) % (3 : Int32))), .val (.int ((p3 &&& (7 : Int32)) - (1 : Int32))), .val (.int ((p4 &&& (7 : Int32)) - (1 : Int32))), .val (.ref bl), .val (.ref b0), .unset, .unset, .unset, .unset, .unset, .unset, .unset, .unset] [(.ref b1)])) _
    refine XS.astore X30.here hx rfl (hb hby at_72) rfl rfl (l' := #[.val (.int p1), .val (.int p2), .val (.int p3), .val (.int p4), .val (.long p5), .second, .val (.long p6), .second, .val (.int (p1 &&& (3 : Int32))), .val (.int ((p2 &&& (2147483647 : Int32)) % (3 : Int32))), .val (.int ((p3 &&& (7 : Int32)) - (1 : Int32))), .val (.int ((p4 &&& (7 : Int32)) - (1 : Int32))), .val (.ref bl), .val (.ref b0), .val (.ref b1), .unset, .unset, .unset, .unset, .unset, .unset, .unset]) rfl ?_
    show Steps p.tables e below (T30.setTop (mkF m 74 #[.val (.int p1), .val (.int p2), .val (.int p3), .val (.int p4), .val (.long p5), .second, .val (.long p6), .second, .val (.int (p1 &&& (3 : Int32))), .val (.int ((p2 &&& (2147483647 : Int32)) % (3 : Int32))), .val (.int ((p3 &&& (7 : Int32)) - (1 : Int32))), .val (.int ((p4 &&& (7 : Int32)) - (1 : Int32))), .val (.ref bl), .val (.ref b0), .val (.ref b1), .unset, .unset, .unset, .unset, .unset, .unset, .unset] [])) _
    refine st32 _ ?_
    show Steps p.tables e below (T32.setTop (mkF m 77 #[.val (.int p1), .val (.int p2), .val (.int p3), .val (.int p4), .val (.long p5), .second, .val (.long p6), .second, .val (.int (p1 &&& (3 : Int32))), .val (.int ((p2 &&& (2147483647 : Int32)) % (3 : Int32))), .val (.int ((p3 &&& (7 : Int32)) - (1 : Int32))), .val (.int ((p4 &&& (7 : Int32)) - (1 : Int32))), .val (.ref bl), .val (.ref b0), .val (.ref b1), .unset, .unset, .unset, .unset, .unset, .unset, .unset] [(.ref ba)])) _
    refine XS.dup X32.here hx rfl (hb hby at_77) rfl rfl ?_
    show Steps p.tables e below (T32.setTop (mkF m 78 #[.val (.int p1), .val (.int p2), .val (.int p3), .val (.int p4), .val (.long p5), .second, .val (.long p6), .second, .val (.int (p1 &&& (3 : Int32))), .val (.int ((p2 &&& (2147483647 : Int32)) % (3 : Int32))), .val (.int ((p3 &&& (7 : Int32)) - (1 : Int32))), .val (.int ((p4 &&& (7 : Int32)) - (1 : Int32))), .val (.ref bl), .val (.ref b0), .val (.ref b1), .unset, .unset, .unset, .unset, .unset, .unset, .unset] [(.ref ba), (.ref ba)])) _
    refine XS.iload X32.here hx rfl (hb hby at_78) rfl ?_
    show Steps p.tables e below (T32.setTop (mkF m 80 #[.val (.int p1), .val (.int p2), .val (.int p3), .val (.int p4), .val (.long p5), .second, .val (.long p6), .second, .val (.int (p1 &&& (3 : Int32))), .val (.int ((p2 &&& (2147483647 : Int32)) % (3 : Int32))), .val (.int ((p3 &&& (7 : Int32)) - (1 : Int32))), .val (.int ((p4 &&& (7 : Int32)) - (1 : Int32))), .val (.ref bl), .val (.ref b0), .val (.ref b1), .unset, .unset, .unset, .unset, .unset, .unset, .unset] [(.int ((p3 &&& (7 : Int32)) - (1 : Int32))), (.ref ba), (.ref ba)])) _
    refine XS.dconst0 X32.here hx rfl (hb hby at_80) rfl ?_
    show Steps p.tables e below (T32.setTop (mkF m 81 #[.val (.int p1), .val (.int p2), .val (.int p3), .val (.int p4), .val (.long p5), .second, .val (.long p6), .second, .val (.int (p1 &&& (3 : Int32))), .val (.int ((p2 &&& (2147483647 : Int32)) % (3 : Int32))), .val (.int ((p3 &&& (7 : Int32)) - (1 : Int32))), .val (.int ((p4 &&& (7 : Int32)) - (1 : Int32))), .val (.ref bl), .val (.ref b0), .val (.ref b1), .unset, .unset, .unset, .unset, .unset, .unset, .unset] [(.double FP.dconst0), (.int ((p3 &&& (7 : Int32)) - (1 : Int32))), (.ref ba), (.ref ba)])) _
    refine XS.iconst X32.here hx rfl (hb hby at_81) ?_
    show Steps p.tables e below (T32.setTop (mkF m 82 #[.val (.int p1), .val (.int p2), .val (.int p3), .val (.int p4), .val (.long p5), .second, .val (.long p6), .second, .val (.int (p1 &&& (3 : Int32))), .val (.int ((p2 &&& (2147483647 : Int32)) % (3 : Int32))), .val (.int ((p3 &&& (7 : Int32)) - (1 : Int32))), .val (.int ((p4 &&& (7 : Int32)) - (1 : Int32))), .val (.ref bl), .val (.ref b0), .val (.ref b1), .unset, .unset, .unset, .unset, .unset, .unset, .unset] [(.int (0 : Int32)), (.double FP.dconst0), (.int ((p3 &&& (7 : Int32)) - (1 : Int32))), (.ref ba), (.ref ba)])) _
    refine XS.iconst X32.here hx rfl (hb hby at_82) ?_
    show Steps p.tables e below (T32.setTop (mkF m 83 #[.val (.int p1), .val (.int p2), .val (.int p3), .val (.int p4), .val (.long p5), .second, .val (.long p6), .second, .val (.int (p1 &&& (3 : Int32))), .val (.int ((p2 &&& (2147483647 : Int32)) % (3 : Int32))), .val (.int ((p3 &&& (7 : Int32)) - (1 : Int32))), .val (.int ((p4 &&& (7 : Int32)) - (1 : Int32))), .val (.ref bl), .val (.ref b0), .val (.ref b1), .unset, .unset, .unset, .unset, .unset, .unset, .unset] [(.int (0 : Int32)), (.int (0 : Int32)), (.double FP.dconst0), (.int ((p3 &&& (7 : Int32)) - (1 : Int32))), (.ref ba), (.ref ba)])) _
    refine st41.trans ?_
    show Steps p.tables e below (T41.setTop (mkF m 86 #[.val (.int p1), .val (.int p2), .val (.int p3), .val (.int p4), .val (.long p5), .second, .val (.long p6), .second, .val (.int (p1 &&& (3 : Int32))), .val (.int ((p2 &&& (2147483647 : Int32)) % (3 : Int32))), .val (.int ((p3 &&& (7 : Int32)) - (1 : Int32))), .val (.int ((p4 &&& (7 : Int32)) - (1 : Int32))), .val (.ref bl), .val (.ref b0), .val (.ref b1), .unset, .unset, .unset, .unset, .unset, .unset, .unset] [(.ref ba)])) _
    refine XS.astore X41.here hx rfl (hb hby at_86) rfl rfl (l' := #[.val (.int p1), .val (.int p2), .val (.int p3), .val (.int p4), .val (.long p5), .second, .val (.long p6), .second, .val (.int (p1 &&& (3 : Int32))), .val (.int ((p2 &&& (2147483647 : Int32)) % (3 : Int32))), .val (.int ((p3 &&& (7 : Int32)) - (1 : Int32))), .val (.int ((p4 &&& (7 : Int32)) - (1 : Int32))), .val (.ref bl), .val (.ref b0), .val (.ref b1), .val (.ref ba), .unset, .unset, .unset, .unset, .unset, .unset]) rfl ?_
    show Steps p.tables e below (T41.setTop (mkF m 88 #[.val (.int p1), .val (.int p2), .val (.int p3), .val (.int p4), .val (.long p5), .second, .val (.long p6), .second, .val (.int (p1 &&& (3 : Int32))), .val (.int ((p2 &&& (2147483647 : Int32)) % (3 : Int32))), .val (.int ((p3 &&& (7 : Int32)) - (1 : Int32))), .val (.int ((p4 &&& (7 : Int32)) - (1 : Int32))), .val (.ref bl), .val (.ref b0), .val (.ref b1), .val (.ref ba), .unset, .unset, .unset, .unset, .unset, .unset] [])) _
    refine st43 _ ?_
    show Steps p.tables e below (T43.setTop (mkF m 91 #[.val (.int p1), .val (.int p2), .val (.int p3), .val (.int p4), .val (.long p5), .second, .val (.long p6), .second, .val (.int (p1 &&& (3 : Int32))), .val (.int ((p2 &&& (2147483647 : Int32)) % (3 : Int32))), .val (.int ((p3 &&& (7 : Int32)) - (1 : Int32))), .val (.int ((p4 &&& (7 : Int32)) - (1 : Int32))), .val (.ref bl), .val (.ref b0), .val (.ref b1), .val (.ref ba), .unset, .unset, .unset, .unset, .unset, .unset] [(.ref bb)])) _
    refine XS.dup X43.here hx rfl (hb hby at_91) rfl rfl ?_
    show Steps p.tables e below (T43.setTop (mkF m 92 #[.val (.int p1), .val (.int p2), .val (.int p3), .val (.int p4), .val (.long p5), .second, .val (.long p6), .second, .val (.int (p1 &&& (3 : Int32))), .val (.int ((p2 &&& (2147483647 : Int32)) % (3 : Int32))), .val (.int ((p3 &&& (7 : Int32)) - (1 : Int32))), .val (.int ((p4 &&& (7 : Int32)) - (1 : Int32))), .val (.ref bl), .val (.ref b0), .val (.ref b1), .val (.ref ba), .unset, .unset, .unset, .unset, .unset, .unset] [(.ref bb), (.ref bb)])) _
    refine XS.iload X43.here hx rfl (hb hby at_92) rfl ?_
    show Steps p.tables e below (T43.setTop (mkF m 94 #[.val (.int p1), .val (.int p2), .val (.int p3), .val (.int p4), .val (.long p5), .second, .val (.long p6), .second, .val (.int (p1 &&& (3 : Int32))), .val (.int ((p2 &&& (2147483647 : Int32)) % (3 : Int32))), .val (.int ((p3 &&& (7 : Int32)) - (1 : Int32))), .val (.int ((p4 &&& (7 : Int32)) - (1 : Int32))), .val (.ref bl), .val (.ref b0), .val (.ref b1), .val (.ref ba), .unset, .unset, .unset, .unset, .unset, .unset] [(.int ((p4 &&& (7 : Int32)) - (1 : Int32))), (.ref bb), (.ref bb)])) _
    refine XS.dconst0 X43.here hx rfl (hb hby at_94) rfl ?_
    show Steps p.tables e below (T43.setTop (mkF m 95 #[.val (.int p1), .val (.int p2), .val (.int p3), .val (.int p4), .val (.long p5), .second, .val (.long p6), .second, .val (.int (p1 &&& (3 : Int32))), .val (.int ((p2 &&& (2147483647 : Int32)) % (3 : Int32))), .val (.int ((p3 &&& (7 : Int32)) - (1 : Int32))), .val (.int ((p4 &&& (7 : Int32)) - (1 : Int32))), .val (.ref bl), .val (.ref b0), .val (.ref b1), .val (.ref ba), .unset, .unset, .unset, .unset, .unset, .unset] [(.double FP.dconst0), (.int ((p4 &&& (7 : Int32)) - (1 : Int32))), (.ref bb), (.ref bb)])) _
    refine XS.iconst X43.here hx rfl (hb hby at_95) ?_
    show Steps p.tables e below (T43.setTop (mkF m 96 #[.val (.int p1), .val (.int p2), .val (.int p3), .val (.int p4), .val (.long p5), .second, .val (.long p6), .second, .val (.int (p1 &&& (3 : Int32))), .val (.int ((p2 &&& (2147483647 : Int32)) % (3 : Int32))), .val (.int ((p3 &&& (7 : Int32)) - (1 : Int32))), .val (.int ((p4 &&& (7 : Int32)) - (1 : Int32))), .val (.ref bl), .val (.ref b0), .val (.ref b1), .val (.ref ba), .unset, .unset, .unset, .unset, .unset, .unset] [(.int (0 : Int32)), (.double FP.dconst0), (.int ((p4 &&& (7 : Int32)) - (1 : Int32))), (.ref bb), (.ref bb)])) _
    refine XS.iconst X43.here hx rfl (hb hby at_96) ?_
    show Steps p.tables e below (T43.setTop (mkF m 97 #[.val (.int p1), .val (.int p2), .val (.int p3), .val (.int p4), .val (.long p5), .second, .val (.long p6), .second, .val (.int (p1 &&& (3 : Int32))), .val (.int ((p2 &&& (2147483647 : Int32)) % (3 : Int32))), .val (.int ((p3 &&& (7 : Int32)) - (1 : Int32))), .val (.int ((p4 &&& (7 : Int32)) - (1 : Int32))), .val (.ref bl), .val (.ref b0), .val (.ref b1), .val (.ref ba), .unset, .unset, .unset, .unset, .unset, .unset] [(.int (0 : Int32)), (.int (0 : Int32)), (.double FP.dconst0), (.int ((p4 &&& (7 : Int32)) - (1 : Int32))), (.ref bb), (.ref bb)])) _
    refine st53.trans ?_
    show Steps p.tables e below (T53.setTop (mkF m 100 #[.val (.int p1), .val (.int p2), .val (.int p3), .val (.int p4), .val (.long p5), .second, .val (.long p6), .second, .val (.int (p1 &&& (3 : Int32))), .val (.int ((p2 &&& (2147483647 : Int32)) % (3 : Int32))), .val (.int ((p3 &&& (7 : Int32)) - (1 : Int32))), .val (.int ((p4 &&& (7 : Int32)) - (1 : Int32))), .val (.ref bl), .val (.ref b0), .val (.ref b1), .val (.ref ba), .unset, .unset, .unset, .unset, .unset, .unset] [(.ref bb)])) _
    refine XS.astore X53.here hx rfl (hb hby at_100) rfl rfl (l' := #[.val (.int p1), .val (.int p2), .val (.int p3), .val (.int p4), .val (.long p5), .second, .val (.long p6), .second, .val (.int (p1 &&& (3 : Int32))), .val (.int ((p2 &&& (2147483647 : Int32)) % (3 : Int32))), .val (.int ((p3 &&& (7 : Int32)) - (1 : Int32))), .val (.int ((p4 &&& (7 : Int32)) - (1 : Int32))), .val (.ref bl), .val (.ref b0), .val (.ref b1), .val (.ref ba), .val (.ref bb), .unset, .unset, .unset, .unset, .unset]) rfl ?_
    show Steps p.tables e below (T53.setTop (mkF m 102 #[.val (.int p1), .val (.int p2), .val (.int p3), .val (.int p4), .val (.long p5), .second, .val (.long p6), .second, .val (.int (p1 &&& (3 : Int32))), .val (.int ((p2 &&& (2147483647 : Int32)) % (3 : Int32))), .val (.int ((p3 &&& (7 : Int32)) - (1 : Int32))), .val (.int ((p4 &&& (7 : Int32)) - (1 : Int32))), .val (.ref bl), .val (.ref b0), .val (.ref b1), .val (.ref ba), .val (.ref bb), .unset, .unset, .unset, .unset, .unset] [])) _
    refine XS.aload X53.here hx rfl (hb hby at_102) rfl rfl ?_
    show Steps p.tables e below (T53.setTop (mkF m 104 #[.val (.int p1), .val (.int p2), .val (.int p3), .val (.int p4), .val (.long p5), .second, .val (.long p6), .second, .val (.int (p1 &&& (3 : Int32))), .val (.int ((p2 &&& (2147483647 : Int32)) % (3 : Int32))), .val (.int ((p3 &&& (7 : Int32)) - (1 : Int32))), .val (.int ((p4 &&& (7 : Int32)) - (1 : Int32))), .val (.ref bl), .val (.ref b0), .val (.ref b1), .val (.ref ba), .val (.ref bb), .unset, .unset, .unset, .unset, .unset] [(.ref bl)])) _
    refine XS.aload X53.here hx rfl (hb hby at_104) rfl rfl ?_
    show Steps p.tables e below (T53.setTop (mkF m 106 #[.val (.int p1), .val (.int p2), .val (.int p3), .val (.int p4), .val (.long p5), .second, .val (.long p6), .second, .val (.int (p1 &&& (3 : Int32))), .val (.int ((p2 &&& (2147483647 : Int32)) % (3 : Int32))), .val (.int ((p3 &&& (7 : Int32)) - (1 : Int32))), .val (.int ((p4 &&& (7 : Int32)) - (1 : Int32))), .val (.ref bl), .val (.ref b0), .val (.ref b1), .val (.ref ba), .val (.ref bb), .unset, .unset, .unset, .unset, .unset] [(.ref b0), (.ref bl)])) _
    refine XS.dconst0 X53.here hx rfl (hb hby at_106) rfl ?_
    show Steps p.tables e below (T53.setTop (mkF m 107 #[.val (.int p1), .val (.int p2), .val (.int p3), .val (.int p4), .val (.long p5), .second, .val (.long p6), .second, .val (.int (p1 &&& (3 : Int32))), .val (.int ((p2 &&& (2147483647 : Int32)) % (3 : Int32))), .val (.int ((p3 &&& (7 : Int32)) - (1 : Int32))), .val (.int ((p4 &&& (7 : Int32)) - (1 : Int32))), .val (.ref bl), .val (.ref b0), .val (.ref b1), .val (.ref ba), .val (.ref bb), .unset, .unset, .unset, .unset, .unset] [(.double FP.dconst0), (.ref b0), (.ref bl)])) _
    refine st69.trans ?_
    show Steps p.tables e below (T69.setTop (mkF m 110 #[.val (.int p1), .val (.int p2), .val (.int p3), .val (.int p4), .val (.long p5), .second, .val (.long p6), .second, .val (.int (p1 &&& (3 : Int32))), .val (.int ((p2 &&& (2147483647 : Int32)) % (3 : Int32))), .val (.int ((p3 &&& (7 : Int32)) - (1 : Int32))), .val (.int ((p4 &&& (7 : Int32)) - (1 : Int32))), .val (.ref bl), .val (.ref b0), .val (.ref b1), .val (.ref ba), .val (.ref bb), .unset, .unset, .unset, .unset, .unset] [])) _
    refine XS.aload X69.here hx rfl (hb hby at_110) rfl rfl ?_
    show Steps p.tables e below (T69.setTop (mkF m 112 #[.val (.int p1), .val (.int p2), .val (.int p3), .val (.int p4), .val (.long p5), .second, .val (.long p6), .second, .val (.int (p1 &&& (3 : Int32))), .val (.int ((p2 &&& (2147483647 : Int32)) % (3 : Int32))), .val (.int ((p3 &&& (7 : Int32)) - (1 : Int32))), .val (.int ((p4 &&& (7 : Int32)) - (1 : Int32))), .val (.ref bl), .val (.ref b0), .val (.ref b1), .val (.ref ba), .val (.ref bb), .unset, .unset, .unset, .unset, .unset] [(.ref bl)])) _
    refine XS.aload X69.here hx rfl (hb hby at_112) rfl rfl ?_
    show Steps p.tables e below (T69.setTop (mkF m 114 #[.val (.int p1), .val (.int p2), .val (.int p3), .val (.int p4), .val (.long p5), .second, .val (.long p6), .second, .val (.int (p1 &&& (3 : Int32))), .val (.int ((p2 &&& (2147483647 : Int32)) % (3 : Int32))), .val (.int ((p3 &&& (7 : Int32)) - (1 : Int32))), .val (.int ((p4 &&& (7 : Int32)) - (1 : Int32))), .val (.ref bl), .val (.ref b0), .val (.ref b1), .val (.ref ba), .val (.ref bb), .unset, .unset, .unset, .unset, .unset] [(.ref b1), (.ref bl)])) _
    refine XS.dconst0 X69.here hx rfl (hb hby at_114) rfl ?_
    show Steps p.tables e below (T69.setTop (mkF m 115 #[.val (.int p1), .val (.int p2), .val (.int p3), .val (.int p4), .val (.long p5), .second, .val (.long p6), .second, .val (.int (p1 &&& (3 : Int32))), .val (.int ((p2 &&& (2147483647 : Int32)) % (3 : Int32))), .val (.int ((p3 &&& (7 : Int32)) - (1 : Int32))), .val (.int ((p4 &&& (7 : Int32)) - (1 : Int32))), .val (.ref bl), .val (.ref b0), .val (.ref b1), .val (.ref ba), .val (.ref bb), .unset, .unset, .unset, .unset, .unset] [(.double FP.dconst0), (.ref b1), (.ref bl)])) _
    refine st74.trans ?_
    show Steps p.tables e below (T74.setTop (mkF m 118 #[.val (.int p1), .val (.int p2), .val (.int p3), .val (.int p4), .val (.long p5), .second, .val (.long p6), .second, .val (.int (p1 &&& (3 : Int32))), .val (.int ((p2 &&& (2147483647 : Int32)) % (3 : Int32))), .val (.int ((p3 &&& (7 : Int32)) - (1 : Int32))), .val (.int ((p4 &&& (7 : Int32)) - (1 : Int32))), .val (.ref bl), .val (.ref b0), .val (.ref b1), .val (.ref ba), .val (.ref bb), .unset, .unset, .unset, .unset, .unset] [])) _
    refine XS.aload X74.here hx rfl (hb hby at_118) rfl rfl ?_
    show Steps p.tables e below (T74.setTop (mkF m 120 #[.val (.int p1), .val (.int p2), .val (.int p3), .val (.int p4), .val (.long p5), .second, .val (.long p6), .second, .val (.int (p1 &&& (3 : Int32))), .val (.int ((p2 &&& (2147483647 : Int32)) % (3 : Int32))), .val (.int ((p3 &&& (7 : Int32)) - (1 : Int32))), .val (.int ((p4 &&& (7 : Int32)) - (1 : Int32))), .val (.ref bl), .val (.ref b0), .val (.ref b1), .val (.ref ba), .val (.ref bb), .unset, .unset, .unset, .unset, .unset] [(.ref bl)])) _
    refine XS.aload X74.here hx rfl (hb hby at_120) rfl rfl ?_
    show Steps p.tables e below (T74.setTop (mkF m 122 #[.val (.int p1), .val (.int p2), .val (.int p3), .val (.int p4), .val (.long p5), .second, .val (.long p6), .second, .val (.int (p1 &&& (3 : Int32))), .val (.int ((p2 &&& (2147483647 : Int32)) % (3 : Int32))), .val (.int ((p3 &&& (7 : Int32)) - (1 : Int32))), .val (.int ((p4 &&& (7 : Int32)) - (1 : Int32))), .val (.ref bl), .val (.ref b0), .val (.ref b1), .val (.ref ba), .val (.ref bb), .unset, .unset, .unset, .unset, .unset] [(.ref ba), (.ref bl)])) _
    refine XS.lload X74.here hx rfl (hb hby at_122) rfl ?_
    show Steps p.tables e below (T74.setTop (mkF m 124 #[.val (.int p1), .val (.int p2), .val (.int p3), .val (.int p4), .val (.long p5), .second, .val (.long p6), .second, .val (.int (p1 &&& (3 : Int32))), .val (.int ((p2 &&& (2147483647 : Int32)) % (3 : Int32))), .val (.int ((p3 &&& (7 : Int32)) - (1 : Int32))), .val (.int ((p4 &&& (7 : Int32)) - (1 : Int32))), .val (.ref bl), .val (.ref b0), .val (.ref b1), .val (.ref ba), .val (.ref bb), .unset, .unset, .unset, .unset, .unset] [(.long p5), (.ref ba), (.ref bl)])) _
    refine st78.trans ?_
    show Steps p.tables e below (T78.setTop (mkF m 127 #[.val (.int p1), .val (.int p2), .val (.int p3), .val (.int p4), .val (.long p5), .second, .val (.long p6), .second, .val (.int (p1 &&& (3 : Int32))), .val (.int ((p2 &&& (2147483647 : Int32)) % (3 : Int32))), .val (.int ((p3 &&& (7 : Int32)) - (1 : Int32))), .val (.int ((p4 &&& (7 : Int32)) - (1 : Int32))), .val (.ref bl), .val (.ref b0), .val (.ref b1), .val (.ref ba), .val (.ref bb), .unset, .unset, .unset, .unset, .unset] [])) _
    refine XS.aload X78.here hx rfl (hb hby at_127) rfl rfl ?_
    show Steps p.tables e below (T78.setTop (mkF m 129 #[.val (.int p1), .val (.int p2), .val (.int p3), .val (.int p4), .val (.long p5), .second, .val (.long p6), .second, .val (.int (p1 &&& (3 : Int32))), .val (.int ((p2 &&& (2147483647 : Int32)) % (3 : Int32))), .val (.int ((p3 &&& (7 : Int32)) - (1 : Int32))), .val (.int ((p4 &&& (7 : Int32)) - (1 : Int32))), .val (.ref bl), .val (.ref b0), .val (.ref b1), .val (.ref ba), .val (.ref bb), .unset, .unset, .unset, .unset, .unset] [(.ref bl)])) _
    refine XS.aload X78.here hx rfl (hb hby at_129) rfl rfl ?_
    show Steps p.tables e below (T78.setTop (mkF m 131 #[.val (.int p1), .val (.int p2), .val (.int p3), .val (.int p4), .val (.long p5), .second, .val (.long p6), .second, .val (.int (p1 &&& (3 : Int32))), .val (.int ((p2 &&& (2147483647 : Int32)) % (3 : Int32))), .val (.int ((p3 &&& (7 : Int32)) - (1 : Int32))), .val (.int ((p4 &&& (7 : Int32)) - (1 : Int32))), .val (.ref bl), .val (.ref b0), .val (.ref b1), .val (.ref ba), .val (.ref bb), .unset, .unset, .unset, .unset, .unset] [(.ref bb), (.ref bl)])) _
    refine XS.lload X78.here hx rfl (hb hby at_131) rfl ?_
    show Steps p.tables e below (T78.setTop (mkF m 133 #[.val (.int p1), .val (.int p2), .val (.int p3), .val (.int p4), .val (.long p5), .second, .val (.long p6), .second, .val (.int (p1 &&& (3 : Int32))), .val (.int ((p2 &&& (2147483647 : Int32)) % (3 : Int32))), .val (.int ((p3 &&& (7 : Int32)) - (1 : Int32))), .val (.int ((p4 &&& (7 : Int32)) - (1 : Int32))), .val (.ref bl), .val (.ref b0), .val (.ref b1), .val (.ref ba), .val (.ref bb), .unset, .unset, .unset, .unset, .unset] [(.long p6), (.ref bb), (.ref bl)])) _
    refine st82.trans ?_
    show Steps p.tables e below (T82.setTop (mkF m 136 #[.val (.int p1), .val (.int p2), .val (.int p3), .val (.int p4), .val (.long p5), .second, .val (.long p6), .second, .val (.int (p1 &&& (3 : Int32))), .val (.int ((p2 &&& (2147483647 : Int32)) % (3 : Int32))), .val (.int ((p3 &&& (7 : Int32)) - (1 : Int32))), .val (.int ((p4 &&& (7 : Int32)) - (1 : Int32))), .val (.ref bl), .val (.ref b0), .val (.ref b1), .val (.ref ba), .val (.ref bb), .unset, .unset, .unset, .unset, .unset] [])) _
    refine XS.aload X82.here hx rfl (hb hby at_136) rfl rfl ?_
    show Steps p.tables e below (T82.setTop (mkF m 138 #[.val (.int p1), .val (.int p2), .val (.int p3), .val (.int p4), .val (.long p5), .second, .val (.long p6), .second, .val (.int (p1 &&& (3 : Int32))), .val (.int ((p2 &&& (2147483647 : Int32)) % (3 : Int32))), .val (.int ((p3 &&& (7 : Int32)) - (1 : Int32))), .val (.int ((p4 &&& (7 : Int32)) - (1 : Int32))), .val (.ref bl), .val (.ref b0), .val (.ref b1), .val (.ref ba), .val (.ref bb), .unset, .unset, .unset, .unset, .unset] [(.ref bl)])) _
    refine st84.trans ?_
    show Steps p.tables e below (T84.setTop (mkF m 141 #[.val (.int p1), .val (.int p2), .val (.int p3), .val (.int p4), .val (.long p5), .second, .val (.long p6), .second, .val (.int (p1 &&& (3 : Int32))), .val (.int ((p2 &&& (2147483647 : Int32)) % (3 : Int32))), .val (.int ((p3 &&& (7 : Int32)) - (1 : Int32))), .val (.int ((p4 &&& (7 : Int32)) - (1 : Int32))), .val (.ref bl), .val (.ref b0), .val (.ref b1), .val (.ref ba), .val (.ref bb), .unset, .unset, .unset, .unset, .unset] [(.ref br)])) _
    refine XS.astore X84.here hx rfl (hb hby at_141) rfl rfl (l' := #[.val (.int p1), .val (.int p2), .val (.int p3), .val (.int p4), .val (.long p5), .second, .val (.long p6), .second, .val (.int (p1 &&& (3 : Int32))), .val (.int ((p2 &&& (2147483647 : Int32)) % (3 : Int32))), .val (.int ((p3 &&& (7 : Int32)) - (1 : Int32))), .val (.int ((p4 &&& (7 : Int32)) - (1 : Int32))), .val (.ref bl), .val (.ref b0), .val (.ref b1), .val (.ref ba), .val (.ref bb), .val (.ref br), .unset, .unset, .unset, .unset]) rfl ?_
    show Steps p.tables e below (T84.setTop (mkF m 143 #[.val (.int p1), .val (.int p2), .val (.int p3), .val (.int p4), .val (.long p5), .second, .val (.long p6), .second, .val (.int (p1 &&& (3 : Int32))), .val (.int ((p2 &&& (2147483647 : Int32)) % (3 : Int32))), .val (.int ((p3 &&& (7 : Int32)) - (1 : Int32))), .val (.int ((p4 &&& (7 : Int32)) - (1 : Int32))), .val (.ref bl), .val (.ref b0), .val (.ref b1), .val (.ref ba), .val (.ref bb), .val (.ref br), .unset, .unset, .unset, .unset] [])) _
    refine XS.lconst X84.here hx rfl (hb hby at_143) ?_
    show Steps p.tables e below (T84.setTop (mkF m 144 #[.val (.int p1), .val (.int p2), .val (.int p3), .val (.int p4), .val (.long p5), .second, .val (.long p6), .second, .val (.int (p1 &&& (3 : Int32))), .val (.int ((p2 &&& (2147483647 : Int32)) % (3 : Int32))), .val (.int ((p3 &&& (7 : Int32)) - (1 : Int32))), .val (.int ((p4 &&& (7 : Int32)) - (1 : Int32))), .val (.ref bl), .val (.ref b0), .val (.ref b1), .val (.ref ba), .val (.ref bb), .val (.ref br), .unset, .unset, .unset, .unset] [(.long (0 : Int64))])) _
    refine XS.lstore X84.here hx rfl (hb hby at_144) rfl (l' := #[.val (.int p1), .val (.int p2), .val (.int p3), .val (.int p4), .val (.long p5), .second, .val (.long p6), .second, .val (.int (p1 &&& (3 : Int32))), .val (.int ((p2 &&& (2147483647 : Int32)) % (3 : Int32))), .val (.int ((p3 &&& (7 : Int32)) - (1 : Int32))), .val (.int ((p4 &&& (7 : Int32)) - (1 : Int32))), .val (.ref bl), .val (.ref b0), .val (.ref b1), .val (.ref ba), .val (.ref bb), .val (.ref br), .val (.long (0 : Int64)), .second, .unset, .unset]) rfl ?_
    show Steps p.tables e below (T84.setTop (mkF m 146 #[.val (.int p1), .val (.int p2), .val (.int p3), .val (.int p4), .val (.long p5), .second, .val (.long p6), .second, .val (.int (p1 &&& (3 : Int32))), .val (.int ((p2 &&& (2147483647 : Int32)) % (3 : Int32))), .val (.int ((p3 &&& (7 : Int32)) - (1 : Int32))), .val (.int ((p4 &&& (7 : Int32)) - (1 : Int32))), .val (.ref bl), .val (.ref b0), .val (.ref b1), .val (.ref ba), .val (.ref bb), .val (.ref br), .val (.long (0 : Int64)), .second, .unset, .unset] [])) _
    refine XS.iload X84.here hx rfl (hb hby at_146) rfl ?_
    show Steps p.tables e below (T84.setTop (mkF m 148 #[.val (.int p1), .val (.int p2), .val (.int p3), .val (.int p4), .val (.long p5), .second, .val (.long p6), .second, .val (.int (p1 &&& (3 : Int32))), .val (.int ((p2 &&& (2147483647 : Int32)) % (3 : Int32))), .val (.int ((p3 &&& (7 : Int32)) - (1 : Int32))), .val (.int ((p4 &&& (7 : Int32)) - (1 : Int32))), .val (.ref bl), .val (.ref b0), .val (.ref b1), .val (.ref ba), .val (.ref bb), .val (.ref br), .val (.long (0 : Int64)), .second, .unset, .unset] [(.int ((p3 &&& (7 : Int32)) - (1 : Int32)))])) _
    refine XS.iload X84.here hx rfl (hb hby at_148) rfl ?_
    show Steps p.tables e below (T84.setTop (mkF m 150 #[.val (.int p1), .val (.int p2), .val (.int p3), .val (.int p4), .val (.long p5), .second, .val (.long p6), .second, .val (.int (p1 &&& (3 : Int32))), .val (.int ((p2 &&& (2147483647 : Int32)) % (3 : Int32))), .val (.int ((p3 &&& (7 : Int32)) - (1 : Int32))), .val (.int ((p4 &&& (7 : Int32)) - (1 : Int32))), .val (.ref bl), .val (.ref b0), .val (.ref b1), .val (.ref ba), .val (.ref bb), .val (.ref br), .val (.long (0 : Int64)), .second, .unset, .unset] [(.int (p1 &&& (3 : Int32))), (.int ((p3 &&& (7 : Int32)) - (1 : Int32)))])) _
    refine XS.iload X84.here hx rfl (hb hby at_150) rfl ?_
    show Steps p.tables e below (T84.setTop (mkF m 152 #[.val (.int p1), .val (.int p2), .val (.int p3), .val (.int p4), .val (.long p5), .second, .val (.long p6), .second, .val (.int (p1 &&& (3 : Int32))), .val (.int ((p2 &&& (2147483647 : Int32)) % (3 : Int32))), .val (.int ((p3 &&& (7 : Int32)) - (1 : Int32))), .val (.int ((p4 &&& (7 : Int32)) - (1 : Int32))), .val (.ref bl), .val (.ref b0), .val (.ref b1), .val (.ref ba), .val (.ref bb), .val (.ref br), .val (.long (0 : Int64)), .second, .unset, .unset] [(.int ((p2 &&& (2147483647 : Int32)) % (3 : Int32))), (.int (p1 &&& (3 : Int32))), (.int ((p3 &&& (7 : Int32)) - (1 : Int32)))])) _
    refine st90 _ ?_
    show Steps p.tables e below (T90.setTop (mkF m 155 #[.val (.int p1), .val (.int p2), .val (.int p3), .val (.int p4), .val (.long p5), .second, .val (.long p6), .second, .val (.int (p1 &&& (3 : Int32))), .val (.int ((p2 &&& (2147483647 : Int32)) % (3 : Int32))), .val (.int ((p3 &&& (7 : Int32)) - (1 : Int32))), .val (.int ((p4 &&& (7 : Int32)) - (1 : Int32))), .val (.ref bl), .val (.ref b0), .val (.ref b1), .val (.ref ba), .val (.ref bb), .val (.ref br), .val (.long (0 : Int64)), .second, .unset, .unset] [(.int sA)])) _
    refine mg91 _ ?_
    show Steps p.tables e below (T90.setTop (mkF m 165 #[.val (.int p1), .val (.int p2), .val (.int p3), .val (.int p4), .val (.long p5), .second, .val (.long p6), .second, .val (.int (p1 &&& (3 : Int32))), .val (.int ((p2 &&& (2147483647 : Int32)) % (3 : Int32))), .val (.int ((p3 &&& (7 : Int32)) - (1 : Int32))), .val (.int ((p4 &&& (7 : Int32)) - (1 : Int32))), .val (.ref bl), .val (.ref b0), .val (.ref b1), .val (.ref ba), .val (.ref bb), .val (.ref br), .val (.long ((0 : Int64) + qA)), .second, .unset, .unset] [])) _
    refine XS.iload X90.here hx rfl (hb hby at_165) rfl ?_
    show Steps p.tables e below (T90.setTop (mkF m 167 #[.val (.int p1), .val (.int p2), .val (.int p3), .val (.int p4), .val (.long p5), .second, .val (.long p6), .second, .val (.int (p1 &&& (3 : Int32))), .val (.int ((p2 &&& (2147483647 : Int32)) % (3 : Int32))), .val (.int ((p3 &&& (7 : Int32)) - (1 : Int32))), .val (.int ((p4 &&& (7 : Int32)) - (1 : Int32))), .val (.ref bl), .val (.ref b0), .val (.ref b1), .val (.ref ba), .val (.ref bb), .val (.ref br), .val (.long ((0 : Int64) + qA)), .second, .unset, .unset] [(.int ((p4 &&& (7 : Int32)) - (1 : Int32)))])) _
    refine XS.iload X90.here hx rfl (hb hby at_167) rfl ?_
    show Steps p.tables e below (T90.setTop (mkF m 169 #[.val (.int p1), .val (.int p2), .val (.int p3), .val (.int p4), .val (.long p5), .second, .val (.long p6), .second, .val (.int (p1 &&& (3 : Int32))), .val (.int ((p2 &&& (2147483647 : Int32)) % (3 : Int32))), .val (.int ((p3 &&& (7 : Int32)) - (1 : Int32))), .val (.int ((p4 &&& (7 : Int32)) - (1 : Int32))), .val (.ref bl), .val (.ref b0), .val (.ref b1), .val (.ref ba), .val (.ref bb), .val (.ref br), .val (.long ((0 : Int64) + qA)), .second, .unset, .unset] [(.int (p1 &&& (3 : Int32))), (.int ((p4 &&& (7 : Int32)) - (1 : Int32)))])) _
    refine XS.iload X90.here hx rfl (hb hby at_169) rfl ?_
    show Steps p.tables e below (T90.setTop (mkF m 171 #[.val (.int p1), .val (.int p2), .val (.int p3), .val (.int p4), .val (.long p5), .second, .val (.long p6), .second, .val (.int (p1 &&& (3 : Int32))), .val (.int ((p2 &&& (2147483647 : Int32)) % (3 : Int32))), .val (.int ((p3 &&& (7 : Int32)) - (1 : Int32))), .val (.int ((p4 &&& (7 : Int32)) - (1 : Int32))), .val (.ref bl), .val (.ref b0), .val (.ref b1), .val (.ref ba), .val (.ref bb), .val (.ref br), .val (.long ((0 : Int64) + qA)), .second, .unset, .unset] [(.int ((p2 &&& (2147483647 : Int32)) % (3 : Int32))), (.int (p1 &&& (3 : Int32))), (.int ((p4 &&& (7 : Int32)) - (1 : Int32)))])) _
    refine st92 _ ?_
    show Steps p.tables e below (T92.setTop (mkF m 174 #[.val (.int p1), .val (.int p2), .val (.int p3), .val (.int p4), .val (.long p5), .second, .val (.long p6), .second, .val (.int (p1 &&& (3 : Int32))), .val (.int ((p2 &&& (2147483647 : Int32)) % (3 : Int32))), .val (.int ((p3 &&& (7 : Int32)) - (1 : Int32))), .val (.int ((p4 &&& (7 : Int32)) - (1 : Int32))), .val (.ref bl), .val (.ref b0), .val (.ref b1), .val (.ref ba), .val (.ref bb), .val (.ref br), .val (.long ((0 : Int64) + qA)), .second, .unset, .unset] [(.int sB)])) _
    refine mg93 _ ?_
    show Steps p.tables e below (T92.setTop (mkF m 184 #[.val (.int p1), .val (.int p2), .val (.int p3), .val (.int p4), .val (.long p5), .second, .val (.long p6), .second, .val (.int (p1 &&& (3 : Int32))), .val (.int ((p2 &&& (2147483647 : Int32)) % (3 : Int32))), .val (.int ((p3 &&& (7 : Int32)) - (1 : Int32))), .val (.int ((p4 &&& (7 : Int32)) - (1 : Int32))), .val (.ref bl), .val (.ref b0), .val (.ref b1), .val (.ref ba), .val (.ref bb), .val (.ref br), .val (.long (((0 : Int64) + qA) + qB)), .second, .unset, .unset] [])) _
    refine XS.lload X92.here hx rfl (hb hby at_184) rfl ?_
    show Steps p.tables e below (T92.setTop (mkF m 186 #[.val (.int p1), .val (.int p2), .val (.int p3), .val (.int p4), .val (.long p5), .second, .val (.long p6), .second, .val (.int (p1 &&& (3 : Int32))), .val (.int ((p2 &&& (2147483647 : Int32)) % (3 : Int32))), .val (.int ((p3 &&& (7 : Int32)) - (1 : Int32))), .val (.int ((p4 &&& (7 : Int32)) - (1 : Int32))), .val (.ref bl), .val (.ref b0), .val (.ref b1), .val (.ref ba), .val (.ref bb), .val (.ref br), .val (.long (((0 : Int64) + qA) + qB)), .second, .unset, .unset] [(.long (((0 : Int64) + qA) + qB))])) _
    refine XS.l2dS X92.here hx rfl (hb hby at_186) rfl rfl ?_
    show Steps p.tables e below (T92.setTop (mkF m 187 #[.val (.int p1), .val (.int p2), .val (.int p3), .val (.int p4), .val (.long p5), .second, .val (.long p6), .second, .val (.int (p1 &&& (3 : Int32))), .val (.int ((p2 &&& (2147483647 : Int32)) % (3 : Int32))), .val (.int ((p3 &&& (7 : Int32)) - (1 : Int32))), .val (.int ((p4 &&& (7 : Int32)) - (1 : Int32))), .val (.ref bl), .val (.ref b0), .val (.ref b1), .val (.ref ba), .val (.ref bb), .val (.ref br), .val (.long (((0 : Int64) + qA) + qB)), .second, .unset, .unset] [(.double (FP.l2d (((0 : Int64) + qA) + qB)))])) _
    refine X92.ldc2DoubleC hx hown (mvT hZ (hw _ (List.mem_of_getElem? (i := 97) rfl))) (g := (mkF m 187 #[.val (.int p1), .val (.int p2), .val (.int p3), .val (.int p4), .val (.long p5), .second, .val (.long p6), .second, .val (.int (p1 &&& (3 : Int32))), .val (.int ((p2 &&& (2147483647 : Int32)) % (3 : Int32))), .val (.int ((p3 &&& (7 : Int32)) - (1 : Int32))), .val (.int ((p4 &&& (7 : Int32)) - (1 : Int32))), .val (.ref bl), .val (.ref b0), .val (.ref b1), .val (.ref ba), .val (.ref bb), .val (.ref br), .val (.long (((0 : Int64) + qA) + qB)), .second, .unset, .unset] [(.double (FP.l2d (((0 : Int64) + qA) + qB)))])) rfl (hb hby at_187) _ ?_
    show Steps p.tables e below (T92.setTop (mkF m 190 #[.val (.int p1), .val (.int p2), .val (.int p3), .val (.int p4), .val (.long p5), .second, .val (.long p6), .second, .val (.int (p1 &&& (3 : Int32))), .val (.int ((p2 &&& (2147483647 : Int32)) % (3 : Int32))), .val (.int ((p3 &&& (7 : Int32)) - (1 : Int32))), .val (.int ((p4 &&& (7 : Int32)) - (1 : Int32))), .val (.ref bl), .val (.ref b0), .val (.ref b1), .val (.ref ba), .val (.ref bb), .val (.ref br), .val (.long (((0 : Int64) + qA) + qB)), .second, .unset, .unset] [(.double (4741671816366391296 : UInt64)), (.double (FP.l2d (((0 : Int64) + qA) + qB)))])) _
    refine XS.ddivS X92.here hx rfl (hb hby at_190) rfl (own_dd _) rfl ?_
    show Steps p.tables e below (T92.setTop (mkF m 191 #[.val (.int p1), .val (.int p2), .val (.int p3), .val (.int p4), .val (.long p5), .second, .val (.long p6), .second, .val (.int (p1 &&& (3 : Int32))), .val (.int ((p2 &&& (2147483647 : Int32)) % (3 : Int32))), .val (.int ((p3 &&& (7 : Int32)) - (1 : Int32))), .val (.int ((p4 &&& (7 : Int32)) - (1 : Int32))), .val (.ref bl), .val (.ref b0), .val (.ref b1), .val (.ref ba), .val (.ref bb), .val (.ref br), .val (.long (((0 : Int64) + qA) + qB)), .second, .unset, .unset] [(.double (FP.ddiv (FP.l2d (((0 : Int64) + qA) + qB)) (4741671816366391296 : UInt64)))])) _
    refine XS.dstore X92.here hx rfl (hb hby at_191) rfl (l' := #[.val (.int p1), .val (.int p2), .val (.int p3), .val (.int p4), .val (.long p5), .second, .val (.long p6), .second, .val (.int (p1 &&& (3 : Int32))), .val (.int ((p2 &&& (2147483647 : Int32)) % (3 : Int32))), .val (.int ((p3 &&& (7 : Int32)) - (1 : Int32))), .val (.int ((p4 &&& (7 : Int32)) - (1 : Int32))), .val (.ref bl), .val (.ref b0), .val (.ref b1), .val (.ref ba), .val (.ref bb), .val (.ref br), .val (.long (((0 : Int64) + qA) + qB)), .second, .val (.double (FP.ddiv (FP.l2d (((0 : Int64) + qA) + qB)) (4741671816366391296 : UInt64))), .second]) rfl ?_
    show Steps p.tables e below (T92.setTop (mkF m 193 #[.val (.int p1), .val (.int p2), .val (.int p3), .val (.int p4), .val (.long p5), .second, .val (.long p6), .second, .val (.int (p1 &&& (3 : Int32))), .val (.int ((p2 &&& (2147483647 : Int32)) % (3 : Int32))), .val (.int ((p3 &&& (7 : Int32)) - (1 : Int32))), .val (.int ((p4 &&& (7 : Int32)) - (1 : Int32))), .val (.ref bl), .val (.ref b0), .val (.ref b1), .val (.ref ba), .val (.ref bb), .val (.ref br), .val (.long (((0 : Int64) + qA) + qB)), .second, .val (.double (FP.ddiv (FP.l2d (((0 : Int64) + qA) + qB)) (4741671816366391296 : UInt64))), .second] [])) _
    refine XS.aload X92.here hx rfl (hb hby at_193) rfl rfl ?_
    show Steps p.tables e below (T92.setTop (mkF m 195 #[.val (.int p1), .val (.int p2), .val (.int p3), .val (.int p4), .val (.long p5), .second, .val (.long p6), .second, .val (.int (p1 &&& (3 : Int32))), .val (.int ((p2 &&& (2147483647 : Int32)) % (3 : Int32))), .val (.int ((p3 &&& (7 : Int32)) - (1 : Int32))), .val (.int ((p4 &&& (7 : Int32)) - (1 : Int32))), .val (.ref bl), .val (.ref b0), .val (.ref b1), .val (.ref ba), .val (.ref bb), .val (.ref br), .val (.long (((0 : Int64) + qA) + qB)), .second, .val (.double (FP.ddiv (FP.l2d (((0 : Int64) + qA) + qB)) (4741671816366391296 : UInt64))), .second] [(.ref br)])) _
    refine st94.trans ?_
    show Steps p.tables e below (T94.setTop (mkF m 198 #[.val (.int p1), .val (.int p2), .val (.int p3), .val (.int p4), .val (.long p5), .second, .val (.long p6), .second, .val (.int (p1 &&& (3 : Int32))), .val (.int ((p2 &&& (2147483647 : Int32)) % (3 : Int32))), .val (.int ((p3 &&& (7 : Int32)) - (1 : Int32))), .val (.int ((p4 &&& (7 : Int32)) - (1 : Int32))), .val (.ref bl), .val (.ref b0), .val (.ref b1), .val (.ref ba), .val (.ref bb), .val (.ref br), .val (.long (((0 : Int64) + qA) + qB)), .second, .val (.double (FP.ddiv (FP.l2d (((0 : Int64) + qA) + qB)) (4741671816366391296 : UInt64))), .second] [(.double (FP.ddiv (FP.l2d (((0 : Int64) + qA) + qB)) (4741671816366391296 : UInt64)))])) _
    refine XS.dload X94.here hx rfl (hb hby at_198) rfl ?_
    show Steps p.tables e below (T94.setTop (mkF m 200 #[.val (.int p1), .val (.int p2), .val (.int p3), .val (.int p4), .val (.long p5), .second, .val (.long p6), .second, .val (.int (p1 &&& (3 : Int32))), .val (.int ((p2 &&& (2147483647 : Int32)) % (3 : Int32))), .val (.int ((p3 &&& (7 : Int32)) - (1 : Int32))), .val (.int ((p4 &&& (7 : Int32)) - (1 : Int32))), .val (.ref bl), .val (.ref b0), .val (.ref b1), .val (.ref ba), .val (.ref bb), .val (.ref br), .val (.long (((0 : Int64) + qA) + qB)), .second, .val (.double (FP.ddiv (FP.l2d (((0 : Int64) + qA) + qB)) (4741671816366391296 : UInt64))), .second] [(.double (FP.ddiv (FP.l2d (((0 : Int64) + qA) + qB)) (4741671816366391296 : UInt64))), (.double (FP.ddiv (FP.l2d (((0 : Int64) + qA) + qB)) (4741671816366391296 : UInt64)))])) _
    refine XS.dcmpS X94.here hx rfl (hb hby at_200) rfl (dcmpV_self (own_dd _) _) ?_
    show Steps p.tables e below (T94.setTop (mkF m 201 #[.val (.int p1), .val (.int p2), .val (.int p3), .val (.int p4), .val (.long p5), .second, .val (.long p6), .second, .val (.int (p1 &&& (3 : Int32))), .val (.int ((p2 &&& (2147483647 : Int32)) % (3 : Int32))), .val (.int ((p3 &&& (7 : Int32)) - (1 : Int32))), .val (.int ((p4 &&& (7 : Int32)) - (1 : Int32))), .val (.ref bl), .val (.ref b0), .val (.ref b1), .val (.ref ba), .val (.ref bb), .val (.ref br), .val (.long (((0 : Int64) + qA) + qB)), .second, .val (.double (FP.ddiv (FP.l2d (((0 : Int64) + qA) + qB)) (4741671816366391296 : UInt64))), .second] [(.int (0 : Int32))])) _
    refine XS.ifNo X94.here hx rfl (hb hby at_201) rfl ((if0 _ _).trans (teq (by decide : (0 : Int32) = (0 : Int32))).2) ?_
    show Steps p.tables e below (T94.setTop (mkF m 204 #[.val (.int p1), .val (.int p2), .val (.int p3), .val (.int p4), .val (.long p5), .second, .val (.long p6), .second, .val (.int (p1 &&& (3 : Int32))), .val (.int ((p2 &&& (2147483647 : Int32)) % (3 : Int32))), .val (.int ((p3 &&& (7 : Int32)) - (1 : Int32))), .val (.int ((p4 &&& (7 : Int32)) - (1 : Int32))), .val (.ref bl), .val (.ref b0), .val (.ref b1), .val (.ref ba), .val (.ref bb), .val (.ref br), .val (.long (((0 : Int64) + qA) + qB)), .second, .val (.double (FP.ddiv (FP.l2d (((0 : Int64) + qA) + qB)) (4741671816366391296 : UInt64))), .second] [])) _
    refine XS.iconst X94.here hx rfl (hb hby at_204) ?_
    show Steps p.tables e below (T94.setTop (mkF m 205 #[.val (.int p1), .val (.int p2), .val (.int p3), .val (.int p4), .val (.long p5), .second, .val (.long p6), .second, .val (.int (p1 &&& (3 : Int32))), .val (.int ((p2 &&& (2147483647 : Int32)) % (3 : Int32))), .val (.int ((p3 &&& (7 : Int32)) - (1 : Int32))), .val (.int ((p4 &&& (7 : Int32)) - (1 : Int32))), .val (.ref bl), .val (.ref b0), .val (.ref b1), .val (.ref ba), .val (.ref bb), .val (.ref br), .val (.long (((0 : Int64) + qA) + qB)), .second, .val (.double (FP.ddiv (FP.l2d (((0 : Int64) + qA) + qB)) (4741671816366391296 : UInt64))), .second] [(.int (1 : Int32))])) _
    refine XS.goto X94.here hx rfl (pc0 := 205) (pc' := 209) rfl (hb hby at_205) (by decide) (by decide) ?_
    show Steps p.tables e below (T94.setTop (mkF m 209 #[.val (.int p1), .val (.int p2), .val (.int p3), .val (.int p4), .val (.long p5), .second, .val (.long p6), .second, .val (.int (p1 &&& (3 : Int32))), .val (.int ((p2 &&& (2147483647 : Int32)) % (3 : Int32))), .val (.int ((p3 &&& (7 : Int32)) - (1 : Int32))), .val (.int ((p4 &&& (7 : Int32)) - (1 : Int32))), .val (.ref bl), .val (.ref b0), .val (.ref b1), .val (.ref ba), .val (.ref bb), .val (.ref br), .val (.long (((0 : Int64) + qA) + qB)), .second, .val (.double (FP.ddiv (FP.l2d (((0 : Int64) + qA) + qB)) (4741671816366391296 : UInt64))), .second] [(.int (1 : Int32))])) _
    exact retOut X94 hx (t := .boolean) (i := .ireturn) Bd.returns rfl (Or.inl ⟨rfl, Or.inr (Or.inl rfl), _, rfl⟩) (hb hby at_209) hr
  · show Q_law Z p1 p2 p3 p4 p5 p6 h0 n0 _ T94.heap _
    rw [e94]
    exact ⟨rfl, N94⟩
set_option maxRecDepth 65536 in
set_option maxHeartbeats 40000000 in
theorem comes_1 {Post : Tables → Env → Array Value → State → Outcome → State → Prop} (hpost : ∀ tb e args s v u, (limb_1_1.after args s (.returned v) u = true ∧ limb_1_2.after args s (.returned v) u = true ∧ True) → FrameEnd s (.returned v) u (Jvm.fieldLocs frame_1_writes args s ++ Jvm.arrayLocs frame_1_arrays args s ++ Jvm.staticLocs frame_1_statics s) 24 192 → Post tb e args s (.returned v) u) :
    ArmFor flags0 classFile x code maxLocals ret World_1 tables_1 room_1 Calls_1 rest_1 Pre_1 Post := by
  intro l hfl _ _ p e ha hc hk s m args below hf hA hF happ hP
  obtain ⟨hcalls, hrest, hpre⟩ := hP
  obtain ⟨-, -, -, hnamed, -, -, -, hat⟩ := (Spec.applies_iff hf).mp happ
  obtain ⟨hg, hn⟩ := and_e (Cond.before_iff.mp (show (Jvm.Cond.and given_1 narrow_1).before args s = true from hpre))
  obtain ⟨g0, r0⟩ := and_e hg
  obtain ⟨g1, r1⟩ := and_e r0
  obtain ⟨g2, r2⟩ := and_e r1
  obtain ⟨g3, r3⟩ := and_e r2
  obtain ⟨g4, r4⟩ := and_e r3
  obtain ⟨g5, r5⟩ := and_e r4
  obtain ⟨w0, w1, w2, w3, w4, w5, rfl⟩ : ∃ w0 w1 w2 w3 w4 w5 : Value, args = #[w0, w1, w2, w3, w4, w5] := by
    have hs : args.size = 6 := by simpa [Cond.value, given_1] using g0
    obtain ⟨L⟩ := args
    match L, hs with
    | [w0, w1, w2, w3, w4, w5], _ => exact ⟨w0, w1, w2, w3, w4, w5, rfl⟩
  have hw := fun d (hd : d ∈ tables_1) => atoms_spec (ws := Jvm.Cond.code x code maxLocals ret :: tables_1) hat d (List.mem_cons_of_mem _ hd)
  obtain ⟨i0, q0⟩ := is_v g1
  obtain rfl : w0 = (.int i0) := Option.some.inj q0
  obtain ⟨i1, q1⟩ := is_v g2
  obtain rfl : w1 = (.int i1) := Option.some.inj q1
  obtain ⟨i2, q2⟩ := is_v g3
  obtain rfl : w2 = (.int i2) := Option.some.inj q2
  obtain ⟨i3, q3⟩ := is_v g4
  obtain rfl : w3 = (.int i3) := Option.some.inj q3
  obtain ⟨i4, q4⟩ := isL_v g5
  obtain rfl : w4 = (.long i4) := Option.some.inj q4
  obtain ⟨i5, q5⟩ := isL_v r5
  obtain rfl : w5 = (.long i5) := Option.some.inj q5
  obtain ⟨n, o, h1, h2, h3, _, L, rfl, ⟨rfl, N⟩, hq⟩ := rm_law l s _ hw tables_1 i0 i1 i2 i3 i4 i5 s.heap s.heap.size (Nat.le_refl _)  p e ha hc hk s m _ below hf ((Spec.applies_iff_loose hf).mp happ).1 ⟨rfl, State.Warmed39.refl s, rfl⟩ trivial
  refine ⟨n, _, h1, h2, h3, hpost _ _ _ _ _ _ ⟨Cond.after_iff.mpr rfl, Cond.after_iff.mpr (eq_i res_at (Term.int_eval (1)) rfl), trivial⟩ ⟨hq.1, hq.2.1, (hq.2.2.sift fun y hy => Or.inr (N y hy)).mono (by decide) (by decide)⟩⟩
theorem main_1_1 : Claimed_1_1 := comes_1 fun _ _ _ _ _ _ h hF => ⟨h.1, hF⟩
theorem main_1_2 : Claimed_1_2 := comes_1 fun _ _ _ _ _ _ h hF => ⟨h.2.1, hF⟩
end Jvm.Pilot.@@N@@
namespace Jvm.Pilot.@@N@@
open Jvm Jvm.ClassFile Sem Op Lib Jvm.Free Jvm.Stand Jvm.Pilot.@@N@@.Jvm.D
/-! MADE BY PROGRAM (witnessworld.py) out of the Statement's table words and the real class files: 14 classes; the members and pool entries that the words name. The judged class is class 1, her method 2. -/
namespace start1
open Jvm.ClassFile
def u (s : String) : CpInfo := .utf8 (stringToUtf16 s)
/-- a pool by its gaps: so many unusable entries, then the entry; so many at the end -/
def gap : Nat → List CpInfo → List CpInfo
  | 0, r => r
  | n + 1, r => .unusable :: gap n r
def poolList (es : List (Nat × CpInfo)) (last : Nat) : List CpInfo := es.foldr (fun e r => gap e.1 (e.2 :: r)) (gap last [])
def pool (es : List (Nat × CpInfo)) (last : Nat) : Array CpInfo := ⟨poolList es last⟩
def fileOf (pool : Array CpInfo) (this : Nat) (attrs : Array Attribute := #[]) (ms : Array MethodInfo := #[]) (fl : Nat := 33) (sup : Nat := 0) (ifs : Array Nat := #[]) (fds : Array FieldInfo := #[]) : ClassFile where
  minorVersion := 0
  majorVersion := 65
  constantPool := pool
  accessFlags := fl
  thisClass := this
  superClass := sup
  interfaces := ifs
  fields := fds
  methods := ms
  attributes := attrs
def plain (name : String) (sup : Option ClassId) : Class where
  name := name
  kind := .ordinary
  loader := none
  accessFlags := 33
  super := sup
  interfaces := #[]
  cf := none
  fields := #[]
  methods := #[]
  instanceTypes := #[]
  staticTypes := #[]
  resolved := #[]
  callSites := []
  init := .initialized
  statics := none
  mirror := none

def pool0 : Array CpInfo := pool [(5, u "<init>"), (0, u "()V"), (1, .class_ 10), (1, u "java/lang/Object")] 113

def k0c0 : Code := { maxStack := 0, maxLocals := 1, code := object_method_1_code, exceptionTable := #[], attributes := #[] }
def k0m0 : Method := { name := "<init>", desc := "()V", sig := { parameters := [], returnType := none }, accessFlags := 1, code := some k0c0 }
/-- java/lang/Object -/
def k0 : Class := { plain "java/lang/Object" none with
  accessFlags := 33
  interfaces := #[]
  cf := some (fileOf pool0 8 #[] #[{ accessFlags := 1, nameIndex := 5, descriptorIndex := 6, attributes := #[] }] 33 0 #[] #[])
  fields := #[]
  methods := #[k0m0]
  instanceTypes := #[]
  staticTypes := #[]
  resolved := Array.replicate 124 none
  statics := none }

def pool1 : Array CpInfo := pool [(2, .class_ 4), (1, u "java/lang/Object"), (0, u "<init>"), (0, u "()V"), (0, .integer 2147483647), (0, .class_ 9), (0, u "com/example/podflow/podflow/simulate/RunLog"), (0, .methodref 8 11), (0, .nameAndType 5 12), (0, u "(IIDD)V"), (0, .class_ 14), (0, u "com/example/podflow/podflow/simulate/Request"), (0, .methodref 13 16), (0, .nameAndType 5 17), (0, u "(IDII)V"), (0, .methodref 8 19), (0, .nameAndType 20 21), (0, u "pickUp"), (0, u "(Lcom/example/podflow/podflow/simulate/Request;D)V"), (0, .methodref 8 23), (0, .nameAndType 24 25), (0, u "decided"), (0, u "(Lcom/example/podflow/podflow/simulate/Request;J)V"), (0, .methodref 8 27), (0, .nameAndType 28 29), (0, u "result"), (0, u "()Lcom/example/podflow/podflow/simulate/RunLog$RunResult;"), (0, .methodref 31 32), (0, .class_ 33), (0, .nameAndType 34 35), (0, u "com/example/podflow/podflow/simulate/RunLogDecidedPinLaw"), (0, u "counted"), (0, u "(III)Z"), (0, .double 4741671816366391296), (1, .methodref 39 40), (0, .class_ 41), (0, .nameAndType 42 43), (0, u "com/example/podflow/podflow/simulate/RunLog$RunResult"), (0, u "decisionSeconds"), (0, u "()D"), (3, u "law"), (0, u "(IIIIJJ)Z")] 4

def k1m0 : Method := { name := "<init>", desc := "()V", sig := { parameters := [], returnType := none }, accessFlags := 1, code := none }
def k1c1 : Code := { maxStack := 3, maxLocals := 3, code := method_2_code, exceptionTable := #[], attributes := #[] }
def k1m1 : Method := { name := "counted", desc := "(III)Z", sig := { parameters := [.int, .int, .int], returnType := some .boolean }, accessFlags := 10, code := some k1c1 }
def k1c2 : Code := { maxStack := 8, maxLocals := 22, code := code, exceptionTable := #[], attributes := #[] }
def k1m2 : Method := { name := "law", desc := "(IIIIJJ)Z", sig := { parameters := [.int, .int, .int, .int, .long, .long], returnType := some .boolean }, accessFlags := 9, code := some k1c2 }
/-- com/example/podflow/podflow/simulate/RunLogDecidedPinLaw -/
def k1 : Class := { plain "com/example/podflow/podflow/simulate/RunLogDecidedPinLaw" (some 0) with
  accessFlags := 49
  interfaces := #[]
  cf := some (fileOf pool1 31 #[] #[{ accessFlags := 1, nameIndex := 5, descriptorIndex := 6, attributes := #[] }, { accessFlags := 10, nameIndex := 34, descriptorIndex := 35, attributes := #[] }, { accessFlags := 9, nameIndex := 47, descriptorIndex := 48, attributes := #[] }] 49 2 #[] #[])
  fields := #[]
  methods := #[k1m0, k1m1, k1m2]
  instanceTypes := #[]
  staticTypes := #[]
  resolved := Array.replicate 53 none
  statics := none }

def pool2 : Array CpInfo := pool [(1, .methodref 2 3), (0, .class_ 4), (0, .nameAndType 5 6), (0, u "java/lang/Object"), (0, u "<init>"), (0, u "()V"), (0, .fieldref 8 9), (0, .class_ 10), (0, .nameAndType 11 12), (0, u "com/example/podflow/podflow/simulate/RunLog"), (0, u "warmup"), (0, u "I"), (0, .fieldref 8 14), (0, .nameAndType 15 16), (0, u "windowStart"), (0, u "D"), (0, .fieldref 8 18), (0, .nameAndType 19 16), (0, u "windowEnd"), (0, .fieldref 8 21), (0, .nameAndType 22 23), (0, u "waits"), (0, u "[D"), (0, .fieldref 8 25), (0, .nameAndType 26 12), (0, u "backlog"), (0, .methodref 8 28), (0, .nameAndType 29 30), (0, u "counts"), (0, u "(Lcom/example/podflow/podflow/simulate/Request;)Z"), (0, .methodref 32 33), (0, .class_ 34), (0, .nameAndType 35 36), (0, u "com/example/podflow/podflow/simulate/Request"), (0, u "number"), (0, u "()I"), (0, .methodref 32 38), (0, .nameAndType 39 40), (0, u "time"), (0, u "()D"), (0, .fieldref 8 42), (0, .nameAndType 43 12), (0, u "pickedUp"), (0, .fieldref 8 45), (0, .nameAndType 46 47), (0, u "decisionNanos"), (0, u "J"), (9, .fieldref 8 58), (0, .nameAndType 59 16), (0, u "movingSeconds"), (0, .fieldref 8 61), (0, .nameAndType 62 16), (0, u "emptySeconds"), (9, .class_ 73), (0, u "com/example/podflow/podflow/simulate/RunLog$RunResult"), (0, .double 4741671816366391296), (1, .methodref 72 77), (0, .nameAndType 5 78), (0, u "([DDDDID)V"), (0, u "NANOS_PER_SECOND"), (1, u "(IIDD)V"), (2, u "pickUp"), (0, u "(Lcom/example/podflow/podflow/simulate/Request;D)V"), (1, u "decided"), (0, u "(Lcom/example/podflow/podflow/simulate/Request;J)V"), (2, u "result"), (0, u "()Lcom/example/podflow/podflow/simulate/RunLog$RunResult;")] 19

def k2c0 : Code := { maxStack := 3, maxLocals := 7, code := prog_46_method_1_code, exceptionTable := #[], attributes := #[] }
def k2m0 : Method := { name := "<init>", desc := "(IIDD)V", sig := { parameters := [.int, .int, .double, .double], returnType := none }, accessFlags := 0, code := some k2c0 }
def k2c1 : Code := { maxStack := 6, maxLocals := 4, code := prog_46_method_2_code, exceptionTable := #[], attributes := #[] }
def k2m1 : Method := { name := "pickUp", desc := "(Lcom/example/podflow/podflow/simulate/Request;D)V", sig := { parameters := [(.object "com/example/podflow/podflow/simulate/Request"), .double], returnType := none }, accessFlags := 0, code := some k2c1 }
def k2c2 : Code := { maxStack := 5, maxLocals := 4, code := prog_46_method_3_code, exceptionTable := #[], attributes := #[] }
def k2m2 : Method := { name := "decided", desc := "(Lcom/example/podflow/podflow/simulate/Request;J)V", sig := { parameters := [(.object "com/example/podflow/podflow/simulate/Request"), .long], returnType := none }, accessFlags := 0, code := some k2c2 }
def k2c3 : Code := { maxStack := 2, maxLocals := 3, code := prog_46_method_4_code, exceptionTable := #[], attributes := #[] }
def k2m3 : Method := { name := "counts", desc := "(Lcom/example/podflow/podflow/simulate/Request;)Z", sig := { parameters := [(.object "com/example/podflow/podflow/simulate/Request")], returnType := some .boolean }, accessFlags := 2, code := some k2c3 }
def k2c4 : Code := { maxStack := 14, maxLocals := 1, code := prog_46_method_6_code, exceptionTable := #[], attributes := #[] }
def k2m4 : Method := { name := "result", desc := "()Lcom/example/podflow/podflow/simulate/RunLog$RunResult;", sig := { parameters := [], returnType := some (.object "com/example/podflow/podflow/simulate/RunLog$RunResult") }, accessFlags := 0, code := some k2c4 }
/-- com/example/podflow/podflow/simulate/RunLog -/
def k2 : Class := { plain "com/example/podflow/podflow/simulate/RunLog" (some 0) with
  accessFlags := 48
  interfaces := #[]
  cf := some (fileOf pool2 8 #[.nestMembers #[72]] #[{ accessFlags := 0, nameIndex := 5, descriptorIndex := 81, attributes := #[] }, { accessFlags := 0, nameIndex := 84, descriptorIndex := 85, attributes := #[] }, { accessFlags := 0, nameIndex := 87, descriptorIndex := 88, attributes := #[] }, { accessFlags := 2, nameIndex := 29, descriptorIndex := 30, attributes := #[] }, { accessFlags := 0, nameIndex := 91, descriptorIndex := 92, attributes := #[] }] 48 2 #[] #[{ accessFlags := 26, nameIndex := 79, descriptorIndex := 16, attributes := #[] }, { accessFlags := 18, nameIndex := 11, descriptorIndex := 12, attributes := #[] }, { accessFlags := 18, nameIndex := 15, descriptorIndex := 16, attributes := #[] }, { accessFlags := 18, nameIndex := 19, descriptorIndex := 16, attributes := #[] }, { accessFlags := 18, nameIndex := 22, descriptorIndex := 23, attributes := #[] }, { accessFlags := 2, nameIndex := 43, descriptorIndex := 12, attributes := #[] }, { accessFlags := 2, nameIndex := 26, descriptorIndex := 12, attributes := #[] }, { accessFlags := 2, nameIndex := 59, descriptorIndex := 16, attributes := #[] }, { accessFlags := 2, nameIndex := 62, descriptorIndex := 16, attributes := #[] }, { accessFlags := 2, nameIndex := 46, descriptorIndex := 47, attributes := #[] }])
  fields := #[{ name := "NANOS_PER_SECOND", type := .double, accessFlags := 26, slot := 0, constantValue := 0 }, { name := "warmup", type := .int, accessFlags := 18, slot := 0, constantValue := 0 }, { name := "windowStart", type := .double, accessFlags := 18, slot := 1, constantValue := 0 }, { name := "windowEnd", type := .double, accessFlags := 18, slot := 2, constantValue := 0 }, { name := "waits", type := (.array .double), accessFlags := 18, slot := 3, constantValue := 0 }, { name := "pickedUp", type := .int, accessFlags := 2, slot := 4, constantValue := 0 }, { name := "backlog", type := .int, accessFlags := 2, slot := 5, constantValue := 0 }, { name := "movingSeconds", type := .double, accessFlags := 2, slot := 6, constantValue := 0 }, { name := "emptySeconds", type := .double, accessFlags := 2, slot := 7, constantValue := 0 }, { name := "decisionNanos", type := .long, accessFlags := 2, slot := 8, constantValue := 0 }]
  methods := #[k2m0, k2m1, k2m2, k2m3, k2m4]
  instanceTypes := #[.int, .double, .double, (.array .double), .int, .int, .double, .double, .long]
  staticTypes := #[.double]
  resolved := Array.replicate 112 none
  statics := none }

def pool3 : Array CpInfo := pool [(1, .methodref 2 3), (0, .class_ 4), (0, .nameAndType 5 6), (0, u "java/lang/Object"), (0, u "<init>"), (0, u "()V"), (0, .class_ 8), (0, u "java/lang/Record")] 13

def k3c0 : Code := { maxStack := 1, maxLocals := 1, code := jdk_30_method_1_code, exceptionTable := #[], attributes := #[] }
def k3m0 : Method := { name := "<init>", desc := "()V", sig := { parameters := [], returnType := none }, accessFlags := 4, code := some k3c0 }
/-- java/lang/Record -/
def k3 : Class := { plain "java/lang/Record" (some 0) with
  accessFlags := 1057
  interfaces := #[]
  cf := some (fileOf pool3 7 #[] #[{ accessFlags := 4, nameIndex := 5, descriptorIndex := 6, attributes := #[] }] 1057 2 #[] #[])
  fields := #[]
  methods := #[k3m0]
  instanceTypes := #[]
  staticTypes := #[]
  resolved := Array.replicate 22 none
  statics := none }

def pool4 : Array CpInfo := pool [(1, .methodref 2 3), (0, .class_ 4), (0, .nameAndType 5 6), (0, u "java/lang/Record"), (0, u "<init>"), (0, u "()V"), (0, .fieldref 8 9), (0, .class_ 10), (0, .nameAndType 11 12), (0, u "com/example/podflow/podflow/simulate/Request"), (0, u "number"), (0, u "I"), (0, .fieldref 8 14), (0, .nameAndType 15 16), (0, u "time"), (0, u "D"), (0, .fieldref 8 18), (0, .nameAndType 19 12), (0, u "origin"), (0, .fieldref 8 21), (0, .nameAndType 22 12), (0, u "destination"), (12, u "(IDII)V"), (4, u "()I"), (1, u "()D")] 23

def k4c0 : Code := { maxStack := 3, maxLocals := 6, code := prog_45_method_1_code, exceptionTable := #[], attributes := #[] }
def k4m0 : Method := { name := "<init>", desc := "(IDII)V", sig := { parameters := [.int, .double, .int, .int], returnType := none }, accessFlags := 0, code := some k4c0 }
def k4c1 : Code := { maxStack := 1, maxLocals := 1, code := prog_45_method_5_code, exceptionTable := #[], attributes := #[] }
def k4m1 : Method := { name := "number", desc := "()I", sig := { parameters := [], returnType := some .int }, accessFlags := 1, code := some k4c1 }
def k4c2 : Code := { maxStack := 2, maxLocals := 1, code := prog_45_method_6_code, exceptionTable := #[], attributes := #[] }
def k4m2 : Method := { name := "time", desc := "()D", sig := { parameters := [], returnType := some .double }, accessFlags := 1, code := some k4c2 }
/-- com/example/podflow/podflow/simulate/Request -/
def k4 : Class := { plain "com/example/podflow/podflow/simulate/Request" (some 3) with
  accessFlags := 48
  interfaces := #[]
  cf := some (fileOf pool4 8 #[] #[{ accessFlags := 0, nameIndex := 5, descriptorIndex := 35, attributes := #[] }, { accessFlags := 1, nameIndex := 11, descriptorIndex := 40, attributes := #[] }, { accessFlags := 1, nameIndex := 15, descriptorIndex := 42, attributes := #[] }] 48 2 #[] #[{ accessFlags := 18, nameIndex := 11, descriptorIndex := 12, attributes := #[] }, { accessFlags := 18, nameIndex := 15, descriptorIndex := 16, attributes := #[] }, { accessFlags := 18, nameIndex := 19, descriptorIndex := 12, attributes := #[] }, { accessFlags := 18, nameIndex := 22, descriptorIndex := 12, attributes := #[] }])
  fields := #[{ name := "number", type := .int, accessFlags := 18, slot := 0, constantValue := 0 }, { name := "time", type := .double, accessFlags := 18, slot := 1, constantValue := 0 }, { name := "origin", type := .int, accessFlags := 18, slot := 2, constantValue := 0 }, { name := "destination", type := .int, accessFlags := 18, slot := 3, constantValue := 0 }]
  methods := #[k4m0, k4m1, k4m2]
  instanceTypes := #[.int, .double, .int, .int]
  staticTypes := #[]
  resolved := Array.replicate 66 none
  statics := none }

def pool5 : Array CpInfo := pool [(1, .methodref 2 3), (0, .class_ 4), (0, .nameAndType 5 6), (0, u "java/lang/Record"), (0, u "<init>"), (0, u "()V"), (0, .fieldref 8 9), (0, .class_ 10), (0, .nameAndType 11 12), (0, u "com/example/podflow/podflow/simulate/RunLog$RunResult"), (0, u "waits"), (0, u "[D"), (0, .fieldref 8 14), (0, .nameAndType 15 16), (0, u "movingSeconds"), (0, u "D"), (0, .fieldref 8 18), (0, .nameAndType 19 16), (0, u "emptySeconds"), (0, .fieldref 8 21), (0, .nameAndType 22 16), (0, u "windowSeconds"), (0, .fieldref 8 24), (0, .nameAndType 25 26), (0, u "backlog"), (0, u "I"), (0, .fieldref 8 28), (0, .nameAndType 29 16), (0, u "decisionSeconds"), (12, u "([DDDDID)V"), (7, u "()D"), (3, .class_ 55), (0, u "com/example/podflow/podflow/simulate/RunLog")] 24

def k5c0 : Code := { maxStack := 3, maxLocals := 11, code := prog_47_method_1_code, exceptionTable := #[], attributes := #[] }
def k5m0 : Method := { name := "<init>", desc := "([DDDDID)V", sig := { parameters := [(.array .double), .double, .double, .double, .int, .double], returnType := none }, accessFlags := 0, code := some k5c0 }
def k5c1 : Code := { maxStack := 2, maxLocals := 1, code := prog_47_method_10_code, exceptionTable := #[], attributes := #[] }
def k5m1 : Method := { name := "decisionSeconds", desc := "()D", sig := { parameters := [], returnType := some .double }, accessFlags := 1, code := some k5c1 }
/-- com/example/podflow/podflow/simulate/RunLog$RunResult -/
def k5 : Class := { plain "com/example/podflow/podflow/simulate/RunLog$RunResult" (some 3) with
  accessFlags := 48
  interfaces := #[]
  cf := some (fileOf pool5 8 #[.nestHost 54] #[{ accessFlags := 0, nameIndex := 5, descriptorIndex := 42, attributes := #[] }, { accessFlags := 1, nameIndex := 29, descriptorIndex := 50, attributes := #[] }] 48 2 #[] #[{ accessFlags := 18, nameIndex := 11, descriptorIndex := 12, attributes := #[] }, { accessFlags := 18, nameIndex := 15, descriptorIndex := 16, attributes := #[] }, { accessFlags := 18, nameIndex := 19, descriptorIndex := 16, attributes := #[] }, { accessFlags := 18, nameIndex := 22, descriptorIndex := 16, attributes := #[] }, { accessFlags := 18, nameIndex := 25, descriptorIndex := 26, attributes := #[] }, { accessFlags := 18, nameIndex := 29, descriptorIndex := 16, attributes := #[] }])
  fields := #[{ name := "waits", type := (.array .double), accessFlags := 18, slot := 0, constantValue := 0 }, { name := "movingSeconds", type := .double, accessFlags := 18, slot := 1, constantValue := 0 }, { name := "emptySeconds", type := .double, accessFlags := 18, slot := 2, constantValue := 0 }, { name := "windowSeconds", type := .double, accessFlags := 18, slot := 3, constantValue := 0 }, { name := "backlog", type := .int, accessFlags := 18, slot := 4, constantValue := 0 }, { name := "decisionSeconds", type := .double, accessFlags := 18, slot := 5, constantValue := 0 }]
  methods := #[k5m0, k5m1]
  instanceTypes := #[(.array .double), .double, .double, .double, .int, .double]
  staticTypes := #[]
  resolved := Array.replicate 80 none
  statics := none }

def pool6 : Array CpInfo := pool [(1, u "java/lang/Cloneable"), (0, .class_ 1), (0, u "java/lang/Object"), (0, .class_ 3)] 3

/-- java/lang/Cloneable -/
def k6 : Class := { plain "java/lang/Cloneable" (some 0) with
  accessFlags := 1537
  interfaces := #[]
  cf := some (fileOf pool6 2 #[] #[] 1537 4 #[] #[])
  fields := #[]
  methods := #[]
  instanceTypes := #[]
  staticTypes := #[]
  resolved := Array.replicate 8 none
  statics := none }

def pool7 : Array CpInfo := pool [(1, u "java/io/Serializable"), (0, .class_ 1), (0, u "java/lang/Object"), (0, .class_ 3)] 3

/-- java/io/Serializable -/
def k7 : Class := { plain "java/io/Serializable" (some 0) with
  accessFlags := 1537
  interfaces := #[]
  cf := some (fileOf pool7 2 #[] #[] 1537 4 #[] #[])
  fields := #[]
  methods := #[]
  instanceTypes := #[]
  staticTypes := #[]
  resolved := Array.replicate 8 none
  statics := none }

/-- the primitive byte -/
def k8 : Class := { plain "byte" none with kind := .primitive 'B', accessFlags := 0x411 }
/-- [B -/
def k9 : Class := { plain "[B" (some 0) with kind := .array 8 .byte, interfaces := #[6, 7], accessFlags := 1041 }

/-- the primitive double -/
def k10 : Class := { plain "double" none with kind := .primitive 'D', accessFlags := 0x411 }
/-- [D -/
def k11 : Class := { plain "[D" (some 0) with kind := .array 10 .double, interfaces := #[6, 7], accessFlags := 1041 }

/-- the primitive int -/
def k12 : Class := { plain "int" none with kind := .primitive 'I', accessFlags := 0x411 }
/-- [I -/
def k13 : Class := { plain "[I" (some 0) with kind := .array 12 .int, interfaces := #[6, 7], accessFlags := 1041 }

def heap : Heap := #[]
def classes : Array Class := #[k0, k1, k2, k3, k4, k5, k6, k7, k8, k9, k10, k11, k12, k13]
def interned : List (Array UInt16 × Addr) := []
def slotsUsed : Nat := 0
def theMethod : MethodId := ⟨1, 2⟩
def args0 : Array Value := #[.int 1, .int 1, .int 3, .int 4, .long 9, .long 8]
def aboutOver (below : List Frame) : State where
  vm := { classes := classes, interned := interned.toArray }
  heap := heap
  slotsUsed := slotsUsed
  threads := #[{ frames := .invoking theMethod args0 :: below }]
def below0 : List Frame := [.native { method := ⟨0, 0⟩, args := #[] }]
def about1 : State := aboutOver below0
def p0 : Program := .bare "" "" ""
def e0 : Env := launch0.env 0 0 0
theorem w_frames : about1.frames = Frame.invoking theMethod args0 :: below0 := rfl
set_option maxRecDepth 65536 in
theorem w_args : argsFit about1.vm theMethod args0 = true := by decide +kernel
set_option maxRecDepth 65536 in
theorem w_heap : heapFits about1 = true := by decide +kernel
set_option maxRecDepth 65536 in
theorem w_runnable : about1.curStatus? = some .runnable := by decide +kernel
set_option maxRecDepth 65536 in
theorem w_alone : about1.alone = true := by decide +kernel
set_option maxRecDepth 65536 in
theorem w_named : about1.methodNamed? x = some theMethod := by decide +kernel
set_option maxRecDepth 65536 in
theorem w_hears : about1.hears theMethod below0 = true := by decide +kernel
set_option maxRecDepth 65536 in
theorem w_ripe : about1.ripe theMethod args0 below0 = true := by decide +kernel
theorem w_running : about1.status = .running := rfl
set_option maxRecDepth 65536 in
theorem w_room : about1.hasRoom e0.platform room_1 = true :=
  launch0.hasRoom_least _ room_1 (by decide +kernel) (by decide +kernel) (by decide +kernel) (by decide +kernel) (by decide +kernel) (by decide +kernel)
theorem allAtoms_all (ts : List Jvm.Cond) (a : Array Jvm.Value) (st : Jvm.State) : (allAtoms ts).before a st = ts.all (fun c => c.before a st) := by
  induction ts with
  | nil => rfl
  | cons c t ih =>
    show (Jvm.Cond.and c (allAtoms t)).before a st = _
    rw [Jvm.Cond.before_and, ih, List.all_cons]
def words1 : List Jvm.Cond := Jvm.Cond.code x code maxLocals ret :: tables_1
/-- a 'code' word, met by the world's own term for the bytes: nothing is compared byte by byte -/
theorem code_word {y : MethodName} {bytes : ByteArray} {mx : Nat} {rt : Option FieldType} {a : Array Value} {s : State} {m : MethodId} {meth : Method} {c : Code} (h1 : s.methodNamed? y = some m) (h2 : s.vm.method? m = some meth) (h3 : meth.code = some c) (h4 : c.code = bytes)
    (h5 : (c.maxLocals == mx && c.exceptionTable.isEmpty && decide (c.maxStack ≤ mostOperands) && decide (meth.sig.returnType = rt) && !meth.locks && decide (parseMethodDescriptor y.desc = some meth.sig)) = true) : (Jvm.Cond.code y bytes mx rt).before a s = true := by
  simp only [Bool.and_eq_true, beq_iff_eq, Bool.not_eq_true', decide_eq_true_eq] at h5
  obtain ⟨⟨⟨⟨⟨g1, g2⟩, g3⟩, g4⟩, g5⟩, g6⟩ := h5
  simp [Cond.before, Cond.holds, Cond.value, h1, h2, h3, h4, g1, g2, g3, g4, g5, g6]
def isCode : Jvm.Cond → Bool
  | .code _ _ _ _ => true
  | _ => false
theorem all_split {L : List Jvm.Cond} {P : Jvm.Cond → Bool} (h1 : L.all (fun c => isCode c || P c) = true) (h2 : ∀ c ∈ L.filter isCode, P c = true) : L.all P = true := by
  refine List.all_eq_true.mpr fun c hc => ?_
  have h := List.all_eq_true.mp h1 c hc
  rcases Bool.eq_false_or_eq_true (isCode c) with hi | hi
  · exact h2 c (List.mem_filter.mpr ⟨hc, hi⟩)
  · simpa [hi] using h
set_option maxRecDepth 65536 in
theorem w_c0 : (Jvm.Cond.code x code maxLocals ret).before args0 about1 = true := code_word (m := ⟨1, 2⟩) (meth := k1m2) (c := k1c2) (by decide +kernel) rfl rfl rfl (by decide +kernel)
set_option maxRecDepth 65536 in
theorem w_c1 : (Jvm.Cond.code ({ cls := "com/example/podflow/podflow/simulate/RunLog", name := "<init>", desc := "(IIDD)V" } : Jvm.MethodName) prog_46_method_1_code (7 : Nat) (Option.none : Option Jvm.ClassFile.FieldType)).before args0 about1 = true := code_word (m := ⟨2, 0⟩) (meth := k2m0) (c := k2c0) (by decide +kernel) rfl rfl rfl (by decide +kernel)
set_option maxRecDepth 65536 in
theorem w_c2 : (Jvm.Cond.code ({ cls := "java/lang/Object", name := "<init>", desc := "()V" } : Jvm.MethodName) object_method_1_code (1 : Nat) (Option.none : Option Jvm.ClassFile.FieldType)).before args0 about1 = true := code_word (m := ⟨0, 0⟩) (meth := k0m0) (c := k0c0) (by decide +kernel) rfl rfl rfl (by decide +kernel)
set_option maxRecDepth 65536 in
theorem w_c3 : (Jvm.Cond.code ({ cls := "com/example/podflow/podflow/simulate/Request", name := "<init>", desc := "(IDII)V" } : Jvm.MethodName) prog_45_method_1_code (6 : Nat) (Option.none : Option Jvm.ClassFile.FieldType)).before args0 about1 = true := code_word (m := ⟨4, 0⟩) (meth := k4m0) (c := k4c0) (by decide +kernel) rfl rfl rfl (by decide +kernel)
set_option maxRecDepth 65536 in
theorem w_c4 : (Jvm.Cond.code ({ cls := "java/lang/Record", name := "<init>", desc := "()V" } : Jvm.MethodName) jdk_30_method_1_code (1 : Nat) (Option.none : Option Jvm.ClassFile.FieldType)).before args0 about1 = true := code_word (m := ⟨3, 0⟩) (meth := k3m0) (c := k3c0) (by decide +kernel) rfl rfl rfl (by decide +kernel)
set_option maxRecDepth 65536 in
theorem w_c5 : (Jvm.Cond.code ({ cls := "com/example/podflow/podflow/simulate/RunLog", name := "pickUp", desc := "(Lcom/example/podflow/podflow/simulate/Request;D)V" } : Jvm.MethodName) prog_46_method_2_code (4 : Nat) (Option.none : Option Jvm.ClassFile.FieldType)).before args0 about1 = true := code_word (m := ⟨2, 1⟩) (meth := k2m1) (c := k2c1) (by decide +kernel) rfl rfl rfl (by decide +kernel)
set_option maxRecDepth 65536 in
theorem w_c6 : (Jvm.Cond.code ({ cls := "com/example/podflow/podflow/simulate/RunLog", name := "counts", desc := "(Lcom/example/podflow/podflow/simulate/Request;)Z" } : Jvm.MethodName) prog_46_method_4_code (3 : Nat) (Option.some Jvm.ClassFile.FieldType.boolean)).before args0 about1 = true := code_word (m := ⟨2, 3⟩) (meth := k2m3) (c := k2c3) (by decide +kernel) rfl rfl rfl (by decide +kernel)
set_option maxRecDepth 65536 in
theorem w_c7 : (Jvm.Cond.code ({ cls := "com/example/podflow/podflow/simulate/Request", name := "number", desc := "()I" } : Jvm.MethodName) prog_45_method_5_code (1 : Nat) (Option.some Jvm.ClassFile.FieldType.int)).before args0 about1 = true := code_word (m := ⟨4, 1⟩) (meth := k4m1) (c := k4c1) (by decide +kernel) rfl rfl rfl (by decide +kernel)
set_option maxRecDepth 65536 in
theorem w_c8 : (Jvm.Cond.code ({ cls := "com/example/podflow/podflow/simulate/RunLog", name := "decided", desc := "(Lcom/example/podflow/podflow/simulate/Request;J)V" } : Jvm.MethodName) prog_46_method_3_code (4 : Nat) (Option.none : Option Jvm.ClassFile.FieldType)).before args0 about1 = true := code_word (m := ⟨2, 2⟩) (meth := k2m2) (c := k2c2) (by decide +kernel) rfl rfl rfl (by decide +kernel)
set_option maxRecDepth 65536 in
theorem w_c9 : (Jvm.Cond.code ({ cls := "com/example/podflow/podflow/simulate/RunLog", name := "result", desc := "()Lcom/example/podflow/podflow/simulate/RunLog$RunResult;" } : Jvm.MethodName) prog_46_method_6_code (1 : Nat) (Option.some (Jvm.ClassFile.FieldType.object "com/example/podflow/podflow/simulate/RunLog$RunResult"))).before args0 about1 = true := code_word (m := ⟨2, 4⟩) (meth := k2m4) (c := k2c4) (by decide +kernel) rfl rfl rfl (by decide +kernel)
set_option maxRecDepth 65536 in
theorem w_c10 : (Jvm.Cond.code ({ cls := "com/example/podflow/podflow/simulate/RunLog$RunResult", name := "<init>", desc := "([DDDDID)V" } : Jvm.MethodName) prog_47_method_1_code (11 : Nat) (Option.none : Option Jvm.ClassFile.FieldType)).before args0 about1 = true := code_word (m := ⟨5, 0⟩) (meth := k5m0) (c := k5c0) (by decide +kernel) rfl rfl rfl (by decide +kernel)
set_option maxRecDepth 65536 in
theorem w_c11 : (Jvm.Cond.code ({ cls := "com/example/podflow/podflow/simulate/RunLogDecidedPinLaw", name := "counted", desc := "(III)Z" } : Jvm.MethodName) method_2_code (3 : Nat) (Option.some Jvm.ClassFile.FieldType.boolean)).before args0 about1 = true := code_word (m := ⟨1, 1⟩) (meth := k1m1) (c := k1c1) (by decide +kernel) rfl rfl rfl (by decide +kernel)
set_option maxRecDepth 65536 in
theorem w_c12 : (Jvm.Cond.code ({ cls := "com/example/podflow/podflow/simulate/RunLog$RunResult", name := "decisionSeconds", desc := "()D" } : Jvm.MethodName) prog_47_method_10_code (1 : Nat) (Option.some Jvm.ClassFile.FieldType.double)).before args0 about1 = true := code_word (m := ⟨5, 1⟩) (meth := k5m1) (c := k5c1) (by decide +kernel) rfl rfl rfl (by decide +kernel)
set_option maxRecDepth 65536 in
theorem w_c13 : (Jvm.Cond.code ({ cls := "com/example/podflow/podflow/simulate/Request", name := "time", desc := "()D" } : Jvm.MethodName) prog_45_method_6_code (1 : Nat) (Option.some Jvm.ClassFile.FieldType.double)).before args0 about1 = true := code_word (m := ⟨4, 2⟩) (meth := k4m2) (c := k4c2) (by decide +kernel) rfl rfl rfl (by decide +kernel)
def codes1 : List Jvm.Cond := [Jvm.Cond.code x code maxLocals ret, Jvm.Cond.code ({ cls := "com/example/podflow/podflow/simulate/RunLog", name := "<init>", desc := "(IIDD)V" } : Jvm.MethodName) prog_46_method_1_code (7 : Nat) (Option.none : Option Jvm.ClassFile.FieldType), Jvm.Cond.code ({ cls := "java/lang/Object", name := "<init>", desc := "()V" } : Jvm.MethodName) object_method_1_code (1 : Nat) (Option.none : Option Jvm.ClassFile.FieldType), Jvm.Cond.code ({ cls := "com/example/podflow/podflow/simulate/Request", name := "<init>", desc := "(IDII)V" } : Jvm.MethodName) prog_45_method_1_code (6 : Nat) (Option.none : Option Jvm.ClassFile.FieldType), Jvm.Cond.code ({ cls := "java/lang/Record", name := "<init>", desc := "()V" } : Jvm.MethodName) jdk_30_method_1_code (1 : Nat) (Option.none : Option Jvm.ClassFile.FieldType), Jvm.Cond.code ({ cls := "com/example/podflow/podflow/simulate/RunLog", name := "pickUp", desc := "(Lcom/example/podflow/podflow/simulate/Request;D)V" } : Jvm.MethodName) prog_46_method_2_code (4 : Nat) (Option.none : Option Jvm.ClassFile.FieldType), Jvm.Cond.code ({ cls := "com/example/podflow/podflow/simulate/RunLog", name := "counts", desc := "(Lcom/example/podflow/podflow/simulate/Request;)Z" } : Jvm.MethodName) prog_46_method_4_code (3 : Nat) (Option.some Jvm.ClassFile.FieldType.boolean), Jvm.Cond.code ({ cls := "com/example/podflow/podflow/simulate/Request", name := "number", desc := "()I" } : Jvm.MethodName) prog_45_method_5_code (1 : Nat) (Option.some Jvm.ClassFile.FieldType.int), Jvm.Cond.code ({ cls := "com/example/podflow/podflow/simulate/RunLog", name := "decided", desc := "(Lcom/example/podflow/podflow/simulate/Request;J)V" } : Jvm.MethodName) prog_46_method_3_code (4 : Nat) (Option.none : Option Jvm.ClassFile.FieldType), Jvm.Cond.code ({ cls := "com/example/podflow/podflow/simulate/RunLog", name := "result", desc := "()Lcom/example/podflow/podflow/simulate/RunLog$RunResult;" } : Jvm.MethodName) prog_46_method_6_code (1 : Nat) (Option.some (Jvm.ClassFile.FieldType.object "com/example/podflow/podflow/simulate/RunLog$RunResult")), Jvm.Cond.code ({ cls := "com/example/podflow/podflow/simulate/RunLog$RunResult", name := "<init>", desc := "([DDDDID)V" } : Jvm.MethodName) prog_47_method_1_code (11 : Nat) (Option.none : Option Jvm.ClassFile.FieldType), Jvm.Cond.code ({ cls := "com/example/podflow/podflow/simulate/RunLogDecidedPinLaw", name := "counted", desc := "(III)Z" } : Jvm.MethodName) method_2_code (3 : Nat) (Option.some Jvm.ClassFile.FieldType.boolean), Jvm.Cond.code ({ cls := "com/example/podflow/podflow/simulate/RunLog$RunResult", name := "decisionSeconds", desc := "()D" } : Jvm.MethodName) prog_47_method_10_code (1 : Nat) (Option.some Jvm.ClassFile.FieldType.double), Jvm.Cond.code ({ cls := "com/example/podflow/podflow/simulate/Request", name := "time", desc := "()D" } : Jvm.MethodName) prog_45_method_6_code (1 : Nat) (Option.some Jvm.ClassFile.FieldType.double)]
set_option maxRecDepth 65536 in
theorem codes_eq : words1.filter isCode = codes1 := rfl
theorem w_codes : ∀ c ∈ words1.filter isCode, c.before args0 about1 = true := by
  rw [codes_eq]
  intro c hc
  simp only [codes1, List.mem_cons, List.not_mem_nil, or_false] at hc
  rcases hc with rfl | rfl | rfl | rfl | rfl | rfl | rfl | rfl | rfl | rfl | rfl | rfl | rfl | rfl
  · exact w_c0
  · exact w_c1
  · exact w_c2
  · exact w_c3
  · exact w_c4
  · exact w_c5
  · exact w_c6
  · exact w_c7
  · exact w_c8
  · exact w_c9
  · exact w_c10
  · exact w_c11
  · exact w_c12
  · exact w_c13
set_option maxRecDepth 65536 in
theorem w_t1 : (words1.take 24).all (fun c => isCode c || c.before args0 about1) = true := by decide +kernel
set_option maxRecDepth 65536 in
theorem w_t2 : ((words1.drop 24).take 24).all (fun c => isCode c || c.before args0 about1) = true := by decide +kernel
set_option maxRecDepth 65536 in
theorem w_t3 : (((words1.drop 24).drop 24).take 24).all (fun c => isCode c || c.before args0 about1) = true := by decide +kernel
set_option maxRecDepth 65536 in
theorem w_t4 : ((((words1.drop 24).drop 24).drop 24).take 24).all (fun c => isCode c || c.before args0 about1) = true := by decide +kernel
set_option maxRecDepth 65536 in
theorem w_t5 : ((((words1.drop 24).drop 24).drop 24).drop 24).all (fun c => isCode c || c.before args0 about1) = true := by decide +kernel
theorem w_tables : (allAtoms (Jvm.Cond.code x code maxLocals ret :: tables_1)).before args0 about1 = true := by
  rw [allAtoms_all]
  show words1.all (fun c => c.before args0 about1) = true
  refine all_split ?_ w_codes
  rw [← List.take_append_drop 24 words1, List.all_append, w_t1, ← List.take_append_drop 24 (words1.drop 24), List.all_append, w_t2, ← List.take_append_drop 24 ((words1.drop 24).drop 24), List.all_append, w_t3, ← List.take_append_drop 24 (((words1.drop 24).drop 24).drop 24), List.all_append, w_t4, w_t5]
  rfl
set_option maxRecDepth 65536 in
theorem w_case : (Jvm.Cond.and given_1 narrow_1).before args0 about1 = true := by decide +kernel
theorem w_applies : (headSpec (Jvm.Cond.code x code maxLocals ret :: tables_1) room_1).applies x e0.platform about1 = true :=
  (Spec.applies_iff w_frames).mpr ⟨w_running, w_runnable, w_alone, w_named, w_hears, w_ripe, w_room, w_tables⟩
theorem atStart : AtStart classFile x code maxLocals ret World_1 tables_1 room_1 Calls_1 rest_1 Pre_1 launch0 p0 e0 about1 theMethod args0 below0 :=
  ⟨lists_1, trivial, launch0.admits_env _ _ _, launch0.least_env, fairChoices_fair.cas, fairChoices_fair.clock, w_frames, w_args, w_heap, w_applies, trivial, trivial, w_case⟩
end start1
theorem witness_1 : WitnessClaimed_1 := ⟨start1.p0, start1.e0, start1.about1, start1.theMethod, start1.args0, start1.below0, start1.atStart⟩
end Jvm.Pilot.@@N@@
