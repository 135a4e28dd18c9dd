import JvmDerived
import JvmDerived.Pilot.@@N@@Statement
import JvmDerived.Pilot.@@N@@Code
set_option linter.unusedVariables false
set_option linter.unusedSimpArgs false
namespace Jvm.Pilot.@@N@@
open Jvm Jvm.ClassFile Sem Op Lib Jvm.Free Jvm.Stand Jvm.LawKit Jvm.RoadKit Jvm.Free.Fl Bundle Jvm.Pilot.@@N@@.Jvm.D
theorem d_prog_34_method_2_code_0 : decode prog_34_method_2_code 0 = .ok (.aload_n 0, 1) := by decide +kernel
theorem d_prog_34_method_2_code_1 : decode prog_34_method_2_code 1 = .ok (.invokespecial 11, 3) := by decide +kernel
theorem d_prog_34_method_2_code_4 : decode prog_34_method_2_code 4 = .ok (.aload_n 0, 1) := by decide +kernel
theorem d_prog_34_method_2_code_5 : decode prog_34_method_2_code 5 = .ok (.dload_n 1, 1) := by decide +kernel
theorem d_prog_34_method_2_code_6 : decode prog_34_method_2_code 6 = .ok (.putfield 16, 3) := by decide +kernel
theorem d_prog_34_method_2_code_9 : decode prog_34_method_2_code 9 = .ok (.aload_n 0, 1) := by decide +kernel
theorem d_prog_34_method_2_code_10 : decode prog_34_method_2_code 10 = .ok (.dload_n 3, 1) := by decide +kernel
theorem d_prog_34_method_2_code_11 : decode prog_34_method_2_code 11 = .ok (.putfield 20, 3) := by decide +kernel
theorem d_prog_34_method_2_code_14 : decode prog_34_method_2_code 14 = .ok (.aload_n 0, 1) := by decide +kernel
theorem d_prog_34_method_2_code_15 : decode prog_34_method_2_code 15 = .ok (.aload 5, 2) := by decide +kernel
theorem d_prog_34_method_2_code_17 : decode prog_34_method_2_code 17 = .ok (.putfield 7, 3) := by decide +kernel
theorem d_prog_34_method_2_code_20 : decode prog_34_method_2_code 20 = .ok (.aload_n 0, 1) := by decide +kernel
theorem d_prog_34_method_2_code_21 : decode prog_34_method_2_code 21 = .ok (.iload 6, 2) := by decide +kernel
theorem d_prog_34_method_2_code_23 : decode prog_34_method_2_code 23 = .ok (.putfield 23, 3) := by decide +kernel
theorem d_prog_34_method_2_code_26 : decode prog_34_method_2_code 26 = .ok (.return_, 1) := by decide +kernel
theorem pn_com_example_tideline_tideline_StepSeries : plainName "com/example/tideline/tideline/StepSeries" = true := by first | (simp [plainName, overriddenIn]; done) | decide +kernel
theorem ef_in4 (m : MethodId) (x0 : Addr) (x1 : UInt64) (x2 : UInt64) (x3 : Addr) (x4 : Int32) : entryFrame m #[(.ref x0), (.double x1), (.double x2), (.ref x3), (.int x4)] 7 = mkF m 0 #[.val (.ref x0), .val (.double x1), .second, .val (.double x2), .second, .val (.ref x3), .val (.int x4)] [] := by first | (simp [entryFrame, mkF, argsToLocals, Value.category]; done) | rfl
def Q_in4 (Z : State) (a1 : Addr) (d1 : UInt64) (d2 : UInt64) (t1 : Addr) (u0 : Value) (u1 : Value) (u2 : Value) (u3 : Value) (h0 : Heap) (n0 : Nat) (v : Option Value) (h : Heap) (L : List Loc) : Prop := v = none ∧ Fr n0 L ∧ Keep h0 h [a1] ∧ (Exa Z h a1 "com/example/tideline/tideline/StepSeries") ∧ (Fld Z h a1 "com/example/tideline/tideline/StepSeries" "center" "D" (.double d1)) ∧ (Fld Z h a1 "com/example/tideline/tideline/StepSeries" "half" "D" (.double d2)) ∧ (Fld Z h a1 "com/example/tideline/tideline/StepSeries" "terms" "[D" (.ref t1)) ∧ (Fld Z h a1 "com/example/tideline/tideline/StepSeries" "highest" "I" (.int (0 : Int32)))
set_option maxRecDepth 65536 in
set_option maxHeartbeats 40000000 in
theorem rm_in4 (l : Launch) (Z : State) (a0 : Array Value) (hw : ∀ d ∈ tables_1, d.before a0 Z = true) (ws : List Jvm.Cond) (a1 : Addr) (d1 : UInt64) (d2 : UInt64) (t1 : Addr) (u0 : Value) (u1 : Value) (u2 : Value) (u3 : Value) (h0 : Heap) (n0 : Nat) (Z0 : n0 ≤ h0.size) (pE0 : Exa Z h0 a1 "com/example/tideline/tideline/StepSeries") (pF1 : Fld Z h0 a1 "com/example/tideline/tideline/StepSeries" "center" "D" u0) (pF2 : Fld Z h0 a1 "com/example/tideline/tideline/StepSeries" "half" "D" u1) (pF3 : Fld Z h0 a1 "com/example/tideline/tideline/StepSeries" "terms" "[D" u2) (pF4 : Fld Z h0 a1 "com/example/tideline/tideline/StepSeries" "highest" "I" u3) (pg5 : n0 ≤ a1) :
    MetFree l (⟨"com/example/tideline/tideline/StepSeries", "<init>", "(DD[DI)V"⟩ : MethodName) (head1 (Jvm.Cond.code (⟨"com/example/tideline/tideline/StepSeries", "<init>", "(DD[DI)V"⟩ : MethodName) prog_34_method_2_code 7 none :: ws) ({ frames := 1, cells := 0, slots := 0, locals := 12 } : Room)) (fun a U => a = #[(.ref a1), (.double d1), (.double d2), (.ref t1), (.int (0 : Int32))] ∧ Z.Warmed39 U.vm ∧ U.heap = h0) (fun _ _ _ _ _ => True) (fun _ U o U' => ∃ v L, o = .returned v ∧ Q_in4 Z a1 d1 d2 t1 u0 u1 u2 u3 h0 n0 v U'.heap L ∧ FrameEnd U o U' L ({ frames := 1, cells := 0, slots := 0, locals := 12 } : Room).cells ({ frames := 1, cells := 0, slots := 0, locals := 12 } : Room).slots) := by
  refine MetFree.of_bodySF (plainFor_of_name pn_com_example_tideline_tideline_StepSeries) hisR ?_
  intro p e s m args below meth c s₁ Bd hml0 hP hK
  obtain ⟨rfl, hZ, hh⟩ := hP
  have hx := Bd.exec
  have hby := Bd.bytes
  have hml : c.maxLocals = 7 := hml0
  have hown : s.vm.findClass "com/example/tideline/tideline/StepSeries" = some m.cls := findClass_of_methodNamed Bd.named
  have hnm := (name_of_methodNamed Bd.named Bd.method).1
  have X0 : Stand p l e ({ frames := 1, cells := 0, slots := 0, locals := 12 } : Room) s m #[(.ref a1), (.double d1), (.double d2), (.ref t1), (.int (0 : Int32))] below meth c s₁ [] 0 0 := Stand.of_body Bd
  have e0 : s₁.heap = h0 := by rw [← hh, Bd.state]; rfl
  have N0 := Fr.nil n0
  have P0 : Keep h0 h0 [a1] := Keep.refl _ _
  have pre0 : ∀ t, Steps p.tables e below (s₁.setTop (mkF m 0 #[.val (.ref a1), .val (.double d1), .second, .val (.double d2), .second, .val (.ref t1), .val (.int (0 : Int32))] [])) t → Steps p.tables e below (s₁.setTop (entryFrame m #[(.ref a1), (.double d1), (.double d2), (.ref t1), (.int (0 : Int32))] 7)) t := fun t k => castTop (ef_in4 m a1 d1 d2 t1 (0 : Int32)) k
  obtain ⟨T1, X1, e1, st1⟩ := initO X0 hx hZ hown (hw _ (List.mem_of_getElem? (i := 12) rfl)) (hw _ (List.mem_of_getElem? (i := 13) rfl)) (hw _ (List.mem_of_getElem? (i := 14) rfl)) e0 (g := (mkF m 1 #[.val (.ref a1), .val (.double d1), .second, .val (.double d2), .second, .val (.ref t1), .val (.int (0 : Int32))] [(.ref a1)])) rfl (by rw [hml]; rfl) rfl (hb hby d_prog_34_method_2_code_1) (by decide) (W := 0) (by show 2 * 0 + _ ≤ _; exact Nat.le_of_eq rfl) (by decide)
  obtain ⟨T2, h2, X2, e2, W2, st2⟩ := putF X1 hx hZ hown (host := "") (Or.inl (hw _ (List.mem_of_getElem? (i := 15) rfl))) Via.refl e1 pF1 pE0 (Or.inr ⟨(hw _ (List.mem_of_getElem? (i := 16) rfl)), rfl, hnm⟩) (hw _ (List.mem_of_getElem? (i := 3) rfl)) (ty := .double) (by decide) rfl rfl (g := (mkF m 6 #[.val (.ref a1), .val (.double d1), .second, .val (.double d2), .second, .val (.ref t1), .val (.int (0 : Int32))] [(.double d1), (.ref a1)])) rfl rfl (hb hby d_prog_34_method_2_code_6)
  have P3 : Keep h0 h2 [a1] := P0.wr W2 (Or.inl (List.mem_of_getElem? (i := 0) rfl))
  have F4 : Fld Z h2 a1 "com/example/tideline/tideline/StepSeries" "center" "D" (.double d1) := Fld.same W2 pF1
  have N2 := Fr.snoc X2 N0 pg5
  have F5 : Fld Z h2 a1 "com/example/tideline/tideline/StepSeries" "half" "D" u1 := (Fld.other W2 pF2 (Or.inr (slot_ne (t := .double) (t' := .double) (C := "com/example/tideline/tideline/StepSeries") (a0 := a0) (Or.inr (hw _ (List.mem_of_getElem? (i := 18) rfl))) (Or.inr (hw _ (List.mem_of_getElem? (i := 16) rfl))) (by decide) (by decide) (by decide))))
  have E6 : Exa Z h2 a1 "com/example/tideline/tideline/StepSeries" := (Exa.wr W2 pE0)
  obtain ⟨T7, h7, X7, e7, W7, st7⟩ := putF X2 hx hZ hown (host := "") (Or.inl (hw _ (List.mem_of_getElem? (i := 17) rfl))) Via.refl e2 F5 E6 (Or.inr ⟨(hw _ (List.mem_of_getElem? (i := 18) rfl)), rfl, hnm⟩) (hw _ (List.mem_of_getElem? (i := 3) rfl)) (ty := .double) (by decide) rfl rfl (g := (mkF m 11 #[.val (.ref a1), .val (.double d1), .second, .val (.double d2), .second, .val (.ref t1), .val (.int (0 : Int32))] [(.double d2), (.ref a1)])) rfl rfl (hb hby d_prog_34_method_2_code_11)
  have P8 : Keep h0 h7 [a1] := P3.wr W7 (Or.inl (List.mem_of_getElem? (i := 0) rfl))
  have F9 : Fld Z h7 a1 "com/example/tideline/tideline/StepSeries" "half" "D" (.double d2) := Fld.same W7 F5
  have N7 := Fr.snoc X7 N2 pg5
  have F10 : Fld Z h7 a1 "com/example/tideline/tideline/StepSeries" "terms" "[D" u2 := (Fld.other W7 (Fld.other W2 pF3 (Or.inr (slot_ne (t := (.array .double)) (t' := .double) (C := "com/example/tideline/tideline/StepSeries") (a0 := a0) (Or.inr (hw _ (List.mem_of_getElem? (i := 20) rfl))) (Or.inr (hw _ (List.mem_of_getElem? (i := 16) rfl))) (by decide) (by decide) (by decide)))) (Or.inr (slot_ne (t := (.array .double)) (t' := .double) (C := "com/example/tideline/tideline/StepSeries") (a0 := a0) (Or.inr (hw _ (List.mem_of_getElem? (i := 20) rfl))) (Or.inr (hw _ (List.mem_of_getElem? (i := 18) rfl))) (by decide) (by decide) (by decide))))
  have E11 : Exa Z h7 a1 "com/example/tideline/tideline/StepSeries" := (Exa.wr W7 E6)
  obtain ⟨T12, h12, X12, e12, W12, st12⟩ := putF X7 hx hZ hown (host := "") (Or.inl (hw _ (List.mem_of_getElem? (i := 19) rfl))) Via.refl e7 F10 E11 (Or.inr ⟨(hw _ (List.mem_of_getElem? (i := 20) rfl)), rfl, hnm⟩) (hw _ (List.mem_of_getElem? (i := 3) rfl)) (ty := (.array .double)) (by decide) rfl rfl (g := (mkF m 17 #[.val (.ref a1), .val (.double d1), .second, .val (.double d2), .second, .val (.ref t1), .val (.int (0 : Int32))] [(.ref t1), (.ref a1)])) rfl rfl (hb hby d_prog_34_method_2_code_17)
  have P13 : Keep h0 h12 [a1] := P8.wr W12 (Or.inl (List.mem_of_getElem? (i := 0) rfl))
  have F14 : Fld Z h12 a1 "com/example/tideline/tideline/StepSeries" "terms" "[D" (.ref t1) := Fld.same W12 F10
  have N12 := Fr.snoc X12 N7 pg5
  have F15 : Fld Z h12 a1 "com/example/tideline/tideline/StepSeries" "highest" "I" u3 := (Fld.other W12 (Fld.other W7 (Fld.other W2 pF4 (Or.inr (slot_ne (t := .int) (t' := .double) (C := "com/example/tideline/tideline/StepSeries") (a0 := a0) (Or.inl (hw _ (List.mem_of_getElem? (i := 22) rfl))) (Or.inr (hw _ (List.mem_of_getElem? (i := 16) rfl))) (by decide) (by decide) (by decide)))) (Or.inr (slot_ne (t := .int) (t' := .double) (C := "com/example/tideline/tideline/StepSeries") (a0 := a0) (Or.inl (hw _ (List.mem_of_getElem? (i := 22) rfl))) (Or.inr (hw _ (List.mem_of_getElem? (i := 18) rfl))) (by decide) (by decide) (by decide)))) (Or.inr (slot_ne (t := .int) (t' := (.array .double)) (C := "com/example/tideline/tideline/StepSeries") (a0 := a0) (Or.inl (hw _ (List.mem_of_getElem? (i := 22) rfl))) (Or.inr (hw _ (List.mem_of_getElem? (i := 20) rfl))) (by decide) (by decide) (by decide))))
  have E16 : Exa Z h12 a1 "com/example/tideline/tideline/StepSeries" := (Exa.wr W12 E11)
  obtain ⟨T17, h17, X17, e17, W17, st17⟩ := putF X12 hx hZ hown (host := "") (Or.inl (hw _ (List.mem_of_getElem? (i := 21) rfl))) Via.refl e12 F15 E16 (Or.inl (hw _ (List.mem_of_getElem? (i := 22) rfl))) (hw _ (List.mem_of_getElem? (i := 3) rfl)) (ty := .int) (by decide) rfl rfl (g := (mkF m 23 #[.val (.ref a1), .val (.double d1), .second, .val (.double d2), .second, .val (.ref t1), .val (.int (0 : Int32))] [(.int (0 : Int32)), (.ref a1)])) rfl rfl (hb hby d_prog_34_method_2_code_23)
  have P18 : Keep h0 h17 [a1] := P13.wr W17 (Or.inl (List.mem_of_getElem? (i := 0) rfl))
  have F19 : Fld Z h17 a1 "com/example/tideline/tideline/StepSeries" "highest" "I" (.int (0 : Int32)) := Fld.same W17 F15
  have N17 := Fr.snoc X17 N12 pg5
  have E20 : Exa Z h17 a1 "com/example/tideline/tideline/StepSeries" := (Exa.wr W17 E16)
  have F21 : Fld Z h17 a1 "com/example/tideline/tideline/StepSeries" "center" "D" (.double d1) := (Fld.other W17 (Fld.other W12 (Fld.other W7 F4 (Or.inr (slot_ne (t := .double) (t' := .double) (C := "com/example/tideline/tideline/StepSeries") (a0 := a0) (Or.inr (hw _ (List.mem_of_getElem? (i := 16) rfl))) (Or.inr (hw _ (List.mem_of_getElem? (i := 18) rfl))) (by decide) (by decide) (by decide)))) (Or.inr (slot_ne (t := .double) (t' := (.array .double)) (C := "com/example/tideline/tideline/StepSeries") (a0 := a0) (Or.inr (hw _ (List.mem_of_getElem? (i := 16) rfl))) (Or.inr (hw _ (List.mem_of_getElem? (i := 20) rfl))) (by decide) (by decide) (by decide)))) (Or.inr (slot_ne (t := .double) (t' := .int) (C := "com/example/tideline/tideline/StepSeries") (a0 := a0) (Or.inr (hw _ (List.mem_of_getElem? (i := 16) rfl))) (Or.inl (hw _ (List.mem_of_getElem? (i := 22) rfl))) (by decide) (by decide) (by decide))))
  have F22 : Fld Z h17 a1 "com/example/tideline/tideline/StepSeries" "half" "D" (.double d2) := (Fld.other W17 (Fld.other W12 F9 (Or.inr (slot_ne (t := .double) (t' := (.array .double)) (C := "com/example/tideline/tideline/StepSeries") (a0 := a0) (Or.inr (hw _ (List.mem_of_getElem? (i := 18) rfl))) (Or.inr (hw _ (List.mem_of_getElem? (i := 20) rfl))) (by decide) (by decide) (by decide)))) (Or.inr (slot_ne (t := .double) (t' := .int) (C := "com/example/tideline/tideline/StepSeries") (a0 := a0) (Or.inr (hw _ (List.mem_of_getElem? (i := 18) rfl))) (Or.inl (hw _ (List.mem_of_getElem? (i := 22) rfl))) (by decide) (by decide) (by decide))))
  have F23 : Fld Z h17 a1 "com/example/tideline/tideline/StepSeries" "terms" "[D" (.ref t1) := (Fld.other W17 F14 (Or.inr (slot_ne (t := (.array .double)) (t' := .int) (C := "com/example/tideline/tideline/StepSeries") (a0 := a0) (Or.inr (hw _ (List.mem_of_getElem? (i := 20) rfl))) (Or.inl (hw _ (List.mem_of_getElem? (i := 22) rfl))) (by decide) (by decide) (by decide))))
  obtain ⟨fs, hr, hrun, hended, hW, hsame⟩ := X17.leave (v := none) (fun _ => rfl)
  refine ⟨_, _, pre0 _ ?_, hrun, hended, _, _, rfl, ?_, ⟨_, rfl⟩, hW, hsame.mono (by decide) (by decide)⟩
  · show Steps p.tables e below (s₁.setTop (mkF m 0 #[.val (.ref a1), .val (.double d1), .second, .val (.double d2), .second, .val (.ref t1), .val (.int (0 : Int32))] [])) _
    refine XS.aloadN X0.here hx rfl (hb hby d_prog_34_method_2_code_0) rfl rfl ?_
    show Steps p.tables e below (s₁.setTop (mkF m 1 #[.val (.ref a1), .val (.double d1), .second, .val (.double d2), .second, .val (.ref t1), .val (.int (0 : Int32))] [(.ref a1)])) _
    refine st1 _ ?_
    show Steps p.tables e below (T1.setTop (mkF m 4 #[.val (.ref a1), .val (.double d1), .second, .val (.double d2), .second, .val (.ref t1), .val (.int (0 : Int32))] [])) _
    refine XS.aloadN X1.here hx rfl (hb hby d_prog_34_method_2_code_4) rfl rfl ?_
    show Steps p.tables e below (T1.setTop (mkF m 5 #[.val (.ref a1), .val (.double d1), .second, .val (.double d2), .second, .val (.ref t1), .val (.int (0 : Int32))] [(.ref a1)])) _
    refine XS.dloadN X1.here hx rfl (hb hby d_prog_34_method_2_code_5) rfl ?_
    show Steps p.tables e below (T1.setTop (mkF m 6 #[.val (.ref a1), .val (.double d1), .second, .val (.double d2), .second, .val (.ref t1), .val (.int (0 : Int32))] [(.double d1), (.ref a1)])) _
    refine st2 _ ?_
    show Steps p.tables e below (T2.setTop (mkF m 9 #[.val (.ref a1), .val (.double d1), .second, .val (.double d2), .second, .val (.ref t1), .val (.int (0 : Int32))] [])) _
    refine XS.aloadN X2.here hx rfl (hb hby d_prog_34_method_2_code_9) rfl rfl ?_
    show Steps p.tables e below (T2.setTop (mkF m 10 #[.val (.ref a1), .val (.double d1), .second, .val (.double d2), .second, .val (.ref t1), .val (.int (0 : Int32))] [(.ref a1)])) _
    refine XS.dloadN X2.here hx rfl (hb hby d_prog_34_method_2_code_10) rfl ?_
    show Steps p.tables e below (T2.setTop (mkF m 11 #[.val (.ref a1), .val (.double d1), .second, .val (.double d2), .second, .val (.ref t1), .val (.int (0 : Int32))] [(.double d2), (.ref a1)])) _
    refine st7 _ ?_
    show Steps p.tables e below (T7.setTop (mkF m 14 #[.val (.ref a1), .val (.double d1), .second, .val (.double d2), .second, .val (.ref t1), .val (.int (0 : Int32))] [])) _
    refine XS.aloadN X7.here hx rfl (hb hby d_prog_34_method_2_code_14) rfl rfl ?_
    show Steps p.tables e below (T7.setTop (mkF m 15 #[.val (.ref a1), .val (.double d1), .second, .val (.double d2), .second, .val (.ref t1), .val (.int (0 : Int32))] [(.ref a1)])) _
    refine XS.aload X7.here hx rfl (hb hby d_prog_34_method_2_code_15) rfl rfl ?_
    show Steps p.tables e below (T7.setTop (mkF m 17 #[.val (.ref a1), .val (.double d1), .second, .val (.double d2), .second, .val (.ref t1), .val (.int (0 : Int32))] [(.ref t1), (.ref a1)])) _
    refine st12 _ ?_
    show Steps p.tables e below (T12.setTop (mkF m 20 #[.val (.ref a1), .val (.double d1), .second, .val (.double d2), .second, .val (.ref t1), .val (.int (0 : Int32))] [])) _
    refine XS.aloadN X12.here hx rfl (hb hby d_prog_34_method_2_code_20) rfl rfl ?_
    show Steps p.tables e below (T12.setTop (mkF m 21 #[.val (.ref a1), .val (.double d1), .second, .val (.double d2), .second, .val (.ref t1), .val (.int (0 : Int32))] [(.ref a1)])) _
    refine XS.iload X12.here hx rfl (hb hby d_prog_34_method_2_code_21) rfl ?_
    show Steps p.tables e below (T12.setTop (mkF m 23 #[.val (.ref a1), .val (.double d1), .second, .val (.double d2), .second, .val (.ref t1), .val (.int (0 : Int32))] [(.int (0 : Int32)), (.ref a1)])) _
    refine st17 _ ?_
    show Steps p.tables e below (T17.setTop (mkF m 26 #[.val (.ref a1), .val (.double d1), .second, .val (.double d2), .second, .val (.ref t1), .val (.int (0 : Int32))] [])) _
    exact X17.returnOut hx Bd.returns (hb hby d_prog_34_method_2_code_26) hr
  · show Q_in4 Z a1 d1 d2 t1 u0 u1 u2 u3 h0 n0 _ T17.heap _
    rw [e17]
    exact ⟨rfl, N17, P18, E20, F21, F22, F23, F19⟩
theorem d_prog_34_method_1_code_0 : decode prog_34_method_1_code 0 = .ok (.aload_n 0, 1) := by decide +kernel
theorem d_prog_34_method_1_code_1 : decode prog_34_method_1_code 1 = .ok (.dload_n 1, 1) := by decide +kernel
theorem d_prog_34_method_1_code_2 : decode prog_34_method_1_code 2 = .ok (.dload_n 3, 1) := by decide +kernel
theorem d_prog_34_method_1_code_3 : decode prog_34_method_1_code 3 = .ok (.bipush 32, 2) := by decide +kernel
theorem d_prog_34_method_1_code_5 : decode prog_34_method_1_code 5 = .ok (.newarray .double, 2) := by decide +kernel
theorem d_prog_34_method_1_code_7 : decode prog_34_method_1_code 7 = .ok (.iconst 0, 1) := by decide +kernel
theorem d_prog_34_method_1_code_8 : decode prog_34_method_1_code 8 = .ok (.invokespecial 3, 3) := by decide +kernel
theorem pd_28DD5bDI29V : parseMethodDescriptor "(DD[DI)V" = some ⟨[.double, .double, (.array .double), .int], none⟩ := by decide +kernel
theorem d_prog_34_method_1_code_11 : decode prog_34_method_1_code 11 = .ok (.aload_n 0, 1) := by decide +kernel
theorem d_prog_34_method_1_code_12 : decode prog_34_method_1_code 12 = .ok (.getfield 7, 3) := by decide +kernel
theorem d_prog_34_method_1_code_15 : decode prog_34_method_1_code 15 = .ok (.iconst 0, 1) := by decide +kernel
theorem d_prog_34_method_1_code_16 : decode prog_34_method_1_code 16 = .ok (.dload 5, 2) := by decide +kernel
theorem d_prog_34_method_1_code_18 : decode prog_34_method_1_code 18 = .ok (.dastore, 1) := by decide +kernel
theorem d_prog_34_method_1_code_19 : decode prog_34_method_1_code 19 = .ok (.return_, 1) := by decide +kernel
theorem ef_in3 (m : MethodId) (x0 : Addr) (x1 : UInt64) (x2 : UInt64) (x3 : UInt64) : entryFrame m #[(.ref x0), (.double x1), (.double x2), (.double x3)] 7 = mkF m 0 #[.val (.ref x0), .val (.double x1), .second, .val (.double x2), .second, .val (.double x3), .second] [] := by first | (simp [entryFrame, mkF, argsToLocals, Value.category]; done) | rfl
def Q_in3 (Z : State) (a1 : Addr) (d1 : UInt64) (d2 : UInt64) (d3 : UInt64) (u0 : Value) (u1 : Value) (u2 : Value) (u3 : Value) (h0 : Heap) (n0 : Nat) (v : Option Value) (h : Heap) (L : List Loc) : Prop := ∃ t : Addr, ∃ kk : ClassId, v = none ∧ Fr n0 L ∧ Keep h0 h [a1] ∧ (h0.size ≤ t) ∧ (n0 ≤ t) ∧ (Exa Z h a1 "com/example/tideline/tideline/StepSeries") ∧ (Fld Z h a1 "com/example/tideline/tideline/StepSeries" "center" "D" (.double d1)) ∧ (Fld Z h a1 "com/example/tideline/tideline/StepSeries" "half" "D" (.double d2)) ∧ (Fld Z h a1 "com/example/tideline/tideline/StepSeries" "terms" "[D" (.ref t)) ∧ (Fld Z h a1 "com/example/tideline/tideline/StepSeries" "highest" "I" (.int (0 : Int32))) ∧ (Arv Z h t kk .double (32 : Int32) (List.set (List.replicate 32 (.double (0 : UInt64))) 0 (.double d3)) (.double (0 : UInt64)))
set_option maxRecDepth 65536 in
set_option maxHeartbeats 40000000 in
theorem rm_in3 (l : Launch) (Z : State) (a0 : Array Value) (hw : ∀ d ∈ tables_1, d.before a0 Z = true) (ws : List Jvm.Cond) (a1 : Addr) (d1 : UInt64) (d2 : UInt64) (d3 : UInt64) (u0 : Value) (u1 : Value) (u2 : Value) (u3 : Value) (h0 : Heap) (n0 : Nat) (Z0 : n0 ≤ h0.size) (pE0 : Exa Z h0 a1 "com/example/tideline/tideline/StepSeries") (pF1 : Fld Z h0 a1 "com/example/tideline/tideline/StepSeries" "center" "D" u0) (pF2 : Fld Z h0 a1 "com/example/tideline/tideline/StepSeries" "half" "D" u1) (pF3 : Fld Z h0 a1 "com/example/tideline/tideline/StepSeries" "terms" "[D" u2) (pF4 : Fld Z h0 a1 "com/example/tideline/tideline/StepSeries" "highest" "I" u3) (pg5 : n0 ≤ a1) :
    MetFree l (⟨"com/example/tideline/tideline/StepSeries", "<init>", "(DDD)V"⟩ : MethodName) (head1 (Jvm.Cond.code (⟨"com/example/tideline/tideline/StepSeries", "<init>", "(DDD)V"⟩ : MethodName) prog_34_method_1_code 7 none :: ws) ({ frames := 2, cells := 1, slots := 32, locals := 30 } : Room)) (fun a U => a = #[(.ref a1), (.double d1), (.double d2), (.double d3)] ∧ Z.Warmed39 U.vm ∧ U.heap = h0) (fun _ _ _ _ _ => True) (fun _ U o U' => ∃ v L, o = .returned v ∧ Q_in3 Z a1 d1 d2 d3 u0 u1 u2 u3 h0 n0 v U'.heap L ∧ FrameEnd U o U' L ({ frames := 2, cells := 1, slots := 32, locals := 30 } : Room).cells ({ frames := 2, cells := 1, slots := 32, locals := 30 } : Room).slots) := by
  refine MetFree.of_bodySF (plainFor_of_name pn_com_example_tideline_tideline_StepSeries) hisR ?_
  intro p e s m args below meth c s₁ Bd hml0 hP hK
  obtain ⟨rfl, hZ, hh⟩ := hP
  have hx := Bd.exec
  have hby := Bd.bytes
  have hml : c.maxLocals = 7 := hml0
  have hown : s.vm.findClass "com/example/tideline/tideline/StepSeries" = some m.cls := findClass_of_methodNamed Bd.named
  have hnm := (name_of_methodNamed Bd.named Bd.method).1
  have X0 : Stand p l e ({ frames := 2, cells := 1, slots := 32, locals := 30 } : Room) s m #[(.ref a1), (.double d1), (.double d2), (.double d3)] below meth c s₁ [] 0 0 := Stand.of_body Bd
  have e0 : s₁.heap = h0 := by rw [← hh, Bd.state]; rfl
  have N0 := Fr.nil n0
  have P0 : Keep h0 h0 [a1] := Keep.refl _ _
  have pre0 : ∀ t, Steps p.tables e below (s₁.setTop (mkF m 0 #[.val (.ref a1), .val (.double d1), .second, .val (.double d2), .second, .val (.double d3), .second] [])) t → Steps p.tables e below (s₁.setTop (entryFrame m #[(.ref a1), (.double d1), (.double d2), (.double d3)] 7)) t := fun t k => castTop (ef_in3 m a1 d1 d2 d3) k
  obtain ⟨T1, h1, k1, X1, e1, E1, A1, Q1, st1⟩ := newPE X0 hx hZ (hw _ (List.mem_of_getElem? (i := 8) rfl)) e0 (g := (mkF m 5 #[.val (.ref a1), .val (.double d1), .second, .val (.double d2), .second, .val (.double d3), .second] [(.int (32 : Int32)), (.double d2), (.double d1), (.ref a1)])) rfl (hb hby d_prog_34_method_1_code_5) rfl (by decide) (cap := 32) (by decide) (by decide) (by decide) (by decide) (ad := "[D") (by decide)
  obtain ⟨bt, g1⟩ : ∃ z, z = h0.size := ⟨_, rfl⟩
  rw [← g1] at A1 Q1 st1
  have ne_a1_bt : a1 ≠ bt := Nat.ne_of_lt (Nat.lt_of_lt_of_eq pE0.lt g1.symm)
  have ge_bt : n0 ≤ bt := Nat.le_trans (Nat.le_trans Z0 P0.1) (Nat.le_of_eq g1.symm)
  have sz_bt : h0.size ≤ bt := Nat.le_trans P0.1 (Nat.le_of_eq g1.symm)
  have P2 : Keep h0 h1 [a1] := P0.ext E1
  have V3 : Arv Z h1 bt k1 .double (32 : Int32) (List.replicate 32 (.double (0 : UInt64))) (.double (0 : UInt64)) := (Arv.new A1 (by decide)).pad (pad_rep [] (.double (0 : UInt64)) 32)
  have E4 : Exa Z h1 a1 "com/example/tideline/tideline/StepSeries" := (Exa.ext E1 pE0)
  have F5 : Fld Z h1 a1 "com/example/tideline/tideline/StepSeries" "center" "D" u0 := (Fld.ext E1 pF1)
  have F6 : Fld Z h1 a1 "com/example/tideline/tideline/StepSeries" "half" "D" u1 := (Fld.ext E1 pF2)
  have F7 : Fld Z h1 a1 "com/example/tideline/tideline/StepSeries" "terms" "[D" u2 := (Fld.ext E1 pF3)
  have F8 : Fld Z h1 a1 "com/example/tideline/tideline/StepSeries" "highest" "I" u3 := (Fld.ext E1 pF4)
  obtain ⟨_, _, ⟨T9, L9, k9, n9⟩, -, X9, ⟨Lc9, hQ9, l9, y9, z9⟩, st9⟩ := X1.specialBack hx (y := (⟨"com/example/tideline/tideline/StepSeries", "<init>", "(DD[DI)V"⟩ : MethodName)) rfl hown (mvT hZ (hw _ (List.mem_of_getElem? (i := 9) rfl))) (mvT hZ (hw _ (List.mem_of_getElem? (i := 10) rfl))) (mvT hZ (hw _ (List.mem_of_getElem? (i := 11) rfl))) (by decide) (backOf (W := 0) (rm_in4 l Z a0 hw [] a1 d1 d2 bt u0 u1 u2 u3 h1 n0 (Nat.le_trans Z0 P2.1) E4 F5 F6 F7 F8 pg5) hZ (hw _ (List.mem_of_getElem? (i := 11) rfl)) (hw _ (List.mem_of_getElem? (i := 4) rfl)) (by decide) (by decide)) (g := (mkF m 8 #[.val (.ref a1), .val (.double d1), .second, .val (.double d2), .second, .val (.double d3), .second] [(.int (0 : Int32)), (.ref bt), (.double d2), (.double d1), (.ref a1)])) rfl (by rw [hml]; rfl) (Steps.refl _) (a := a1) (argsL := [(.double d1), (.double d2), (.ref bt), (.int (0 : Int32))]) (rest := []) (lenOf pd_28DD5bDI29V rfl) rfl (by show 2 * 0 + _ ≤ _; exact Nat.le_of_eq rfl) (hb hby d_prog_34_method_1_code_8) (fun _ _ => ⟨rfl, e1, (by decide : 1 + 0 ≤ _), (by decide : 32 + 0 ≤ _)⟩)
  dsimp only [Pt.U, Pt.locs, Pt.cells, Pt.slots] at X9 l9 y9 z9 st9 hQ9
  subst l9 y9 z9
  obtain ⟨rfl, N9q, K9, r9_0, r9_1, r9_2, r9_3, r9_4⟩ := hQ9
  have N9 := Fr.app N0 N9q
  have P10 : Keep h0 T9.heap [a1] := P2.trans K9 (allS (Or.inl (List.mem_of_getElem? (i := 0) rfl)) all0)
  obtain ⟨T11, X11, e11, st11⟩ := getF X9 hx hZ hown (host := "") (Or.inl (hw _ (List.mem_of_getElem? (i := 19) rfl))) Via.refl rfl r9_3 (g := (mkF m 12 #[.val (.ref a1), .val (.double d1), .second, .val (.double d2), .second, .val (.double d3), .second] [(.ref a1)])) rfl rfl (hb hby d_prog_34_method_1_code_12)
  have A13 : Arv Z T9.heap bt k1 .double (32 : Int32) (List.replicate 32 (.double (0 : UInt64))) (.double (0 : UInt64)) := (V3.keep K9 (ninS ne_a1_bt.symm nin0))
  obtain ⟨cl12, Ar12, qk12, Sz12, Nz12, Ha12, Ga12⟩ := id A13
  have hin12 : ¬ ((0 : Int32) < 0 ∨ cl12.slots.size ≤ ((0 : Int32)).toNatClampNeg) := inb_of Sz12 ⟨by decide, by decide⟩
  obtain ⟨T12, h12, X12, e12, W12, st12⟩ := stD X11 hx hZ e11 Ar12 (j := (0 : Int32)) hin12 (g := (mkF m 18 #[.val (.ref a1), .val (.double d1), .second, .val (.double d2), .second, .val (.double d3), .second] [(.double d3), (.int (0 : Int32)), (.ref bt)])) rfl rfl (hb hby d_prog_34_method_1_code_18)
  have P14 : Keep h0 h12 [a1] := P10.wr W12 (Or.inr sz_bt)
  have V15 : Arv Z h12 bt k1 .double (32 : Int32) (List.set (List.replicate 32 (.double (0 : UInt64))) 0 (.double d3)) (.double (0 : UInt64)) := Arv.set Ar12 qk12 Sz12 Nz12 Ha12 Ga12 rfl W12 0 (by decide) (by decide)
  have N12 := Fr.snoc X12 N9 ge_bt
  have E16 : Exa Z h12 a1 "com/example/tideline/tideline/StepSeries" := (Exa.wr W12 r9_0)
  have F17 : Fld Z h12 a1 "com/example/tideline/tideline/StepSeries" "center" "D" (.double d1) := (Fld.other W12 r9_1 (Or.inl ne_a1_bt))
  have F18 : Fld Z h12 a1 "com/example/tideline/tideline/StepSeries" "half" "D" (.double d2) := (Fld.other W12 r9_2 (Or.inl ne_a1_bt))
  have F19 : Fld Z h12 a1 "com/example/tideline/tideline/StepSeries" "terms" "[D" (.ref bt) := (Fld.other W12 r9_3 (Or.inl ne_a1_bt))
  have F20 : Fld Z h12 a1 "com/example/tideline/tideline/StepSeries" "highest" "I" (.int (0 : Int32)) := (Fld.other W12 r9_4 (Or.inl ne_a1_bt))
  obtain ⟨fs, hr, hrun, hended, hW, hsame⟩ := X12.leave (v := none) (fun _ => rfl)
  refine ⟨_, _, pre0 _ ?_, hrun, hended, _, _, rfl, ?_, ⟨_, rfl⟩, hW, hsame.mono (by decide) (by decide)⟩
  · show Steps p.tables e below (s₁.setTop (mkF m 0 #[.val (.ref a1), .val (.double d1), .second, .val (.double d2), .second, .val (.double d3), .second] [])) _
    refine XS.aloadN X0.here hx rfl (hb hby d_prog_34_method_1_code_0) rfl rfl ?_
    show Steps p.tables e below (s₁.setTop (mkF m 1 #[.val (.ref a1), .val (.double d1), .second, .val (.double d2), .second, .val (.double d3), .second] [(.ref a1)])) _
    refine XS.dloadN X0.here hx rfl (hb hby d_prog_34_method_1_code_1) rfl ?_
    show Steps p.tables e below (s₁.setTop (mkF m 2 #[.val (.ref a1), .val (.double d1), .second, .val (.double d2), .second, .val (.double d3), .second] [(.double d1), (.ref a1)])) _
    refine XS.dloadN X0.here hx rfl (hb hby d_prog_34_method_1_code_2) rfl ?_
    show Steps p.tables e below (s₁.setTop (mkF m 3 #[.val (.ref a1), .val (.double d1), .second, .val (.double d2), .second, .val (.double d3), .second] [(.double d2), (.double d1), (.ref a1)])) _
    refine XS.bipush X0.here hx rfl (hb hby d_prog_34_method_1_code_3) ?_
    show Steps p.tables e below (s₁.setTop (mkF m 5 #[.val (.ref a1), .val (.double d1), .second, .val (.double d2), .second, .val (.double d3), .second] [(.int (32 : Int32)), (.double d2), (.double d1), (.ref a1)])) _
    refine st1 _ ?_
    show Steps p.tables e below (T1.setTop (mkF m 7 #[.val (.ref a1), .val (.double d1), .second, .val (.double d2), .second, .val (.double d3), .second] [(.ref bt), (.double d2), (.double d1), (.ref a1)])) _
    refine XS.iconst X1.here hx rfl (hb hby d_prog_34_method_1_code_7) ?_
    show Steps p.tables e below (T1.setTop (mkF m 8 #[.val (.ref a1), .val (.double d1), .second, .val (.double d2), .second, .val (.double d3), .second] [(.int (0 : Int32)), (.ref bt), (.double d2), (.double d1), (.ref a1)])) _
    refine st9.trans ?_
    show Steps p.tables e below (T9.setTop (mkF m 11 #[.val (.ref a1), .val (.double d1), .second, .val (.double d2), .second, .val (.double d3), .second] [])) _
    refine XS.aloadN X9.here hx rfl (hb hby d_prog_34_method_1_code_11) rfl rfl ?_
    show Steps p.tables e below (T9.setTop (mkF m 12 #[.val (.ref a1), .val (.double d1), .second, .val (.double d2), .second, .val (.double d3), .second] [(.ref a1)])) _
    refine st11 _ ?_
    show Steps p.tables e below (T11.setTop (mkF m 15 #[.val (.ref a1), .val (.double d1), .second, .val (.double d2), .second, .val (.double d3), .second] [(.ref bt)])) _
    refine XS.iconst X11.here hx rfl (hb hby d_prog_34_method_1_code_15) ?_
    show Steps p.tables e below (T11.setTop (mkF m 16 #[.val (.ref a1), .val (.double d1), .second, .val (.double d2), .second, .val (.double d3), .second] [(.int (0 : Int32)), (.ref bt)])) _
    refine XS.dload X11.here hx rfl (hb hby d_prog_34_method_1_code_16) rfl ?_
    show Steps p.tables e below (T11.setTop (mkF m 18 #[.val (.ref a1), .val (.double d1), .second, .val (.double d2), .second, .val (.double d3), .second] [(.double d3), (.int (0 : Int32)), (.ref bt)])) _
    refine st12 _ ?_
    show Steps p.tables e below (T12.setTop (mkF m 19 #[.val (.ref a1), .val (.double d1), .second, .val (.double d2), .second, .val (.double d3), .second] [])) _
    exact X12.returnOut hx Bd.returns (hb hby d_prog_34_method_1_code_19) hr
  · show Q_in3 Z a1 d1 d2 d3 u0 u1 u2 u3 h0 n0 _ T12.heap _
    rw [e12]
    exact ⟨bt, k1, rfl, N12, P14, sz_bt, ge_bt, E16, F17, F18, F19, F20, V15⟩
theorem own_z0 : Fin64 FP.dconst0 := by unfold Fin64 FP.dconst0; decide
theorem own_zz : FP.Core.DZero FP.dconst0 := ⟨false, _, FP.Core.val64_dconst0⟩
theorem own_at {y : UInt64} (h : Fin64 y) (v : Int32) (o : CmpOp) : cmpValue (FP.dcmp (FP.dadd (FP.dmul FP.dconst0 y) (FP.i2d v)) (FP.i2d v)) o = 0 := by
  rw [show FP.dcmp (FP.dadd (FP.dmul FP.dconst0 y) (FP.i2d v)) (FP.i2d v) = some .eq from (FP.Core.dadd_zero_eq (fin64_core.mp (i2d_fin v)) (FP.Core.dzero_mul (fin64_core.mp h) own_zz)).2]; rfl
theorem own_fin (xx cc : Int32) {hh : Int32} (h : hh ≠ 0) : Fin64 (FP.ddiv (FP.dsub (FP.i2d xx) (FP.i2d cc)) (FP.i2d hh)) := by
  have hz : hh.toInt64 ≠ 0 := fun q => h (by
    have := congrArg Int64.toInt q; rw [Int32.toInt_toInt64] at this; exact Int32.toInt_inj.mp this)
  have hb := l2d_big hz
  rw [← i2d_w] at hb
  exact (ddiv_mag (dsub_mag (i2d_mag xx) (i2d_mag cc) (by decide)) hb (by decide) (by decide)).fin (by decide)
theorem d_prog_34_method_5_code_0 : decode prog_34_method_5_code 0 = .ok (.iload_n 1, 1) := by decide +kernel
theorem d_prog_34_method_5_code_1 : decode prog_34_method_5_code 1 = .ok (.i2d, 1) := by decide +kernel
theorem d_prog_34_method_5_code_2 : decode prog_34_method_5_code 2 = .ok (.aload_n 0, 1) := by decide +kernel
theorem d_prog_34_method_5_code_3 : decode prog_34_method_5_code 3 = .ok (.getfield 16, 3) := by decide +kernel
theorem d_prog_34_method_5_code_6 : decode prog_34_method_5_code 6 = .ok (.dsub, 1) := by decide +kernel
theorem d_prog_34_method_5_code_7 : decode prog_34_method_5_code 7 = .ok (.aload_n 0, 1) := by decide +kernel
theorem d_prog_34_method_5_code_8 : decode prog_34_method_5_code 8 = .ok (.getfield 20, 3) := by decide +kernel
theorem d_prog_34_method_5_code_11 : decode prog_34_method_5_code 11 = .ok (.ddiv, 1) := by decide +kernel
theorem d_prog_34_method_5_code_12 : decode prog_34_method_5_code 12 = .ok (.dstore_n 2, 1) := by decide +kernel
theorem d_prog_34_method_5_code_13 : decode prog_34_method_5_code 13 = .ok (.dconst 0, 1) := by decide +kernel
theorem d_prog_34_method_5_code_14 : decode prog_34_method_5_code 14 = .ok (.dstore 4, 2) := by decide +kernel
theorem d_prog_34_method_5_code_16 : decode prog_34_method_5_code 16 = .ok (.aload_n 0, 1) := by decide +kernel
theorem d_prog_34_method_5_code_17 : decode prog_34_method_5_code 17 = .ok (.getfield 23, 3) := by decide +kernel
theorem d_prog_34_method_5_code_20 : decode prog_34_method_5_code 20 = .ok (.istore 6, 2) := by decide +kernel
theorem d_prog_34_method_5_code_22 : decode prog_34_method_5_code 22 = .ok (.iload 6, 2) := by decide +kernel
theorem d_prog_34_method_5_code_24 : decode prog_34_method_5_code 24 = .ok (.ifCond .lt 23, 3) := by decide +kernel
theorem d_prog_34_method_5_code_27 : decode prog_34_method_5_code 27 = .ok (.dload 4, 2) := by decide +kernel
theorem d_prog_34_method_5_code_29 : decode prog_34_method_5_code 29 = .ok (.dload_n 2, 1) := by decide +kernel
theorem d_prog_34_method_5_code_30 : decode prog_34_method_5_code 30 = .ok (.dmul, 1) := by decide +kernel
theorem d_prog_34_method_5_code_31 : decode prog_34_method_5_code 31 = .ok (.aload_n 0, 1) := by decide +kernel
theorem d_prog_34_method_5_code_32 : decode prog_34_method_5_code 32 = .ok (.getfield 7, 3) := by decide +kernel
theorem d_prog_34_method_5_code_35 : decode prog_34_method_5_code 35 = .ok (.iload 6, 2) := by decide +kernel
theorem d_prog_34_method_5_code_37 : decode prog_34_method_5_code 37 = .ok (.daload, 1) := by decide +kernel
theorem d_prog_34_method_5_code_38 : decode prog_34_method_5_code 38 = .ok (.dadd, 1) := by decide +kernel
theorem d_prog_34_method_5_code_39 : decode prog_34_method_5_code 39 = .ok (.dstore 4, 2) := by decide +kernel
theorem d_prog_34_method_5_code_41 : decode prog_34_method_5_code 41 = .ok (.iinc 6 (-1), 3) := by decide +kernel
theorem d_prog_34_method_5_code_44 : decode prog_34_method_5_code 44 = .ok (.goto (-22), 3) := by decide +kernel
theorem d_prog_34_method_5_code_47 : decode prog_34_method_5_code 47 = .ok (.dload 4, 2) := by decide +kernel
theorem d_prog_34_method_5_code_49 : decode prog_34_method_5_code 49 = .ok (.dreturn, 1) := by decide +kernel
theorem ef_at (m : MethodId) (x0 : Addr) (x1 : Int32) : entryFrame m #[(.ref x0), (.int x1)] 7 = mkF m 0 #[.val (.ref x0), .val (.int x1), .unset, .unset, .unset, .unset, .unset] [] := by first | (simp [entryFrame, mkF, argsToLocals, Value.category]; done) | rfl
def Q_at (Z : State) (a1 : Addr) (xx : Int32) (cc : Int32) (hf : Int32) (vv : Int32) (t1 : Addr) (kk : ClassId) (h0 : Heap) (n0 : Nat) (v : Option Value) (h : Heap) (L : List Loc) : Prop := v = some (.double (FP.dadd (FP.dmul FP.dconst0 (FP.ddiv (FP.dsub (FP.i2d xx) (FP.i2d cc)) (FP.i2d hf))) (FP.i2d vv))) ∧ Fr n0 L ∧ h = h0
set_option maxRecDepth 65536 in
set_option maxHeartbeats 40000000 in
theorem rm_at (l : Launch) (Z : State) (a0 : Array Value) (hw : ∀ d ∈ tables_1, d.before a0 Z = true) (ws : List Jvm.Cond) (a1 : Addr) (xx : Int32) (cc : Int32) (hf : Int32) (vv : Int32) (t1 : Addr) (kk : ClassId) (h0 : Heap) (n0 : Nat) (Z0 : n0 ≤ h0.size) (pF0 : Fld Z h0 a1 "com/example/tideline/tideline/StepSeries" "center" "D" (.double (FP.i2d cc))) (pF1 : Fld Z h0 a1 "com/example/tideline/tideline/StepSeries" "half" "D" (.double (FP.i2d hf))) (pF2 : Fld Z h0 a1 "com/example/tideline/tideline/StepSeries" "terms" "[D" (.ref t1)) (pF3 : Fld Z h0 a1 "com/example/tideline/tideline/StepSeries" "highest" "I" (.int (0 : Int32))) (pA4 : Arv Z h0 t1 kk .double (32 : Int32) (List.set (List.replicate 32 (.double (0 : UInt64))) 0 (.double (FP.i2d vv))) (.double (0 : UInt64))) (hs : Fin64 (FP.ddiv (FP.dsub (FP.i2d xx) (FP.i2d cc)) (FP.i2d hf))) :
    MetFree l (⟨"com/example/tideline/tideline/StepSeries", "at", "(I)D"⟩ : MethodName) (head1 (Jvm.Cond.code (⟨"com/example/tideline/tideline/StepSeries", "at", "(I)D"⟩ : MethodName) prog_34_method_5_code 7 (some .double) :: ws) ({ frames := 0, cells := 0, slots := 0, locals := 0 } : Room)) (fun a U => a = #[(.ref a1), (.int xx)] ∧ Z.Warmed39 U.vm ∧ U.heap = h0) (fun _ _ _ _ _ => True) (fun _ U o U' => ∃ v L, o = .returned v ∧ Q_at Z a1 xx cc hf vv t1 kk h0 n0 v U'.heap L ∧ FrameEnd U o U' L ({ frames := 0, cells := 0, slots := 0, locals := 0 } : Room).cells ({ frames := 0, cells := 0, slots := 0, locals := 0 } : Room).slots) := by
  refine MetFree.of_bodySF (plainFor_of_name pn_com_example_tideline_tideline_StepSeries) hisR ?_
  intro p e s m args below meth c s₁ Bd hml0 hP hK
  obtain ⟨rfl, hZ, hh⟩ := hP
  have hx := Bd.exec
  have hby := Bd.bytes
  have hml : c.maxLocals = 7 := hml0
  have hown : s.vm.findClass "com/example/tideline/tideline/StepSeries" = some m.cls := findClass_of_methodNamed Bd.named
  have hnm := (name_of_methodNamed Bd.named Bd.method).1
  have X0 : Stand p l e ({ frames := 0, cells := 0, slots := 0, locals := 0 } : Room) s m #[(.ref a1), (.int xx)] below meth c s₁ [] 0 0 := Stand.of_body Bd
  have e0 : s₁.heap = h0 := by rw [← hh, Bd.state]; rfl
  have N0 := Fr.nil n0
  have P0 : Keep h0 h0 [] := Keep.refl _ _
  have pre0 : ∀ t, Steps p.tables e below (s₁.setTop (mkF m 0 #[.val (.ref a1), .val (.int xx), .unset, .unset, .unset, .unset, .unset] [])) t → Steps p.tables e below (s₁.setTop (entryFrame m #[(.ref a1), (.int xx)] 7)) t := fun t k => castTop (ef_at m a1 xx) k
  obtain ⟨T1, X1, e1, st1⟩ := getF X0 hx hZ hown (host := "") (Or.inl (hw _ (List.mem_of_getElem? (i := 15) rfl))) Via.refl e0 pF0 (g := (mkF m 3 #[.val (.ref a1), .val (.int xx), .unset, .unset, .unset, .unset, .unset] [(.ref a1), (.double (FP.i2d xx))])) rfl rfl (hb hby d_prog_34_method_5_code_3)
  obtain ⟨T2, X2, e2, st2⟩ := getF X1 hx hZ hown (host := "") (Or.inl (hw _ (List.mem_of_getElem? (i := 17) rfl))) Via.refl e1 pF1 (g := (mkF m 8 #[.val (.ref a1), .val (.int xx), .unset, .unset, .unset, .unset, .unset] [(.ref a1), (.double (FP.dsub (FP.i2d xx) (FP.i2d cc)))])) rfl rfl (hb hby d_prog_34_method_5_code_8)
  obtain ⟨T3, X3, e3, st3⟩ := getF X2 hx hZ hown (host := "") (Or.inl (hw _ (List.mem_of_getElem? (i := 21) rfl))) Via.refl e2 pF3 (g := (mkF m 17 #[.val (.ref a1), .val (.int xx), .val (.double (FP.ddiv (FP.dsub (FP.i2d xx) (FP.i2d cc)) (FP.i2d hf))), .second, .val (.double FP.dconst0), .second, .unset] [(.ref a1)])) rfl rfl (hb hby d_prog_34_method_5_code_17)
  obtain ⟨T4, X4, e4, st4⟩ := getF X3 hx hZ hown (host := "") (Or.inl (hw _ (List.mem_of_getElem? (i := 19) rfl))) Via.refl e3 pF2 (g := (mkF m 32 #[.val (.ref a1), .val (.int xx), .val (.double (FP.ddiv (FP.dsub (FP.i2d xx) (FP.i2d cc)) (FP.i2d hf))), .second, .val (.double FP.dconst0), .second, .val (.int (0 : Int32))] [(.ref a1), (.double (FP.dmul FP.dconst0 (FP.ddiv (FP.dsub (FP.i2d xx) (FP.i2d cc)) (FP.i2d hf))))])) rfl rfl (hb hby d_prog_34_method_5_code_32)
  obtain ⟨cl5, Ar5, qk5, Sz5, Nz5, Ha5, Ga5⟩ := id pA4
  have hin5 : ¬ ((0 : Int32) < 0 ∨ cl5.slots.size ≤ ((0 : Int32)).toNatClampNeg) := inb_of Sz5 ⟨by decide, by decide⟩
  have hat5 : cl5.slots[((0 : Int32)).toNatClampNeg]? = some (.double (FP.i2d vv)) := Has.at Ha5 hin5 (by rfl)
  obtain ⟨fs, hr, hrun, hended, hW, hsame⟩ := X4.leave (v := some (.double (FP.dadd (FP.dmul FP.dconst0 (FP.ddiv (FP.dsub (FP.i2d xx) (FP.i2d cc)) (FP.i2d hf))) (FP.i2d vv)))) (fun h => by rw [Bd.returns] at h; cases h)
  refine ⟨_, _, pre0 _ ?_, hrun, hended, _, _, rfl, ?_, ⟨_, rfl⟩, hW, hsame.mono (by decide) (by decide)⟩
  · show Steps p.tables e below (s₁.setTop (mkF m 0 #[.val (.ref a1), .val (.int xx), .unset, .unset, .unset, .unset, .unset] [])) _
    refine XS.iloadN X0.here hx rfl (hb hby d_prog_34_method_5_code_0) rfl ?_
    show Steps p.tables e below (s₁.setTop (mkF m 1 #[.val (.ref a1), .val (.int xx), .unset, .unset, .unset, .unset, .unset] [(.int xx)])) _
    refine XS.i2dS X0.here hx rfl (hb hby d_prog_34_method_5_code_1) rfl rfl ?_
    show Steps p.tables e below (s₁.setTop (mkF m 2 #[.val (.ref a1), .val (.int xx), .unset, .unset, .unset, .unset, .unset] [(.double (FP.i2d xx))])) _
    refine XS.aloadN X0.here hx rfl (hb hby d_prog_34_method_5_code_2) rfl rfl ?_
    show Steps p.tables e below (s₁.setTop (mkF m 3 #[.val (.ref a1), .val (.int xx), .unset, .unset, .unset, .unset, .unset] [(.ref a1), (.double (FP.i2d xx))])) _
    refine st1 _ ?_
    show Steps p.tables e below (T1.setTop (mkF m 6 #[.val (.ref a1), .val (.int xx), .unset, .unset, .unset, .unset, .unset] [(.double (FP.i2d cc)), (.double (FP.i2d xx))])) _
    refine XS.dsubS X1.here hx rfl (hb hby d_prog_34_method_5_code_6) rfl (dsub_out (i2d_fin xx).noNaN (i2d_fin cc)) rfl ?_
    show Steps p.tables e below (T1.setTop (mkF m 7 #[.val (.ref a1), .val (.int xx), .unset, .unset, .unset, .unset, .unset] [(.double (FP.dsub (FP.i2d xx) (FP.i2d cc)))])) _
    refine XS.aloadN X1.here hx rfl (hb hby d_prog_34_method_5_code_7) rfl rfl ?_
    show Steps p.tables e below (T1.setTop (mkF m 8 #[.val (.ref a1), .val (.int xx), .unset, .unset, .unset, .unset, .unset] [(.ref a1), (.double (FP.dsub (FP.i2d xx) (FP.i2d cc)))])) _
    refine st2 _ ?_
    show Steps p.tables e below (T2.setTop (mkF m 11 #[.val (.ref a1), .val (.int xx), .unset, .unset, .unset, .unset, .unset] [(.double (FP.i2d hf)), (.double (FP.dsub (FP.i2d xx) (FP.i2d cc)))])) _
    refine XS.ddivS X2.here hx rfl (hb hby d_prog_34_method_5_code_11) rfl hs.noNaN rfl ?_
    show Steps p.tables e below (T2.setTop (mkF m 12 #[.val (.ref a1), .val (.int xx), .unset, .unset, .unset, .unset, .unset] [(.double (FP.ddiv (FP.dsub (FP.i2d xx) (FP.i2d cc)) (FP.i2d hf)))])) _
    refine XS.dstoreN X2.here hx rfl (hb hby d_prog_34_method_5_code_12) rfl (l' := #[.val (.ref a1), .val (.int xx), .val (.double (FP.ddiv (FP.dsub (FP.i2d xx) (FP.i2d cc)) (FP.i2d hf))), .second, .unset, .unset, .unset]) rfl ?_
    show Steps p.tables e below (T2.setTop (mkF m 13 #[.val (.ref a1), .val (.int xx), .val (.double (FP.ddiv (FP.dsub (FP.i2d xx) (FP.i2d cc)) (FP.i2d hf))), .second, .unset, .unset, .unset] [])) _
    refine XS.dconst0 X2.here hx rfl (hb hby d_prog_34_method_5_code_13) rfl ?_
    show Steps p.tables e below (T2.setTop (mkF m 14 #[.val (.ref a1), .val (.int xx), .val (.double (FP.ddiv (FP.dsub (FP.i2d xx) (FP.i2d cc)) (FP.i2d hf))), .second, .unset, .unset, .unset] [(.double FP.dconst0)])) _
    refine XS.dstore X2.here hx rfl (hb hby d_prog_34_method_5_code_14) rfl (l' := #[.val (.ref a1), .val (.int xx), .val (.double (FP.ddiv (FP.dsub (FP.i2d xx) (FP.i2d cc)) (FP.i2d hf))), .second, .val (.double FP.dconst0), .second, .unset]) rfl ?_
    show Steps p.tables e below (T2.setTop (mkF m 16 #[.val (.ref a1), .val (.int xx), .val (.double (FP.ddiv (FP.dsub (FP.i2d xx) (FP.i2d cc)) (FP.i2d hf))), .second, .val (.double FP.dconst0), .second, .unset] [])) _
    refine XS.aloadN X2.here hx rfl (hb hby d_prog_34_method_5_code_16) rfl rfl ?_
    show Steps p.tables e below (T2.setTop (mkF m 17 #[.val (.ref a1), .val (.int xx), .val (.double (FP.ddiv (FP.dsub (FP.i2d xx) (FP.i2d cc)) (FP.i2d hf))), .second, .val (.double FP.dconst0), .second, .unset] [(.ref a1)])) _
    refine st3 _ ?_
    show Steps p.tables e below (T3.setTop (mkF m 20 #[.val (.ref a1), .val (.int xx), .val (.double (FP.ddiv (FP.dsub (FP.i2d xx) (FP.i2d cc)) (FP.i2d hf))), .second, .val (.double FP.dconst0), .second, .unset] [(.int (0 : Int32))])) _
    refine XS.istore X3.here hx rfl (hb hby d_prog_34_method_5_code_20) rfl (l' := #[.val (.ref a1), .val (.int xx), .val (.double (FP.ddiv (FP.dsub (FP.i2d xx) (FP.i2d cc)) (FP.i2d hf))), .second, .val (.double FP.dconst0), .second, .val (.int (0 : Int32))]) rfl ?_
    show Steps p.tables e below (T3.setTop (mkF m 22 #[.val (.ref a1), .val (.int xx), .val (.double (FP.ddiv (FP.dsub (FP.i2d xx) (FP.i2d cc)) (FP.i2d hf))), .second, .val (.double FP.dconst0), .second, .val (.int (0 : Int32))] [])) _
    refine XS.iload X3.here hx rfl (hb hby d_prog_34_method_5_code_22) rfl ?_
    show Steps p.tables e below (T3.setTop (mkF m 24 #[.val (.ref a1), .val (.int xx), .val (.double (FP.ddiv (FP.dsub (FP.i2d xx) (FP.i2d cc)) (FP.i2d hf))), .second, .val (.double FP.dconst0), .second, .val (.int (0 : Int32))] [(.int (0 : Int32))])) _
    refine XS.ifNo X3.here hx rfl (hb hby d_prog_34_method_5_code_24) rfl ((if0 _ _).trans (flt (by decide : ¬ ((0 : Int32) < (0 : Int32)))).1) ?_
    show Steps p.tables e below (T3.setTop (mkF m 27 #[.val (.ref a1), .val (.int xx), .val (.double (FP.ddiv (FP.dsub (FP.i2d xx) (FP.i2d cc)) (FP.i2d hf))), .second, .val (.double FP.dconst0), .second, .val (.int (0 : Int32))] [])) _
    refine XS.dload X3.here hx rfl (hb hby d_prog_34_method_5_code_27) rfl ?_
    show Steps p.tables e below (T3.setTop (mkF m 29 #[.val (.ref a1), .val (.int xx), .val (.double (FP.ddiv (FP.dsub (FP.i2d xx) (FP.i2d cc)) (FP.i2d hf))), .second, .val (.double FP.dconst0), .second, .val (.int (0 : Int32))] [(.double FP.dconst0)])) _
    refine XS.dloadN X3.here hx rfl (hb hby d_prog_34_method_5_code_29) rfl ?_
    show Steps p.tables e below (T3.setTop (mkF m 30 #[.val (.ref a1), .val (.int xx), .val (.double (FP.ddiv (FP.dsub (FP.i2d xx) (FP.i2d cc)) (FP.i2d hf))), .second, .val (.double FP.dconst0), .second, .val (.int (0 : Int32))] [(.double (FP.ddiv (FP.dsub (FP.i2d xx) (FP.i2d cc)) (FP.i2d hf))), (.double FP.dconst0)])) _
    refine XS.dmulS X3.here hx rfl (hb hby d_prog_34_method_5_code_30) rfl (dmul_out own_z0 hs) rfl ?_
    show Steps p.tables e below (T3.setTop (mkF m 31 #[.val (.ref a1), .val (.int xx), .val (.double (FP.ddiv (FP.dsub (FP.i2d xx) (FP.i2d cc)) (FP.i2d hf))), .second, .val (.double FP.dconst0), .second, .val (.int (0 : Int32))] [(.double (FP.dmul FP.dconst0 (FP.ddiv (FP.dsub (FP.i2d xx) (FP.i2d cc)) (FP.i2d hf))))])) _
    refine XS.aloadN X3.here hx rfl (hb hby d_prog_34_method_5_code_31) rfl rfl ?_
    show Steps p.tables e below (T3.setTop (mkF m 32 #[.val (.ref a1), .val (.int xx), .val (.double (FP.ddiv (FP.dsub (FP.i2d xx) (FP.i2d cc)) (FP.i2d hf))), .second, .val (.double FP.dconst0), .second, .val (.int (0 : Int32))] [(.ref a1), (.double (FP.dmul FP.dconst0 (FP.ddiv (FP.dsub (FP.i2d xx) (FP.i2d cc)) (FP.i2d hf))))])) _
    refine st4 _ ?_
    show Steps p.tables e below (T4.setTop (mkF m 35 #[.val (.ref a1), .val (.int xx), .val (.double (FP.ddiv (FP.dsub (FP.i2d xx) (FP.i2d cc)) (FP.i2d hf))), .second, .val (.double FP.dconst0), .second, .val (.int (0 : Int32))] [(.ref t1), (.double (FP.dmul FP.dconst0 (FP.ddiv (FP.dsub (FP.i2d xx) (FP.i2d cc)) (FP.i2d hf))))])) _
    refine XS.iload X4.here hx rfl (hb hby d_prog_34_method_5_code_35) rfl ?_
    show Steps p.tables e below (T4.setTop (mkF m 37 #[.val (.ref a1), .val (.int xx), .val (.double (FP.ddiv (FP.dsub (FP.i2d xx) (FP.i2d cc)) (FP.i2d hf))), .second, .val (.double FP.dconst0), .second, .val (.int (0 : Int32))] [(.int (0 : Int32)), (.ref t1), (.double (FP.dmul FP.dconst0 (FP.ddiv (FP.dsub (FP.i2d xx) (FP.i2d cc)) (FP.i2d hf))))])) _
    refine X4.daload hx (j := (0 : Int32)) (v := (.double (FP.i2d vv))) (by rw [e4]; exact Ar5.1) (State.isArrayOf_alike hZ.alike Ar5.2.1) Ar5.2.2 hin5 hat5 (g := (mkF m 37 #[.val (.ref a1), .val (.int xx), .val (.double (FP.ddiv (FP.dsub (FP.i2d xx) (FP.i2d cc)) (FP.i2d hf))), .second, .val (.double FP.dconst0), .second, .val (.int (0 : Int32))] [(.int (0 : Int32)), (.ref t1), (.double (FP.dmul FP.dconst0 (FP.ddiv (FP.dsub (FP.i2d xx) (FP.i2d cc)) (FP.i2d hf))))])) rfl rfl (hb hby d_prog_34_method_5_code_37) _ ?_
    show Steps p.tables e below (T4.setTop (mkF m 38 #[.val (.ref a1), .val (.int xx), .val (.double (FP.ddiv (FP.dsub (FP.i2d xx) (FP.i2d cc)) (FP.i2d hf))), .second, .val (.double FP.dconst0), .second, .val (.int (0 : Int32))] [(.double (FP.i2d vv)), (.double (FP.dmul FP.dconst0 (FP.ddiv (FP.dsub (FP.i2d xx) (FP.i2d cc)) (FP.i2d hf))))])) _
    refine XS.daddS X4.here hx rfl (hb hby d_prog_34_method_5_code_38) rfl (dadd_out (dmul_out own_z0 hs) (i2d_fin vv)) rfl ?_
    show Steps p.tables e below (T4.setTop (mkF m 39 #[.val (.ref a1), .val (.int xx), .val (.double (FP.ddiv (FP.dsub (FP.i2d xx) (FP.i2d cc)) (FP.i2d hf))), .second, .val (.double FP.dconst0), .second, .val (.int (0 : Int32))] [(.double (FP.dadd (FP.dmul FP.dconst0 (FP.ddiv (FP.dsub (FP.i2d xx) (FP.i2d cc)) (FP.i2d hf))) (FP.i2d vv)))])) _
    refine XS.dstore X4.here hx rfl (hb hby d_prog_34_method_5_code_39) rfl (l' := #[.val (.ref a1), .val (.int xx), .val (.double (FP.ddiv (FP.dsub (FP.i2d xx) (FP.i2d cc)) (FP.i2d hf))), .second, .val (.double (FP.dadd (FP.dmul FP.dconst0 (FP.ddiv (FP.dsub (FP.i2d xx) (FP.i2d cc)) (FP.i2d hf))) (FP.i2d vv))), .second, .val (.int (0 : Int32))]) rfl ?_
    show Steps p.tables e below (T4.setTop (mkF m 41 #[.val (.ref a1), .val (.int xx), .val (.double (FP.ddiv (FP.dsub (FP.i2d xx) (FP.i2d cc)) (FP.i2d hf))), .second, .val (.double (FP.dadd (FP.dmul FP.dconst0 (FP.ddiv (FP.dsub (FP.i2d xx) (FP.i2d cc)) (FP.i2d hf))) (FP.i2d vv))), .second, .val (.int (0 : Int32))] [])) _
    refine XS.iinc X4.here hx rfl (hb hby d_prog_34_method_5_code_41) rfl (l' := #[.val (.ref a1), .val (.int xx), .val (.double (FP.ddiv (FP.dsub (FP.i2d xx) (FP.i2d cc)) (FP.i2d hf))), .second, .val (.double (FP.dadd (FP.dmul FP.dconst0 (FP.ddiv (FP.dsub (FP.i2d xx) (FP.i2d cc)) (FP.i2d hf))) (FP.i2d vv))), .second, .val (.int ((0 : Int32) + (-1 : Int32)))]) rfl ?_
    show Steps p.tables e below (T4.setTop (mkF m 44 #[.val (.ref a1), .val (.int xx), .val (.double (FP.ddiv (FP.dsub (FP.i2d xx) (FP.i2d cc)) (FP.i2d hf))), .second, .val (.double (FP.dadd (FP.dmul FP.dconst0 (FP.ddiv (FP.dsub (FP.i2d xx) (FP.i2d cc)) (FP.i2d hf))) (FP.i2d vv))), .second, .val (.int ((0 : Int32) + (-1 : Int32)))] [])) _
    refine XS.goto X4.here hx rfl (pc0 := 44) (pc' := 22) rfl (hb hby d_prog_34_method_5_code_44) (by decide) (by decide) ?_
    show Steps p.tables e below (T4.setTop (mkF m 22 #[.val (.ref a1), .val (.int xx), .val (.double (FP.ddiv (FP.dsub (FP.i2d xx) (FP.i2d cc)) (FP.i2d hf))), .second, .val (.double (FP.dadd (FP.dmul FP.dconst0 (FP.ddiv (FP.dsub (FP.i2d xx) (FP.i2d cc)) (FP.i2d hf))) (FP.i2d vv))), .second, .val (.int ((0 : Int32) + (-1 : Int32)))] [])) _
    refine XS.iload X4.here hx rfl (hb hby d_prog_34_method_5_code_22) rfl ?_
    show Steps p.tables e below (T4.setTop (mkF m 24 #[.val (.ref a1), .val (.int xx), .val (.double (FP.ddiv (FP.dsub (FP.i2d xx) (FP.i2d cc)) (FP.i2d hf))), .second, .val (.double (FP.dadd (FP.dmul FP.dconst0 (FP.ddiv (FP.dsub (FP.i2d xx) (FP.i2d cc)) (FP.i2d hf))) (FP.i2d vv))), .second, .val (.int ((0 : Int32) + (-1 : Int32)))] [(.int ((0 : Int32) + (-1 : Int32)))])) _
    refine XS.ifYes X4.here hx rfl (pc0 := 24) (pc' := 47) rfl (hb hby d_prog_34_method_5_code_24) rfl ((if0 _ _).trans (tlt (by decide : ((0 : Int32) + (-1 : Int32)) < (0 : Int32))).1) (by decide) (by decide) ?_
    show Steps p.tables e below (T4.setTop (mkF m 47 #[.val (.ref a1), .val (.int xx), .val (.double (FP.ddiv (FP.dsub (FP.i2d xx) (FP.i2d cc)) (FP.i2d hf))), .second, .val (.double (FP.dadd (FP.dmul FP.dconst0 (FP.ddiv (FP.dsub (FP.i2d xx) (FP.i2d cc)) (FP.i2d hf))) (FP.i2d vv))), .second, .val (.int ((0 : Int32) + (-1 : Int32)))] [])) _
    refine XS.dload X4.here hx rfl (hb hby d_prog_34_method_5_code_47) rfl ?_
    show Steps p.tables e below (T4.setTop (mkF m 49 #[.val (.ref a1), .val (.int xx), .val (.double (FP.ddiv (FP.dsub (FP.i2d xx) (FP.i2d cc)) (FP.i2d hf))), .second, .val (.double (FP.dadd (FP.dmul FP.dconst0 (FP.ddiv (FP.dsub (FP.i2d xx) (FP.i2d cc)) (FP.i2d hf))) (FP.i2d vv))), .second, .val (.int ((0 : Int32) + (-1 : Int32)))] [(.double (FP.dadd (FP.dmul FP.dconst0 (FP.ddiv (FP.dsub (FP.i2d xx) (FP.i2d cc)) (FP.i2d hf))) (FP.i2d vv)))])) _
    exact retOut X4 hx (t := .double) (i := .dreturn) Bd.returns rfl (Or.inr (Or.inr (Or.inl ⟨rfl, rfl, _, rfl⟩))) (hb hby d_prog_34_method_5_code_49) hr
  · show Q_at Z a1 xx cc hf vv t1 kk h0 n0 _ T4.heap _
    rw [e4]
    exact ⟨rfl, N0, rfl⟩
theorem own_hh (q : Int32) : (((q &&& (1048575 : Int32)) + (1 : Int32)) ≠ 0) ∧ ((((q &&& (1048575 : Int32)) + (1 : Int32)) + (1 : Int32)) ≠ 0) := by
  have h1 := c_and q (1048575 : Int32) (by decide)
  rw [show (1048575 : Int32).toInt = 1048575 by decide] at h1
  have h2 := c_iadd (q &&& (1048575 : Int32)) 1
  have h3 := c_iadd ((q &&& (1048575 : Int32)) + (1 : Int32)) 1
  have r2 := rng32 ((q &&& (1048575 : Int32)) + (1 : Int32))
  have r3 := rng32 (((q &&& (1048575 : Int32)) + (1 : Int32)) + (1 : Int32))
  rw [show (1 : Int32).toInt = 1 by decide] at h2 h3
  refine ⟨fun h => ?_, fun h => ?_⟩
  · have := congrArg Int32.toInt h; rw [show (0 : Int32).toInt = 0 by decide] at this; omega
  · have := congrArg Int32.toInt h; rw [show (0 : Int32).toInt = 0 by decide] at this; omega
theorem pd_28DDD29V : parseMethodDescriptor "(DDD)V" = some ⟨[.double, .double, .double], none⟩ := by decide +kernel
theorem pd_28I29D : parseMethodDescriptor "(I)D" = some ⟨[.int], some .double⟩ := by decide +kernel
theorem pn_com_example_tideline_tideline_StepSeriesAtPinLaw : plainName "com/example/tideline/tideline/StepSeriesAtPinLaw" = true := by first | (simp [plainName, overriddenIn]; done) | decide +kernel
theorem ef_law (m : MethodId) (x0 : Int32) (x1 : Int32) (x2 : Int32) (x3 : Int32) (x4 : Int32) : entryFrame m #[(.int x0), (.int x1), (.int x2), (.int x3), (.int x4)] maxLocals = mkF m 0 #[.val (.int x0), .val (.int x1), .val (.int x2), .val (.int x3), .val (.int x4), .unset, .unset, .unset, .unset, .unset, .unset, .unset, .unset] [] := by first | (simp [entryFrame, mkF, argsToLocals, Value.category, maxLocals]; done) | rfl
def Q_law (Z : State) (p1 : Int32) (p2 : Int32) (p3 : Int32) (p4 : Int32) (p5 : Int32) (h0 : Heap) (n0 : Nat) (v : Option Value) (h : Heap) (L : List Loc) : Prop := v = some (.int (1 : Int32)) ∧ Fr n0 L
set_option maxRecDepth 65536 in
set_option maxHeartbeats 40000000 in
theorem rm_law (l : Launch) (Z : State) (a0 : Array Value) (hw : ∀ d ∈ tables_1, d.before a0 Z = true) (ws : List Jvm.Cond) (p1 : Int32) (p2 : Int32) (p3 : Int32) (p4 : Int32) (p5 : Int32) (h0 : Heap) (n0 : Nat) (Z0 : n0 ≤ h0.size)  :
    MetFree l x (head1 (Jvm.Cond.code x code maxLocals ret :: ws) room_1) (fun a U => a = #[(.int p1), (.int p2), (.int p3), (.int p4), (.int p5)] ∧ Z.Warmed39 U.vm ∧ U.heap = h0) (fun _ _ _ _ _ => True) (fun _ U o U' => ∃ v L, o = .returned v ∧ Q_law Z p1 p2 p3 p4 p5 h0 n0 v U'.heap L ∧ FrameEnd U o U' L room_1.cells room_1.slots) := by
  refine MetFree.of_bodySF (plainFor_of_name pn_com_example_tideline_tideline_StepSeriesAtPinLaw) hisR ?_
  intro p e s m args below meth c s₁ Bd hml0 hP hK
  obtain ⟨rfl, hZ, hh⟩ := hP
  have hx := Bd.exec
  have hby := Bd.bytes
  have hml : c.maxLocals = 13 := hml0
  have hown : s.vm.findClass "com/example/tideline/tideline/StepSeriesAtPinLaw" = some m.cls := findClass_of_methodNamed Bd.named
  have hnm := (name_of_methodNamed Bd.named Bd.method).1
  have X0 : Stand p l e room_1 s m #[(.int p1), (.int p2), (.int p3), (.int p4), (.int p5)] below meth c s₁ [] 0 0 := Stand.of_body Bd
  have e0 : s₁.heap = h0 := by rw [← hh, Bd.state]; rfl
  have N0 := Fr.nil n0
  have P0 : Keep h0 h0 [] := Keep.refl _ _
  have pre0 : ∀ t, Steps p.tables e below (s₁.setTop (mkF m 0 #[.val (.int p1), .val (.int p2), .val (.int p3), .val (.int p4), .val (.int p5), .unset, .unset, .unset, .unset, .unset, .unset, .unset, .unset] [])) t → Steps p.tables e below (s₁.setTop (entryFrame m #[(.int p1), (.int p2), (.int p3), (.int p4), (.int p5)] maxLocals)) t := fun t k => castTop (ef_law m p1 p2 p3 p4 p5) k
  obtain ⟨xv, hm1, mg1⟩ : ∃ xv : Int32, (True) ∧ ∀ t, Steps p.tables e below (s₁.setTop (mkF m 79 #[.val (.int p1), .val (.int p2), .val (.int p3), .val (.int p4), .val (.int p5), .val (.int (p2 % (1048576 : Int32))), .val (.int ((p3 &&& (1048575 : Int32)) + (1 : Int32))), .val (.int (p4 % (((p3 &&& (1048575 : Int32)) + (1 : Int32)) + (1 : Int32)))), .val (.int (p5 &&& (3 : Int32))), .val (.int xv), .unset, .unset, .unset] [])) t → Steps p.tables e below (s₁.setTop (mkF m 30 #[.val (.int p1), .val (.int p2), .val (.int p3), .val (.int p4), .val (.int p5), .val (.int (p2 % (1048576 : Int32))), .val (.int ((p3 &&& (1048575 : Int32)) + (1 : Int32))), .val (.int (p4 % (((p3 &&& (1048575 : Int32)) + (1 : Int32)) + (1 : Int32)))), .val (.int (p5 &&& (3 : Int32))), .unset, .unset, .unset, .unset] [(.int (p5 &&& (3 : Int32)))])) t := by
    by_cases hc30 : (p5 &&& (3 : Int32)) = (0 : Int32)
    ·
      refine ⟨((p2 % (1048576 : Int32)) - ((p3 &&& (1048575 : Int32)) + (1 : Int32))), trivial, fun t k => ?_⟩
      show Steps p.tables e below (s₁.setTop (mkF m 30 #[.val (.int p1), .val (.int p2), .val (.int p3), .val (.int p4), .val (.int p5), .val (.int (p2 % (1048576 : Int32))), .val (.int ((p3 &&& (1048575 : Int32)) + (1 : Int32))), .val (.int (p4 % (((p3 &&& (1048575 : Int32)) + (1 : Int32)) + (1 : Int32)))), .val (.int (p5 &&& (3 : Int32))), .unset, .unset, .unset, .unset] [(.int (p5 &&& (3 : Int32)))])) _
      refine XS.ifNo X0.here hx rfl (hb hby at_30) rfl ((if0 _ _).trans (teq (hc30 : (p5 &&& (3 : Int32)) = (0 : Int32))).2) ?_
      show Steps p.tables e below (s₁.setTop (mkF m 33 #[.val (.int p1), .val (.int p2), .val (.int p3), .val (.int p4), .val (.int p5), .val (.int (p2 % (1048576 : Int32))), .val (.int ((p3 &&& (1048575 : Int32)) + (1 : Int32))), .val (.int (p4 % (((p3 &&& (1048575 : Int32)) + (1 : Int32)) + (1 : Int32)))), .val (.int (p5 &&& (3 : Int32))), .unset, .unset, .unset, .unset] [])) _
      refine XS.iload X0.here hx rfl (hb hby at_33) rfl ?_
      show Steps p.tables e below (s₁.setTop (mkF m 35 #[.val (.int p1), .val (.int p2), .val (.int p3), .val (.int p4), .val (.int p5), .val (.int (p2 % (1048576 : Int32))), .val (.int ((p3 &&& (1048575 : Int32)) + (1 : Int32))), .val (.int (p4 % (((p3 &&& (1048575 : Int32)) + (1 : Int32)) + (1 : Int32)))), .val (.int (p5 &&& (3 : Int32))), .unset, .unset, .unset, .unset] [(.int (p2 % (1048576 : Int32)))])) _
      refine XS.iload X0.here hx rfl (hb hby at_35) rfl ?_
      show Steps p.tables e below (s₁.setTop (mkF m 37 #[.val (.int p1), .val (.int p2), .val (.int p3), .val (.int p4), .val (.int p5), .val (.int (p2 % (1048576 : Int32))), .val (.int ((p3 &&& (1048575 : Int32)) + (1 : Int32))), .val (.int (p4 % (((p3 &&& (1048575 : Int32)) + (1 : Int32)) + (1 : Int32)))), .val (.int (p5 &&& (3 : Int32))), .unset, .unset, .unset, .unset] [(.int ((p3 &&& (1048575 : Int32)) + (1 : Int32))), (.int (p2 % (1048576 : Int32)))])) _
      refine XS.isub X0.here hx rfl (hb hby at_37) rfl ?_
      show Steps p.tables e below (s₁.setTop (mkF m 38 #[.val (.int p1), .val (.int p2), .val (.int p3), .val (.int p4), .val (.int p5), .val (.int (p2 % (1048576 : Int32))), .val (.int ((p3 &&& (1048575 : Int32)) + (1 : Int32))), .val (.int (p4 % (((p3 &&& (1048575 : Int32)) + (1 : Int32)) + (1 : Int32)))), .val (.int (p5 &&& (3 : Int32))), .unset, .unset, .unset, .unset] [(.int ((p2 % (1048576 : Int32)) - ((p3 &&& (1048575 : Int32)) + (1 : Int32))))])) _
      refine XS.istore X0.here hx rfl (hb hby at_38) rfl (l' := #[.val (.int p1), .val (.int p2), .val (.int p3), .val (.int p4), .val (.int p5), .val (.int (p2 % (1048576 : Int32))), .val (.int ((p3 &&& (1048575 : Int32)) + (1 : Int32))), .val (.int (p4 % (((p3 &&& (1048575 : Int32)) + (1 : Int32)) + (1 : Int32)))), .val (.int (p5 &&& (3 : Int32))), .val (.int ((p2 % (1048576 : Int32)) - ((p3 &&& (1048575 : Int32)) + (1 : Int32)))), .unset, .unset, .unset]) rfl ?_
      show Steps p.tables e below (s₁.setTop (mkF m 40 #[.val (.int p1), .val (.int p2), .val (.int p3), .val (.int p4), .val (.int p5), .val (.int (p2 % (1048576 : Int32))), .val (.int ((p3 &&& (1048575 : Int32)) + (1 : Int32))), .val (.int (p4 % (((p3 &&& (1048575 : Int32)) + (1 : Int32)) + (1 : Int32)))), .val (.int (p5 &&& (3 : Int32))), .val (.int ((p2 % (1048576 : Int32)) - ((p3 &&& (1048575 : Int32)) + (1 : Int32)))), .unset, .unset, .unset] [])) _
      refine XS.goto X0.here hx rfl (pc0 := 40) (pc' := 79) rfl (hb hby at_40) (by decide) (by decide) ?_
      exact k
    ·
      by_cases hc46 : (p5 &&& (3 : Int32)) = (1 : Int32)
      ·
        refine ⟨((p2 % (1048576 : Int32)) + ((p3 &&& (1048575 : Int32)) + (1 : Int32))), trivial, fun t k => ?_⟩
        show Steps p.tables e below (s₁.setTop (mkF m 30 #[.val (.int p1), .val (.int p2), .val (.int p3), .val (.int p4), .val (.int p5), .val (.int (p2 % (1048576 : Int32))), .val (.int ((p3 &&& (1048575 : Int32)) + (1 : Int32))), .val (.int (p4 % (((p3 &&& (1048575 : Int32)) + (1 : Int32)) + (1 : Int32)))), .val (.int (p5 &&& (3 : Int32))), .unset, .unset, .unset, .unset] [(.int (p5 &&& (3 : Int32)))])) _
        refine XS.ifYes X0.here hx rfl (pc0 := 30) (pc' := 43) rfl (hb hby at_30) rfl ((if0 _ _).trans (feq (hc30 : ¬ ((p5 &&& (3 : Int32)) = (0 : Int32)))).2) (by decide) (by decide) ?_
        show Steps p.tables e below (s₁.setTop (mkF m 43 #[.val (.int p1), .val (.int p2), .val (.int p3), .val (.int p4), .val (.int p5), .val (.int (p2 % (1048576 : Int32))), .val (.int ((p3 &&& (1048575 : Int32)) + (1 : Int32))), .val (.int (p4 % (((p3 &&& (1048575 : Int32)) + (1 : Int32)) + (1 : Int32)))), .val (.int (p5 &&& (3 : Int32))), .unset, .unset, .unset, .unset] [])) _
        refine XS.iload X0.here hx rfl (hb hby at_43) rfl ?_
        show Steps p.tables e below (s₁.setTop (mkF m 45 #[.val (.int p1), .val (.int p2), .val (.int p3), .val (.int p4), .val (.int p5), .val (.int (p2 % (1048576 : Int32))), .val (.int ((p3 &&& (1048575 : Int32)) + (1 : Int32))), .val (.int (p4 % (((p3 &&& (1048575 : Int32)) + (1 : Int32)) + (1 : Int32)))), .val (.int (p5 &&& (3 : Int32))), .unset, .unset, .unset, .unset] [(.int (p5 &&& (3 : Int32)))])) _
        refine XS.iconst X0.here hx rfl (hb hby at_45) ?_
        show Steps p.tables e below (s₁.setTop (mkF m 46 #[.val (.int p1), .val (.int p2), .val (.int p3), .val (.int p4), .val (.int p5), .val (.int (p2 % (1048576 : Int32))), .val (.int ((p3 &&& (1048575 : Int32)) + (1 : Int32))), .val (.int (p4 % (((p3 &&& (1048575 : Int32)) + (1 : Int32)) + (1 : Int32)))), .val (.int (p5 &&& (3 : Int32))), .unset, .unset, .unset, .unset] [(.int (1 : Int32)), (.int (p5 &&& (3 : Int32)))])) _
        refine XS.icmpNo X0.here hx rfl (hb hby at_46) rfl (teq (hc46 : (p5 &&& (3 : Int32)) = (1 : Int32))).2 ?_
        show Steps p.tables e below (s₁.setTop (mkF m 49 #[.val (.int p1), .val (.int p2), .val (.int p3), .val (.int p4), .val (.int p5), .val (.int (p2 % (1048576 : Int32))), .val (.int ((p3 &&& (1048575 : Int32)) + (1 : Int32))), .val (.int (p4 % (((p3 &&& (1048575 : Int32)) + (1 : Int32)) + (1 : Int32)))), .val (.int (p5 &&& (3 : Int32))), .unset, .unset, .unset, .unset] [])) _
        refine XS.iload X0.here hx rfl (hb hby at_49) rfl ?_
        show Steps p.tables e below (s₁.setTop (mkF m 51 #[.val (.int p1), .val (.int p2), .val (.int p3), .val (.int p4), .val (.int p5), .val (.int (p2 % (1048576 : Int32))), .val (.int ((p3 &&& (1048575 : Int32)) + (1 : Int32))), .val (.int (p4 % (((p3 &&& (1048575 : Int32)) + (1 : Int32)) + (1 : Int32)))), .val (.int (p5 &&& (3 : Int32))), .unset, .unset, .unset, .unset] [(.int (p2 % (1048576 : Int32)))])) _
        refine XS.iload X0.here hx rfl (hb hby at_51) rfl ?_
        show Steps p.tables e below (s₁.setTop (mkF m 53 #[.val (.int p1), .val (.int p2), .val (.int p3), .val (.int p4), .val (.int p5), .val (.int (p2 % (1048576 : Int32))), .val (.int ((p3 &&& (1048575 : Int32)) + (1 : Int32))), .val (.int (p4 % (((p3 &&& (1048575 : Int32)) + (1 : Int32)) + (1 : Int32)))), .val (.int (p5 &&& (3 : Int32))), .unset, .unset, .unset, .unset] [(.int ((p3 &&& (1048575 : Int32)) + (1 : Int32))), (.int (p2 % (1048576 : Int32)))])) _
        refine XS.iadd X0.here hx rfl (hb hby at_53) rfl ?_
        show Steps p.tables e below (s₁.setTop (mkF m 54 #[.val (.int p1), .val (.int p2), .val (.int p3), .val (.int p4), .val (.int p5), .val (.int (p2 % (1048576 : Int32))), .val (.int ((p3 &&& (1048575 : Int32)) + (1 : Int32))), .val (.int (p4 % (((p3 &&& (1048575 : Int32)) + (1 : Int32)) + (1 : Int32)))), .val (.int (p5 &&& (3 : Int32))), .unset, .unset, .unset, .unset] [(.int ((p2 % (1048576 : Int32)) + ((p3 &&& (1048575 : Int32)) + (1 : Int32))))])) _
        refine XS.istore X0.here hx rfl (hb hby at_54) rfl (l' := #[.val (.int p1), .val (.int p2), .val (.int p3), .val (.int p4), .val (.int p5), .val (.int (p2 % (1048576 : Int32))), .val (.int ((p3 &&& (1048575 : Int32)) + (1 : Int32))), .val (.int (p4 % (((p3 &&& (1048575 : Int32)) + (1 : Int32)) + (1 : Int32)))), .val (.int (p5 &&& (3 : Int32))), .val (.int ((p2 % (1048576 : Int32)) + ((p3 &&& (1048575 : Int32)) + (1 : Int32)))), .unset, .unset, .unset]) rfl ?_
        show Steps p.tables e below (s₁.setTop (mkF m 56 #[.val (.int p1), .val (.int p2), .val (.int p3), .val (.int p4), .val (.int p5), .val (.int (p2 % (1048576 : Int32))), .val (.int ((p3 &&& (1048575 : Int32)) + (1 : Int32))), .val (.int (p4 % (((p3 &&& (1048575 : Int32)) + (1 : Int32)) + (1 : Int32)))), .val (.int (p5 &&& (3 : Int32))), .val (.int ((p2 % (1048576 : Int32)) + ((p3 &&& (1048575 : Int32)) + (1 : Int32)))), .unset, .unset, .unset] [])) _
        refine XS.goto X0.here hx rfl (pc0 := 56) (pc' := 79) rfl (hb hby at_56) (by decide) (by decide) ?_
        exact k
      ·
        by_cases hc62 : (p5 &&& (3 : Int32)) = (2 : Int32)
        ·
          refine ⟨(p2 % (1048576 : Int32)), trivial, fun t k => ?_⟩
          show Steps p.tables e below (s₁.setTop (mkF m 30 #[.val (.int p1), .val (.int p2), .val (.int p3), .val (.int p4), .val (.int p5), .val (.int (p2 % (1048576 : Int32))), .val (.int ((p3 &&& (1048575 : Int32)) + (1 : Int32))), .val (.int (p4 % (((p3 &&& (1048575 : Int32)) + (1 : Int32)) + (1 : Int32)))), .val (.int (p5 &&& (3 : Int32))), .unset, .unset, .unset, .unset] [(.int (p5 &&& (3 : Int32)))])) _
          refine XS.ifYes X0.here hx rfl (pc0 := 30) (pc' := 43) rfl (hb hby at_30) rfl ((if0 _ _).trans (feq (hc30 : ¬ ((p5 &&& (3 : Int32)) = (0 : Int32)))).2) (by decide) (by decide) ?_
          show Steps p.tables e below (s₁.setTop (mkF m 43 #[.val (.int p1), .val (.int p2), .val (.int p3), .val (.int p4), .val (.int p5), .val (.int (p2 % (1048576 : Int32))), .val (.int ((p3 &&& (1048575 : Int32)) + (1 : Int32))), .val (.int (p4 % (((p3 &&& (1048575 : Int32)) + (1 : Int32)) + (1 : Int32)))), .val (.int (p5 &&& (3 : Int32))), .unset, .unset, .unset, .unset] [])) _
          refine XS.iload X0.here hx rfl (hb hby at_43) rfl ?_
          show Steps p.tables e below (s₁.setTop (mkF m 45 #[.val (.int p1), .val (.int p2), .val (.int p3), .val (.int p4), .val (.int p5), .val (.int (p2 % (1048576 : Int32))), .val (.int ((p3 &&& (1048575 : Int32)) + (1 : Int32))), .val (.int (p4 % (((p3 &&& (1048575 : Int32)) + (1 : Int32)) + (1 : Int32)))), .val (.int (p5 &&& (3 : Int32))), .unset, .unset, .unset, .unset] [(.int (p5 &&& (3 : Int32)))])) _
          refine XS.iconst X0.here hx rfl (hb hby at_45) ?_
          show Steps p.tables e below (s₁.setTop (mkF m 46 #[.val (.int p1), .val (.int p2), .val (.int p3), .val (.int p4), .val (.int p5), .val (.int (p2 % (1048576 : Int32))), .val (.int ((p3 &&& (1048575 : Int32)) + (1 : Int32))), .val (.int (p4 % (((p3 &&& (1048575 : Int32)) + (1 : Int32)) + (1 : Int32)))), .val (.int (p5 &&& (3 : Int32))), .unset, .unset, .unset, .unset] [(.int (1 : Int32)), (.int (p5 &&& (3 : Int32)))])) _
          refine XS.icmpYes X0.here hx rfl (pc0 := 46) (pc' := 59) rfl (hb hby at_46) rfl (feq (hc46 : ¬ ((p5 &&& (3 : Int32)) = (1 : Int32)))).2 (by decide) (by decide) ?_
          show Steps p.tables e below (s₁.setTop (mkF m 59 #[.val (.int p1), .val (.int p2), .val (.int p3), .val (.int p4), .val (.int p5), .val (.int (p2 % (1048576 : Int32))), .val (.int ((p3 &&& (1048575 : Int32)) + (1 : Int32))), .val (.int (p4 % (((p3 &&& (1048575 : Int32)) + (1 : Int32)) + (1 : Int32)))), .val (.int (p5 &&& (3 : Int32))), .unset, .unset, .unset, .unset] [])) _
          refine XS.iload X0.here hx rfl (hb hby at_59) rfl ?_
          show Steps p.tables e below (s₁.setTop (mkF m 61 #[.val (.int p1), .val (.int p2), .val (.int p3), .val (.int p4), .val (.int p5), .val (.int (p2 % (1048576 : Int32))), .val (.int ((p3 &&& (1048575 : Int32)) + (1 : Int32))), .val (.int (p4 % (((p3 &&& (1048575 : Int32)) + (1 : Int32)) + (1 : Int32)))), .val (.int (p5 &&& (3 : Int32))), .unset, .unset, .unset, .unset] [(.int (p5 &&& (3 : Int32)))])) _
          refine XS.iconst X0.here hx rfl (hb hby at_61) ?_
          show Steps p.tables e below (s₁.setTop (mkF m 62 #[.val (.int p1), .val (.int p2), .val (.int p3), .val (.int p4), .val (.int p5), .val (.int (p2 % (1048576 : Int32))), .val (.int ((p3 &&& (1048575 : Int32)) + (1 : Int32))), .val (.int (p4 % (((p3 &&& (1048575 : Int32)) + (1 : Int32)) + (1 : Int32)))), .val (.int (p5 &&& (3 : Int32))), .unset, .unset, .unset, .unset] [(.int (2 : Int32)), (.int (p5 &&& (3 : Int32)))])) _
          refine XS.icmpNo X0.here hx rfl (hb hby at_62) rfl (teq (hc62 : (p5 &&& (3 : Int32)) = (2 : Int32))).2 ?_
          show Steps p.tables e below (s₁.setTop (mkF m 65 #[.val (.int p1), .val (.int p2), .val (.int p3), .val (.int p4), .val (.int p5), .val (.int (p2 % (1048576 : Int32))), .val (.int ((p3 &&& (1048575 : Int32)) + (1 : Int32))), .val (.int (p4 % (((p3 &&& (1048575 : Int32)) + (1 : Int32)) + (1 : Int32)))), .val (.int (p5 &&& (3 : Int32))), .unset, .unset, .unset, .unset] [])) _
          refine XS.iload X0.here hx rfl (hb hby at_65) rfl ?_
          show Steps p.tables e below (s₁.setTop (mkF m 67 #[.val (.int p1), .val (.int p2), .val (.int p3), .val (.int p4), .val (.int p5), .val (.int (p2 % (1048576 : Int32))), .val (.int ((p3 &&& (1048575 : Int32)) + (1 : Int32))), .val (.int (p4 % (((p3 &&& (1048575 : Int32)) + (1 : Int32)) + (1 : Int32)))), .val (.int (p5 &&& (3 : Int32))), .unset, .unset, .unset, .unset] [(.int (p2 % (1048576 : Int32)))])) _
          refine XS.istore X0.here hx rfl (hb hby at_67) rfl (l' := #[.val (.int p1), .val (.int p2), .val (.int p3), .val (.int p4), .val (.int p5), .val (.int (p2 % (1048576 : Int32))), .val (.int ((p3 &&& (1048575 : Int32)) + (1 : Int32))), .val (.int (p4 % (((p3 &&& (1048575 : Int32)) + (1 : Int32)) + (1 : Int32)))), .val (.int (p5 &&& (3 : Int32))), .val (.int (p2 % (1048576 : Int32))), .unset, .unset, .unset]) rfl ?_
          show Steps p.tables e below (s₁.setTop (mkF m 69 #[.val (.int p1), .val (.int p2), .val (.int p3), .val (.int p4), .val (.int p5), .val (.int (p2 % (1048576 : Int32))), .val (.int ((p3 &&& (1048575 : Int32)) + (1 : Int32))), .val (.int (p4 % (((p3 &&& (1048575 : Int32)) + (1 : Int32)) + (1 : Int32)))), .val (.int (p5 &&& (3 : Int32))), .val (.int (p2 % (1048576 : Int32))), .unset, .unset, .unset] [])) _
          refine XS.goto X0.here hx rfl (pc0 := 69) (pc' := 79) rfl (hb hby at_69) (by decide) (by decide) ?_
          exact k
        ·
          refine ⟨((p2 % (1048576 : Int32)) + (p4 % (((p3 &&& (1048575 : Int32)) + (1 : Int32)) + (1 : Int32)))), trivial, fun t k => ?_⟩
          show Steps p.tables e below (s₁.setTop (mkF m 30 #[.val (.int p1), .val (.int p2), .val (.int p3), .val (.int p4), .val (.int p5), .val (.int (p2 % (1048576 : Int32))), .val (.int ((p3 &&& (1048575 : Int32)) + (1 : Int32))), .val (.int (p4 % (((p3 &&& (1048575 : Int32)) + (1 : Int32)) + (1 : Int32)))), .val (.int (p5 &&& (3 : Int32))), .unset, .unset, .unset, .unset] [(.int (p5 &&& (3 : Int32)))])) _
          refine XS.ifYes X0.here hx rfl (pc0 := 30) (pc' := 43) rfl (hb hby at_30) rfl ((if0 _ _).trans (feq (hc30 : ¬ ((p5 &&& (3 : Int32)) = (0 : Int32)))).2) (by decide) (by decide) ?_
          show Steps p.tables e below (s₁.setTop (mkF m 43 #[.val (.int p1), .val (.int p2), .val (.int p3), .val (.int p4), .val (.int p5), .val (.int (p2 % (1048576 : Int32))), .val (.int ((p3 &&& (1048575 : Int32)) + (1 : Int32))), .val (.int (p4 % (((p3 &&& (1048575 : Int32)) + (1 : Int32)) + (1 : Int32)))), .val (.int (p5 &&& (3 : Int32))), .unset, .unset, .unset, .unset] [])) _
          refine XS.iload X0.here hx rfl (hb hby at_43) rfl ?_
          show Steps p.tables e below (s₁.setTop (mkF m 45 #[.val (.int p1), .val (.int p2), .val (.int p3), .val (.int p4), .val (.int p5), .val (.int (p2 % (1048576 : Int32))), .val (.int ((p3 &&& (1048575 : Int32)) + (1 : Int32))), .val (.int (p4 % (((p3 &&& (1048575 : Int32)) + (1 : Int32)) + (1 : Int32)))), .val (.int (p5 &&& (3 : Int32))), .unset, .unset, .unset, .unset] [(.int (p5 &&& (3 : Int32)))])) _
          refine XS.iconst X0.here hx rfl (hb hby at_45) ?_
          show Steps p.tables e below (s₁.setTop (mkF m 46 #[.val (.int p1), .val (.int p2), .val (.int p3), .val (.int p4), .val (.int p5), .val (.int (p2 % (1048576 : Int32))), .val (.int ((p3 &&& (1048575 : Int32)) + (1 : Int32))), .val (.int (p4 % (((p3 &&& (1048575 : Int32)) + (1 : Int32)) + (1 : Int32)))), .val (.int (p5 &&& (3 : Int32))), .unset, .unset, .unset, .unset] [(.int (1 : Int32)), (.int (p5 &&& (3 : Int32)))])) _
          refine XS.icmpYes X0.here hx rfl (pc0 := 46) (pc' := 59) rfl (hb hby at_46) rfl (feq (hc46 : ¬ ((p5 &&& (3 : Int32)) = (1 : Int32)))).2 (by decide) (by decide) ?_
          show Steps p.tables e below (s₁.setTop (mkF m 59 #[.val (.int p1), .val (.int p2), .val (.int p3), .val (.int p4), .val (.int p5), .val (.int (p2 % (1048576 : Int32))), .val (.int ((p3 &&& (1048575 : Int32)) + (1 : Int32))), .val (.int (p4 % (((p3 &&& (1048575 : Int32)) + (1 : Int32)) + (1 : Int32)))), .val (.int (p5 &&& (3 : Int32))), .unset, .unset, .unset, .unset] [])) _
          refine XS.iload X0.here hx rfl (hb hby at_59) rfl ?_
          show Steps p.tables e below (s₁.setTop (mkF m 61 #[.val (.int p1), .val (.int p2), .val (.int p3), .val (.int p4), .val (.int p5), .val (.int (p2 % (1048576 : Int32))), .val (.int ((p3 &&& (1048575 : Int32)) + (1 : Int32))), .val (.int (p4 % (((p3 &&& (1048575 : Int32)) + (1 : Int32)) + (1 : Int32)))), .val (.int (p5 &&& (3 : Int32))), .unset, .unset, .unset, .unset] [(.int (p5 &&& (3 : Int32)))])) _
          refine XS.iconst X0.here hx rfl (hb hby at_61) ?_
          show Steps p.tables e below (s₁.setTop (mkF m 62 #[.val (.int p1), .val (.int p2), .val (.int p3), .val (.int p4), .val (.int p5), .val (.int (p2 % (1048576 : Int32))), .val (.int ((p3 &&& (1048575 : Int32)) + (1 : Int32))), .val (.int (p4 % (((p3 &&& (1048575 : Int32)) + (1 : Int32)) + (1 : Int32)))), .val (.int (p5 &&& (3 : Int32))), .unset, .unset, .unset, .unset] [(.int (2 : Int32)), (.int (p5 &&& (3 : Int32)))])) _
          refine XS.icmpYes X0.here hx rfl (pc0 := 62) (pc' := 72) rfl (hb hby at_62) rfl (feq (hc62 : ¬ ((p5 &&& (3 : Int32)) = (2 : Int32)))).2 (by decide) (by decide) ?_
          show Steps p.tables e below (s₁.setTop (mkF m 72 #[.val (.int p1), .val (.int p2), .val (.int p3), .val (.int p4), .val (.int p5), .val (.int (p2 % (1048576 : Int32))), .val (.int ((p3 &&& (1048575 : Int32)) + (1 : Int32))), .val (.int (p4 % (((p3 &&& (1048575 : Int32)) + (1 : Int32)) + (1 : Int32)))), .val (.int (p5 &&& (3 : Int32))), .unset, .unset, .unset, .unset] [])) _
          refine XS.iload X0.here hx rfl (hb hby at_72) rfl ?_
          show Steps p.tables e below (s₁.setTop (mkF m 74 #[.val (.int p1), .val (.int p2), .val (.int p3), .val (.int p4), .val (.int p5), .val (.int (p2 % (1048576 : Int32))), .val (.int ((p3 &&& (1048575 : Int32)) + (1 : Int32))), .val (.int (p4 % (((p3 &&& (1048575 : Int32)) + (1 : Int32)) + (1 : Int32)))), .val (.int (p5 &&& (3 : Int32))), .unset, .unset, .unset, .unset] [(.int (p2 % (1048576 : Int32)))])) _
          refine XS.iload X0.here hx rfl (hb hby at_74) rfl ?_
          show Steps p.tables e below (s₁.setTop (mkF m 76 #[.val (.int p1), .val (.int p2), .val (.int p3), .val (.int p4), .val (.int p5), .val (.int (p2 % (1048576 : Int32))), .val (.int ((p3 &&& (1048575 : Int32)) + (1 : Int32))), .val (.int (p4 % (((p3 &&& (1048575 : Int32)) + (1 : Int32)) + (1 : Int32)))), .val (.int (p5 &&& (3 : Int32))), .unset, .unset, .unset, .unset] [(.int (p4 % (((p3 &&& (1048575 : Int32)) + (1 : Int32)) + (1 : Int32)))), (.int (p2 % (1048576 : Int32)))])) _
          refine XS.iadd X0.here hx rfl (hb hby at_76) rfl ?_
          show Steps p.tables e below (s₁.setTop (mkF m 77 #[.val (.int p1), .val (.int p2), .val (.int p3), .val (.int p4), .val (.int p5), .val (.int (p2 % (1048576 : Int32))), .val (.int ((p3 &&& (1048575 : Int32)) + (1 : Int32))), .val (.int (p4 % (((p3 &&& (1048575 : Int32)) + (1 : Int32)) + (1 : Int32)))), .val (.int (p5 &&& (3 : Int32))), .unset, .unset, .unset, .unset] [(.int ((p2 % (1048576 : Int32)) + (p4 % (((p3 &&& (1048575 : Int32)) + (1 : Int32)) + (1 : Int32)))))])) _
          refine XS.istore X0.here hx rfl (hb hby at_77) rfl (l' := #[.val (.int p1), .val (.int p2), .val (.int p3), .val (.int p4), .val (.int p5), .val (.int (p2 % (1048576 : Int32))), .val (.int ((p3 &&& (1048575 : Int32)) + (1 : Int32))), .val (.int (p4 % (((p3 &&& (1048575 : Int32)) + (1 : Int32)) + (1 : Int32)))), .val (.int (p5 &&& (3 : Int32))), .val (.int ((p2 % (1048576 : Int32)) + (p4 % (((p3 &&& (1048575 : Int32)) + (1 : Int32)) + (1 : Int32))))), .unset, .unset, .unset]) rfl ?_
          exact k
  obtain ⟨T2, h2, X2, e2, E2, A2, D2, -, st2⟩ := newO X0 hx hZ hown (hw _ (List.mem_of_getElem? (i := 2) rfl)) (hw _ (List.mem_of_getElem? (i := 3) rfl)) (hw _ (List.mem_of_getElem? (i := 4) rfl)) e0 (g := (mkF m 83 #[.val (.int p1), .val (.int p2), .val (.int p3), .val (.int p4), .val (.int p5), .val (.int (p2 % (1048576 : Int32))), .val (.int ((p3 &&& (1048575 : Int32)) + (1 : Int32))), .val (.int (p4 % (((p3 &&& (1048575 : Int32)) + (1 : Int32)) + (1 : Int32)))), .val (.int (p5 &&& (3 : Int32))), .val (.int xv), .val (.double (FP.i2d p1)), .second, .unset] [])) rfl (hb hby at_83) (by decide) (by decide)
  obtain ⟨bs, g2⟩ : ∃ z, z = h0.size := ⟨_, rfl⟩
  rw [← g2] at A2 D2 st2
  have ge_bs : n0 ≤ bs := Nat.le_trans (Nat.le_trans Z0 P0.1) (Nat.le_of_eq g2.symm)
  have sz_bs : h0.size ≤ bs := Nat.le_trans P0.1 (Nat.le_of_eq g2.symm)
  have P3 : Keep h0 h2 [] := P0.ext E2
  have F4 : Fld Z h2 bs "com/example/tideline/tideline/StepSeries" "center" "D" (.double (0 : UInt64)) := D2 (Or.inr (hw _ (List.mem_of_getElem? (i := 16) rfl))) (ty := .double) (by decide)
  have F5 : Fld Z h2 bs "com/example/tideline/tideline/StepSeries" "half" "D" (.double (0 : UInt64)) := D2 (Or.inr (hw _ (List.mem_of_getElem? (i := 18) rfl))) (ty := .double) (by decide)
  have F6 : Fld Z h2 bs "com/example/tideline/tideline/StepSeries" "terms" "[D" .null := D2 (Or.inr (hw _ (List.mem_of_getElem? (i := 20) rfl))) (ty := (.array .double)) (by decide)
  have F7 : Fld Z h2 bs "com/example/tideline/tideline/StepSeries" "highest" "I" (.int (0 : Int32)) := D2 (Or.inl (hw _ (List.mem_of_getElem? (i := 22) rfl))) (ty := .int) (by decide)
  obtain ⟨_, _, ⟨T8, L8, k8, n8⟩, -, X8, ⟨Lc8, hQ8, l8, y8, z8⟩, st8⟩ := X2.specialBack hx (y := (⟨"com/example/tideline/tideline/StepSeries", "<init>", "(DDD)V"⟩ : MethodName)) rfl hown (mvT hZ (hw _ (List.mem_of_getElem? (i := 5) rfl))) (mvT hZ (hw _ (List.mem_of_getElem? (i := 6) rfl))) (mvT hZ (hw _ (List.mem_of_getElem? (i := 7) rfl))) (by decide) (backOf (W := 1) (rm_in3 l Z a0 hw [] bs (FP.i2d (p2 % (1048576 : Int32))) (FP.i2d ((p3 &&& (1048575 : Int32)) + (1 : Int32))) (FP.i2d p1) (.double (0 : UInt64)) (.double (0 : UInt64)) .null (.int (0 : Int32)) h2 n0 (Nat.le_trans Z0 P3.1) A2 F4 F5 F6 F7 ge_bs) hZ (hw _ (List.mem_of_getElem? (i := 7) rfl)) (hw _ (List.mem_of_getElem? (i := 4) rfl)) (by decide) (by decide)) (g := (mkF m 95 #[.val (.int p1), .val (.int p2), .val (.int p3), .val (.int p4), .val (.int p5), .val (.int (p2 % (1048576 : Int32))), .val (.int ((p3 &&& (1048575 : Int32)) + (1 : Int32))), .val (.int (p4 % (((p3 &&& (1048575 : Int32)) + (1 : Int32)) + (1 : Int32)))), .val (.int (p5 &&& (3 : Int32))), .val (.int xv), .val (.double (FP.i2d p1)), .second, .unset] [(.double (FP.i2d p1)), (.double (FP.i2d ((p3 &&& (1048575 : Int32)) + (1 : Int32)))), (.double (FP.i2d (p2 % (1048576 : Int32)))), (.ref bs), (.ref bs)])) rfl (by rw [hml]; rfl) (Steps.refl _) (a := bs) (argsL := [(.double (FP.i2d (p2 % (1048576 : Int32)))), (.double (FP.i2d ((p3 &&& (1048575 : Int32)) + (1 : Int32)))), (.double (FP.i2d p1))]) (rest := [(.ref bs)]) (lenOf pd_28DDD29V rfl) rfl (by show 2 * 0 + _ ≤ _; exact Nat.le_of_eq rfl) (hb hby at_95) (fun _ _ => ⟨rfl, e2, (by decide : 1 + 1 ≤ _), (by decide : 4 + 32 ≤ _)⟩)
  dsimp only [Pt.U, Pt.locs, Pt.cells, Pt.slots] at X8 l8 y8 z8 st8 hQ8
  subst l8 y8 z8
  obtain ⟨bt, kk, rfl, N8q, K8, r8_0, r8_1, r8_2, r8_3, r8_4, r8_5, r8_6, r8_7⟩ := hQ8
  have N8 := Fr.app N0 N8q
  have ne_bs_bt : bs ≠ bt := Nat.ne_of_lt (Nat.lt_of_lt_of_le A2.lt r8_0)
  have ge_bt : n0 ≤ bt := Nat.le_trans (Nat.le_trans Z0 P3.1) r8_0
  have sz_bt : h0.size ≤ bt := Nat.le_trans P3.1 r8_0
  have P9 : Keep h0 T8.heap [] := P3.trans K8 (allS (Or.inr sz_bs) all0)
  obtain ⟨cq10, kq10, q10a, q10b, q10c⟩ := isOf hZ rfl r8_2
  obtain ⟨_, _, ⟨T10, L10, k10, n10⟩, -, X10, ⟨Lc10, hQ10, l10, y10, z10⟩, st10⟩ := X8.virtualBack hx (y := (⟨"com/example/tideline/tideline/StepSeries", "at", "(I)D"⟩ : MethodName)) (z := (⟨"com/example/tideline/tideline/StepSeries", "at", "(I)D"⟩ : MethodName)) hown (mvT hZ (hw _ (List.mem_of_getElem? (i := 23) rfl))) (mvT hZ (hw _ (List.mem_of_getElem? (i := 24) rfl))) (notFace_of_selects (args := #[]) (mvT hZ (hw _ (List.mem_of_getElem? (i := 26) rfl)))) (mvT hZ (hw _ (List.mem_of_getElem? (i := 26) rfl))) (mvT hZ (hw _ (List.mem_of_getElem? (i := 25) rfl))) (by decide) (backOf (W := 0) (rm_at l Z a0 hw [] bs xv (p2 % (1048576 : Int32)) ((p3 &&& (1048575 : Int32)) + (1 : Int32)) p1 bt kk T8.heap n0 (Nat.le_trans Z0 P9.1) r8_3 r8_4 r8_5 r8_6 r8_7 (own_fin xv (p2 % (1048576 : Int32)) (own_hh p3).1)) hZ (hw _ (List.mem_of_getElem? (i := 27) rfl)) (hw _ (List.mem_of_getElem? (i := 4) rfl)) (by decide) (by decide)) q10a q10c (g := (mkF m 104 #[.val (.int p1), .val (.int p2), .val (.int p3), .val (.int p4), .val (.int p5), .val (.int (p2 % (1048576 : Int32))), .val (.int ((p3 &&& (1048575 : Int32)) + (1 : Int32))), .val (.int (p4 % (((p3 &&& (1048575 : Int32)) + (1 : Int32)) + (1 : Int32)))), .val (.int (p5 &&& (3 : Int32))), .val (.int xv), .val (.double (FP.i2d p1)), .second, .val (.ref bs)] [(.int xv), (.ref bs)])) rfl (by rw [hml]; rfl) (Steps.refl _) (argsL := [(.int xv)]) (rest := []) (lenOf pd_28I29D rfl) rfl (by show 2 * 0 + _ ≤ _; exact Nat.le_of_eq rfl) (hb hby at_104) (fun _ _ => ⟨rfl, rfl, (by decide : 2 + 0 ≤ _), (by decide : 36 + 0 ≤ _)⟩)
  dsimp only [Pt.U, Pt.locs, Pt.cells, Pt.slots] at X10 l10 y10 z10 st10 hQ10
  subst l10 y10 z10
  obtain ⟨rfl, N10q, e10⟩ := hQ10
  have N10 := Fr.app N8 N10q
  obtain ⟨fs, hr, hrun, hended, hW, hsame⟩ := X10.leave (v := some (.int (1 : Int32))) (fun h => by rw [Bd.returns] at h; cases h)
  refine ⟨_, _, pre0 _ ?_, hrun, hended, _, _, rfl, ?_, ⟨_, rfl⟩, hW, hsame.mono (by decide) (by decide)⟩
  · show Steps p.tables e below (s₁.setTop (mkF m 0 #[.val (.int p1), .val (.int p2), .val (.int p3), .val (.int p4), .val (.int p5), .unset, .unset, .unset, .unset, .unset, .unset, .unset, .unset] [])) _
    refine XS.iloadN X0.here hx rfl (hb hby at_0) rfl ?_
    show Steps p.tables e below (s₁.setTop (mkF m 1 #[.val (.int p1), .val (.int p2), .val (.int p3), .val (.int p4), .val (.int p5), .unset, .unset, .unset, .unset, .unset, .unset, .unset, .unset] [(.int p2)])) _
    refine X0.ldcInt hx hown (mvT hZ (hw _ (List.mem_of_getElem? (i := 0) rfl))) (g := (mkF m 1 #[.val (.int p1), .val (.int p2), .val (.int p3), .val (.int p4), .val (.int p5), .unset, .unset, .unset, .unset, .unset, .unset, .unset, .unset] [(.int p2)])) rfl (hb hby at_1) _ ?_
    show Steps p.tables e below (s₁.setTop (mkF m 3 #[.val (.int p1), .val (.int p2), .val (.int p3), .val (.int p4), .val (.int p5), .unset, .unset, .unset, .unset, .unset, .unset, .unset, .unset] [(.int (1048576 : Int32)), (.int p2)])) _
    refine iremM X0 hx (g := (mkF m 3 #[.val (.int p1), .val (.int p2), .val (.int p3), .val (.int p4), .val (.int p5), .unset, .unset, .unset, .unset, .unset, .unset, .unset, .unset] [(.int (1048576 : Int32)), (.int p2)])) rfl (hb hby at_3) rfl (by decide) ?_
    show Steps p.tables e below (s₁.setTop (mkF m 4 #[.val (.int p1), .val (.int p2), .val (.int p3), .val (.int p4), .val (.int p5), .unset, .unset, .unset, .unset, .unset, .unset, .unset, .unset] [(.int (p2 % (1048576 : Int32)))])) _
    refine XS.istore X0.here hx rfl (hb hby at_4) rfl (l' := #[.val (.int p1), .val (.int p2), .val (.int p3), .val (.int p4), .val (.int p5), .val (.int (p2 % (1048576 : Int32))), .unset, .unset, .unset, .unset, .unset, .unset, .unset]) rfl ?_
    show Steps p.tables e below (s₁.setTop (mkF m 6 #[.val (.int p1), .val (.int p2), .val (.int p3), .val (.int p4), .val (.int p5), .val (.int (p2 % (1048576 : Int32))), .unset, .unset, .unset, .unset, .unset, .unset, .unset] [])) _
    refine XS.iloadN X0.here hx rfl (hb hby at_6) rfl ?_
    show Steps p.tables e below (s₁.setTop (mkF m 7 #[.val (.int p1), .val (.int p2), .val (.int p3), .val (.int p4), .val (.int p5), .val (.int (p2 % (1048576 : Int32))), .unset, .unset, .unset, .unset, .unset, .unset, .unset] [(.int p3)])) _
    refine X0.ldcInt hx hown (mvT hZ (hw _ (List.mem_of_getElem? (i := 1) rfl))) (g := (mkF m 7 #[.val (.int p1), .val (.int p2), .val (.int p3), .val (.int p4), .val (.int p5), .val (.int (p2 % (1048576 : Int32))), .unset, .unset, .unset, .unset, .unset, .unset, .unset] [(.int p3)])) rfl (hb hby at_7) _ ?_
    show Steps p.tables e below (s₁.setTop (mkF m 9 #[.val (.int p1), .val (.int p2), .val (.int p3), .val (.int p4), .val (.int p5), .val (.int (p2 % (1048576 : Int32))), .unset, .unset, .unset, .unset, .unset, .unset, .unset] [(.int (1048575 : Int32)), (.int p3)])) _
    refine XS.iand X0.here hx rfl (hb hby at_9) rfl ?_
    show Steps p.tables e below (s₁.setTop (mkF m 10 #[.val (.int p1), .val (.int p2), .val (.int p3), .val (.int p4), .val (.int p5), .val (.int (p2 % (1048576 : Int32))), .unset, .unset, .unset, .unset, .unset, .unset, .unset] [(.int (p3 &&& (1048575 : Int32)))])) _
    refine XS.iconst X0.here hx rfl (hb hby at_10) ?_
    show Steps p.tables e below (s₁.setTop (mkF m 11 #[.val (.int p1), .val (.int p2), .val (.int p3), .val (.int p4), .val (.int p5), .val (.int (p2 % (1048576 : Int32))), .unset, .unset, .unset, .unset, .unset, .unset, .unset] [(.int (1 : Int32)), (.int (p3 &&& (1048575 : Int32)))])) _
    refine XS.iadd X0.here hx rfl (hb hby at_11) rfl ?_
    show Steps p.tables e below (s₁.setTop (mkF m 12 #[.val (.int p1), .val (.int p2), .val (.int p3), .val (.int p4), .val (.int p5), .val (.int (p2 % (1048576 : Int32))), .unset, .unset, .unset, .unset, .unset, .unset, .unset] [(.int ((p3 &&& (1048575 : Int32)) + (1 : Int32)))])) _
    refine XS.istore X0.here hx rfl (hb hby at_12) rfl (l' := #[.val (.int p1), .val (.int p2), .val (.int p3), .val (.int p4), .val (.int p5), .val (.int (p2 % (1048576 : Int32))), .val (.int ((p3 &&& (1048575 : Int32)) + (1 : Int32))), .unset, .unset, .unset, .unset, .unset, .unset]) rfl ?_
    show Steps p.tables e below (s₁.setTop (mkF m 14 #[.val (.int p1), .val (.int p2), .val (.int p3), .val (.int p4), .val (.int p5), .val (.int (p2 % (1048576 : Int32))), .val (.int ((p3 &&& (1048575 : Int32)) + (1 : Int32))), .unset, .unset, .unset, .unset, .unset, .unset] [])) _
    refine XS.iloadN X0.here hx rfl (hb hby at_14) rfl ?_
    show Steps p.tables e below (s₁.setTop (mkF m 15 #[.val (.int p1), .val (.int p2), .val (.int p3), .val (.int p4), .val (.int p5), .val (.int (p2 % (1048576 : Int32))), .val (.int ((p3 &&& (1048575 : Int32)) + (1 : Int32))), .unset, .unset, .unset, .unset, .unset, .unset] [(.int p4)])) _
    refine XS.iload X0.here hx rfl (hb hby at_15) rfl ?_
    show Steps p.tables e below (s₁.setTop (mkF m 17 #[.val (.int p1), .val (.int p2), .val (.int p3), .val (.int p4), .val (.int p5), .val (.int (p2 % (1048576 : Int32))), .val (.int ((p3 &&& (1048575 : Int32)) + (1 : Int32))), .unset, .unset, .unset, .unset, .unset, .unset] [(.int ((p3 &&& (1048575 : Int32)) + (1 : Int32))), (.int p4)])) _
    refine XS.iconst X0.here hx rfl (hb hby at_17) ?_
    show Steps p.tables e below (s₁.setTop (mkF m 18 #[.val (.int p1), .val (.int p2), .val (.int p3), .val (.int p4), .val (.int p5), .val (.int (p2 % (1048576 : Int32))), .val (.int ((p3 &&& (1048575 : Int32)) + (1 : Int32))), .unset, .unset, .unset, .unset, .unset, .unset] [(.int (1 : Int32)), (.int ((p3 &&& (1048575 : Int32)) + (1 : Int32))), (.int p4)])) _
    refine XS.iadd X0.here hx rfl (hb hby at_18) rfl ?_
    show Steps p.tables e below (s₁.setTop (mkF m 19 #[.val (.int p1), .val (.int p2), .val (.int p3), .val (.int p4), .val (.int p5), .val (.int (p2 % (1048576 : Int32))), .val (.int ((p3 &&& (1048575 : Int32)) + (1 : Int32))), .unset, .unset, .unset, .unset, .unset, .unset] [(.int (((p3 &&& (1048575 : Int32)) + (1 : Int32)) + (1 : Int32))), (.int p4)])) _
    refine iremM X0 hx (g := (mkF m 19 #[.val (.int p1), .val (.int p2), .val (.int p3), .val (.int p4), .val (.int p5), .val (.int (p2 % (1048576 : Int32))), .val (.int ((p3 &&& (1048575 : Int32)) + (1 : Int32))), .unset, .unset, .unset, .unset, .unset, .unset] [(.int (((p3 &&& (1048575 : Int32)) + (1 : Int32)) + (1 : Int32))), (.int p4)])) rfl (hb hby at_19) rfl (own_hh p3).2 ?_
    show Steps p.tables e below (s₁.setTop (mkF m 20 #[.val (.int p1), .val (.int p2), .val (.int p3), .val (.int p4), .val (.int p5), .val (.int (p2 % (1048576 : Int32))), .val (.int ((p3 &&& (1048575 : Int32)) + (1 : Int32))), .unset, .unset, .unset, .unset, .unset, .unset] [(.int (p4 % (((p3 &&& (1048575 : Int32)) + (1 : Int32)) + (1 : Int32))))])) _
    refine XS.istore X0.here hx rfl (hb hby at_20) rfl (l' := #[.val (.int p1), .val (.int p2), .val (.int p3), .val (.int p4), .val (.int p5), .val (.int (p2 % (1048576 : Int32))), .val (.int ((p3 &&& (1048575 : Int32)) + (1 : Int32))), .val (.int (p4 % (((p3 &&& (1048575 : Int32)) + (1 : Int32)) + (1 : Int32)))), .unset, .unset, .unset, .unset, .unset]) rfl ?_
    show Steps p.tables e below (s₁.setTop (mkF m 22 #[.val (.int p1), .val (.int p2), .val (.int p3), .val (.int p4), .val (.int p5), .val (.int (p2 % (1048576 : Int32))), .val (.int ((p3 &&& (1048575 : Int32)) + (1 : Int32))), .val (.int (p4 % (((p3 &&& (1048575 : Int32)) + (1 : Int32)) + (1 : Int32)))), .unset, .unset, .unset, .unset, .unset] [])) _
    refine XS.iload X0.here hx rfl (hb hby at_22) rfl ?_
    show Steps p.tables e below (s₁.setTop (mkF m 24 #[.val (.int p1), .val (.int p2), .val (.int p3), .val (.int p4), .val (.int p5), .val (.int (p2 % (1048576 : Int32))), .val (.int ((p3 &&& (1048575 : Int32)) + (1 : Int32))), .val (.int (p4 % (((p3 &&& (1048575 : Int32)) + (1 : Int32)) + (1 : Int32)))), .unset, .unset, .unset, .unset, .unset] [(.int p5)])) _
    refine XS.iconst X0.here hx rfl (hb hby at_24) ?_
    show Steps p.tables e below (s₁.setTop (mkF m 25 #[.val (.int p1), .val (.int p2), .val (.int p3), .val (.int p4), .val (.int p5), .val (.int (p2 % (1048576 : Int32))), .val (.int ((p3 &&& (1048575 : Int32)) + (1 : Int32))), .val (.int (p4 % (((p3 &&& (1048575 : Int32)) + (1 : Int32)) + (1 : Int32)))), .unset, .unset, .unset, .unset, .unset] [(.int (3 : Int32)), (.int p5)])) _
    refine XS.iand X0.here hx rfl (hb hby at_25) rfl ?_
    show Steps p.tables e below (s₁.setTop (mkF m 26 #[.val (.int p1), .val (.int p2), .val (.int p3), .val (.int p4), .val (.int p5), .val (.int (p2 % (1048576 : Int32))), .val (.int ((p3 &&& (1048575 : Int32)) + (1 : Int32))), .val (.int (p4 % (((p3 &&& (1048575 : Int32)) + (1 : Int32)) + (1 : Int32)))), .unset, .unset, .unset, .unset, .unset] [(.int (p5 &&& (3 : Int32)))])) _
    refine XS.istore X0.here hx rfl (hb hby at_26) rfl (l' := #[.val (.int p1), .val (.int p2), .val (.int p3), .val (.int p4), .val (.int p5), .val (.int (p2 % (1048576 : Int32))), .val (.int ((p3 &&& (1048575 : Int32)) + (1 : Int32))), .val (.int (p4 % (((p3 &&& (1048575 : Int32)) + (1 : Int32)) + (1 : Int32)))), .val (.int (p5 &&& (3 : Int32))), .unset, .unset, .unset, .unset]) rfl ?_
    show Steps p.tables e below (s₁.setTop (mkF m 28 #[.val (.int p1), .val (.int p2), .val (.int p3), .val (.int p4), .val (.int p5), .val (.int (p2 % (1048576 : Int32))), .val (.int ((p3 &&& (1048575 : Int32)) + (1 : Int32))), .val (.int (p4 % (((p3 &&& (1048575 : Int32)) + (1 : Int32)) + (1 : Int32)))), .val (.int (p5 &&& (3 : Int32))), .unset, .unset, .unset, .unset] [])) _
    refine XS.iload X0.here hx rfl (hb hby at_28) rfl ?_
    show Steps p.tables e below (s₁.setTop (mkF m 30 #[.val (.int p1), .val (.int p2), .val (.int p3), .val (.int p4), .val (.int p5), .val (.int (p2 % (1048576 : Int32))), .val (.int ((p3 &&& (1048575 : Int32)) + (1 : Int32))), .val (.int (p4 % (((p3 &&& (1048575 : Int32)) + (1 : Int32)) + (1 : Int32)))), .val (.int (p5 &&& (3 : Int32))), .unset, .unset, .unset, .unset] [(.int (p5 &&& (3 : Int32)))])) _
    refine mg1 _ ?_
    show Steps p.tables e below (s₁.setTop (mkF m 79 #[.val (.int p1), .val (.int p2), .val (.int p3), .val (.int p4), .val (.int p5), .val (.int (p2 % (1048576 : Int32))), .val (.int ((p3 &&& (1048575 : Int32)) + (1 : Int32))), .val (.int (p4 % (((p3 &&& (1048575 : Int32)) + (1 : Int32)) + (1 : Int32)))), .val (.int (p5 &&& (3 : Int32))), .val (.int xv), .unset, .unset, .unset] [])) _
    refine XS.iloadN X0.here hx rfl (hb hby at_79) rfl ?_
    show Steps p.tables e below (s₁.setTop (mkF m 80 #[.val (.int p1), .val (.int p2), .val (.int p3), .val (.int p4), .val (.int p5), .val (.int (p2 % (1048576 : Int32))), .val (.int ((p3 &&& (1048575 : Int32)) + (1 : Int32))), .val (.int (p4 % (((p3 &&& (1048575 : Int32)) + (1 : Int32)) + (1 : Int32)))), .val (.int (p5 &&& (3 : Int32))), .val (.int xv), .unset, .unset, .unset] [(.int p1)])) _
    refine XS.i2dS X0.here hx rfl (hb hby at_80) rfl rfl ?_
    show Steps p.tables e below (s₁.setTop (mkF m 81 #[.val (.int p1), .val (.int p2), .val (.int p3), .val (.int p4), .val (.int p5), .val (.int (p2 % (1048576 : Int32))), .val (.int ((p3 &&& (1048575 : Int32)) + (1 : Int32))), .val (.int (p4 % (((p3 &&& (1048575 : Int32)) + (1 : Int32)) + (1 : Int32)))), .val (.int (p5 &&& (3 : Int32))), .val (.int xv), .unset, .unset, .unset] [(.double (FP.i2d p1))])) _
    refine XS.dstore X0.here hx rfl (hb hby at_81) rfl (l' := #[.val (.int p1), .val (.int p2), .val (.int p3), .val (.int p4), .val (.int p5), .val (.int (p2 % (1048576 : Int32))), .val (.int ((p3 &&& (1048575 : Int32)) + (1 : Int32))), .val (.int (p4 % (((p3 &&& (1048575 : Int32)) + (1 : Int32)) + (1 : Int32)))), .val (.int (p5 &&& (3 : Int32))), .val (.int xv), .val (.double (FP.i2d p1)), .second, .unset]) rfl ?_
    show Steps p.tables e below (s₁.setTop (mkF m 83 #[.val (.int p1), .val (.int p2), .val (.int p3), .val (.int p4), .val (.int p5), .val (.int (p2 % (1048576 : Int32))), .val (.int ((p3 &&& (1048575 : Int32)) + (1 : Int32))), .val (.int (p4 % (((p3 &&& (1048575 : Int32)) + (1 : Int32)) + (1 : Int32)))), .val (.int (p5 &&& (3 : Int32))), .val (.int xv), .val (.double (FP.i2d p1)), .second, .unset] [])) _
    refine st2 _ ?_
    show Steps p.tables e below (T2.setTop (mkF m 86 #[.val (.int p1), .val (.int p2), .val (.int p3), .val (.int p4), .val (.int p5), .val (.int (p2 % (1048576 : Int32))), .val (.int ((p3 &&& (1048575 : Int32)) + (1 : Int32))), .val (.int (p4 % (((p3 &&& (1048575 : Int32)) + (1 : Int32)) + (1 : Int32)))), .val (.int (p5 &&& (3 : Int32))), .val (.int xv), .val (.double (FP.i2d p1)), .second, .unset] [(.ref bs)])) _
    refine XS.dup X2.here hx rfl (hb hby at_86) rfl rfl ?_
    show Steps p.tables e below (T2.setTop (mkF m 87 #[.val (.int p1), .val (.int p2), .val (.int p3), .val (.int p4), .val (.int p5), .val (.int (p2 % (1048576 : Int32))), .val (.int ((p3 &&& (1048575 : Int32)) + (1 : Int32))), .val (.int (p4 % (((p3 &&& (1048575 : Int32)) + (1 : Int32)) + (1 : Int32)))), .val (.int (p5 &&& (3 : Int32))), .val (.int xv), .val (.double (FP.i2d p1)), .second, .unset] [(.ref bs), (.ref bs)])) _
    refine XS.iload X2.here hx rfl (hb hby at_87) rfl ?_
    show Steps p.tables e below (T2.setTop (mkF m 89 #[.val (.int p1), .val (.int p2), .val (.int p3), .val (.int p4), .val (.int p5), .val (.int (p2 % (1048576 : Int32))), .val (.int ((p3 &&& (1048575 : Int32)) + (1 : Int32))), .val (.int (p4 % (((p3 &&& (1048575 : Int32)) + (1 : Int32)) + (1 : Int32)))), .val (.int (p5 &&& (3 : Int32))), .val (.int xv), .val (.double (FP.i2d p1)), .second, .unset] [(.int (p2 % (1048576 : Int32))), (.ref bs), (.ref bs)])) _
    refine XS.i2dS X2.here hx rfl (hb hby at_89) rfl rfl ?_
    show Steps p.tables e below (T2.setTop (mkF m 90 #[.val (.int p1), .val (.int p2), .val (.int p3), .val (.int p4), .val (.int p5), .val (.int (p2 % (1048576 : Int32))), .val (.int ((p3 &&& (1048575 : Int32)) + (1 : Int32))), .val (.int (p4 % (((p3 &&& (1048575 : Int32)) + (1 : Int32)) + (1 : Int32)))), .val (.int (p5 &&& (3 : Int32))), .val (.int xv), .val (.double (FP.i2d p1)), .second, .unset] [(.double (FP.i2d (p2 % (1048576 : Int32)))), (.ref bs), (.ref bs)])) _
    refine XS.iload X2.here hx rfl (hb hby at_90) rfl ?_
    show Steps p.tables e below (T2.setTop (mkF m 92 #[.val (.int p1), .val (.int p2), .val (.int p3), .val (.int p4), .val (.int p5), .val (.int (p2 % (1048576 : Int32))), .val (.int ((p3 &&& (1048575 : Int32)) + (1 : Int32))), .val (.int (p4 % (((p3 &&& (1048575 : Int32)) + (1 : Int32)) + (1 : Int32)))), .val (.int (p5 &&& (3 : Int32))), .val (.int xv), .val (.double (FP.i2d p1)), .second, .unset] [(.int ((p3 &&& (1048575 : Int32)) + (1 : Int32))), (.double (FP.i2d (p2 % (1048576 : Int32)))), (.ref bs), (.ref bs)])) _
    refine XS.i2dS X2.here hx rfl (hb hby at_92) rfl rfl ?_
    show Steps p.tables e below (T2.setTop (mkF m 93 #[.val (.int p1), .val (.int p2), .val (.int p3), .val (.int p4), .val (.int p5), .val (.int (p2 % (1048576 : Int32))), .val (.int ((p3 &&& (1048575 : Int32)) + (1 : Int32))), .val (.int (p4 % (((p3 &&& (1048575 : Int32)) + (1 : Int32)) + (1 : Int32)))), .val (.int (p5 &&& (3 : Int32))), .val (.int xv), .val (.double (FP.i2d p1)), .second, .unset] [(.double (FP.i2d ((p3 &&& (1048575 : Int32)) + (1 : Int32)))), (.double (FP.i2d (p2 % (1048576 : Int32)))), (.ref bs), (.ref bs)])) _
    refine XS.dload X2.here hx rfl (hb hby at_93) rfl ?_
    show Steps p.tables e below (T2.setTop (mkF m 95 #[.val (.int p1), .val (.int p2), .val (.int p3), .val (.int p4), .val (.int p5), .val (.int (p2 % (1048576 : Int32))), .val (.int ((p3 &&& (1048575 : Int32)) + (1 : Int32))), .val (.int (p4 % (((p3 &&& (1048575 : Int32)) + (1 : Int32)) + (1 : Int32)))), .val (.int (p5 &&& (3 : Int32))), .val (.int xv), .val (.double (FP.i2d p1)), .second, .unset] [(.double (FP.i2d p1)), (.double (FP.i2d ((p3 &&& (1048575 : Int32)) + (1 : Int32)))), (.double (FP.i2d (p2 % (1048576 : Int32)))), (.ref bs), (.ref bs)])) _
    refine st8.trans ?_
    show Steps p.tables e below (T8.setTop (mkF m 98 #[.val (.int p1), .val (.int p2), .val (.int p3), .val (.int p4), .val (.int p5), .val (.int (p2 % (1048576 : Int32))), .val (.int ((p3 &&& (1048575 : Int32)) + (1 : Int32))), .val (.int (p4 % (((p3 &&& (1048575 : Int32)) + (1 : Int32)) + (1 : Int32)))), .val (.int (p5 &&& (3 : Int32))), .val (.int xv), .val (.double (FP.i2d p1)), .second, .unset] [(.ref bs)])) _
    refine XS.astore X8.here hx rfl (hb hby at_98) rfl rfl (l' := #[.val (.int p1), .val (.int p2), .val (.int p3), .val (.int p4), .val (.int p5), .val (.int (p2 % (1048576 : Int32))), .val (.int ((p3 &&& (1048575 : Int32)) + (1 : Int32))), .val (.int (p4 % (((p3 &&& (1048575 : Int32)) + (1 : Int32)) + (1 : Int32)))), .val (.int (p5 &&& (3 : Int32))), .val (.int xv), .val (.double (FP.i2d p1)), .second, .val (.ref bs)]) rfl ?_
    show Steps p.tables e below (T8.setTop (mkF m 100 #[.val (.int p1), .val (.int p2), .val (.int p3), .val (.int p4), .val (.int p5), .val (.int (p2 % (1048576 : Int32))), .val (.int ((p3 &&& (1048575 : Int32)) + (1 : Int32))), .val (.int (p4 % (((p3 &&& (1048575 : Int32)) + (1 : Int32)) + (1 : Int32)))), .val (.int (p5 &&& (3 : Int32))), .val (.int xv), .val (.double (FP.i2d p1)), .second, .val (.ref bs)] [])) _
    refine XS.aload X8.here hx rfl (hb hby at_100) rfl rfl ?_
    show Steps p.tables e below (T8.setTop (mkF m 102 #[.val (.int p1), .val (.int p2), .val (.int p3), .val (.int p4), .val (.int p5), .val (.int (p2 % (1048576 : Int32))), .val (.int ((p3 &&& (1048575 : Int32)) + (1 : Int32))), .val (.int (p4 % (((p3 &&& (1048575 : Int32)) + (1 : Int32)) + (1 : Int32)))), .val (.int (p5 &&& (3 : Int32))), .val (.int xv), .val (.double (FP.i2d p1)), .second, .val (.ref bs)] [(.ref bs)])) _
    refine XS.iload X8.here hx rfl (hb hby at_102) rfl ?_
    show Steps p.tables e below (T8.setTop (mkF m 104 #[.val (.int p1), .val (.int p2), .val (.int p3), .val (.int p4), .val (.int p5), .val (.int (p2 % (1048576 : Int32))), .val (.int ((p3 &&& (1048575 : Int32)) + (1 : Int32))), .val (.int (p4 % (((p3 &&& (1048575 : Int32)) + (1 : Int32)) + (1 : Int32)))), .val (.int (p5 &&& (3 : Int32))), .val (.int xv), .val (.double (FP.i2d p1)), .second, .val (.ref bs)] [(.int xv), (.ref bs)])) _
    refine st10.trans ?_
    show Steps p.tables e below (T10.setTop (mkF m 107 #[.val (.int p1), .val (.int p2), .val (.int p3), .val (.int p4), .val (.int p5), .val (.int (p2 % (1048576 : Int32))), .val (.int ((p3 &&& (1048575 : Int32)) + (1 : Int32))), .val (.int (p4 % (((p3 &&& (1048575 : Int32)) + (1 : Int32)) + (1 : Int32)))), .val (.int (p5 &&& (3 : Int32))), .val (.int xv), .val (.double (FP.i2d p1)), .second, .val (.ref bs)] [(.double (FP.dadd (FP.dmul FP.dconst0 (FP.ddiv (FP.dsub (FP.i2d xv) (FP.i2d (p2 % (1048576 : Int32)))) (FP.i2d ((p3 &&& (1048575 : Int32)) + (1 : Int32))))) (FP.i2d p1)))])) _
    refine XS.dload X10.here hx rfl (hb hby at_107) rfl ?_
    show Steps p.tables e below (T10.setTop (mkF m 109 #[.val (.int p1), .val (.int p2), .val (.int p3), .val (.int p4), .val (.int p5), .val (.int (p2 % (1048576 : Int32))), .val (.int ((p3 &&& (1048575 : Int32)) + (1 : Int32))), .val (.int (p4 % (((p3 &&& (1048575 : Int32)) + (1 : Int32)) + (1 : Int32)))), .val (.int (p5 &&& (3 : Int32))), .val (.int xv), .val (.double (FP.i2d p1)), .second, .val (.ref bs)] [(.double (FP.i2d p1)), (.double (FP.dadd (FP.dmul FP.dconst0 (FP.ddiv (FP.dsub (FP.i2d xv) (FP.i2d (p2 % (1048576 : Int32)))) (FP.i2d ((p3 &&& (1048575 : Int32)) + (1 : Int32))))) (FP.i2d p1)))])) _
    refine XS.dcmpS X10.here hx rfl (hb hby at_109) rfl (own_at (own_fin xv (p2 % (1048576 : Int32)) (own_hh p3).1) p1 _) ?_
    show Steps p.tables e below (T10.setTop (mkF m 110 #[.val (.int p1), .val (.int p2), .val (.int p3), .val (.int p4), .val (.int p5), .val (.int (p2 % (1048576 : Int32))), .val (.int ((p3 &&& (1048575 : Int32)) + (1 : Int32))), .val (.int (p4 % (((p3 &&& (1048575 : Int32)) + (1 : Int32)) + (1 : Int32)))), .val (.int (p5 &&& (3 : Int32))), .val (.int xv), .val (.double (FP.i2d p1)), .second, .val (.ref bs)] [(.int (0 : Int32))])) _
    refine XS.ifNo X10.here hx rfl (hb hby at_110) rfl ((if0 _ _).trans (teq (by decide : (0 : Int32) = (0 : Int32))).2) ?_
    show Steps p.tables e below (T10.setTop (mkF m 113 #[.val (.int p1), .val (.int p2), .val (.int p3), .val (.int p4), .val (.int p5), .val (.int (p2 % (1048576 : Int32))), .val (.int ((p3 &&& (1048575 : Int32)) + (1 : Int32))), .val (.int (p4 % (((p3 &&& (1048575 : Int32)) + (1 : Int32)) + (1 : Int32)))), .val (.int (p5 &&& (3 : Int32))), .val (.int xv), .val (.double (FP.i2d p1)), .second, .val (.ref bs)] [])) _
    refine XS.iconst X10.here hx rfl (hb hby at_113) ?_
    show Steps p.tables e below (T10.setTop (mkF m 114 #[.val (.int p1), .val (.int p2), .val (.int p3), .val (.int p4), .val (.int p5), .val (.int (p2 % (1048576 : Int32))), .val (.int ((p3 &&& (1048575 : Int32)) + (1 : Int32))), .val (.int (p4 % (((p3 &&& (1048575 : Int32)) + (1 : Int32)) + (1 : Int32)))), .val (.int (p5 &&& (3 : Int32))), .val (.int xv), .val (.double (FP.i2d p1)), .second, .val (.ref bs)] [(.int (1 : Int32))])) _
    refine XS.goto X10.here hx rfl (pc0 := 114) (pc' := 118) rfl (hb hby at_114) (by decide) (by decide) ?_
    show Steps p.tables e below (T10.setTop (mkF m 118 #[.val (.int p1), .val (.int p2), .val (.int p3), .val (.int p4), .val (.int p5), .val (.int (p2 % (1048576 : Int32))), .val (.int ((p3 &&& (1048575 : Int32)) + (1 : Int32))), .val (.int (p4 % (((p3 &&& (1048575 : Int32)) + (1 : Int32)) + (1 : Int32)))), .val (.int (p5 &&& (3 : Int32))), .val (.int xv), .val (.double (FP.i2d p1)), .second, .val (.ref bs)] [(.int (1 : Int32))])) _
    exact retOut X10 hx (t := .boolean) (i := .ireturn) Bd.returns rfl (Or.inl ⟨rfl, Or.inr (Or.inl rfl), _, rfl⟩) (hb hby at_118) hr
  · show Q_law Z p1 p2 p3 p4 p5 h0 n0 _ T10.heap _
    rw [e10]
    exact ⟨rfl, N10⟩
set_option maxRecDepth 65536 in
set_option maxHeartbeats 40000000 in
theorem comes_1 {Post : Tables → Env → Array Value → State → Outcome → State → Prop} (hpost : ∀ tb e args s v u, (limb_1_1.after args s (.returned v) u = true ∧ limb_1_2.after args s (.returned v) u = true ∧ True) → FrameEnd s (.returned v) u (Jvm.fieldLocs frame_1_writes args s ++ Jvm.arrayLocs frame_1_arrays args s ++ Jvm.staticLocs frame_1_statics s) 16 192 → Post tb e args s (.returned v) u) :
    ArmFor flags0 classFile x code maxLocals ret World_1 tables_1 room_1 Calls_1 rest_1 Pre_1 Post := by
  intro l hfl _ _ p e ha hc hk s m args below hf hA hF happ hP
  obtain ⟨hcalls, hrest, hpre⟩ := hP
  obtain ⟨-, -, -, hnamed, -, -, -, hat⟩ := (Spec.applies_iff hf).mp happ
  obtain ⟨hg, hn⟩ := and_e (Cond.before_iff.mp (show (Jvm.Cond.and given_1 narrow_1).before args s = true from hpre))
  obtain ⟨g0, r0⟩ := and_e hg
  obtain ⟨g1, r1⟩ := and_e r0
  obtain ⟨g2, r2⟩ := and_e r1
  obtain ⟨g3, r3⟩ := and_e r2
  obtain ⟨g4, r4⟩ := and_e r3
  obtain ⟨w0, w1, w2, w3, w4, rfl⟩ : ∃ w0 w1 w2 w3 w4 : Value, args = #[w0, w1, w2, w3, w4] := by
    have hs : args.size = 5 := by simpa [Cond.value, given_1] using g0
    obtain ⟨L⟩ := args
    match L, hs with
    | [w0, w1, w2, w3, w4], _ => exact ⟨w0, w1, w2, w3, w4, rfl⟩
  have hw := fun d (hd : d ∈ tables_1) => atoms_spec (ws := Jvm.Cond.code x code maxLocals ret :: tables_1) hat d (List.mem_cons_of_mem _ hd)
  obtain ⟨i0, q0⟩ := is_v g1
  obtain rfl : w0 = (.int i0) := Option.some.inj q0
  obtain ⟨i1, q1⟩ := is_v g2
  obtain rfl : w1 = (.int i1) := Option.some.inj q1
  obtain ⟨i2, q2⟩ := is_v g3
  obtain rfl : w2 = (.int i2) := Option.some.inj q2
  obtain ⟨i3, q3⟩ := is_v g4
  obtain rfl : w3 = (.int i3) := Option.some.inj q3
  obtain ⟨i4, q4⟩ := is_v r4
  obtain rfl : w4 = (.int i4) := Option.some.inj q4
  obtain ⟨n, o, h1, h2, h3, _, L, rfl, ⟨rfl, N⟩, hq⟩ := rm_law l s _ hw tables_1 i0 i1 i2 i3 i4 s.heap s.heap.size (Nat.le_refl _)  p e ha hc hk s m _ below hf ((Spec.applies_iff_loose hf).mp happ).1 ⟨rfl, State.Warmed39.refl s, rfl⟩ trivial
  refine ⟨n, _, h1, h2, h3, hpost _ _ _ _ _ _ ⟨Cond.after_iff.mpr rfl, Cond.after_iff.mpr (eq_i res_at (Term.int_eval (1)) rfl), trivial⟩ ⟨hq.1, hq.2.1, (hq.2.2.sift fun y hy => Or.inr (N y hy)).mono (by decide) (by decide)⟩⟩
theorem main_1_1 : Claimed_1_1 := comes_1 fun _ _ _ _ _ _ h hF => ⟨h.1, hF⟩
theorem main_1_2 : Claimed_1_2 := comes_1 fun _ _ _ _ _ _ h hF => ⟨h.2.1, hF⟩
end Jvm.Pilot.@@N@@
namespace Jvm.Pilot.@@N@@
open Jvm Jvm.ClassFile Sem Op Lib Jvm.Free Jvm.Stand Jvm.Pilot.@@N@@.Jvm.D
/-! MADE BY PROGRAM (witnessworld.py) out of the Statement's table words and the real class files: 11 classes; the members and pool entries that the words name. The judged class is class 1, her method 1. -/
namespace start1
open Jvm.ClassFile
def u (s : String) : CpInfo := .utf8 (stringToUtf16 s)
/-- a pool by its gaps: so many unusable entries, then the entry; so many at the end -/
def gap : Nat → List CpInfo → List CpInfo
  | 0, r => r
  | n + 1, r => .unusable :: gap n r
def poolList (es : List (Nat × CpInfo)) (last : Nat) : List CpInfo := es.foldr (fun e r => gap e.1 (e.2 :: r)) (gap last [])
def pool (es : List (Nat × CpInfo)) (last : Nat) : Array CpInfo := ⟨poolList es last⟩
def fileOf (pool : Array CpInfo) (this : Nat) (attrs : Array Attribute := #[]) (ms : Array MethodInfo := #[]) (fl : Nat := 33) (sup : Nat := 0) (ifs : Array Nat := #[]) (fds : Array FieldInfo := #[]) : ClassFile where
  minorVersion := 0
  majorVersion := 65
  constantPool := pool
  accessFlags := fl
  thisClass := this
  superClass := sup
  interfaces := ifs
  fields := fds
  methods := ms
  attributes := attrs
def plain (name : String) (sup : Option ClassId) : Class where
  name := name
  kind := .ordinary
  loader := none
  accessFlags := 33
  super := sup
  interfaces := #[]
  cf := none
  fields := #[]
  methods := #[]
  instanceTypes := #[]
  staticTypes := #[]
  resolved := #[]
  callSites := []
  init := .initialized
  statics := none
  mirror := none

def pool0 : Array CpInfo := pool [(5, u "<init>"), (0, u "()V"), (1, .class_ 10), (1, u "java/lang/Object")] 113

def k0c0 : Code := { maxStack := 0, maxLocals := 1, code := object_method_1_code, exceptionTable := #[], attributes := #[] }
def k0m0 : Method := { name := "<init>", desc := "()V", sig := { parameters := [], returnType := none }, accessFlags := 1, code := some k0c0 }
/-- java/lang/Object -/
def k0 : Class := { plain "java/lang/Object" none with
  accessFlags := 33
  interfaces := #[]
  cf := some (fileOf pool0 8 #[] #[{ accessFlags := 1, nameIndex := 5, descriptorIndex := 6, attributes := #[] }] 33 0 #[] #[])
  fields := #[]
  methods := #[k0m0]
  instanceTypes := #[]
  staticTypes := #[]
  resolved := Array.replicate 124 none
  statics := none }

def pool1 : Array CpInfo := pool [(2, .class_ 4), (1, u "java/lang/Object"), (0, u "<init>"), (0, u "()V"), (0, .integer 1048576), (0, .integer 1048575), (0, .class_ 10), (0, u "com/example/tideline/tideline/StepSeries"), (0, .methodref 9 12), (0, .nameAndType 5 13), (0, u "(DDD)V"), (0, .methodref 9 15), (0, .nameAndType 16 17), (0, u "at"), (0, u "(I)D"), (0, .class_ 19), (0, u "com/example/tideline/tideline/StepSeriesAtPinLaw"), (2, u "law"), (0, u "(IIIII)Z")] 3

def k1m0 : Method := { name := "<init>", desc := "()V", sig := { parameters := [], returnType := none }, accessFlags := 1, code := none }
def k1c1 : Code := { maxStack := 8, maxLocals := 13, code := code, exceptionTable := #[], attributes := #[] }
def k1m1 : Method := { name := "law", desc := "(IIIII)Z", sig := { parameters := [.int, .int, .int, .int, .int], returnType := some .boolean }, accessFlags := 9, code := some k1c1 }
/-- com/example/tideline/tideline/StepSeriesAtPinLaw -/
def k1 : Class := { plain "com/example/tideline/tideline/StepSeriesAtPinLaw" (some 0) with
  accessFlags := 49
  interfaces := #[]
  cf := some (fileOf pool1 18 #[] #[{ accessFlags := 1, nameIndex := 5, descriptorIndex := 6, attributes := #[] }, { accessFlags := 9, nameIndex := 22, descriptorIndex := 23, attributes := #[] }] 49 2 #[] #[])
  fields := #[]
  methods := #[k1m0, k1m1]
  instanceTypes := #[]
  staticTypes := #[]
  resolved := Array.replicate 27 none
  statics := none }

def pool2 : Array CpInfo := pool [(1, .class_ 2), (0, u "com/example/tideline/tideline/StepSeries"), (0, .methodref 1 4), (0, .nameAndType 5 6), (0, u "<init>"), (0, u "(DD[DI)V"), (0, .fieldref 1 8), (0, .nameAndType 9 10), (0, u "terms"), (0, u "[D"), (0, .methodref 12 13), (0, .class_ 14), (0, .nameAndType 5 15), (0, u "java/lang/Object"), (0, u "()V"), (0, .fieldref 1 17), (0, .nameAndType 18 19), (0, u "center"), (0, u "D"), (0, .fieldref 1 21), (0, .nameAndType 22 19), (0, u "half"), (0, .fieldref 1 24), (0, .nameAndType 25 26), (0, u "highest"), (0, u "I"), (21, u "TERMS"), (2, u "(DDD)V"), (5, u "at"), (0, u "(I)D")] 11

def k2c0 : Code := { maxStack := 7, maxLocals := 7, code := prog_34_method_1_code, exceptionTable := #[], attributes := #[] }
def k2m0 : Method := { name := "<init>", desc := "(DDD)V", sig := { parameters := [.double, .double, .double], returnType := none }, accessFlags := 0, code := some k2c0 }
def k2c1 : Code := { maxStack := 3, maxLocals := 7, code := prog_34_method_2_code, exceptionTable := #[], attributes := #[] }
def k2m1 : Method := { name := "<init>", desc := "(DD[DI)V", sig := { parameters := [.double, .double, (.array .double), .int], returnType := none }, accessFlags := 2, code := some k2c1 }
def k2c2 : Code := { maxStack := 4, maxLocals := 7, code := prog_34_method_5_code, exceptionTable := #[], attributes := #[] }
def k2m2 : Method := { name := "at", desc := "(I)D", sig := { parameters := [.int], returnType := some .double }, accessFlags := 0, code := some k2c2 }
/-- com/example/tideline/tideline/StepSeries -/
def k2 : Class := { plain "com/example/tideline/tideline/StepSeries" (some 0) with
  accessFlags := 48
  interfaces := #[]
  cf := some (fileOf pool2 1 #[] #[{ accessFlags := 0, nameIndex := 5, descriptorIndex := 51, attributes := #[] }, { accessFlags := 2, nameIndex := 5, descriptorIndex := 6, attributes := #[] }, { accessFlags := 0, nameIndex := 57, descriptorIndex := 58, attributes := #[] }] 48 12 #[] #[{ accessFlags := 24, nameIndex := 48, descriptorIndex := 26, attributes := #[] }, { accessFlags := 18, nameIndex := 18, descriptorIndex := 19, attributes := #[] }, { accessFlags := 18, nameIndex := 22, descriptorIndex := 19, attributes := #[] }, { accessFlags := 18, nameIndex := 9, descriptorIndex := 10, attributes := #[] }, { accessFlags := 2, nameIndex := 25, descriptorIndex := 26, attributes := #[] }])
  fields := #[{ name := "TERMS", type := .int, accessFlags := 24, slot := 0, constantValue := 0 }, { name := "center", type := .double, accessFlags := 18, slot := 0, constantValue := 0 }, { name := "half", type := .double, accessFlags := 18, slot := 1, constantValue := 0 }, { name := "terms", type := (.array .double), accessFlags := 18, slot := 2, constantValue := 0 }, { name := "highest", type := .int, accessFlags := 2, slot := 3, constantValue := 0 }]
  methods := #[k2m0, k2m1, k2m2]
  instanceTypes := #[.double, .double, (.array .double), .int]
  staticTypes := #[.int]
  resolved := Array.replicate 70 none
  statics := none }

def pool3 : Array CpInfo := pool [(1, u "java/lang/Cloneable"), (0, .class_ 1), (0, u "java/lang/Object"), (0, .class_ 3)] 3

/-- java/lang/Cloneable -/
def k3 : Class := { plain "java/lang/Cloneable" (some 0) with
  accessFlags := 1537
  interfaces := #[]
  cf := some (fileOf pool3 2 #[] #[] 1537 4 #[] #[])
  fields := #[]
  methods := #[]
  instanceTypes := #[]
  staticTypes := #[]
  resolved := Array.replicate 8 none
  statics := none }

def pool4 : Array CpInfo := pool [(1, u "java/io/Serializable"), (0, .class_ 1), (0, u "java/lang/Object"), (0, .class_ 3)] 3

/-- java/io/Serializable -/
def k4 : Class := { plain "java/io/Serializable" (some 0) with
  accessFlags := 1537
  interfaces := #[]
  cf := some (fileOf pool4 2 #[] #[] 1537 4 #[] #[])
  fields := #[]
  methods := #[]
  instanceTypes := #[]
  staticTypes := #[]
  resolved := Array.replicate 8 none
  statics := none }

/-- the primitive byte -/
def k5 : Class := { plain "byte" none with kind := .primitive 'B', accessFlags := 0x411 }
/-- [B -/
def k6 : Class := { plain "[B" (some 0) with kind := .array 5 .byte, interfaces := #[3, 4], accessFlags := 1041 }

/-- the primitive double -/
def k7 : Class := { plain "double" none with kind := .primitive 'D', accessFlags := 0x411 }
/-- [D -/
def k8 : Class := { plain "[D" (some 0) with kind := .array 7 .double, interfaces := #[3, 4], accessFlags := 1041 }

/-- the primitive int -/
def k9 : Class := { plain "int" none with kind := .primitive 'I', accessFlags := 0x411 }
/-- [I -/
def k10 : Class := { plain "[I" (some 0) with kind := .array 9 .int, interfaces := #[3, 4], accessFlags := 1041 }

def heap : Heap := #[]
def classes : Array Class := #[k0, k1, k2, k3, k4, k5, k6, k7, k8, k9, k10]
def interned : List (Array UInt16 × Addr) := []
def slotsUsed : Nat := 0
def theMethod : MethodId := ⟨1, 1⟩
def args0 : Array Value := #[.int 5, .int 1, .int 3, .int 4, .int 9]
def aboutOver (below : List Frame) : State where
  vm := { classes := classes, interned := interned.toArray }
  heap := heap
  slotsUsed := slotsUsed
  threads := #[{ frames := .invoking theMethod args0 :: below }]
def below0 : List Frame := [.native { method := ⟨0, 0⟩, args := #[] }]
def about1 : State := aboutOver below0
def p0 : Program := .bare "" "" ""
def e0 : Env := launch0.env 0 0 0
theorem w_frames : about1.frames = Frame.invoking theMethod args0 :: below0 := rfl
set_option maxRecDepth 65536 in
theorem w_args : argsFit about1.vm theMethod args0 = true := by decide +kernel
set_option maxRecDepth 65536 in
theorem w_heap : heapFits about1 = true := by decide +kernel
set_option maxRecDepth 65536 in
theorem w_runnable : about1.curStatus? = some .runnable := by decide +kernel
set_option maxRecDepth 65536 in
theorem w_alone : about1.alone = true := by decide +kernel
set_option maxRecDepth 65536 in
theorem w_named : about1.methodNamed? x = some theMethod := by decide +kernel
set_option maxRecDepth 65536 in
theorem w_hears : about1.hears theMethod below0 = true := by decide +kernel
set_option maxRecDepth 65536 in
theorem w_ripe : about1.ripe theMethod args0 below0 = true := by decide +kernel
theorem w_running : about1.status = .running := rfl
set_option maxRecDepth 65536 in
theorem w_room : about1.hasRoom e0.platform room_1 = true :=
  launch0.hasRoom_least _ room_1 (by decide +kernel) (by decide +kernel) (by decide +kernel) (by decide +kernel) (by decide +kernel) (by decide +kernel)
theorem allAtoms_all (ts : List Jvm.Cond) (a : Array Jvm.Value) (st : Jvm.State) : (allAtoms ts).before a st = ts.all (fun c => c.before a st) := by
  induction ts with
  | nil => rfl
  | cons c t ih =>
    show (Jvm.Cond.and c (allAtoms t)).before a st = _
    rw [Jvm.Cond.before_and, ih, List.all_cons]
def words1 : List Jvm.Cond := Jvm.Cond.code x code maxLocals ret :: tables_1
/-- a 'code' word, met by the world's own term for the bytes: nothing is compared byte by byte -/
theorem code_word {y : MethodName} {bytes : ByteArray} {mx : Nat} {rt : Option FieldType} {a : Array Value} {s : State} {m : MethodId} {meth : Method} {c : Code} (h1 : s.methodNamed? y = some m) (h2 : s.vm.method? m = some meth) (h3 : meth.code = some c) (h4 : c.code = bytes)
    (h5 : (c.maxLocals == mx && c.exceptionTable.isEmpty && decide (c.maxStack ≤ mostOperands) && decide (meth.sig.returnType = rt) && !meth.locks && decide (parseMethodDescriptor y.desc = some meth.sig)) = true) : (Jvm.Cond.code y bytes mx rt).before a s = true := by
  simp only [Bool.and_eq_true, beq_iff_eq, Bool.not_eq_true', decide_eq_true_eq] at h5
  obtain ⟨⟨⟨⟨⟨g1, g2⟩, g3⟩, g4⟩, g5⟩, g6⟩ := h5
  simp [Cond.before, Cond.holds, Cond.value, h1, h2, h3, h4, g1, g2, g3, g4, g5, g6]
def isCode : Jvm.Cond → Bool
  | .code _ _ _ _ => true
  | _ => false
theorem all_split {L : List Jvm.Cond} {P : Jvm.Cond → Bool} (h1 : L.all (fun c => isCode c || P c) = true) (h2 : ∀ c ∈ L.filter isCode, P c = true) : L.all P = true := by
  refine List.all_eq_true.mpr fun c hc => ?_
  have h := List.all_eq_true.mp h1 c hc
  rcases Bool.eq_false_or_eq_true (isCode c) with hi | hi
  · exact h2 c (List.mem_filter.mpr ⟨hc, hi⟩)
  · simpa [hi] using h
set_option maxRecDepth 65536 in
theorem w_c0 : (Jvm.Cond.code x code maxLocals ret).before args0 about1 = true := code_word (m := ⟨1, 1⟩) (meth := k1m1) (c := k1c1) (by decide +kernel) rfl rfl rfl (by decide +kernel)
set_option maxRecDepth 65536 in
theorem w_c1 : (Jvm.Cond.code ({ cls := "com/example/tideline/tideline/StepSeries", name := "<init>", desc := "(DDD)V" } : Jvm.MethodName) prog_34_method_1_code (7 : Nat) (Option.none : Option Jvm.ClassFile.FieldType)).before args0 about1 = true := code_word (m := ⟨2, 0⟩) (meth := k2m0) (c := k2c0) (by decide +kernel) rfl rfl rfl (by decide +kernel)
set_option maxRecDepth 65536 in
theorem w_c2 : (Jvm.Cond.code ({ cls := "com/example/tideline/tideline/StepSeries", name := "<init>", desc := "(DD[DI)V" } : Jvm.MethodName) prog_34_method_2_code (7 : Nat) (Option.none : Option Jvm.ClassFile.FieldType)).before args0 about1 = true := code_word (m := ⟨2, 1⟩) (meth := k2m1) (c := k2c1) (by decide +kernel) rfl rfl rfl (by decide +kernel)
set_option maxRecDepth 65536 in
theorem w_c3 : (Jvm.Cond.code ({ cls := "java/lang/Object", name := "<init>", desc := "()V" } : Jvm.MethodName) object_method_1_code (1 : Nat) (Option.none : Option Jvm.ClassFile.FieldType)).before args0 about1 = true := code_word (m := ⟨0, 0⟩) (meth := k0m0) (c := k0c0) (by decide +kernel) rfl rfl rfl (by decide +kernel)
set_option maxRecDepth 65536 in
theorem w_c4 : (Jvm.Cond.code ({ cls := "com/example/tideline/tideline/StepSeries", name := "at", desc := "(I)D" } : Jvm.MethodName) prog_34_method_5_code (7 : Nat) (Option.some Jvm.ClassFile.FieldType.double)).before args0 about1 = true := code_word (m := ⟨2, 2⟩) (meth := k2m2) (c := k2c2) (by decide +kernel) rfl rfl rfl (by decide +kernel)
def codes1 : List Jvm.Cond := [Jvm.Cond.code x code maxLocals ret, Jvm.Cond.code ({ cls := "com/example/tideline/tideline/StepSeries", name := "<init>", desc := "(DDD)V" } : Jvm.MethodName) prog_34_method_1_code (7 : Nat) (Option.none : Option Jvm.ClassFile.FieldType), Jvm.Cond.code ({ cls := "com/example/tideline/tideline/StepSeries", name := "<init>", desc := "(DD[DI)V" } : Jvm.MethodName) prog_34_method_2_code (7 : Nat) (Option.none : Option Jvm.ClassFile.FieldType), Jvm.Cond.code ({ cls := "java/lang/Object", name := "<init>", desc := "()V" } : Jvm.MethodName) object_method_1_code (1 : Nat) (Option.none : Option Jvm.ClassFile.FieldType), Jvm.Cond.code ({ cls := "com/example/tideline/tideline/StepSeries", name := "at", desc := "(I)D" } : Jvm.MethodName) prog_34_method_5_code (7 : Nat) (Option.some Jvm.ClassFile.FieldType.double)]
set_option maxRecDepth 65536 in
theorem codes_eq : words1.filter isCode = codes1 := rfl
theorem w_codes : ∀ c ∈ words1.filter isCode, c.before args0 about1 = true := by
  rw [codes_eq]
  intro c hc
  simp only [codes1, List.mem_cons, List.not_mem_nil, or_false] at hc
  rcases hc with rfl | rfl | rfl | rfl | rfl
  · exact w_c0
  · exact w_c1
  · exact w_c2
  · exact w_c3
  · exact w_c4
set_option maxRecDepth 65536 in
theorem w_t1 : (words1.take 24).all (fun c => isCode c || c.before args0 about1) = true := by decide +kernel
set_option maxRecDepth 65536 in
theorem w_t2 : (words1.drop 24).all (fun c => isCode c || c.before args0 about1) = true := by decide +kernel
theorem w_tables : (allAtoms (Jvm.Cond.code x code maxLocals ret :: tables_1)).before args0 about1 = true := by
  rw [allAtoms_all]
  show words1.all (fun c => c.before args0 about1) = true
  refine all_split ?_ w_codes
  rw [← List.take_append_drop 24 words1, List.all_append, w_t1, w_t2]
  rfl
set_option maxRecDepth 65536 in
theorem w_case : (Jvm.Cond.and given_1 narrow_1).before args0 about1 = true := by decide +kernel
theorem w_applies : (headSpec (Jvm.Cond.code x code maxLocals ret :: tables_1) room_1).applies x e0.platform about1 = true :=
  (Spec.applies_iff w_frames).mpr ⟨w_running, w_runnable, w_alone, w_named, w_hears, w_ripe, w_room, w_tables⟩
theorem atStart : AtStart classFile x code maxLocals ret World_1 tables_1 room_1 Calls_1 rest_1 Pre_1 launch0 p0 e0 about1 theMethod args0 below0 :=
  ⟨lists_1, trivial, launch0.admits_env _ _ _, launch0.least_env, fairChoices_fair.cas, fairChoices_fair.clock, w_frames, w_args, w_heap, w_applies, trivial, trivial, w_case⟩
end start1
theorem witness_1 : WitnessClaimed_1 := ⟨start1.p0, start1.e0, start1.about1, start1.theMethod, start1.args0, start1.below0, start1.atStart⟩
end Jvm.Pilot.@@N@@
