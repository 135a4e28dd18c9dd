import JvmDerived
import JvmDerived.Pilot.@@N@@Statement
import JvmDerived.Pilot.@@N@@Code
set_option linter.unusedVariables false
set_option linter.unusedSimpArgs false
namespace Jvm.Pilot.@@N@@
open Jvm Jvm.ClassFile Sem Op Lib Jvm.Free Jvm.Stand Jvm.LawKit Jvm.RoadKit Jvm.Free.Fl Bundle Jvm.Pilot.@@N@@.Jvm.D
theorem own_le {a b V : UInt64} (ha : FP.Core.DFin a) (hb : FP.Core.DFin b) (hV : FP.Core.val64 V ≠ .nan)
    (h : FP.Core.zval FP.Core.b64 (FP.Core.val64 a) * FP.Core.zval FP.Core.b64 (FP.Core.val64 b) ≤ FP.Core.zval FP.Core.b64 (FP.Core.val64 V) * ((2 ^ 1074 : Nat) : Int)) :
    FP.Core.zval FP.Core.b64 (FP.Core.val64 (FP.dmul a b)) ≤ FP.Core.zval FP.Core.b64 (FP.Core.val64 V) := by
  obtain ⟨s, c, q, ea⟩ := ha
  obtain ⟨t, d, r, eb⟩ := hb
  have fa := FP.Core.val64_fits a
  have fb := FP.Core.val64_fits b
  rw [ea] at fa h
  rw [eb] at fb h
  show FP.Core.zval FP.Core.b64 (FP.Core.val64 (FP.Core.dmul a b)) ≤ _
  rw [FP.Core.val64_dmul, ea, eb]
  obtain ⟨h1, h2, h3⟩ := FP.Core.product_units fa fb
  rw [h1]
  refine FP.Core.zval_round_le FP.Core.good_b64 (e0 := 2 * FP.Core.b64.qmin) (FP.Core.val64_fits V) hV (by decide) h2 ?_
  rw [h3, FP.Core.signed_xor, show (FP.Core.b64.qmin - 2 * FP.Core.b64.qmin).toNat = 1074 by decide]
  exact h
theorem own_ge {a b V : UInt64} (ha : FP.Core.DFin a) (hb : FP.Core.DFin b) (hV : FP.Core.val64 V ≠ .nan)
    (h : FP.Core.zval FP.Core.b64 (FP.Core.val64 V) * ((2 ^ 1074 : Nat) : Int) ≤ FP.Core.zval FP.Core.b64 (FP.Core.val64 a) * FP.Core.zval FP.Core.b64 (FP.Core.val64 b)) :
    FP.Core.zval FP.Core.b64 (FP.Core.val64 V) ≤ FP.Core.zval FP.Core.b64 (FP.Core.val64 (FP.dmul a b)) := by
  obtain ⟨s, c, q, ea⟩ := ha
  obtain ⟨t, d, r, eb⟩ := hb
  have fa := FP.Core.val64_fits a
  have fb := FP.Core.val64_fits b
  rw [ea] at fa h
  rw [eb] at fb h
  show _ ≤ FP.Core.zval FP.Core.b64 (FP.Core.val64 (FP.Core.dmul a b))
  rw [FP.Core.val64_dmul, ea, eb]
  obtain ⟨h1, h2, h3⟩ := FP.Core.product_units fa fb
  rw [h1]
  refine FP.Core.zval_round_ge FP.Core.good_b64 (e0 := 2 * FP.Core.b64.qmin) (FP.Core.val64_fits V) hV (by decide) h2 ?_
  rw [h3, FP.Core.signed_xor, show (FP.Core.b64.qmin - 2 * FP.Core.b64.qmin).toNat = 1074 by decide]
  exact h
theorem own_zl {i : Int64} (h : B53 i) : FP.Core.zval FP.Core.b64 (FP.Core.val64 (FP.l2d i)) = i.toInt * ((2 ^ 1074 : Nat) : Int) := by
  have := FP.Core.whole_zval FP.Core.good_b64 (FP.Core.val64_fits (FP.Core.l2d i)) (FP.Core.l2d_whole (sm h))
  rw [show (-FP.Core.b64.qmin).toNat = 1074 by decide] at this
  exact this
theorem own_zq : FP.Core.zval FP.Core.b64 (FP.Core.val64 (4472406533629990549 : UInt64)) = 4835703278458517 * ((2 ^ 992 : Nat) : Int) := by decide +kernel
theorem own_zw1 : FP.Core.zval FP.Core.b64 (FP.Core.val64 (4607182418804211712 : UInt64)) = (4503599631564800 * 1073741824) * ((2 ^ 992 : Nat) : Int) := by decide +kernel
theorem own_zw2 : FP.Core.zval FP.Core.b64 (FP.Core.val64 (4611686018429485056 : UInt64)) = (4503599629467648 * 2147483648) * ((2 ^ 992 : Nat) : Int) := by decide +kernel
theorem own_one : ((2 ^ 1074 : Nat) : Int) = 4835703278458516698824704 * ((2 ^ 992 : Nat) : Int) := by decide +kernel
theorem own_fq : FP.Core.DFin (4472406533629990549 : UInt64) := fin64_core.mp (by unfold Fin64; decide)
theorem own_fl (i : Int64) : FP.Core.DFin (FP.l2d i) := fin64_core.mp (l2d_fin i)
theorem own_nn (i : Int64) : FP.Core.val64 (FP.l2d i) ≠ .nan := (own_fl i).ne_nan
theorem own_nm (h : Int64) : NoNaN64 (FP.dmul (4472406533629990549 : UInt64) (FP.l2d h)) := dmul_out (fin64_core.mpr own_fq) (l2d_fin h)
theorem own_low {d h : Int64} (hd : B53 d) (hh : B53 h) (q : 4835703278458517 * h.toInt ≤ d.toInt * 4835703278458516698824704) :
    FP.Core.zval FP.Core.b64 (FP.Core.val64 (FP.dmul (4472406533629990549 : UInt64) (FP.l2d h))) ≤ FP.Core.zval FP.Core.b64 (FP.Core.val64 (FP.l2d d)) := by
  refine own_le own_fq (own_fl h) (own_nn d) ?_
  rw [own_zq, own_zl hh, own_zl hd]
  have e := own_one
  have p1 : (0 : Int) ≤ ((2 ^ 992 : Nat) : Int) := Int.natCast_nonneg _
  have p2 : (0 : Int) ≤ ((2 ^ 1074 : Nat) : Int) := Int.natCast_nonneg _
  generalize ((2 ^ 992 : Nat) : Int) = A at *
  generalize ((2 ^ 1074 : Nat) : Int) = B at *
  have m := Int.mul_le_mul_of_nonneg_left q (Int.mul_nonneg p1 p2)
  have e1 : 4835703278458517 * A * (h.toInt * B) = A * B * (4835703278458517 * h.toInt) := by ac_rfl
  have e2 : d.toInt * B * B = A * B * (d.toInt * 4835703278458516698824704) := by
    conv => lhs; rhs; rw [e]
    ac_rfl
  rw [e1, e2]; exact m
theorem own_high {h : Int64} {W : UInt64} {k : Int} (hh : B53 h) (hW : FP.Core.val64 W ≠ .nan) (zW : FP.Core.zval FP.Core.b64 (FP.Core.val64 W) = k * ((2 ^ 992 : Nat) : Int)) (q : k ≤ 4835703278458517 * h.toInt) :
    FP.Core.zval FP.Core.b64 (FP.Core.val64 W) ≤ FP.Core.zval FP.Core.b64 (FP.Core.val64 (FP.dmul (4472406533629990549 : UInt64) (FP.l2d h))) := by
  refine own_ge own_fq (own_fl h) hW ?_
  rw [own_zq, own_zl hh, zW]
  have p1 : (0 : Int) ≤ ((2 ^ 992 : Nat) : Int) := Int.natCast_nonneg _
  have p2 : (0 : Int) ≤ ((2 ^ 1074 : Nat) : Int) := Int.natCast_nonneg _
  generalize ((2 ^ 992 : Nat) : Int) = A at *
  generalize ((2 ^ 1074 : Nat) : Int) = B at *
  have m := Int.mul_le_mul_of_nonneg_left q (Int.mul_nonneg p1 p2)
  have e1 : 4835703278458517 * A * (h.toInt * B) = A * B * (4835703278458517 * h.toInt) := by ac_rfl
  have e2 : k * A * B = A * B * k := by ac_rfl
  rw [e1, e2]; exact m
theorem own_no {x y : UInt64} (hx : FP.Core.val64 x ≠ .nan) (hy : FP.Core.val64 y ≠ .nan) (h : FP.Core.zval FP.Core.b64 (FP.Core.val64 y) ≤ FP.Core.zval FP.Core.b64 (FP.Core.val64 x)) : ¬ (cmpValue (FP.dcmp x y) .g < 0) := by
  rcases FP.Core.dcmp_ge.mpr ⟨hx, hy, h⟩ with q | q
  · rw [show FP.dcmp x y = some .gt from q]; decide
  · rw [show FP.dcmp x y = some .eq from q]; decide
theorem own_yes {x y : UInt64} (hx : FP.Core.val64 x ≠ .nan) (hy : FP.Core.val64 y ≠ .nan) (h : FP.Core.zval FP.Core.b64 (FP.Core.val64 x) < FP.Core.zval FP.Core.b64 (FP.Core.val64 y)) : cmpValue (FP.dcmp x y) .g < 0 := by
  rw [show FP.dcmp x y = some .lt from FP.Core.dcmp_lt.mpr ⟨hx, hy, h⟩]; decide
theorem own_b (x : Int32) : B53 x.toInt64 := by
  have h1 := Int32.le_toInt x; have h2 := Int32.toInt_lt x
  unfold B53; rw [Int32.toInt_toInt64]; omega
theorem own_sub (a b : Int32) : (a.toInt64 - b.toInt64).toInt = a.toInt - b.toInt := by
  rw [sub64 (own_b a) (own_b b), Int32.toInt_toInt64, Int32.toInt_toInt64]
theorem own_bs (a b : Int32) : B53 (a.toInt64 - b.toInt64) := by
  have := rng32 a; have := rng32 b
  unfold B53; rw [own_sub]; omega
theorem own_ds (a b : Int32) : FP.dsub (FP.i2d a) (FP.i2d b) = FP.l2d (a.toInt64 - b.toInt64) := by rw [i2d_w, i2d_w, dsub_w (own_b a) (own_b b)]
theorem own_eqc (a b : Int32) : cmpValue (FP.dcmp (FP.i2d b) (FP.i2d a)) .l = 0 ↔ b.toInt = a.toInt := by
  rw [i2d_w, i2d_w, dcmpV_w (own_b b) (own_b a), lw_eq, ← Int64.toInt_inj, Int32.toInt_toInt64, Int32.toInt_toInt64]
theorem own_e1 : FP.dmul (4472406533629990549 : UInt64) (FP.l2d 1000000000) = FP.l2d 1 := by decide +kernel
theorem own_e2 : FP.dmul (4472406533629990549 : UInt64) (FP.l2d 2000000000) = FP.l2d 2 := by decide +kernel
theorem own_w1 : FP.Core.zval FP.Core.b64 (FP.Core.val64 (FP.l2d 1)) < FP.Core.zval FP.Core.b64 (FP.Core.val64 (4607182418804211712 : UInt64)) := by decide +kernel
theorem own_w2 : FP.Core.zval FP.Core.b64 (FP.Core.val64 (FP.l2d 2)) < FP.Core.zval FP.Core.b64 (FP.Core.val64 (4611686018429485056 : UInt64)) := by decide +kernel
theorem own_rank {hi lo : Int32} (h : lo.toInt < hi.toInt) :
    cmpValue (FP.dcmp (FP.dsub (FP.i2d hi) (FP.i2d lo)) (FP.dmul (4472406533629990549 : UInt64) (FP.i2d hi))) .g < 0 ↔ ((hi.toInt - lo.toInt = 1 ∧ 1000000000 < hi.toInt) ∨ (hi.toInt - lo.toInt = 2 ∧ 2000000000 < hi.toInt)) := by
  rw [own_ds, i2d_w]
  have hb := own_b hi
  have e : hi.toInt64.toInt = hi.toInt := Int32.toInt_toInt64 hi
  have es := own_sub hi lo
  have bs := own_bs hi lo
  have r1 := rng32 hi
  have r2 := rng32 lo
  have nm := val64_no.mp (own_nm hi.toInt64)
  generalize hi.toInt64 - lo.toInt64 = d at *
  generalize hi.toInt64 = H at *
  have nd := own_nn d
  constructor
  · intro q
    refine Classical.byContradiction fun hno => ?_
    by_cases c1 : d.toInt = 1 ∧ H.toInt = 1000000000
    · obtain rfl : d = 1 := Int64.toInt_inj.mp (by rw [c1.1]; decide)
      obtain rfl : H = 1000000000 := Int64.toInt_inj.mp (by rw [c1.2]; decide)
      rw [own_e1] at q
      exact own_no nd nd (Int.le_refl _) q
    · by_cases c2 : d.toInt = 2 ∧ H.toInt = 2000000000
      · obtain rfl : d = 2 := Int64.toInt_inj.mp (by rw [c2.1]; decide)
        obtain rfl : H = 2000000000 := Int64.toInt_inj.mp (by rw [c2.2]; decide)
        rw [own_e2] at q
        exact own_no nd nd (Int.le_refl _) q
      · exact own_no nd nm (own_low bs hb (by omega)) q
  · rintro (⟨q1, q2⟩ | ⟨q1, q2⟩)
    · obtain rfl : d = 1 := Int64.toInt_inj.mp (by rw [es, q1]; decide)
      exact own_yes nd nm (Int.lt_of_lt_of_le own_w1 (own_high hb (by decide +kernel) own_zw1 (by omega)))
    · obtain rfl : d = 2 := Int64.toInt_inj.mp (by rw [es, q1]; decide)
      exact own_yes nd nm (Int.lt_of_lt_of_le own_w2 (own_high hb (by decide +kernel) own_zw2 (by omega)))
theorem d_jdk_29_method_65_code_0 : decode jdk_29_method_65_code 0 = .ok (.iload_n 0, 1) := by decide +kernel
theorem d_jdk_29_method_65_code_1 : decode jdk_29_method_65_code 1 = .ok (.iload_n 1, 1) := by decide +kernel
theorem d_jdk_29_method_65_code_2 : decode jdk_29_method_65_code 2 = .ok (.if_icmp .lt 7, 3) := by decide +kernel
theorem d_jdk_29_method_65_code_9 : decode jdk_29_method_65_code 9 = .ok (.iload_n 1, 1) := by decide +kernel
theorem d_jdk_29_method_65_code_10 : decode jdk_29_method_65_code 10 = .ok (.ireturn, 1) := by decide +kernel
theorem ef_max0 (m : MethodId) (x0 : Int32) (x1 : Int32) : entryFrame m #[(.int x0), (.int x1)] 2 = mkF m 0 #[.val (.int x0), .val (.int x1)] [] := by first | (simp [entryFrame, mkF, argsToLocals, Value.category]; done) | rfl
def Q_max0 (Z : State) (k1 : Int32) (k2 : Int32) (r : Int32) (h0 : Heap) (n0 : Nat) (v : Option Value) (h : Heap) (L : List Loc) : Prop := v = some (.int r) ∧ Fr n0 L ∧ h = h0
set_option maxRecDepth 65536 in
set_option maxHeartbeats 40000000 in
theorem rm_max0 (l : Launch) (Z : State) (a0 : Array Value) (hw : ∀ d ∈ tables_1, d.before a0 Z = true) (ws : List Jvm.Cond) (k1 : Int32) (k2 : Int32) (r : Int32) (h0 : Heap) (n0 : Nat) (Z0 : n0 ≤ h0.size) (h1 : k1 < k2) (hrr : r = k2) :
    MetFree l (⟨"java/lang/Math", "max", "(II)I"⟩ : MethodName) (head1 (Jvm.Cond.code (⟨"java/lang/Math", "max", "(II)I"⟩ : MethodName) jdk_29_method_65_code 2 (some .int) :: ws) ({ frames := 0, cells := 0, slots := 0, locals := 0 } : Room)) (fun a U => a = #[(.int k1), (.int k2)] ∧ Z.Warmed39 U.vm ∧ U.heap = h0) (fun _ _ _ _ _ => True) (fun _ U o U' => ∃ v L, o = .returned v ∧ Q_max0 Z k1 k2 r h0 n0 v U'.heap L ∧ FrameEnd U o U' L ({ frames := 0, cells := 0, slots := 0, locals := 0 } : Room).cells ({ frames := 0, cells := 0, slots := 0, locals := 0 } : Room).slots) := by
  refine MetFree.of_bodySF (by decide +kernel) hisR ?_
  intro p e s m args below meth c s₁ Bd hml0 hP hK
  obtain ⟨rfl, hZ, hh⟩ := hP
  have hx := Bd.exec
  have hby := Bd.bytes
  have hml : c.maxLocals = 2 := hml0
  have hown : s.vm.findClass "java/lang/Math" = some m.cls := findClass_of_methodNamed Bd.named
  have hnm := (name_of_methodNamed Bd.named Bd.method).1
  have X0 : Stand p l e ({ frames := 0, cells := 0, slots := 0, locals := 0 } : Room) s m #[(.int k1), (.int k2)] below meth c s₁ [] 0 0 := Stand.of_body Bd
  have e0 : s₁.heap = h0 := by rw [← hh, Bd.state]; rfl
  have N0 := Fr.nil n0
  have P0 : Keep h0 h0 [] := Keep.refl _ _
  have pre0 : ∀ t, Steps p.tables e below (s₁.setTop (mkF m 0 #[.val (.int k1), .val (.int k2)] [])) t → Steps p.tables e below (s₁.setTop (entryFrame m #[(.int k1), (.int k2)] 2)) t := fun t k => castTop (ef_max0 m k1 k2) k
  obtain ⟨fs, hr, hrun, hended, hW, hsame⟩ := X0.leave (v := some (.int k2)) (fun h => by rw [Bd.returns] at h; cases h)
  refine ⟨_, _, pre0 _ ?_, hrun, hended, _, _, rfl, ?_, ⟨_, rfl⟩, hW, hsame.mono (by decide) (by decide)⟩
  · show Steps p.tables e below (s₁.setTop (mkF m 0 #[.val (.int k1), .val (.int k2)] [])) _
    refine XS.iloadN X0.here hx rfl (hb hby d_jdk_29_method_65_code_0) rfl ?_
    show Steps p.tables e below (s₁.setTop (mkF m 1 #[.val (.int k1), .val (.int k2)] [(.int k1)])) _
    refine XS.iloadN X0.here hx rfl (hb hby d_jdk_29_method_65_code_1) rfl ?_
    show Steps p.tables e below (s₁.setTop (mkF m 2 #[.val (.int k1), .val (.int k2)] [(.int k2), (.int k1)])) _
    refine XS.icmpYes X0.here hx rfl (pc0 := 2) (pc' := 9) rfl (hb hby d_jdk_29_method_65_code_2) rfl (tlt (h1 : k1 < k2)).1 (by decide) (by decide) ?_
    show Steps p.tables e below (s₁.setTop (mkF m 9 #[.val (.int k1), .val (.int k2)] [])) _
    refine XS.iloadN X0.here hx rfl (hb hby d_jdk_29_method_65_code_9) rfl ?_
    show Steps p.tables e below (s₁.setTop (mkF m 10 #[.val (.int k1), .val (.int k2)] [(.int k2)])) _
    exact retOut X0 hx (t := .int) (i := .ireturn) Bd.returns rfl (Or.inl ⟨rfl, Or.inl rfl, _, rfl⟩) (hb hby d_jdk_29_method_65_code_10) hr
  · show Q_max0 Z k1 k2 r h0 n0 _ s₁.heap _
    rw [e0]
    exact ⟨(by rw [hrr]), N0, rfl⟩
theorem d_jdk_29_method_65_code_5 : decode jdk_29_method_65_code 5 = .ok (.iload_n 0, 1) := by decide +kernel
theorem d_jdk_29_method_65_code_6 : decode jdk_29_method_65_code 6 = .ok (.goto 4, 3) := by decide +kernel
theorem ef_max1 (m : MethodId) (x0 : Int32) (x1 : Int32) : entryFrame m #[(.int x0), (.int x1)] 2 = mkF m 0 #[.val (.int x0), .val (.int x1)] [] := by first | (simp [entryFrame, mkF, argsToLocals, Value.category]; done) | rfl
set_option maxRecDepth 65536 in
set_option maxHeartbeats 40000000 in
theorem rm_max1 (l : Launch) (Z : State) (a0 : Array Value) (hw : ∀ d ∈ tables_1, d.before a0 Z = true) (ws : List Jvm.Cond) (k1 : Int32) (k2 : Int32) (r : Int32) (h0 : Heap) (n0 : Nat) (Z0 : n0 ≤ h0.size) (h1 : ¬ (k1 < k2)) (hrr : r = k1) :
    MetFree l (⟨"java/lang/Math", "max", "(II)I"⟩ : MethodName) (head1 (Jvm.Cond.code (⟨"java/lang/Math", "max", "(II)I"⟩ : MethodName) jdk_29_method_65_code 2 (some .int) :: ws) ({ frames := 0, cells := 0, slots := 0, locals := 0 } : Room)) (fun a U => a = #[(.int k1), (.int k2)] ∧ Z.Warmed39 U.vm ∧ U.heap = h0) (fun _ _ _ _ _ => True) (fun _ U o U' => ∃ v L, o = .returned v ∧ Q_max0 Z k1 k2 r h0 n0 v U'.heap L ∧ FrameEnd U o U' L ({ frames := 0, cells := 0, slots := 0, locals := 0 } : Room).cells ({ frames := 0, cells := 0, slots := 0, locals := 0 } : Room).slots) := by
  refine MetFree.of_bodySF (by decide +kernel) hisR ?_
  intro p e s m args below meth c s₁ Bd hml0 hP hK
  obtain ⟨rfl, hZ, hh⟩ := hP
  have hx := Bd.exec
  have hby := Bd.bytes
  have hml : c.maxLocals = 2 := hml0
  have hown : s.vm.findClass "java/lang/Math" = some m.cls := findClass_of_methodNamed Bd.named
  have hnm := (name_of_methodNamed Bd.named Bd.method).1
  have X0 : Stand p l e ({ frames := 0, cells := 0, slots := 0, locals := 0 } : Room) s m #[(.int k1), (.int k2)] below meth c s₁ [] 0 0 := Stand.of_body Bd
  have e0 : s₁.heap = h0 := by rw [← hh, Bd.state]; rfl
  have N0 := Fr.nil n0
  have P0 : Keep h0 h0 [] := Keep.refl _ _
  have pre0 : ∀ t, Steps p.tables e below (s₁.setTop (mkF m 0 #[.val (.int k1), .val (.int k2)] [])) t → Steps p.tables e below (s₁.setTop (entryFrame m #[(.int k1), (.int k2)] 2)) t := fun t k => castTop (ef_max1 m k1 k2) k
  obtain ⟨fs, hr, hrun, hended, hW, hsame⟩ := X0.leave (v := some (.int k1)) (fun h => by rw [Bd.returns] at h; cases h)
  refine ⟨_, _, pre0 _ ?_, hrun, hended, _, _, rfl, ?_, ⟨_, rfl⟩, hW, hsame.mono (by decide) (by decide)⟩
  · show Steps p.tables e below (s₁.setTop (mkF m 0 #[.val (.int k1), .val (.int k2)] [])) _
    refine XS.iloadN X0.here hx rfl (hb hby d_jdk_29_method_65_code_0) rfl ?_
    show Steps p.tables e below (s₁.setTop (mkF m 1 #[.val (.int k1), .val (.int k2)] [(.int k1)])) _
    refine XS.iloadN X0.here hx rfl (hb hby d_jdk_29_method_65_code_1) rfl ?_
    show Steps p.tables e below (s₁.setTop (mkF m 2 #[.val (.int k1), .val (.int k2)] [(.int k2), (.int k1)])) _
    refine XS.icmpNo X0.here hx rfl (hb hby d_jdk_29_method_65_code_2) rfl (flt (h1 : ¬ (k1 < k2))).1 ?_
    show Steps p.tables e below (s₁.setTop (mkF m 5 #[.val (.int k1), .val (.int k2)] [])) _
    refine XS.iloadN X0.here hx rfl (hb hby d_jdk_29_method_65_code_5) rfl ?_
    show Steps p.tables e below (s₁.setTop (mkF m 6 #[.val (.int k1), .val (.int k2)] [(.int k1)])) _
    refine XS.goto X0.here hx rfl (pc0 := 6) (pc' := 10) rfl (hb hby d_jdk_29_method_65_code_6) (by decide) (by decide) ?_
    show Steps p.tables e below (s₁.setTop (mkF m 10 #[.val (.int k1), .val (.int k2)] [(.int k1)])) _
    exact retOut X0 hx (t := .int) (i := .ireturn) Bd.returns rfl (Or.inl ⟨rfl, Or.inl rfl, _, rfl⟩) (hb hby d_jdk_29_method_65_code_10) hr
  · show Q_max0 Z k1 k2 r h0 n0 _ s₁.heap _
    rw [e0]
    exact ⟨(by rw [hrr]), N0, rfl⟩
set_option maxRecDepth 65536 in
theorem rm_max (l : Launch) (Z : State) (a0 : Array Value) (hw : ∀ d ∈ tables_1, d.before a0 Z = true) (ws : List Jvm.Cond) (k1 : Int32) (k2 : Int32) (r : Int32) (h0 : Heap) (n0 : Nat) (Z0 : n0 ≤ h0.size) (hj : (k1 < k2 ∧ r = k2) ∨ (¬ (k1 < k2) ∧ r = k1)) :
    MetFree l (⟨"java/lang/Math", "max", "(II)I"⟩ : MethodName) (head1 (Jvm.Cond.code (⟨"java/lang/Math", "max", "(II)I"⟩ : MethodName) jdk_29_method_65_code 2 (some .int) :: ws) ({ frames := 0, cells := 0, slots := 0, locals := 0 } : Room)) (fun a U => a = #[(.int k1), (.int k2)] ∧ Z.Warmed39 U.vm ∧ U.heap = h0) (fun _ _ _ _ _ => True) (fun _ U o U' => ∃ v L, o = .returned v ∧ Q_max0 Z k1 k2 r h0 n0 v U'.heap L ∧ FrameEnd U o U' L ({ frames := 0, cells := 0, slots := 0, locals := 0 } : Room).cells ({ frames := 0, cells := 0, slots := 0, locals := 0 } : Room).slots) := by
  rcases hj with ⟨h1, hrr⟩ | ⟨h1, hrr⟩
  · exact rm_max0 l Z a0 hw ws k1 k2 r h0 n0 Z0  h1 hrr
  · exact rm_max1 l Z a0 hw ws k1 k2 r h0 n0 Z0  h1 hrr
theorem d_jdk_29_method_69_code_0 : decode jdk_29_method_69_code 0 = .ok (.iload_n 0, 1) := by decide +kernel
theorem d_jdk_29_method_69_code_1 : decode jdk_29_method_69_code 1 = .ok (.iload_n 1, 1) := by decide +kernel
theorem d_jdk_29_method_69_code_2 : decode jdk_29_method_69_code 2 = .ok (.if_icmp .gt 7, 3) := by decide +kernel
theorem d_jdk_29_method_69_code_9 : decode jdk_29_method_69_code 9 = .ok (.iload_n 1, 1) := by decide +kernel
theorem d_jdk_29_method_69_code_10 : decode jdk_29_method_69_code 10 = .ok (.ireturn, 1) := by decide +kernel
theorem ef_min0 (m : MethodId) (x0 : Int32) (x1 : Int32) : entryFrame m #[(.int x0), (.int x1)] 2 = mkF m 0 #[.val (.int x0), .val (.int x1)] [] := by first | (simp [entryFrame, mkF, argsToLocals, Value.category]; done) | rfl
def Q_min0 (Z : State) (k1 : Int32) (k2 : Int32) (r : Int32) (h0 : Heap) (n0 : Nat) (v : Option Value) (h : Heap) (L : List Loc) : Prop := v = some (.int r) ∧ Fr n0 L ∧ h = h0
set_option maxRecDepth 65536 in
set_option maxHeartbeats 40000000 in
theorem rm_min0 (l : Launch) (Z : State) (a0 : Array Value) (hw : ∀ d ∈ tables_1, d.before a0 Z = true) (ws : List Jvm.Cond) (k1 : Int32) (k2 : Int32) (r : Int32) (h0 : Heap) (n0 : Nat) (Z0 : n0 ≤ h0.size) (h1 : k2 < k1) (hrr : r = k2) :
    MetFree l (⟨"java/lang/Math", "min", "(II)I"⟩ : MethodName) (head1 (Jvm.Cond.code (⟨"java/lang/Math", "min", "(II)I"⟩ : MethodName) jdk_29_method_69_code 2 (some .int) :: ws) ({ frames := 0, cells := 0, slots := 0, locals := 0 } : Room)) (fun a U => a = #[(.int k1), (.int k2)] ∧ Z.Warmed39 U.vm ∧ U.heap = h0) (fun _ _ _ _ _ => True) (fun _ U o U' => ∃ v L, o = .returned v ∧ Q_min0 Z k1 k2 r h0 n0 v U'.heap L ∧ FrameEnd U o U' L ({ frames := 0, cells := 0, slots := 0, locals := 0 } : Room).cells ({ frames := 0, cells := 0, slots := 0, locals := 0 } : Room).slots) := by
  refine MetFree.of_bodySF (by decide +kernel) hisR ?_
  intro p e s m args below meth c s₁ Bd hml0 hP hK
  obtain ⟨rfl, hZ, hh⟩ := hP
  have hx := Bd.exec
  have hby := Bd.bytes
  have hml : c.maxLocals = 2 := hml0
  have hown : s.vm.findClass "java/lang/Math" = some m.cls := findClass_of_methodNamed Bd.named
  have hnm := (name_of_methodNamed Bd.named Bd.method).1
  have X0 : Stand p l e ({ frames := 0, cells := 0, slots := 0, locals := 0 } : Room) s m #[(.int k1), (.int k2)] below meth c s₁ [] 0 0 := Stand.of_body Bd
  have e0 : s₁.heap = h0 := by rw [← hh, Bd.state]; rfl
  have N0 := Fr.nil n0
  have P0 : Keep h0 h0 [] := Keep.refl _ _
  have pre0 : ∀ t, Steps p.tables e below (s₁.setTop (mkF m 0 #[.val (.int k1), .val (.int k2)] [])) t → Steps p.tables e below (s₁.setTop (entryFrame m #[(.int k1), (.int k2)] 2)) t := fun t k => castTop (ef_min0 m k1 k2) k
  obtain ⟨fs, hr, hrun, hended, hW, hsame⟩ := X0.leave (v := some (.int k2)) (fun h => by rw [Bd.returns] at h; cases h)
  refine ⟨_, _, pre0 _ ?_, hrun, hended, _, _, rfl, ?_, ⟨_, rfl⟩, hW, hsame.mono (by decide) (by decide)⟩
  · show Steps p.tables e below (s₁.setTop (mkF m 0 #[.val (.int k1), .val (.int k2)] [])) _
    refine XS.iloadN X0.here hx rfl (hb hby d_jdk_29_method_69_code_0) rfl ?_
    show Steps p.tables e below (s₁.setTop (mkF m 1 #[.val (.int k1), .val (.int k2)] [(.int k1)])) _
    refine XS.iloadN X0.here hx rfl (hb hby d_jdk_29_method_69_code_1) rfl ?_
    show Steps p.tables e below (s₁.setTop (mkF m 2 #[.val (.int k1), .val (.int k2)] [(.int k2), (.int k1)])) _
    refine XS.icmpYes X0.here hx rfl (pc0 := 2) (pc' := 9) rfl (hb hby d_jdk_29_method_69_code_2) rfl (tlt (h1 : k2 < k1)).2.2.1 (by decide) (by decide) ?_
    show Steps p.tables e below (s₁.setTop (mkF m 9 #[.val (.int k1), .val (.int k2)] [])) _
    refine XS.iloadN X0.here hx rfl (hb hby d_jdk_29_method_69_code_9) rfl ?_
    show Steps p.tables e below (s₁.setTop (mkF m 10 #[.val (.int k1), .val (.int k2)] [(.int k2)])) _
    exact retOut X0 hx (t := .int) (i := .ireturn) Bd.returns rfl (Or.inl ⟨rfl, Or.inl rfl, _, rfl⟩) (hb hby d_jdk_29_method_69_code_10) hr
  · show Q_min0 Z k1 k2 r h0 n0 _ s₁.heap _
    rw [e0]
    exact ⟨(by rw [hrr]), N0, rfl⟩
theorem d_jdk_29_method_69_code_5 : decode jdk_29_method_69_code 5 = .ok (.iload_n 0, 1) := by decide +kernel
theorem d_jdk_29_method_69_code_6 : decode jdk_29_method_69_code 6 = .ok (.goto 4, 3) := by decide +kernel
theorem ef_min1 (m : MethodId) (x0 : Int32) (x1 : Int32) : entryFrame m #[(.int x0), (.int x1)] 2 = mkF m 0 #[.val (.int x0), .val (.int x1)] [] := by first | (simp [entryFrame, mkF, argsToLocals, Value.category]; done) | rfl
set_option maxRecDepth 65536 in
set_option maxHeartbeats 40000000 in
theorem rm_min1 (l : Launch) (Z : State) (a0 : Array Value) (hw : ∀ d ∈ tables_1, d.before a0 Z = true) (ws : List Jvm.Cond) (k1 : Int32) (k2 : Int32) (r : Int32) (h0 : Heap) (n0 : Nat) (Z0 : n0 ≤ h0.size) (h1 : ¬ (k2 < k1)) (hrr : r = k1) :
    MetFree l (⟨"java/lang/Math", "min", "(II)I"⟩ : MethodName) (head1 (Jvm.Cond.code (⟨"java/lang/Math", "min", "(II)I"⟩ : MethodName) jdk_29_method_69_code 2 (some .int) :: ws) ({ frames := 0, cells := 0, slots := 0, locals := 0 } : Room)) (fun a U => a = #[(.int k1), (.int k2)] ∧ Z.Warmed39 U.vm ∧ U.heap = h0) (fun _ _ _ _ _ => True) (fun _ U o U' => ∃ v L, o = .returned v ∧ Q_min0 Z k1 k2 r h0 n0 v U'.heap L ∧ FrameEnd U o U' L ({ frames := 0, cells := 0, slots := 0, locals := 0 } : Room).cells ({ frames := 0, cells := 0, slots := 0, locals := 0 } : Room).slots) := by
  refine MetFree.of_bodySF (by decide +kernel) hisR ?_
  intro p e s m args below meth c s₁ Bd hml0 hP hK
  obtain ⟨rfl, hZ, hh⟩ := hP
  have hx := Bd.exec
  have hby := Bd.bytes
  have hml : c.maxLocals = 2 := hml0
  have hown : s.vm.findClass "java/lang/Math" = some m.cls := findClass_of_methodNamed Bd.named
  have hnm := (name_of_methodNamed Bd.named Bd.method).1
  have X0 : Stand p l e ({ frames := 0, cells := 0, slots := 0, locals := 0 } : Room) s m #[(.int k1), (.int k2)] below meth c s₁ [] 0 0 := Stand.of_body Bd
  have e0 : s₁.heap = h0 := by rw [← hh, Bd.state]; rfl
  have N0 := Fr.nil n0
  have P0 : Keep h0 h0 [] := Keep.refl _ _
  have pre0 : ∀ t, Steps p.tables e below (s₁.setTop (mkF m 0 #[.val (.int k1), .val (.int k2)] [])) t → Steps p.tables e below (s₁.setTop (entryFrame m #[(.int k1), (.int k2)] 2)) t := fun t k => castTop (ef_min1 m k1 k2) k
  obtain ⟨fs, hr, hrun, hended, hW, hsame⟩ := X0.leave (v := some (.int k1)) (fun h => by rw [Bd.returns] at h; cases h)
  refine ⟨_, _, pre0 _ ?_, hrun, hended, _, _, rfl, ?_, ⟨_, rfl⟩, hW, hsame.mono (by decide) (by decide)⟩
  · show Steps p.tables e below (s₁.setTop (mkF m 0 #[.val (.int k1), .val (.int k2)] [])) _
    refine XS.iloadN X0.here hx rfl (hb hby d_jdk_29_method_69_code_0) rfl ?_
    show Steps p.tables e below (s₁.setTop (mkF m 1 #[.val (.int k1), .val (.int k2)] [(.int k1)])) _
    refine XS.iloadN X0.here hx rfl (hb hby d_jdk_29_method_69_code_1) rfl ?_
    show Steps p.tables e below (s₁.setTop (mkF m 2 #[.val (.int k1), .val (.int k2)] [(.int k2), (.int k1)])) _
    refine XS.icmpNo X0.here hx rfl (hb hby d_jdk_29_method_69_code_2) rfl (flt (h1 : ¬ (k2 < k1))).2.2.1 ?_
    show Steps p.tables e below (s₁.setTop (mkF m 5 #[.val (.int k1), .val (.int k2)] [])) _
    refine XS.iloadN X0.here hx rfl (hb hby d_jdk_29_method_69_code_5) rfl ?_
    show Steps p.tables e below (s₁.setTop (mkF m 6 #[.val (.int k1), .val (.int k2)] [(.int k1)])) _
    refine XS.goto X0.here hx rfl (pc0 := 6) (pc' := 10) rfl (hb hby d_jdk_29_method_69_code_6) (by decide) (by decide) ?_
    show Steps p.tables e below (s₁.setTop (mkF m 10 #[.val (.int k1), .val (.int k2)] [(.int k1)])) _
    exact retOut X0 hx (t := .int) (i := .ireturn) Bd.returns rfl (Or.inl ⟨rfl, Or.inl rfl, _, rfl⟩) (hb hby d_jdk_29_method_69_code_10) hr
  · show Q_min0 Z k1 k2 r h0 n0 _ s₁.heap _
    rw [e0]
    exact ⟨(by rw [hrr]), N0, rfl⟩
set_option maxRecDepth 65536 in
theorem rm_min (l : Launch) (Z : State) (a0 : Array Value) (hw : ∀ d ∈ tables_1, d.before a0 Z = true) (ws : List Jvm.Cond) (k1 : Int32) (k2 : Int32) (r : Int32) (h0 : Heap) (n0 : Nat) (Z0 : n0 ≤ h0.size) (hj : (k2 < k1 ∧ r = k2) ∨ (¬ (k2 < k1) ∧ r = k1)) :
    MetFree l (⟨"java/lang/Math", "min", "(II)I"⟩ : MethodName) (head1 (Jvm.Cond.code (⟨"java/lang/Math", "min", "(II)I"⟩ : MethodName) jdk_29_method_69_code 2 (some .int) :: ws) ({ frames := 0, cells := 0, slots := 0, locals := 0 } : Room)) (fun a U => a = #[(.int k1), (.int k2)] ∧ Z.Warmed39 U.vm ∧ U.heap = h0) (fun _ _ _ _ _ => True) (fun _ U o U' => ∃ v L, o = .returned v ∧ Q_min0 Z k1 k2 r h0 n0 v U'.heap L ∧ FrameEnd U o U' L ({ frames := 0, cells := 0, slots := 0, locals := 0 } : Room).cells ({ frames := 0, cells := 0, slots := 0, locals := 0 } : Room).slots) := by
  rcases hj with ⟨h1, hrr⟩ | ⟨h1, hrr⟩
  · exact rm_min0 l Z a0 hw ws k1 k2 r h0 n0 Z0  h1 hrr
  · exact rm_min1 l Z a0 hw ws k1 k2 r h0 n0 Z0  h1 hrr
theorem own_n1 (hi lo : Int32) : NoNaN64 (FP.dsub (FP.i2d hi) (FP.i2d lo)) := dsub_out (i2d_fin hi).noNaN (i2d_fin lo)
theorem own_n2 (hi : Int32) : NoNaN64 (FP.dmul (4472406533629990549 : UInt64) (FP.i2d hi)) := dmul_out (fin64_core.mpr own_fq) (i2d_fin hi)
theorem d_prog_91_method_5_code_0 : decode prog_91_method_5_code 0 = .ok (.dload_n 2, 1) := by decide +kernel
theorem d_prog_91_method_5_code_1 : decode prog_91_method_5_code 1 = .ok (.dload_n 0, 1) := by decide +kernel
theorem d_prog_91_method_5_code_2 : decode prog_91_method_5_code 2 = .ok (.dcmp .l, 1) := by decide +kernel
theorem d_prog_91_method_5_code_3 : decode prog_91_method_5_code 3 = .ok (.ifCond .eq 15, 3) := by decide +kernel
theorem d_prog_91_method_5_code_18 : decode prog_91_method_5_code 18 = .ok (.iconst 1, 1) := by decide +kernel
theorem d_prog_91_method_5_code_19 : decode prog_91_method_5_code 19 = .ok (.goto 4, 3) := by decide +kernel
theorem d_prog_91_method_5_code_23 : decode prog_91_method_5_code 23 = .ok (.ireturn, 1) := by decide +kernel
theorem pn_com_example_usher_usher_strategy_RankQueue : plainName "com/example/usher/usher/strategy/RankQueue" = true := by first | (simp [plainName, overriddenIn]; done) | decide +kernel
theorem ef_sr0 (m : MethodId) (x0 : UInt64) (x1 : UInt64) : entryFrame m #[(.double x0), (.double x1)] 4 = mkF m 0 #[.val (.double x0), .second, .val (.double x1), .second] [] := by first | (simp [entryFrame, mkF, argsToLocals, Value.category]; done) | rfl
def Q_sr0 (Z : State) (hi : Int32) (lo : Int32) (r : Int32) (h0 : Heap) (n0 : Nat) (v : Option Value) (h : Heap) (L : List Loc) : Prop := v = some (.int r) ∧ Fr n0 L ∧ h = h0
set_option maxRecDepth 65536 in
set_option maxHeartbeats 40000000 in
theorem rm_sr0 (l : Launch) (Z : State) (a0 : Array Value) (hw : ∀ d ∈ tables_1, d.before a0 Z = true) (ws : List Jvm.Cond) (hi : Int32) (lo : Int32) (r : Int32) (h0 : Heap) (n0 : Nat) (Z0 : n0 ≤ h0.size) (h1 : (cmpValue (FP.dcmp (FP.i2d lo) (FP.i2d hi)) .l) = (0 : Int32)) (hrr : r = 1) :
    MetFree l (⟨"com/example/usher/usher/strategy/RankQueue", "sameRank", "(DD)Z"⟩ : MethodName) (head1 (Jvm.Cond.code (⟨"com/example/usher/usher/strategy/RankQueue", "sameRank", "(DD)Z"⟩ : MethodName) prog_91_method_5_code 4 (some .boolean) :: ws) ({ frames := 0, cells := 0, slots := 0, locals := 0 } : Room)) (fun a U => a = #[(.double (FP.i2d hi)), (.double (FP.i2d lo))] ∧ Z.Warmed39 U.vm ∧ U.heap = h0) (fun _ _ _ _ _ => True) (fun _ U o U' => ∃ v L, o = .returned v ∧ Q_sr0 Z hi lo r h0 n0 v U'.heap L ∧ FrameEnd U o U' L ({ frames := 0, cells := 0, slots := 0, locals := 0 } : Room).cells ({ frames := 0, cells := 0, slots := 0, locals := 0 } : Room).slots) := by
  refine MetFree.of_bodySF (plainFor_of_name pn_com_example_usher_usher_strategy_RankQueue) hisR ?_
  intro p e s m args below meth c s₁ Bd hml0 hP hK
  obtain ⟨rfl, hZ, hh⟩ := hP
  have hx := Bd.exec
  have hby := Bd.bytes
  have hml : c.maxLocals = 4 := hml0
  have hown : s.vm.findClass "com/example/usher/usher/strategy/RankQueue" = some m.cls := findClass_of_methodNamed Bd.named
  have hnm := (name_of_methodNamed Bd.named Bd.method).1
  have X0 : Stand p l e ({ frames := 0, cells := 0, slots := 0, locals := 0 } : Room) s m #[(.double (FP.i2d hi)), (.double (FP.i2d lo))] below meth c s₁ [] 0 0 := Stand.of_body Bd
  have e0 : s₁.heap = h0 := by rw [← hh, Bd.state]; rfl
  have N0 := Fr.nil n0
  have P0 : Keep h0 h0 [] := Keep.refl _ _
  have pre0 : ∀ t, Steps p.tables e below (s₁.setTop (mkF m 0 #[.val (.double (FP.i2d hi)), .second, .val (.double (FP.i2d lo)), .second] [])) t → Steps p.tables e below (s₁.setTop (entryFrame m #[(.double (FP.i2d hi)), (.double (FP.i2d lo))] 4)) t := fun t k => castTop (ef_sr0 m (FP.i2d hi) (FP.i2d lo)) k
  obtain ⟨fs, hr, hrun, hended, hW, hsame⟩ := X0.leave (v := some (.int (1 : Int32))) (fun h => by rw [Bd.returns] at h; cases h)
  refine ⟨_, _, pre0 _ ?_, hrun, hended, _, _, rfl, ?_, ⟨_, rfl⟩, hW, hsame.mono (by decide) (by decide)⟩
  · show Steps p.tables e below (s₁.setTop (mkF m 0 #[.val (.double (FP.i2d hi)), .second, .val (.double (FP.i2d lo)), .second] [])) _
    refine XS.dloadN X0.here hx rfl (hb hby d_prog_91_method_5_code_0) rfl ?_
    show Steps p.tables e below (s₁.setTop (mkF m 1 #[.val (.double (FP.i2d hi)), .second, .val (.double (FP.i2d lo)), .second] [(.double (FP.i2d lo))])) _
    refine XS.dloadN X0.here hx rfl (hb hby d_prog_91_method_5_code_1) rfl ?_
    show Steps p.tables e below (s₁.setTop (mkF m 2 #[.val (.double (FP.i2d hi)), .second, .val (.double (FP.i2d lo)), .second] [(.double (FP.i2d hi)), (.double (FP.i2d lo))])) _
    refine XS.dcmpS X0.here hx rfl (hb hby d_prog_91_method_5_code_2) rfl rfl ?_
    show Steps p.tables e below (s₁.setTop (mkF m 3 #[.val (.double (FP.i2d hi)), .second, .val (.double (FP.i2d lo)), .second] [(.int (cmpValue (FP.dcmp (FP.i2d lo) (FP.i2d hi)) .l))])) _
    refine XS.ifYes X0.here hx rfl (pc0 := 3) (pc' := 18) rfl (hb hby d_prog_91_method_5_code_3) rfl ((if0 _ _).trans (teq (h1 : (cmpValue (FP.dcmp (FP.i2d lo) (FP.i2d hi)) .l) = (0 : Int32))).1) (by decide) (by decide) ?_
    show Steps p.tables e below (s₁.setTop (mkF m 18 #[.val (.double (FP.i2d hi)), .second, .val (.double (FP.i2d lo)), .second] [])) _
    refine XS.iconst X0.here hx rfl (hb hby d_prog_91_method_5_code_18) ?_
    show Steps p.tables e below (s₁.setTop (mkF m 19 #[.val (.double (FP.i2d hi)), .second, .val (.double (FP.i2d lo)), .second] [(.int (1 : Int32))])) _
    refine XS.goto X0.here hx rfl (pc0 := 19) (pc' := 23) rfl (hb hby d_prog_91_method_5_code_19) (by decide) (by decide) ?_
    show Steps p.tables e below (s₁.setTop (mkF m 23 #[.val (.double (FP.i2d hi)), .second, .val (.double (FP.i2d lo)), .second] [(.int (1 : Int32))])) _
    exact retOut X0 hx (t := .boolean) (i := .ireturn) Bd.returns rfl (Or.inl ⟨rfl, Or.inr (Or.inl rfl), _, rfl⟩) (hb hby d_prog_91_method_5_code_23) hr
  · show Q_sr0 Z hi lo r h0 n0 _ s₁.heap _
    rw [e0]
    exact ⟨(by rw [hrr]), N0, rfl⟩
theorem d_prog_91_method_5_code_6 : decode prog_91_method_5_code 6 = .ok (.dload_n 0, 1) := by decide +kernel
theorem d_prog_91_method_5_code_7 : decode prog_91_method_5_code 7 = .ok (.dload_n 2, 1) := by decide +kernel
theorem d_prog_91_method_5_code_8 : decode prog_91_method_5_code 8 = .ok (.dsub, 1) := by decide +kernel
theorem d_prog_91_method_5_code_9 : decode prog_91_method_5_code 9 = .ok (.ldc2_w 121, 3) := by decide +kernel
theorem d_prog_91_method_5_code_12 : decode prog_91_method_5_code 12 = .ok (.dload_n 0, 1) := by decide +kernel
theorem d_prog_91_method_5_code_13 : decode prog_91_method_5_code 13 = .ok (.dmul, 1) := by decide +kernel
theorem d_prog_91_method_5_code_14 : decode prog_91_method_5_code 14 = .ok (.dcmp .g, 1) := by decide +kernel
theorem d_prog_91_method_5_code_15 : decode prog_91_method_5_code 15 = .ok (.ifCond .ge 7, 3) := by decide +kernel
theorem d_prog_91_method_5_code_22 : decode prog_91_method_5_code 22 = .ok (.iconst 0, 1) := by decide +kernel
theorem ef_sr1 (m : MethodId) (x0 : UInt64) (x1 : UInt64) : entryFrame m #[(.double x0), (.double x1)] 4 = mkF m 0 #[.val (.double x0), .second, .val (.double x1), .second] [] := by first | (simp [entryFrame, mkF, argsToLocals, Value.category]; done) | rfl
set_option maxRecDepth 65536 in
set_option maxHeartbeats 40000000 in
theorem rm_sr1 (l : Launch) (Z : State) (a0 : Array Value) (hw : ∀ d ∈ tables_1, d.before a0 Z = true) (ws : List Jvm.Cond) (hi : Int32) (lo : Int32) (r : Int32) (h0 : Heap) (n0 : Nat) (Z0 : n0 ≤ h0.size) (h1 : ¬ ((cmpValue (FP.dcmp (FP.i2d lo) (FP.i2d hi)) .l) = (0 : Int32))) (h2 : ¬ ((cmpValue (FP.dcmp (FP.dsub (FP.i2d hi) (FP.i2d lo)) (FP.dmul (4472406533629990549 : UInt64) (FP.i2d hi))) .g) < (0 : Int32))) (hrr : r = 0) :
    MetFree l (⟨"com/example/usher/usher/strategy/RankQueue", "sameRank", "(DD)Z"⟩ : MethodName) (head1 (Jvm.Cond.code (⟨"com/example/usher/usher/strategy/RankQueue", "sameRank", "(DD)Z"⟩ : MethodName) prog_91_method_5_code 4 (some .boolean) :: ws) ({ frames := 0, cells := 0, slots := 0, locals := 0 } : Room)) (fun a U => a = #[(.double (FP.i2d hi)), (.double (FP.i2d lo))] ∧ Z.Warmed39 U.vm ∧ U.heap = h0) (fun _ _ _ _ _ => True) (fun _ U o U' => ∃ v L, o = .returned v ∧ Q_sr0 Z hi lo r h0 n0 v U'.heap L ∧ FrameEnd U o U' L ({ frames := 0, cells := 0, slots := 0, locals := 0 } : Room).cells ({ frames := 0, cells := 0, slots := 0, locals := 0 } : Room).slots) := by
  refine MetFree.of_bodySF (plainFor_of_name pn_com_example_usher_usher_strategy_RankQueue) hisR ?_
  intro p e s m args below meth c s₁ Bd hml0 hP hK
  obtain ⟨rfl, hZ, hh⟩ := hP
  have hx := Bd.exec
  have hby := Bd.bytes
  have hml : c.maxLocals = 4 := hml0
  have hown : s.vm.findClass "com/example/usher/usher/strategy/RankQueue" = some m.cls := findClass_of_methodNamed Bd.named
  have hnm := (name_of_methodNamed Bd.named Bd.method).1
  have X0 : Stand p l e ({ frames := 0, cells := 0, slots := 0, locals := 0 } : Room) s m #[(.double (FP.i2d hi)), (.double (FP.i2d lo))] below meth c s₁ [] 0 0 := Stand.of_body Bd
  have e0 : s₁.heap = h0 := by rw [← hh, Bd.state]; rfl
  have N0 := Fr.nil n0
  have P0 : Keep h0 h0 [] := Keep.refl _ _
  have pre0 : ∀ t, Steps p.tables e below (s₁.setTop (mkF m 0 #[.val (.double (FP.i2d hi)), .second, .val (.double (FP.i2d lo)), .second] [])) t → Steps p.tables e below (s₁.setTop (entryFrame m #[(.double (FP.i2d hi)), (.double (FP.i2d lo))] 4)) t := fun t k => castTop (ef_sr1 m (FP.i2d hi) (FP.i2d lo)) k
  obtain ⟨fs, hr, hrun, hended, hW, hsame⟩ := X0.leave (v := some (.int (0 : Int32))) (fun h => by rw [Bd.returns] at h; cases h)
  refine ⟨_, _, pre0 _ ?_, hrun, hended, _, _, rfl, ?_, ⟨_, rfl⟩, hW, hsame.mono (by decide) (by decide)⟩
  · show Steps p.tables e below (s₁.setTop (mkF m 0 #[.val (.double (FP.i2d hi)), .second, .val (.double (FP.i2d lo)), .second] [])) _
    refine XS.dloadN X0.here hx rfl (hb hby d_prog_91_method_5_code_0) rfl ?_
    show Steps p.tables e below (s₁.setTop (mkF m 1 #[.val (.double (FP.i2d hi)), .second, .val (.double (FP.i2d lo)), .second] [(.double (FP.i2d lo))])) _
    refine XS.dloadN X0.here hx rfl (hb hby d_prog_91_method_5_code_1) rfl ?_
    show Steps p.tables e below (s₁.setTop (mkF m 2 #[.val (.double (FP.i2d hi)), .second, .val (.double (FP.i2d lo)), .second] [(.double (FP.i2d hi)), (.double (FP.i2d lo))])) _
    refine XS.dcmpS X0.here hx rfl (hb hby d_prog_91_method_5_code_2) rfl rfl ?_
    show Steps p.tables e below (s₁.setTop (mkF m 3 #[.val (.double (FP.i2d hi)), .second, .val (.double (FP.i2d lo)), .second] [(.int (cmpValue (FP.dcmp (FP.i2d lo) (FP.i2d hi)) .l))])) _
    refine XS.ifNo X0.here hx rfl (hb hby d_prog_91_method_5_code_3) rfl ((if0 _ _).trans (feq (h1 : ¬ ((cmpValue (FP.dcmp (FP.i2d lo) (FP.i2d hi)) .l) = (0 : Int32)))).1) ?_
    show Steps p.tables e below (s₁.setTop (mkF m 6 #[.val (.double (FP.i2d hi)), .second, .val (.double (FP.i2d lo)), .second] [])) _
    refine XS.dloadN X0.here hx rfl (hb hby d_prog_91_method_5_code_6) rfl ?_
    show Steps p.tables e below (s₁.setTop (mkF m 7 #[.val (.double (FP.i2d hi)), .second, .val (.double (FP.i2d lo)), .second] [(.double (FP.i2d hi))])) _
    refine XS.dloadN X0.here hx rfl (hb hby d_prog_91_method_5_code_7) rfl ?_
    show Steps p.tables e below (s₁.setTop (mkF m 8 #[.val (.double (FP.i2d hi)), .second, .val (.double (FP.i2d lo)), .second] [(.double (FP.i2d lo)), (.double (FP.i2d hi))])) _
    refine XS.dsubS X0.here hx rfl (hb hby d_prog_91_method_5_code_8) rfl (own_n1 hi lo) rfl ?_
    show Steps p.tables e below (s₁.setTop (mkF m 9 #[.val (.double (FP.i2d hi)), .second, .val (.double (FP.i2d lo)), .second] [(.double (FP.dsub (FP.i2d hi) (FP.i2d lo)))])) _
    refine X0.ldc2DoubleC hx hown (mvT hZ (hw _ (List.mem_of_getElem? (i := 12) rfl))) (g := (mkF m 9 #[.val (.double (FP.i2d hi)), .second, .val (.double (FP.i2d lo)), .second] [(.double (FP.dsub (FP.i2d hi) (FP.i2d lo)))])) rfl (hb hby d_prog_91_method_5_code_9) _ ?_
    show Steps p.tables e below (s₁.setTop (mkF m 12 #[.val (.double (FP.i2d hi)), .second, .val (.double (FP.i2d lo)), .second] [(.double (4472406533629990549 : UInt64)), (.double (FP.dsub (FP.i2d hi) (FP.i2d lo)))])) _
    refine XS.dloadN X0.here hx rfl (hb hby d_prog_91_method_5_code_12) rfl ?_
    show Steps p.tables e below (s₁.setTop (mkF m 13 #[.val (.double (FP.i2d hi)), .second, .val (.double (FP.i2d lo)), .second] [(.double (FP.i2d hi)), (.double (4472406533629990549 : UInt64)), (.double (FP.dsub (FP.i2d hi) (FP.i2d lo)))])) _
    refine XS.dmulS X0.here hx rfl (hb hby d_prog_91_method_5_code_13) rfl (own_n2 hi) rfl ?_
    show Steps p.tables e below (s₁.setTop (mkF m 14 #[.val (.double (FP.i2d hi)), .second, .val (.double (FP.i2d lo)), .second] [(.double (FP.dmul (4472406533629990549 : UInt64) (FP.i2d hi))), (.double (FP.dsub (FP.i2d hi) (FP.i2d lo)))])) _
    refine XS.dcmpS X0.here hx rfl (hb hby d_prog_91_method_5_code_14) rfl rfl ?_
    show Steps p.tables e below (s₁.setTop (mkF m 15 #[.val (.double (FP.i2d hi)), .second, .val (.double (FP.i2d lo)), .second] [(.int (cmpValue (FP.dcmp (FP.dsub (FP.i2d hi) (FP.i2d lo)) (FP.dmul (4472406533629990549 : UInt64) (FP.i2d hi))) .g))])) _
    refine XS.ifYes X0.here hx rfl (pc0 := 15) (pc' := 22) rfl (hb hby d_prog_91_method_5_code_15) rfl ((if0 _ _).trans (flt (h2 : ¬ ((cmpValue (FP.dcmp (FP.dsub (FP.i2d hi) (FP.i2d lo)) (FP.dmul (4472406533629990549 : UInt64) (FP.i2d hi))) .g) < (0 : Int32)))).2.1) (by decide) (by decide) ?_
    show Steps p.tables e below (s₁.setTop (mkF m 22 #[.val (.double (FP.i2d hi)), .second, .val (.double (FP.i2d lo)), .second] [])) _
    refine XS.iconst X0.here hx rfl (hb hby d_prog_91_method_5_code_22) ?_
    show Steps p.tables e below (s₁.setTop (mkF m 23 #[.val (.double (FP.i2d hi)), .second, .val (.double (FP.i2d lo)), .second] [(.int (0 : Int32))])) _
    exact retOut X0 hx (t := .boolean) (i := .ireturn) Bd.returns rfl (Or.inl ⟨rfl, Or.inr (Or.inl rfl), _, rfl⟩) (hb hby d_prog_91_method_5_code_23) hr
  · show Q_sr0 Z hi lo r h0 n0 _ s₁.heap _
    rw [e0]
    exact ⟨(by rw [hrr]), N0, rfl⟩
theorem ef_sr2 (m : MethodId) (x0 : UInt64) (x1 : UInt64) : entryFrame m #[(.double x0), (.double x1)] 4 = mkF m 0 #[.val (.double x0), .second, .val (.double x1), .second] [] := by first | (simp [entryFrame, mkF, argsToLocals, Value.category]; done) | rfl
set_option maxRecDepth 65536 in
set_option maxHeartbeats 40000000 in
theorem rm_sr2 (l : Launch) (Z : State) (a0 : Array Value) (hw : ∀ d ∈ tables_1, d.before a0 Z = true) (ws : List Jvm.Cond) (hi : Int32) (lo : Int32) (r : Int32) (h0 : Heap) (n0 : Nat) (Z0 : n0 ≤ h0.size) (h1 : ¬ ((cmpValue (FP.dcmp (FP.i2d lo) (FP.i2d hi)) .l) = (0 : Int32))) (h2 : (cmpValue (FP.dcmp (FP.dsub (FP.i2d hi) (FP.i2d lo)) (FP.dmul (4472406533629990549 : UInt64) (FP.i2d hi))) .g) < (0 : Int32)) (hrr : r = 1) :
    MetFree l (⟨"com/example/usher/usher/strategy/RankQueue", "sameRank", "(DD)Z"⟩ : MethodName) (head1 (Jvm.Cond.code (⟨"com/example/usher/usher/strategy/RankQueue", "sameRank", "(DD)Z"⟩ : MethodName) prog_91_method_5_code 4 (some .boolean) :: ws) ({ frames := 0, cells := 0, slots := 0, locals := 0 } : Room)) (fun a U => a = #[(.double (FP.i2d hi)), (.double (FP.i2d lo))] ∧ Z.Warmed39 U.vm ∧ U.heap = h0) (fun _ _ _ _ _ => True) (fun _ U o U' => ∃ v L, o = .returned v ∧ Q_sr0 Z hi lo r h0 n0 v U'.heap L ∧ FrameEnd U o U' L ({ frames := 0, cells := 0, slots := 0, locals := 0 } : Room).cells ({ frames := 0, cells := 0, slots := 0, locals := 0 } : Room).slots) := by
  refine MetFree.of_bodySF (plainFor_of_name pn_com_example_usher_usher_strategy_RankQueue) hisR ?_
  intro p e s m args below meth c s₁ Bd hml0 hP hK
  obtain ⟨rfl, hZ, hh⟩ := hP
  have hx := Bd.exec
  have hby := Bd.bytes
  have hml : c.maxLocals = 4 := hml0
  have hown : s.vm.findClass "com/example/usher/usher/strategy/RankQueue" = some m.cls := findClass_of_methodNamed Bd.named
  have hnm := (name_of_methodNamed Bd.named Bd.method).1
  have X0 : Stand p l e ({ frames := 0, cells := 0, slots := 0, locals := 0 } : Room) s m #[(.double (FP.i2d hi)), (.double (FP.i2d lo))] below meth c s₁ [] 0 0 := Stand.of_body Bd
  have e0 : s₁.heap = h0 := by rw [← hh, Bd.state]; rfl
  have N0 := Fr.nil n0
  have P0 : Keep h0 h0 [] := Keep.refl _ _
  have pre0 : ∀ t, Steps p.tables e below (s₁.setTop (mkF m 0 #[.val (.double (FP.i2d hi)), .second, .val (.double (FP.i2d lo)), .second] [])) t → Steps p.tables e below (s₁.setTop (entryFrame m #[(.double (FP.i2d hi)), (.double (FP.i2d lo))] 4)) t := fun t k => castTop (ef_sr2 m (FP.i2d hi) (FP.i2d lo)) k
  obtain ⟨fs, hr, hrun, hended, hW, hsame⟩ := X0.leave (v := some (.int (1 : Int32))) (fun h => by rw [Bd.returns] at h; cases h)
  refine ⟨_, _, pre0 _ ?_, hrun, hended, _, _, rfl, ?_, ⟨_, rfl⟩, hW, hsame.mono (by decide) (by decide)⟩
  · show Steps p.tables e below (s₁.setTop (mkF m 0 #[.val (.double (FP.i2d hi)), .second, .val (.double (FP.i2d lo)), .second] [])) _
    refine XS.dloadN X0.here hx rfl (hb hby d_prog_91_method_5_code_0) rfl ?_
    show Steps p.tables e below (s₁.setTop (mkF m 1 #[.val (.double (FP.i2d hi)), .second, .val (.double (FP.i2d lo)), .second] [(.double (FP.i2d lo))])) _
    refine XS.dloadN X0.here hx rfl (hb hby d_prog_91_method_5_code_1) rfl ?_
    show Steps p.tables e below (s₁.setTop (mkF m 2 #[.val (.double (FP.i2d hi)), .second, .val (.double (FP.i2d lo)), .second] [(.double (FP.i2d hi)), (.double (FP.i2d lo))])) _
    refine XS.dcmpS X0.here hx rfl (hb hby d_prog_91_method_5_code_2) rfl rfl ?_
    show Steps p.tables e below (s₁.setTop (mkF m 3 #[.val (.double (FP.i2d hi)), .second, .val (.double (FP.i2d lo)), .second] [(.int (cmpValue (FP.dcmp (FP.i2d lo) (FP.i2d hi)) .l))])) _
    refine XS.ifNo X0.here hx rfl (hb hby d_prog_91_method_5_code_3) rfl ((if0 _ _).trans (feq (h1 : ¬ ((cmpValue (FP.dcmp (FP.i2d lo) (FP.i2d hi)) .l) = (0 : Int32)))).1) ?_
    show Steps p.tables e below (s₁.setTop (mkF m 6 #[.val (.double (FP.i2d hi)), .second, .val (.double (FP.i2d lo)), .second] [])) _
    refine XS.dloadN X0.here hx rfl (hb hby d_prog_91_method_5_code_6) rfl ?_
    show Steps p.tables e below (s₁.setTop (mkF m 7 #[.val (.double (FP.i2d hi)), .second, .val (.double (FP.i2d lo)), .second] [(.double (FP.i2d hi))])) _
    refine XS.dloadN X0.here hx rfl (hb hby d_prog_91_method_5_code_7) rfl ?_
    show Steps p.tables e below (s₁.setTop (mkF m 8 #[.val (.double (FP.i2d hi)), .second, .val (.double (FP.i2d lo)), .second] [(.double (FP.i2d lo)), (.double (FP.i2d hi))])) _
    refine XS.dsubS X0.here hx rfl (hb hby d_prog_91_method_5_code_8) rfl (own_n1 hi lo) rfl ?_
    show Steps p.tables e below (s₁.setTop (mkF m 9 #[.val (.double (FP.i2d hi)), .second, .val (.double (FP.i2d lo)), .second] [(.double (FP.dsub (FP.i2d hi) (FP.i2d lo)))])) _
    refine X0.ldc2DoubleC hx hown (mvT hZ (hw _ (List.mem_of_getElem? (i := 12) rfl))) (g := (mkF m 9 #[.val (.double (FP.i2d hi)), .second, .val (.double (FP.i2d lo)), .second] [(.double (FP.dsub (FP.i2d hi) (FP.i2d lo)))])) rfl (hb hby d_prog_91_method_5_code_9) _ ?_
    show Steps p.tables e below (s₁.setTop (mkF m 12 #[.val (.double (FP.i2d hi)), .second, .val (.double (FP.i2d lo)), .second] [(.double (4472406533629990549 : UInt64)), (.double (FP.dsub (FP.i2d hi) (FP.i2d lo)))])) _
    refine XS.dloadN X0.here hx rfl (hb hby d_prog_91_method_5_code_12) rfl ?_
    show Steps p.tables e below (s₁.setTop (mkF m 13 #[.val (.double (FP.i2d hi)), .second, .val (.double (FP.i2d lo)), .second] [(.double (FP.i2d hi)), (.double (4472406533629990549 : UInt64)), (.double (FP.dsub (FP.i2d hi) (FP.i2d lo)))])) _
    refine XS.dmulS X0.here hx rfl (hb hby d_prog_91_method_5_code_13) rfl (own_n2 hi) rfl ?_
    show Steps p.tables e below (s₁.setTop (mkF m 14 #[.val (.double (FP.i2d hi)), .second, .val (.double (FP.i2d lo)), .second] [(.double (FP.dmul (4472406533629990549 : UInt64) (FP.i2d hi))), (.double (FP.dsub (FP.i2d hi) (FP.i2d lo)))])) _
    refine XS.dcmpS X0.here hx rfl (hb hby d_prog_91_method_5_code_14) rfl rfl ?_
    show Steps p.tables e below (s₁.setTop (mkF m 15 #[.val (.double (FP.i2d hi)), .second, .val (.double (FP.i2d lo)), .second] [(.int (cmpValue (FP.dcmp (FP.dsub (FP.i2d hi) (FP.i2d lo)) (FP.dmul (4472406533629990549 : UInt64) (FP.i2d hi))) .g))])) _
    refine XS.ifNo X0.here hx rfl (hb hby d_prog_91_method_5_code_15) rfl ((if0 _ _).trans (tlt (h2 : (cmpValue (FP.dcmp (FP.dsub (FP.i2d hi) (FP.i2d lo)) (FP.dmul (4472406533629990549 : UInt64) (FP.i2d hi))) .g) < (0 : Int32))).2.1) ?_
    show Steps p.tables e below (s₁.setTop (mkF m 18 #[.val (.double (FP.i2d hi)), .second, .val (.double (FP.i2d lo)), .second] [])) _
    refine XS.iconst X0.here hx rfl (hb hby d_prog_91_method_5_code_18) ?_
    show Steps p.tables e below (s₁.setTop (mkF m 19 #[.val (.double (FP.i2d hi)), .second, .val (.double (FP.i2d lo)), .second] [(.int (1 : Int32))])) _
    refine XS.goto X0.here hx rfl (pc0 := 19) (pc' := 23) rfl (hb hby d_prog_91_method_5_code_19) (by decide) (by decide) ?_
    show Steps p.tables e below (s₁.setTop (mkF m 23 #[.val (.double (FP.i2d hi)), .second, .val (.double (FP.i2d lo)), .second] [(.int (1 : Int32))])) _
    exact retOut X0 hx (t := .boolean) (i := .ireturn) Bd.returns rfl (Or.inl ⟨rfl, Or.inr (Or.inl rfl), _, rfl⟩) (hb hby d_prog_91_method_5_code_23) hr
  · show Q_sr0 Z hi lo r h0 n0 _ s₁.heap _
    rw [e0]
    exact ⟨(by rw [hrr]), N0, rfl⟩
set_option maxRecDepth 65536 in
theorem rm_same (l : Launch) (Z : State) (a0 : Array Value) (hw : ∀ d ∈ tables_1, d.before a0 Z = true) (ws : List Jvm.Cond) (hi : Int32) (lo : Int32) (r : Int32) (h0 : Heap) (n0 : Nat) (Z0 : n0 ≤ h0.size) (hj : ((cmpValue (FP.dcmp (FP.i2d lo) (FP.i2d hi)) .l) = (0 : Int32) ∧ r = 1) ∨ (¬ ((cmpValue (FP.dcmp (FP.i2d lo) (FP.i2d hi)) .l) = (0 : Int32)) ∧ ¬ ((cmpValue (FP.dcmp (FP.dsub (FP.i2d hi) (FP.i2d lo)) (FP.dmul (4472406533629990549 : UInt64) (FP.i2d hi))) .g) < (0 : Int32)) ∧ r = 0) ∨ (¬ ((cmpValue (FP.dcmp (FP.i2d lo) (FP.i2d hi)) .l) = (0 : Int32)) ∧ (cmpValue (FP.dcmp (FP.dsub (FP.i2d hi) (FP.i2d lo)) (FP.dmul (4472406533629990549 : UInt64) (FP.i2d hi))) .g) < (0 : Int32) ∧ r = 1)) :
    MetFree l (⟨"com/example/usher/usher/strategy/RankQueue", "sameRank", "(DD)Z"⟩ : MethodName) (head1 (Jvm.Cond.code (⟨"com/example/usher/usher/strategy/RankQueue", "sameRank", "(DD)Z"⟩ : MethodName) prog_91_method_5_code 4 (some .boolean) :: ws) ({ frames := 0, cells := 0, slots := 0, locals := 0 } : Room)) (fun a U => a = #[(.double (FP.i2d hi)), (.double (FP.i2d lo))] ∧ Z.Warmed39 U.vm ∧ U.heap = h0) (fun _ _ _ _ _ => True) (fun _ U o U' => ∃ v L, o = .returned v ∧ Q_sr0 Z hi lo r h0 n0 v U'.heap L ∧ FrameEnd U o U' L ({ frames := 0, cells := 0, slots := 0, locals := 0 } : Room).cells ({ frames := 0, cells := 0, slots := 0, locals := 0 } : Room).slots) := by
  rcases hj with ⟨h1, hrr⟩ | ⟨h1, h2, hrr⟩ | ⟨h1, h2, hrr⟩
  · exact rm_sr0 l Z a0 hw ws hi lo r h0 n0 Z0  h1 hrr
  · exact rm_sr1 l Z a0 hw ws hi lo r h0 n0 Z0  h1 h2 hrr
  · exact rm_sr2 l Z a0 hw ws hi lo r h0 n0 Z0  h1 h2 hrr
theorem own_d (hi lo : Int32) (k : Int64) (kI : Int) (hk : k.toInt = kI) : (lcmpW (hi.toInt64 - lo.toInt64) k) = (0 : Int32) ↔ hi.toInt - lo.toInt = kI := by
  rw [lw_eq, ← Int64.toInt_inj, own_sub, hk]
theorem own_gt (hi : Int32) (k : Int32) (kI : Int) (hk : k.toInt = kI) : k < hi ↔ kI < hi.toInt := by rw [Int32.lt_iff_toInt_lt, hk]
theorem own_case {hi lo r : Int32} (hle : lo.toInt ≤ hi.toInt)
    (h : (hi.toInt - lo.toInt = 0 ∧ r = 1) ∨ (hi.toInt - lo.toInt ≠ 0 ∧ ((hi.toInt - lo.toInt = 1 ∧ 1000000000 < hi.toInt) ∨ (hi.toInt - lo.toInt = 2 ∧ 2000000000 < hi.toInt)) ∧ r = 1) ∨ (hi.toInt - lo.toInt ≠ 0 ∧ ¬ ((hi.toInt - lo.toInt = 1 ∧ 1000000000 < hi.toInt) ∨ (hi.toInt - lo.toInt = 2 ∧ 2000000000 < hi.toInt)) ∧ r = 0)) :
    ((cmpValue (FP.dcmp (FP.i2d lo) (FP.i2d hi)) .l) = (0 : Int32) ∧ r = 1) ∨ (¬ ((cmpValue (FP.dcmp (FP.i2d lo) (FP.i2d hi)) .l) = (0 : Int32)) ∧ ¬ ((cmpValue (FP.dcmp (FP.dsub (FP.i2d hi) (FP.i2d lo)) (FP.dmul (4472406533629990549 : UInt64) (FP.i2d hi))) .g) < (0 : Int32)) ∧ r = 0) ∨ (¬ ((cmpValue (FP.dcmp (FP.i2d lo) (FP.i2d hi)) .l) = (0 : Int32)) ∧ (cmpValue (FP.dcmp (FP.dsub (FP.i2d hi) (FP.i2d lo)) (FP.dmul (4472406533629990549 : UInt64) (FP.i2d hi))) .g) < (0 : Int32) ∧ r = 1) := by
  rw [own_eqc hi lo]
  rcases h with ⟨h1, h2⟩ | ⟨h1, h2, h3⟩ | ⟨h1, h2, h3⟩
  · exact Or.inl ⟨by omega, h2⟩
  · exact Or.inr (Or.inr ⟨by omega, (own_rank (by omega)).mpr h2, h3⟩)
  · exact Or.inr (Or.inl ⟨by omega, fun q => h2 ((own_rank (by omega)).mp q), h3⟩)
theorem pd_28II29I : parseMethodDescriptor "(II)I" = some ⟨[.int, .int], some .int⟩ := by decide +kernel
theorem pd_28DD29Z : parseMethodDescriptor "(DD)Z" = some ⟨[.double, .double], some .boolean⟩ := by decide +kernel
theorem pn_com_example_usher_usher_strategy_RankQueueSameRankPinLaw : plainName "com/example/usher/usher/strategy/RankQueueSameRankPinLaw" = true := by first | (simp [plainName, overriddenIn]; done) | decide +kernel
theorem ef_law (m : MethodId) (x0 : Int32) (x1 : Int32) : entryFrame m #[(.int x0), (.int x1)] maxLocals = mkF m 0 #[.val (.int x0), .val (.int x1), .unset, .unset, .unset, .unset, .unset] [] := by first | (simp [entryFrame, mkF, argsToLocals, Value.category, maxLocals]; done) | rfl
def Q_law (Z : State) (p1 : Int32) (p2 : Int32) (hi : Int32) (lo : Int32) (h0 : Heap) (n0 : Nat) (v : Option Value) (h : Heap) (L : List Loc) : Prop := v = some (.int (1 : Int32)) ∧ Fr n0 L
set_option maxRecDepth 65536 in
set_option maxHeartbeats 40000000 in
theorem rm_law (l : Launch) (Z : State) (a0 : Array Value) (hw : ∀ d ∈ tables_1, d.before a0 Z = true) (ws : List Jvm.Cond) (p1 : Int32) (p2 : Int32) (hi : Int32) (lo : Int32) (h0 : Heap) (n0 : Nat) (Z0 : n0 ≤ h0.size) (hmx : (p1 < p2 ∧ hi = p2) ∨ (¬ (p1 < p2) ∧ hi = p1)) (hmn : (p2 < p1 ∧ lo = p2) ∨ (¬ (p2 < p1) ∧ lo = p1)) (hle : lo.toInt ≤ hi.toInt) :
    MetFree l x (head1 (Jvm.Cond.code x code maxLocals ret :: ws) room_1) (fun a U => a = #[(.int p1), (.int p2)] ∧ Z.Warmed39 U.vm ∧ U.heap = h0) (fun _ _ _ _ _ => True) (fun _ U o U' => ∃ v L, o = .returned v ∧ Q_law Z p1 p2 hi lo h0 n0 v U'.heap L ∧ FrameEnd U o U' L room_1.cells room_1.slots) := by
  refine MetFree.of_bodySF (plainFor_of_name pn_com_example_usher_usher_strategy_RankQueueSameRankPinLaw) hisR ?_
  intro p e s m args below meth c s₁ Bd hml0 hP hK
  obtain ⟨rfl, hZ, hh⟩ := hP
  have hx := Bd.exec
  have hby := Bd.bytes
  have hml : c.maxLocals = 7 := hml0
  have hown : s.vm.findClass "com/example/usher/usher/strategy/RankQueueSameRankPinLaw" = some m.cls := findClass_of_methodNamed Bd.named
  have hnm := (name_of_methodNamed Bd.named Bd.method).1
  have X0 : Stand p l e room_1 s m #[(.int p1), (.int p2)] below meth c s₁ [] 0 0 := Stand.of_body Bd
  have e0 : s₁.heap = h0 := by rw [← hh, Bd.state]; rfl
  have N0 := Fr.nil n0
  have P0 : Keep h0 h0 [] := Keep.refl _ _
  have pre0 : ∀ t, Steps p.tables e below (s₁.setTop (mkF m 0 #[.val (.int p1), .val (.int p2), .unset, .unset, .unset, .unset, .unset] [])) t → Steps p.tables e below (s₁.setTop (entryFrame m #[(.int p1), (.int p2)] maxLocals)) t := fun t k => castTop (ef_law m p1 p2) k
  obtain ⟨_, _, ⟨T1, L1, k1, n1⟩, -, X1, ⟨Lc1, hQ1, l1, y1, z1⟩, st1⟩ := Jvm.LawKit.callS X0 hx (y := (⟨"java/lang/Math", "max", "(II)I"⟩ : MethodName)) hown (mvT hZ (hw _ (List.mem_of_getElem? (i := 0) rfl))) (mvT hZ (hw _ (List.mem_of_getElem? (i := 1) rfl))) (mvT hZ (hw _ (List.mem_of_getElem? (i := 2) rfl))) (mvT hZ (hw _ (List.mem_of_getElem? (i := 3) rfl))) (by decide) (backOf (W := 0) (rm_max l Z a0 hw [] p1 p2 hi h0 n0 (Nat.le_trans Z0 P0.1) hmx) hZ (hw _ (List.mem_of_getElem? (i := 3) rfl)) (hw _ (List.mem_of_getElem? (i := 2) rfl)) (by decide) (by decide)) (g := (mkF m 2 #[.val (.int p1), .val (.int p2), .unset, .unset, .unset, .unset, .unset] [(.int p2), (.int p1)])) rfl (by rw [hml]; rfl) (argsL := [(.int p1), (.int p2)]) (rest := []) (lenOf pd_28II29I rfl) rfl (by show 2 * 0 + _ ≤ _; exact Nat.le_of_eq rfl) (hb hby at_2) (fun _ _ => ⟨rfl, e0, (by decide : 0 + 0 ≤ _), (by decide : 0 + 0 ≤ _)⟩)
  dsimp only [Pt.U, Pt.locs, Pt.cells, Pt.slots] at X1 l1 y1 z1 st1 hQ1
  subst l1 y1 z1
  obtain ⟨rfl, N1q, e1⟩ := hQ1
  have N1 := Fr.app N0 N1q
  obtain ⟨_, _, ⟨T2, L2, k2, n2⟩, -, X2, ⟨Lc2, hQ2, l2, y2, z2⟩, st2⟩ := Jvm.LawKit.callS X1 hx (y := (⟨"java/lang/Math", "min", "(II)I"⟩ : MethodName)) hown (mvT hZ (hw _ (List.mem_of_getElem? (i := 4) rfl))) (mvT hZ (hw _ (List.mem_of_getElem? (i := 5) rfl))) (mvT hZ (hw _ (List.mem_of_getElem? (i := 2) rfl))) (mvT hZ (hw _ (List.mem_of_getElem? (i := 6) rfl))) (by decide) (backOf (W := 0) (rm_min l Z a0 hw [] p1 p2 lo h0 n0 (Nat.le_trans Z0 P0.1) hmn) hZ (hw _ (List.mem_of_getElem? (i := 6) rfl)) (hw _ (List.mem_of_getElem? (i := 2) rfl)) (by decide) (by decide)) (g := (mkF m 8 #[.val (.int p1), .val (.int p2), .val (.int hi), .unset, .unset, .unset, .unset] [(.int p2), (.int p1)])) rfl (by rw [hml]; rfl) (argsL := [(.int p1), (.int p2)]) (rest := []) (lenOf pd_28II29I rfl) rfl (by show 2 * 0 + _ ≤ _; exact Nat.le_of_eq rfl) (hb hby at_8) (fun _ _ => ⟨rfl, e1, (by decide : 0 + 0 ≤ _), (by decide : 0 + 0 ≤ _)⟩)
  dsimp only [Pt.U, Pt.locs, Pt.cells, Pt.slots] at X2 l2 y2 z2 st2 hQ2
  subst l2 y2 z2
  obtain ⟨rfl, N2q, e2⟩ := hQ2
  have N2 := Fr.app N1 N2q
  obtain ⟨ex, hm3, mg3⟩ : ∃ ex : Int32, (((cmpValue (FP.dcmp (FP.i2d lo) (FP.i2d hi)) .l) = (0 : Int32) ∧ ex = 1) ∨ (¬ ((cmpValue (FP.dcmp (FP.i2d lo) (FP.i2d hi)) .l) = (0 : Int32)) ∧ ¬ ((cmpValue (FP.dcmp (FP.dsub (FP.i2d hi) (FP.i2d lo)) (FP.dmul (4472406533629990549 : UInt64) (FP.i2d hi))) .g) < (0 : Int32)) ∧ ex = 0) ∨ (¬ ((cmpValue (FP.dcmp (FP.i2d lo) (FP.i2d hi)) .l) = (0 : Int32)) ∧ (cmpValue (FP.dcmp (FP.dsub (FP.i2d hi) (FP.i2d lo)) (FP.dmul (4472406533629990549 : UInt64) (FP.i2d hi))) .g) < (0 : Int32) ∧ ex = 1)) ∧ ∀ t, Steps p.tables e below (T2.setTop (mkF m 83 #[.val (.int p1), .val (.int p2), .val (.int hi), .val (.int lo), .val (.long ((hi).toInt64 - (lo).toInt64)), .second, .val (.int ex)] [])) t → Steps p.tables e below (T2.setTop (mkF m 23 #[.val (.int p1), .val (.int p2), .val (.int hi), .val (.int lo), .val (.long ((hi).toInt64 - (lo).toInt64)), .second, .unset] [(.int (lcmpW ((hi).toInt64 - (lo).toInt64) (0 : Int64)))])) t := by
    by_cases hc23 : (lcmpW ((hi).toInt64 - (lo).toInt64) (0 : Int64)) = (0 : Int32)
    ·
      refine ⟨(1 : Int32), own_case hle (Or.inl ⟨(own_d hi lo 0 0 (by decide)).mp hc23, rfl⟩), fun t k => ?_⟩
      show Steps p.tables e below (T2.setTop (mkF m 23 #[.val (.int p1), .val (.int p2), .val (.int hi), .val (.int lo), .val (.long ((hi).toInt64 - (lo).toInt64)), .second, .unset] [(.int (lcmpW ((hi).toInt64 - (lo).toInt64) (0 : Int64)))])) _
      refine XS.ifNo X2.here hx rfl (hb hby at_23) rfl ((if0 _ _).trans (teq (hc23 : (lcmpW ((hi).toInt64 - (lo).toInt64) (0 : Int64)) = (0 : Int32))).2) ?_
      show Steps p.tables e below (T2.setTop (mkF m 26 #[.val (.int p1), .val (.int p2), .val (.int hi), .val (.int lo), .val (.long ((hi).toInt64 - (lo).toInt64)), .second, .unset] [])) _
      refine XS.iconst X2.here hx rfl (hb hby at_26) ?_
      show Steps p.tables e below (T2.setTop (mkF m 27 #[.val (.int p1), .val (.int p2), .val (.int hi), .val (.int lo), .val (.long ((hi).toInt64 - (lo).toInt64)), .second, .unset] [(.int (1 : Int32))])) _
      refine XS.istore X2.here hx rfl (hb hby at_27) rfl (l' := #[.val (.int p1), .val (.int p2), .val (.int hi), .val (.int lo), .val (.long ((hi).toInt64 - (lo).toInt64)), .second, .val (.int (1 : Int32))]) rfl ?_
      show Steps p.tables e below (T2.setTop (mkF m 29 #[.val (.int p1), .val (.int p2), .val (.int hi), .val (.int lo), .val (.long ((hi).toInt64 - (lo).toInt64)), .second, .val (.int (1 : Int32))] [])) _
      refine XS.goto X2.here hx rfl (pc0 := 29) (pc' := 83) rfl (hb hby at_29) (by decide) (by decide) ?_
      exact k
    ·
      have n0' : ¬ (hi.toInt - lo.toInt = 0) := fun q => hc23 ((own_d hi lo 0 0 (by decide)).mpr q)
      by_cases hc36 : (lcmpW ((hi).toInt64 - (lo).toInt64) (1 : Int64)) = (0 : Int32)
      ·
        have n1' := (own_d hi lo 1 1 (by decide)).mp hc36
        by_cases hc42 : (1000000000 : Int32) < hi
        ·
          refine ⟨(1 : Int32), own_case hle (Or.inr (Or.inl ⟨n0', Or.inl ⟨n1', (own_gt hi 1000000000 1000000000 (by decide)).mp hc42⟩, rfl⟩)), fun t k => ?_⟩
          show Steps p.tables e below (T2.setTop (mkF m 23 #[.val (.int p1), .val (.int p2), .val (.int hi), .val (.int lo), .val (.long ((hi).toInt64 - (lo).toInt64)), .second, .unset] [(.int (lcmpW ((hi).toInt64 - (lo).toInt64) (0 : Int64)))])) _
          refine XS.ifYes X2.here hx rfl (pc0 := 23) (pc' := 32) rfl (hb hby at_23) rfl ((if0 _ _).trans (feq (hc23 : ¬ ((lcmpW ((hi).toInt64 - (lo).toInt64) (0 : Int64)) = (0 : Int32)))).2) (by decide) (by decide) ?_
          show Steps p.tables e below (T2.setTop (mkF m 32 #[.val (.int p1), .val (.int p2), .val (.int hi), .val (.int lo), .val (.long ((hi).toInt64 - (lo).toInt64)), .second, .unset] [])) _
          refine XS.lload X2.here hx rfl (hb hby at_32) rfl ?_
          show Steps p.tables e below (T2.setTop (mkF m 34 #[.val (.int p1), .val (.int p2), .val (.int hi), .val (.int lo), .val (.long ((hi).toInt64 - (lo).toInt64)), .second, .unset] [(.long ((hi).toInt64 - (lo).toInt64))])) _
          refine XS.lconst X2.here hx rfl (hb hby at_34) ?_
          show Steps p.tables e below (T2.setTop (mkF m 35 #[.val (.int p1), .val (.int p2), .val (.int hi), .val (.int lo), .val (.long ((hi).toInt64 - (lo).toInt64)), .second, .unset] [(.long (1 : Int64)), (.long ((hi).toInt64 - (lo).toInt64))])) _
          refine XS.lcmp X2.here hx rfl (hb hby at_35) rfl ?_
          show Steps p.tables e below (T2.setTop (mkF m 36 #[.val (.int p1), .val (.int p2), .val (.int hi), .val (.int lo), .val (.long ((hi).toInt64 - (lo).toInt64)), .second, .unset] [(.int (lcmpW ((hi).toInt64 - (lo).toInt64) (1 : Int64)))])) _
          refine XS.ifNo X2.here hx rfl (hb hby at_36) rfl ((if0 _ _).trans (teq (hc36 : (lcmpW ((hi).toInt64 - (lo).toInt64) (1 : Int64)) = (0 : Int32))).2) ?_
          show Steps p.tables e below (T2.setTop (mkF m 39 #[.val (.int p1), .val (.int p2), .val (.int hi), .val (.int lo), .val (.long ((hi).toInt64 - (lo).toInt64)), .second, .unset] [])) _
          refine XS.iloadN X2.here hx rfl (hb hby at_39) rfl ?_
          show Steps p.tables e below (T2.setTop (mkF m 40 #[.val (.int p1), .val (.int p2), .val (.int hi), .val (.int lo), .val (.long ((hi).toInt64 - (lo).toInt64)), .second, .unset] [(.int hi)])) _
          refine X2.ldcInt hx hown (mvT hZ (hw _ (List.mem_of_getElem? (i := 14) rfl))) (g := (mkF m 40 #[.val (.int p1), .val (.int p2), .val (.int hi), .val (.int lo), .val (.long ((hi).toInt64 - (lo).toInt64)), .second, .unset] [(.int hi)])) rfl (hb hby at_40) _ ?_
          show Steps p.tables e below (T2.setTop (mkF m 42 #[.val (.int p1), .val (.int p2), .val (.int hi), .val (.int lo), .val (.long ((hi).toInt64 - (lo).toInt64)), .second, .unset] [(.int (1000000000 : Int32)), (.int hi)])) _
          refine XS.icmpNo X2.here hx rfl (hb hby at_42) rfl (tlt (hc42 : (1000000000 : Int32) < hi)).2.2.2 ?_
          show Steps p.tables e below (T2.setTop (mkF m 45 #[.val (.int p1), .val (.int p2), .val (.int hi), .val (.int lo), .val (.long ((hi).toInt64 - (lo).toInt64)), .second, .unset] [])) _
          refine XS.iconst X2.here hx rfl (hb hby at_45) ?_
          show Steps p.tables e below (T2.setTop (mkF m 46 #[.val (.int p1), .val (.int p2), .val (.int hi), .val (.int lo), .val (.long ((hi).toInt64 - (lo).toInt64)), .second, .unset] [(.int (1 : Int32))])) _
          refine XS.goto X2.here hx rfl (pc0 := 46) (pc' := 50) rfl (hb hby at_46) (by decide) (by decide) ?_
          show Steps p.tables e below (T2.setTop (mkF m 50 #[.val (.int p1), .val (.int p2), .val (.int hi), .val (.int lo), .val (.long ((hi).toInt64 - (lo).toInt64)), .second, .unset] [(.int (1 : Int32))])) _
          refine XS.istore X2.here hx rfl (hb hby at_50) rfl (l' := #[.val (.int p1), .val (.int p2), .val (.int hi), .val (.int lo), .val (.long ((hi).toInt64 - (lo).toInt64)), .second, .val (.int (1 : Int32))]) rfl ?_
          show Steps p.tables e below (T2.setTop (mkF m 52 #[.val (.int p1), .val (.int p2), .val (.int hi), .val (.int lo), .val (.long ((hi).toInt64 - (lo).toInt64)), .second, .val (.int (1 : Int32))] [])) _
          refine XS.goto X2.here hx rfl (pc0 := 52) (pc' := 83) rfl (hb hby at_52) (by decide) (by decide) ?_
          exact k
        ·
          have n2' : ¬ (1000000000 < hi.toInt) := fun z => hc42 ((own_gt hi 1000000000 1000000000 (by decide)).mpr z)
          refine ⟨(0 : Int32), own_case hle (Or.inr (Or.inr ⟨n0', by omega, rfl⟩)), fun t k => ?_⟩
          show Steps p.tables e below (T2.setTop (mkF m 23 #[.val (.int p1), .val (.int p2), .val (.int hi), .val (.int lo), .val (.long ((hi).toInt64 - (lo).toInt64)), .second, .unset] [(.int (lcmpW ((hi).toInt64 - (lo).toInt64) (0 : Int64)))])) _
          refine XS.ifYes X2.here hx rfl (pc0 := 23) (pc' := 32) rfl (hb hby at_23) rfl ((if0 _ _).trans (feq (hc23 : ¬ ((lcmpW ((hi).toInt64 - (lo).toInt64) (0 : Int64)) = (0 : Int32)))).2) (by decide) (by decide) ?_
          show Steps p.tables e below (T2.setTop (mkF m 32 #[.val (.int p1), .val (.int p2), .val (.int hi), .val (.int lo), .val (.long ((hi).toInt64 - (lo).toInt64)), .second, .unset] [])) _
          refine XS.lload X2.here hx rfl (hb hby at_32) rfl ?_
          show Steps p.tables e below (T2.setTop (mkF m 34 #[.val (.int p1), .val (.int p2), .val (.int hi), .val (.int lo), .val (.long ((hi).toInt64 - (lo).toInt64)), .second, .unset] [(.long ((hi).toInt64 - (lo).toInt64))])) _
          refine XS.lconst X2.here hx rfl (hb hby at_34) ?_
          show Steps p.tables e below (T2.setTop (mkF m 35 #[.val (.int p1), .val (.int p2), .val (.int hi), .val (.int lo), .val (.long ((hi).toInt64 - (lo).toInt64)), .second, .unset] [(.long (1 : Int64)), (.long ((hi).toInt64 - (lo).toInt64))])) _
          refine XS.lcmp X2.here hx rfl (hb hby at_35) rfl ?_
          show Steps p.tables e below (T2.setTop (mkF m 36 #[.val (.int p1), .val (.int p2), .val (.int hi), .val (.int lo), .val (.long ((hi).toInt64 - (lo).toInt64)), .second, .unset] [(.int (lcmpW ((hi).toInt64 - (lo).toInt64) (1 : Int64)))])) _
          refine XS.ifNo X2.here hx rfl (hb hby at_36) rfl ((if0 _ _).trans (teq (hc36 : (lcmpW ((hi).toInt64 - (lo).toInt64) (1 : Int64)) = (0 : Int32))).2) ?_
          show Steps p.tables e below (T2.setTop (mkF m 39 #[.val (.int p1), .val (.int p2), .val (.int hi), .val (.int lo), .val (.long ((hi).toInt64 - (lo).toInt64)), .second, .unset] [])) _
          refine XS.iloadN X2.here hx rfl (hb hby at_39) rfl ?_
          show Steps p.tables e below (T2.setTop (mkF m 40 #[.val (.int p1), .val (.int p2), .val (.int hi), .val (.int lo), .val (.long ((hi).toInt64 - (lo).toInt64)), .second, .unset] [(.int hi)])) _
          refine X2.ldcInt hx hown (mvT hZ (hw _ (List.mem_of_getElem? (i := 14) rfl))) (g := (mkF m 40 #[.val (.int p1), .val (.int p2), .val (.int hi), .val (.int lo), .val (.long ((hi).toInt64 - (lo).toInt64)), .second, .unset] [(.int hi)])) rfl (hb hby at_40) _ ?_
          show Steps p.tables e below (T2.setTop (mkF m 42 #[.val (.int p1), .val (.int p2), .val (.int hi), .val (.int lo), .val (.long ((hi).toInt64 - (lo).toInt64)), .second, .unset] [(.int (1000000000 : Int32)), (.int hi)])) _
          refine XS.icmpYes X2.here hx rfl (pc0 := 42) (pc' := 49) rfl (hb hby at_42) rfl (flt (hc42 : ¬ ((1000000000 : Int32) < hi))).2.2.2 (by decide) (by decide) ?_
          show Steps p.tables e below (T2.setTop (mkF m 49 #[.val (.int p1), .val (.int p2), .val (.int hi), .val (.int lo), .val (.long ((hi).toInt64 - (lo).toInt64)), .second, .unset] [])) _
          refine XS.iconst X2.here hx rfl (hb hby at_49) ?_
          show Steps p.tables e below (T2.setTop (mkF m 50 #[.val (.int p1), .val (.int p2), .val (.int hi), .val (.int lo), .val (.long ((hi).toInt64 - (lo).toInt64)), .second, .unset] [(.int (0 : Int32))])) _
          refine XS.istore X2.here hx rfl (hb hby at_50) rfl (l' := #[.val (.int p1), .val (.int p2), .val (.int hi), .val (.int lo), .val (.long ((hi).toInt64 - (lo).toInt64)), .second, .val (.int (0 : Int32))]) rfl ?_
          show Steps p.tables e below (T2.setTop (mkF m 52 #[.val (.int p1), .val (.int p2), .val (.int hi), .val (.int lo), .val (.long ((hi).toInt64 - (lo).toInt64)), .second, .val (.int (0 : Int32))] [])) _
          refine XS.goto X2.here hx rfl (pc0 := 52) (pc' := 83) rfl (hb hby at_52) (by decide) (by decide) ?_
          exact k
      ·
        have n1' : ¬ (hi.toInt - lo.toInt = 1) := fun q => hc36 ((own_d hi lo 1 1 (by decide)).mpr q)
        by_cases hc61 : (lcmpW ((hi).toInt64 - (lo).toInt64) (2 : Int64)) = (0 : Int32)
        ·
          have n3' := (own_d hi lo 2 2 (by decide)).mp hc61
          by_cases hc67 : (2000000000 : Int32) < hi
          ·
            refine ⟨(1 : Int32), own_case hle (Or.inr (Or.inl ⟨n0', Or.inr ⟨n3', (own_gt hi 2000000000 2000000000 (by decide)).mp hc67⟩, rfl⟩)), fun t k => ?_⟩
            show Steps p.tables e below (T2.setTop (mkF m 23 #[.val (.int p1), .val (.int p2), .val (.int hi), .val (.int lo), .val (.long ((hi).toInt64 - (lo).toInt64)), .second, .unset] [(.int (lcmpW ((hi).toInt64 - (lo).toInt64) (0 : Int64)))])) _
            refine XS.ifYes X2.here hx rfl (pc0 := 23) (pc' := 32) rfl (hb hby at_23) rfl ((if0 _ _).trans (feq (hc23 : ¬ ((lcmpW ((hi).toInt64 - (lo).toInt64) (0 : Int64)) = (0 : Int32)))).2) (by decide) (by decide) ?_
            show Steps p.tables e below (T2.setTop (mkF m 32 #[.val (.int p1), .val (.int p2), .val (.int hi), .val (.int lo), .val (.long ((hi).toInt64 - (lo).toInt64)), .second, .unset] [])) _
            refine XS.lload X2.here hx rfl (hb hby at_32) rfl ?_
            show Steps p.tables e below (T2.setTop (mkF m 34 #[.val (.int p1), .val (.int p2), .val (.int hi), .val (.int lo), .val (.long ((hi).toInt64 - (lo).toInt64)), .second, .unset] [(.long ((hi).toInt64 - (lo).toInt64))])) _
            refine XS.lconst X2.here hx rfl (hb hby at_34) ?_
            show Steps p.tables e below (T2.setTop (mkF m 35 #[.val (.int p1), .val (.int p2), .val (.int hi), .val (.int lo), .val (.long ((hi).toInt64 - (lo).toInt64)), .second, .unset] [(.long (1 : Int64)), (.long ((hi).toInt64 - (lo).toInt64))])) _
            refine XS.lcmp X2.here hx rfl (hb hby at_35) rfl ?_
            show Steps p.tables e below (T2.setTop (mkF m 36 #[.val (.int p1), .val (.int p2), .val (.int hi), .val (.int lo), .val (.long ((hi).toInt64 - (lo).toInt64)), .second, .unset] [(.int (lcmpW ((hi).toInt64 - (lo).toInt64) (1 : Int64)))])) _
            refine XS.ifYes X2.here hx rfl (pc0 := 36) (pc' := 55) rfl (hb hby at_36) rfl ((if0 _ _).trans (feq (hc36 : ¬ ((lcmpW ((hi).toInt64 - (lo).toInt64) (1 : Int64)) = (0 : Int32)))).2) (by decide) (by decide) ?_
            show Steps p.tables e below (T2.setTop (mkF m 55 #[.val (.int p1), .val (.int p2), .val (.int hi), .val (.int lo), .val (.long ((hi).toInt64 - (lo).toInt64)), .second, .unset] [])) _
            refine XS.lload X2.here hx rfl (hb hby at_55) rfl ?_
            show Steps p.tables e below (T2.setTop (mkF m 57 #[.val (.int p1), .val (.int p2), .val (.int hi), .val (.int lo), .val (.long ((hi).toInt64 - (lo).toInt64)), .second, .unset] [(.long ((hi).toInt64 - (lo).toInt64))])) _
            refine X2.ldc2Long hx hown (mvT hZ (hw _ (List.mem_of_getElem? (i := 7) rfl))) (g := (mkF m 57 #[.val (.int p1), .val (.int p2), .val (.int hi), .val (.int lo), .val (.long ((hi).toInt64 - (lo).toInt64)), .second, .unset] [(.long ((hi).toInt64 - (lo).toInt64))])) rfl (hb hby at_57) _ ?_
            show Steps p.tables e below (T2.setTop (mkF m 60 #[.val (.int p1), .val (.int p2), .val (.int hi), .val (.int lo), .val (.long ((hi).toInt64 - (lo).toInt64)), .second, .unset] [(.long (2 : Int64)), (.long ((hi).toInt64 - (lo).toInt64))])) _
            refine XS.lcmp X2.here hx rfl (hb hby at_60) rfl ?_
            show Steps p.tables e below (T2.setTop (mkF m 61 #[.val (.int p1), .val (.int p2), .val (.int hi), .val (.int lo), .val (.long ((hi).toInt64 - (lo).toInt64)), .second, .unset] [(.int (lcmpW ((hi).toInt64 - (lo).toInt64) (2 : Int64)))])) _
            refine XS.ifNo X2.here hx rfl (hb hby at_61) rfl ((if0 _ _).trans (teq (hc61 : (lcmpW ((hi).toInt64 - (lo).toInt64) (2 : Int64)) = (0 : Int32))).2) ?_
            show Steps p.tables e below (T2.setTop (mkF m 64 #[.val (.int p1), .val (.int p2), .val (.int hi), .val (.int lo), .val (.long ((hi).toInt64 - (lo).toInt64)), .second, .unset] [])) _
            refine XS.iloadN X2.here hx rfl (hb hby at_64) rfl ?_
            show Steps p.tables e below (T2.setTop (mkF m 65 #[.val (.int p1), .val (.int p2), .val (.int hi), .val (.int lo), .val (.long ((hi).toInt64 - (lo).toInt64)), .second, .unset] [(.int hi)])) _
            refine X2.ldcInt hx hown (mvT hZ (hw _ (List.mem_of_getElem? (i := 13) rfl))) (g := (mkF m 65 #[.val (.int p1), .val (.int p2), .val (.int hi), .val (.int lo), .val (.long ((hi).toInt64 - (lo).toInt64)), .second, .unset] [(.int hi)])) rfl (hb hby at_65) _ ?_
            show Steps p.tables e below (T2.setTop (mkF m 67 #[.val (.int p1), .val (.int p2), .val (.int hi), .val (.int lo), .val (.long ((hi).toInt64 - (lo).toInt64)), .second, .unset] [(.int (2000000000 : Int32)), (.int hi)])) _
            refine XS.icmpNo X2.here hx rfl (hb hby at_67) rfl (tlt (hc67 : (2000000000 : Int32) < hi)).2.2.2 ?_
            show Steps p.tables e below (T2.setTop (mkF m 70 #[.val (.int p1), .val (.int p2), .val (.int hi), .val (.int lo), .val (.long ((hi).toInt64 - (lo).toInt64)), .second, .unset] [])) _
            refine XS.iconst X2.here hx rfl (hb hby at_70) ?_
            show Steps p.tables e below (T2.setTop (mkF m 71 #[.val (.int p1), .val (.int p2), .val (.int hi), .val (.int lo), .val (.long ((hi).toInt64 - (lo).toInt64)), .second, .unset] [(.int (1 : Int32))])) _
            refine XS.goto X2.here hx rfl (pc0 := 71) (pc' := 75) rfl (hb hby at_71) (by decide) (by decide) ?_
            show Steps p.tables e below (T2.setTop (mkF m 75 #[.val (.int p1), .val (.int p2), .val (.int hi), .val (.int lo), .val (.long ((hi).toInt64 - (lo).toInt64)), .second, .unset] [(.int (1 : Int32))])) _
            refine XS.istore X2.here hx rfl (hb hby at_75) rfl (l' := #[.val (.int p1), .val (.int p2), .val (.int hi), .val (.int lo), .val (.long ((hi).toInt64 - (lo).toInt64)), .second, .val (.int (1 : Int32))]) rfl ?_
            show Steps p.tables e below (T2.setTop (mkF m 77 #[.val (.int p1), .val (.int p2), .val (.int hi), .val (.int lo), .val (.long ((hi).toInt64 - (lo).toInt64)), .second, .val (.int (1 : Int32))] [])) _
            refine XS.goto X2.here hx rfl (pc0 := 77) (pc' := 83) rfl (hb hby at_77) (by decide) (by decide) ?_
            exact k
          ·
            have n2' : ¬ (2000000000 < hi.toInt) := fun z => hc67 ((own_gt hi 2000000000 2000000000 (by decide)).mpr z)
            refine ⟨(0 : Int32), own_case hle (Or.inr (Or.inr ⟨n0', by omega, rfl⟩)), fun t k => ?_⟩
            show Steps p.tables e below (T2.setTop (mkF m 23 #[.val (.int p1), .val (.int p2), .val (.int hi), .val (.int lo), .val (.long ((hi).toInt64 - (lo).toInt64)), .second, .unset] [(.int (lcmpW ((hi).toInt64 - (lo).toInt64) (0 : Int64)))])) _
            refine XS.ifYes X2.here hx rfl (pc0 := 23) (pc' := 32) rfl (hb hby at_23) rfl ((if0 _ _).trans (feq (hc23 : ¬ ((lcmpW ((hi).toInt64 - (lo).toInt64) (0 : Int64)) = (0 : Int32)))).2) (by decide) (by decide) ?_
            show Steps p.tables e below (T2.setTop (mkF m 32 #[.val (.int p1), .val (.int p2), .val (.int hi), .val (.int lo), .val (.long ((hi).toInt64 - (lo).toInt64)), .second, .unset] [])) _
            refine XS.lload X2.here hx rfl (hb hby at_32) rfl ?_
            show Steps p.tables e below (T2.setTop (mkF m 34 #[.val (.int p1), .val (.int p2), .val (.int hi), .val (.int lo), .val (.long ((hi).toInt64 - (lo).toInt64)), .second, .unset] [(.long ((hi).toInt64 - (lo).toInt64))])) _
            refine XS.lconst X2.here hx rfl (hb hby at_34) ?_
            show Steps p.tables e below (T2.setTop (mkF m 35 #[.val (.int p1), .val (.int p2), .val (.int hi), .val (.int lo), .val (.long ((hi).toInt64 - (lo).toInt64)), .second, .unset] [(.long (1 : Int64)), (.long ((hi).toInt64 - (lo).toInt64))])) _
            refine XS.lcmp X2.here hx rfl (hb hby at_35) rfl ?_
            show Steps p.tables e below (T2.setTop (mkF m 36 #[.val (.int p1), .val (.int p2), .val (.int hi), .val (.int lo), .val (.long ((hi).toInt64 - (lo).toInt64)), .second, .unset] [(.int (lcmpW ((hi).toInt64 - (lo).toInt64) (1 : Int64)))])) _
            refine XS.ifYes X2.here hx rfl (pc0 := 36) (pc' := 55) rfl (hb hby at_36) rfl ((if0 _ _).trans (feq (hc36 : ¬ ((lcmpW ((hi).toInt64 - (lo).toInt64) (1 : Int64)) = (0 : Int32)))).2) (by decide) (by decide) ?_
            show Steps p.tables e below (T2.setTop (mkF m 55 #[.val (.int p1), .val (.int p2), .val (.int hi), .val (.int lo), .val (.long ((hi).toInt64 - (lo).toInt64)), .second, .unset] [])) _
            refine XS.lload X2.here hx rfl (hb hby at_55) rfl ?_
            show Steps p.tables e below (T2.setTop (mkF m 57 #[.val (.int p1), .val (.int p2), .val (.int hi), .val (.int lo), .val (.long ((hi).toInt64 - (lo).toInt64)), .second, .unset] [(.long ((hi).toInt64 - (lo).toInt64))])) _
            refine X2.ldc2Long hx hown (mvT hZ (hw _ (List.mem_of_getElem? (i := 7) rfl))) (g := (mkF m 57 #[.val (.int p1), .val (.int p2), .val (.int hi), .val (.int lo), .val (.long ((hi).toInt64 - (lo).toInt64)), .second, .unset] [(.long ((hi).toInt64 - (lo).toInt64))])) rfl (hb hby at_57) _ ?_
            show Steps p.tables e below (T2.setTop (mkF m 60 #[.val (.int p1), .val (.int p2), .val (.int hi), .val (.int lo), .val (.long ((hi).toInt64 - (lo).toInt64)), .second, .unset] [(.long (2 : Int64)), (.long ((hi).toInt64 - (lo).toInt64))])) _
            refine XS.lcmp X2.here hx rfl (hb hby at_60) rfl ?_
            show Steps p.tables e below (T2.setTop (mkF m 61 #[.val (.int p1), .val (.int p2), .val (.int hi), .val (.int lo), .val (.long ((hi).toInt64 - (lo).toInt64)), .second, .unset] [(.int (lcmpW ((hi).toInt64 - (lo).toInt64) (2 : Int64)))])) _
            refine XS.ifNo X2.here hx rfl (hb hby at_61) rfl ((if0 _ _).trans (teq (hc61 : (lcmpW ((hi).toInt64 - (lo).toInt64) (2 : Int64)) = (0 : Int32))).2) ?_
            show Steps p.tables e below (T2.setTop (mkF m 64 #[.val (.int p1), .val (.int p2), .val (.int hi), .val (.int lo), .val (.long ((hi).toInt64 - (lo).toInt64)), .second, .unset] [])) _
            refine XS.iloadN X2.here hx rfl (hb hby at_64) rfl ?_
            show Steps p.tables e below (T2.setTop (mkF m 65 #[.val (.int p1), .val (.int p2), .val (.int hi), .val (.int lo), .val (.long ((hi).toInt64 - (lo).toInt64)), .second, .unset] [(.int hi)])) _
            refine X2.ldcInt hx hown (mvT hZ (hw _ (List.mem_of_getElem? (i := 13) rfl))) (g := (mkF m 65 #[.val (.int p1), .val (.int p2), .val (.int hi), .val (.int lo), .val (.long ((hi).toInt64 - (lo).toInt64)), .second, .unset] [(.int hi)])) rfl (hb hby at_65) _ ?_
            show Steps p.tables e below (T2.setTop (mkF m 67 #[.val (.int p1), .val (.int p2), .val (.int hi), .val (.int lo), .val (.long ((hi).toInt64 - (lo).toInt64)), .second, .unset] [(.int (2000000000 : Int32)), (.int hi)])) _
            refine XS.icmpYes X2.here hx rfl (pc0 := 67) (pc' := 74) rfl (hb hby at_67) rfl (flt (hc67 : ¬ ((2000000000 : Int32) < hi))).2.2.2 (by decide) (by decide) ?_
            show Steps p.tables e below (T2.setTop (mkF m 74 #[.val (.int p1), .val (.int p2), .val (.int hi), .val (.int lo), .val (.long ((hi).toInt64 - (lo).toInt64)), .second, .unset] [])) _
            refine XS.iconst X2.here hx rfl (hb hby at_74) ?_
            show Steps p.tables e below (T2.setTop (mkF m 75 #[.val (.int p1), .val (.int p2), .val (.int hi), .val (.int lo), .val (.long ((hi).toInt64 - (lo).toInt64)), .second, .unset] [(.int (0 : Int32))])) _
            refine XS.istore X2.here hx rfl (hb hby at_75) rfl (l' := #[.val (.int p1), .val (.int p2), .val (.int hi), .val (.int lo), .val (.long ((hi).toInt64 - (lo).toInt64)), .second, .val (.int (0 : Int32))]) rfl ?_
            show Steps p.tables e below (T2.setTop (mkF m 77 #[.val (.int p1), .val (.int p2), .val (.int hi), .val (.int lo), .val (.long ((hi).toInt64 - (lo).toInt64)), .second, .val (.int (0 : Int32))] [])) _
            refine XS.goto X2.here hx rfl (pc0 := 77) (pc' := 83) rfl (hb hby at_77) (by decide) (by decide) ?_
            exact k
        ·
          have n3' : ¬ (hi.toInt - lo.toInt = 2) := fun q => hc61 ((own_d hi lo 2 2 (by decide)).mpr q)
          refine ⟨(0 : Int32), own_case hle (Or.inr (Or.inr ⟨n0', by omega, rfl⟩)), fun t k => ?_⟩
          show Steps p.tables e below (T2.setTop (mkF m 23 #[.val (.int p1), .val (.int p2), .val (.int hi), .val (.int lo), .val (.long ((hi).toInt64 - (lo).toInt64)), .second, .unset] [(.int (lcmpW ((hi).toInt64 - (lo).toInt64) (0 : Int64)))])) _
          refine XS.ifYes X2.here hx rfl (pc0 := 23) (pc' := 32) rfl (hb hby at_23) rfl ((if0 _ _).trans (feq (hc23 : ¬ ((lcmpW ((hi).toInt64 - (lo).toInt64) (0 : Int64)) = (0 : Int32)))).2) (by decide) (by decide) ?_
          show Steps p.tables e below (T2.setTop (mkF m 32 #[.val (.int p1), .val (.int p2), .val (.int hi), .val (.int lo), .val (.long ((hi).toInt64 - (lo).toInt64)), .second, .unset] [])) _
          refine XS.lload X2.here hx rfl (hb hby at_32) rfl ?_
          show Steps p.tables e below (T2.setTop (mkF m 34 #[.val (.int p1), .val (.int p2), .val (.int hi), .val (.int lo), .val (.long ((hi).toInt64 - (lo).toInt64)), .second, .unset] [(.long ((hi).toInt64 - (lo).toInt64))])) _
          refine XS.lconst X2.here hx rfl (hb hby at_34) ?_
          show Steps p.tables e below (T2.setTop (mkF m 35 #[.val (.int p1), .val (.int p2), .val (.int hi), .val (.int lo), .val (.long ((hi).toInt64 - (lo).toInt64)), .second, .unset] [(.long (1 : Int64)), (.long ((hi).toInt64 - (lo).toInt64))])) _
          refine XS.lcmp X2.here hx rfl (hb hby at_35) rfl ?_
          show Steps p.tables e below (T2.setTop (mkF m 36 #[.val (.int p1), .val (.int p2), .val (.int hi), .val (.int lo), .val (.long ((hi).toInt64 - (lo).toInt64)), .second, .unset] [(.int (lcmpW ((hi).toInt64 - (lo).toInt64) (1 : Int64)))])) _
          refine XS.ifYes X2.here hx rfl (pc0 := 36) (pc' := 55) rfl (hb hby at_36) rfl ((if0 _ _).trans (feq (hc36 : ¬ ((lcmpW ((hi).toInt64 - (lo).toInt64) (1 : Int64)) = (0 : Int32)))).2) (by decide) (by decide) ?_
          show Steps p.tables e below (T2.setTop (mkF m 55 #[.val (.int p1), .val (.int p2), .val (.int hi), .val (.int lo), .val (.long ((hi).toInt64 - (lo).toInt64)), .second, .unset] [])) _
          refine XS.lload X2.here hx rfl (hb hby at_55) rfl ?_
          show Steps p.tables e below (T2.setTop (mkF m 57 #[.val (.int p1), .val (.int p2), .val (.int hi), .val (.int lo), .val (.long ((hi).toInt64 - (lo).toInt64)), .second, .unset] [(.long ((hi).toInt64 - (lo).toInt64))])) _
          refine X2.ldc2Long hx hown (mvT hZ (hw _ (List.mem_of_getElem? (i := 7) rfl))) (g := (mkF m 57 #[.val (.int p1), .val (.int p2), .val (.int hi), .val (.int lo), .val (.long ((hi).toInt64 - (lo).toInt64)), .second, .unset] [(.long ((hi).toInt64 - (lo).toInt64))])) rfl (hb hby at_57) _ ?_
          show Steps p.tables e below (T2.setTop (mkF m 60 #[.val (.int p1), .val (.int p2), .val (.int hi), .val (.int lo), .val (.long ((hi).toInt64 - (lo).toInt64)), .second, .unset] [(.long (2 : Int64)), (.long ((hi).toInt64 - (lo).toInt64))])) _
          refine XS.lcmp X2.here hx rfl (hb hby at_60) rfl ?_
          show Steps p.tables e below (T2.setTop (mkF m 61 #[.val (.int p1), .val (.int p2), .val (.int hi), .val (.int lo), .val (.long ((hi).toInt64 - (lo).toInt64)), .second, .unset] [(.int (lcmpW ((hi).toInt64 - (lo).toInt64) (2 : Int64)))])) _
          refine XS.ifYes X2.here hx rfl (pc0 := 61) (pc' := 80) rfl (hb hby at_61) rfl ((if0 _ _).trans (feq (hc61 : ¬ ((lcmpW ((hi).toInt64 - (lo).toInt64) (2 : Int64)) = (0 : Int32)))).2) (by decide) (by decide) ?_
          show Steps p.tables e below (T2.setTop (mkF m 80 #[.val (.int p1), .val (.int p2), .val (.int hi), .val (.int lo), .val (.long ((hi).toInt64 - (lo).toInt64)), .second, .unset] [])) _
          refine XS.iconst X2.here hx rfl (hb hby at_80) ?_
          show Steps p.tables e below (T2.setTop (mkF m 81 #[.val (.int p1), .val (.int p2), .val (.int hi), .val (.int lo), .val (.long ((hi).toInt64 - (lo).toInt64)), .second, .unset] [(.int (0 : Int32))])) _
          refine XS.istore X2.here hx rfl (hb hby at_81) rfl (l' := #[.val (.int p1), .val (.int p2), .val (.int hi), .val (.int lo), .val (.long ((hi).toInt64 - (lo).toInt64)), .second, .val (.int (0 : Int32))]) rfl ?_
          exact k
  obtain ⟨_, _, ⟨T4, L4, k4, n4⟩, -, X4, ⟨Lc4, hQ4, l4, y4, z4⟩, st4⟩ := Jvm.LawKit.callS X2 hx (y := (⟨"com/example/usher/usher/strategy/RankQueue", "sameRank", "(DD)Z"⟩ : MethodName)) hown (mvT hZ (hw _ (List.mem_of_getElem? (i := 8) rfl))) (mvT hZ (hw _ (List.mem_of_getElem? (i := 9) rfl))) (mvT hZ (hw _ (List.mem_of_getElem? (i := 10) rfl))) (mvT hZ (hw _ (List.mem_of_getElem? (i := 11) rfl))) (by decide) (backOf (W := 0) (rm_same l Z a0 hw [] hi lo ex h0 n0 (Nat.le_trans Z0 P0.1) hm3) hZ (hw _ (List.mem_of_getElem? (i := 11) rfl)) (hw _ (List.mem_of_getElem? (i := 10) rfl)) (by decide) (by decide)) (g := (mkF m 87 #[.val (.int p1), .val (.int p2), .val (.int hi), .val (.int lo), .val (.long ((hi).toInt64 - (lo).toInt64)), .second, .val (.int ex)] [(.double (FP.i2d lo)), (.double (FP.i2d hi))])) rfl (by rw [hml]; rfl) (argsL := [(.double (FP.i2d hi)), (.double (FP.i2d lo))]) (rest := []) (lenOf pd_28DD29Z rfl) rfl (by show 2 * 0 + _ ≤ _; exact Nat.le_of_eq rfl) (hb hby at_87) (fun _ _ => ⟨rfl, e2, (by decide : 0 + 0 ≤ _), (by decide : 0 + 0 ≤ _)⟩)
  dsimp only [Pt.U, Pt.locs, Pt.cells, Pt.slots] at X4 l4 y4 z4 st4 hQ4
  subst l4 y4 z4
  obtain ⟨rfl, N4q, e4⟩ := hQ4
  have N4 := Fr.app N2 N4q
  obtain ⟨fs, hr, hrun, hended, hW, hsame⟩ := X4.leave (v := some (.int (1 : Int32))) (fun h => by rw [Bd.returns] at h; cases h)
  refine ⟨_, _, pre0 _ ?_, hrun, hended, _, _, rfl, ?_, ⟨_, rfl⟩, hW, hsame.mono (by decide) (by decide)⟩
  · show Steps p.tables e below (s₁.setTop (mkF m 0 #[.val (.int p1), .val (.int p2), .unset, .unset, .unset, .unset, .unset] [])) _
    refine XS.iloadN X0.here hx rfl (hb hby at_0) rfl ?_
    show Steps p.tables e below (s₁.setTop (mkF m 1 #[.val (.int p1), .val (.int p2), .unset, .unset, .unset, .unset, .unset] [(.int p1)])) _
    refine XS.iloadN X0.here hx rfl (hb hby at_1) rfl ?_
    show Steps p.tables e below (s₁.setTop (mkF m 2 #[.val (.int p1), .val (.int p2), .unset, .unset, .unset, .unset, .unset] [(.int p2), (.int p1)])) _
    refine st1 _ ?_
    show Steps p.tables e below (T1.setTop (mkF m 5 #[.val (.int p1), .val (.int p2), .unset, .unset, .unset, .unset, .unset] [(.int hi)])) _
    refine XS.istoreN X1.here hx rfl (hb hby at_5) rfl (l' := #[.val (.int p1), .val (.int p2), .val (.int hi), .unset, .unset, .unset, .unset]) rfl ?_
    show Steps p.tables e below (T1.setTop (mkF m 6 #[.val (.int p1), .val (.int p2), .val (.int hi), .unset, .unset, .unset, .unset] [])) _
    refine XS.iloadN X1.here hx rfl (hb hby at_6) rfl ?_
    show Steps p.tables e below (T1.setTop (mkF m 7 #[.val (.int p1), .val (.int p2), .val (.int hi), .unset, .unset, .unset, .unset] [(.int p1)])) _
    refine XS.iloadN X1.here hx rfl (hb hby at_7) rfl ?_
    show Steps p.tables e below (T1.setTop (mkF m 8 #[.val (.int p1), .val (.int p2), .val (.int hi), .unset, .unset, .unset, .unset] [(.int p2), (.int p1)])) _
    refine st2 _ ?_
    show Steps p.tables e below (T2.setTop (mkF m 11 #[.val (.int p1), .val (.int p2), .val (.int hi), .unset, .unset, .unset, .unset] [(.int lo)])) _
    refine XS.istoreN X2.here hx rfl (hb hby at_11) rfl (l' := #[.val (.int p1), .val (.int p2), .val (.int hi), .val (.int lo), .unset, .unset, .unset]) rfl ?_
    show Steps p.tables e below (T2.setTop (mkF m 12 #[.val (.int p1), .val (.int p2), .val (.int hi), .val (.int lo), .unset, .unset, .unset] [])) _
    refine XS.iloadN X2.here hx rfl (hb hby at_12) rfl ?_
    show Steps p.tables e below (T2.setTop (mkF m 13 #[.val (.int p1), .val (.int p2), .val (.int hi), .val (.int lo), .unset, .unset, .unset] [(.int hi)])) _
    refine XS.i2l X2.here hx rfl (hb hby at_13) rfl ?_
    show Steps p.tables e below (T2.setTop (mkF m 14 #[.val (.int p1), .val (.int p2), .val (.int hi), .val (.int lo), .unset, .unset, .unset] [(.long (hi).toInt64)])) _
    refine XS.iloadN X2.here hx rfl (hb hby at_14) rfl ?_
    show Steps p.tables e below (T2.setTop (mkF m 15 #[.val (.int p1), .val (.int p2), .val (.int hi), .val (.int lo), .unset, .unset, .unset] [(.int lo), (.long (hi).toInt64)])) _
    refine XS.i2l X2.here hx rfl (hb hby at_15) rfl ?_
    show Steps p.tables e below (T2.setTop (mkF m 16 #[.val (.int p1), .val (.int p2), .val (.int hi), .val (.int lo), .unset, .unset, .unset] [(.long (lo).toInt64), (.long (hi).toInt64)])) _
    refine XS.lsub X2.here hx rfl (hb hby at_16) rfl ?_
    show Steps p.tables e below (T2.setTop (mkF m 17 #[.val (.int p1), .val (.int p2), .val (.int hi), .val (.int lo), .unset, .unset, .unset] [(.long ((hi).toInt64 - (lo).toInt64))])) _
    refine XS.lstore X2.here hx rfl (hb hby at_17) rfl (l' := #[.val (.int p1), .val (.int p2), .val (.int hi), .val (.int lo), .val (.long ((hi).toInt64 - (lo).toInt64)), .second, .unset]) rfl ?_
    show Steps p.tables e below (T2.setTop (mkF m 19 #[.val (.int p1), .val (.int p2), .val (.int hi), .val (.int lo), .val (.long ((hi).toInt64 - (lo).toInt64)), .second, .unset] [])) _
    refine XS.lload X2.here hx rfl (hb hby at_19) rfl ?_
    show Steps p.tables e below (T2.setTop (mkF m 21 #[.val (.int p1), .val (.int p2), .val (.int hi), .val (.int lo), .val (.long ((hi).toInt64 - (lo).toInt64)), .second, .unset] [(.long ((hi).toInt64 - (lo).toInt64))])) _
    refine XS.lconst X2.here hx rfl (hb hby at_21) ?_
    show Steps p.tables e below (T2.setTop (mkF m 22 #[.val (.int p1), .val (.int p2), .val (.int hi), .val (.int lo), .val (.long ((hi).toInt64 - (lo).toInt64)), .second, .unset] [(.long (0 : Int64)), (.long ((hi).toInt64 - (lo).toInt64))])) _
    refine XS.lcmp X2.here hx rfl (hb hby at_22) rfl ?_
    show Steps p.tables e below (T2.setTop (mkF m 23 #[.val (.int p1), .val (.int p2), .val (.int hi), .val (.int lo), .val (.long ((hi).toInt64 - (lo).toInt64)), .second, .unset] [(.int (lcmpW ((hi).toInt64 - (lo).toInt64) (0 : Int64)))])) _
    refine mg3 _ ?_
    show Steps p.tables e below (T2.setTop (mkF m 83 #[.val (.int p1), .val (.int p2), .val (.int hi), .val (.int lo), .val (.long ((hi).toInt64 - (lo).toInt64)), .second, .val (.int ex)] [])) _
    refine XS.iloadN X2.here hx rfl (hb hby at_83) rfl ?_
    show Steps p.tables e below (T2.setTop (mkF m 84 #[.val (.int p1), .val (.int p2), .val (.int hi), .val (.int lo), .val (.long ((hi).toInt64 - (lo).toInt64)), .second, .val (.int ex)] [(.int hi)])) _
    refine XS.i2dS X2.here hx rfl (hb hby at_84) rfl rfl ?_
    show Steps p.tables e below (T2.setTop (mkF m 85 #[.val (.int p1), .val (.int p2), .val (.int hi), .val (.int lo), .val (.long ((hi).toInt64 - (lo).toInt64)), .second, .val (.int ex)] [(.double (FP.i2d hi))])) _
    refine XS.iloadN X2.here hx rfl (hb hby at_85) rfl ?_
    show Steps p.tables e below (T2.setTop (mkF m 86 #[.val (.int p1), .val (.int p2), .val (.int hi), .val (.int lo), .val (.long ((hi).toInt64 - (lo).toInt64)), .second, .val (.int ex)] [(.int lo), (.double (FP.i2d hi))])) _
    refine XS.i2dS X2.here hx rfl (hb hby at_86) rfl rfl ?_
    show Steps p.tables e below (T2.setTop (mkF m 87 #[.val (.int p1), .val (.int p2), .val (.int hi), .val (.int lo), .val (.long ((hi).toInt64 - (lo).toInt64)), .second, .val (.int ex)] [(.double (FP.i2d lo)), (.double (FP.i2d hi))])) _
    refine st4 _ ?_
    show Steps p.tables e below (T4.setTop (mkF m 90 #[.val (.int p1), .val (.int p2), .val (.int hi), .val (.int lo), .val (.long ((hi).toInt64 - (lo).toInt64)), .second, .val (.int ex)] [(.int ex)])) _
    refine XS.iload X4.here hx rfl (hb hby at_90) rfl ?_
    show Steps p.tables e below (T4.setTop (mkF m 92 #[.val (.int p1), .val (.int p2), .val (.int hi), .val (.int lo), .val (.long ((hi).toInt64 - (lo).toInt64)), .second, .val (.int ex)] [(.int ex), (.int ex)])) _
    refine XS.icmpNo X4.here hx rfl (hb hby at_92) rfl (teq (rfl : ex = ex)).2 ?_
    show Steps p.tables e below (T4.setTop (mkF m 95 #[.val (.int p1), .val (.int p2), .val (.int hi), .val (.int lo), .val (.long ((hi).toInt64 - (lo).toInt64)), .second, .val (.int ex)] [])) _
    refine XS.iconst X4.here hx rfl (hb hby at_95) ?_
    show Steps p.tables e below (T4.setTop (mkF m 96 #[.val (.int p1), .val (.int p2), .val (.int hi), .val (.int lo), .val (.long ((hi).toInt64 - (lo).toInt64)), .second, .val (.int ex)] [(.int (1 : Int32))])) _
    refine XS.goto X4.here hx rfl (pc0 := 96) (pc' := 100) rfl (hb hby at_96) (by decide) (by decide) ?_
    show Steps p.tables e below (T4.setTop (mkF m 100 #[.val (.int p1), .val (.int p2), .val (.int hi), .val (.int lo), .val (.long ((hi).toInt64 - (lo).toInt64)), .second, .val (.int ex)] [(.int (1 : Int32))])) _
    exact retOut X4 hx (t := .boolean) (i := .ireturn) Bd.returns rfl (Or.inl ⟨rfl, Or.inr (Or.inl rfl), _, rfl⟩) (hb hby at_100) hr
  · show Q_law Z p1 p2 hi lo h0 n0 _ T4.heap _
    rw [e4]
    exact ⟨rfl, N4⟩
set_option maxRecDepth 65536 in
set_option maxHeartbeats 40000000 in
theorem comes_1 {Post : Tables → Env → Array Value → State → Outcome → State → Prop} (hpost : ∀ tb e args s v u, (limb_1_1.after args s (.returned v) u = true ∧ limb_1_2.after args s (.returned v) u = true ∧ True) → FrameEnd s (.returned v) u (Jvm.fieldLocs frame_1_writes args s ++ Jvm.arrayLocs frame_1_arrays args s ++ Jvm.staticLocs frame_1_statics s) 0 0 → Post tb e args s (.returned v) u) :
    ArmFor flags0 classFile x code maxLocals ret World_1 tables_1 room_1 Calls_1 rest_1 Pre_1 Post := by
  intro l hfl _ _ p e ha hc hk s m args below hf hA hF happ hP
  obtain ⟨hcalls, hrest, hpre⟩ := hP
  obtain ⟨-, -, -, hnamed, -, -, -, hat⟩ := (Spec.applies_iff hf).mp happ
  obtain ⟨hg, hn⟩ := and_e (Cond.before_iff.mp (show (Jvm.Cond.and given_1 narrow_1).before args s = true from hpre))
  obtain ⟨g0, r0⟩ := and_e hg
  obtain ⟨g1, r1⟩ := and_e r0
  obtain ⟨w0, w1, rfl⟩ : ∃ w0 w1 : Value, args = #[w0, w1] := by
    have hs : args.size = 2 := by simpa [Cond.value, given_1] using g0
    obtain ⟨L⟩ := args
    match L, hs with
    | [w0, w1], _ => exact ⟨w0, w1, rfl⟩
  have hw := fun d (hd : d ∈ tables_1) => atoms_spec (ws := Jvm.Cond.code x code maxLocals ret :: tables_1) hat d (List.mem_cons_of_mem _ hd)
  obtain ⟨i0, q0⟩ := is_v g1
  obtain rfl : w0 = (.int i0) := Option.some.inj q0
  obtain ⟨i1, q1⟩ := is_v r1
  obtain rfl : w1 = (.int i1) := Option.some.inj q1
  obtain ⟨hi, lo, hmx, hmn, hle⟩ : ∃ hi lo : Int32, ((i0 < i1 ∧ hi = i1) ∨ (¬ (i0 < i1) ∧ hi = i0)) ∧ ((i1 < i0 ∧ lo = i1) ∨ (¬ (i1 < i0) ∧ lo = i0)) ∧ lo.toInt ≤ hi.toInt := by
    by_cases q1 : i0 < i1
    · have q2 := Int32.lt_iff_toInt_lt.mp q1
      exact ⟨i1, i0, Or.inl ⟨q1, rfl⟩, Or.inr ⟨fun z => by have := Int32.lt_iff_toInt_lt.mp z; omega, rfl⟩, by omega⟩
    · have q2 : ¬ (i0.toInt < i1.toInt) := fun z => q1 (Int32.lt_iff_toInt_lt.mpr z)
      by_cases q3 : i1 < i0
      · exact ⟨i0, i1, Or.inr ⟨q1, rfl⟩, Or.inl ⟨q3, rfl⟩, by omega⟩
      · exact ⟨i0, i0, Or.inr ⟨q1, rfl⟩, Or.inr ⟨q3, rfl⟩, Int.le_refl _⟩
  obtain ⟨n, o, h1, h2, h3, _, L, rfl, ⟨rfl, N⟩, hq⟩ := rm_law l s _ hw tables_1 i0 i1 hi lo s.heap s.heap.size (Nat.le_refl _) hmx hmn hle p e ha hc hk s m _ below hf ((Spec.applies_iff_loose hf).mp happ).1 ⟨rfl, State.Warmed39.refl s, rfl⟩ trivial
  refine ⟨n, _, h1, h2, h3, hpost _ _ _ _ _ _ ⟨Cond.after_iff.mpr rfl, Cond.after_iff.mpr (eq_i res_at (Term.int_eval (1)) rfl), trivial⟩ ⟨hq.1, hq.2.1, (hq.2.2.sift fun y hy => Or.inr (N y hy)).mono (by decide) (by decide)⟩⟩
theorem main_1_1 : Claimed_1_1 := comes_1 fun _ _ _ _ _ _ h hF => ⟨h.1, hF⟩
theorem main_1_2 : Claimed_1_2 := comes_1 fun _ _ _ _ _ _ h hF => ⟨h.2.1, hF⟩
end Jvm.Pilot.@@N@@
namespace Jvm.Pilot.@@N@@
open Jvm Jvm.ClassFile Sem Op Lib Jvm.Free Jvm.Stand Jvm.Pilot.@@N@@.Jvm.D
/-! MADE BY PROGRAM (witnessworld.py) out of the Statement's table words and the real class files: 10 classes; the members and pool entries that the words name. The judged class is class 1, her method 1. -/
namespace start1
open Jvm.ClassFile
def u (s : String) : CpInfo := .utf8 (stringToUtf16 s)
/-- a pool by its gaps: so many unusable entries, then the entry; so many at the end -/
def gap : Nat → List CpInfo → List CpInfo
  | 0, r => r
  | n + 1, r => .unusable :: gap n r
def poolList (es : List (Nat × CpInfo)) (last : Nat) : List CpInfo := es.foldr (fun e r => gap e.1 (e.2 :: r)) (gap last [])
def pool (es : List (Nat × CpInfo)) (last : Nat) : Array CpInfo := ⟨poolList es last⟩
def fileOf (pool : Array CpInfo) (this : Nat) (attrs : Array Attribute := #[]) (ms : Array MethodInfo := #[]) (fl : Nat := 33) (sup : Nat := 0) (ifs : Array Nat := #[]) (fds : Array FieldInfo := #[]) : ClassFile where
  minorVersion := 0
  majorVersion := 65
  constantPool := pool
  accessFlags := fl
  thisClass := this
  superClass := sup
  interfaces := ifs
  fields := fds
  methods := ms
  attributes := attrs
def plain (name : String) (sup : Option ClassId) : Class where
  name := name
  kind := .ordinary
  loader := none
  accessFlags := 33
  super := sup
  interfaces := #[]
  cf := none
  fields := #[]
  methods := #[]
  instanceTypes := #[]
  staticTypes := #[]
  resolved := #[]
  callSites := []
  init := .initialized
  statics := none
  mirror := none

def pool0 : Array CpInfo := pool [(5, u "<init>"), (0, u "()V"), (1, .class_ 10), (1, u "java/lang/Object")] 113

def k0m0 : Method := { name := "<init>", desc := "()V", sig := { parameters := [], returnType := none }, accessFlags := 1, code := none }
/-- java/lang/Object -/
def k0 : Class := { plain "java/lang/Object" none with
  accessFlags := 33
  interfaces := #[]
  cf := some (fileOf pool0 8 #[] #[{ accessFlags := 1, nameIndex := 5, descriptorIndex := 6, attributes := #[] }] 33 0 #[] #[])
  fields := #[]
  methods := #[k0m0]
  instanceTypes := #[]
  staticTypes := #[]
  resolved := Array.replicate 124 none
  statics := none }

def pool1 : Array CpInfo := pool [(2, .class_ 4), (1, u "java/lang/Object"), (0, u "<init>"), (0, u "()V"), (0, .methodref 8 9), (0, .class_ 10), (0, .nameAndType 11 12), (0, u "java/lang/Math"), (0, u "max"), (0, u "(II)I"), (0, .methodref 8 14), (0, .nameAndType 15 12), (0, u "min"), (0, .integer 1000000000), (0, .long 2), (1, .integer 2000000000), (0, .methodref 21 22), (0, .class_ 23), (0, .nameAndType 24 25), (0, u "com/example/usher/usher/strategy/RankQueue"), (0, u "sameRank"), (0, u "(DD)Z"), (0, .class_ 27), (0, u "com/example/usher/usher/strategy/RankQueueSameRankPinLaw"), (2, u "law"), (0, u "(II)Z")] 3

def k1m0 : Method := { name := "<init>", desc := "()V", sig := { parameters := [], returnType := none }, accessFlags := 1, code := none }
def k1c1 : Code := { maxStack := 4, maxLocals := 7, code := code, exceptionTable := #[], attributes := #[] }
def k1m1 : Method := { name := "law", desc := "(II)Z", sig := { parameters := [.int, .int], returnType := some .boolean }, accessFlags := 9, code := some k1c1 }
/-- com/example/usher/usher/strategy/RankQueueSameRankPinLaw -/
def k1 : Class := { plain "com/example/usher/usher/strategy/RankQueueSameRankPinLaw" (some 0) with
  accessFlags := 49
  interfaces := #[]
  cf := some (fileOf pool1 26 #[] #[{ accessFlags := 1, nameIndex := 5, descriptorIndex := 6, attributes := #[] }, { accessFlags := 9, nameIndex := 30, descriptorIndex := 31, attributes := #[] }] 49 2 #[] #[])
  fields := #[]
  methods := #[k1m0, k1m1]
  instanceTypes := #[]
  staticTypes := #[]
  resolved := Array.replicate 35 none
  statics := none }

def pool2 : Array CpInfo := pool [(1, .class_ 2), (0, u "java/lang/Math"), (1, .class_ 6), (1, u "java/lang/Object"), (0, u "<init>"), (0, u "()V"), (89, .class_ 100), (1, u "java/lang/Math$RandomNumberGeneratorHolder"), (71, u "negativeZeroFloatBits"), (0, u "J"), (2, u "negativeZeroDoubleBits"), (21, u "max"), (2, u "min"), (43, u "$assertionsDisabled"), (0, u "Z"), (88, u "(II)I"), (2, u "twoToTheDoubleScaleDown"), (0, u "D"), (4, u "twoToTheDoubleScaleUp"), (9, u "E"), (3, u "PI"), (2, u "TAU"), (2, u "DEGREES_TO_RADIANS"), (0, u "RADIANS_TO_DEGREES")] 94

def k2m0 : Method := { name := "<init>", desc := "()V", sig := { parameters := [], returnType := none }, accessFlags := 2, code := none }
def k2c1 : Code := { maxStack := 2, maxLocals := 2, code := jdk_29_method_65_code, exceptionTable := #[], attributes := #[] }
def k2m1 : Method := { name := "max", desc := "(II)I", sig := { parameters := [.int, .int], returnType := some .int }, accessFlags := 9, code := some k2c1 }
def k2c2 : Code := { maxStack := 2, maxLocals := 2, code := jdk_29_method_69_code, exceptionTable := #[], attributes := #[] }
def k2m2 : Method := { name := "min", desc := "(II)I", sig := { parameters := [.int, .int], returnType := some .int }, accessFlags := 9, code := some k2c2 }
/-- java/lang/Math -/
def k2 : Class := { plain "java/lang/Math" (some 0) with
  accessFlags := 49
  interfaces := #[]
  cf := some (fileOf pool2 1 #[.nestMembers #[98]] #[{ accessFlags := 2, nameIndex := 7, descriptorIndex := 8, attributes := #[] }, { accessFlags := 9, nameIndex := 198, descriptorIndex := 335, attributes := #[] }, { accessFlags := 9, nameIndex := 201, descriptorIndex := 335, attributes := #[] }] 49 4 #[] #[{ accessFlags := 25, nameIndex := 354, descriptorIndex := 339, attributes := #[] }, { accessFlags := 25, nameIndex := 358, descriptorIndex := 339, attributes := #[] }, { accessFlags := 25, nameIndex := 361, descriptorIndex := 339, attributes := #[] }, { accessFlags := 26, nameIndex := 364, descriptorIndex := 339, attributes := #[] }, { accessFlags := 26, nameIndex := 365, descriptorIndex := 339, attributes := #[] }, { accessFlags := 26, nameIndex := 172, descriptorIndex := 173, attributes := #[] }, { accessFlags := 26, nameIndex := 176, descriptorIndex := 173, attributes := #[] }, { accessFlags := 8, nameIndex := 344, descriptorIndex := 339, attributes := #[] }, { accessFlags := 8, nameIndex := 338, descriptorIndex := 339, attributes := #[] }, { accessFlags := 4120, nameIndex := 245, descriptorIndex := 246, attributes := #[] }])
  fields := #[{ name := "E", type := .double, accessFlags := 25, slot := 0, constantValue := 0 }, { name := "PI", type := .double, accessFlags := 25, slot := 1, constantValue := 0 }, { name := "TAU", type := .double, accessFlags := 25, slot := 2, constantValue := 0 }, { name := "DEGREES_TO_RADIANS", type := .double, accessFlags := 26, slot := 3, constantValue := 0 }, { name := "RADIANS_TO_DEGREES", type := .double, accessFlags := 26, slot := 4, constantValue := 0 }, { name := "negativeZeroFloatBits", type := .long, accessFlags := 26, slot := 5, constantValue := 0 }, { name := "negativeZeroDoubleBits", type := .long, accessFlags := 26, slot := 6, constantValue := 0 }, { name := "twoToTheDoubleScaleUp", type := .double, accessFlags := 8, slot := 7, constantValue := 0 }, { name := "twoToTheDoubleScaleDown", type := .double, accessFlags := 8, slot := 8, constantValue := 0 }, { name := "$assertionsDisabled", type := .boolean, accessFlags := 4120, slot := 9, constantValue := 0 }]
  methods := #[k2m0, k2m1, k2m2]
  instanceTypes := #[]
  staticTypes := #[.double, .double, .double, .double, .double, .long, .long, .double, .double, .boolean]
  resolved := Array.replicate 460 none
  statics := none }

def pool3 : Array CpInfo := pool [(2, .class_ 4), (1, u "java/lang/Object"), (14, .class_ 21), (1, u "com/example/usher/usher/strategy/RankQueue"), (0, u "added"), (0, u "Ljava/util/NavigableMap;"), (2, u "ranks"), (0, u "[D"), (65, u "sameRank"), (0, u "(DD)Z"), (26, .double 4472406533629990549), (4, u "RANK_TOLERANCE"), (0, u "D")] 35

def k3c0 : Code := { maxStack := 6, maxLocals := 4, code := prog_91_method_5_code, exceptionTable := #[], attributes := #[] }
def k3m0 : Method := { name := "sameRank", desc := "(DD)Z", sig := { parameters := [.double, .double], returnType := some .boolean }, accessFlags := 8, code := some k3c0 }
/-- com/example/usher/usher/strategy/RankQueue -/
def k3 : Class := { plain "com/example/usher/usher/strategy/RankQueue" (some 0) with
  accessFlags := 48
  interfaces := #[]
  cf := some (fileOf pool3 19 #[] #[{ accessFlags := 8, nameIndex := 93, descriptorIndex := 94, attributes := #[] }] 48 2 #[] #[{ accessFlags := 24, nameIndex := 126, descriptorIndex := 127, attributes := #[] }, { accessFlags := 18, nameIndex := 26, descriptorIndex := 27, attributes := #[] }, { accessFlags := 18, nameIndex := 22, descriptorIndex := 23, attributes := #[] }])
  fields := #[{ name := "RANK_TOLERANCE", type := .double, accessFlags := 24, slot := 0, constantValue := 0 }, { name := "ranks", type := (.array .double), accessFlags := 18, slot := 0, constantValue := 0 }, { name := "added", type := (.object "java/util/NavigableMap"), accessFlags := 18, slot := 1, constantValue := 0 }]
  methods := #[k3m0]
  instanceTypes := #[(.array .double), (.object "java/util/NavigableMap")]
  staticTypes := #[.double]
  resolved := Array.replicate 163 none
  statics := none }

def pool4 : Array CpInfo := pool [(1, u "java/lang/Cloneable"), (0, .class_ 1), (0, u "java/lang/Object"), (0, .class_ 3)] 3

/-- java/lang/Cloneable -/
def k4 : Class := { plain "java/lang/Cloneable" (some 0) with
  accessFlags := 1537
  interfaces := #[]
  cf := some (fileOf pool4 2 #[] #[] 1537 4 #[] #[])
  fields := #[]
  methods := #[]
  instanceTypes := #[]
  staticTypes := #[]
  resolved := Array.replicate 8 none
  statics := none }

def pool5 : Array CpInfo := pool [(1, u "java/io/Serializable"), (0, .class_ 1), (0, u "java/lang/Object"), (0, .class_ 3)] 3

/-- java/io/Serializable -/
def k5 : Class := { plain "java/io/Serializable" (some 0) with
  accessFlags := 1537
  interfaces := #[]
  cf := some (fileOf pool5 2 #[] #[] 1537 4 #[] #[])
  fields := #[]
  methods := #[]
  instanceTypes := #[]
  staticTypes := #[]
  resolved := Array.replicate 8 none
  statics := none }

/-- the primitive byte -/
def k6 : Class := { plain "byte" none with kind := .primitive 'B', accessFlags := 0x411 }
/-- [B -/
def k7 : Class := { plain "[B" (some 0) with kind := .array 6 .byte, interfaces := #[4, 5], accessFlags := 1041 }

/-- the primitive int -/
def k8 : Class := { plain "int" none with kind := .primitive 'I', accessFlags := 0x411 }
/-- [I -/
def k9 : Class := { plain "[I" (some 0) with kind := .array 8 .int, interfaces := #[4, 5], accessFlags := 1041 }

def heap : Heap := #[]
def classes : Array Class := #[k0, k1, k2, k3, k4, k5, k6, k7, k8, k9]
def interned : List (Array UInt16 × Addr) := []
def slotsUsed : Nat := 0
def theMethod : MethodId := ⟨1, 1⟩
def args0 : Array Value := #[.int 5, .int 1]
def aboutOver (below : List Frame) : State where
  vm := { classes := classes, interned := interned.toArray }
  heap := heap
  slotsUsed := slotsUsed
  threads := #[{ frames := .invoking theMethod args0 :: below }]
def below0 : List Frame := [.native { method := ⟨0, 0⟩, args := #[] }]
def about1 : State := aboutOver below0
def p0 : Program := .bare "" "" ""
def e0 : Env := launch0.env 0 0 0
theorem w_frames : about1.frames = Frame.invoking theMethod args0 :: below0 := rfl
set_option maxRecDepth 65536 in
theorem w_args : argsFit about1.vm theMethod args0 = true := by decide +kernel
set_option maxRecDepth 65536 in
theorem w_heap : heapFits about1 = true := by decide +kernel
set_option maxRecDepth 65536 in
theorem w_runnable : about1.curStatus? = some .runnable := by decide +kernel
set_option maxRecDepth 65536 in
theorem w_alone : about1.alone = true := by decide +kernel
set_option maxRecDepth 65536 in
theorem w_named : about1.methodNamed? x = some theMethod := by decide +kernel
set_option maxRecDepth 65536 in
theorem w_hears : about1.hears theMethod below0 = true := by decide +kernel
set_option maxRecDepth 65536 in
theorem w_ripe : about1.ripe theMethod args0 below0 = true := by decide +kernel
theorem w_running : about1.status = .running := rfl
set_option maxRecDepth 65536 in
theorem w_room : about1.hasRoom e0.platform room_1 = true :=
  launch0.hasRoom_least _ room_1 (by decide +kernel) (by decide +kernel) (by decide +kernel) (by decide +kernel) (by decide +kernel) (by decide +kernel)
theorem allAtoms_all (ts : List Jvm.Cond) (a : Array Jvm.Value) (st : Jvm.State) : (allAtoms ts).before a st = ts.all (fun c => c.before a st) := by
  induction ts with
  | nil => rfl
  | cons c t ih =>
    show (Jvm.Cond.and c (allAtoms t)).before a st = _
    rw [Jvm.Cond.before_and, ih, List.all_cons]
def words1 : List Jvm.Cond := Jvm.Cond.code x code maxLocals ret :: tables_1
/-- a 'code' word, met by the world's own term for the bytes: nothing is compared byte by byte -/
theorem code_word {y : MethodName} {bytes : ByteArray} {mx : Nat} {rt : Option FieldType} {a : Array Value} {s : State} {m : MethodId} {meth : Method} {c : Code} (h1 : s.methodNamed? y = some m) (h2 : s.vm.method? m = some meth) (h3 : meth.code = some c) (h4 : c.code = bytes)
    (h5 : (c.maxLocals == mx && c.exceptionTable.isEmpty && decide (c.maxStack ≤ mostOperands) && decide (meth.sig.returnType = rt) && !meth.locks && decide (parseMethodDescriptor y.desc = some meth.sig)) = true) : (Jvm.Cond.code y bytes mx rt).before a s = true := by
  simp only [Bool.and_eq_true, beq_iff_eq, Bool.not_eq_true', decide_eq_true_eq] at h5
  obtain ⟨⟨⟨⟨⟨g1, g2⟩, g3⟩, g4⟩, g5⟩, g6⟩ := h5
  simp [Cond.before, Cond.holds, Cond.value, h1, h2, h3, h4, g1, g2, g3, g4, g5, g6]
def isCode : Jvm.Cond → Bool
  | .code _ _ _ _ => true
  | _ => false
theorem all_split {L : List Jvm.Cond} {P : Jvm.Cond → Bool} (h1 : L.all (fun c => isCode c || P c) = true) (h2 : ∀ c ∈ L.filter isCode, P c = true) : L.all P = true := by
  refine List.all_eq_true.mpr fun c hc => ?_
  have h := List.all_eq_true.mp h1 c hc
  rcases Bool.eq_false_or_eq_true (isCode c) with hi | hi
  · exact h2 c (List.mem_filter.mpr ⟨hc, hi⟩)
  · simpa [hi] using h
set_option maxRecDepth 65536 in
theorem w_c0 : (Jvm.Cond.code x code maxLocals ret).before args0 about1 = true := code_word (m := ⟨1, 1⟩) (meth := k1m1) (c := k1c1) (by decide +kernel) rfl rfl rfl (by decide +kernel)
set_option maxRecDepth 65536 in
theorem w_c1 : (Jvm.Cond.code ({ cls := "java/lang/Math", name := "max", desc := "(II)I" } : Jvm.MethodName) jdk_29_method_65_code (2 : Nat) (Option.some Jvm.ClassFile.FieldType.int)).before args0 about1 = true := code_word (m := ⟨2, 1⟩) (meth := k2m1) (c := k2c1) (by decide +kernel) rfl rfl rfl (by decide +kernel)
set_option maxRecDepth 65536 in
theorem w_c2 : (Jvm.Cond.code ({ cls := "java/lang/Math", name := "min", desc := "(II)I" } : Jvm.MethodName) jdk_29_method_69_code (2 : Nat) (Option.some Jvm.ClassFile.FieldType.int)).before args0 about1 = true := code_word (m := ⟨2, 2⟩) (meth := k2m2) (c := k2c2) (by decide +kernel) rfl rfl rfl (by decide +kernel)
set_option maxRecDepth 65536 in
theorem w_c3 : (Jvm.Cond.code ({ cls := "com/example/usher/usher/strategy/RankQueue", name := "sameRank", desc := "(DD)Z" } : Jvm.MethodName) prog_91_method_5_code (4 : Nat) (Option.some Jvm.ClassFile.FieldType.boolean)).before args0 about1 = true := code_word (m := ⟨3, 0⟩) (meth := k3m0) (c := k3c0) (by decide +kernel) rfl rfl rfl (by decide +kernel)
def codes1 : List Jvm.Cond := [Jvm.Cond.code x code maxLocals ret, Jvm.Cond.code ({ cls := "java/lang/Math", name := "max", desc := "(II)I" } : Jvm.MethodName) jdk_29_method_65_code (2 : Nat) (Option.some Jvm.ClassFile.FieldType.int), Jvm.Cond.code ({ cls := "java/lang/Math", name := "min", desc := "(II)I" } : Jvm.MethodName) jdk_29_method_69_code (2 : Nat) (Option.some Jvm.ClassFile.FieldType.int), Jvm.Cond.code ({ cls := "com/example/usher/usher/strategy/RankQueue", name := "sameRank", desc := "(DD)Z" } : Jvm.MethodName) prog_91_method_5_code (4 : Nat) (Option.some Jvm.ClassFile.FieldType.boolean)]
set_option maxRecDepth 65536 in
theorem codes_eq : words1.filter isCode = codes1 := rfl
theorem w_codes : ∀ c ∈ words1.filter isCode, c.before args0 about1 = true := by
  rw [codes_eq]
  intro c hc
  simp only [codes1, List.mem_cons, List.not_mem_nil, or_false] at hc
  rcases hc with rfl | rfl | rfl | rfl
  · exact w_c0
  · exact w_c1
  · exact w_c2
  · exact w_c3
set_option maxRecDepth 65536 in
theorem w_t1 : words1.all (fun c => isCode c || c.before args0 about1) = true := by decide +kernel
theorem w_tables : (allAtoms (Jvm.Cond.code x code maxLocals ret :: tables_1)).before args0 about1 = true := by
  rw [allAtoms_all]
  show words1.all (fun c => c.before args0 about1) = true
  refine all_split ?_ w_codes
  rw [w_t1]
set_option maxRecDepth 65536 in
theorem w_case : (Jvm.Cond.and given_1 narrow_1).before args0 about1 = true := by decide +kernel
theorem w_applies : (headSpec (Jvm.Cond.code x code maxLocals ret :: tables_1) room_1).applies x e0.platform about1 = true :=
  (Spec.applies_iff w_frames).mpr ⟨w_running, w_runnable, w_alone, w_named, w_hears, w_ripe, w_room, w_tables⟩
theorem atStart : AtStart classFile x code maxLocals ret World_1 tables_1 room_1 Calls_1 rest_1 Pre_1 launch0 p0 e0 about1 theMethod args0 below0 :=
  ⟨lists_1, trivial, launch0.admits_env _ _ _, launch0.least_env, fairChoices_fair.cas, fairChoices_fair.clock, w_frames, w_args, w_heap, w_applies, trivial, trivial, w_case⟩
end start1
theorem witness_1 : WitnessClaimed_1 := ⟨start1.p0, start1.e0, start1.about1, start1.theMethod, start1.args0, start1.below0, start1.atStart⟩
end Jvm.Pilot.@@N@@
