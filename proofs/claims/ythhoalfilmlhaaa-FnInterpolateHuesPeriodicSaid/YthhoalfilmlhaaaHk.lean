/-
  The walk of the law on whole turns. Conditions: the shapes of the arguments.
-/
import Derived.Test.YthhoalfilmlhaaaHj
namespace Go.Proofs.Ythhoalfilmlhaaa
open Go.ChangeShapes Go.WideShapes Go.ChangeAt Go.RowKit
attribute [local go_sem] run_store_float unary_neg_float

theorem mile_ok : Fl.Fin 4562254508917369340 ∧ 1 / 2000 ≤ Fl.val 4562254508917369340 := by decide +kernel
theorem w180 : Fl.Fin 4640537203540230144 ∧ Fl.val 4640537203540230144 = 180 := by decide +kernel
theorem trunc_at {x y : Nat} (hx : Fl.Fin x) (hy : Fl.Fin y) (bx : Fl.ab (Fl.val x) ≤ 20000000) (by' : Fl.ab (Fl.val y) ≤ 20000000) : ∃ n : Int, (Ieee.double.read (Fl.fdiv (Fl.fsub x y) 4645040803167600640)).toInt .zero = some n ∧ n.natAbs ≤ 4503599627370496 := by
  obtain ⟨f1, e1, f2, e2, e3⟩ := Fl.circ_pre hx hy bx by'
  have qb : Fl.ab (Fl.val (Fl.fdiv (Fl.fsub x y) 4645040803167600640)) ≤ 4503599627370496 := by
    have h1 := Fl.ab_le.1 e2
    have h2 := Fl.ab_le.1 e3
    exact Fl.ab_le.2 ⟨by grind, by grind⟩
  obtain ⟨n, hn, hN, _⟩ := Fl.trunc_spec f2 qb
  exact ⟨n, hn, hN⟩
/-- the distance of two bounded hues, and what it says -/
theorem circAny {x y : Nat} (hx : Fl.Fin x) (hy : Fl.Fin y) (bx : Fl.ab (Fl.val x) ≤ 20000000) (by' : Fl.ab (Fl.val y) ≤ 20000000) : ∃ c, Fl.Fin c ∧ Fl.Fin (Fl.fsub c 4640537203540230144) ∧
    (∀ w, Calls Try.prog 6 #[.float .f64 x, .float .f64 y] w fun e w' => e = .returned (.float .f64 c) ∧ w' = w) ∧
    ((FloatKind.f64.format.order c 4562254508917369340 == some .lt) = false → (FloatKind.f64.format.order (Fl.fabs (Fl.fsub c 4640537203540230144)) 4562254508917369340 == some .lt) = false → Fl.Away ((Fl.val y - Fl.val x) / 360)) ∧
    (∀ K : Int, Fl.ab (Fl.val x - Fl.val y - 360 * (K : Rat)) ≤ 1 / 10000000 → leB c 4517329193108106637 = true) := by
  obtain ⟨n, hn, hN⟩ := trunc_at hx hy bx by'
  obtain ⟨ok, z, z1, z2, hz⟩ := Fl.circ_gen hx hy bx by' hn
  have hB := Fl.BIG_big
  have bc : Fl.ab (Fl.val (Fl.circ x y n)) ≤ 400 := by
    rcases hz with ⟨h, _⟩ | ⟨h, _⟩ <;> have h := Fl.ab_le.1 h <;> exact Fl.ab_le.2 ⟨by grind, by grind⟩
  have bc := Fl.ab_le.1 bc
  have bd : Fl.ab (Fl.val (Fl.circ x y n) - Fl.val 4640537203540230144) ≤ 600 := by rw [w180.2]; exact Fl.ab_le.2 ⟨by grind, by grind⟩
  obtain ⟨fd, ed⟩ := Fl.fsub_err ok.c w180.1 (by grind)
  refine ⟨_, ok.c, fd, fun w => circ6 x y n hx hy hn hN ok w, ?_, ?_⟩
  · intro h1 h2
    obtain ⟨fa, va⟩ := Fl.fabs_fin fd
    have g1 : (FloatKind.f64.format.order (Fl.circ x y n) 4562254508917369340 == some .lt) = decide (Fl.val (Fl.circ x y n) < Fl.val 4562254508917369340) := (Fl.order_fin ok.c mile_ok.1).1
    have g2 : (FloatKind.f64.format.order (Fl.fabs (Fl.fsub (Fl.circ x y n) 4640537203540230144)) 4562254508917369340 == some .lt) = decide (Fl.val (Fl.fabs (Fl.fsub (Fl.circ x y n) 4640537203540230144)) < Fl.val 4562254508917369340) := (Fl.order_fin fa mile_ok.1).1
    rw [g1, decide_eq_false_iff_not] at h1
    rw [g2, decide_eq_false_iff_not, va] at h2
    have mo := mile_ok.2
    have mo' : 9 / 10000 ≤ Fl.val 4562254508917369340 := by decide +kernel
    rw [w180.2] at ed bd
    have h3 := Fl.size_of (v := Fl.val (Fl.fsub (Fl.circ x y n) 4640537203540230144)) (q := Fl.val (Fl.circ x y n) - 180) ed
    refine Fl.away_of hx hy bx by' hn (by grind) ?_
    grind
  · intro K hK
    obtain ⟨_, hle⟩ := Fl.circ_spec hx hy bx by' hn hK (by decide +kernel)
    have h1 := Fl.le_fin ok.c Fl.eps_ok.1
    unfold leB
    refine h1.trans ?_
    rw [decide_eq_true_iff]
    have := Fl.eps_ok.2
    grind
theorem conv_i16 (k : Int) (w : World) : (convert 23 22 (.int .i16 k)).run Try.prog w = .ok (.float .f64 (floatOfInt .f64 k)) w := rfl
attribute [local go_sem] conv_i16
theorem le_of_circ {c : Nat} (h : leB c 4517329193108106637 = true) : (FloatKind.f64.format.order c 4517329193108106637 == some .lt || FloatKind.f64.format.order c 4517329193108106637 == some .eq) = true := h
set_option maxRecDepth 20000 in
set_option maxHeartbeats 8000000 in
theorem walk3 (a0 : Nat) (a1 : Nat) (a2 : Nat) (a3 : Int) (a4 : Int) (a5 : Int) (w : World) (w3 : (Lit.int .i16 a3).wf = true) (w4 : (Lit.int .i16 a4).wf = true) (w5 : (Lit.int .u8 a5).wf = true) :
    Calls Try.prog 3 #[.float .f64 a0, .float .f64 a1, .float .f64 a2, .int .i16 a3, .int .i16 a4, .int .u8 a5] w fun e w' => e = .returned (.bool true) ∧ Below w.heap.size w w' := by
  have q3 : -32768 ≤ a3 ∧ a3 ≤ 32767 := by
    have : IntKind.i16.min ≤ a3 ∧ a3 ≤ IntKind.i16.max := by simpa [Lit.wf] using w3
    exact this
  have q4 : -32768 ≤ a4 ∧ a4 ≤ 32767 := by
    have : IntKind.i16.min ≤ a4 ∧ a4 ≤ IntKind.i16.max := by simpa [Lit.wf] using w4
    exact this
  have q5 : 0 ≤ a5 ∧ a5 ≤ 255 := by
    have : IntKind.u8.min ≤ a5 ∧ a5 ≤ IntKind.u8.max := by simpa [Lit.wf] using w5
    exact this
  clear w3 w4 w5
  go_enter Try.func3, Try.ntmps3
  go_wp2_with fail
  refine (in5 a0 4696837146684686336 _).mono ?_
  rintro e wx ⟨rfl, hw⟩
  obtain rfl := hw.symm
  clear hw
  cases h0 : inB a0 4696837146684686336
  · go_wp2_with fail
    exact bodyPost_ret (v := .bool true) (by simp [results, Try.results3, go_sem]) rfl ⟨rfl, Below.refl _ _⟩
  have D0 := inB_bd h0
  clear h0
  have D0 := Lib.hid D0
  go_wp2_with fail
  refine (in5 a1 4696837146684686336 _).mono ?_
  rintro e wx ⟨rfl, hw⟩
  obtain rfl := hw.symm
  clear hw
  cases h1 : inB a1 4696837146684686336
  · go_wp2_with fail
    exact bodyPost_ret (v := .bool true) (by simp [results, Try.results3, go_sem]) rfl ⟨rfl, Below.refl _ _⟩
  have D1 := inB_bd h1
  clear h1
  have D1 := Lib.hid D1
  cases ht1 : geB a2 0
  · unfold geB at ht1
    go_wp2_with fail
    exact bodyPost_ret (v := .bool true) (by simp [results, Try.results3, go_sem]) rfl ⟨rfl, Below.refl _ _⟩
  cases ht2 : leB a2 4607182418800017408
  · unfold geB at ht1
    unfold leB at ht2
    go_wp2_with fail
    exact bodyPost_ret (v := .bool true) (by simp [results, Try.results3, go_sem]) rfl ⟨rfl, Below.refl _ _⟩
  have DT := Lib.hid (unit_of ht1 ht2)
  unfold geB at ht1
  unfold leB at ht2
  by_cases hm : 3 < a5
  · go_wp2_with fail
    exact bodyPost_ret (v := .bool true) (by simp [results, Try.results3, go_sem]) rfl ⟨rfl, Below.refl _ _⟩
  have hm' : a5 = 0 ∨ a5 = 1 ∨ a5 = 2 ∨ a5 = 3 := by omega
  obtain ⟨c, fc, fs, C, hC, _⟩ := circAny D0.out.f D1.out.f (by have := D0.out.s; grind) (by have := D1.out.s; grind)
  have hC := Lib.hid hC
  have C := Lib.hid C
  have k42 := fun w t => run_float_arith (P := Try.prog) w .sub t .f64 c 4640537203540230144 _ (Fl.bits_sub fc w180.1)
  go_wp2_with fail
  refine (C.out _).mono ?_
  rintro e wx ⟨rfl, hw⟩
  obtain rfl := hw.symm
  clear hw
  cases c1 : (FloatKind.f64.format.order c 4562254508917369340 == some .lt)
  rotate_left
  · go_wp2_with fail
    exact bodyPost_ret (v := .bool true) (by simp [results, Try.results3, go_sem]) rfl ⟨rfl, Below.refl _ _⟩
  go_wp2_with fail
  refine (abs7 _ _).mono ?_
  rintro e wx ⟨rfl, hw⟩
  obtain rfl := hw.symm
  clear hw
  cases c2 : (FloatKind.f64.format.order (Fl.fabs (Fl.fsub c 4640537203540230144)) 4562254508917369340 == some .lt)
  rotate_left
  · go_wp2_with fail
    exact bodyPost_ret (v := .bool true) (by simp [results, Try.results3, go_sem]) rfl ⟨rfl, Below.refl _ _⟩
  have aw := hC.out c1 c2
  clear hC
  obtain ⟨i1, i2, i3, i4, i5⟩ := Fl.turn_ok D0.out.f D0.out.s q3.1 q3.2
  obtain ⟨j1, j2, j3, j4, j5⟩ := Fl.turn_ok D1.out.f D1.out.s q4.1 q4.2
  have k1 := fun w t => run_float_arith (P := Try.prog) w .mul t .f64 4645040803167600640 (floatOfInt .f64 a3) _ (Fl.bits_mul Fl.w360.1 i1)
  have k2 := fun w t => run_float_arith (P := Try.prog) w .add t .f64 a0 (Fl.fmul 4645040803167600640 (floatOfInt .f64 a3)) _ (Fl.bits_add D0.out.f i2)
  have k3 := fun w t => run_float_arith (P := Try.prog) w .mul t .f64 4645040803167600640 (floatOfInt .f64 a4) _ (Fl.bits_mul Fl.w360.1 j1)
  have k4 := fun w t => run_float_arith (P := Try.prog) w .add t .f64 a1 (Fl.fmul 4645040803167600640 (floatOfInt .f64 a4)) _ (Fl.bits_add D1.out.f j2)
  generalize e2 : Fl.fadd a0 (Fl.fmul 4645040803167600640 (floatOfInt .f64 a3)) = x2 at i3 i4 i5 k2
  generalize e3 : Fl.fadd a1 (Fl.fmul 4645040803167600640 (floatOfInt .f64 a4)) = y2 at j3 j4 j5 k4
  obtain ⟨ka, ta⟩ := Fl.tn_ok D0.out.f (by have := D0.out.s; grind)
  obtain ⟨kb, tb⟩ := Fl.tn_ok D1.out.f (by have := D1.out.s; grind)
  obtain ⟨ka2, ta2⟩ := Fl.tn_ok i3 i4
  obtain ⟨kb2, tb2⟩ := Fl.tn_ok j3 j4
  obtain ⟨s1, g1⟩ := upA_ch (b := a1) ta a5
  obtain ⟨s2, g2⟩ := upB_ch (a := a0) tb a5
  obtain ⟨s3, g3⟩ := upA_ch (b := y2) ta2 a5
  obtain ⟨s4, g4⟩ := upB_ch (a := x2) tb2 a5
  obtain ⟨fr, fr2, br, br2, K, hK⟩ := Fl.per g1 g2 g3 g4 DT.out.f DT.out.s i5 j5 aw (arc_sel ta tb hm') (arc_sel ta2 tb2 hm')
  obtain ⟨c', fc', _, C', _, hC'⟩ := circAny fr fr2 br br2
  have hle := le_of_circ (hC' K hK)
  have Z := Lib.hid (fun w => zz8 a0 a1 a2 _ a5 w (fun w => huesTn D0.out.f D1.out.f ta tb hm' DT.out w))
  have Z' := Lib.hid (fun w => zz8 x2 y2 a2 _ a5 w (fun w => huesTn i3 j3 ta2 tb2 hm' DT.out w))
  have C' := Lib.hid C'
  unfold hue at Z Z'
  generalize Fl.fmul (Fl.lerp (upA a5 a0 a1) (upB a5 a0 a1) a2) 4645040803167600640 = r at Z C'
  generalize Fl.fmul (Fl.lerp (upA a5 x2 y2) (upB a5 x2 y2) a2) 4645040803167600640 = r2 at Z' C'
  clear e2 e3 i1 i2 i3 i4 i5 j1 j2 j3 j4 j5 ta tb ta2 tb2 g1 g2 g3 g4 fr fr2 br br2 hK hC' aw q3 q4 q5
  go_wp2_with fail
  refine (Z.out _).mono ?_
  rintro e y1 ⟨rfl, hb⟩
  have BB1 := Lib.hid ((Below.refl w.heap.size w).trans (hb.mono (Nat.le_refl _)))
  clear hb
  go_wp2_with fail
  refine (Z'.out _).mono ?_
  rintro e y2 ⟨rfl, hb⟩
  have BB2 := Lib.hid (BB1.out.trans (hb.mono BB1.out.size))
  clear hb
  go_wp2_with fail
  refine (C'.out _).mono ?_
  rintro e wx ⟨rfl, hw⟩
  obtain rfl := hw.symm
  clear hw
  go_wp2_with fail
  exact bodyPost_ret (v := .bool true) (by simp [results, Try.results3, go_sem]) rfl ⟨rfl, BB2.out⟩
end Go.Proofs.Ythhoalfilmlhaaa
