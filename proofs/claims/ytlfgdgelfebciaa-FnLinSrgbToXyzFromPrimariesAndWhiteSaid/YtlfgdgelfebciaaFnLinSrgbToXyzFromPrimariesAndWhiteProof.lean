/-
  For finite r, g, b of size at most 1e100, lin_srgb_to_xyz agrees with the matrix that is derived from the primaries and the white within 1e-12 of the input's size.
-/
import Derived.Test.YtlfgdgelfebciaaIo
import Derived.WalkKit
import Derived.ProofKit
import Derived.OpenShut
import Derived.ShutString
import Derived.ChangeOld
import Derived.Below
import Derived.WalkLawsBesides
import Derived.Test.YtlfgdgelfebciaaWx
import Derived.Test.YtlfgdgelfebciaaWh
import Derived.Test.YtlfgdgelfebciaaWd
import Derived.Lib.Hide
namespace Go.Proofs.Ytlfgdgelfebciaa.fnLinSrgbToXyzFromPrimariesAndWhite
open Go.ChangeShapes Go.WideShapes Go.ChangeAt Go.RowKit
open Go.ChangeMaps (open_string shut_string)
set_option linter.unusedVariables false

theorem own : ownKnob Try.prog.godebug = none := by kernel_rfl
theorem laidOut : laidOutB Try.prog = true := by kernel_rfl

open Fl

theorem m0 : RowOk 4601100592117526705 4600113286708316951 4595670525981687698 := by decide +kernel
theorem n0 : RowOk 4601100592117526702 4600113286708316951 4595670525981687696 := by decide +kernel
theorem d0 : ab (val 4601100592117526705 - val 4601100592117526702) ≤ 1 / 100000000000000 ∧ ab (val 4600113286708316951 - val 4600113286708316951) ≤ 1 / 100000000000000 ∧ ab (val 4595670525981687698 - val 4595670525981687696) ≤ 1 / 100000000000000 := by decide +kernel
theorem m1 : RowOk 4596829147871394358 4604616886335687447 4589866425216086747 := by decide +kernel
theorem n1 : RowOk 4596829147871394355 4604616886335687447 4589866425216086746 := by decide +kernel
theorem d1 : ab (val 4596829147871394358 - val 4596829147871394355) ≤ 1 / 100000000000000 ∧ ab (val 4604616886335687447 - val 4604616886335687447) ≤ 1 / 100000000000000 ∧ ab (val 4589866425216086747 - val 4589866425216086746) ≤ 1 / 100000000000000 := by decide +kernel
theorem m2 : RowOk 4581228950558139524 4593253309717046303 4606736852038626910 := by decide +kernel
theorem n2 : RowOk 4581228950558139516 4593253309717046301 4606736852038626909 := by decide +kernel
theorem d2 : ab (val 4581228950558139524 - val 4581228950558139516) ≤ 1 / 100000000000000 ∧ ab (val 4593253309717046303 - val 4593253309717046301) ≤ 1 / 100000000000000 ∧ ab (val 4606736852038626910 - val 4606736852038626909) ≤ 1 / 100000000000000 := by decide +kernel
theorem tolC : Fl.Fin 4427486594234968593 ∧ Fl.Fin 118622047889322841 ∧ 99 / 100000000000000 ≤ val 4427486594234968593 ∧ val 4427486594234968593 ≤ 1 ∧ 1000 * U ≤ val 118622047889322841 ∧ val 118622047889322841 ≤ 1 := by decide +kernel
theorem limB : val 6103021453049119613 ≤ BIG / 1000000 := by decide +kernel
theorem product_comm (a b : Ieee.Datum) : a.product b = b.product a := by
  cases a <;> cases b <;> simp [Ieee.Datum.product, Bool.xor_comm, Nat.mul_comm, Int.add_comm]
theorem fmul_comm (x y : Nat) : fmul x y = fmul y x := by
  unfold fmul Ieee.Format.mul
  rw [product_comm]

/-- one row of each matrix: within the tolerance -/
theorem row_near {c0 c1 c2 e0 e1 e2 x0 x1 x2 tl : Nat} {A : Rat} (kc : RowOk c0 c1 c2) (ke : RowOk e0 e1 e2) (hd : ab (val c0 - val e0) ≤ 1 / 100000000000000 ∧ ab (val c1 - val e1) ≤ 1 / 100000000000000 ∧ ab (val c2 - val e2) ≤ 1 / 100000000000000)
    (h0 : Fl.Fin x0) (h1 : Fl.Fin x1) (h2 : Fl.Fin x2) (hA : A = ab (val x0) + ab (val x1) + ab (val x2)) (hB : A ≤ BIG / 10000) (ht : Fl.Fin tl) (hl : A / 1000000000000 * (98 / 100) + 900 * U ≤ val tl) :
    RowFin c0 c1 c2 x0 x1 x2 ∧ RowFin e0 e1 e2 x0 x1 x2 ∧ Fl.Fin (mrow c0 c1 c2 x0 x1 x2) ∧ Fl.Fin (mrow e0 e1 e2 x0 x1 x2) ∧ leB (fabs (fsub (mrow c0 c1 c2 x0 x1 x2) (mrow e0 e1 e2 x0 x1 x2))) tl = true := by
  have up := U_pos
  have ub := U_le
  have nA : 0 ≤ A := by have := ab_nonneg (val x0); have := ab_nonneg (val x1); have := ab_nonneg (val x2); grind
  obtain ⟨p1, f1, e1', _⟩ := row_fin kc h0 h1 h2 (A := A) (by rw [hA]; exact Rat.le_refl) (by grind)
  obtain ⟨p2, f2, e2', _⟩ := row_fin ke h0 h1 h2 (A := A) (by rw [hA]; exact Rat.le_refl) (by grind)
  have db := dot_bound (x0 := val x0) (x1 := val x1) (x2 := val x2) hd.1 hd.2.1 hd.2.2
  rw [← hA] at db
  generalize mrow c0 c1 c2 x0 x1 x2 = g at *
  generalize mrow e0 e1 e2 x0 x1 x2 = t at *
  have tri : ab (val g - val t) ≤ A * 40 / 9007199254740992 + 4 * U + 1 / 100000000000000 * A := by
    have a1 := ab_add (val g - (val c0 * val x0 + val c1 * val x1 + val c2 * val x2)) ((val c0 - val e0) * val x0 + (val c1 - val e1) * val x1 + (val c2 - val e2) * val x2 + ((val e0 * val x0 + val e1 * val x1 + val e2 * val x2) - val t))
    have a2 := ab_add ((val c0 - val e0) * val x0 + (val c1 - val e1) * val x1 + (val c2 - val e2) * val x2) ((val e0 * val x0 + val e1 * val x1 + val e2 * val x2) - val t)
    have a3 : ab ((val e0 * val x0 + val e1 * val x1 + val e2 * val x2) - val t) = ab (val t - (val e0 * val x0 + val e1 * val x1 + val e2 * val x2)) := by
      rw [← ab_neg]; congr 1; grind
    have e : val g - (val c0 * val x0 + val c1 * val x1 + val c2 * val x2) + ((val c0 - val e0) * val x0 + (val c1 - val e1) * val x1 + (val c2 - val e2) * val x2 + ((val e0 * val x0 + val e1 * val x1 + val e2 * val x2) - val t)) = val g - val t := by grind
    rw [e] at a1
    grind
  obtain ⟨_, _, l⟩ := near_ok f1 f2 ht tri (by grind) (by grind)
  exact ⟨p1, p2, f1, f2, l⟩

/-- all that the walk needs, in plain Lean -/
theorem plain (x0 x1 x2 : Nat) (h0 : Fl.Fin x0) (h1 : Fl.Fin x1) (h2 : Fl.Fin x2) (b0 : ab (val x0) ≤ BIG / 1000000) (b1 : ab (val x1) ≤ BIG / 1000000) (b2 : ab (val x2) ≤ BIG / 1000000) :
    (Fl.Fin (fabs x0) ∧ Fl.Fin (fabs x1) ∧ Fl.Fin (fabs x2) ∧ Fl.Fin (fadd (fabs x0) (fabs x1)) ∧ Fl.Fin (fsum3 x0 x1 x2) ∧ Fl.Fin (fmul 4427486594234968593 (fsum3 x0 x1 x2)))
    ∧ (RowFin 4601100592117526705 4600113286708316951 4595670525981687698 x0 x1 x2 ∧ RowFin 4601100592117526702 4600113286708316951 4595670525981687696 x0 x1 x2 ∧ Fl.Fin (mrow 4601100592117526705 4600113286708316951 4595670525981687698 x0 x1 x2) ∧ Fl.Fin (mrow 4601100592117526702 4600113286708316951 4595670525981687696 x0 x1 x2) ∧ leB (fabs (fsub (mrow 4601100592117526705 4600113286708316951 4595670525981687698 x0 x1 x2) (mrow 4601100592117526702 4600113286708316951 4595670525981687696 x0 x1 x2))) (fadd (fmul 4427486594234968593 (fsum3 x0 x1 x2)) 118622047889322841) = true)
    ∧ (RowFin 4596829147871394358 4604616886335687447 4589866425216086747 x0 x1 x2 ∧ RowFin 4596829147871394355 4604616886335687447 4589866425216086746 x0 x1 x2 ∧ Fl.Fin (mrow 4596829147871394358 4604616886335687447 4589866425216086747 x0 x1 x2) ∧ Fl.Fin (mrow 4596829147871394355 4604616886335687447 4589866425216086746 x0 x1 x2) ∧ leB (fabs (fsub (mrow 4596829147871394358 4604616886335687447 4589866425216086747 x0 x1 x2) (mrow 4596829147871394355 4604616886335687447 4589866425216086746 x0 x1 x2))) (fadd (fmul 4427486594234968593 (fsum3 x0 x1 x2)) 118622047889322841) = true)
    ∧ (RowFin 4581228950558139524 4593253309717046303 4606736852038626910 x0 x1 x2 ∧ RowFin 4581228950558139516 4593253309717046301 4606736852038626909 x0 x1 x2 ∧ Fl.Fin (mrow 4581228950558139524 4593253309717046303 4606736852038626910 x0 x1 x2) ∧ Fl.Fin (mrow 4581228950558139516 4593253309717046301 4606736852038626909 x0 x1 x2) ∧ leB (fabs (fsub (mrow 4581228950558139524 4593253309717046303 4606736852038626910 x0 x1 x2) (mrow 4581228950558139516 4593253309717046301 4606736852038626909 x0 x1 x2))) (fadd (fmul 4427486594234968593 (fsum3 x0 x1 x2)) 118622047889322841) = true) := by
  have up := U_pos
  have ub := U_le
  obtain ⟨A, hA⟩ : ∃ A, A = ab (val x0) + ab (val x1) + ab (val x2) := ⟨_, rfl⟩
  have nA : 0 ≤ A := by have := ab_nonneg (val x0); have := ab_nonneg (val x1); have := ab_nonneg (val x2); grind
  have bB : A ≤ BIG / 10000 := by grind
  obtain ⟨s1, s2, s3, s4⟩ := fsum3_ok h0 h1 h2 hA bB
  obtain ⟨fC, fT, c1, c2, t1, t2⟩ := tolC
  have s0 : 0 ≤ val (fsum3 x0 x1 x2) := by grind
  obtain ⟨g1, g2, g3⟩ := tol_low fC s2 fT (by grind) c2 s0 (by grind) (by grind) t2
  have m := Rat.mul_le_mul_of_nonneg_right c1 s0
  have hl : A / 1000000000000 * (98 / 100) + 900 * U ≤ val (fadd (fmul 4427486594234968593 (fsum3 x0 x1 x2)) 118622047889322841) := by grind
  exact ⟨⟨(fabs_fin h0).1, (fabs_fin h1).1, (fabs_fin h2).1, s1, s2, g1⟩, row_near m0 n0 d0 h0 h1 h2 hA bB g2 hl, row_near m1 n1 d1 h0 h1 h2 hA bB g2 hl, row_near m2 n2 d2 h0 h1 h2 hA bB g2 hl⟩

attribute [local go_sem] run_store_float in
set_option maxHeartbeats 4000000 in
set_option maxRecDepth 100000 in
theorem walk (a0 : Nat) (a1 : Nat) (a2 : Nat) (w : World) (w0 : (Lit.float .f64 a0).wf = true) (w1 : (Lit.float .f64 a1).wf = true) (w2 : (Lit.float .f64 a2).wf = true) :
    Calls Try.prog 3 #[.float .f64 a0, .float .f64 a1, .float .f64 a2] w fun e w' => e = .returned (.bool true) ∧ Below w.heap.size w w' := by
  by_cases i0 : wiB a0 6103021453049119613 = true
  rotate_left
  · rw [Bool.not_eq_true] at i0
    go_enter Try.func3, Try.ntmps3
    go_wp2_with (go_at_call 4; refine (within4 _ _ _).mono ?_; rintro e w' ⟨rfl, rfl⟩)
    go_ret
    exact ⟨rfl, Below.refl _ _⟩
  by_cases i1 : wiB a1 6103021453049119613 = true
  rotate_left
  · rw [Bool.not_eq_true] at i1
    go_enter Try.func3, Try.ntmps3
    go_wp2_with (go_at_call 4; refine (within4 _ _ _).mono ?_; rintro e w' ⟨rfl, rfl⟩)
    go_ret
    exact ⟨rfl, Below.refl _ _⟩
  by_cases i2 : wiB a2 6103021453049119613 = true
  rotate_left
  · rw [Bool.not_eq_true] at i2
    go_enter Try.func3, Try.ntmps3
    go_wp2_with (go_at_call 4; refine (within4 _ _ _).mono ?_; rintro e w' ⟨rfl, rfl⟩)
    go_ret
    exact ⟨rfl, Below.refl _ _⟩
  obtain ⟨h0, b0⟩ := wiB_fin (by decide) i0
  obtain ⟨h1, b1⟩ := wiB_fin (by decide) i1
  obtain ⟨h2, b2⟩ := wiB_fin (by decide) i2
  have P := plain a0 a1 a2 h0 h1 h2 (Rat.le_trans b0 limB) (Rat.le_trans b1 limB) (Rat.le_trans b2 limB)
  clear b0 b1 b2
  obtain ⟨⟨ga0, ga1, ga2, gs1, gs2, gp⟩, ⟨p0, q0, f0, g0, l0⟩, ⟨p1, q1, f1, g1, l1⟩, ⟨p2, q2, f2, g2, l2⟩⟩ := P
  have KM := fun w => ZZlinSrgbToXyzB1_n011_62_any a0 a1 a2 w p0 p1 p2
  obtain ⟨y0, ey0⟩ : ∃ y, mrow 4601100592117526705 4600113286708316951 4595670525981687698 a0 a1 a2 = y := ⟨_, rfl⟩
  rw [ey0] at KM f0 l0
  have c00 := fun w ty => run_float_arith (P := Try.prog) w .mul ty .f64 4601100592117526702 a0 _ ((bits_mul q0.fc0 h0).trans (by rw [fmul_comm 4601100592117526702 a0]))
  have c01 := fun w ty => run_float_arith (P := Try.prog) w .mul ty .f64 4600113286708316951 a1 _ ((bits_mul q0.fc1 h1).trans (by rw [fmul_comm 4600113286708316951 a1]))
  have c02 := fun w ty => run_float_arith (P := Try.prog) w .mul ty .f64 4595670525981687696 a2 _ ((bits_mul q0.fc2 h2).trans (by rw [fmul_comm 4595670525981687696 a2]))
  have s00 := fun w ty => run_float_arith (P := Try.prog) w .add ty .f64 (fmul a0 4601100592117526702) (fmul a1 4600113286708316951) _ (bits_add q0.p0 q0.p1)
  obtain ⟨z0, ez0⟩ : ∃ y, mrow 4601100592117526702 4600113286708316951 4595670525981687696 a0 a1 a2 = y := ⟨_, rfl⟩
  have s01 := fun w ty => run_float_arith (P := Try.prog) w .add ty .f64 (fadd (fmul a0 4601100592117526702) (fmul a1 4600113286708316951)) (fmul a2 4595670525981687696) z0 (by rw [← ez0]; exact bits_add q0.s q0.p2)
  rw [ez0] at g0 l0
  have d0 := fun w ty => run_float_arith (P := Try.prog) w .sub ty .f64 y0 z0 _ (bits_sub f0 g0)
  obtain ⟨y1, ey1⟩ : ∃ y, mrow 4596829147871394358 4604616886335687447 4589866425216086747 a0 a1 a2 = y := ⟨_, rfl⟩
  rw [ey1] at KM f1 l1
  have c10 := fun w ty => run_float_arith (P := Try.prog) w .mul ty .f64 4596829147871394355 a0 _ ((bits_mul q1.fc0 h0).trans (by rw [fmul_comm 4596829147871394355 a0]))
  have c11 := fun w ty => run_float_arith (P := Try.prog) w .mul ty .f64 4604616886335687447 a1 _ ((bits_mul q1.fc1 h1).trans (by rw [fmul_comm 4604616886335687447 a1]))
  have c12 := fun w ty => run_float_arith (P := Try.prog) w .mul ty .f64 4589866425216086746 a2 _ ((bits_mul q1.fc2 h2).trans (by rw [fmul_comm 4589866425216086746 a2]))
  have s10 := fun w ty => run_float_arith (P := Try.prog) w .add ty .f64 (fmul a0 4596829147871394355) (fmul a1 4604616886335687447) _ (bits_add q1.p0 q1.p1)
  obtain ⟨z1, ez1⟩ : ∃ y, mrow 4596829147871394355 4604616886335687447 4589866425216086746 a0 a1 a2 = y := ⟨_, rfl⟩
  have s11 := fun w ty => run_float_arith (P := Try.prog) w .add ty .f64 (fadd (fmul a0 4596829147871394355) (fmul a1 4604616886335687447)) (fmul a2 4589866425216086746) z1 (by rw [← ez1]; exact bits_add q1.s q1.p2)
  rw [ez1] at g1 l1
  have d1 := fun w ty => run_float_arith (P := Try.prog) w .sub ty .f64 y1 z1 _ (bits_sub f1 g1)
  obtain ⟨y2, ey2⟩ : ∃ y, mrow 4581228950558139524 4593253309717046303 4606736852038626910 a0 a1 a2 = y := ⟨_, rfl⟩
  rw [ey2] at KM f2 l2
  have c20 := fun w ty => run_float_arith (P := Try.prog) w .mul ty .f64 4581228950558139516 a0 _ ((bits_mul q2.fc0 h0).trans (by rw [fmul_comm 4581228950558139516 a0]))
  have c21 := fun w ty => run_float_arith (P := Try.prog) w .mul ty .f64 4593253309717046301 a1 _ ((bits_mul q2.fc1 h1).trans (by rw [fmul_comm 4593253309717046301 a1]))
  have c22 := fun w ty => run_float_arith (P := Try.prog) w .mul ty .f64 4606736852038626909 a2 _ ((bits_mul q2.fc2 h2).trans (by rw [fmul_comm 4606736852038626909 a2]))
  have s20 := fun w ty => run_float_arith (P := Try.prog) w .add ty .f64 (fmul a0 4581228950558139516) (fmul a1 4593253309717046301) _ (bits_add q2.p0 q2.p1)
  obtain ⟨z2, ez2⟩ : ∃ y, mrow 4581228950558139516 4593253309717046301 4606736852038626909 a0 a1 a2 = y := ⟨_, rfl⟩
  have s21 := fun w ty => run_float_arith (P := Try.prog) w .add ty .f64 (fadd (fmul a0 4581228950558139516) (fmul a1 4593253309717046301)) (fmul a2 4606736852038626909) z2 (by rw [← ez2]; exact bits_add q2.s q2.p2)
  rw [ez2] at g2 l2
  have d2 := fun w ty => run_float_arith (P := Try.prog) w .sub ty .f64 y2 z2 _ (bits_sub f2 g2)
  clear ey0 ey1 ey2 ez0 ez1 ez2
  have KM := Lib.hid KM
  have k1 := fun w ty => run_float_arith (P := Try.prog) w .add ty .f64 (fabs a0) (fabs a1) _ (bits_add ga0 ga1)
  have k2 := fun w ty => run_float_arith (P := Try.prog) w .add ty .f64 (fadd (fabs a0) (fabs a1)) (fabs a2) _ (bits_add gs1 ga2)
  have k3 := fun w ty => run_float_arith (P := Try.prog) w .mul ty .f64 4427486594234968593 (fsum3 a0 a1 a2) _ (bits_mul tolC.1 gs2)
  have k4 := fun w ty => run_float_arith (P := Try.prog) w .add ty .f64 (fmul 4427486594234968593 (fsum3 a0 a1 a2)) 118622047889322841 _ (bits_add gp tolC.2.1)
  obtain ⟨tl, etl⟩ : ∃ y, fadd (fmul 4427486594234968593 (fsum3 a0 a1 a2)) 118622047889322841 = y := ⟨_, rfl⟩
  rw [etl] at k4 l0 l1 l2
  clear etl
  unfold fsum3 at k3 k4
  unfold leB at l0 l1 l2
  clear p0 p1 p2 q0 q1 q2 f0 f1 f2 g0 g1 g2 gp gs1 gs2 ga0 ga1 ga2
  go_enter Try.func3, Try.ntmps3
  go_wp2_with (go_at_call 4; refine (within4 _ _ _).mono ?_; rintro e w' ⟨rfl, rfl⟩)
  refine (prim5 _).mono ?_
  rintro e wa ⟨rfl, hba⟩
  have HA := Lib.hid hba
  clear hba
  go_wp2_with fail
  refine (KM.out _).mono ?_
  rintro e wb ⟨rfl, hbb⟩
  have HB := Lib.hid hbb
  clear hbb
  go_wp2_with (go_at_call 7; refine (abs7 _ _).mono ?_; rintro e w' ⟨rfl, rfl⟩)
  go_ret
  exact ⟨rfl, (HA.out.alloc HA.out.size _).trans (HB.out.mono (by have := HA.out.size; simp; omega))⟩

set_option maxRecDepth 100000 in
theorem lifted (os : Os) (started : os.Started) (H : Type) (enc : TypeId × Value → H) :
    ReturnsInHanded {} Try.checked os 3 .any (Rows.fnLinSrgbToXyzFromPrimariesAndWhiteSpec.pre6 enc Try.prog Try.f3 Rows.fnLinSrgbToXyzFromPrimariesAndWhiteRow.domain false) (Rows.fnLinSrgbToXyzFromPrimariesAndWhiteSpec.post enc Try.prog Try.f3 false true false false) := by
  refine returnsInHanded_of_change (C := Try.checked) own started (by kernel_rfl) Try.func3
    (ChangeSpec.witness6 (enc := enc) (C := Try.checked) false ⟨#[], #[.float .f64 0, .float .f64 0, .float .f64 0], []⟩ 8 (by kernel_rfl) (by kernel_rfl) (by kernel_rfl) (by kernel_rfl)) ?_
  intro W base args ds gs before hval0 hW hcnd _
  have hval : ∀ (j : Nat) t v, Try.f3.params[j]? = some t → args[j]? = some v → Value.okWide Try.prog W .any base t v := hval0
  have hW' := hW
  obtain ⟨p, q, hA0, hV, rfl, hfz, hnd⟩ := hW
  have hA : DataW.TrodAll enc Try.prog W 0 (fun _ => true) true Try.f3.params.toList args.toList ds p := hA0
  rw [Try.params3] at hA hval
  obtain ⟨v0, vs0, d0, ds0, p0, q0, hargs, rfl, rfl, h0, r0⟩ := trodAll_cons hA
  obtain ⟨v1, vs1, d1, ds1, p1, q1, rfl, rfl, rfl, h1, r1⟩ := trodAll_cons r0
  obtain ⟨v2, vs2, d2, ds2, p2, q2, rfl, rfl, rfl, h2, r2⟩ := trodAll_cons r1
  obtain ⟨rfl, rfl, rfl⟩ := trodAll_nil r2
  obtain rfl : args = #[v0, v1, v2] := by cases args; simp_all
  obtain ⟨rfl, rfl⟩ := trodVars_none hV
  obtain ⟨a0, rfl, rfl, rfl, w0⟩ := open_float Try.underlying22 (hval 0 22 v0 rfl rfl) h0
  obtain ⟨a1, rfl, rfl, rfl, w1⟩ := open_float Try.underlying22 (hval 1 22 v1 rfl rfl) h1
  obtain ⟨a2, rfl, rfl, rfl, w2⟩ := open_float Try.underlying22 (hval 2 22 v2 rfl rfl) h2
  clear hA0 hval0
  refine (walk a0 a1 a2 W w0 w1 w2).mono fun e W' ⟨he, bel⟩ => ?_
  subst he
  exact ⟨_, rfl, _, _, _, [], _, [], hW', trodAll_mk1 (shut_bool Try.underlying4 _), (trodAll_cons_mk (shut_float Try.underlying22 w0) (trodAll_cons_mk (shut_float Try.underlying22 w1) (trodAll_cons_mk (shut_float Try.underlying22 w2) trodAll_mk0))), rfl, bel.frame _, fun h => by cases h⟩

theorem q0 : (Rows.fnLinSrgbToXyzFromPrimariesAndWhiteRow.wf (OpenSpec.ofChange Rows.fnLinSrgbToXyzFromPrimariesAndWhiteSpec)) = true := by kernel_rfl
theorem q3 : (Try.f3.params.all (Try.pinned.checked.prog.readableRec ·)) = true := by kernel_rfl
theorem q4 : (namedTie Try.pinned.checked.prog Rows.fnLinSrgbToXyzFromPrimariesAndWhiteRow.named Rows.fnLinSrgbToXyzFromPrimariesAndWhiteSpec.vars) = true := by kernel_rfl
theorem q5 : ((Rows.fnLinSrgbToXyzFromPrimariesAndWhiteRow.stops == [])) = true := by kernel_rfl
theorem q7 : ((Rows.fnLinSrgbToXyzFromPrimariesAndWhiteRow.knobs == [])) = true := by kernel_rfl
theorem q9 : ((Rows.fnLinSrgbToXyzFromPrimariesAndWhiteRow.inPlace == Try.pinned.checked.prog.inPlace 3)) = true := by kernel_rfl
theorem q10 : ((Rows.fnLinSrgbToXyzFromPrimariesAndWhiteRow.unfollowed == Try.pinned.checked.prog.unfollowed 3)) = true := by kernel_rfl
theorem q11 : ((Rows.fnLinSrgbToXyzFromPrimariesAndWhiteRow.recurses == Try.pinned.checked.prog.recurses 3)) = true := by kernel_rfl
theorem q12 : ((Rows.fnLinSrgbToXyzFromPrimariesAndWhiteRow.named == Try.pinned.checked.prog.varsNamed 3)) = true := by kernel_rfl
theorem q13 : ((Rows.fnLinSrgbToXyzFromPrimariesAndWhiteRow.maps == (Try.f3.params.toList ++ Rows.fnLinSrgbToXyzFromPrimariesAndWhiteSpec.plain.varTypes Try.pinned.checked.prog).any (Try.pinned.checked.prog.mapsRec ·))) = true := by kernel_rfl
theorem q14 : ((Rows.fnLinSrgbToXyzFromPrimariesAndWhiteRow.ifaces == (Try.f3.params.toList ++ Rows.fnLinSrgbToXyzFromPrimariesAndWhiteSpec.plain.varTypes Try.pinned.checked.prog).any (Try.pinned.checked.prog.ifacesRec ·))) = true := by kernel_rfl
theorem q15 : ((Rows.fnLinSrgbToXyzFromPrimariesAndWhiteRow.mapsOut == Try.pinned.checked.prog.mapsAmong Try.f3.resultTypes.toList)) = true := by kernel_rfl
theorem q16 : ((Rows.fnLinSrgbToXyzFromPrimariesAndWhiteRow.loops == (Try.f3.params.toList ++ Rows.fnLinSrgbToXyzFromPrimariesAndWhiteSpec.plain.varTypes Try.pinned.checked.prog).any (Try.pinned.checked.prog.loopsFrom ·))) = true := by kernel_rfl
theorem q17 : ((Rows.fnLinSrgbToXyzFromPrimariesAndWhiteRow.wideKeys == (Try.f3.params.toList ++ Rows.fnLinSrgbToXyzFromPrimariesAndWhiteSpec.plain.varTypes Try.pinned.checked.prog ++ Try.f3.resultTypes.toList).any (Try.pinned.checked.prog.wideKeysFrom ·))) = true := by kernel_rfl
theorem q18 : (Rows.fnLinSrgbToXyzFromPrimariesAndWhiteSpec.vars.all (Try.pinned.checked.prog.varReadable ·)) = true := by kernel_rfl
theorem q19 : (Try.f3.resultTypes.all (fun t => Try.pinned.checked.prog.readableRec t && decide (t < Try.pinned.checked.prog.types.size))) = true := by kernel_rfl
theorem q20 : ((Rows.fnLinSrgbToXyzFromPrimariesAndWhiteRow.ifacesOut == Try.f3.resultTypes.toList.any (Try.pinned.checked.prog.ifacesRec ·))) = true := by kernel_rfl
theorem q21 : ((Rows.fnLinSrgbToXyzFromPrimariesAndWhiteRow.loopsOut == Try.f3.resultTypes.toList.any (Try.pinned.checked.prog.loopsFrom ·))) = true := by kernel_rfl
theorem q22 : ((Rows.fnLinSrgbToXyzFromPrimariesAndWhiteRow.plainKeys == Try.pinned.checked.prog.plainKeys)) = true := by kernel_rfl
theorem q23 : (Rows.fnLinSrgbToXyzFromPrimariesAndWhiteRow.shortTexts.isNone) = true := by kernel_rfl
theorem q26 : ((Rows.fnLinSrgbToXyzFromPrimariesAndWhiteRow.lifted == Try.pinned.checked.prog.liftsFinal)) = true := by rw [g26]; kernel_rfl
theorem q27 : ((Try.pinned.checked.prog.make == some Rows.fnLinSrgbToXyzFromPrimariesAndWhiteRow.make)) = true := by rw [g27]; kernel_rfl
theorem q28 : ((Rows.fnLinSrgbToXyzFromPrimariesAndWhiteRow.kinds == (if Rows.fnLinSrgbToXyzFromPrimariesAndWhiteRow.domain.isEmpty then [] else Try.f3.params.toList.map fun t => match Try.pinned.checked.prog.underlying t with | some (.int k) => some k | _ => none))) = true := by kernel_rfl
theorem q29 : ((Rows.fnLinSrgbToXyzFromPrimariesAndWhiteRow.pinned == Rows.fnLinSrgbToXyzFromPrimariesAndWhiteRow.pinnedBy)) = true := by kernel_rfl
theorem q30 : ((Rows.fnLinSrgbToXyzFromPrimariesAndWhiteRow.veiled == (Try.f3.params.toList ++ Rows.fnLinSrgbToXyzFromPrimariesAndWhiteSpec.plain.varTypes Try.pinned.checked.prog ++ Try.f3.resultTypes.toList).any (Try.pinned.checked.prog.veiledRec ·))) = true := by kernel_rfl
theorem q31 : (Rows.fnLinSrgbToXyzFromPrimariesAndWhiteRow.veiledFits Try.pinned.checked.prog Try.f3.params.toList (Try.f3.params.toList ++ Rows.fnLinSrgbToXyzFromPrimariesAndWhiteSpec.plain.varTypes Try.pinned.checked.prog ++ Try.f3.resultTypes.toList)) = true := by kernel_rfl
set_option maxRecDepth 100000 in
theorem closed : joinedFacts Try.pinned.checked.prog 3 Try.f3 Rows.fnLinSrgbToXyzFromPrimariesAndWhiteSpec Rows.fnLinSrgbToXyzFromPrimariesAndWhiteRow = true :=
  (andI (andI (andI (andI (andI (andI (andI (andI (andI (andI (andI (andI (andI (andI (andI (andI (andI (andI (andI (andI (andI (andI (andI (andI (andI (andI (andI (andI (andI (andI (andI q0 g1) g2) q3) q4) q5) g6) q7) g8) q9) q10) q11) q12) q13) q14) q15) q16) q17) q18) q19) q20) q21) q22) q23) g24) g25) q26) q27) q28) q29) q30) q31)
theorem over : Rows.fnLinSrgbToXyzFromPrimariesAndWhiteRow.holds Try.pinned (OpenSpec.ofChange Rows.fnLinSrgbToXyzFromPrimariesAndWhiteSpec) :=
  OpenClaim.holds_of_wide 3 Try.f3 rfl rfl rfl rfl rfl rfl rfl ⟨rfl, rfl, rfl, rfl, rfl⟩ rfl rfl rfl rfl rfl (by kernel_rfl) Try.func3 closed
    (of_decide_eq_true (by kernel_rfl)) (by unfold Func.isWrapper; first | (rw [if_pos (by decide +kernel)]; kernel_rfl) | (rw [if_neg (by decide +kernel)]; exact ⟨rfl, rfl⟩))
    (fun os started H enc _ => lifted os started H enc)

theorem proved : Rows.FnLinSrgbToXyzFromPrimariesAndWhiteSaid := over
#print axioms proved
end Go.Proofs.Ytlfgdgelfebciaa.fnLinSrgbToXyzFromPrimariesAndWhite
