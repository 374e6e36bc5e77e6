/-
  For all finite r, g, b of size at most 1e100, xyz_to_lin_srgb(lin_srgb_to_xyz(r,g,b)) gives r, g, b back within 1e-9 times the sum of the sizes. No conditions.
-/
import Derived.Test.YtmomchpfllbgjaaIo
import Derived.WalkKit
import Derived.ProofKit
import Derived.OpenShut
import Derived.ShutString
import Derived.ChangeOld
import Derived.Below
import Derived.WalkLawsBesides
import Derived.Test.YtmomchpfllbgjaaWx
import Derived.Test.YtmomchpfllbgjaaWh
import Derived.Lib.Hide
namespace Go.Proofs.Ytmomchpfllbgjaa.fnLinSrgbToXyzInvertedByXyzToLinSrgb
open Go.ChangeShapes Go.WideShapes Go.ChangeAt Go.RowKit
open Go.ChangeMaps (open_string shut_string)
set_option linter.unusedVariables false

theorem own : ownKnob Try.prog.godebug = none := by kernel_rfl
theorem laidOut : laidOutB Try.prog = true := by kernel_rfl

open Fl

theorem m0 : RowOk 4601100592117526705 4600113286708316951 4595670525981687698 := by decide +kernel
theorem n0 : RowOk 4614480434311357498 13832974614333053062 13826025829709715685 := by decide +kernel
theorem m1 : RowOk 4596829147871394358 4604616886335687447 4589866425216086747 := by decide +kernel
theorem n1 : RowOk 13830277426958423814 4611127425713396243 4586149535949532533 := by decide +kernel
theorem m2 : RowOk 4581228950558139524 4593253309717046303 4606736852038626910 := by decide +kernel
theorem n2 : RowOk 4588177960434001517 13819889101593667727 4607438995690332369 := by decide +kernel
theorem u0 : UnitOk 4614480434311357498 13832974614333053062 13826025829709715685 4601100592117526705 4600113286708316951 4595670525981687698 4596829147871394358 4604616886335687447 4589866425216086747 4581228950558139524 4593253309717046303 4606736852038626910 1 0 0 (1 / 10000000000) := by decide +kernel
theorem u1 : UnitOk 13830277426958423814 4611127425713396243 4586149535949532533 4601100592117526705 4600113286708316951 4595670525981687698 4596829147871394358 4604616886335687447 4589866425216086747 4581228950558139524 4593253309717046303 4606736852038626910 0 1 0 (1 / 10000000000) := by decide +kernel
theorem u2 : UnitOk 4588177960434001517 13819889101593667727 4607438995690332369 4601100592117526705 4600113286708316951 4595670525981687698 4596829147871394358 4604616886335687447 4589866425216086747 4581228950558139524 4593253309717046303 4606736852038626910 0 0 1 (1 / 10000000000) := by decide +kernel
theorem tolC : TolOk 4472406533629990549 118622047889322841 := by decide +kernel
theorem limB : val 6103021453049119613 ≤ BIG / 1000000 := by decide +kernel

/-- all that the walk needs, in plain Lean -/
theorem plain (x0 x1 x2 : Nat) (h0 : Fl.Fin x0) (h1 : Fl.Fin x1) (h2 : Fl.Fin x2) (b0 : ab (val x0) ≤ BIG / 1000000) (b1 : ab (val x1) ≤ BIG / 1000000) (b2 : ab (val x2) ≤ BIG / 1000000) :
    (RowFin 4601100592117526705 4600113286708316951 4595670525981687698 x0 x1 x2 ∧ RowFin 4596829147871394358 4604616886335687447 4589866425216086747 x0 x1 x2 ∧ RowFin 4581228950558139524 4593253309717046303 4606736852038626910 x0 x1 x2)
    ∧ (RowFin 4614480434311357498 13832974614333053062 13826025829709715685 (mrow 4601100592117526705 4600113286708316951 4595670525981687698 x0 x1 x2) (mrow 4596829147871394358 4604616886335687447 4589866425216086747 x0 x1 x2) (mrow 4581228950558139524 4593253309717046303 4606736852038626910 x0 x1 x2) ∧ RowFin 13830277426958423814 4611127425713396243 4586149535949532533 (mrow 4601100592117526705 4600113286708316951 4595670525981687698 x0 x1 x2) (mrow 4596829147871394358 4604616886335687447 4589866425216086747 x0 x1 x2) (mrow 4581228950558139524 4593253309717046303 4606736852038626910 x0 x1 x2) ∧ RowFin 4588177960434001517 13819889101593667727 4607438995690332369 (mrow 4601100592117526705 4600113286708316951 4595670525981687698 x0 x1 x2) (mrow 4596829147871394358 4604616886335687447 4589866425216086747 x0 x1 x2) (mrow 4581228950558139524 4593253309717046303 4606736852038626910 x0 x1 x2))
    ∧ (Fl.Fin (mrow 4614480434311357498 13832974614333053062 13826025829709715685 (mrow 4601100592117526705 4600113286708316951 4595670525981687698 x0 x1 x2) (mrow 4596829147871394358 4604616886335687447 4589866425216086747 x0 x1 x2) (mrow 4581228950558139524 4593253309717046303 4606736852038626910 x0 x1 x2)) ∧ Fl.Fin (mrow 13830277426958423814 4611127425713396243 4586149535949532533 (mrow 4601100592117526705 4600113286708316951 4595670525981687698 x0 x1 x2) (mrow 4596829147871394358 4604616886335687447 4589866425216086747 x0 x1 x2) (mrow 4581228950558139524 4593253309717046303 4606736852038626910 x0 x1 x2)) ∧ Fl.Fin (mrow 4588177960434001517 13819889101593667727 4607438995690332369 (mrow 4601100592117526705 4600113286708316951 4595670525981687698 x0 x1 x2) (mrow 4596829147871394358 4604616886335687447 4589866425216086747 x0 x1 x2) (mrow 4581228950558139524 4593253309717046303 4606736852038626910 x0 x1 x2)))
    ∧ (Fl.Fin (fabs x0) ∧ Fl.Fin (fabs x1) ∧ Fl.Fin (fabs x2) ∧ Fl.Fin (fadd (fabs x0) (fabs x1)) ∧ Fl.Fin (fsum3 x0 x1 x2) ∧ Fl.Fin (fmul 4472406533629990549 (fsum3 x0 x1 x2)) ∧ Fl.Fin (fadd (fmul 4472406533629990549 (fsum3 x0 x1 x2)) 118622047889322841))
    ∧ (leB (fabs (fsub (mrow 4614480434311357498 13832974614333053062 13826025829709715685 (mrow 4601100592117526705 4600113286708316951 4595670525981687698 x0 x1 x2) (mrow 4596829147871394358 4604616886335687447 4589866425216086747 x0 x1 x2) (mrow 4581228950558139524 4593253309717046303 4606736852038626910 x0 x1 x2)) x0)) (fadd (fmul 4472406533629990549 (fsum3 x0 x1 x2)) 118622047889322841) = true ∧ leB (fabs (fsub (mrow 13830277426958423814 4611127425713396243 4586149535949532533 (mrow 4601100592117526705 4600113286708316951 4595670525981687698 x0 x1 x2) (mrow 4596829147871394358 4604616886335687447 4589866425216086747 x0 x1 x2) (mrow 4581228950558139524 4593253309717046303 4606736852038626910 x0 x1 x2)) x1)) (fadd (fmul 4472406533629990549 (fsum3 x0 x1 x2)) 118622047889322841) = true ∧ leB (fabs (fsub (mrow 4588177960434001517 13819889101593667727 4607438995690332369 (mrow 4601100592117526705 4600113286708316951 4595670525981687698 x0 x1 x2) (mrow 4596829147871394358 4604616886335687447 4589866425216086747 x0 x1 x2) (mrow 4581228950558139524 4593253309717046303 4606736852038626910 x0 x1 x2)) x2)) (fadd (fmul 4472406533629990549 (fsum3 x0 x1 x2)) 118622047889322841) = true)
    ∧ (Fl.Fin (fsub (mrow 4614480434311357498 13832974614333053062 13826025829709715685 (mrow 4601100592117526705 4600113286708316951 4595670525981687698 x0 x1 x2) (mrow 4596829147871394358 4604616886335687447 4589866425216086747 x0 x1 x2) (mrow 4581228950558139524 4593253309717046303 4606736852038626910 x0 x1 x2)) x0) ∧ Fl.Fin (fsub (mrow 13830277426958423814 4611127425713396243 4586149535949532533 (mrow 4601100592117526705 4600113286708316951 4595670525981687698 x0 x1 x2) (mrow 4596829147871394358 4604616886335687447 4589866425216086747 x0 x1 x2) (mrow 4581228950558139524 4593253309717046303 4606736852038626910 x0 x1 x2)) x1) ∧ Fl.Fin (fsub (mrow 4588177960434001517 13819889101593667727 4607438995690332369 (mrow 4601100592117526705 4600113286708316951 4595670525981687698 x0 x1 x2) (mrow 4596829147871394358 4604616886335687447 4589866425216086747 x0 x1 x2) (mrow 4581228950558139524 4593253309717046303 4606736852038626910 x0 x1 x2)) x2)) := by
  have up := U_pos
  have ub := U_le
  obtain ⟨A, hA⟩ : ∃ A, A = ab (val x0) + ab (val x1) + ab (val x2) := ⟨_, rfl⟩
  have nA : 0 ≤ A := by have := ab_nonneg (val x0); have := ab_nonneg (val x1); have := ab_nonneg (val x2); grind
  have bB : A ≤ BIG / 10000 := by grind
  have hA' : ab (val x0) + ab (val x1) + ab (val x2) ≤ A := by rw [hA]; exact Rat.le_refl
  obtain ⟨p0, _, _, _⟩ := row_fin m0 h0 h1 h2 hA' (by grind)
  obtain ⟨p1, _, _, _⟩ := row_fin m1 h0 h1 h2 hA' (by grind)
  obtain ⟨p2, _, _, _⟩ := row_fin m2 h0 h1 h2 hA' (by grind)
  obtain ⟨q0, g0, e0⟩ := trip m0 m1 m2 n0 u0 h0 h1 h2 hA' bB
  obtain ⟨q1, g1, e1⟩ := trip m0 m1 m2 n1 u1 h0 h1 h2 hA' bB
  obtain ⟨q2, g2, e2⟩ := trip m0 m1 m2 n2 u2 h0 h1 h2 hA' bB
  obtain ⟨s1, s2, s3, s4⟩ := fsum3_ok h0 h1 h2 hA bB
  obtain ⟨t1, t2, t3⟩ := tol_ok (A := A) tolC s2 nA (by grind) s4
  have z0 : (1 : Rat) * val x0 + 0 * val x1 + 0 * val x2 = val x0 := by grind
  have z1 : (0 : Rat) * val x0 + 1 * val x1 + 0 * val x2 = val x1 := by grind
  have z2 : (0 : Rat) * val x0 + 0 * val x1 + 1 * val x2 = val x2 := by grind
  rw [z0] at e0
  rw [z1] at e1
  rw [z2] at e2
  obtain ⟨k0, _, l0⟩ := near_ok g0 h0 t2 e0 (by grind) t3
  obtain ⟨k1, _, l1⟩ := near_ok g1 h1 t2 e1 (by grind) t3
  obtain ⟨k2, _, l2⟩ := near_ok g2 h2 t2 e2 (by grind) t3
  exact ⟨⟨p0, p1, p2⟩, ⟨q0, q1, q2⟩, ⟨g0, g1, g2⟩, ⟨(fabs_fin h0).1, (fabs_fin h1).1, (fabs_fin h2).1, s1, s2, t1, t2⟩, ⟨l0, l1, l2⟩, ⟨k0, k1, k2⟩⟩

set_option maxHeartbeats 2000000 in
set_option maxRecDepth 100000 in
theorem walk (a0 : Nat) (a1 : Nat) (a2 : Nat) (w : World) (w0 : (Lit.float .f64 a0).wf = true) (w1 : (Lit.float .f64 a1).wf = true) (w2 : (Lit.float .f64 a2).wf = true) :
    Calls Try.prog 6 #[.float .f64 a0, .float .f64 a1, .float .f64 a2] w fun e w' => e = .returned (.bool true) ∧ Below w.heap.size w w' := by
  by_cases i0 : wiB a0 6103021453049119613 = true
  rotate_left
  · rw [Bool.not_eq_true] at i0
    go_enter Try.func6, Try.ntmps6
    go_wp2_with (go_at_call 23; refine (within23 _ _ _).mono ?_; rintro e w' ⟨rfl, rfl⟩)
    go_ret
    exact ⟨rfl, Below.refl _ _⟩
  by_cases i1 : wiB a1 6103021453049119613 = true
  rotate_left
  · rw [Bool.not_eq_true] at i1
    go_enter Try.func6, Try.ntmps6
    go_wp2_with (go_at_call 23; refine (within23 _ _ _).mono ?_; rintro e w' ⟨rfl, rfl⟩)
    go_ret
    exact ⟨rfl, Below.refl _ _⟩
  by_cases i2 : wiB a2 6103021453049119613 = true
  rotate_left
  · rw [Bool.not_eq_true] at i2
    go_enter Try.func6, Try.ntmps6
    go_wp2_with (go_at_call 23; refine (within23 _ _ _).mono ?_; rintro e w' ⟨rfl, rfl⟩)
    go_ret
    exact ⟨rfl, Below.refl _ _⟩
  obtain ⟨h0, b0⟩ := wiB_fin (by decide) i0
  obtain ⟨h1, b1⟩ := wiB_fin (by decide) i1
  obtain ⟨h2, b2⟩ := wiB_fin (by decide) i2
  have P := plain a0 a1 a2 h0 h1 h2 (Rat.le_trans b0 limB) (Rat.le_trans b1 limB) (Rat.le_trans b2 limB)
  clear b0 b1 b2
  have KM := fun w => ZZlinSrgbToXyzB1_n011_62_any a0 a1 a2 w P.1.1 P.1.2.1 P.1.2.2
  have KN := fun w => ZZxyzToLinSrgbB1_n011_62_any (mrow 4601100592117526705 4600113286708316951 4595670525981687698 a0 a1 a2) (mrow 4596829147871394358 4604616886335687447 4589866425216086747 a0 a1 a2) (mrow 4581228950558139524 4593253309717046303 4606736852038626910 a0 a1 a2) w P.2.1.1 P.2.1.2.1 P.2.1.2.2
  obtain ⟨_, _, ⟨gr0, gr1, gr2⟩, ⟨ga0, ga1, ga2, gs1, gs2, gp, gt⟩, ⟨l0, l1, l2⟩, ⟨k0, k1, k2⟩⟩ := P
  obtain ⟨y0, ey0⟩ : ∃ y, mrow 4601100592117526705 4600113286708316951 4595670525981687698 a0 a1 a2 = y := ⟨_, rfl⟩
  obtain ⟨y1, ey1⟩ : ∃ y, mrow 4596829147871394358 4604616886335687447 4589866425216086747 a0 a1 a2 = y := ⟨_, rfl⟩
  obtain ⟨y2, ey2⟩ : ∃ y, mrow 4581228950558139524 4593253309717046303 4606736852038626910 a0 a1 a2 = y := ⟨_, rfl⟩
  rw [ey0, ey1, ey2] at KM KN gr0 gr1 gr2 l0 l1 l2 k0 k1 k2
  obtain ⟨r0, er0⟩ : ∃ y, mrow 4614480434311357498 13832974614333053062 13826025829709715685 y0 y1 y2 = y := ⟨_, rfl⟩
  obtain ⟨r1, er1⟩ : ∃ y, mrow 13830277426958423814 4611127425713396243 4586149535949532533 y0 y1 y2 = y := ⟨_, rfl⟩
  obtain ⟨r2, er2⟩ : ∃ y, mrow 4588177960434001517 13819889101593667727 4607438995690332369 y0 y1 y2 = y := ⟨_, rfl⟩
  rw [er0, er1, er2] at KN
  rw [er0] at gr0 l0 k0
  rw [er1] at gr1 l1 k1
  rw [er2] at gr2 l2 k2
  clear ey0 ey1 ey2 er0 er1 er2
  have KM := Lib.hid KM
  have KN := Lib.hid KN
  have c1 := fun w ty => run_float_arith (P := Try.prog) w .add ty .f64 (fabs a0) (fabs a1) _ (bits_add ga0 ga1)
  have c2 := fun w ty => run_float_arith (P := Try.prog) w .add ty .f64 (fadd (fabs a0) (fabs a1)) (fabs a2) _ (bits_add gs1 ga2)
  have c3 := fun w ty => run_float_arith (P := Try.prog) w .mul ty .f64 4472406533629990549 (fsum3 a0 a1 a2) _ (bits_mul tolC.1 gs2)
  have c4 := fun w ty => run_float_arith (P := Try.prog) w .add ty .f64 (fmul 4472406533629990549 (fsum3 a0 a1 a2)) 118622047889322841 _ (bits_add gp tolC.2.1)
  obtain ⟨tl, etl⟩ : ∃ y, fadd (fmul 4472406533629990549 (fsum3 a0 a1 a2)) 118622047889322841 = y := ⟨_, rfl⟩
  rw [etl] at c4 l0 l1 l2
  clear etl
  unfold fsum3 at c3 c4
  have d0 := fun w ty => run_float_arith (P := Try.prog) w .sub ty .f64 r0 a0 _ (bits_sub gr0 h0)
  have d1 := fun w ty => run_float_arith (P := Try.prog) w .sub ty .f64 r1 a1 _ (bits_sub gr1 h1)
  have d2 := fun w ty => run_float_arith (P := Try.prog) w .sub ty .f64 r2 a2 _ (bits_sub gr2 h2)
  unfold leB at l0 l1 l2
  clear k0 k1 k2 gr0 gr1 gr2 gt gp gs1 gs2 ga0 ga1 ga2
  go_enter Try.func6, Try.ntmps6
  go_wp2_with (go_at_call 23; refine (within23 _ _ _).mono ?_; rintro e w' ⟨rfl, rfl⟩)
  refine (KM.out _).mono ?_
  rintro e wa ⟨rfl, hba⟩
  have HA := Lib.hid hba
  clear hba
  go_wp2_with fail
  refine (KN.out _).mono ?_
  rintro e wb ⟨rfl, hbb⟩
  have HB := Lib.hid hbb
  clear hbb
  go_wp2_with (go_at_call 26; refine (abs26 _ _).mono ?_; rintro e w' ⟨rfl, rfl⟩)
  go_ret
  exact ⟨rfl, HA.out.trans (HB.out.mono HA.out.size)⟩

set_option maxRecDepth 100000 in
theorem lifted (os : Os) (started : os.Started) (H : Type) (enc : TypeId × Value → H) :
    ReturnsInHanded {} Try.checked os 6 .any (Rows.fnLinSrgbToXyzInvertedByXyzToLinSrgbSpec.pre6 enc Try.prog Try.f6 Rows.fnLinSrgbToXyzInvertedByXyzToLinSrgbRow.domain false) (Rows.fnLinSrgbToXyzInvertedByXyzToLinSrgbSpec.post enc Try.prog Try.f6 false true false false) := by
  refine returnsInHanded_of_change (C := Try.checked) own started (by kernel_rfl) Try.func6
    (ChangeSpec.witness6 (enc := enc) (C := Try.checked) false ⟨#[], #[.float .f64 0, .float .f64 0, .float .f64 0], []⟩ 8 (by kernel_rfl) (by kernel_rfl) (by kernel_rfl) (by kernel_rfl)) ?_
  intro W base args ds gs before hval0 hW hcnd _
  have hval : ∀ (j : Nat) t v, Try.f6.params[j]? = some t → args[j]? = some v → Value.okWide Try.prog W .any base t v := hval0
  have hW' := hW
  obtain ⟨p, q, hA0, hV, rfl, hfz, hnd⟩ := hW
  have hA : DataW.TrodAll enc Try.prog W 0 (fun _ => true) true Try.f6.params.toList args.toList ds p := hA0
  rw [Try.params6] at hA hval
  obtain ⟨v0, vs0, d0, ds0, p0, q0, hargs, rfl, rfl, h0, r0⟩ := trodAll_cons hA
  obtain ⟨v1, vs1, d1, ds1, p1, q1, rfl, rfl, rfl, h1, r1⟩ := trodAll_cons r0
  obtain ⟨v2, vs2, d2, ds2, p2, q2, rfl, rfl, rfl, h2, r2⟩ := trodAll_cons r1
  obtain ⟨rfl, rfl, rfl⟩ := trodAll_nil r2
  obtain rfl : args = #[v0, v1, v2] := by cases args; simp_all
  obtain ⟨rfl, rfl⟩ := trodVars_none hV
  obtain ⟨a0, rfl, rfl, rfl, w0⟩ := open_float Try.underlying22 (hval 0 22 v0 rfl rfl) h0
  obtain ⟨a1, rfl, rfl, rfl, w1⟩ := open_float Try.underlying22 (hval 1 22 v1 rfl rfl) h1
  obtain ⟨a2, rfl, rfl, rfl, w2⟩ := open_float Try.underlying22 (hval 2 22 v2 rfl rfl) h2
  clear hA0 hval0
  refine (walk a0 a1 a2 W w0 w1 w2).mono fun e W' ⟨he, bel⟩ => ?_
  subst he
  exact ⟨_, rfl, _, _, _, [], _, [], hW', trodAll_mk1 (shut_bool Try.underlying4 _), (trodAll_cons_mk (shut_float Try.underlying22 w0) (trodAll_cons_mk (shut_float Try.underlying22 w1) (trodAll_cons_mk (shut_float Try.underlying22 w2) trodAll_mk0))), rfl, bel.frame _, fun h => by cases h⟩

theorem q0 : (Rows.fnLinSrgbToXyzInvertedByXyzToLinSrgbRow.wf (OpenSpec.ofChange Rows.fnLinSrgbToXyzInvertedByXyzToLinSrgbSpec)) = true := by kernel_rfl
theorem q3 : (Try.f6.params.all (Try.pinned.checked.prog.readableRec ·)) = true := by kernel_rfl
theorem q4 : (namedTie Try.pinned.checked.prog Rows.fnLinSrgbToXyzInvertedByXyzToLinSrgbRow.named Rows.fnLinSrgbToXyzInvertedByXyzToLinSrgbSpec.vars) = true := by kernel_rfl
theorem q5 : ((Rows.fnLinSrgbToXyzInvertedByXyzToLinSrgbRow.stops == [])) = true := by kernel_rfl
theorem q7 : ((Rows.fnLinSrgbToXyzInvertedByXyzToLinSrgbRow.knobs == [])) = true := by kernel_rfl
theorem q9 : ((Rows.fnLinSrgbToXyzInvertedByXyzToLinSrgbRow.inPlace == Try.pinned.checked.prog.inPlace 6)) = true := by kernel_rfl
theorem q10 : ((Rows.fnLinSrgbToXyzInvertedByXyzToLinSrgbRow.unfollowed == Try.pinned.checked.prog.unfollowed 6)) = true := by kernel_rfl
theorem q11 : ((Rows.fnLinSrgbToXyzInvertedByXyzToLinSrgbRow.recurses == Try.pinned.checked.prog.recurses 6)) = true := by kernel_rfl
theorem q12 : ((Rows.fnLinSrgbToXyzInvertedByXyzToLinSrgbRow.named == Try.pinned.checked.prog.varsNamed 6)) = true := by kernel_rfl
theorem q13 : ((Rows.fnLinSrgbToXyzInvertedByXyzToLinSrgbRow.maps == (Try.f6.params.toList ++ Rows.fnLinSrgbToXyzInvertedByXyzToLinSrgbSpec.plain.varTypes Try.pinned.checked.prog).any (Try.pinned.checked.prog.mapsRec ·))) = true := by kernel_rfl
theorem q14 : ((Rows.fnLinSrgbToXyzInvertedByXyzToLinSrgbRow.ifaces == (Try.f6.params.toList ++ Rows.fnLinSrgbToXyzInvertedByXyzToLinSrgbSpec.plain.varTypes Try.pinned.checked.prog).any (Try.pinned.checked.prog.ifacesRec ·))) = true := by kernel_rfl
theorem q15 : ((Rows.fnLinSrgbToXyzInvertedByXyzToLinSrgbRow.mapsOut == Try.pinned.checked.prog.mapsAmong Try.f6.resultTypes.toList)) = true := by kernel_rfl
theorem q16 : ((Rows.fnLinSrgbToXyzInvertedByXyzToLinSrgbRow.loops == (Try.f6.params.toList ++ Rows.fnLinSrgbToXyzInvertedByXyzToLinSrgbSpec.plain.varTypes Try.pinned.checked.prog).any (Try.pinned.checked.prog.loopsFrom ·))) = true := by kernel_rfl
theorem q17 : ((Rows.fnLinSrgbToXyzInvertedByXyzToLinSrgbRow.wideKeys == (Try.f6.params.toList ++ Rows.fnLinSrgbToXyzInvertedByXyzToLinSrgbSpec.plain.varTypes Try.pinned.checked.prog ++ Try.f6.resultTypes.toList).any (Try.pinned.checked.prog.wideKeysFrom ·))) = true := by kernel_rfl
theorem q18 : (Rows.fnLinSrgbToXyzInvertedByXyzToLinSrgbSpec.vars.all (Try.pinned.checked.prog.varReadable ·)) = true := by kernel_rfl
theorem q19 : (Try.f6.resultTypes.all (fun t => Try.pinned.checked.prog.readableRec t && decide (t < Try.pinned.checked.prog.types.size))) = true := by kernel_rfl
theorem q20 : ((Rows.fnLinSrgbToXyzInvertedByXyzToLinSrgbRow.ifacesOut == Try.f6.resultTypes.toList.any (Try.pinned.checked.prog.ifacesRec ·))) = true := by kernel_rfl
theorem q21 : ((Rows.fnLinSrgbToXyzInvertedByXyzToLinSrgbRow.loopsOut == Try.f6.resultTypes.toList.any (Try.pinned.checked.prog.loopsFrom ·))) = true := by kernel_rfl
theorem q22 : ((Rows.fnLinSrgbToXyzInvertedByXyzToLinSrgbRow.plainKeys == Try.pinned.checked.prog.plainKeys)) = true := by kernel_rfl
theorem q23 : (Rows.fnLinSrgbToXyzInvertedByXyzToLinSrgbRow.shortTexts.isNone) = true := by kernel_rfl
theorem q26 : ((Rows.fnLinSrgbToXyzInvertedByXyzToLinSrgbRow.lifted == Try.pinned.checked.prog.liftsFinal)) = true := by rw [g26]; kernel_rfl
theorem q27 : ((Try.pinned.checked.prog.make == some Rows.fnLinSrgbToXyzInvertedByXyzToLinSrgbRow.make)) = true := by rw [g27]; kernel_rfl
theorem q28 : ((Rows.fnLinSrgbToXyzInvertedByXyzToLinSrgbRow.kinds == (if Rows.fnLinSrgbToXyzInvertedByXyzToLinSrgbRow.domain.isEmpty then [] else Try.f6.params.toList.map fun t => match Try.pinned.checked.prog.underlying t with | some (.int k) => some k | _ => none))) = true := by kernel_rfl
theorem q29 : ((Rows.fnLinSrgbToXyzInvertedByXyzToLinSrgbRow.pinned == Rows.fnLinSrgbToXyzInvertedByXyzToLinSrgbRow.pinnedBy)) = true := by kernel_rfl
theorem q30 : ((Rows.fnLinSrgbToXyzInvertedByXyzToLinSrgbRow.veiled == (Try.f6.params.toList ++ Rows.fnLinSrgbToXyzInvertedByXyzToLinSrgbSpec.plain.varTypes Try.pinned.checked.prog ++ Try.f6.resultTypes.toList).any (Try.pinned.checked.prog.veiledRec ·))) = true := by kernel_rfl
theorem q31 : (Rows.fnLinSrgbToXyzInvertedByXyzToLinSrgbRow.veiledFits Try.pinned.checked.prog Try.f6.params.toList (Try.f6.params.toList ++ Rows.fnLinSrgbToXyzInvertedByXyzToLinSrgbSpec.plain.varTypes Try.pinned.checked.prog ++ Try.f6.resultTypes.toList)) = true := by kernel_rfl
theorem closed : joinedFacts Try.pinned.checked.prog 6 Try.f6 Rows.fnLinSrgbToXyzInvertedByXyzToLinSrgbSpec Rows.fnLinSrgbToXyzInvertedByXyzToLinSrgbRow = true :=
  (andI (andI (andI (andI (andI (andI (andI (andI (andI (andI (andI (andI (andI (andI (andI (andI (andI (andI (andI (andI (andI (andI (andI (andI (andI (andI (andI (andI (andI (andI (andI q0 g1) g2) q3) q4) q5) g6) q7) g8) q9) q10) q11) q12) q13) q14) q15) q16) q17) q18) q19) q20) q21) q22) q23) g24) g25) q26) q27) q28) q29) q30) q31)
theorem over : Rows.fnLinSrgbToXyzInvertedByXyzToLinSrgbRow.holds Try.pinned (OpenSpec.ofChange Rows.fnLinSrgbToXyzInvertedByXyzToLinSrgbSpec) :=
  OpenClaim.holds_of_wide 6 Try.f6 rfl rfl rfl rfl rfl rfl rfl ⟨rfl, rfl, rfl, rfl, rfl⟩ rfl rfl rfl rfl rfl (by kernel_rfl) Try.func6 closed
    (of_decide_eq_true (by kernel_rfl)) (by unfold Func.isWrapper; first | (rw [if_pos (by decide +kernel)]; kernel_rfl) | (rw [if_neg (by decide +kernel)]; exact ⟨rfl, rfl⟩))
    (fun os started H enc _ => lifted os started H enc)

theorem proved : Rows.FnLinSrgbToXyzInvertedByXyzToLinSrgbSaid := over
#print axioms proved
end Go.Proofs.Ytmomchpfllbgjaa.fnLinSrgbToXyzInvertedByXyzToLinSrgb
