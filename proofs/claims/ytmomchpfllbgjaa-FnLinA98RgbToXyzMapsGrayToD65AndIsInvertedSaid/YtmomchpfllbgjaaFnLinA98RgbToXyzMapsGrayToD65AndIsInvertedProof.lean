/-
  For all finite r, g, b, t of size at most 1e300: lin_a98rgb_to_xyz(t,t,t) is t times the D65 white within 1e-9 of the size of t, and xyz_to_lin_a98rgb undoes lin_a98rgb_to_xyz within 1e-9 of the greatest size. No conditions.
-/
import Derived.Test.YtmomchpfllbgjaaIo
import Derived.WalkKit
import Derived.ProofKit
import Derived.OpenShut
import Derived.ShutString
import Derived.ChangeOld
import Derived.Below
import Derived.WalkLawsBesides
import Derived.Test.YtmomchpfllbgjaaWx
import Derived.Test.YtmomchpfllbgjaaWi
import Derived.Lib.Hide
namespace Go.Proofs.Ytmomchpfllbgjaa.fnLinA98RgbToXyzMapsGrayToD65AndIsInverted
open Go.ChangeShapes Go.WideShapes Go.ChangeAt Go.RowKit
open Go.ChangeMaps (open_string shut_string)
set_option linter.unusedVariables false

theorem own : ownKnob Try.prog.godebug = none := by kernel_rfl
theorem laidOut : laidOutB Try.prog = true := by kernel_rfl

open Fl

theorem m0 : RowOk 4603369392518808747 4595853460379267005 4595949671978890425 := by decide +kernel
theorem n0 : RowOk 4611779666061440502 13826636386797700231 13823253784704314578 := by decide +kernel
theorem m1 : RowOk 4599028110796861136 4603826008191704300 4590089742013848929 := by decide +kernel
theorem n1 : RowOk 13830277426958423814 4611127425713396243 4586149535949532533 := by decide +kernel
theorem m2 : RowOk 4583448480868722432 4589758089302198513 4607104394268277168 := by decide +kernel
theorem n2 : RowOk 4578903721908372390 13816565366726681444 4607250760899102990 := by decide +kernel
theorem u0 : UnitOk 4611779666061440502 13826636386797700231 13823253784704314578 4603369392518808747 4595853460379267005 4595949671978890425 4599028110796861136 4603826008191704300 4590089742013848929 4583448480868722432 4589758089302198513 4607104394268277168 1 0 0 (1 / 10000000000) := by decide +kernel
theorem d0 : ab (val 4603369392518808747 * 1 + val 4595853460379267005 * 1 + val 4595949671978890425 * 1 - (val 4606736165463080392)) ≤ 1 / 10000000000 := by decide +kernel
theorem u1 : UnitOk 13830277426958423814 4611127425713396243 4586149535949532533 4603369392518808747 4595853460379267005 4595949671978890425 4599028110796861136 4603826008191704300 4590089742013848929 4583448480868722432 4589758089302198513 4607104394268277168 0 1 0 (1 / 10000000000) := by decide +kernel
theorem d1 : ab (val 4599028110796861136 * 1 + val 4603826008191704300 * 1 + val 4590089742013848929 * 1 - 1) ≤ 1 / 10000000000 := by decide +kernel
theorem u2 : UnitOk 4578903721908372390 13816565366726681444 4607250760899102990 4603369392518808747 4595853460379267005 4595949671978890425 4599028110796861136 4603826008191704300 4590089742013848929 4583448480868722432 4589758089302198513 4607104394268277168 0 0 1 (1 / 10000000000) := by decide +kernel
theorem d2 : ab (val 4583448480868722432 * 1 + val 4589758089302198513 * 1 + val 4607104394268277168 * 1 - (val 4607583499253154051)) ≤ 1 / 10000000000 := by decide +kernel
theorem k4606736165463080392 : Fl.Fin 4606736165463080392 ∧ ab (val 4606736165463080392) ≤ 4 := by decide +kernel
theorem k4607583499253154051 : Fl.Fin 4607583499253154051 ∧ ab (val 4607583499253154051) ≤ 4 := by decide +kernel
theorem tolC : TolOk 4472406533629990549 118622047889322841 := by decide +kernel
theorem limB : val 9094988921128908188 ≤ BIG / 1000000 := by decide +kernel

theorem white (s : Nat) (h : Fl.Fin s) (b : ab (val s) ≤ BIG / 1000000) :
    (RowFin 4603369392518808747 4595853460379267005 4595949671978890425 s s s ∧ RowFin 4599028110796861136 4603826008191704300 4590089742013848929 s s s ∧ RowFin 4583448480868722432 4589758089302198513 4607104394268277168 s s s) ∧ (Fl.Fin (mrow 4603369392518808747 4595853460379267005 4595949671978890425 s s s) ∧ Fl.Fin (mrow 4599028110796861136 4603826008191704300 4590089742013848929 s s s) ∧ Fl.Fin (mrow 4583448480868722432 4589758089302198513 4607104394268277168 s s s)) ∧ (Fl.Fin (fmul s 4606736165463080392) ∧ Fl.Fin (fmul s 4607583499253154051))
    ∧ (Fl.Fin (fabs s) ∧ Fl.Fin (fmul 4472406533629990549 (fabs s)))
    ∧ (leB (fabs (fsub (mrow 4603369392518808747 4595853460379267005 4595949671978890425 s s s) (fmul s 4606736165463080392))) (fadd (fmul 4472406533629990549 (fabs s)) 118622047889322841) = true ∧ leB (fabs (fsub (mrow 4599028110796861136 4603826008191704300 4590089742013848929 s s s) s)) (fadd (fmul 4472406533629990549 (fabs s)) 118622047889322841) = true ∧ leB (fabs (fsub (mrow 4583448480868722432 4589758089302198513 4607104394268277168 s s s) (fmul s 4607583499253154051))) (fadd (fmul 4472406533629990549 (fabs s)) 118622047889322841) = true) := by
  have up := U_pos
  have ub := U_le
  have ns := ab_nonneg (val s)
  have a1 := times_self h
  have b0 := times_mul h k4606736165463080392.1 k4606736165463080392.2 (by grind)
  have b2 := times_mul h k4607583499253154051.1 k4607583499253154051.2 (by grind)
  obtain ⟨p0, g0, e0⟩ := white_row m0 a1 a1 a1 b0 d0 b
  obtain ⟨p1, g1, e1⟩ := white_row m1 a1 a1 a1 a1 d1 b
  obtain ⟨p2, g2, e2⟩ := white_row m2 a1 a1 a1 b2 d2 b
  obtain ⟨f1, f2⟩ := fabs_fin h
  obtain ⟨q1, q2, q3⟩ := tol_ok (A := ab (val s)) tolC f1 ns (by rw [f2]; grind) (by rw [f2]; grind)
  obtain ⟨_, _, l0⟩ := near_ok g0 b0.1 q2 e0 (by grind) q3
  obtain ⟨_, _, l1⟩ := near_ok g1 a1.1 q2 e1 (by grind) q3
  obtain ⟨_, _, l2⟩ := near_ok g2 b2.1 q2 e2 (by grind) q3
  exact ⟨⟨p0, p1, p2⟩, ⟨g0, g1, g2⟩, ⟨b0.1, b2.1⟩, ⟨f1, q1⟩, ⟨l0, l1, l2⟩⟩

theorem back (x0 x1 x2 : Nat) (h0 : Fl.Fin x0) (h1 : Fl.Fin x1) (h2 : Fl.Fin x2) (b0 : ab (val x0) ≤ BIG / 1000000) (b1 : ab (val x1) ≤ BIG / 1000000) (b2 : ab (val x2) ≤ BIG / 1000000) :
    (RowFin 4603369392518808747 4595853460379267005 4595949671978890425 x0 x1 x2 ∧ RowFin 4599028110796861136 4603826008191704300 4590089742013848929 x0 x1 x2 ∧ RowFin 4583448480868722432 4589758089302198513 4607104394268277168 x0 x1 x2) ∧ (RowFin 4611779666061440502 13826636386797700231 13823253784704314578 (mrow 4603369392518808747 4595853460379267005 4595949671978890425 x0 x1 x2) (mrow 4599028110796861136 4603826008191704300 4590089742013848929 x0 x1 x2) (mrow 4583448480868722432 4589758089302198513 4607104394268277168 x0 x1 x2) ∧ RowFin 13830277426958423814 4611127425713396243 4586149535949532533 (mrow 4603369392518808747 4595853460379267005 4595949671978890425 x0 x1 x2) (mrow 4599028110796861136 4603826008191704300 4590089742013848929 x0 x1 x2) (mrow 4583448480868722432 4589758089302198513 4607104394268277168 x0 x1 x2) ∧ RowFin 4578903721908372390 13816565366726681444 4607250760899102990 (mrow 4603369392518808747 4595853460379267005 4595949671978890425 x0 x1 x2) (mrow 4599028110796861136 4603826008191704300 4590089742013848929 x0 x1 x2) (mrow 4583448480868722432 4589758089302198513 4607104394268277168 x0 x1 x2))
    ∧ (Fl.Fin (mrow 4611779666061440502 13826636386797700231 13823253784704314578 (mrow 4603369392518808747 4595853460379267005 4595949671978890425 x0 x1 x2) (mrow 4599028110796861136 4603826008191704300 4590089742013848929 x0 x1 x2) (mrow 4583448480868722432 4589758089302198513 4607104394268277168 x0 x1 x2)) ∧ Fl.Fin (mrow 13830277426958423814 4611127425713396243 4586149535949532533 (mrow 4603369392518808747 4595853460379267005 4595949671978890425 x0 x1 x2) (mrow 4599028110796861136 4603826008191704300 4590089742013848929 x0 x1 x2) (mrow 4583448480868722432 4589758089302198513 4607104394268277168 x0 x1 x2)) ∧ Fl.Fin (mrow 4578903721908372390 13816565366726681444 4607250760899102990 (mrow 4603369392518808747 4595853460379267005 4595949671978890425 x0 x1 x2) (mrow 4599028110796861136 4603826008191704300 4590089742013848929 x0 x1 x2) (mrow 4583448480868722432 4589758089302198513 4607104394268277168 x0 x1 x2))) ∧ (Fl.Fin (fmx (fmx (fabs x0) (fabs x1)) (fabs x2)) ∧ Fl.Fin (fmul 4472406533629990549 (fmx (fmx (fabs x0) (fabs x1)) (fabs x2))))
    ∧ (leB (fabs (fsub (mrow 4611779666061440502 13826636386797700231 13823253784704314578 (mrow 4603369392518808747 4595853460379267005 4595949671978890425 x0 x1 x2) (mrow 4599028110796861136 4603826008191704300 4590089742013848929 x0 x1 x2) (mrow 4583448480868722432 4589758089302198513 4607104394268277168 x0 x1 x2)) x0)) (fadd (fmul 4472406533629990549 (fmx (fmx (fabs x0) (fabs x1)) (fabs x2))) 118622047889322841) = true ∧ leB (fabs (fsub (mrow 13830277426958423814 4611127425713396243 4586149535949532533 (mrow 4603369392518808747 4595853460379267005 4595949671978890425 x0 x1 x2) (mrow 4599028110796861136 4603826008191704300 4590089742013848929 x0 x1 x2) (mrow 4583448480868722432 4589758089302198513 4607104394268277168 x0 x1 x2)) x1)) (fadd (fmul 4472406533629990549 (fmx (fmx (fabs x0) (fabs x1)) (fabs x2))) 118622047889322841) = true ∧ leB (fabs (fsub (mrow 4578903721908372390 13816565366726681444 4607250760899102990 (mrow 4603369392518808747 4595853460379267005 4595949671978890425 x0 x1 x2) (mrow 4599028110796861136 4603826008191704300 4590089742013848929 x0 x1 x2) (mrow 4583448480868722432 4589758089302198513 4607104394268277168 x0 x1 x2)) x2)) (fadd (fmul 4472406533629990549 (fmx (fmx (fabs x0) (fabs x1)) (fabs x2))) 118622047889322841) = true) := by
  have up := U_pos
  have ub := U_le
  obtain ⟨A, hA⟩ : ∃ A, A = ab (val x0) + ab (val x1) + ab (val x2) := ⟨_, rfl⟩
  have nA : 0 ≤ A := by have := ab_nonneg (val x0); have := ab_nonneg (val x1); have := ab_nonneg (val x2); grind
  have bB : A ≤ BIG / 10000 := by grind
  have hA' : ab (val x0) + ab (val x1) + ab (val x2) ≤ A := by rw [hA]; exact Rat.le_refl
  obtain ⟨p0, _, _, _⟩ := row_fin m0 h0 h1 h2 hA' (by grind)
  obtain ⟨p1, _, _, _⟩ := row_fin m1 h0 h1 h2 hA' (by grind)
  obtain ⟨p2, _, _, _⟩ := row_fin m2 h0 h1 h2 hA' (by grind)
  obtain ⟨q0, g0, e0⟩ := trip m0 m1 m2 n0 u0 h0 h1 h2 hA' bB
  obtain ⟨q1, g1, e1⟩ := trip m0 m1 m2 n1 u1 h0 h1 h2 hA' bB
  obtain ⟨q2, g2, e2⟩ := trip m0 m1 m2 n2 u2 h0 h1 h2 hA' bB
  obtain ⟨f0, v0⟩ := fabs_fin h0
  obtain ⟨f1, v1⟩ := fabs_fin h1
  obtain ⟨f2, v2⟩ := fabs_fin h2
  obtain ⟨s1, s2, s3, s4⟩ := fmx_ok f0 f1
  obtain ⟨s5, s6, s7, s8⟩ := fmx_ok s1 f2
  have hlow : A / 3 * (999 / 1000) ≤ val (fmx (fmx (fabs x0) (fabs x1)) (fabs x2)) := by rw [v0] at s2; rw [v1] at s3; rw [v2] at s7; grind
  have hhigh : val (fmx (fmx (fabs x0) (fabs x1)) (fabs x2)) ≤ BIG / 1000 := by rw [v0, v1] at s4; rw [v2] at s8; grind
  obtain ⟨t1, t2, t3⟩ := tol_ok (A := A) tolC s5 nA hlow hhigh
  have z0 : (1 : Rat) * val x0 + 0 * val x1 + 0 * val x2 = val x0 := by grind
  have z1 : (0 : Rat) * val x0 + 1 * val x1 + 0 * val x2 = val x1 := by grind
  have z2 : (0 : Rat) * val x0 + 0 * val x1 + 1 * val x2 = val x2 := by grind
  rw [z0] at e0
  rw [z1] at e1
  rw [z2] at e2
  obtain ⟨_, _, l0⟩ := near_ok g0 h0 t2 e0 (by grind) t3
  obtain ⟨_, _, l1⟩ := near_ok g1 h1 t2 e1 (by grind) t3
  obtain ⟨_, _, l2⟩ := near_ok g2 h2 t2 e2 (by grind) t3
  exact ⟨⟨p0, p1, p2⟩, ⟨q0, q1, q2⟩, ⟨g0, g1, g2⟩, ⟨s5, t1⟩, ⟨l0, l1, l2⟩⟩

set_option maxHeartbeats 4000000 in
set_option maxRecDepth 100000 in
theorem walk (a0 : Nat) (a1 : Nat) (a2 : Nat) (a3 : Nat) (w : World) (w0 : (Lit.float .f64 a0).wf = true) (w1 : (Lit.float .f64 a1).wf = true) (w2 : (Lit.float .f64 a2).wf = true) (w3 : (Lit.float .f64 a3).wf = true) :
    Calls Try.prog 11 #[.float .f64 a0, .float .f64 a1, .float .f64 a2, .float .f64 a3] w fun e w' => e = .returned (.bool true) ∧ Below w.heap.size w w' := by
  by_cases i0 : ordB a0 = true
  rotate_left
  · rw [Bool.not_eq_true] at i0
    go_enter Try.func11, Try.ntmps11
    go_wp2_with (go_at_call 31; refine (ord31 _ _).mono ?_; rintro e w' ⟨rfl, rfl⟩)
    go_ret
    exact ⟨rfl, Below.refl _ _⟩
  by_cases i1 : ordB a1 = true
  rotate_left
  · rw [Bool.not_eq_true] at i1
    go_enter Try.func11, Try.ntmps11
    go_wp2_with (go_at_call 31; refine (ord31 _ _).mono ?_; rintro e w' ⟨rfl, rfl⟩)
    go_ret
    exact ⟨rfl, Below.refl _ _⟩
  by_cases i2 : ordB a2 = true
  rotate_left
  · rw [Bool.not_eq_true] at i2
    go_enter Try.func11, Try.ntmps11
    go_wp2_with (go_at_call 31; refine (ord31 _ _).mono ?_; rintro e w' ⟨rfl, rfl⟩)
    go_ret
    exact ⟨rfl, Below.refl _ _⟩
  by_cases i3 : ordB a3 = true
  rotate_left
  · rw [Bool.not_eq_true] at i3
    go_enter Try.func11, Try.ntmps11
    go_wp2_with (go_at_call 31; refine (ord31 _ _).mono ?_; rintro e w' ⟨rfl, rfl⟩)
    go_ret
    exact ⟨rfl, Below.refl _ _⟩
  obtain ⟨h0, b0⟩ := ordB_fin i0
  obtain ⟨h1, b1⟩ := ordB_fin i1
  obtain ⟨h2, b2⟩ := ordB_fin i2
  obtain ⟨h3, b3⟩ := ordB_fin i3
  have Q := white a3 h3 (Rat.le_trans b3 limB)
  have P := back a0 a1 a2 h0 h1 h2 (Rat.le_trans b0 limB) (Rat.le_trans b1 limB) (Rat.le_trans b2 limB)
  clear b0 b1 b2 b3
  have KW := fun w => ZZlinA98rgbToXyz_n011_293_any a3 a3 a3 w Q.1.1 Q.1.2.1 Q.1.2.2
  obtain ⟨_, ⟨gw0, gw1, gw2⟩, ⟨gt0, gt2⟩, ⟨ga3, gp3⟩, ⟨lw0, lw1, lw2⟩⟩ := Q
  have KM := fun w => ZZlinA98rgbToXyz_n011_293_any a0 a1 a2 w P.1.1 P.1.2.1 P.1.2.2
  have KN := fun w => ZZxyzToLinA98rgb_n011_293_any (mrow 4603369392518808747 4595853460379267005 4595949671978890425 a0 a1 a2) (mrow 4599028110796861136 4603826008191704300 4590089742013848929 a0 a1 a2) (mrow 4583448480868722432 4589758089302198513 4607104394268277168 a0 a1 a2) w P.2.1.1 P.2.1.2.1 P.2.1.2.2
  obtain ⟨_, _, ⟨gr0, gr1, gr2⟩, ⟨gmx, gpx⟩, ⟨l0, l1, l2⟩⟩ := P
  obtain ⟨q0, eq0⟩ : ∃ y, mrow 4603369392518808747 4595853460379267005 4595949671978890425 a3 a3 a3 = y := ⟨_, rfl⟩
  rw [eq0] at KW gw0 lw0
  obtain ⟨q1, eq1⟩ : ∃ y, mrow 4599028110796861136 4603826008191704300 4590089742013848929 a3 a3 a3 = y := ⟨_, rfl⟩
  rw [eq1] at KW gw1 lw1
  obtain ⟨q2, eq2⟩ : ∃ y, mrow 4583448480868722432 4589758089302198513 4607104394268277168 a3 a3 a3 = y := ⟨_, rfl⟩
  rw [eq2] at KW gw2 lw2
  obtain ⟨y0, ey0⟩ : ∃ y, mrow 4603369392518808747 4595853460379267005 4595949671978890425 a0 a1 a2 = y := ⟨_, rfl⟩
  obtain ⟨y1, ey1⟩ : ∃ y, mrow 4599028110796861136 4603826008191704300 4590089742013848929 a0 a1 a2 = y := ⟨_, rfl⟩
  obtain ⟨y2, ey2⟩ : ∃ y, mrow 4583448480868722432 4589758089302198513 4607104394268277168 a0 a1 a2 = y := ⟨_, rfl⟩
  rw [ey0, ey1, ey2] at KM KN gr0 gr1 gr2 l0 l1 l2
  obtain ⟨r0, er0⟩ : ∃ y, mrow 4611779666061440502 13826636386797700231 13823253784704314578 y0 y1 y2 = y := ⟨_, rfl⟩
  rw [er0] at KN gr0 l0
  obtain ⟨r1, er1⟩ : ∃ y, mrow 13830277426958423814 4611127425713396243 4586149535949532533 y0 y1 y2 = y := ⟨_, rfl⟩
  rw [er1] at KN gr1 l1
  obtain ⟨r2, er2⟩ : ∃ y, mrow 4578903721908372390 13816565366726681444 4607250760899102990 y0 y1 y2 = y := ⟨_, rfl⟩
  rw [er2] at KN gr2 l2
  clear eq0 eq1 eq2 ey0 ey1 ey2 er0 er1 er2
  have KW := Lib.hid KW
  have KM := Lib.hid KM
  have KN := Lib.hid KN
  have W0 := Lib.hid (fun w => close34 q0 (fmul a3 4606736165463080392) (fabs a3) 4472406533629990549 w gw0 gt0 tolC.1 ga3 gp3 lw0)
  have W1 := Lib.hid (fun w => close34 q1 a3 (fabs a3) 4472406533629990549 w gw1 h3 tolC.1 ga3 gp3 lw1)
  have W2 := Lib.hid (fun w => close34 q2 (fmul a3 4607583499253154051) (fabs a3) 4472406533629990549 w gw2 gt2 tolC.1 ga3 gp3 lw2)
  have N0 := Lib.hid (fun w => close34 r0 a0 (fmx (fmx (fabs a0) (fabs a1)) (fabs a2)) 4472406533629990549 w gr0 h0 tolC.1 gmx gpx l0)
  have N1 := Lib.hid (fun w => close34 r1 a1 (fmx (fmx (fabs a0) (fabs a1)) (fabs a2)) 4472406533629990549 w gr1 h1 tolC.1 gmx gpx l1)
  have N2 := Lib.hid (fun w => close34 r2 a2 (fmx (fmx (fabs a0) (fabs a1)) (fabs a2)) 4472406533629990549 w gr2 h2 tolC.1 gmx gpx l2)
  have c1 := fun w ty => run_float_arith (P := Try.prog) w .mul ty .f64 a3 4606736165463080392 _ (bits_mul h3 k4606736165463080392.1)
  have c2 := fun w ty => run_float_arith (P := Try.prog) w .mul ty .f64 a3 4607583499253154051 _ (bits_mul h3 k4607583499253154051.1)
  clear l0 l1 l2 lw0 lw1 lw2 gw0 gw1 gw2 gt0 gt2 ga3 gp3 gr0 gr1 gr2 gmx gpx
  go_enter Try.func11, Try.ntmps11
  go_wp2_with (go_at_call 31; refine (ord31 _ _).mono ?_; rintro e w' ⟨rfl, rfl⟩)
  refine (KW.out _).mono ?_
  rintro e wa ⟨rfl, hba⟩
  have HA := Lib.hid hba
  clear hba
  go_wp2_with (go_at_call 33; refine (abs33 _ _).mono ?_; rintro e w' ⟨rfl, rfl⟩)
  refine (W0.out _).mono ?_
  rintro e w' ⟨rfl, rfl⟩
  go_wp2_with fail
  refine (W1.out _).mono ?_
  rintro e w' ⟨rfl, rfl⟩
  go_wp2_with fail
  refine (W2.out _).mono ?_
  rintro e w' ⟨rfl, rfl⟩
  go_wp2_with fail
  refine (KM.out _).mono ?_
  rintro e wb ⟨rfl, hbb⟩
  have HB := Lib.hid hbb
  clear hbb
  go_wp2_with fail
  refine (KN.out _).mono ?_
  rintro e wc ⟨rfl, hbc⟩
  have HC := Lib.hid hbc
  clear hbc
  go_wp2_with (first | (go_at_call 33; refine (abs33 _ _).mono ?_; rintro e w' ⟨rfl, rfl⟩) | (go_at_call 36; refine (max36 _ _ _ _).mono ?_; rintro e w' ⟨rfl, rfl⟩))
  refine (N0.out _).mono ?_
  rintro e w' ⟨rfl, rfl⟩
  go_wp2_with fail
  refine (N1.out _).mono ?_
  rintro e w' ⟨rfl, rfl⟩
  go_wp2_with fail
  refine (N2.out _).mono ?_
  rintro e w' ⟨rfl, rfl⟩
  go_wp2_with fail
  go_ret
  have z1 := HA.out.size
  have z2 := HB.out.size
  exact ⟨rfl, (HA.out.trans (HB.out.mono z1)).trans (HC.out.mono (by omega))⟩

set_option maxRecDepth 100000 in
theorem lifted (os : Os) (started : os.Started) (H : Type) (enc : TypeId × Value → H) :
    ReturnsInHanded {} Try.checked os 11 .any (Rows.fnLinA98RgbToXyzMapsGrayToD65AndIsInvertedSpec.pre6 enc Try.prog Try.f11 Rows.fnLinA98RgbToXyzMapsGrayToD65AndIsInvertedRow.domain false) (Rows.fnLinA98RgbToXyzMapsGrayToD65AndIsInvertedSpec.post enc Try.prog Try.f11 false true false false) := by
  refine returnsInHanded_of_change (C := Try.checked) own started (by kernel_rfl) Try.func11
    (ChangeSpec.witness6 (enc := enc) (C := Try.checked) false ⟨#[], #[.float .f64 0, .float .f64 0, .float .f64 0, .float .f64 0], []⟩ 8 (by kernel_rfl) (by kernel_rfl) (by kernel_rfl) (by kernel_rfl)) ?_
  intro W base args ds gs before hval0 hW hcnd _
  have hval : ∀ (j : Nat) t v, Try.f11.params[j]? = some t → args[j]? = some v → Value.okWide Try.prog W .any base t v := hval0
  have hW' := hW
  obtain ⟨p, q, hA0, hV, rfl, hfz, hnd⟩ := hW
  have hA : DataW.TrodAll enc Try.prog W 0 (fun _ => true) true Try.f11.params.toList args.toList ds p := hA0
  rw [Try.params11] at hA hval
  obtain ⟨v0, vs0, d0, ds0, p0, q0, hargs, rfl, rfl, h0, r0⟩ := trodAll_cons hA
  obtain ⟨v1, vs1, d1, ds1, p1, q1, rfl, rfl, rfl, h1, r1⟩ := trodAll_cons r0
  obtain ⟨v2, vs2, d2, ds2, p2, q2, rfl, rfl, rfl, h2, r2⟩ := trodAll_cons r1
  obtain ⟨v3, vs3, d3, ds3, p3, q3, rfl, rfl, rfl, h3, r3⟩ := trodAll_cons r2
  obtain ⟨rfl, rfl, rfl⟩ := trodAll_nil r3
  obtain rfl : args = #[v0, v1, v2, v3] := by cases args; simp_all
  obtain ⟨rfl, rfl⟩ := trodVars_none hV
  obtain ⟨a0, rfl, rfl, rfl, w0⟩ := open_float Try.underlying22 (hval 0 22 v0 rfl rfl) h0
  obtain ⟨a1, rfl, rfl, rfl, w1⟩ := open_float Try.underlying22 (hval 1 22 v1 rfl rfl) h1
  obtain ⟨a2, rfl, rfl, rfl, w2⟩ := open_float Try.underlying22 (hval 2 22 v2 rfl rfl) h2
  obtain ⟨a3, rfl, rfl, rfl, w3⟩ := open_float Try.underlying22 (hval 3 22 v3 rfl rfl) h3
  clear hA0 hval0
  refine (walk a0 a1 a2 a3 W w0 w1 w2 w3).mono fun e W' ⟨he, bel⟩ => ?_
  subst he
  exact ⟨_, rfl, _, _, _, [], _, [], hW', trodAll_mk1 (shut_bool Try.underlying4 _), (trodAll_cons_mk (shut_float Try.underlying22 w0) (trodAll_cons_mk (shut_float Try.underlying22 w1) (trodAll_cons_mk (shut_float Try.underlying22 w2) (trodAll_cons_mk (shut_float Try.underlying22 w3) trodAll_mk0)))), rfl, bel.frame _, fun h => by cases h⟩

theorem q0 : (Rows.fnLinA98RgbToXyzMapsGrayToD65AndIsInvertedRow.wf (OpenSpec.ofChange Rows.fnLinA98RgbToXyzMapsGrayToD65AndIsInvertedSpec)) = true := by kernel_rfl
theorem q3 : (Try.f11.params.all (Try.pinned.checked.prog.readableRec ·)) = true := by kernel_rfl
theorem q4 : (namedTie Try.pinned.checked.prog Rows.fnLinA98RgbToXyzMapsGrayToD65AndIsInvertedRow.named Rows.fnLinA98RgbToXyzMapsGrayToD65AndIsInvertedSpec.vars) = true := by kernel_rfl
theorem q5 : ((Rows.fnLinA98RgbToXyzMapsGrayToD65AndIsInvertedRow.stops == [])) = true := by kernel_rfl
theorem q7 : ((Rows.fnLinA98RgbToXyzMapsGrayToD65AndIsInvertedRow.knobs == [])) = true := by kernel_rfl
theorem q9 : ((Rows.fnLinA98RgbToXyzMapsGrayToD65AndIsInvertedRow.inPlace == Try.pinned.checked.prog.inPlace 11)) = true := by kernel_rfl
theorem q10 : ((Rows.fnLinA98RgbToXyzMapsGrayToD65AndIsInvertedRow.unfollowed == Try.pinned.checked.prog.unfollowed 11)) = true := by kernel_rfl
theorem q11 : ((Rows.fnLinA98RgbToXyzMapsGrayToD65AndIsInvertedRow.recurses == Try.pinned.checked.prog.recurses 11)) = true := by kernel_rfl
theorem q12 : ((Rows.fnLinA98RgbToXyzMapsGrayToD65AndIsInvertedRow.named == Try.pinned.checked.prog.varsNamed 11)) = true := by kernel_rfl
theorem q13 : ((Rows.fnLinA98RgbToXyzMapsGrayToD65AndIsInvertedRow.maps == (Try.f11.params.toList ++ Rows.fnLinA98RgbToXyzMapsGrayToD65AndIsInvertedSpec.plain.varTypes Try.pinned.checked.prog).any (Try.pinned.checked.prog.mapsRec ·))) = true := by kernel_rfl
theorem q14 : ((Rows.fnLinA98RgbToXyzMapsGrayToD65AndIsInvertedRow.ifaces == (Try.f11.params.toList ++ Rows.fnLinA98RgbToXyzMapsGrayToD65AndIsInvertedSpec.plain.varTypes Try.pinned.checked.prog).any (Try.pinned.checked.prog.ifacesRec ·))) = true := by kernel_rfl
theorem q15 : ((Rows.fnLinA98RgbToXyzMapsGrayToD65AndIsInvertedRow.mapsOut == Try.pinned.checked.prog.mapsAmong Try.f11.resultTypes.toList)) = true := by kernel_rfl
theorem q16 : ((Rows.fnLinA98RgbToXyzMapsGrayToD65AndIsInvertedRow.loops == (Try.f11.params.toList ++ Rows.fnLinA98RgbToXyzMapsGrayToD65AndIsInvertedSpec.plain.varTypes Try.pinned.checked.prog).any (Try.pinned.checked.prog.loopsFrom ·))) = true := by kernel_rfl
theorem q17 : ((Rows.fnLinA98RgbToXyzMapsGrayToD65AndIsInvertedRow.wideKeys == (Try.f11.params.toList ++ Rows.fnLinA98RgbToXyzMapsGrayToD65AndIsInvertedSpec.plain.varTypes Try.pinned.checked.prog ++ Try.f11.resultTypes.toList).any (Try.pinned.checked.prog.wideKeysFrom ·))) = true := by kernel_rfl
theorem q18 : (Rows.fnLinA98RgbToXyzMapsGrayToD65AndIsInvertedSpec.vars.all (Try.pinned.checked.prog.varReadable ·)) = true := by kernel_rfl
theorem q19 : (Try.f11.resultTypes.all (fun t => Try.pinned.checked.prog.readableRec t && decide (t < Try.pinned.checked.prog.types.size))) = true := by kernel_rfl
theorem q20 : ((Rows.fnLinA98RgbToXyzMapsGrayToD65AndIsInvertedRow.ifacesOut == Try.f11.resultTypes.toList.any (Try.pinned.checked.prog.ifacesRec ·))) = true := by kernel_rfl
theorem q21 : ((Rows.fnLinA98RgbToXyzMapsGrayToD65AndIsInvertedRow.loopsOut == Try.f11.resultTypes.toList.any (Try.pinned.checked.prog.loopsFrom ·))) = true := by kernel_rfl
theorem q22 : ((Rows.fnLinA98RgbToXyzMapsGrayToD65AndIsInvertedRow.plainKeys == Try.pinned.checked.prog.plainKeys)) = true := by kernel_rfl
theorem q23 : (Rows.fnLinA98RgbToXyzMapsGrayToD65AndIsInvertedRow.shortTexts.isNone) = true := by kernel_rfl
theorem q26 : ((Rows.fnLinA98RgbToXyzMapsGrayToD65AndIsInvertedRow.lifted == Try.pinned.checked.prog.liftsFinal)) = true := by rw [g26]; kernel_rfl
theorem q27 : ((Try.pinned.checked.prog.make == some Rows.fnLinA98RgbToXyzMapsGrayToD65AndIsInvertedRow.make)) = true := by rw [g27]; kernel_rfl
theorem q28 : ((Rows.fnLinA98RgbToXyzMapsGrayToD65AndIsInvertedRow.kinds == (if Rows.fnLinA98RgbToXyzMapsGrayToD65AndIsInvertedRow.domain.isEmpty then [] else Try.f11.params.toList.map fun t => match Try.pinned.checked.prog.underlying t with | some (.int k) => some k | _ => none))) = true := by kernel_rfl
theorem q29 : ((Rows.fnLinA98RgbToXyzMapsGrayToD65AndIsInvertedRow.pinned == Rows.fnLinA98RgbToXyzMapsGrayToD65AndIsInvertedRow.pinnedBy)) = true := by kernel_rfl
theorem q30 : ((Rows.fnLinA98RgbToXyzMapsGrayToD65AndIsInvertedRow.veiled == (Try.f11.params.toList ++ Rows.fnLinA98RgbToXyzMapsGrayToD65AndIsInvertedSpec.plain.varTypes Try.pinned.checked.prog ++ Try.f11.resultTypes.toList).any (Try.pinned.checked.prog.veiledRec ·))) = true := by kernel_rfl
theorem q31 : (Rows.fnLinA98RgbToXyzMapsGrayToD65AndIsInvertedRow.veiledFits Try.pinned.checked.prog Try.f11.params.toList (Try.f11.params.toList ++ Rows.fnLinA98RgbToXyzMapsGrayToD65AndIsInvertedSpec.plain.varTypes Try.pinned.checked.prog ++ Try.f11.resultTypes.toList)) = true := by kernel_rfl
theorem closed : joinedFacts Try.pinned.checked.prog 11 Try.f11 Rows.fnLinA98RgbToXyzMapsGrayToD65AndIsInvertedSpec Rows.fnLinA98RgbToXyzMapsGrayToD65AndIsInvertedRow = true :=
  (andI (andI (andI (andI (andI (andI (andI (andI (andI (andI (andI (andI (andI (andI (andI (andI (andI (andI (andI (andI (andI (andI (andI (andI (andI (andI (andI (andI (andI (andI (andI q0 g1) g2) q3) q4) q5) g6) q7) g8) q9) q10) q11) q12) q13) q14) q15) q16) q17) q18) q19) q20) q21) q22) q23) g24) g25) q26) q27) q28) q29) q30) q31)
theorem over : Rows.fnLinA98RgbToXyzMapsGrayToD65AndIsInvertedRow.holds Try.pinned (OpenSpec.ofChange Rows.fnLinA98RgbToXyzMapsGrayToD65AndIsInvertedSpec) :=
  OpenClaim.holds_of_wide 11 Try.f11 rfl rfl rfl rfl rfl rfl rfl ⟨rfl, rfl, rfl, rfl, rfl⟩ rfl rfl rfl rfl rfl (by kernel_rfl) Try.func11 closed
    (of_decide_eq_true (by kernel_rfl)) (by unfold Func.isWrapper; first | (rw [if_pos (by decide +kernel)]; kernel_rfl) | (rw [if_neg (by decide +kernel)]; exact ⟨rfl, rfl⟩))
    (fun os started H enc _ => lifted os started H enc)

theorem proved : Rows.FnLinA98RgbToXyzMapsGrayToD65AndIsInvertedSaid := over
#print axioms proved
end Go.Proofs.Ytmomchpfllbgjaa.fnLinA98RgbToXyzMapsGrayToD65AndIsInverted
