/-
  For finite values of size at most 1e300 and increments that are not negative, raising any channel never lowers X, Y or Z of lin_a98rgb_to_xyz; an input clamped to the unit cube maps between 0 and the image of (1,1,1). No conditions.
-/
import Derived.Test.YtmomchpfllbgjaaIo
import Derived.WalkKit
import Derived.ProofKit
import Derived.OpenShut
import Derived.ShutString
import Derived.ChangeOld
import Derived.Below
import Derived.WalkLawsBesides
import Derived.Test.YtmomchpfllbgjaaWx
import Derived.Test.YtmomchpfllbgjaaWi
import Derived.Lib.Hide
namespace Go.Proofs.Ytmomchpfllbgjaa.fnLinA98RgbToXyzIsMonotoneAndKeepsGamutInWhiteBox
open Go.ChangeShapes Go.WideShapes Go.ChangeAt Go.RowKit
open Go.ChangeMaps (open_string shut_string)
set_option linter.unusedVariables false

theorem own : ownKnob Try.prog.godebug = none := by kernel_rfl
theorem laidOut : laidOutB Try.prog = true := by kernel_rfl

open Fl

theorem m0 : RowOk 4603369392518808747 4595853460379267005 4595949671978890425 := by decide +kernel
theorem pos0 : 0 ≤ val 4603369392518808747 ∧ 0 ≤ val 4595853460379267005 ∧ 0 ≤ val 4595949671978890425 := by decide +kernel
theorem m1 : RowOk 4599028110796861136 4603826008191704300 4590089742013848929 := by decide +kernel
theorem pos1 : 0 ≤ val 4599028110796861136 ∧ 0 ≤ val 4603826008191704300 ∧ 0 ≤ val 4590089742013848929 := by decide +kernel
theorem m2 : RowOk 4583448480868722432 4589758089302198513 4607104394268277168 := by decide +kernel
theorem pos2 : 0 ≤ val 4583448480868722432 ∧ 0 ≤ val 4589758089302198513 ∧ 0 ≤ val 4607104394268277168 := by decide +kernel
theorem limB : val 9094988921128908188 ≤ BIG / 10000000 := by decide +kernel
theorem oneB : (1 : Rat) ≤ BIG / 10000000 := by decide +kernel

theorem add_zero_val {a : Nat} (ha : Fl.Fin a) : Fl.Fin (fadd a 0) ∧ val (fadd a 0) = val a := by
  have h := (fadd_ok ha fin_zero).2
  rw [val_zero, Rat.add_zero] at h
  exact h.exact ha rfl
/-- adding what is not negative does not lower -/
theorem grow {a d : Nat} (ha : Fl.Fin a) (hd : Fl.Fin d) (h0 : 0 ≤ val d) (b : ab (val a) ≤ BIG / 10000000) (c : ab (val d) ≤ BIG / 10000000) :
    Fl.Fin (fadd a d) ∧ val a ≤ val (fadd a d) ∧ ab (val (fadd a d)) ≤ BIG / 1000000 := by
  have bp : (0 : Rat) < BIG := by decide +kernel
  have ht := ab_add (val a) (val d)
  obtain ⟨f, e⟩ := fadd_err ha hd (by grind)
  obtain ⟨z1, z2⟩ := add_zero_val ha
  refine ⟨f, ?_, ?_⟩
  · have := fadd_mono ha ha fin_zero hd Rat.le_refl (by rw [val_zero]; exact h0) z1 f
    rw [z2] at this; exact this
  · have := ab_add (val (fadd a d) - (val a + val d)) (val a + val d)
    have q : val (fadd a d) - (val a + val d) + (val a + val d) = val (fadd a d) := by grind
    rw [q] at this
    grind
/-- 'd < 0' is false: d is not negative -/
theorem nonneg_of {d : Nat} (hd : Fl.Fin d) (h : (FloatKind.f64.format.order d 0 == some .lt) = false) : 0 ≤ val d := by
  have k := (order_fin hd fin_zero).1
  change (FloatKind.f64.format.order d 0 == some .lt) = _ at k
  rw [h, val_zero] at k
  have := of_decide_eq_false k.symm
  grind
theorem le_true {x y : Nat} (hx : Fl.Fin x) (hy : Fl.Fin y) (h : val x ≤ val y) : (FloatKind.f64.format.order x y == some .lt || FloatKind.f64.format.order x y == some .eq) = true := by
  have := le_fin hx hy
  change (FloatKind.f64.format.order x y == some .lt || FloatKind.f64.format.order x y == some .eq) = _ at this
  rw [this, decide_eq_true_iff]; exact h
theorem ge_true {x y : Nat} (hx : Fl.Fin x) (hy : Fl.Fin y) (h : val y ≤ val x) : (FloatKind.f64.format.order x y == some .gt || FloatKind.f64.format.order x y == some .eq) = true := by
  have := ge_fin hx hy
  change (FloatKind.f64.format.order x y == some .gt || FloatKind.f64.format.order x y == some .eq) = _ at this
  rw [this, decide_eq_true_iff]; exact h

theorem rows (x0 x1 x2 : Nat) (h0 : Fl.Fin x0) (h1 : Fl.Fin x1) (h2 : Fl.Fin x2) (b0 : ab (val x0) ≤ BIG / 1000000) (b1 : ab (val x1) ≤ BIG / 1000000) (b2 : ab (val x2) ≤ BIG / 1000000) :
    (RowFin 4603369392518808747 4595853460379267005 4595949671978890425 x0 x1 x2 ∧ RowFin 4599028110796861136 4603826008191704300 4590089742013848929 x0 x1 x2 ∧ RowFin 4583448480868722432 4589758089302198513 4607104394268277168 x0 x1 x2) ∧ (Fl.Fin (mrow 4603369392518808747 4595853460379267005 4595949671978890425 x0 x1 x2) ∧ Fl.Fin (mrow 4599028110796861136 4603826008191704300 4590089742013848929 x0 x1 x2) ∧ Fl.Fin (mrow 4583448480868722432 4589758089302198513 4607104394268277168 x0 x1 x2)) := by
  have bp : (0 : Rat) < BIG := by decide +kernel
  obtain ⟨p0, f0, _, _⟩ := row_fin m0 h0 h1 h2 Rat.le_refl (by grind)
  obtain ⟨p1, f1, _, _⟩ := row_fin m1 h0 h1 h2 Rat.le_refl (by grind)
  obtain ⟨p2, f2, _, _⟩ := row_fin m2 h0 h1 h2 Rat.le_refl (by grind)
  exact ⟨⟨p0, p1, p2⟩, ⟨f0, f1, f2⟩⟩

/-- all that the walk needs -/
theorem plain (a0 a1 a2 d0 d1 d2 : Nat) (h0 : Fl.Fin a0) (h1 : Fl.Fin a1) (h2 : Fl.Fin a2) (k0 : Fl.Fin d0) (k1 : Fl.Fin d1) (k2 : Fl.Fin d2)
    (b0 : ab (val a0) ≤ BIG / 10000000) (b1 : ab (val a1) ≤ BIG / 10000000) (b2 : ab (val a2) ≤ BIG / 10000000) (c0 : ab (val d0) ≤ BIG / 10000000) (c1 : ab (val d1) ≤ BIG / 10000000) (c2 : ab (val d2) ≤ BIG / 10000000)
    (n0 : 0 ≤ val d0) (n1 : 0 ≤ val d1) (n2 : 0 ≤ val d2) :
    (RowFin 4603369392518808747 4595853460379267005 4595949671978890425 a0 a1 a2 ∧ RowFin 4599028110796861136 4603826008191704300 4590089742013848929 a0 a1 a2 ∧ RowFin 4583448480868722432 4589758089302198513 4607104394268277168 a0 a1 a2) ∧ (RowFin 4603369392518808747 4595853460379267005 4595949671978890425 (fadd a0 d0) (fadd a1 d1) (fadd a2 d2) ∧ RowFin 4599028110796861136 4603826008191704300 4590089742013848929 (fadd a0 d0) (fadd a1 d1) (fadd a2 d2) ∧ RowFin 4583448480868722432 4589758089302198513 4607104394268277168 (fadd a0 d0) (fadd a1 d1) (fadd a2 d2)) ∧ (RowFin 4603369392518808747 4595853460379267005 4595949671978890425 (fcl a0) (fcl a1) (fcl a2) ∧ RowFin 4599028110796861136 4603826008191704300 4590089742013848929 (fcl a0) (fcl a1) (fcl a2) ∧ RowFin 4583448480868722432 4589758089302198513 4607104394268277168 (fcl a0) (fcl a1) (fcl a2)) ∧ (RowFin 4603369392518808747 4595853460379267005 4595949671978890425 4607182418800017408 4607182418800017408 4607182418800017408 ∧ RowFin 4599028110796861136 4603826008191704300 4590089742013848929 4607182418800017408 4607182418800017408 4607182418800017408 ∧ RowFin 4583448480868722432 4589758089302198513 4607104394268277168 4607182418800017408 4607182418800017408 4607182418800017408)
    ∧ ((FloatKind.f64.format.order (mrow 4603369392518808747 4595853460379267005 4595949671978890425 a0 a1 a2) (mrow 4603369392518808747 4595853460379267005 4595949671978890425 (fadd a0 d0) (fadd a1 d1) (fadd a2 d2)) == some .lt || FloatKind.f64.format.order (mrow 4603369392518808747 4595853460379267005 4595949671978890425 a0 a1 a2) (mrow 4603369392518808747 4595853460379267005 4595949671978890425 (fadd a0 d0) (fadd a1 d1) (fadd a2 d2)) == some .eq) = true ∧ (FloatKind.f64.format.order (mrow 4599028110796861136 4603826008191704300 4590089742013848929 a0 a1 a2) (mrow 4599028110796861136 4603826008191704300 4590089742013848929 (fadd a0 d0) (fadd a1 d1) (fadd a2 d2)) == some .lt || FloatKind.f64.format.order (mrow 4599028110796861136 4603826008191704300 4590089742013848929 a0 a1 a2) (mrow 4599028110796861136 4603826008191704300 4590089742013848929 (fadd a0 d0) (fadd a1 d1) (fadd a2 d2)) == some .eq) = true ∧ (FloatKind.f64.format.order (mrow 4583448480868722432 4589758089302198513 4607104394268277168 a0 a1 a2) (mrow 4583448480868722432 4589758089302198513 4607104394268277168 (fadd a0 d0) (fadd a1 d1) (fadd a2 d2)) == some .lt || FloatKind.f64.format.order (mrow 4583448480868722432 4589758089302198513 4607104394268277168 a0 a1 a2) (mrow 4583448480868722432 4589758089302198513 4607104394268277168 (fadd a0 d0) (fadd a1 d1) (fadd a2 d2)) == some .eq) = true)
    ∧ ((FloatKind.f64.format.order (mrow 4603369392518808747 4595853460379267005 4595949671978890425 (fcl a0) (fcl a1) (fcl a2)) 0 == some .gt || FloatKind.f64.format.order (mrow 4603369392518808747 4595853460379267005 4595949671978890425 (fcl a0) (fcl a1) (fcl a2)) 0 == some .eq) = true ∧ (FloatKind.f64.format.order (mrow 4599028110796861136 4603826008191704300 4590089742013848929 (fcl a0) (fcl a1) (fcl a2)) 0 == some .gt || FloatKind.f64.format.order (mrow 4599028110796861136 4603826008191704300 4590089742013848929 (fcl a0) (fcl a1) (fcl a2)) 0 == some .eq) = true ∧ (FloatKind.f64.format.order (mrow 4583448480868722432 4589758089302198513 4607104394268277168 (fcl a0) (fcl a1) (fcl a2)) 0 == some .gt || FloatKind.f64.format.order (mrow 4583448480868722432 4589758089302198513 4607104394268277168 (fcl a0) (fcl a1) (fcl a2)) 0 == some .eq) = true)
    ∧ ((FloatKind.f64.format.order (mrow 4603369392518808747 4595853460379267005 4595949671978890425 (fcl a0) (fcl a1) (fcl a2)) (mrow 4603369392518808747 4595853460379267005 4595949671978890425 4607182418800017408 4607182418800017408 4607182418800017408) == some .lt || FloatKind.f64.format.order (mrow 4603369392518808747 4595853460379267005 4595949671978890425 (fcl a0) (fcl a1) (fcl a2)) (mrow 4603369392518808747 4595853460379267005 4595949671978890425 4607182418800017408 4607182418800017408 4607182418800017408) == some .eq) = true ∧ (FloatKind.f64.format.order (mrow 4599028110796861136 4603826008191704300 4590089742013848929 (fcl a0) (fcl a1) (fcl a2)) (mrow 4599028110796861136 4603826008191704300 4590089742013848929 4607182418800017408 4607182418800017408 4607182418800017408) == some .lt || FloatKind.f64.format.order (mrow 4599028110796861136 4603826008191704300 4590089742013848929 (fcl a0) (fcl a1) (fcl a2)) (mrow 4599028110796861136 4603826008191704300 4590089742013848929 4607182418800017408 4607182418800017408 4607182418800017408) == some .eq) = true ∧ (FloatKind.f64.format.order (mrow 4583448480868722432 4589758089302198513 4607104394268277168 (fcl a0) (fcl a1) (fcl a2)) (mrow 4583448480868722432 4589758089302198513 4607104394268277168 4607182418800017408 4607182418800017408 4607182418800017408) == some .lt || FloatKind.f64.format.order (mrow 4583448480868722432 4589758089302198513 4607104394268277168 (fcl a0) (fcl a1) (fcl a2)) (mrow 4583448480868722432 4589758089302198513 4607104394268277168 4607182418800017408 4607182418800017408 4607182418800017408) == some .eq) = true) := by
  have bp : (0 : Rat) < BIG := by decide +kernel
  obtain ⟨s0, g0, z0⟩ := grow h0 k0 n0 b0 c0
  obtain ⟨s1, g1, z1⟩ := grow h1 k1 n1 b1 c1
  obtain ⟨s2, g2, z2⟩ := grow h2 k2 n2 b2 c2
  obtain ⟨l0, l0', l0''⟩ := fcl_ok h0
  obtain ⟨l1, l1', l1''⟩ := fcl_ok h1
  obtain ⟨l2, l2', l2''⟩ := fcl_ok h2
  have ob := oneB
  obtain ⟨o1, o2⟩ := one_ok
  obtain ⟨⟨p0, p1, p2⟩, ⟨f0, f1, f2⟩⟩ := rows a0 a1 a2 h0 h1 h2 (by grind) (by grind) (by grind)
  obtain ⟨⟨q0, q1, q2⟩, ⟨e0, e1, e2⟩⟩ := rows (fadd a0 d0) (fadd a1 d1) (fadd a2 d2) s0 s1 s2 z0 z1 z2
  obtain ⟨⟨r0, r1, r2⟩, ⟨t0, t1, t2⟩⟩ := rows (fcl a0) (fcl a1) (fcl a2) l0 l1 l2 (by rw [ab_of_nonneg l0']; grind) (by rw [ab_of_nonneg l1']; grind) (by rw [ab_of_nonneg l2']; grind)
  have ob2 : ab (val 4607182418800017408) ≤ BIG / 1000000 := by rw [o2, ab_of_nonneg (by decide)]; grind
  obtain ⟨⟨u0, u1, u2⟩, ⟨v0, v1, v2⟩⟩ := rows 4607182418800017408 4607182418800017408 4607182418800017408 o1 o1 o1 ob2 ob2 ob2
  have x0 : val (fcl a0) ≤ val 4607182418800017408 := by rw [o2]; exact l0''
  have x1 : val (fcl a1) ≤ val 4607182418800017408 := by rw [o2]; exact l1''
  have x2 : val (fcl a2) ≤ val 4607182418800017408 := by rw [o2]; exact l2''
  refine ⟨⟨p0, p1, p2⟩, ⟨q0, q1, q2⟩, ⟨r0, r1, r2⟩, ⟨u0, u1, u2⟩, ⟨?_, ?_, ?_⟩, ⟨?_, ?_, ?_⟩, ⟨?_, ?_, ?_⟩⟩
  · exact le_true f0 e0 (mrow_mono p0 q0 f0 e0 pos0.1 pos0.2.1 pos0.2.2 g0 g1 g2)
  · exact le_true f1 e1 (mrow_mono p1 q1 f1 e1 pos1.1 pos1.2.1 pos1.2.2 g0 g1 g2)
  · exact le_true f2 e2 (mrow_mono p2 q2 f2 e2 pos2.1 pos2.2.1 pos2.2.2 g0 g1 g2)
  · exact ge_true t0 fin_zero (by rw [val_zero]; exact mrow_nonneg r0 t0 pos0.1 pos0.2.1 pos0.2.2 l0' l1' l2')
  · exact ge_true t1 fin_zero (by rw [val_zero]; exact mrow_nonneg r1 t1 pos1.1 pos1.2.1 pos1.2.2 l0' l1' l2')
  · exact ge_true t2 fin_zero (by rw [val_zero]; exact mrow_nonneg r2 t2 pos2.1 pos2.2.1 pos2.2.2 l0' l1' l2')
  · exact le_true t0 v0 (mrow_mono r0 u0 t0 v0 pos0.1 pos0.2.1 pos0.2.2 x0 x1 x2)
  · exact le_true t1 v1 (mrow_mono r1 u1 t1 v1 pos1.1 pos1.2.1 pos1.2.2 x0 x1 x2)
  · exact le_true t2 v2 (mrow_mono r2 u2 t2 v2 pos2.1 pos2.2.1 pos2.2.2 x0 x1 x2)

set_option maxHeartbeats 4000000 in
set_option maxRecDepth 100000 in
theorem walk (a0 : Nat) (a1 : Nat) (a2 : Nat) (a3 : Nat) (a4 : Nat) (a5 : Nat) (w : World) (w0 : (Lit.float .f64 a0).wf = true) (w1 : (Lit.float .f64 a1).wf = true) (w2 : (Lit.float .f64 a2).wf = true) (w3 : (Lit.float .f64 a3).wf = true) (w4 : (Lit.float .f64 a4).wf = true) (w5 : (Lit.float .f64 a5).wf = true) :
    Calls Try.prog 12 #[.float .f64 a0, .float .f64 a1, .float .f64 a2, .float .f64 a3, .float .f64 a4, .float .f64 a5] w fun e w' => e = .returned (.bool true) ∧ Below w.heap.size w w' := by
  by_cases i0 : ordB a0 = true
  rotate_left
  · rw [Bool.not_eq_true] at i0
    go_enter Try.func12, Try.ntmps12
    go_wp2_with (go_at_call 31; refine (ord31 _ _).mono ?_; rintro e w' ⟨rfl, rfl⟩)
    go_ret
    exact ⟨rfl, Below.refl _ _⟩
  by_cases i1 : ordB a1 = true
  rotate_left
  · rw [Bool.not_eq_true] at i1
    go_enter Try.func12, Try.ntmps12
    go_wp2_with (go_at_call 31; refine (ord31 _ _).mono ?_; rintro e w' ⟨rfl, rfl⟩)
    go_ret
    exact ⟨rfl, Below.refl _ _⟩
  by_cases i2 : ordB a2 = true
  rotate_left
  · rw [Bool.not_eq_true] at i2
    go_enter Try.func12, Try.ntmps12
    go_wp2_with (go_at_call 31; refine (ord31 _ _).mono ?_; rintro e w' ⟨rfl, rfl⟩)
    go_ret
    exact ⟨rfl, Below.refl _ _⟩
  by_cases i3 : ordB a3 = true
  rotate_left
  · rw [Bool.not_eq_true] at i3
    go_enter Try.func12, Try.ntmps12
    go_wp2_with (go_at_call 31; refine (ord31 _ _).mono ?_; rintro e w' ⟨rfl, rfl⟩)
    go_ret
    exact ⟨rfl, Below.refl _ _⟩
  by_cases i4 : ordB a4 = true
  rotate_left
  · rw [Bool.not_eq_true] at i4
    go_enter Try.func12, Try.ntmps12
    go_wp2_with (go_at_call 31; refine (ord31 _ _).mono ?_; rintro e w' ⟨rfl, rfl⟩)
    go_ret
    exact ⟨rfl, Below.refl _ _⟩
  by_cases i5 : ordB a5 = true
  rotate_left
  · rw [Bool.not_eq_true] at i5
    go_enter Try.func12, Try.ntmps12
    go_wp2_with (go_at_call 31; refine (ord31 _ _).mono ?_; rintro e w' ⟨rfl, rfl⟩)
    go_ret
    exact ⟨rfl, Below.refl _ _⟩
  by_cases j3 : (FloatKind.f64.format.order a3 0 == some .lt) = true
  · go_enter Try.func12, Try.ntmps12
    go_wp2_with (go_at_call 31; refine (ord31 _ _).mono ?_; rintro e w' ⟨rfl, rfl⟩)
    go_ret
    exact ⟨rfl, Below.refl _ _⟩
  rw [Bool.not_eq_true] at j3
  by_cases j4 : (FloatKind.f64.format.order a4 0 == some .lt) = true
  · go_enter Try.func12, Try.ntmps12
    go_wp2_with (go_at_call 31; refine (ord31 _ _).mono ?_; rintro e w' ⟨rfl, rfl⟩)
    go_ret
    exact ⟨rfl, Below.refl _ _⟩
  rw [Bool.not_eq_true] at j4
  by_cases j5 : (FloatKind.f64.format.order a5 0 == some .lt) = true
  · go_enter Try.func12, Try.ntmps12
    go_wp2_with (go_at_call 31; refine (ord31 _ _).mono ?_; rintro e w' ⟨rfl, rfl⟩)
    go_ret
    exact ⟨rfl, Below.refl _ _⟩
  rw [Bool.not_eq_true] at j5
  obtain ⟨h0, b0⟩ := ordB_fin i0
  obtain ⟨h1, b1⟩ := ordB_fin i1
  obtain ⟨h2, b2⟩ := ordB_fin i2
  obtain ⟨h3, b3⟩ := ordB_fin i3
  obtain ⟨h4, b4⟩ := ordB_fin i4
  obtain ⟨h5, b5⟩ := ordB_fin i5
  have P := plain a0 a1 a2 a3 a4 a5 h0 h1 h2 h3 h4 h5 (Rat.le_trans b0 limB) (Rat.le_trans b1 limB) (Rat.le_trans b2 limB) (Rat.le_trans b3 limB) (Rat.le_trans b4 limB) (Rat.le_trans b5 limB) (nonneg_of h3 j3) (nonneg_of h4 j4) (nonneg_of h5 j5)
  clear b0 b1 b2 b3 b4 b5
  obtain ⟨⟨p0, p1, p2⟩, ⟨q0, q1, q2⟩, ⟨r0, r1, r2⟩, ⟨u0, u1, u2⟩, ⟨l0, l1, l2⟩, ⟨g0, g1, g2⟩, ⟨m0, m1, m2⟩⟩ := P
  have KA := fun w => ZZlinA98rgbToXyz_n011_293_any a0 a1 a2 w p0 p1 p2
  have KS := fun w => ZZlinA98rgbToXyz_n011_293_any (fadd a0 a3) (fadd a1 a4) (fadd a2 a5) w q0 q1 q2
  have KC := fun w => ZZlinA98rgbToXyz_n011_293_any (fcl a0) (fcl a1) (fcl a2) w r0 r1 r2
  have KO := fun w => ZZlinA98rgbToXyz_n011_293_any 4607182418800017408 4607182418800017408 4607182418800017408 w u0 u1 u2
  clear p0 p1 p2 q0 q1 q2 r0 r1 r2 u0 u1 u2
  obtain ⟨x0, ex0⟩ : ∃ y, mrow 4603369392518808747 4595853460379267005 4595949671978890425 a0 a1 a2 = y := ⟨_, rfl⟩
  rw [ex0] at KA l0
  clear ex0
  obtain ⟨x1, ex1⟩ : ∃ y, mrow 4599028110796861136 4603826008191704300 4590089742013848929 a0 a1 a2 = y := ⟨_, rfl⟩
  rw [ex1] at KA l1
  clear ex1
  obtain ⟨x2, ex2⟩ : ∃ y, mrow 4583448480868722432 4589758089302198513 4607104394268277168 a0 a1 a2 = y := ⟨_, rfl⟩
  rw [ex2] at KA l2
  clear ex2
  obtain ⟨y0, ey0⟩ : ∃ y, mrow 4603369392518808747 4595853460379267005 4595949671978890425 (fadd a0 a3) (fadd a1 a4) (fadd a2 a5) = y := ⟨_, rfl⟩
  rw [ey0] at KS l0
  clear ey0
  obtain ⟨y1, ey1⟩ : ∃ y, mrow 4599028110796861136 4603826008191704300 4590089742013848929 (fadd a0 a3) (fadd a1 a4) (fadd a2 a5) = y := ⟨_, rfl⟩
  rw [ey1] at KS l1
  clear ey1
  obtain ⟨y2, ey2⟩ : ∃ y, mrow 4583448480868722432 4589758089302198513 4607104394268277168 (fadd a0 a3) (fadd a1 a4) (fadd a2 a5) = y := ⟨_, rfl⟩
  rw [ey2] at KS l2
  clear ey2
  obtain ⟨z0, ez0⟩ : ∃ y, mrow 4603369392518808747 4595853460379267005 4595949671978890425 (fcl a0) (fcl a1) (fcl a2) = y := ⟨_, rfl⟩
  rw [ez0] at KC g0 m0
  clear ez0
  obtain ⟨z1, ez1⟩ : ∃ y, mrow 4599028110796861136 4603826008191704300 4590089742013848929 (fcl a0) (fcl a1) (fcl a2) = y := ⟨_, rfl⟩
  rw [ez1] at KC g1 m1
  clear ez1
  obtain ⟨z2, ez2⟩ : ∃ y, mrow 4583448480868722432 4589758089302198513 4607104394268277168 (fcl a0) (fcl a1) (fcl a2) = y := ⟨_, rfl⟩
  rw [ez2] at KC g2 m2
  clear ez2
  obtain ⟨v0, ev0⟩ : ∃ y, mrow 4603369392518808747 4595853460379267005 4595949671978890425 4607182418800017408 4607182418800017408 4607182418800017408 = y := ⟨_, rfl⟩
  rw [ev0] at KO m0
  clear ev0
  obtain ⟨v1, ev1⟩ : ∃ y, mrow 4599028110796861136 4603826008191704300 4590089742013848929 4607182418800017408 4607182418800017408 4607182418800017408 = y := ⟨_, rfl⟩
  rw [ev1] at KO m1
  clear ev1
  obtain ⟨v2, ev2⟩ : ∃ y, mrow 4583448480868722432 4589758089302198513 4607104394268277168 4607182418800017408 4607182418800017408 4607182418800017408 = y := ⟨_, rfl⟩
  rw [ev2] at KO m2
  clear ev2
  have KA := Lib.hid KA
  have KS := Lib.hid KS
  have KC := Lib.hid KC
  have KO := Lib.hid KO
  have c0 := fun w ty => run_float_arith (P := Try.prog) w .add ty .f64 a0 a3 _ (bits_add h0 h3)
  have c1 := fun w ty => run_float_arith (P := Try.prog) w .add ty .f64 a1 a4 _ (bits_add h1 h4)
  have c2 := fun w ty => run_float_arith (P := Try.prog) w .add ty .f64 a2 a5 _ (bits_add h2 h5)
  go_enter Try.func12, Try.ntmps12
  go_wp2_with (go_at_call 31; refine (ord31 _ _).mono ?_; rintro e w' ⟨rfl, rfl⟩)
  refine (KA.out _).mono ?_
  rintro e wa ⟨rfl, hba⟩
  have HA := Lib.hid hba
  clear hba
  go_wp2_with fail
  refine (KS.out _).mono ?_
  rintro e wb ⟨rfl, hbb⟩
  have HB := Lib.hid hbb
  clear hbb
  go_wp2_with (go_at_call 37; refine (clamp37 _ _).mono ?_; rintro e w' ⟨rfl, rfl⟩)
  refine (KC.out _).mono ?_
  rintro e wc ⟨rfl, hbc⟩
  have HC := Lib.hid hbc
  clear hbc
  go_wp2_with fail
  refine (KO.out _).mono ?_
  rintro e wd ⟨rfl, hbd⟩
  have HD := Lib.hid hbd
  clear hbd
  go_wp2_with fail
  go_ret
  have z1 := HA.out.size
  have z2 := HB.out.size
  have z3 := HC.out.size
  exact ⟨rfl, ((HA.out.trans (HB.out.mono z1)).trans (HC.out.mono (by omega))).trans (HD.out.mono (by omega))⟩

set_option maxRecDepth 100000 in
theorem lifted (os : Os) (started : os.Started) (H : Type) (enc : TypeId × Value → H) :
    ReturnsInHanded {} Try.checked os 12 .any (Rows.fnLinA98RgbToXyzIsMonotoneAndKeepsGamutInWhiteBoxSpec.pre6 enc Try.prog Try.f12 Rows.fnLinA98RgbToXyzIsMonotoneAndKeepsGamutInWhiteBoxRow.domain false) (Rows.fnLinA98RgbToXyzIsMonotoneAndKeepsGamutInWhiteBoxSpec.post enc Try.prog Try.f12 false true false false) := by
  refine returnsInHanded_of_change (C := Try.checked) own started (by kernel_rfl) Try.func12
    (ChangeSpec.witness6 (enc := enc) (C := Try.checked) false ⟨#[], #[.float .f64 0, .float .f64 0, .float .f64 0, .float .f64 0, .float .f64 0, .float .f64 0], []⟩ 8 (by kernel_rfl) (by kernel_rfl) (by kernel_rfl) (by kernel_rfl)) ?_
  intro W base args ds gs before hval0 hW hcnd _
  have hval : ∀ (j : Nat) t v, Try.f12.params[j]? = some t → args[j]? = some v → Value.okWide Try.prog W .any base t v := hval0
  have hW' := hW
  obtain ⟨p, q, hA0, hV, rfl, hfz, hnd⟩ := hW
  have hA : DataW.TrodAll enc Try.prog W 0 (fun _ => true) true Try.f12.params.toList args.toList ds p := hA0
  rw [Try.params12] at hA hval
  obtain ⟨v0, vs0, d0, ds0, p0, q0, hargs, rfl, rfl, h0, r0⟩ := trodAll_cons hA
  obtain ⟨v1, vs1, d1, ds1, p1, q1, rfl, rfl, rfl, h1, r1⟩ := trodAll_cons r0
  obtain ⟨v2, vs2, d2, ds2, p2, q2, rfl, rfl, rfl, h2, r2⟩ := trodAll_cons r1
  obtain ⟨v3, vs3, d3, ds3, p3, q3, rfl, rfl, rfl, h3, r3⟩ := trodAll_cons r2
  obtain ⟨v4, vs4, d4, ds4, p4, q4, rfl, rfl, rfl, h4, r4⟩ := trodAll_cons r3
  obtain ⟨v5, vs5, d5, ds5, p5, q5, rfl, rfl, rfl, h5, r5⟩ := trodAll_cons r4
  obtain ⟨rfl, rfl, rfl⟩ := trodAll_nil r5
  obtain rfl : args = #[v0, v1, v2, v3, v4, v5] := by cases args; simp_all
  obtain ⟨rfl, rfl⟩ := trodVars_none hV
  obtain ⟨a0, rfl, rfl, rfl, w0⟩ := open_float Try.underlying22 (hval 0 22 v0 rfl rfl) h0
  obtain ⟨a1, rfl, rfl, rfl, w1⟩ := open_float Try.underlying22 (hval 1 22 v1 rfl rfl) h1
  obtain ⟨a2, rfl, rfl, rfl, w2⟩ := open_float Try.underlying22 (hval 2 22 v2 rfl rfl) h2
  obtain ⟨a3, rfl, rfl, rfl, w3⟩ := open_float Try.underlying22 (hval 3 22 v3 rfl rfl) h3
  obtain ⟨a4, rfl, rfl, rfl, w4⟩ := open_float Try.underlying22 (hval 4 22 v4 rfl rfl) h4
  obtain ⟨a5, rfl, rfl, rfl, w5⟩ := open_float Try.underlying22 (hval 5 22 v5 rfl rfl) h5
  clear hA0 hval0
  refine (walk a0 a1 a2 a3 a4 a5 W w0 w1 w2 w3 w4 w5).mono fun e W' ⟨he, bel⟩ => ?_
  subst he
  exact ⟨_, rfl, _, _, _, [], _, [], hW', trodAll_mk1 (shut_bool Try.underlying4 _), (trodAll_cons_mk (shut_float Try.underlying22 w0) (trodAll_cons_mk (shut_float Try.underlying22 w1) (trodAll_cons_mk (shut_float Try.underlying22 w2) (trodAll_cons_mk (shut_float Try.underlying22 w3) (trodAll_cons_mk (shut_float Try.underlying22 w4) (trodAll_cons_mk (shut_float Try.underlying22 w5) trodAll_mk0)))))), rfl, bel.frame _, fun h => by cases h⟩

theorem q0 : (Rows.fnLinA98RgbToXyzIsMonotoneAndKeepsGamutInWhiteBoxRow.wf (OpenSpec.ofChange Rows.fnLinA98RgbToXyzIsMonotoneAndKeepsGamutInWhiteBoxSpec)) = true := by kernel_rfl
theorem q3 : (Try.f12.params.all (Try.pinned.checked.prog.readableRec ·)) = true := by kernel_rfl
theorem q4 : (namedTie Try.pinned.checked.prog Rows.fnLinA98RgbToXyzIsMonotoneAndKeepsGamutInWhiteBoxRow.named Rows.fnLinA98RgbToXyzIsMonotoneAndKeepsGamutInWhiteBoxSpec.vars) = true := by kernel_rfl
theorem q5 : ((Rows.fnLinA98RgbToXyzIsMonotoneAndKeepsGamutInWhiteBoxRow.stops == [])) = true := by kernel_rfl
theorem q7 : ((Rows.fnLinA98RgbToXyzIsMonotoneAndKeepsGamutInWhiteBoxRow.knobs == [])) = true := by kernel_rfl
theorem q9 : ((Rows.fnLinA98RgbToXyzIsMonotoneAndKeepsGamutInWhiteBoxRow.inPlace == Try.pinned.checked.prog.inPlace 12)) = true := by kernel_rfl
theorem q10 : ((Rows.fnLinA98RgbToXyzIsMonotoneAndKeepsGamutInWhiteBoxRow.unfollowed == Try.pinned.checked.prog.unfollowed 12)) = true := by kernel_rfl
theorem q11 : ((Rows.fnLinA98RgbToXyzIsMonotoneAndKeepsGamutInWhiteBoxRow.recurses == Try.pinned.checked.prog.recurses 12)) = true := by kernel_rfl
theorem q12 : ((Rows.fnLinA98RgbToXyzIsMonotoneAndKeepsGamutInWhiteBoxRow.named == Try.pinned.checked.prog.varsNamed 12)) = true := by kernel_rfl
theorem q13 : ((Rows.fnLinA98RgbToXyzIsMonotoneAndKeepsGamutInWhiteBoxRow.maps == (Try.f12.params.toList ++ Rows.fnLinA98RgbToXyzIsMonotoneAndKeepsGamutInWhiteBoxSpec.plain.varTypes Try.pinned.checked.prog).any (Try.pinned.checked.prog.mapsRec ·))) = true := by kernel_rfl
theorem q14 : ((Rows.fnLinA98RgbToXyzIsMonotoneAndKeepsGamutInWhiteBoxRow.ifaces == (Try.f12.params.toList ++ Rows.fnLinA98RgbToXyzIsMonotoneAndKeepsGamutInWhiteBoxSpec.plain.varTypes Try.pinned.checked.prog).any (Try.pinned.checked.prog.ifacesRec ·))) = true := by kernel_rfl
theorem q15 : ((Rows.fnLinA98RgbToXyzIsMonotoneAndKeepsGamutInWhiteBoxRow.mapsOut == Try.pinned.checked.prog.mapsAmong Try.f12.resultTypes.toList)) = true := by kernel_rfl
theorem q16 : ((Rows.fnLinA98RgbToXyzIsMonotoneAndKeepsGamutInWhiteBoxRow.loops == (Try.f12.params.toList ++ Rows.fnLinA98RgbToXyzIsMonotoneAndKeepsGamutInWhiteBoxSpec.plain.varTypes Try.pinned.checked.prog).any (Try.pinned.checked.prog.loopsFrom ·))) = true := by kernel_rfl
theorem q17 : ((Rows.fnLinA98RgbToXyzIsMonotoneAndKeepsGamutInWhiteBoxRow.wideKeys == (Try.f12.params.toList ++ Rows.fnLinA98RgbToXyzIsMonotoneAndKeepsGamutInWhiteBoxSpec.plain.varTypes Try.pinned.checked.prog ++ Try.f12.resultTypes.toList).any (Try.pinned.checked.prog.wideKeysFrom ·))) = true := by kernel_rfl
theorem q18 : (Rows.fnLinA98RgbToXyzIsMonotoneAndKeepsGamutInWhiteBoxSpec.vars.all (Try.pinned.checked.prog.varReadable ·)) = true := by kernel_rfl
theorem q19 : (Try.f12.resultTypes.all (fun t => Try.pinned.checked.prog.readableRec t && decide (t < Try.pinned.checked.prog.types.size))) = true := by kernel_rfl
theorem q20 : ((Rows.fnLinA98RgbToXyzIsMonotoneAndKeepsGamutInWhiteBoxRow.ifacesOut == Try.f12.resultTypes.toList.any (Try.pinned.checked.prog.ifacesRec ·))) = true := by kernel_rfl
theorem q21 : ((Rows.fnLinA98RgbToXyzIsMonotoneAndKeepsGamutInWhiteBoxRow.loopsOut == Try.f12.resultTypes.toList.any (Try.pinned.checked.prog.loopsFrom ·))) = true := by kernel_rfl
theorem q22 : ((Rows.fnLinA98RgbToXyzIsMonotoneAndKeepsGamutInWhiteBoxRow.plainKeys == Try.pinned.checked.prog.plainKeys)) = true := by kernel_rfl
theorem q23 : (Rows.fnLinA98RgbToXyzIsMonotoneAndKeepsGamutInWhiteBoxRow.shortTexts.isNone) = true := by kernel_rfl
theorem q26 : ((Rows.fnLinA98RgbToXyzIsMonotoneAndKeepsGamutInWhiteBoxRow.lifted == Try.pinned.checked.prog.liftsFinal)) = true := by rw [g26]; kernel_rfl
theorem q27 : ((Try.pinned.checked.prog.make == some Rows.fnLinA98RgbToXyzIsMonotoneAndKeepsGamutInWhiteBoxRow.make)) = true := by rw [g27]; kernel_rfl
theorem q28 : ((Rows.fnLinA98RgbToXyzIsMonotoneAndKeepsGamutInWhiteBoxRow.kinds == (if Rows.fnLinA98RgbToXyzIsMonotoneAndKeepsGamutInWhiteBoxRow.domain.isEmpty then [] else Try.f12.params.toList.map fun t => match Try.pinned.checked.prog.underlying t with | some (.int k) => some k | _ => none))) = true := by kernel_rfl
theorem q29 : ((Rows.fnLinA98RgbToXyzIsMonotoneAndKeepsGamutInWhiteBoxRow.pinned == Rows.fnLinA98RgbToXyzIsMonotoneAndKeepsGamutInWhiteBoxRow.pinnedBy)) = true := by kernel_rfl
theorem q30 : ((Rows.fnLinA98RgbToXyzIsMonotoneAndKeepsGamutInWhiteBoxRow.veiled == (Try.f12.params.toList ++ Rows.fnLinA98RgbToXyzIsMonotoneAndKeepsGamutInWhiteBoxSpec.plain.varTypes Try.pinned.checked.prog ++ Try.f12.resultTypes.toList).any (Try.pinned.checked.prog.veiledRec ·))) = true := by kernel_rfl
theorem q31 : (Rows.fnLinA98RgbToXyzIsMonotoneAndKeepsGamutInWhiteBoxRow.veiledFits Try.pinned.checked.prog Try.f12.params.toList (Try.f12.params.toList ++ Rows.fnLinA98RgbToXyzIsMonotoneAndKeepsGamutInWhiteBoxSpec.plain.varTypes Try.pinned.checked.prog ++ Try.f12.resultTypes.toList)) = true := by kernel_rfl
theorem closed : joinedFacts Try.pinned.checked.prog 12 Try.f12 Rows.fnLinA98RgbToXyzIsMonotoneAndKeepsGamutInWhiteBoxSpec Rows.fnLinA98RgbToXyzIsMonotoneAndKeepsGamutInWhiteBoxRow = true :=
  (andI (andI (andI (andI (andI (andI (andI (andI (andI (andI (andI (andI (andI (andI (andI (andI (andI (andI (andI (andI (andI (andI (andI (andI (andI (andI (andI (andI (andI (andI (andI q0 g1) g2) q3) q4) q5) g6) q7) g8) q9) q10) q11) q12) q13) q14) q15) q16) q17) q18) q19) q20) q21) q22) q23) g24) g25) q26) q27) q28) q29) q30) q31)
theorem over : Rows.fnLinA98RgbToXyzIsMonotoneAndKeepsGamutInWhiteBoxRow.holds Try.pinned (OpenSpec.ofChange Rows.fnLinA98RgbToXyzIsMonotoneAndKeepsGamutInWhiteBoxSpec) :=
  OpenClaim.holds_of_wide 12 Try.f12 rfl rfl rfl rfl rfl rfl rfl ⟨rfl, rfl, rfl, rfl, rfl⟩ rfl rfl rfl rfl rfl (by kernel_rfl) Try.func12 closed
    (of_decide_eq_true (by kernel_rfl)) (by unfold Func.isWrapper; first | (rw [if_pos (by decide +kernel)]; kernel_rfl) | (rw [if_neg (by decide +kernel)]; exact ⟨rfl, rfl⟩))
    (fun os started H enc _ => lifted os started H enc)

theorem proved : Rows.FnLinA98RgbToXyzIsMonotoneAndKeepsGamutInWhiteBoxSaid := over
#print axioms proved
end Go.Proofs.Ytmomchpfllbgjaa.fnLinA98RgbToXyzIsMonotoneAndKeepsGamutInWhiteBox
