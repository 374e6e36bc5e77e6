/-
  More of the theory of float64 words, in plain Lean (on top of YthhoalfilmlhaaaFl). No conditions of the program are used here.
-/
import Derived.Test.YthhoalfilmlhaaaFj
namespace Go.Proofs.Ythhoalfilmlhaaa.Fl
open Ieee

/-! ### interpolation -/
theorem size_of {v q e : Rat} (h : ab (v - q) ≤ e) : ab v ≤ ab q + e := by
  have := ab_add (v - q) q
  have e2 : v - q + q = v := by grind
  rw [e2] at this
  grind
def lerp (x y t : Nat) : Nat := fadd (fmul (fsub y x) t) x
structure LerpOk (x y t : Nat) : Prop where
  d : Fin (fsub y x)
  p : Fin (fmul (fsub y x) t)
  r : Fin (lerp x y t)
  s : ab (val (lerp x y t)) ≤ 10000000
theorem lerp_ok {x y t : Nat} (hx : Fin x) (hy : Fin y) (ht : Fin t) (bx : ab (val x) ≤ 1000000) (by' : ab (val y) ≤ 1000000) (bt : ab (val t) ≤ 1) : LerpOk x y t := by
  have hB := BIG_big
  have hU := U_tiny
  have h1 : ab (val y - val x) ≤ 2000000 := by have := ab_sub (val y) (val x); grind
  obtain ⟨f1, e1⟩ := fsub_err hy hx (by grind)
  have s1 : ab (val (fsub y x)) ≤ 2000001 := by have := size_of e1; grind
  have h2 : ab (val (fsub y x) * val t) ≤ 2000001 := by
    rw [ab_mul]
    have := Rat.mul_le_mul_of_nonneg_left bt (ab_nonneg (val (fsub y x)))
    grind
  obtain ⟨f2, e2⟩ := fmul_err f1 ht (by grind)
  have s2 : ab (val (fmul (fsub y x) t)) ≤ 2000003 := by have := size_of e2; grind
  have h3 : ab (val (fmul (fsub y x) t) + val x) ≤ 3000003 := by have := ab_add (val (fmul (fsub y x) t)) (val x); grind
  obtain ⟨f3, e3⟩ := fadd_err f2 hx (by grind)
  have s3 : ab (val (lerp x y t)) ≤ 10000000 := by have := size_of e3; unfold lerp; grind
  exact ⟨f1, f2, f3, s3⟩
theorem lerp_zero {x y : Nat} (hx : Fin x) (ok : LerpOk x y 0) : val (lerp x y 0) = val x := by
  have h1 := (fmul_ok ok.d fin_zero).2
  rw [val_zero, Rat.mul_zero] at h1
  obtain ⟨f, v⟩ := h1.exact fin_zero (by rw [val_zero])
  have h2 := (fadd_ok f hx).2
  rw [v, Rat.zero_add] at h2
  exact (h2.exact hx rfl).2
theorem lerp_one {x y : Nat} (hx : Fin x) (hy : Fin y) (bx : ab (val x) ≤ 1000000) (by' : ab (val y) ≤ 1000000) (ok : LerpOk x y 4607182418800017408) : ab (val (lerp x y 4607182418800017408) - val y) ≤ (ab (val x) + ab (val y)) / 1000000000000000 := by
  have hB := BIG_big
  have a1 := ab_sub (val y) (val x)
  obtain ⟨f1, e1⟩ := fsub_err hy hx (by grind)
  have h1 := (fmul_ok ok.d w1.1).2
  rw [w1.2, Rat.mul_one] at h1
  obtain ⟨f, v⟩ := h1.exact ok.d rfl
  have a2 := size_of e1
  have a3 := ab_add (val (fmul (fsub y x) 4607182418800017408)) (val x)
  rw [v] at a3
  obtain ⟨f3, e3⟩ := fadd_err f hx (by rw [v]; grind)
  rw [v] at e3
  have a4 := ab_le.1 e1
  have a5 := ab_le.1 e3
  have n1 := ab_nonneg (val x)
  have n2 := ab_nonneg (val y)
  unfold lerp
  exact ab_le.2 ⟨by grind, by grind⟩
/-- a hue's fraction of a turn, raised or not -/
structure Frac (a A : Nat) : Prop where
  f : Fin A
  s : ab (val A) ≤ 3
  k : ∃ k : Int, ab (val A - (val a / 360 - (k : Rat))) ≤ 1 / 1000000000000
structure FracOk (a : Nat) : Prop where
  q : Fin (fdiv a 4645040803167600640)
  l : Fin (ffloor (fdiv a 4645040803167600640))
  d : Fin (fsub (fdiv a 4645040803167600640) (ffloor (fdiv a 4645040803167600640)))
  u : Fin (fadd (fsub (fdiv a 4645040803167600640) (ffloor (fdiv a 4645040803167600640))) 4607182418800017408)
  low : Frac a (fsub (fdiv a 4645040803167600640) (ffloor (fdiv a 4645040803167600640)))
  high : Frac a (fadd (fsub (fdiv a 4645040803167600640) (ffloor (fdiv a 4645040803167600640))) 4607182418800017408)
theorem frac_ok {a : Nat} (ha : Fin a) (ba : ab (val a) ≤ 1000000) : FracOk a := by
  have hB := BIG_big
  have hU := U_tiny
  have a0 := ab_le.1 ba
  have h1 : ab (val a / val 4645040803167600640) ≤ 2800 := by
    rw [w360.2]
    exact ab_le.2 ⟨by grind, by grind⟩
  obtain ⟨f1, e1⟩ := fdiv_err ha w360.1 (by rw [w360.2]; decide) (by grind)
  rw [w360.2] at e1 h1
  have s1 := size_of e1
  obtain ⟨z, f2, v2, z1, z2, zN⟩ := ffloor_spec f1 (by grind)
  have h3 : ab (val (fdiv a 4645040803167600640) - val (ffloor (fdiv a 4645040803167600640))) ≤ 1 := by
    rw [v2]; exact ab_le.2 ⟨by grind, by grind⟩
  obtain ⟨f3, e3⟩ := fsub_err f1 f2 (by grind)
  have s3 := size_of e3
  have h4 : ab (val (fsub (fdiv a 4645040803167600640) (ffloor (fdiv a 4645040803167600640))) + val 4607182418800017408) ≤ 5 / 2 := by
    rw [w1.2]
    have := ab_le.1 (show ab (val (fsub (fdiv a 4645040803167600640) (ffloor (fdiv a 4645040803167600640)))) ≤ 3 / 2 by grind)
    exact ab_le.2 ⟨by grind, by grind⟩
  obtain ⟨f4, e4⟩ := fadd_err f3 w1.1 (by grind)
  rw [v2] at e3
  rw [w1.2] at e4 h4
  have s4 := size_of e4
  have b1 := ab_le.1 e1
  have b3 := ab_le.1 e3
  have b4 := ab_le.1 e4
  have c3 : ab (val (fdiv a 4645040803167600640) - (z : Rat)) ≤ 1 := by rw [← v2]; exact h3
  refine ⟨f1, f2, f3, f4, ⟨f3, by grind, z, ?_⟩, ⟨f4, by grind, z - 1, ?_⟩⟩
  · exact ab_le.2 ⟨by grind, by grind⟩
  · rw [Rat.intCast_sub]
    have : ((1 : Int) : Rat) = 1 := rfl
    rw [this]
    exact ab_le.2 ⟨by grind, by grind⟩
/-- a hue that stands for a fraction L near A -/
theorem hue_near {a A L : Nat} (hA : Frac a A) (hL : Fin L) (h : ab (val L - val A) ≤ 1 / 100000000000000) : Fin (fmul L 4645040803167600640) ∧ ab (val (fmul L 4645040803167600640)) ≤ 20000000 ∧ ∃ k : Int, ab (val (fmul L 4645040803167600640) - val a - 360 * (k : Rat)) ≤ 1 / 1000000000 := by
  have hB := BIG_big
  have hU := U_tiny
  have s1 := size_of h
  have s0 := hA.s
  have h1 : ab (val L * val 4645040803167600640) ≤ 1100 := by
    rw [w360.2]
    have := ab_le.1 (show ab (val L) ≤ 3 + 1 / 100000000000000 by grind)
    exact ab_le.2 ⟨by grind, by grind⟩
  obtain ⟨f, e⟩ := fmul_err hL w360.1 (by grind)
  rw [w360.2] at e h1
  have s2 := size_of e
  obtain ⟨k, hk⟩ := hA.k
  have b1 := ab_le.1 h
  have b2 := ab_le.1 hk
  have b3 := ab_le.1 (show ab (val (fmul L 4645040803167600640) - val L * 360) ≤ 1 / 1000000000000 by grind)
  refine ⟨f, by grind, -k, ?_⟩
  rw [Rat.intCast_neg]
  exact ab_le.2 ⟨by grind, by grind⟩
theorem eps_ok : Fin 4517329193108106637 ∧ 9 / 10000000 ≤ val 4517329193108106637 := by decide +kernel
theorem nano_ok : Fin 4472406533629990549 ∧ 9 / 10000000000 ≤ val 4472406533629990549 ∧ val 4472406533629990549 ≤ 1 := by decide +kernel
theorem mil_ok : Fin 4696837146684686336 ∧ val 4696837146684686336 = 1000000 := by decide +kernel
/-- the ends' tolerance -/
theorem tol_end {x o : Nat} (hx : Fin x) (ho : Fin o) (bx : ab (val x) ≤ 1000000) (bo : ab (val o) ≤ 1000000) :
    Fin (fabs x) ∧ Fin (fabs o) ∧ Fin (fadd (fabs x) (fabs o)) ∧ Fin (fadd (fadd (fabs x) (fabs o)) 4607182418800017408) ∧ Fin (fmul 4472406533629990549 (fadd (fadd (fabs x) (fabs o)) 4607182418800017408)) ∧ (ab (val x) + ab (val o) + 1) / 2000000000 ≤ val (fmul 4472406533629990549 (fadd (fadd (fabs x) (fabs o)) 4607182418800017408)) := by
  have hB := BIG_big
  have hU := U_tiny
  obtain ⟨g1, v1⟩ := fabs_fin hx
  obtain ⟨g2, v2⟩ := fabs_fin ho
  have n1 := ab_nonneg (val x)
  have n2 := ab_nonneg (val o)
  have h1 : ab (val (fabs x) + val (fabs o)) = ab (val x) + ab (val o) := by rw [v1, v2]; exact ab_of_nonneg (by grind)
  obtain ⟨f1, e1⟩ := fadd_err g1 g2 (by rw [h1]; grind)
  rw [h1, v1, v2] at e1
  have b1 := ab_le.1 e1
  have p1 : 0 ≤ val (fadd (fabs x) (fabs o)) := by grind
  have h2 : ab (val (fadd (fabs x) (fabs o)) + val 4607182418800017408) ≤ 3000002 := by
    rw [w1.2, ab_of_nonneg (by grind)]; grind
  obtain ⟨f2, e2⟩ := fadd_err f1 w1.1 (by grind)
  rw [w1.2] at e2 h2
  have b2 := ab_le.1 e2
  have hpos : ab (val (fadd (fabs x) (fabs o)) + 1) = val (fadd (fabs x) (fabs o)) + 1 := ab_of_nonneg (by grind)
  have p2 : (ab (val x) + ab (val o) + 1) * (3 / 5) ≤ val (fadd (fadd (fabs x) (fabs o)) 4607182418800017408) := by grind
  have q2 : val (fadd (fadd (fabs x) (fabs o)) 4607182418800017408) ≤ 4000000 := by grind
  have m1 : 9 / 10000000000 * val (fadd (fadd (fabs x) (fabs o)) 4607182418800017408) ≤ val 4472406533629990549 * val (fadd (fadd (fabs x) (fabs o)) 4607182418800017408) := Rat.mul_le_mul_of_nonneg_right nano_ok.2.1 (by grind)
  have m2 : val 4472406533629990549 * val (fadd (fadd (fabs x) (fabs o)) 4607182418800017408) ≤ 1 * val (fadd (fadd (fabs x) (fabs o)) 4607182418800017408) := Rat.mul_le_mul_of_nonneg_right nano_ok.2.2 (by grind)
  have m0 : 0 ≤ val 4472406533629990549 * val (fadd (fadd (fabs x) (fabs o)) 4607182418800017408) := by grind
  have h3 := ab_of_nonneg m0
  obtain ⟨f3, e3⟩ := fmul_err nano_ok.1 f2 (by rw [h3]; grind)
  rw [h3] at e3
  have b3 := ab_le.1 e3
  refine ⟨g1, g2, f1, f2, f3, ?_⟩
  grind
end Go.Proofs.Ythhoalfilmlhaaa.Fl
