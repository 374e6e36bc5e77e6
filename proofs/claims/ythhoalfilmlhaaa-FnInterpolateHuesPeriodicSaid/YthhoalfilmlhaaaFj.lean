/-
  More of the theory of float64 words, in plain Lean (on top of YthhoalfilmlhaaaFl). No conditions of the program are used here.
-/
import Derived.Test.YthhoalfilmlhaaaFi
namespace Go.Proofs.Ythhoalfilmlhaaa.Fl
open Ieee

/-! ### the laws' own floor, and the distance of two angles -/
theorem w1 : Fin 4607182418800017408 ∧ val 4607182418800017408 = 1 := by decide +kernel
theorem w360 : Fin 4645040803167600640 ∧ val 4645040803167600640 = 360 := by decide +kernel
theorem BIG_big : (1000000000000000000000000000000 : Rat) ≤ BIG := by decide +kernel
theorem U_tiny : U ≤ 1 / 1000000000000000000000000000000 := by decide +kernel
theorem floatOfInt_rd (z : Int) : IsRd (z : Rat) (floatOfInt .f64 z) := by
  have := rd_of_int (z : Rat) z 0 (decide (z < 0)) (by rw [Rat.zpow_zero]; grind) (fun _ => rfl)
  exact this
/-- 'i := float64(int64(x)); if i > x { i = i - 1 }' -/
def zfl (x : Nat) (n : Int) : Nat := if double.order (floatOfInt .f64 n) x == some .gt then fsub (floatOfInt .f64 n) 4607182418800017408 else floatOfInt .f64 n
theorem rat_nat_le {z : Int} (h : z.natAbs ≤ 4503599627370496) : -4503599627370496 ≤ (z : Rat) ∧ (z : Rat) ≤ 4503599627370496 := by
  constructor
  · have : ((-4503599627370496 : Int) : Rat) ≤ (z : Rat) := Rat.intCast_le_intCast.2 (by omega)
    exact this
  · have : (z : Rat) ≤ ((4503599627370496 : Int) : Rat) := Rat.intCast_le_intCast.2 (by omega)
    exact this
theorem zfl_spec {x : Nat} {n : Int} (hx : Fin x) (hb : ab (val x) ≤ 1000000000000) (hn : (double.read x).toInt .zero = some n) :
    Fin (floatOfInt .f64 n) ∧ Fin (zfl x n) ∧ ∃ z : Int, val (zfl x n) = (z : Rat) ∧ (z : Rat) ≤ val x ∧ val x < (z : Rat) + 1 ∧ z.natAbs ≤ 4503599627370497 := by
  obtain ⟨n', hn', hN, hp, hm⟩ := trunc_spec hx (by grind)
  rw [hn] at hn'
  injection hn' with hn'
  subst hn'
  obtain ⟨f1, v1⟩ := exact_int (floatOfInt_rd n) (z := n) (by omega) rfl
  obtain ⟨_, _, hg⟩ := order_fin f1 hx
  have hab := ab_le.1 hb
  obtain ⟨r1, r2⟩ := rat_nat_le hN
  refine ⟨f1, ?_⟩
  unfold zfl
  rw [hg]
  by_cases h : val x < val (floatOfInt .f64 n)
  · rw [if_pos (by simpa using h)]
    rw [v1] at h
    have hsub : IsRd (((n - 1 : Int)) : Rat) (fsub (floatOfInt .f64 n) 4607182418800017408) := by
      have := (fsub_ok f1 w1.1).2
      rw [v1, w1.2] at this
      have e : ((n - 1 : Int) : Rat) = (n : Rat) - 1 := by rw [Rat.intCast_sub]; rfl
      rw [e]; exact this
    obtain ⟨f2, v2⟩ := exact_int hsub (z := n - 1) (by omega) rfl
    refine ⟨f2, n - 1, v2, ?_, ?_, by omega⟩
    · rw [Rat.intCast_sub]
      by_cases h0 : 0 ≤ val x
      · have := hp h0; grind
      · have := hm (by grind); grind
    · rw [Rat.intCast_sub]; grind
  · rw [if_neg (by simpa using h)]
    rw [v1] at h
    refine ⟨f1, n, v1, by grind, ?_, by omega⟩
    by_cases h0 : 0 ≤ val x
    · exact (hp h0).2
    · have := hm (by grind); grind
/-- the distance of two angles on the circle, as the laws reckon it -/
def circm (x y : Nat) (n : Int) : Nat := fsub (fsub x y) (fmul 4645040803167600640 (zfl (fdiv (fsub x y) 4645040803167600640) n))
def circ (x y : Nat) (n : Int) : Nat := if double.order (fsub 4645040803167600640 (circm x y n)) (circm x y n) == some .lt then fsub 4645040803167600640 (circm x y n) else circm x y n
structure CircOk (x y : Nat) (n : Int) : Prop where
  d : Fin (fsub x y)
  q : Fin (fdiv (fsub x y) 4645040803167600640)
  qb : ab (val (fdiv (fsub x y) 4645040803167600640)) ≤ 1000000000000
  i : Fin (floatOfInt .f64 n)
  f : Fin (zfl (fdiv (fsub x y) 4645040803167600640) n)
  p : Fin (fmul 4645040803167600640 (zfl (fdiv (fsub x y) 4645040803167600640) n))
  m : Fin (circm x y n)
  r : Fin (fsub 4645040803167600640 (circm x y n))
  c : Fin (circ x y n)
theorem circ_pre {x y : Nat} (hx : Fin x) (hy : Fin y) (bx : ab (val x) ≤ 20000000) (by' : ab (val y) ≤ 20000000) :
    Fin (fsub x y) ∧ ab (val (fsub x y) - (val x - val y)) ≤ 1 / 100000000 ∧ Fin (fdiv (fsub x y) 4645040803167600640) ∧ ab (val (fdiv (fsub x y) 4645040803167600640) - val (fsub x y) / 360) ≤ 1 / 10000000000 ∧ ab (val (fsub x y)) ≤ 40000001 := by
  have hB := BIG_big
  have hU := U_tiny
  obtain ⟨x1, x2⟩ := ab_le.1 bx
  obtain ⟨y1, y2⟩ := ab_le.1 by'
  have hd : ab (val x - val y) ≤ 40000000 := ab_le.2 ⟨by grind, by grind⟩
  obtain ⟨f1, e1⟩ := fsub_err hx hy (by grind)
  have e1' : ab (val (fsub x y) - (val x - val y)) ≤ 1 / 100000000 := by grind
  have hd2 : ab (val (fsub x y)) ≤ 40000001 := by
    have h1 := ab_le.1 e1'
    have h2 := ab_le.1 hd
    exact ab_le.2 ⟨by grind, by grind⟩
  have hq : ab (val (fsub x y) / val 4645040803167600640) ≤ 200000 := by
    rw [w360.2]
    have h2 := ab_le.1 hd2
    exact ab_le.2 ⟨by grind, by grind⟩
  obtain ⟨f2, e2⟩ := fdiv_err f1 w360.1 (by rw [w360.2]; decide) (by grind)
  rw [w360.2] at e2 hq
  exact ⟨f1, e1', f2, by grind, hd2⟩
theorem circ_spec {x y : Nat} {n : Int} {k : Int} {ε : Rat} (hx : Fin x) (hy : Fin y) (bx : ab (val x) ≤ 20000000) (by' : ab (val y) ≤ 20000000)
    (hn : (double.read (fdiv (fsub x y) 4645040803167600640)).toInt .zero = some n) (hk : ab (val x - val y - 360 * (k : Rat)) ≤ ε) (hε : ε ≤ 1 / 10000000) :
    CircOk x y n ∧ val (circ x y n) ≤ ε + 1 / 10000000 := by
  have hB := BIG_big
  have hU := U_tiny
  obtain ⟨f1, e1, f2, e2, hd⟩ := circ_pre hx hy bx by'
  have qb : ab (val (fdiv (fsub x y) 4645040803167600640)) ≤ 1000000000000 := by
    have h1 := ab_le.1 e2
    have h2 := ab_le.1 hd
    exact ab_le.2 ⟨by grind, by grind⟩
  obtain ⟨fi, ff, z, vz, z1, z2, zN⟩ := zfl_spec f2 qb hn
  have hfz := ff
  have a1 := ab_le.1 e1
  have a2 := ab_le.1 e2
  have a3 := ab_le.1 hk
  have a4 := ab_le.1 hd
  -- which whole number it is
  have hzk : z = k ∨ z = k - 1 := by
    have l1 : (z : Rat) < ((k + 1 : Int) : Rat) := by rw [Rat.intCast_add]; grind
    have l2 : ((k - 2 : Int) : Rat) < (z : Rat) := by rw [Rat.intCast_sub]; grind
    have := Rat.intCast_lt_intCast.1 l1
    have := Rat.intCast_lt_intCast.1 l2
    omega
  have zb : z.natAbs ≤ 200000 := by
    have l1 : (z : Rat) < ((200000 : Int) : Rat) := by
      have : ((200000 : Int) : Rat) = 200000 := rfl
      grind
    have l2 : ((-200000 : Int) : Rat) < (z : Rat) := by
      have : ((-200000 : Int) : Rat) = -200000 := rfl
      grind
    have := Rat.intCast_lt_intCast.1 l1
    have := Rat.intCast_lt_intCast.1 l2
    omega
  have hp : IsRd ((360 * z : Int) : Rat) (fmul 4645040803167600640 (zfl (fdiv (fsub x y) 4645040803167600640) n)) := by
    have := (fmul_ok w360.1 ff).2
    rw [w360.2, vz] at this
    rw [Rat.intCast_mul]; exact this
  obtain ⟨fp, vp⟩ := exact_int hp (z := 360 * z) (by omega) rfl
  rw [Rat.intCast_mul] at vp
  have h360 : ((360 : Int) : Rat) = 360 := rfl
  rw [h360] at vp
  have hm0 : ab (val (fsub x y) - val (fmul 4645040803167600640 (zfl (fdiv (fsub x y) 4645040803167600640) n))) ≤ 400 := by
    rw [vp]
    rcases hzk with h | h
    · rw [h]; exact ab_le.2 ⟨by grind, by grind⟩
    · rw [h, Rat.intCast_sub]
      have : ((1 : Int) : Rat) = 1 := rfl
      exact ab_le.2 ⟨by grind, by grind⟩
  obtain ⟨fm, em⟩ := fsub_err f1 fp (by grind)
  have am := ab_le.1 (show ab (val (circm x y n) - (val (fsub x y) - 360 * (z : Rat))) ≤ 1 / 10000000000 by rw [← vp]; unfold circm; grind)
  have fm' : Fin (circm x y n) := fm
  have hr0 : ab (val 4645040803167600640 - val (circm x y n)) ≤ 1000 := by
    rw [w360.2]
    have h0 := ab_le.1 hm0
    rw [vp] at h0
    exact ab_le.2 ⟨by grind, by grind⟩
  obtain ⟨fr, er⟩ := fsub_err w360.1 fm' (by grind)
  have ar := ab_le.1 (show ab (val (fsub 4645040803167600640 (circm x y n)) - (360 - val (circm x y n))) ≤ 1 / 1000000000000 by rw [← w360.2]; grind)
  obtain ⟨ho, _, _⟩ := order_fin fr fm'
  have hc : Fin (circ x y n) := by unfold circ; split; exact fr; exact fm'
  refine ⟨⟨f1, f2, qb, fi, ff, fp, fm', fr, hc⟩, ?_⟩
  unfold circ
  rw [ho]
  rcases hzk with h | h
  · rw [h] at am
    rw [if_neg (by simp only [decide_eq_true_iff]; grind)]
    grind
  · rw [h, Rat.intCast_sub] at am z2
    have h1 : ((1 : Int) : Rat) = 1 := rfl
    rw [h1] at am z2
    rw [if_pos (by simp only [decide_eq_true_iff]; grind)]
    grind
end Go.Proofs.Ythhoalfilmlhaaa.Fl
