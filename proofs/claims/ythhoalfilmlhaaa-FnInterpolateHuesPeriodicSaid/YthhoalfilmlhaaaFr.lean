/-
  More of the theory of float64 words, in plain Lean (on top of YthhoalfilmlhaaaFl). No conditions of the program are used here.
-/
import Derived.Test.YthhoalfilmlhaaaFq
namespace Go.Proofs.Ythhoalfilmlhaaa.Fl
open Ieee

theorem circ_gen {x y : Nat} {n : Int} (hx : Fin x) (hy : Fin y) (bx : ab (val x) ≤ 20000000) (by' : ab (val y) ≤ 20000000)
    (hn : (double.read (fdiv (fsub x y) 4645040803167600640)).toInt .zero = some n) :
    CircOk x y n ∧ ∃ z : Int, -(1 / 10000000) ≤ val x - val y - 360 * (z : Rat) ∧ val x - val y - 360 * (z : Rat) ≤ 360 + 1 / 10000000 ∧
      ((ab (val (circ x y n) - (val x - val y - 360 * (z : Rat))) ≤ 1 / 10000000 ∧ val x - val y - 360 * (z : Rat) ≤ 180 + 1 / 10000000) ∨
       (ab (val (circ x y n) - (360 - (val x - val y - 360 * (z : Rat)))) ≤ 1 / 10000000 ∧ 180 - 1 / 10000000 ≤ val x - val y - 360 * (z : Rat))) := by
  have hB := BIG_big
  have hU := U_tiny
  obtain ⟨f1, e1, f2, e2, hd⟩ := circ_pre hx hy bx by'
  have qb : ab (val (fdiv (fsub x y) 4645040803167600640)) ≤ 1000000000000 := by
    have h1 := ab_le.1 e2
    have h2 := ab_le.1 hd
    exact ab_le.2 ⟨by grind, by grind⟩
  obtain ⟨fi, ff, z, vz, z1, z2, zN⟩ := zfl_spec f2 qb hn
  have a1 := ab_le.1 e1
  have a2 := ab_le.1 e2
  have a4 := ab_le.1 hd
  have zb : z.natAbs ≤ 200000 := by
    have l1 : (z : Rat) < ((200000 : Int) : Rat) := by
      have : ((200000 : Int) : Rat) = 200000 := rfl
      grind
    have l2 : ((-200000 : Int) : Rat) < (z : Rat) := by
      have : ((-200000 : Int) : Rat) = -200000 := rfl
      grind
    have := Rat.intCast_lt_intCast.1 l1
    have := Rat.intCast_lt_intCast.1 l2
    omega
  have hp : IsRd ((360 * z : Int) : Rat) (fmul 4645040803167600640 (zfl (fdiv (fsub x y) 4645040803167600640) n)) := by
    have := (fmul_ok w360.1 ff).2
    rw [w360.2, vz] at this
    rw [Rat.intCast_mul]; exact this
  obtain ⟨fp, vp⟩ := exact_int hp (z := 360 * z) (by omega) rfl
  rw [Rat.intCast_mul] at vp
  have h360 : ((360 : Int) : Rat) = 360 := rfl
  rw [h360] at vp
  have hm0 : ab (val (fsub x y) - val (fmul 4645040803167600640 (zfl (fdiv (fsub x y) 4645040803167600640) n))) ≤ 400 := by
    rw [vp]
    exact ab_le.2 ⟨by grind, by grind⟩
  obtain ⟨fm, em⟩ := fsub_err f1 fp (by grind)
  have am := ab_le.1 (show ab (val (circm x y n) - (val (fsub x y) - 360 * (z : Rat))) ≤ 1 / 10000000000 by rw [← vp]; unfold circm; grind)
  have fm' : Fin (circm x y n) := fm
  have hr0 : ab (val 4645040803167600640 - val (circm x y n)) ≤ 1000 := by
    rw [w360.2]
    have h0 := ab_le.1 hm0
    rw [vp] at h0
    exact ab_le.2 ⟨by grind, by grind⟩
  obtain ⟨fr, er⟩ := fsub_err w360.1 fm' (by grind)
  have ar := ab_le.1 (show ab (val (fsub 4645040803167600640 (circm x y n)) - (360 - val (circm x y n))) ≤ 1 / 1000000000000 by rw [← w360.2]; grind)
  obtain ⟨ho, _, _⟩ := order_fin fr fm'
  have hc : Fin (circ x y n) := by unfold circ; split; exact fr; exact fm'
  refine ⟨⟨f1, f2, qb, fi, ff, fp, fm', fr, hc⟩, z, by grind, by grind, ?_⟩
  unfold circ
  rw [ho]
  by_cases hlt : val (fsub 4645040803167600640 (circm x y n)) < val (circm x y n)
  · right
    rw [if_pos (decide_eq_true hlt)]
    exact ⟨ab_le.2 ⟨by grind, by grind⟩, by grind⟩
  · left
    rw [if_neg (by simp only [decide_eq_true_iff]; exact hlt)]
    exact ⟨ab_le.2 ⟨by grind, by grind⟩, by grind⟩
/-- far from both ties -/
theorem away_of {x y : Nat} {n : Int} (hx : Fin x) (hy : Fin y) (bx : ab (val x) ≤ 20000000) (by' : ab (val y) ≤ 20000000)
    (hn : (double.read (fdiv (fsub x y) 4645040803167600640)).toInt .zero = some n) (h0 : 1 / 2000 ≤ val (circ x y n)) (h1 : 1 / 2000 ≤ ab (val (circ x y n) - 180)) : Away ((val y - val x) / 360) := by
  obtain ⟨_, z, z1, z2, hz⟩ := circ_gen hx hy bx by' hn
  intro k
  constructor
  · intro hk
    have hk := ab_le.1 hk
    have c : (k : Rat) = -(z : Rat) ∨ (k : Rat) = -(z : Rat) - 1 := by
      have l1 : (((-z : Int)) : Rat) - 2 < (k : Rat) := by rw [Rat.intCast_neg]; grind
      have l2 : (k : Rat) < (((-z + 1 : Int)) : Rat) := by rw [Rat.intCast_add, Rat.intCast_neg]; have : ((1 : Int) : Rat) = 1 := rfl; grind
      have l1' : ((-z - 2 : Int) : Rat) < (k : Rat) := by rw [Rat.intCast_sub]; exact l1
      have q1 := Rat.intCast_lt_intCast.1 l1'
      have q2 := Rat.intCast_lt_intCast.1 l2
      by_cases q : k = -z
      · left; rw [q, Rat.intCast_neg]
      · right; rw [show k = -z - 1 by omega, Rat.intCast_sub, Rat.intCast_neg]; rfl
    rcases hz with ⟨hz, g⟩ | ⟨hz, g⟩ <;> have hz := ab_le.1 hz <;> rcases c with c | c <;> rw [c] at hk <;> grind
  · intro hk
    have hk := ab_le.1 hk
    have c : (k : Rat) = -(z : Rat) - 1 := by
      have l1 : (((-z : Int)) : Rat) - 2 < (k : Rat) := by rw [Rat.intCast_neg]; grind
      have l2 : (k : Rat) < ((-z : Int) : Rat) := by rw [Rat.intCast_neg]; grind
      have l1' : ((-z - 2 : Int) : Rat) < (k : Rat) := by rw [Rat.intCast_sub]; exact l1
      have q1 := Rat.intCast_lt_intCast.1 l1'
      have q2 := Rat.intCast_lt_intCast.1 l2
      rw [show k = -z - 1 by omega, Rat.intCast_sub, Rat.intCast_neg]; rfl
    rw [c] at hk
    have h2 : ab (val (circ x y n) - 180) ≤ 1 / 1000000 := by
      rcases hz with ⟨hz, g⟩ | ⟨hz, g⟩ <;> have hz := ab_le.1 hz <;> exact ab_le.2 ⟨by grind, by grind⟩
    grind
/-- a word with whole turns added -/
theorem turn_ok {a : Nat} {k : Int} (ha : Fin a) (ba : ab (val a) ≤ 1000000) (k1 : -32768 ≤ k) (k2 : k ≤ 32767) :
    Fin (floatOfInt .f64 k) ∧ Fin (fmul 4645040803167600640 (floatOfInt .f64 k)) ∧ Fin (fadd a (fmul 4645040803167600640 (floatOfInt .f64 k)))
    ∧ ab (val (fadd a (fmul 4645040803167600640 (floatOfInt .f64 k)))) ≤ 14000000 ∧ ab (val (fadd a (fmul 4645040803167600640 (floatOfInt .f64 k))) - (val a + 360 * (k : Rat))) ≤ 1 / 500000000 := by
  have hB := BIG_big
  obtain ⟨f0, v0⟩ := exact_int (floatOfInt_rd k) (by omega) rfl
  have hp : IsRd ((360 * k : Int) : Rat) (fmul 4645040803167600640 (floatOfInt .f64 k)) := by
    have := (fmul_ok w360.1 f0).2
    rw [w360.2, v0] at this
    rw [Rat.intCast_mul]; exact this
  obtain ⟨fp, vp⟩ := exact_int hp (z := 360 * k) (by omega) rfl
  rw [Rat.intCast_mul] at vp
  have h360 : ((360 : Int) : Rat) = 360 := rfl
  rw [h360] at vp
  have q1 : ((-32768 : Int) : Rat) ≤ (k : Rat) := Rat.intCast_le_intCast.2 k1
  have q2 : (k : Rat) ≤ ((32767 : Int) : Rat) := Rat.intCast_le_intCast.2 k2
  have r1 : ((-32768 : Int) : Rat) = -32768 := rfl
  have r2 : ((32767 : Int) : Rat) = 32767 := rfl
  have a1 := ab_le.1 ba
  have h1 : ab (val a + val (fmul 4645040803167600640 (floatOfInt .f64 k))) ≤ 13000000 := by
    rw [vp]; exact ab_le.2 ⟨by grind, by grind⟩
  obtain ⟨f, e⟩ := fadd_err ha fp (by grind)
  have s := size_of e
  rw [vp] at e h1
  rw [vp] at s
  exact ⟨f0, fp, f, by grind, by grind⟩
/-- the chosen fraction of a turn -/
structure Ch (a A : Nat) (s : Int) : Prop where
  f : Fin A
  b : ab (val A) ≤ 3
  n : ab (val A - (val a / 360 - (s : Rat))) ≤ 1 / 90000000000
theorem Tn.low {a : Nat} {k : Int} (h : Tn a k) : Ch a (fr a) k := by
  have h1 := h.lo
  have h2 := h.hi
  have h3 := h.nr
  exact ⟨h.f, ab_le.2 ⟨by grind, by grind⟩, by grind⟩
theorem Tn.high {a : Nat} {k : Int} (h : Tn a k) : Ch a (fadd (fr a) 4607182418800017408) (k - 1) := by
  have h1 := h.lo
  have h2 := h.hi
  have h3 := ab_le.1 h.nr
  have h4 := ab_le.1 h.un
  have one : ((1 : Int) : Rat) = 1 := rfl
  refine ⟨h.u, ab_le.2 ⟨by grind, by grind⟩, ?_⟩
  rw [Rat.intCast_sub, one]
  exact ab_le.2 ⟨by grind, by grind⟩
theorem Tn.ch {a : Nat} {k : Int} (h : Tn a k) (c : Bool) : ∃ s, Ch a (if c = true then fadd (fr a) 4607182418800017408 else fr a) s := by
  cases c
  · exact ⟨_, h.low⟩
  · exact ⟨_, h.high⟩
/-- hues on equal arcs agree but for whole turns -/
theorem per {a b a2 b2 A B A2 B2 t : Nat} {k j s1 s2 s3 s4 m : Int} (hA : Ch a A s1) (hB : Ch b B s2) (hA2 : Ch a2 A2 s3) (hB2 : Ch b2 B2 s4) (ht : Fin t) (bt : ab (val t) ≤ 1)
    (ea : ab (val a2 - (val a + 360 * (k : Rat))) ≤ 1 / 500000000) (eb : ab (val b2 - (val b + 360 * (j : Rat))) ≤ 1 / 500000000)
    (aw : Away ((val b - val a) / 360)) (c : Arc m (val B - val A)) (c2 : Arc m (val B2 - val A2)) :
    Fin (fmul (lerp A B t) 4645040803167600640) ∧ Fin (fmul (lerp A2 B2 t) 4645040803167600640) ∧ ab (val (fmul (lerp A B t) 4645040803167600640)) ≤ 20000000 ∧ ab (val (fmul (lerp A2 B2 t) 4645040803167600640)) ≤ 20000000
    ∧ ∃ K : Int, ab (val (fmul (lerp A B t) 4645040803167600640) - val (fmul (lerp A2 B2 t) 4645040803167600640) - 360 * (K : Rat)) ≤ 1 / 10000000 := by
  obtain ⟨f1, e1⟩ := hue_val hA.f hB.f ht hA.b hB.b bt
  obtain ⟨f2, e2⟩ := hue_val hA2.f hB2.f ht hA2.b hB2.b bt
  have n1 := ab_le.1 hA.n
  have n2 := ab_le.1 hB.n
  have n3 := ab_le.1 hA2.n
  have n4 := ab_le.1 hB2.n
  have ea := ab_le.1 ea
  have eb := ab_le.1 eb
  have d := arc_eq (n := s2 - s1) (n' := s4 - j - (s3 - k)) aw c c2 (by rw [Rat.intCast_sub]; exact ab_le.2 ⟨by grind, by grind⟩) (by rw [Rat.intCast_sub, Rat.intCast_sub, Rat.intCast_sub]; exact ab_le.2 ⟨by grind, by grind⟩)
  have dt : ab ((val B - val A - (val B2 - val A2)) * val t) ≤ 1 / 10000000000 := by
    rw [ab_mul]
    have := Rat.mul_le_mul_of_nonneg_left bt (ab_nonneg (val B - val A - (val B2 - val A2)))
    grind
  have x1 : (val B - val A - (val B2 - val A2)) * val t = (val B - val A) * val t - (val B2 - val A2) * val t := by grind
  rw [x1] at dt
  have dt := ab_le.1 dt
  have y1 : ab ((val B - val A) * val t) ≤ 6 := by
    rw [ab_mul]
    have h1 := ab_le.1 hA.b
    have h2 := ab_le.1 hB.b
    have h3 : ab (val B - val A) ≤ 6 := ab_le.2 ⟨by grind, by grind⟩
    have := Rat.mul_le_mul_of_nonneg_left bt (ab_nonneg (val B - val A))
    grind
  have y1 := ab_le.1 y1
  have b1 := ab_le.1 hA.b
  have b3 := ab_le.1 hA2.b
  have e1 := ab_le.1 e1
  have e2 := ab_le.1 e2
  generalize (val B - val A) * val t = X at *
  generalize (val B2 - val A2) * val t = Y at *
  refine ⟨f1, f2, ab_le.2 ⟨by grind, by grind⟩, ab_le.2 ⟨by grind, by grind⟩, s3 - k - s1, ?_⟩
  rw [Rat.intCast_sub, Rat.intCast_sub]
  exact ab_le.2 ⟨by grind, by grind⟩
end Go.Proofs.Ythhoalfilmlhaaa.Fl
