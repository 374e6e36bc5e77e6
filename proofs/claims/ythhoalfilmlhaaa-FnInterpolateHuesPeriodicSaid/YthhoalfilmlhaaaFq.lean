/-
  More of the theory of float64 words, in plain Lean (on top of YthhoalfilmlhaaaFl). No conditions of the program are used here.
-/
import Derived.Test.YthhoalfilmlhaaaFk
namespace Go.Proofs.Ythhoalfilmlhaaa.Fl
open Ieee

/-! ### hues that differ by whole turns -/
def fr (a : Nat) : Nat := fsub (fdiv a 4645040803167600640) (ffloor (fdiv a 4645040803167600640))
/-- the fraction of a turn that a word stands for, within 1e-11 -/
structure Tn (a : Nat) (k : Int) : Prop where
  q : Fin (fdiv a 4645040803167600640)
  l : Fin (ffloor (fdiv a 4645040803167600640))
  f : Fin (fr a)
  u : Fin (fadd (fr a) 4607182418800017408)
  lo : 0 ≤ val (fr a)
  hi : val (fr a) ≤ 1 + 1 / 10000000000000
  nr : ab (val (fr a) - (val a / 360 - (k : Rat))) ≤ 1 / 100000000000
  un : ab (val (fadd (fr a) 4607182418800017408) - (val (fr a) + 1)) ≤ 1 / 10000000000000
theorem tn_ok {a : Nat} (ha : Fin a) (ba : ab (val a) ≤ 14000000) : ∃ k, Tn a k := by
  have hB := BIG_big
  have hU := U_tiny
  have a0 := ab_le.1 ba
  have h1 : ab (val a / val 4645040803167600640) ≤ 40000 := by
    rw [w360.2]
    exact ab_le.2 ⟨by grind, by grind⟩
  obtain ⟨f1, e1⟩ := fdiv_err ha w360.1 (by rw [w360.2]; decide) (by grind)
  rw [w360.2] at e1 h1
  have s1 := size_of e1
  obtain ⟨z, f2, v2, z1, z2, zN⟩ := ffloor_spec f1 (by grind)
  have n3 : ab (val (fdiv a 4645040803167600640) - val (ffloor (fdiv a 4645040803167600640))) = val (fdiv a 4645040803167600640) - (z : Rat) := by
    rw [v2]; exact ab_of_nonneg (by grind)
  obtain ⟨f3, e3⟩ := fsub_err f1 f2 (by rw [n3]; grind)
  rw [n3, v2] at e3
  have b3 := ab_le.1 e3
  have f3' : Fin (fr a) := f3
  have b3' : -((val (fdiv a 4645040803167600640) - (z : Rat)) / 9007199254740992) ≤ val (fr a) - (val (fdiv a 4645040803167600640) - (z : Rat)) ∧ val (fr a) - (val (fdiv a 4645040803167600640) - (z : Rat)) ≤ (val (fdiv a 4645040803167600640) - (z : Rat)) / 9007199254740992 := b3
  clear b3 e3
  have n4 : ab (val (fr a) + val 4607182418800017408) = val (fr a) + 1 := by
    rw [w1.2]; exact ab_of_nonneg (by grind)
  obtain ⟨f4, e4⟩ := fadd_err f3' w1.1 (by rw [n4]; grind)
  rw [n4, w1.2] at e4
  have b1 := ab_le.1 e1
  refine ⟨z, f1, f2, f3', f4, by grind, by grind, ?_, by grind⟩
  exact ab_le.2 ⟨by grind, by grind⟩
/-- the arc that a method takes -/
def Arc (m : Int) (D : Rat) : Prop :=
  if m = 0 then -1 / 2 - 1 / 1000000000000 ≤ D ∧ D ≤ 1 / 2 + 1 / 1000000000000
  else if m = 1 then (-1 - 1 / 1000000000000 ≤ D ∧ D ≤ -1 / 2 + 1 / 1000000000000) ∨ (1 / 2 - 1 / 1000000000000 ≤ D ∧ D ≤ 1 + 1 / 1000000000000)
  else if m = 2 then -1 / 1000000000000 ≤ D ∧ D ≤ 1 + 1 / 1000000000000
  else -1 - 1 / 1000000000000 ≤ D ∧ D ≤ 1 / 1000000000000
/-- no tie: no whole and no half number near -/
def Away (δ : Rat) : Prop := ∀ n : Int, ¬ ab (δ - (n : Rat)) ≤ 1 / 4000000000 ∧ ¬ ab (δ - (n : Rat) - 1 / 2) ≤ 1 / 4000000000
theorem away_i {δ : Rat} (h : Away δ) (n : Int) : ¬ (-(1 / 4000000000) ≤ δ - (n : Rat) ∧ δ - (n : Rat) ≤ 1 / 4000000000) := fun g => (h n).1 (ab_le.2 g)
theorem away_h {δ : Rat} (h : Away δ) (n : Int) : ¬ (-(1 / 4000000000) ≤ δ - (n : Rat) - 1 / 2 ∧ δ - (n : Rat) - 1 / 2 ≤ 1 / 4000000000) := fun g => (h n).2 (ab_le.2 g)
theorem arc_lt {m : Int} {δ D D' : Rat} {n n' : Int} (h : Away δ) (a : Arc m D) (a' : Arc m D') (e : ab (D - (δ - (n : Rat))) ≤ 1 / 20000000000) (e' : ab (D' - (δ - (n' : Rat))) ≤ 1 / 20000000000) : ¬ n' < n := by
  intro hlt
  have e1 := ab_le.1 e
  have e2 := ab_le.1 e'
  have i1 := away_i h n
  have i2 := away_i h n'
  have i3 := away_i h (n' + 1)
  have h1 := away_h h n
  have h2 := away_h h n'
  have h3 := away_h h (n - 1)
  have h4 := away_i h (n - 1)
  rw [Rat.intCast_add] at i3
  rw [Rat.intCast_sub] at h3 h4
  have one : ((1 : Int) : Rat) = 1 := rfl
  rw [one] at i3 h3 h4
  have c : (n : Rat) = (n' : Rat) + 1 ∨ (n : Rat) = (n' : Rat) + 2 ∨ (n' : Rat) + 3 ≤ (n : Rat) := by
    by_cases q : n = n' + 1
    · left; rw [q, Rat.intCast_add]; rfl
    · by_cases q2 : n = n' + 2
      · right; left; rw [q2, Rat.intCast_add]; rfl
      · right; right
        have := Rat.intCast_le_intCast.2 (show n' + 3 ≤ n by omega)
        rw [Rat.intCast_add] at this
        exact this
  unfold Arc at a a'
  clear e e' h
  generalize (n : Rat) = p at *
  generalize (n' : Rat) = p' at *
  by_cases m0 : m = 0
  · rw [if_pos m0] at a a'
    rcases c with c | c | c <;> grind
  · rw [if_neg m0] at a a'
    by_cases m1 : m = 1
    · rw [if_pos m1] at a a'
      rcases c with c | c | c <;> rcases a with a | a <;> rcases a' with a' | a' <;> grind
    · rw [if_neg m1] at a a'
      by_cases m2 : m = 2
      · rw [if_pos m2] at a a'
        rcases c with c | c | c <;> grind
      · rw [if_neg m2] at a a'
        rcases c with c | c | c <;> grind
theorem arc_eq {m : Int} {δ D D' : Rat} {n n' : Int} (h : Away δ) (a : Arc m D) (a' : Arc m D') (e : ab (D - (δ - (n : Rat))) ≤ 1 / 20000000000) (e' : ab (D' - (δ - (n' : Rat))) ≤ 1 / 20000000000) : ab (D - D') ≤ 1 / 10000000000 := by
  have k1 := arc_lt h a a' e e'
  have k2 := arc_lt h a' a e' e
  have k : n = n' := by omega
  subst k
  have e1 := ab_le.1 e
  have e2 := ab_le.1 e'
  exact ab_le.2 ⟨by grind, by grind⟩
/-- the hue of the arc -/
theorem hue_val {A B t : Nat} (hA : Fin A) (hB : Fin B) (ht : Fin t) (bA : ab (val A) ≤ 3) (bB : ab (val B) ≤ 3) (bt : ab (val t) ≤ 1) :
    Fin (fmul (lerp A B t) 4645040803167600640) ∧ ab (val (fmul (lerp A B t) 4645040803167600640) - 360 * ((val B - val A) * val t + val A)) ≤ 1 / 100000000000 := by
  have hBIG := BIG_big
  have hU := U_tiny
  have a1 := ab_le.1 bA
  have a2 := ab_le.1 bB
  have h1 : ab (val B - val A) ≤ 6 := ab_le.2 ⟨by grind, by grind⟩
  obtain ⟨f1, e1⟩ := fsub_err hB hA (by grind)
  have s1 : ab (val (fsub B A)) ≤ 7 := by have := size_of e1; grind
  have h2 : ab (val (fsub B A) * val t) ≤ 7 := by
    rw [ab_mul]
    have := Rat.mul_le_mul_of_nonneg_left bt (ab_nonneg (val (fsub B A)))
    grind
  obtain ⟨f2, e2⟩ := fmul_err f1 ht (by grind)
  have s2 : ab (val (fmul (fsub B A) t)) ≤ 8 := by have := size_of e2; grind
  have h3 : ab (val (fmul (fsub B A) t) + val A) ≤ 11 := by have := ab_add (val (fmul (fsub B A) t)) (val A); grind
  obtain ⟨f3, e3⟩ := fadd_err f2 hA (by grind)
  have e3' : ab (val (lerp A B t) - (val (fmul (fsub B A) t) + val A)) ≤ ab (val (fmul (fsub B A) t) + val A) / 9007199254740992 := e3
  have f3' : Fin (lerp A B t) := f3
  clear e3 f3
  have s3 : ab (val (lerp A B t)) ≤ 12 := by have := size_of e3'; grind
  have h4 : ab (val (lerp A B t) * val 4645040803167600640) ≤ 5000 := by
    rw [w360.2]
    have := ab_le.1 s3
    exact ab_le.2 ⟨by grind, by grind⟩
  obtain ⟨f4, e4⟩ := fmul_err f3' w360.1 (by grind)
  refine ⟨f4, ?_⟩
  rw [w360.2] at e4 h4
  -- (B ⊖ A) t against (B - A) t
  have h5 : ab ((val (fsub B A) - (val B - val A)) * val t) ≤ 1 / 1000000000000000 := by
    rw [ab_mul]
    have := Rat.mul_le_mul_of_nonneg_left bt (ab_nonneg (val (fsub B A) - (val B - val A)))
    grind
  have c1 := ab_le.1 h5
  have c2 := ab_le.1 (show ab (val (fmul (fsub B A) t) - val (fsub B A) * val t) ≤ 1 / 1000000000000000 by grind)
  have c3 := ab_le.1 (show ab (val (lerp A B t) - (val (fmul (fsub B A) t) + val A)) ≤ 2 / 1000000000000000 by grind)
  have c4 := ab_le.1 (show ab (val (fmul (lerp A B t) 4645040803167600640) - val (lerp A B t) * 360) ≤ 1 / 1000000000000 by grind)
  have x1 : (val (fsub B A) - (val B - val A)) * val t = val (fsub B A) * val t - (val B - val A) * val t := by grind
  rw [x1] at c1
  generalize val (fsub B A) * val t = X at *
  generalize (val B - val A) * val t = Y at *
  exact ab_le.2 ⟨by grind, by grind⟩
end Go.Proofs.Ythhoalfilmlhaaa.Fl
