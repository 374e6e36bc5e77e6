/-
  More of the theory of float64 words, in plain Lean (on top of YthhoalfilmlhaaaFl). No conditions of the program are used here.
-/
import Derived.Test.YthhoalfilmlhaaaFl
namespace Go.Proofs.Ythhoalfilmlhaaa.Fl
open Ieee

/-! ### whole parts -/
theorem mul_p2 (m a b c : Nat) (h : a + b = c) : m * 2 ^ a * 2 ^ b = m * p2 c := by
  subst h
  unfold p2
  rw [Nat.mul_assoc, Nat.pow_add]
/-- a whole number below 2^53 is a word's value -/
theorem int_word (m : Nat) (hm : m < 9007199254740992) : ∃ x, Fin x ∧ val x = (m : Rat) := by
  by_cases h0 : m = 0
  · subst h0; exact ⟨0, fin_zero, by rw [val_zero]; rfl⟩
  · have hl : m.log2 < 53 := (Nat.log2_lt h0).2 (by simpa using hm)
    have h1 := Nat.log2_self_le h0
    have h2 : m < 2 ^ (m.log2 + 1) := Nat.lt_log2_self
    obtain ⟨j, hj⟩ : ∃ j, m.log2 + j = 52 := ⟨52 - m.log2, by omega⟩
    have e1 : 2 ^ m.log2 * 2 ^ j = 4503599627370496 := by rw [← Nat.pow_add, hj]
    have e2 : 2 ^ (m.log2 + 1) * 2 ^ j = 9007199254740992 := by rw [← Nat.pow_add, show m.log2 + 1 + j = 53 by omega]
    have l1 : 4503599627370496 ≤ m * 2 ^ j := by rw [← e1]; exact Nat.mul_le_mul_right _ h1
    have l2 : m * 2 ^ j < 9007199254740992 := by rw [← e2]; exact (Nat.mul_lt_mul_right (Nat.two_pow_pos j)).2 h2
    have hmg := mg_at (1074 - j) (m * 2 ^ j) (.inr l1) (by omega)
    have hk : (1074 - j) * 4503599627370496 + m * 2 ^ j < 9218868437227405312 := by omega
    obtain ⟨f, _, _⟩ := wd_fin (s := false) hk
    refine ⟨_, f, ?_⟩
    rw [val_wd hk, hmg]
    simp only [Bool.false_eq_true, if_false]
    have e3 : m * 2 ^ j * 2 ^ (1074 - j) = m * p2 1074 := mul_p2 m j (1074 - j) 1074 (by omega)
    rw [e3, Rat.natCast_mul]
    have e4 : ((p2 1074 : Nat) : Rat) * U = 1 := by
      rw [← pow_p2]
      exact VU
    rw [Rat.mul_assoc, e4]; grind
theorem int_word' (z : Int) (hz : z.natAbs < 9007199254740992) : ∃ x, Fin x ∧ val x = (z : Rat) := by
  obtain ⟨x, hx, hv⟩ := int_word z.natAbs hz
  rcases Int.natAbs_eq z with h | h
  · refine ⟨x, hx, ?_⟩
    rw [hv, h, Rat.intCast_natCast]
    simp
  · refine ⟨fneg x, fin_neg.2 hx, ?_⟩
    rw [val_neg, hv]
    conv => rhs; rw [h]
    rw [Rat.intCast_neg, Rat.intCast_natCast]
theorem exact_int {q : Rat} {r : Nat} {z : Int} (h : IsRd q r) (hz : z.natAbs < 9007199254740992) (e : q = (z : Rat)) : Fin r ∧ val r = (z : Rat) := by
  obtain ⟨x, hx, hv⟩ := int_word' z hz
  obtain ⟨a, b⟩ := h.exact hx (by rw [e, hv])
  exact ⟨a, by rw [b, e]⟩
theorem cut_gap (n d : Nat) : n / (1 <<< min d (n.log2 + 2)) = n / 2 ^ d ∧ n % (1 <<< min d (n.log2 + 2)) = n % 2 ^ d := by
  rw [Nat.one_shiftLeft]
  by_cases h : d ≤ n.log2 + 2
  · rw [Nat.min_eq_left h]; exact ⟨rfl, rfl⟩
  · have h1 : n < 2 ^ (n.log2 + 1) := Nat.lt_log2_self
    have h2 : 2 ^ (n.log2 + 1) ≤ 2 ^ (n.log2 + 2) := Nat.pow_le_pow_right (by omega) (by omega)
    have h3 : 2 ^ (n.log2 + 1) ≤ 2 ^ d := Nat.pow_le_pow_right (by omega) (by omega)
    rw [Nat.min_eq_right (by omega), Nat.div_eq_of_lt (by omega), Nat.div_eq_of_lt (by omega), Nat.mod_eq_of_lt (by omega), Nat.mod_eq_of_lt (by omega)]
    exact ⟨rfl, rfl⟩
theorem cut_down (s : Bool) (n d : Nat) : Toward.cut .down s n d = n / 2 ^ d + (if s = true ∧ n % 2 ^ d ≠ 0 then 1 else 0) := by
  obtain ⟨h1, h2⟩ := cut_gap n d
  unfold Toward.cut
  simp only [h1, h2]
  cases s <;> by_cases h : n % 2 ^ d = 0 <;> simp [h]
theorem cut_zero (s : Bool) (n d : Nat) : Toward.cut .zero s n d = n / 2 ^ d := by
  obtain ⟨h1, _⟩ := cut_gap n d
  unfold Toward.cut
  simp only [h1]
  simp
/-- a finite word's size as a fraction -/
theorem parts {x : Nat} (hx : Fin x) : ∃ (m : Nat) (i : Int), double.read x = .number (ng x) m i ∧ ab (val x) * ((2 ^ (-i).toNat : Nat) : Rat) = ((m <<< i.toNat : Nat) : Rat) ∧ val x = if ng x then -ab (val x) else ab (val x) := by
  obtain ⟨m, i, e, _, _, hm, _, _⟩ := read_fin x hx
  have hval : val x = if ng x then -(m : Rat) * (2 : Rat) ^ i else (m : Rat) * (2 : Rat) ^ i := val_read hm
  have hp : (0 : Rat) ≤ (m : Rat) * (2 : Rat) ^ i := Rat.mul_nonneg Rat.natCast_nonneg (Rat.le_of_lt (Rat.zpow_pos (by decide)))
  have h1 : ab (val x) = (m : Rat) * (2 : Rat) ^ i := by
    rw [hval]
    cases ng x
    · simp only [Bool.false_eq_true, if_false]; exact ab_of_nonneg hp
    · simp only [if_true]
      rw [show -(m : Rat) * (2 : Rat) ^ i = -((m : Rat) * (2 : Rat) ^ i) by grind, ab_neg]
      exact ab_of_nonneg hp
  refine ⟨m, i, e, ?_, ?_⟩
  · rw [h1, Nat.shiftLeft_eq]
    by_cases hi : 0 ≤ i
    · rw [show (-i).toNat = 0 by omega, Rat.natCast_mul, ← pow_nat i.toNat, Int.toNat_of_nonneg hi]
      simp
    · rw [show i.toNat = 0 by omega, ← pow_nat (-i).toNat, Int.toNat_of_nonneg (by omega), Rat.mul_assoc, ← pow_add', show i + -i = 0 by omega, Rat.zpow_zero]
      simp
  · rw [h1, hval]
    cases ng x
    · simp
    · simp only [if_true]; grind
theorem frac_bounds {v : Rat} {M P : Nat} (hP : 0 < P) (h : v * (P : Rat) = (M : Rat)) : ((M / P : Nat) : Rat) ≤ v ∧ v < ((M / P : Nat) : Rat) + 1 ∧ (M % P = 0 → v = ((M / P : Nat) : Rat)) := by
  have hp : (0 : Rat) < (P : Rat) := Rat.natCast_pos.2 hP
  have hd : M = P * (M / P) + M % P := (Nat.div_add_mod M P).symm
  have hr : M % P < P := Nat.mod_lt _ hP
  have hM : v * (P : Rat) = (P : Rat) * ((M / P : Nat) : Rat) + ((M % P : Nat) : Rat) := by
    rw [h, ← Rat.natCast_mul, ← Rat.natCast_add, ← hd]
  generalize M / P = Q at *
  generalize M % P = R at *
  have hr0 : (0 : Rat) ≤ (R : Rat) := Rat.natCast_nonneg
  have hrP : (R : Rat) < (P : Rat) := Rat.natCast_lt_natCast.2 hr
  have hz0 : R = 0 → (R : Rat) = 0 := fun h => by rw [h]; rfl
  generalize (R : Rat) = r at *
  generalize (Q : Rat) = q at *
  generalize (P : Rat) = p at *
  have e : (v - q) * p = r := by grind
  refine ⟨?_, ?_, ?_⟩
  · refine Rat.not_lt.1 fun hlt => ?_
    have : (q - v) * p > 0 := Rat.mul_pos (by grind) hp
    grind
  · refine Rat.not_le.1 fun hle => ?_
    have : 0 ≤ (v - q - 1) * p := Rat.mul_nonneg (by grind) (by grind)
    grind
  · intro h0
    have e2 : (v - q) * p = 0 := by rw [e]; exact hz0 h0
    rcases Rat.mul_eq_zero.1 e2 with h | h <;> grind
/-- a word's floor -/
def ffloor (x : Nat) : Nat := double.write ((double.read x).integral .down)
theorem ffloor_spec {x : Nat} (hx : Fin x) (hb : ab (val x) ≤ 4503599627370496) : ∃ z : Int, Fin (ffloor x) ∧ val (ffloor x) = (z : Rat) ∧ (z : Rat) ≤ val x ∧ val x < (z : Rat) + 1 ∧ z.natAbs < 9007199254740992 := by
  obtain ⟨m, i, e, hab, hv⟩ := parts hx
  obtain ⟨h1, h2, h3⟩ := frac_bounds (Nat.two_pow_pos _) hab
  have he : ffloor x = double.write (.number (ng x) (Toward.cut .down (ng x) (m <<< i.toNat) (-i).toNat) 0) := by
    unfold ffloor
    rw [e]
    rfl
  rw [cut_down] at he
  generalize m <<< i.toNat = M at *
  generalize 2 ^ (-i).toNat = P at *
  generalize M / P = Q at *
  have hQ : Q ≤ 4503599627370496 := by
    have : ((Q : Nat) : Rat) ≤ ((4503599627370496 : Nat) : Rat) := by grind
    exact Rat.natCast_le_natCast.1 this
  have hQr : (0 : Rat) ≤ (Q : Rat) := Rat.natCast_nonneg
  cases hn : ng x
  · rw [hn] at he hv
    simp only [Bool.false_eq_true, false_and, if_false, Nat.add_zero] at he hv
    have hrd : IsRd ((Q : Int) : Rat) (ffloor x) := by
      rw [he]
      exact rd_of_int ((Q : Int) : Rat) (Q : Int) 0 false (by rw [Rat.zpow_zero]; grind) (fun _ => by symm; rw [decide_eq_false_iff_not]; omega)
    obtain ⟨f1, f2⟩ := exact_int hrd (z := (Q : Int)) (by omega) rfl
    exact ⟨Q, f1, f2, by rw [Rat.intCast_natCast]; grind, by rw [Rat.intCast_natCast]; grind, by omega⟩
  · rw [hn] at he hv
    simp only [true_and, if_true] at he hv
    by_cases h0 : M % P = 0
    · simp only [h0, ne_eq, not_true, if_false, Nat.add_zero] at he
      have hrd : IsRd ((-(Q : Int) : Int) : Rat) (ffloor x) := by
        rw [he]
        have := rd_of_int ((-(Q : Int) : Int) : Rat) (-(Q : Int)) 0 true (by rw [Rat.zpow_zero]; grind) (fun h => by symm; rw [decide_eq_true_iff]; omega)
        rw [Int.natAbs_neg, Int.natAbs_natCast] at this
        exact this
      obtain ⟨f1, f2⟩ := exact_int hrd (z := -(Q : Int)) (by omega) rfl
      have := h3 h0
      refine ⟨-(Q : Int), f1, f2, ?_, ?_, by omega⟩ <;> (rw [Rat.intCast_neg, Rat.intCast_natCast]; grind)
    · simp only [h0, ne_eq, not_false_eq_true, if_true] at he
      have hrd : IsRd ((-((Q + 1 : Nat) : Int) : Int) : Rat) (ffloor x) := by
        rw [he]
        have := rd_of_int ((-((Q + 1 : Nat) : Int) : Int) : Rat) (-((Q + 1 : Nat) : Int)) 0 true (by rw [Rat.zpow_zero]; grind) (fun h => by symm; rw [decide_eq_true_iff]; omega)
        rw [Int.natAbs_neg, Int.natAbs_natCast] at this
        exact this
      obtain ⟨f1, f2⟩ := exact_int hrd (z := -((Q + 1 : Nat) : Int)) (by omega) rfl
      have hq1 : ((Q + 1 : Nat) : Rat) = (Q : Rat) + 1 := by rw [Rat.natCast_add]; rfl
      have hne : ab (val x) ≠ (Q : Rat) := by
        intro h
        rw [h] at hab
        rw [← Rat.natCast_mul] at hab
        have := Rat.natCast_inj.1 hab
        exact h0 (by rw [← this]; exact Nat.mul_mod_left _ _)
      refine ⟨-((Q + 1 : Nat) : Int), f1, f2, ?_, ?_, by omega⟩ <;> (rw [Rat.intCast_neg, Rat.intCast_natCast, hq1]; grind)
/-- a word cut towards zero -/
theorem trunc_spec {x : Nat} (hx : Fin x) (hb : ab (val x) ≤ 4503599627370496) : ∃ n : Int, (double.read x).toInt .zero = some n ∧ n.natAbs ≤ 4503599627370496 ∧ (0 ≤ val x → (n : Rat) ≤ val x ∧ val x < (n : Rat) + 1) ∧ (val x ≤ 0 → (n : Rat) - 1 < val x ∧ val x ≤ (n : Rat)) := by
  obtain ⟨m, i, e, hab, hv⟩ := parts hx
  obtain ⟨h1, h2, h3⟩ := frac_bounds (Nat.two_pow_pos _) hab
  have he : (double.read x).toInt .zero = some (signed (ng x) (Toward.cut .zero (ng x) (m <<< i.toNat) (-i).toNat) 0) := by
    rw [e]
    rfl
  rw [cut_zero] at he
  generalize m <<< i.toNat = M at *
  generalize 2 ^ (-i).toNat = P at *
  generalize M / P = Q at *
  have hQ : Q ≤ 4503599627370496 := by
    have : ((Q : Nat) : Rat) ≤ ((4503599627370496 : Nat) : Rat) := by grind
    exact Rat.natCast_le_natCast.1 this
  have hQr : (0 : Rat) ≤ (Q : Rat) := Rat.natCast_nonneg
  have ha := ab_nonneg (val x)
  cases hn : ng x
  · rw [hn] at he hv
    simp only [Bool.false_eq_true, if_false] at hv
    refine ⟨(Q : Int), by rw [he]; simp [signed], by omega, fun _ => ?_, fun h => ?_⟩ <;> rw [Rat.intCast_natCast]
    · exact ⟨by grind, by grind⟩
    · exact ⟨by grind, by grind⟩
  · rw [hn] at he hv
    simp only [if_true] at hv
    refine ⟨-(Q : Int), by rw [he]; simp [signed], by omega, fun h => ?_, fun h => ?_⟩ <;> rw [Rat.intCast_neg, Rat.intCast_natCast]
    · exact ⟨by grind, by grind⟩
    · exact ⟨by grind, by grind⟩
end Go.Proofs.Ythhoalfilmlhaaa.Fl
