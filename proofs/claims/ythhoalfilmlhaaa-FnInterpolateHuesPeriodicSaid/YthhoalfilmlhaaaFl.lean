/-
  The theory of float64 words that the laws need, in plain Lean over Ieee: what rational number a word stands for (val), that + - * / give the nearest word (IsRd), rounding errors, order. No conditions of the program are used here.
-/
import Ieee.Arith
import Derived.Laws.FloatArith
namespace Go.Proofs.Ythhoalfilmlhaaa.Fl
open Ieee

/-! ### rungs: 'mg k' is the magnitude of rung k of a double, in units of 2^-1074 -/
def ex (k : Nat) : Nat := k / 4503599627370496 - 1
def mg (k : Nat) : Nat := (if k < 4503599627370496 then k else 4503599627370496 + k % 4503599627370496) * 2 ^ ex k

theorem mg_small (k : Nat) (h : k < 4503599627370496) : mg k = k := by
  unfold mg ex
  rw [if_pos h, show k / 4503599627370496 - 1 = 0 by omega]
  simp

theorem mg_big (k : Nat) (h : 4503599627370496 ≤ k) : mg k = (4503599627370496 + k % 4503599627370496) * 2 ^ ex k := by
  unfold mg
  rw [if_neg (by omega)]

/-- 'E * 2^52 + t' with t from 2^52 on (or E = 0) up to 2^53 stands for 't * 2^E'. -/
theorem mg_at (E t : Nat) (h1 : E = 0 ∨ 4503599627370496 ≤ t) (h2 : t ≤ 9007199254740992) : mg (E * 4503599627370496 + t) = t * 2 ^ E := by
  by_cases h : t < 4503599627370496
  · obtain rfl : E = 0 := by omega
    rw [Nat.zero_mul, Nat.zero_add, mg_small t h]; simp
  · by_cases h' : t = 9007199254740992
    · subst h'
      rw [mg_big _ (by omega)]
      have e1 : ex (E * 4503599627370496 + 9007199254740992) = E + 1 := by unfold ex; omega
      have e2 : (E * 4503599627370496 + 9007199254740992) % 4503599627370496 = 0 := by omega
      rw [e1, e2, Nat.pow_succ]; omega
    · rw [mg_big _ (by omega)]
      have e1 : ex (E * 4503599627370496 + t) = E := by unfold ex; omega
      have e2 : (E * 4503599627370496 + t) % 4503599627370496 = t - 4503599627370496 := by omega
      rw [e1, e2, show 4503599627370496 + (t - 4503599627370496) = t by omega]

/-- every rung is of that form -/
theorem rung_form (k : Nat) : ∃ E t, k = E * 4503599627370496 + t ∧ (E = 0 ∨ 4503599627370496 ≤ t) ∧ t < 9007199254740992 ∧ E = ex k := by
  by_cases h : k < 4503599627370496
  · exact ⟨0, k, by omega, Or.inl rfl, by omega, by unfold ex; omega⟩
  · refine ⟨k / 4503599627370496 - 1, 4503599627370496 + k % 4503599627370496, ?_, Or.inr (by omega), by omega, rfl⟩
    have := Nat.div_add_mod k 4503599627370496
    have h2 : 1 ≤ k / 4503599627370496 := by omega
    omega

theorem mg_succ (k : Nat) : mg (k + 1) = mg k + 2 ^ ex k := by
  obtain ⟨E, t, hk, h1, h2, hE⟩ := rung_form k
  have a := mg_at E t h1 (by omega)
  have b := mg_at E (t + 1) (by omega) (by omega)
  rw [← hE]
  rw [← hk] at a
  rw [← Nat.add_assoc, ← hk] at b
  rw [a, b, Nat.add_mul, Nat.one_mul]

theorem mg_lt_succ (k : Nat) : mg k < mg (k + 1) := by
  rw [mg_succ]; have := Nat.two_pow_pos (ex k); omega

theorem mg_lt {j k : Nat} (h : j < k) : mg j < mg k := by
  induction k with
  | zero => omega
  | succ k ih =>
    by_cases e : j = k
    · subst e; exact mg_lt_succ j
    · exact Nat.lt_trans (ih (by omega)) (mg_lt_succ k)

theorem mg_le {j k : Nat} (h : j ≤ k) : mg j ≤ mg k := by
  by_cases e : j = k
  · subst e; exact Nat.le_refl _
  · exact Nat.le_of_lt (mg_lt (by omega))

theorem mg_lt_iff {j k : Nat} : mg j < mg k ↔ j < k := by
  constructor
  · intro h
    refine Nat.lt_of_not_le fun hn => ?_
    have := mg_le hn; omega
  · exact mg_lt

theorem mg_inj {j k : Nat} : mg j = mg k ↔ j = k := by
  constructor
  · intro h
    by_cases h1 : j < k
    · have := mg_lt h1; omega
    · by_cases h2 : k < j
      · have := mg_lt h2; omega
      · omega
  · rintro rfl; rfl

theorem mg_zero : mg 0 = 0 := mg_small 0 (by omega)

theorem ex_le (k : Nat) (h : 4503599627370496 ≤ k) : 4503599627370496 * 2 ^ ex k ≤ mg k := by
  rw [mg_big k h]; exact Nat.mul_le_mul_right _ (by omega)

/-! ### words -/
def rung (x : Nat) : Nat := x % 9223372036854775808
def ng (x : Nat) : Bool := x / 9223372036854775808 % 2 == 1
/-- a finite word -/
def Fin (x : Nat) : Prop := rung x < 9218868437227405312
instance (x : Nat) : Decidable (Fin x) := by unfold Fin; infer_instance

/-- the least positive double -/
def U : Rat := (2 : Rat) ^ (-1074 : Int)
theorem U_pos : 0 < U := Rat.zpow_pos (by decide)
/-- the value of a finite word -/
def val (x : Nat) : Rat := if ng x then -((mg (rung x) : Nat) : Rat) * U else ((mg (rung x) : Nat) : Rat) * U

def dval : Datum → Rat
  | .number s m i => if s then -(m : Rat) * (2 : Rat) ^ i else (m : Rat) * (2 : Rat) ^ i
  | _ => 0

theorem two_ne : (2 : Rat) ≠ 0 := by decide

theorem pow_add' (a b : Int) : (2 : Rat) ^ (a + b) = (2 : Rat) ^ a * (2 : Rat) ^ b := Rat.zpow_add two_ne a b

theorem pow_nat (n : Nat) : (2 : Rat) ^ (n : Int) = ((2 ^ n : Nat) : Rat) := by
  rw [Rat.zpow_natCast, Rat.natCast_pow]; rfl

theorem read_fin (x : Nat) (h : Fin x) : ∃ m i, double.read x = .number (ng x) m i ∧ -1074 ≤ i ∧ i ≤ 971 ∧ (m : Rat) * (2 : Rat) ^ i = ((mg (rung x) : Nat) : Rat) * U ∧ m < 9007199254740992 ∧ (m = 0 ↔ rung x = 0) := by
  unfold Fin at h
  have hs : double.signWeight = 9223372036854775808 := by decide
  have hb : double.binade = 4503599627370496 := by decide
  have hi : double.infRung = 9218868437227405312 := by decide
  have hl : double.leastPlace = -1074 := by decide
  unfold Format.read
  rw [hs, hb, hi, hl]
  change ∃ m i, (if rung x < 4503599627370496 then Datum.number (ng x) (rung x) (-1074) else if rung x < 9218868437227405312 then Datum.number (ng x) (4503599627370496 + rung x % 4503599627370496) (-1074 + ((rung x / 4503599627370496 - 1 : Nat) : Int)) else if rung x = 9218868437227405312 then Datum.infinity (ng x) else Datum.nan (ng x) (rung x - 9218868437227405312)) = .number (ng x) m i ∧ _
  generalize rung x = r at *
  by_cases h1 : r < 4503599627370496
  · rw [if_pos h1]
    refine ⟨r, -1074, rfl, by omega, by omega, ?_, by omega, by omega⟩
    rw [mg_small r h1]; rfl
  · rw [if_neg h1, if_pos h]
    refine ⟨_, _, rfl, by omega, by omega, ?_, by omega, by omega⟩
    rw [mg_big r (by omega), pow_add', pow_nat]
    unfold ex U
    rw [Rat.natCast_mul]
    grind

/-- rung k is the nearest to q (in units of 2^-1074), ties to even -/
structure Near (q : Rat) (k : Nat) : Prop where
  hi : 2 * q ≤ ((mg k + mg (k + 1) : Nat) : Rat)
  hiE : 2 * q = ((mg k + mg (k + 1) : Nat) : Rat) → k % 2 = 0
  lo : ∀ j, k = j + 1 → ((mg j + mg k : Nat) : Rat) ≤ 2 * q
  loE : ∀ j, k = j + 1 → ((mg j + mg k : Nat) : Rat) = 2 * q → k % 2 = 0

theorem cut_spec (s : Bool) (n d : Nat) :
    2 * n ≤ (2 * Toward.even.cut s n d + 1) * 2 ^ d ∧ (2 * n = (2 * Toward.even.cut s n d + 1) * 2 ^ d → Toward.even.cut s n d % 2 = 0)
    ∧ 2 * Toward.even.cut s n d * 2 ^ d ≤ 2 * n + 2 ^ d ∧ (2 * Toward.even.cut s n d * 2 ^ d = 2 * n + 2 ^ d → Toward.even.cut s n d % 2 = 0) := by
  have hp := Nat.two_pow_pos d
  by_cases h : d ≤ n.log2 + 2
  · have e : min d (n.log2 + 2) = d := by omega
    unfold Toward.cut
    simp only [e, Nat.one_shiftLeft]
    generalize 2 ^ d = g at *
    have hdm := Nat.div_add_mod n g
    have hlt := Nat.mod_lt n hp
    generalize n / g = l at *
    generalize n % g = r at *
    have hn : n = l * g + r := by rw [Nat.mul_comm]; omega
    subst hn
    by_cases c1 : g < 2 * r
    · have hm : (decide (g < 2 * r) || (g == 2 * r && l % 2 == 1)) = true := by simp [c1]
      rw [hm]
      simp only [Bool.toNat_true]
      have e1 : (2 * (l + 1) + 1) * g = 2 * (l * g) + 3 * g := by grind
      have e2 : 2 * (l + 1) * g = 2 * (l * g) + 2 * g := by grind
      rw [e1, e2]; omega
    · by_cases c2 : g = 2 * r ∧ l % 2 = 1
      · have hm : (decide (g < 2 * r) || (g == 2 * r && l % 2 == 1)) = true := by simp [c2.1, c2.2]
        rw [hm]
        simp only [Bool.toNat_true]
        have e1 : (2 * (l + 1) + 1) * g = 2 * (l * g) + 3 * g := by grind
        have e2 : 2 * (l + 1) * g = 2 * (l * g) + 2 * g := by grind
        rw [e1, e2]; omega
      · have hm : (decide (g < 2 * r) || (g == 2 * r && l % 2 == 1)) = false := by
          rw [Bool.eq_false_iff]; intro hh
          simp only [Bool.or_eq_true, decide_eq_true_eq, Bool.and_eq_true, beq_iff_eq] at hh
          omega
        rw [hm]
        simp only [Bool.toNat_false, Nat.add_zero]
        have e1 : (2 * l + 1) * g = 2 * (l * g) + g := by grind
        have e2 : 2 * l * g = 2 * (l * g) := by grind
        rw [e1, e2]; omega
  · have e : min d (n.log2 + 2) = n.log2 + 2 := by omega
    have hn : n < 2 ^ (n.log2 + 1) := Nat.lt_log2_self
    have hg : 2 ^ (n.log2 + 2) = 2 * 2 ^ (n.log2 + 1) := by rw [Nat.pow_succ]; omega
    have hd : 2 ^ (n.log2 + 2) ≤ 2 ^ d := Nat.pow_le_pow_right (by omega) (by omega)
    have hc : Toward.even.cut s n d = 0 := by
      unfold Toward.cut
      simp only [e, Nat.one_shiftLeft]
      rw [Nat.div_eq_of_lt (by omega), Nat.mod_eq_of_lt (by omega)]
      have hm : (decide (2 ^ (n.log2 + 2) < 2 * n) || (2 ^ (n.log2 + 2) == 2 * n && 0 % 2 == 1)) = false := by
        rw [Bool.eq_false_iff]; intro hh
        simp only [Bool.or_eq_true, decide_eq_true_eq, Bool.and_eq_true, beq_iff_eq] at hh
        omega
      rw [hm]; rfl
    rw [hc]; omega

theorem rat_scale {q : Rat} {D Q N : Nat} (h : q * ((2 ^ D : Nat) : Rat) = (Q : Rat)) : (2 * q ≤ (N : Rat) ↔ 2 * Q ≤ N * 2 ^ D) ∧ ((N : Rat) ≤ 2 * q ↔ N * 2 ^ D ≤ 2 * Q) ∧ (2 * q = (N : Rat) ↔ 2 * Q = N * 2 ^ D) := by
  have hp : (0 : Rat) < ((2 ^ D : Nat) : Rat) := Rat.natCast_pos.2 (Nat.two_pow_pos D)
  generalize 2 ^ D = p at *
  have e : (2 * q) * (p : Rat) = ((2 * Q : Nat) : Rat) := by rw [Rat.natCast_mul, ← h]; grind
  have f : (N : Rat) * (p : Rat) = ((N * p : Nat) : Rat) := by rw [Rat.natCast_mul]
  have a : 2 * q ≤ (N : Rat) ↔ 2 * Q ≤ N * p := by
    rw [← Rat.natCast_le_natCast, ← e, ← f]
    exact ⟨fun h => Rat.mul_le_mul_of_nonneg_right h (Rat.le_of_lt hp), fun h => Rat.le_of_mul_le_mul_right h hp⟩
  have b : (N : Rat) ≤ 2 * q ↔ N * p ≤ 2 * Q := by
    rw [← Rat.natCast_le_natCast, ← e, ← f]
    exact ⟨fun h => Rat.mul_le_mul_of_nonneg_right h (Rat.le_of_lt hp), fun h => Rat.le_of_mul_le_mul_right h hp⟩
  refine ⟨a, b, ?_⟩
  rw [Rat.le_antisymm_iff, a, b]; omega

theorem near_core (q : Rat) (A D E : Nat) (s : Bool) (hq : q * ((2 ^ D : Nat) : Rat) = ((A * 2 ^ E : Nat) : Rat)) (hA : A < 9007199254740992 * 2 ^ D) (hE : E = 0 ∨ 4503599627370496 * 2 ^ D ≤ A) :
    Near q (E * 4503599627370496 + Toward.even.cut s A D) := by
  obtain ⟨c1, c2, c3, c4⟩ := cut_spec s A D
  generalize Toward.even.cut s A D = c at *
  have hD := Nat.two_pow_pos D
  have hEp := Nat.two_pow_pos E
  have hc : c ≤ 9007199254740992 := by
    refine Nat.le_of_not_lt fun hn => ?_
    have : 9007199254740993 * 2 ^ D ≤ c * 2 ^ D := Nat.mul_le_mul_right _ (by omega)
    rw [Nat.mul_assoc] at c3
    omega
  have hcE : E = 0 ∨ 4503599627370496 ≤ c := by
    rcases hE with h | h
    · exact Or.inl h
    · right
      refine Nat.le_of_not_lt fun hn => ?_
      have : (2 * c + 1) * 2 ^ D ≤ 9007199254740991 * 2 ^ D := Nat.mul_le_mul_right _ (by omega)
      omega
  have hm := mg_at E c hcE hc
  have hpar : (E * 4503599627370496 + c) % 2 = c % 2 := by omega
  have hex : 2 ^ E ≤ 2 ^ ex (E * 4503599627370496 + c) := Nat.pow_le_pow_right (by omega) (by unfold ex; omega)
  -- everything times 2^E
  have m1 : 2 * A * 2 ^ E ≤ (2 * c + 1) * 2 ^ D * 2 ^ E := Nat.mul_le_mul_right _ c1
  have m3 : 2 * c * 2 ^ D * 2 ^ E ≤ (2 * A + 2 ^ D) * 2 ^ E := Nat.mul_le_mul_right _ c3
  have sc := @rat_scale q D (A * 2 ^ E)
  constructor
  · rw [(sc hq).1, mg_succ, hm]
    have : (c * 2 ^ E + (c * 2 ^ E + 2 ^ E)) * 2 ^ D ≤ (c * 2 ^ E + (c * 2 ^ E + 2 ^ ex (E * 4503599627370496 + c))) * 2 ^ D := Nat.mul_le_mul_right _ (by omega)
    have e : (c * 2 ^ E + (c * 2 ^ E + 2 ^ E)) * 2 ^ D = (2 * c + 1) * 2 ^ D * 2 ^ E := by grind
    have e2 : 2 * (A * 2 ^ E) = 2 * A * 2 ^ E := by grind
    omega
  · rw [(sc hq).2.2, mg_succ, hm, hpar]
    intro h
    have : (c * 2 ^ E + (c * 2 ^ E + 2 ^ E)) * 2 ^ D ≤ (c * 2 ^ E + (c * 2 ^ E + 2 ^ ex (E * 4503599627370496 + c))) * 2 ^ D := Nat.mul_le_mul_right _ (by omega)
    have e : (c * 2 ^ E + (c * 2 ^ E + 2 ^ E)) * 2 ^ D = (2 * c + 1) * 2 ^ D * 2 ^ E := by grind
    have e2 : 2 * (A * 2 ^ E) = 2 * A * 2 ^ E := by grind
    have e3 : 2 * A * 2 ^ E = (2 * c + 1) * 2 ^ D * 2 ^ E := by omega
    exact c2 (Nat.eq_of_mul_eq_mul_right hEp e3)
  · intro j hj
    rw [(sc hq).2.1, hm]
    by_cases hb : E = 0 ∨ 4503599627370496 < c
    · have hmj := mg_at E (c - 1) (by omega) (by omega)
      rw [show E * 4503599627370496 + (c - 1) = j by omega] at hmj
      have : (mg j + c * 2 ^ E) * 2 ^ D + 2 ^ D * 2 ^ E = 2 * c * 2 ^ D * 2 ^ E := by
        rw [hmj]
        have hc1 : c = (c - 1) + 1 := by omega
        generalize c - 1 = c' at *
        subst hc1; grind
      have e2 : (2 * A + 2 ^ D) * 2 ^ E = 2 * (A * 2 ^ E) + 2 ^ D * 2 ^ E := by grind
      omega
    · have hceq : c = 4503599627370496 := by omega
      have hAE : 4503599627370496 * 2 ^ D ≤ A := by omega
      have hl : mg j < c * 2 ^ E := by rw [← hm]; exact mg_lt (by omega)
      have h1 : (mg j + c * 2 ^ E) * 2 ^ D ≤ (2 * (c * 2 ^ E)) * 2 ^ D := Nat.mul_le_mul_right _ (by omega)
      have h2 : 4503599627370496 * 2 ^ D * 2 ^ E ≤ A * 2 ^ E := Nat.mul_le_mul_right _ hAE
      have e : (2 * (c * 2 ^ E)) * 2 ^ D = 2 * (4503599627370496 * 2 ^ D * 2 ^ E) := by rw [hceq]; grind
      omega
  · intro j hj
    rw [eq_comm, (sc hq).2.2, hm, hpar]
    intro h
    by_cases hb : E = 0 ∨ 4503599627370496 < c
    · have hmj := mg_at E (c - 1) (by omega) (by omega)
      rw [show E * 4503599627370496 + (c - 1) = j by omega] at hmj
      have : (mg j + c * 2 ^ E) * 2 ^ D + 2 ^ D * 2 ^ E = 2 * c * 2 ^ D * 2 ^ E := by
        rw [hmj]
        have hc1 : c = (c - 1) + 1 := by omega
        generalize c - 1 = c' at *
        subst hc1; grind
      have e2 : (2 * A + 2 ^ D) * 2 ^ E = 2 * (A * 2 ^ E) + 2 ^ D * 2 ^ E := by grind
      have e3 : 2 * c * 2 ^ D * 2 ^ E = (2 * A + 2 ^ D) * 2 ^ E := by omega
      exact c4 (Nat.eq_of_mul_eq_mul_right hEp e3)
    · omega

def wd (s : Bool) (k : Nat) : Nat := if s then 9223372036854775808 + min k 9218868437227405312 else min k 9218868437227405312

theorem near_zero : Near 0 0 := by
  constructor
  · rw [show (2 : Rat) * 0 = ((0 : Nat) : Rat) by rw [Rat.mul_zero]; rfl]; exact Rat.natCast_le_natCast.2 (Nat.zero_le _)
  · intro _; rfl
  · intro j hj; omega
  · intro j hj; omega

theorem nearest_spec (s : Bool) (mag : Nat) (place : Int) :
    ∃ k, Near ((mag : Rat) * (2 : Rat) ^ (place + 1074)) k ∧ double.nearest s mag place = wd s k := by
  have hb : double.binade = 4503599627370496 := by decide
  have hi : double.infRung = 9218868437227405312 := by decide
  have hl : double.leastPlace = -1074 := by decide
  have hw : double.signWeight = 9223372036854775808 := by decide
  have hf : double.fractionBits = 52 := rfl
  unfold Format.nearest Format.word
  rw [hb, hi, hl, hw, hf]
  by_cases h0 : mag = 0
  · subst h0
    refine ⟨0, ?_, by simp [wd]⟩
    rw [show ((0 : Nat) : Rat) = 0 by rfl, Rat.zero_mul]
    exact near_zero
  · rw [if_neg h0]
    dsimp only
    obtain ⟨last, hlast⟩ : ∃ last : Int, last = max (place + (mag.log2 : Int) - ((52 : Nat) : Int)) (-1074) := ⟨_, rfl⟩
    rw [← hlast]
    refine ⟨(last - -1074).toNat * 4503599627370496 + Toward.even.cut s (mag <<< (place - last).toNat) (last - place).toNat, ?_, by simp only [wd]⟩
    have hlt : mag < 2 ^ (mag.log2 + 1) := Nat.lt_log2_self
    have hge : 2 ^ mag.log2 ≤ mag := Nat.log2_self_le h0
    have hl1 : place + (mag.log2 : Int) - 52 ≤ last := by omega
    have hl2 : -1074 ≤ last := by omega
    have hl3 : last = -1074 ∨ last = place + (mag.log2 : Int) - 52 := by omega
    generalize mag.log2 = L at *
    rw [Nat.shiftLeft_eq]
    apply near_core
    · -- q * 2^D = A * 2^E
      have e1 : ((last - -1074).toNat : Int) = last + 1074 := by omega
      have e2 : ((place - last).toNat : Int) + last = ((last - place).toNat : Int) + place := by omega
      rw [Rat.natCast_mul, Rat.natCast_mul, ← pow_nat, ← pow_nat, ← pow_nat, e1, Rat.mul_assoc, Rat.mul_assoc, ← pow_add', ← pow_add']
      congr 2
      omega
    · by_cases hle : last ≤ place
      · have e1 : (last - place).toNat = 0 := by omega
        have e2 : (place - last).toNat + (L + 1) ≤ 53 := by omega
        rw [e1]
        have := Nat.pow_le_pow_right (n := 2) (by omega) e2
        rw [Nat.pow_add] at this
        have h3 : mag * 2 ^ (place - last).toNat < 2 ^ (L + 1) * 2 ^ (place - last).toNat := Nat.mul_lt_mul_of_pos_right hlt (Nat.two_pow_pos _)
        rw [Nat.mul_comm] at this
        have : (2 : Nat) ^ 53 = 9007199254740992 := by decide
        omega
      · have e1 : (place - last).toNat = 0 := by omega
        have e2 : L + 1 ≤ 53 + (last - place).toNat := by omega
        rw [e1]
        have := Nat.pow_le_pow_right (n := 2) (by omega) e2
        rw [Nat.pow_add 2 53] at this
        have : (2 : Nat) ^ 53 = 9007199254740992 := by decide
        omega
    · rcases hl3 with h | h
      · left; omega
      · right
        by_cases hle : last ≤ place
        · have e1 : (last - place).toNat = 0 := by omega
          have e2 : 52 = L + (place - last).toNat := by omega
          rw [e1]
          have h3 : 2 ^ L * 2 ^ (place - last).toNat ≤ mag * 2 ^ (place - last).toNat := Nat.mul_le_mul_right _ hge
          rw [← Nat.pow_add, ← e2] at h3
          have : (2 : Nat) ^ 52 = 4503599627370496 := by decide
          omega
        · have e1 : (place - last).toNat = 0 := by omega
          have e2 : L = 52 + (last - place).toNat := by omega
          rw [e1]
          rw [e2, Nat.pow_add] at hge
          have : (2 : Nat) ^ 52 = 4503599627370496 := by decide
          omega

def ab (q : Rat) : Rat := if q < 0 then -q else q
theorem ab_nonneg (q : Rat) : 0 ≤ ab q := by unfold ab; grind
theorem ab_neg (q : Rat) : ab (-q) = ab q := by unfold ab; grind
theorem ab_le {q c : Rat} : ab q ≤ c ↔ -c ≤ q ∧ q ≤ c := by unfold ab; grind
theorem le_ab (q : Rat) : q ≤ ab q := by unfold ab; grind
theorem neg_le_ab (q : Rat) : -q ≤ ab q := by unfold ab; grind
theorem ab_add (p q : Rat) : ab (p + q) ≤ ab p + ab q := by unfold ab; grind
theorem ab_sub (p q : Rat) : ab (p - q) ≤ ab p + ab q := by unfold ab; grind
theorem ab_of_nonneg {q : Rat} (h : 0 ≤ q) : ab q = q := by unfold ab; grind
theorem ab_of_nonpos {q : Rat} (h : q ≤ 0) : ab q = -q := by unfold ab; grind
theorem ab_mul (p q : Rat) : ab (p * q) = ab p * ab q := by
  by_cases hp : 0 ≤ p
  · by_cases hq : 0 ≤ q
    · rw [ab_of_nonneg hp, ab_of_nonneg hq, ab_of_nonneg (Rat.mul_nonneg hp hq)]
    · have h1 := Rat.mul_nonneg hp (show 0 ≤ -q by grind)
      rw [ab_of_nonneg hp, ab_of_nonpos (show q ≤ 0 by grind), ab_of_nonpos (by grind)]; grind
  · by_cases hq : 0 ≤ q
    · have h1 := Rat.mul_nonneg (show 0 ≤ -p by grind) hq
      rw [ab_of_nonpos (show p ≤ 0 by grind), ab_of_nonneg hq, ab_of_nonpos (by grind)]; grind
    · have h1 := Rat.mul_nonneg (show 0 ≤ -p by grind) (show 0 ≤ -q by grind)
      rw [ab_of_nonpos (show p ≤ 0 by grind), ab_of_nonpos (show q ≤ 0 by grind), ab_of_nonneg (by grind)]; grind
theorem ab_zero_iff {q : Rat} : ab q = 0 ↔ q = 0 := by unfold ab; grind

/-- 2^1074 -/
def V : Rat := (2 : Rat) ^ (1074 : Int)
theorem V_pos : 0 < V := Rat.zpow_pos (by decide)
theorem UV : U * V = 1 := by unfold U V; rw [← pow_add']; rfl
theorem VU : V * U = 1 := by rw [Rat.mul_comm]; exact UV

/-- r is the word that the rational q is rounded to (of a zero q the sign is open) -/
structure IsRd (q : Rat) (r : Nat) : Prop where
  ex : ∃ s k, r = wd s k ∧ Near (ab q * V) k ∧ (0 < q → s = false) ∧ (q < 0 → s = true)

theorem wd_fin {s : Bool} {k : Nat} (h : k < 9218868437227405312) : Fin (wd s k) ∧ rung (wd s k) = k ∧ ng (wd s k) = s := by
  have hr : rung (wd s k) = k := by
    unfold rung wd
    rw [Nat.min_eq_left (by omega)]
    cases s <;> simp <;> omega
  refine ⟨by unfold Fin; rw [hr]; exact h, hr, ?_⟩
  unfold ng wd
  rw [Nat.min_eq_left (by omega)]
  cases s
  · simp only [Bool.false_eq_true, if_false]; rw [Nat.div_eq_of_lt (by omega)]; rfl
  · simp only [if_true]
    rw [show (9223372036854775808 + k) / 9223372036854775808 = 1 by omega]; rfl

theorem val_wd {s : Bool} {k : Nat} (h : k < 9218868437227405312) : val (wd s k) = if s then -((mg k : Nat) : Rat) * U else ((mg k : Nat) : Rat) * U := by
  obtain ⟨_, h2, h3⟩ := wd_fin (s := s) h
  unfold val; rw [h2, h3]

theorem signed_val (s : Bool) (m up : Nat) (b : Int) : ((signed s m up : Int) : Rat) * (2 : Rat) ^ b = if s then -(m : Rat) * (2 : Rat) ^ ((up : Int) + b) else (m : Rat) * (2 : Rat) ^ ((up : Int) + b) := by
  unfold signed
  rw [Nat.shiftLeft_eq, pow_add', pow_nat]
  cases s
  · simp only [Bool.false_eq_true, if_false]
    rw [Rat.intCast_natCast, Rat.natCast_mul, Rat.mul_assoc]
  · simp only [if_true]
    rw [Rat.intCast_neg, Rat.intCast_natCast, Rat.natCast_mul]
    grind

theorem val_read {x m : Nat} {i : Int} (h : (m : Rat) * (2 : Rat) ^ i = ((mg (rung x) : Nat) : Rat) * U) :
    val x = if ng x then -(m : Rat) * (2 : Rat) ^ i else (m : Rat) * (2 : Rat) ^ i := by
  unfold val
  rw [Rat.neg_mul, Rat.neg_mul, h]

/-- the word of the datum 'n * 2^b' is q rounded, where q is its value -/
theorem rd_of_int (q : Rat) (n : Int) (b : Int) (s : Bool) (h : q = (n : Rat) * (2 : Rat) ^ b) (hs : n ≠ 0 → s = decide (n < 0)) :
    IsRd q (double.write (.number s n.natAbs b)) := by
  obtain ⟨k, h1, h2⟩ := nearest_spec s n.natAbs b
  have hp : (0 : Rat) < (2 : Rat) ^ b := Rat.zpow_pos (by decide)
  refine ⟨s, k, h2, ?_, ?_, ?_⟩
  · have e : ab q * V = (n.natAbs : Rat) * (2 : Rat) ^ (b + 1074) := by
      rw [pow_add', h, ab_mul, ab_of_nonneg (Rat.le_of_lt hp), ← Rat.mul_assoc]
      have : ab (n : Rat) = (n.natAbs : Rat) := by
        by_cases hn : 0 ≤ n
        · rw [ab_of_nonneg (Rat.intCast_nonneg.2 hn), ← Rat.intCast_natCast]
          congr 1; omega
        · have : (n : Rat) ≤ 0 := Rat.intCast_nonpos.2 (by omega)
          rw [ab_of_nonpos this, ← Rat.intCast_natCast, ← Rat.intCast_neg]
          congr 1; omega
      rw [this]; rfl
    rw [e]; exact h1
  · intro hq
    rw [h] at hq
    have : 0 < (n : Rat) := (Rat.mul_pos_iff_of_pos_right hp).1 hq
    have hn : 0 < n := Rat.intCast_pos.1 this
    rw [hs (by omega)]; simp; omega
  · intro hq
    rw [h] at hq
    have : (n : Rat) < 0 := (Rat.mul_neg_iff_of_pos_right hp).1 hq
    have hn : n < 0 := Rat.intCast_neg_iff.1 this
    rw [hs (by omega)]; simp; omega

theorem add_spec {x y : Nat} (hx : Fin x) (hy : Fin y) : ∃ r, double.add x y = some r ∧ IsRd (val x + val y) r := by
  obtain ⟨m, i, e1, a1, _, v1, _, _⟩ := read_fin x hx
  obtain ⟨n, j, e2, a2, _, v2, _, _⟩ := read_fin y hy
  unfold Format.add
  rw [e1, e2]
  unfold Datum.sum
  refine ⟨_, rfl, ?_⟩
  apply rd_of_int
  · rw [Rat.intCast_add, Rat.add_mul, signed_val, signed_val, show (((i - min i j).toNat : Nat) : Int) + min i j = i by omega, show (((j - min i j).toNat : Nat) : Int) + min i j = j by omega, val_read v1, val_read v2]
  · intro hne; rw [if_neg hne]

theorem val_neg_read {x m : Nat} {i : Int} (h : (m : Rat) * (2 : Rat) ^ i = ((mg (rung x) : Nat) : Rat) * U) :
    -val x = if !ng x then -(m : Rat) * (2 : Rat) ^ i else (m : Rat) * (2 : Rat) ^ i := by
  rw [val_read h]; cases ng x <;> simp <;> grind

theorem sub_spec {x y : Nat} (hx : Fin x) (hy : Fin y) : ∃ r, double.sub x y = some r ∧ IsRd (val x - val y) r := by
  obtain ⟨m, i, e1, a1, _, v1, _, _⟩ := read_fin x hx
  obtain ⟨n, j, e2, a2, _, v2, _, _⟩ := read_fin y hy
  unfold Format.sub
  rw [e1, e2]
  unfold Datum.opposite Datum.sum
  refine ⟨_, rfl, ?_⟩
  apply rd_of_int
  · rw [Rat.intCast_add, Rat.add_mul, signed_val, signed_val, show (((i - min i j).toNat : Nat) : Int) + min i j = i by omega, show (((j - min i j).toNat : Nat) : Int) + min i j = j by omega, ← val_read v1, ← val_neg_read v2, Rat.sub_eq_add_neg]
  · intro hne; rw [if_neg hne]

theorem mul_spec {x y : Nat} (hx : Fin x) (hy : Fin y) : ∃ r, double.mul x y = some r ∧ IsRd (val x * val y) r := by
  obtain ⟨m, i, e1, a1, _, v1, _, _⟩ := read_fin x hx
  obtain ⟨n, j, e2, a2, _, v2, _, _⟩ := read_fin y hy
  unfold Format.mul
  rw [e1, e2]
  unfold Datum.product
  refine ⟨_, rfl, ?_⟩
  have hv : val x * val y = ((if (ng x ^^ ng y) then -((m * n : Nat) : Int) else ((m * n : Nat) : Int) : Int) : Rat) * (2 : Rat) ^ (i + j) := by
    rw [val_read v1, val_read v2, pow_add']
    cases ng x <;> cases ng y <;> simp [Rat.intCast_neg, Rat.intCast_natCast] <;> grind
  rw [hv]
  generalize m * n = p
  have e : p = (if (ng x ^^ ng y) then -(p : Int) else (p : Int)).natAbs := by
    cases (ng x ^^ ng y) <;> simp
  conv => arg 2; rw [e]
  apply rd_of_int _ _ _ _ rfl
  cases (ng x ^^ ng y)
  · simp
  · intro h
    simp only [if_true] at h ⊢
    simp; omega

theorem near_err {q : Rat} {k : Nat} (h : Near q k) (h0 : 0 ≤ q) : ab ((mg k : Rat) - q) ≤ q / 9007199254740992 ∨ ab ((mg k : Rat) - q) ≤ 1 / 2 := by
  have hi := h.hi
  rw [mg_succ, Rat.natCast_add, Rat.natCast_add] at hi
  by_cases hq : (mg k : Rat) ≤ q
  · -- q above
    by_cases hk : 4503599627370496 ≤ k
    · left
      have hx := ex_le k hk
      rw [← Rat.natCast_le_natCast, Rat.natCast_mul] at hx
      rw [ab_of_nonpos (by grind)]
      rw [show ((4503599627370496 : Nat) : Rat) = 4503599627370496 by rfl] at hx
      grind
    · right
      have e : ex k = 0 := by unfold ex; omega
      rw [e] at hi
      rw [show ((2 ^ 0 : Nat) : Rat) = 1 by rfl] at hi
      rw [ab_of_nonpos (by grind)]
      grind
  · -- q below: there is a rung below
    have hk0 : 0 < k := by
      refine Nat.pos_of_ne_zero fun e => ?_
      subst e
      rw [mg_zero] at hq
      exact hq h0
    obtain ⟨j, rfl⟩ : ∃ j, k = j + 1 := ⟨k - 1, by omega⟩
    have lo := h.lo j rfl
    rw [mg_succ, Rat.natCast_add, Rat.natCast_add] at lo
    rw [mg_succ, Rat.natCast_add] at hq ⊢
    rw [ab_of_nonneg (by grind)]
    by_cases hk : 4503599627370496 ≤ j
    · left
      have hx := ex_le j hk
      rw [← Rat.natCast_le_natCast, Rat.natCast_mul] at hx
      rw [show ((4503599627370496 : Nat) : Rat) = 4503599627370496 by rfl] at hx
      grind
    · right
      have e : ex j = 0 := by unfold ex; omega
      rw [e] at lo ⊢
      rw [show ((2 ^ 0 : Nat) : Rat) = 1 by rfl] at lo ⊢
      grind

theorem near_mono {q q' : Rat} {k k' : Nat} (h : Near q k) (h' : Near q' k') (hq : q ≤ q') : k ≤ k' := by
  refine Nat.le_of_not_lt fun hlt => ?_
  obtain ⟨j, rfl⟩ : ∃ j, k = j + 1 := ⟨k - 1, by omega⟩
  have lo := h.lo j rfl
  have hi' := h'.hi
  have m1 : mg k' ≤ mg j := mg_le (by omega)
  have m2 : mg (k' + 1) ≤ mg (j + 1) := mg_le (by omega)
  have m3 : ((mg k' + mg (k' + 1) : Nat) : Rat) ≤ ((mg j + mg (j + 1) : Nat) : Rat) := Rat.natCast_le_natCast.2 (by omega)
  have e1 : ((mg j + mg (j + 1) : Nat) : Rat) = 2 * q := by grind
  have e2 : 2 * q' = ((mg k' + mg (k' + 1) : Nat) : Rat) := by grind
  have p1 := h.loE j rfl e1
  have p2 := h'.hiE e2
  have e3 : ((mg k' + mg (k' + 1) : Nat) : Rat) = ((mg j + mg (j + 1) : Nat) : Rat) := by grind
  rw [Rat.natCast_inj] at e3
  have : mg k' = mg j := by omega
  rw [mg_inj] at this
  omega

theorem near_unique {q : Rat} {k k' : Nat} (h : Near q k) (h' : Near q k') : k = k' :=
  Nat.le_antisymm (near_mono h h' Rat.le_refl) (near_mono h' h Rat.le_refl)

theorem near_self (k : Nat) : Near (mg k : Rat) k := by
  have h1 := mg_lt_succ k
  have h2 : ((mg k : Nat) : Rat) < ((mg (k + 1) : Nat) : Rat) := Rat.natCast_lt_natCast.2 h1
  constructor
  · rw [Rat.natCast_add]; grind
  · rw [Rat.natCast_add]; grind
  · intro j hj
    have h3 : ((mg j : Nat) : Rat) < ((mg k : Nat) : Rat) := Rat.natCast_lt_natCast.2 (mg_lt (by omega))
    rw [Rat.natCast_add]; grind
  · intro j hj
    have h3 : ((mg j : Nat) : Rat) < ((mg k : Nat) : Rat) := Rat.natCast_lt_natCast.2 (mg_lt (by omega))
    rw [Rat.natCast_add]; grind

def p2 (n : Nat) : Nat := 2 ^ n
theorem p2_add (a b : Nat) : p2 (a + b) = p2 a * p2 b := Nat.pow_add 2 a b
theorem p2_one : p2 1 = 2 := rfl
theorem p2_52 : p2 52 = 4503599627370496 := by decide
theorem pow_p2 (n : Nat) : (2 : Rat) ^ (n : Int) = ((p2 n : Nat) : Rat) := pow_nat n
theorem mg_at' (E t : Nat) (h1 : E = 0 ∨ 4503599627370496 ≤ t) (h2 : t ≤ 9007199254740992) : mg (E * 4503599627370496 + t) = t * p2 E := mg_at E t h1 h2

theorem mg_inf : mg 9218868437227405312 = 2 * p2 2097 := by
  have h := mg_at' 2046 4503599627370496 (by omega) (by omega)
  have e : p2 (52 + 2046) = p2 52 * p2 2046 := p2_add 52 2046
  have e2 : p2 (1 + 2097) = p2 1 * p2 2097 := p2_add 1 2097
  rw [p2_52] at e
  rw [p2_one] at e2
  rw [← e2, show 1 + 2097 = 52 + 2046 by omega, e, ← h]

/-- 2^1023: what is at most so large does not overflow -/
def BIG : Rat := (2 : Rat) ^ (1023 : Int)
theorem BIG_V : BIG * V = ((p2 2097 : Nat) : Rat) := by
  rw [← pow_p2]; unfold BIG V; rw [← pow_add']; rfl

theorem near_fin {q : Rat} {k : Nat} (h : Near (q * V) k) (hq : q ≤ BIG) : k < 9218868437227405312 := by
  refine Nat.lt_of_not_le fun hle => ?_
  obtain ⟨j, rfl⟩ : ∃ j, k = j + 1 := ⟨k - 1, by omega⟩
  have lo := h.lo j rfl
  have h1 : mg 9218868437227405312 ≤ mg (j + 1) := mg_le hle
  have h2 : 0 < mg j := by
    have := mg_lt (show 0 < j by omega); omega
  rw [mg_inf] at h1
  have h3 : 2 * p2 2097 < mg j + mg (j + 1) := by omega
  have h4 : ((2 * p2 2097 : Nat) : Rat) < ((mg j + mg (j + 1) : Nat) : Rat) := Rat.natCast_lt_natCast.2 h3
  rw [Rat.natCast_mul 2, ← BIG_V] at h4
  have h5 := Rat.mul_le_mul_of_nonneg_right hq (Rat.le_of_lt V_pos)
  rw [show ((2 : Nat) : Rat) = 2 by rfl] at h4
  grind

/-- THE ROUNDING ERROR: relative 2^-53, or absolute 2^-1075. -/
theorem IsRd.err {q : Rat} {r : Nat} (h : IsRd q r) (hq : ab q ≤ BIG) : Fin r ∧ (ab (val r - q) ≤ ab q / 9007199254740992 ∨ ab (val r - q) ≤ U / 2) := by
  obtain ⟨s, k, rfl, hn, hp, hm⟩ := h
  have hk := near_fin hn hq
  refine ⟨(wd_fin hk).1, ?_⟩
  rw [val_wd hk]
  have hnn : 0 ≤ ab q * V := Rat.mul_nonneg (ab_nonneg q) (Rat.le_of_lt V_pos)
  have he := near_err hn hnn
  have key : ab ((if s then -((mg k : Nat) : Rat) * U else ((mg k : Nat) : Rat) * U) - q) = ab ((mg k : Rat) - ab q * V) * U := by
    have : ab ((mg k : Rat) - ab q * V) * U = ab ((mg k : Rat) * U - ab q) := by
      have hu := ab_mul ((mg k : Rat) - ab q * V) U
      rw [ab_of_nonneg (Rat.le_of_lt U_pos)] at hu
      rw [← hu]
      have vu := VU
      have e : ((mg k : Rat) - ab q * V) * U = (mg k : Rat) * U - ab q := by grind
      rw [e]
    rw [this]
    by_cases h1 : 0 < q
    · rw [hp h1, ab_of_nonneg (Rat.le_of_lt h1)]; simp
    · by_cases h2 : q < 0
      · rw [hm h2, ab_of_nonpos (Rat.le_of_lt h2)]
        simp only [if_true]
        have e : -(mg k : Rat) * U - q = -((mg k : Rat) * U - -q) := by grind
        rw [e, ab_neg]
      · have : q = 0 := by grind
        subst this
        rw [ab_of_nonneg Rat.le_refl]
        cases s
        · simp
        · simp only [if_true]
          have e : -(mg k : Rat) * U - 0 = -((mg k : Rat) * U - 0) := by grind
          rw [e, ab_neg]
  rw [key]
  rcases he with he | he
  · left
    have := Rat.mul_le_mul_of_nonneg_right he (Rat.le_of_lt U_pos)
    have vu := VU
    have e : ab q * V / 9007199254740992 * U = ab q / 9007199254740992 := by grind
    rw [e] at this; exact this
  · right
    have := Rat.mul_le_mul_of_nonneg_right he (Rat.le_of_lt U_pos)
    grind

/-- sums of doubles: relative error 2^-53, no absolute part -/
theorem IsRd.errInt {q : Rat} {r : Nat} (h : IsRd q r) (hq : ab q ≤ BIG) (n : Int) (hn : q = (n : Rat) * U) : Fin r ∧ ab (val r - q) ≤ ab q / 9007199254740992 := by
  obtain ⟨hf, he⟩ := h.err hq
  refine ⟨hf, ?_⟩
  rcases he with he | he
  · exact he
  · -- the difference is a whole number of units, at most half a unit
    have hv : ∃ z : Int, val r = (z : Rat) * U := by
      unfold val
      split
      · exact ⟨-(mg (rung r) : Int), by rw [Rat.intCast_neg, Rat.intCast_natCast]⟩
      · exact ⟨(mg (rung r) : Int), by rw [Rat.intCast_natCast]⟩
    obtain ⟨z, hz⟩ := hv
    have e : val r - q = ((z - n : Int) : Rat) * U := by rw [hz, hn, Rat.intCast_sub]; grind
    rw [e, ab_mul, ab_of_nonneg (Rat.le_of_lt U_pos)] at he
    have h2 : ab ((z - n : Int) : Rat) ≤ 1 / 2 := by
      have up := U_pos
      apply Rat.le_of_mul_le_mul_right (c := U) _ up
      grind
    rw [ab_le] at h2
    have h3 : z - n < 1 := by
      rw [← Rat.intCast_lt_intCast]; have : ((1 : Int) : Rat) = 1 := rfl
      grind
    have h4 : -1 < z - n := by
      rw [← Rat.intCast_lt_intCast]; have : ((-1 : Int) : Rat) = -1 := rfl
      grind
    have h5 : z - n = 0 := by omega
    rw [e, h5, ab_mul]
    have h6 : ab ((0 : Int) : Rat) = 0 := ab_of_nonneg Rat.le_refl
    rw [h6, Rat.zero_mul]
    have := ab_nonneg q
    grind

theorem val_int (x : Nat) : ∃ z : Int, val x = (z : Rat) * U := by
  unfold val
  split
  · exact ⟨-(mg (rung x) : Int), by rw [Rat.intCast_neg, Rat.intCast_natCast]⟩
  · exact ⟨(mg (rung x) : Int), by rw [Rat.intCast_natCast]⟩

theorem ab_val (x : Nat) : ab (val x) = ((mg (rung x) : Nat) : Rat) * U := by
  unfold val
  have h : 0 ≤ ((mg (rung x) : Nat) : Rat) * U := Rat.mul_nonneg Rat.natCast_nonneg (Rat.le_of_lt U_pos)
  split
  · rw [Rat.neg_mul, ab_neg, ab_of_nonneg h]
  · rw [ab_of_nonneg h]

/-- the value of a rounded word, the sign of q written out -/
theorem IsRd.val_eq {q : Rat} {r : Nat} (h : IsRd q r) (hf : Fin r) : ∃ k, Near (ab q * V) k ∧ rung r = k ∧ val r = if q < 0 then -((mg k : Nat) : Rat) * U else ((mg k : Nat) : Rat) * U := by
  obtain ⟨s, k, rfl, hn, hp, hm⟩ := h
  have hk : k < 9218868437227405312 := by
    refine Nat.lt_of_not_le fun hle => ?_
    unfold Fin rung wd at hf
    rw [Nat.min_eq_right hle] at hf
    cases s <;> simp at hf
  refine ⟨k, hn, (wd_fin hk).2.1, ?_⟩
  rw [val_wd hk]
  by_cases h1 : 0 < q
  · rw [hp h1]; simp only [Bool.false_eq_true, if_false]; rw [if_neg (show ¬ q < 0 by grind)]
  · by_cases h2 : q < 0
    · rw [hm h2, if_pos h2]; simp
    · have : q = 0 := by grind
      subst this
      rw [ab_of_nonneg Rat.le_refl, Rat.zero_mul] at hn
      obtain rfl := near_unique hn near_zero
      rw [mg_zero, if_neg h2]
      cases s
      · simp
      · simp only [if_true]; rw [show ((0 : Nat) : Rat) = 0 by rfl]; grind

theorem IsRd.nonneg {q : Rat} {r : Nat} (h : IsRd q r) (hf : Fin r) (hq : 0 ≤ q) : 0 ≤ val r := by
  obtain ⟨k, _, _, hv⟩ := h.val_eq hf
  rw [hv, if_neg (by grind)]
  exact Rat.mul_nonneg Rat.natCast_nonneg (Rat.le_of_lt U_pos)

theorem IsRd.mono {q q' : Rat} {r r' : Nat} (h : IsRd q r) (h' : IsRd q' r') (hf : Fin r) (hf' : Fin r') (hq : q ≤ q') : val r ≤ val r' := by
  obtain ⟨k, hn, _, hv⟩ := h.val_eq hf
  obtain ⟨k', hn', _, hv'⟩ := h'.val_eq hf'
  rw [hv, hv']
  have up := Rat.le_of_lt U_pos
  have p1 : 0 ≤ ((mg k : Nat) : Rat) * U := Rat.mul_nonneg Rat.natCast_nonneg up
  have p2 : 0 ≤ ((mg k' : Nat) : Rat) * U := Rat.mul_nonneg Rat.natCast_nonneg up
  by_cases c1 : q < 0
  · rw [if_pos c1]
    by_cases c2 : q' < 0
    · rw [if_pos c2]
      rw [ab_of_nonpos (Rat.le_of_lt c1)] at hn
      rw [ab_of_nonpos (Rat.le_of_lt c2)] at hn'
      have hk := near_mono hn' hn (Rat.mul_le_mul_of_nonneg_right (show -q' ≤ -q by grind) (Rat.le_of_lt V_pos))
      have := Rat.mul_le_mul_of_nonneg_right (Rat.natCast_le_natCast.2 (mg_le hk)) up
      grind
    · rw [if_neg c2]; grind
  · rw [if_neg c1, if_neg (by grind)]
    rw [ab_of_nonneg (by grind)] at hn
    rw [ab_of_nonneg (by grind)] at hn'
    have hk := near_mono hn hn' (Rat.mul_le_mul_of_nonneg_right hq (Rat.le_of_lt V_pos))
    exact Rat.mul_le_mul_of_nonneg_right (Rat.natCast_le_natCast.2 (mg_le hk)) up

/-- what is a double already is not rounded -/
theorem IsRd.exact {q : Rat} {x r : Nat} (h : IsRd q r) (hx : Fin x) (hq : q = val x) : Fin r ∧ val r = q := by
  subst hq
  have hn : Near (ab (val x) * V) (rung x) := by
    rw [ab_val]
    have vu := UV
    have e : ((mg (rung x) : Nat) : Rat) * U * V = ((mg (rung x) : Nat) : Rat) := by grind
    rw [e]; exact near_self _
  obtain ⟨s, k, rfl, hk, hp, hm⟩ := h
  obtain rfl := near_unique hk hn
  have hf := (wd_fin (s := s) hx).1
  refine ⟨hf, ?_⟩
  obtain ⟨k', hn', hr', hv⟩ := IsRd.val_eq ⟨s, _, rfl, hk, hp, hm⟩ hf
  obtain rfl := near_unique hn' hn
  rw [hv, Rat.neg_mul, ← ab_val]
  unfold ab
  split <;> grind

theorem read_number {x : Nat} (h : Fin x) : ∃ m i, double.read x = .number (ng x) m i := by
  obtain ⟨m, i, h, _⟩ := read_fin x h; exact ⟨m, i, h⟩

theorem order_fin {x y : Nat} (hx : Fin x) (hy : Fin y) :
    (double.order x y == some .lt) = decide (val x < val y) ∧ (double.order x y == some .eq) = decide (val x = val y) ∧ (double.order x y == some .gt) = decide (val y < val x) := by
  obtain ⟨m, i, e1, _, _, v1, _, _⟩ := read_fin x hx
  obtain ⟨n, j, e2, _, _, v2, _, _⟩ := read_fin y hy
  unfold Format.order
  rw [e1, e2]
  unfold Datum.order
  dsimp only
  have a := signed_val (ng x) m (i - min i j).toNat (min i j)
  have b := signed_val (ng y) n (j - min i j).toNat (min i j)
  rw [show (((i - min i j).toNat : Nat) : Int) + min i j = i by omega, ← val_read v1] at a
  rw [show (((j - min i j).toNat : Nat) : Int) + min i j = j by omega, ← val_read v2] at b
  have hp : (0 : Rat) < (2 : Rat) ^ (min i j) := Rat.zpow_pos (by decide)
  generalize (2 : Rat) ^ (min i j) = P at *
  generalize signed (ng x) m (i - min i j).toNat = X at *
  generalize signed (ng y) n (j - min i j).toNat = Y at *
  rw [← a, ← b]
  have l1 : (X : Rat) * P < (Y : Rat) * P ↔ X < Y := by rw [Rat.mul_lt_mul_right hp, Rat.intCast_lt_intCast]
  have l2 : (Y : Rat) * P < (X : Rat) * P ↔ Y < X := by rw [Rat.mul_lt_mul_right hp, Rat.intCast_lt_intCast]
  have l3 : (X : Rat) * P = (Y : Rat) * P ↔ X = Y := by
    constructor
    · intro h
      by_cases h1 : X < Y
      · have := l1.2 h1; grind
      · by_cases h2 : Y < X
        · have := l2.2 h2; grind
        · omega
    · rintro rfl; rfl
  have c1 : compare X Y = .lt ↔ X < Y := Std.compare_eq_lt
  have c2 : compare X Y = .eq ↔ X = Y := Std.compare_eq_iff_eq
  have c3 : compare X Y = .gt ↔ Y < X := Std.compare_eq_gt
  refine ⟨?_, ?_, ?_⟩
  · rw [Bool.eq_iff_iff, decide_eq_true_iff, l1, ← c1, beq_iff_eq]; simp
  · rw [Bool.eq_iff_iff, decide_eq_true_iff, l3, ← c2, beq_iff_eq]; simp
  · rw [Bool.eq_iff_iff, decide_eq_true_iff, l2, ← c3, beq_iff_eq]; simp

/-! ### division -/
theorem mg_mul (k : Nat) : ∃ t : Nat, mg k = t * 2 ^ ex k ∧ t < 9007199254740992 ∧ (0 < ex k → 4503599627370496 ≤ t) := by
  obtain ⟨E, t, hk, h1, h2, hE⟩ := rung_form k
  refine ⟨t, ?_, h2, ?_⟩
  · rw [← hE, hk]; exact mg_at E t h1 (by omega)
  · rw [← hE]; omega

theorem is_mul (c e : Nat) (G : Int) (h : G ≤ (e : Int)) : ∃ z : Int, ((c * 2 ^ e : Nat) : Rat) = (z : Rat) * (2 : Rat) ^ G := by
  refine ⟨(c : Int) * (2 ^ ((e : Int) - G).toNat : Nat), ?_⟩
  rw [Rat.natCast_mul, Rat.intCast_mul, Rat.intCast_natCast, Rat.intCast_natCast, ← pow_nat, ← pow_nat, Rat.mul_assoc, ← pow_add']
  congr 2; omega

theorem near_sticky {Q Q' : Rat} {F : Int} {k : Nat} (hN : Near Q' k) (hge : 18014398509481984 * (2 : Rat) ^ F ≤ Q')
    (heq : ∀ z : Int, (Q ≤ (z : Rat) * (2 : Rat) ^ (F + 1) ↔ Q' ≤ (z : Rat) * (2 : Rat) ^ (F + 1)) ∧ ((z : Rat) * (2 : Rat) ^ (F + 1) ≤ Q ↔ (z : Rat) * (2 : Rat) ^ (F + 1) ≤ Q')) : Near Q k := by
  have hF1 : (2 : Rat) ^ (F + 1) = 2 * (2 : Rat) ^ F := by rw [pow_add']; rw [show (2 : Rat) ^ (1 : Int) = 2 from Rat.zpow_one 2]; grind
  have hF2 : (2 : Rat) ^ (F + 2) = 2 * (2 : Rat) ^ (F + 1) := by
    rw [show F + 2 = F + 1 + 1 by omega, pow_add' (F + 1)]; rw [show (2 : Rat) ^ (1 : Int) = 2 from Rat.zpow_one 2]; grind
  -- the exponent of k
  have hex : F + 2 ≤ (ex k : Int) := by
    refine Int.le_of_not_gt fun hlt => ?_
    obtain ⟨t, e1, e2, _⟩ := mg_mul k
    have hi := hN.hi
    have hb : mg k + mg (k + 1) < 2 * (9007199254740992 * 2 ^ ex k) := by
      rw [mg_succ, e1]
      have : t * 2 ^ ex k + 2 ^ ex k ≤ 9007199254740992 * 2 ^ ex k := by
        rw [← Nat.succ_mul]; exact Nat.mul_le_mul_right _ (by omega)
      have := Nat.two_pow_pos (ex k)
      omega
    have hb' : ((mg k + mg (k + 1) : Nat) : Rat) < ((2 * (9007199254740992 * 2 ^ ex k) : Nat) : Rat) := Rat.natCast_lt_natCast.2 hb
    rw [Rat.natCast_mul 2, Rat.natCast_mul 9007199254740992, ← pow_nat] at hb'
    have hle : (2 : Rat) ^ (ex k : Int) ≤ (2 : Rat) ^ (F + 1) := by
      obtain ⟨d, hd⟩ : ∃ d : Nat, F + 1 = (ex k : Int) + d := ⟨(F + 1 - ex k).toNat, by omega⟩
      rw [hd, pow_add', pow_nat d]
      have : (1 : Rat) ≤ ((2 ^ d : Nat) : Rat) := by
        rw [show (1 : Rat) = ((1 : Nat) : Rat) by rfl, Rat.natCast_le_natCast]; exact Nat.two_pow_pos d
      have hp : (0 : Rat) ≤ (2 : Rat) ^ (ex k : Int) := Rat.zpow_nonneg (by decide)
      have := Rat.mul_le_mul_of_nonneg_left this hp
      grind
    rw [hF1] at hle
    rw [show ((2 : Nat) : Rat) = 2 by rfl, show ((9007199254740992 : Nat) : Rat) = 9007199254740992 by rfl] at hb'
    grind
  -- midpoints are multiples of 2^(F+1)
  have mid : ∀ N : Nat, (∃ z : Int, (N : Rat) = (z : Rat) * (2 : Rat) ^ (F + 2)) → (2 * Q ≤ (N : Rat) ↔ 2 * Q' ≤ (N : Rat)) ∧ ((N : Rat) ≤ 2 * Q ↔ (N : Rat) ≤ 2 * Q') := by
    rintro N ⟨z, hz⟩
    rw [hz, hF2]
    have := heq z
    generalize (2 : Rat) ^ (F + 1) = P at *
    have e1 : 2 * Q ≤ (z : Rat) * (2 * P) ↔ Q ≤ (z : Rat) * P := by grind
    have e2 : 2 * Q' ≤ (z : Rat) * (2 * P) ↔ Q' ≤ (z : Rat) * P := by grind
    have e3 : (z : Rat) * (2 * P) ≤ 2 * Q ↔ (z : Rat) * P ≤ Q := by grind
    have e4 : (z : Rat) * (2 * P) ≤ 2 * Q' ↔ (z : Rat) * P ≤ Q' := by grind
    rw [e1, e2, e3, e4]; exact this
  have mul_k : ∀ c : Nat, ∃ z : Int, ((c * 2 ^ ex k : Nat) : Rat) = (z : Rat) * (2 : Rat) ^ (F + 2) := fun c => is_mul c (ex k) (F + 2) hex
  obtain ⟨t, e1, e2, e3⟩ := mg_mul k
  have hiN : ∃ z : Int, ((mg k + mg (k + 1) : Nat) : Rat) = (z : Rat) * (2 : Rat) ^ (F + 2) := by
    rw [mg_succ, e1, show t * 2 ^ ex k + (t * 2 ^ ex k + 2 ^ ex k) = (2 * t + 1) * 2 ^ ex k by grind]
    exact mul_k _
  obtain ⟨m1, m2⟩ := mid _ hiN
  -- below
  have low : ∀ j, k = j + 1 → (∃ z : Int, ((mg j + mg k : Nat) : Rat) = (z : Rat) * (2 : Rat) ^ (F + 2)) ∨ ((mg j + mg k : Nat) : Rat) < 2 * Q := by
    intro j hj
    by_cases hje : F + 2 ≤ (ex j : Int)
    · left
      obtain ⟨t', f1, _, _⟩ := mg_mul j
      have hs := mg_succ j
      rw [← hj] at hs
      rw [hs, f1, show t' * 2 ^ ex j + (t' * 2 ^ ex j + 2 ^ ex j) = (2 * t' + 1) * 2 ^ ex j by grind]
      exact is_mul _ (ex j) (F + 2) hje
    · right
      -- k is the foot of a binade
      have hjk : ex j ≤ ex k ∧ ex k ≤ ex j + 1 := by subst hj; unfold ex; omega
      have hk1 : (ex k : Int) = F + 2 := by omega
      have hj1 : ex k = ex j + 1 := by omega
      have hkf : k = ex k * 4503599627370496 + 4503599627370496 := by subst hj; unfold ex at *; omega
      have hmk : mg k = 4503599627370496 * 2 ^ ex k := by
        have := mg_at (ex k) 4503599627370496 (by omega) (by omega)
        rw [← hkf] at this; exact this
      have hQ' : ((mg k : Nat) : Rat) ≤ Q' := by
        rw [hmk, Rat.natCast_mul, ← pow_nat, hk1, hF2, hF1, show ((4503599627370496 : Nat) : Rat) = 4503599627370496 by rfl]
        grind
      obtain ⟨z, hz⟩ := is_mul 4503599627370496 (ex k) (F + 1) (by omega)
      rw [← hmk] at hz
      have hQ : ((mg k : Nat) : Rat) ≤ Q := by
        rw [hz] at hQ' ⊢
        exact (heq z).2.2 hQ'
      have : ((mg j : Nat) : Rat) < ((mg k : Nat) : Rat) := Rat.natCast_lt_natCast.2 (mg_lt (by omega))
      rw [Rat.natCast_add]
      grind
  constructor
  · exact m1.2 hN.hi
  · intro h
    have a1 := m1.1 (by rw [h]; exact Rat.le_refl)
    have a2 := m2.1 (by rw [h]; exact Rat.le_refl)
    exact hN.hiE (Rat.le_antisymm a1 a2)
  · intro j hj
    rcases low j hj with hz | hl
    · exact (mid _ hz).2.2 (hN.lo j hj)
    · exact Rat.le_of_lt hl
  · intro j hj h
    rcases low j hj with hz | hl
    · have a1 := (mid _ hz).2.1 (by rw [h]; exact Rat.le_refl)
      have a2 := (mid _ hz).1.1 (by rw [h]; exact Rat.le_refl)
      exact hN.loE j hj (Rat.le_antisymm a1 a2)
    · exact absurd h (Rat.ne_of_lt hl)

/-- floor and sticky digit tell all even whole numbers apart as the quotient itself does -/
theorem sticky_iff (a n : Nat) (hn : 0 < n) (z : Int) :
    (2 * ((a : Rat) / (n : Rat)) ≤ (z : Rat) * 2 ↔ ((2 * (a / n) + (a % n != 0).toNat : Nat) : Rat) ≤ (z : Rat) * 2) ∧ ((z : Rat) * 2 ≤ 2 * ((a : Rat) / (n : Rat)) ↔ (z : Rat) * 2 ≤ ((2 * (a / n) + (a % n != 0).toNat : Nat) : Rat)) := by
  have hnr : (0 : Rat) < (n : Rat) := Rat.natCast_pos.2 hn
  have hne : (n : Rat) ≠ 0 := Rat.ne_of_gt hnr
  have hdm := Nat.div_add_mod a n
  have hlt := Nat.mod_lt a hn
  have hcast : (a : Rat) = (n : Rat) * ((a / n : Nat) : Rat) + ((a % n : Nat) : Rat) := by
    rw [← Rat.natCast_mul, ← Rat.natCast_add, hdm]
  obtain ⟨t, ht⟩ : ∃ t : Rat, t = (a : Rat) / (n : Rat) := ⟨_, rfl⟩
  have hmul : t * (n : Rat) = (a : Rat) := by rw [ht]; exact Rat.div_mul_cancel hne
  rw [← ht]
  generalize a / n = f at *
  generalize a % n = r at *
  have i1 : ∀ (z : Int) (k : Nat), ((k : Nat) : Rat) ≤ (z : Rat) * 2 ↔ (k : Int) ≤ z * 2 := by
    intro z k
    rw [show (z : Rat) * 2 = ((z * 2 : Int) : Rat) by rw [Rat.intCast_mul]; rfl, ← Rat.intCast_natCast, Rat.intCast_le_intCast]
  have i2 : ∀ (z : Int) (k : Nat), (z : Rat) * 2 ≤ ((k : Nat) : Rat) ↔ z * 2 ≤ (k : Int) := by
    intro z k
    rw [show (z : Rat) * 2 = ((z * 2 : Int) : Rat) by rw [Rat.intCast_mul]; rfl, ← Rat.intCast_natCast, Rat.intCast_le_intCast]
  rw [i1, i2]
  -- t between f and f + 1
  have tf : (f : Rat) ≤ t := by
    apply Rat.le_of_mul_le_mul_right (c := (n : Rat)) _ hnr
    have : (0 : Rat) ≤ (r : Rat) := Rat.natCast_nonneg
    grind
  have tf1 : t < (f : Rat) + 1 := by
    have : (r : Rat) < (n : Rat) := Rat.natCast_lt_natCast.2 hlt
    apply (Rat.mul_lt_mul_right hnr).1
    grind
  by_cases hr : r = 0
  · subst hr
    have te : t = (f : Rat) := by
      have h0 : ((0 : Nat) : Rat) = 0 := rfl
      rw [h0] at hcast
      have : t * (n : Rat) = (f : Rat) * (n : Rat) := by grind
      have h1 : t ≤ (f : Rat) := Rat.le_of_mul_le_mul_right (by rw [this]; exact Rat.le_refl) hnr
      exact Rat.le_antisymm h1 tf
    have hs : ((0 : Nat) != 0).toNat = 0 := rfl
    rw [hs, te]
    have e : 2 * (f : Rat) = ((2 * f : Nat) : Rat) := by rw [Rat.natCast_mul]; rfl
    rw [e, i1, i2]
    simp
  · have hs : (r != 0).toNat = 1 := by simp [hr]
    rw [hs]
    have tf0 : (f : Rat) < t := by
      apply (Rat.mul_lt_mul_right hnr).1
      have : (0 : Rat) < (r : Rat) := Rat.natCast_pos.2 (by omega)
      grind
    constructor
    · constructor
      · intro h
        have : (f : Rat) < (z : Rat) := by grind
        rw [← Rat.intCast_natCast, Rat.intCast_lt_intCast] at this
        omega
      · intro h
        have : (f : Int) + 1 ≤ z := by omega
        rw [← Rat.intCast_le_intCast, Rat.intCast_add, Rat.intCast_natCast] at this
        have h1 : ((1 : Int) : Rat) = 1 := rfl
        grind
    · constructor
      · intro h
        have : (z : Rat) < (f : Rat) + 1 := by grind
        rw [← Rat.intCast_natCast, show ((f : Int) : Rat) + 1 = ((f + 1 : Int) : Rat) by rw [Rat.intCast_add]; rfl, Rat.intCast_lt_intCast] at this
        omega
      · intro h
        have : z ≤ (f : Int) := by omega
        rw [← Rat.intCast_le_intCast, Rat.intCast_natCast] at this
        grind

theorem div_spec {x y : Nat} (hx : Fin x) (hy : Fin y) (hne : val y ≠ 0) : ∃ r, double.div x y = some r ∧ IsRd (val x / val y) r := by
  obtain ⟨m, i, e1, a1, _, v1, _, _⟩ := read_fin x hx
  obtain ⟨n, j, e2, a2, _, v2, _, _⟩ := read_fin y hy
  have hn : n ≠ 0 := by
    rintro rfl
    apply hne
    rw [val_read v2, show ((0 : Nat) : Rat) = 0 by rfl]
    split <;> grind
  unfold Format.div
  rw [e1, e2, show double.fractionBits + 2 = 54 from rfl]
  unfold Datum.quotient
  dsimp only
  rw [if_neg hn]
  refine ⟨_, rfl, ?_⟩
  obtain ⟨mo, hmo⟩ : ∃ mo, mo = 54 + n.log2 - m.log2 := ⟨_, rfl⟩
  rw [← hmo, Nat.shiftLeft_eq]
  have hpm : (0 : Rat) < (2 : Rat) ^ (i - j - mo) := Rat.zpow_pos (by decide)
  have hnr : (0 : Rat) < (n : Rat) := Rat.natCast_pos.2 (by omega)
  -- the quotient's size
  have hq : ab (val x / val y) = ((m * 2 ^ mo : Nat) : Rat) / (n : Rat) * (2 : Rat) ^ (i - j - mo) := by
    have hy' : ab (val y) ≠ 0 := by rw [Ne, ab_zero_iff]; exact hne
    have h1 : ab (val x / val y) * ab (val y) = ab (val x) := by rw [← ab_mul, Rat.div_mul_cancel hne]
    have h2 : ab (val x) = (m : Rat) * (2 : Rat) ^ i := by rw [ab_val, v1]
    have h3 : ab (val y) = (n : Rat) * (2 : Rat) ^ j := by rw [ab_val, v2]
    have h4 : ((m * 2 ^ mo : Nat) : Rat) / (n : Rat) * (2 : Rat) ^ (i - j - mo) * ab (val y) = ab (val x) := by
      rw [h2, h3, Rat.natCast_mul, ← pow_nat]
      have e : (2 : Rat) ^ i = (2 : Rat) ^ (mo : Int) * ((2 : Rat) ^ (i - j - mo) * (2 : Rat) ^ j) := by
        rw [← pow_add', ← pow_add']; congr 1; omega
      rw [e]
      have h5 : (m : Rat) * (2 : Rat) ^ (mo : Int) / (n : Rat) * (n : Rat) = (m : Rat) * (2 : Rat) ^ (mo : Int) := Rat.div_mul_cancel (Rat.ne_of_gt hnr)
      grind
    have h6 : ab (val x / val y) * ab (val y) = ((m * 2 ^ mo : Nat) : Rat) / (n : Rat) * (2 : Rat) ^ (i - j - mo) * ab (val y) := by rw [h1, h4]
    have := congrArg (· / ab (val y)) h6
    simp only [Rat.mul_div_cancel hy'] at this
    exact this
  have sg : (0 < val x / val y → (ng x ^^ ng y) = false) ∧ (val x / val y < 0 → (ng x ^^ ng y) = true) := by
    have hd := Rat.div_mul_cancel (a := val x) hne
    have sx' : val x = if ng x then -((m : Rat) * (2 : Rat) ^ i) else (m : Rat) * (2 : Rat) ^ i := by rw [← Rat.neg_mul]; exact val_read v1
    have sy' : val y = if ng y then -((n : Rat) * (2 : Rat) ^ j) else (n : Rat) * (2 : Rat) ^ j := by rw [← Rat.neg_mul]; exact val_read v2
    have px : (0 : Rat) ≤ (m : Rat) * (2 : Rat) ^ i := Rat.mul_nonneg Rat.natCast_nonneg (Rat.zpow_nonneg (by decide))
    have py : (0 : Rat) ≤ (n : Rat) * (2 : Rat) ^ j := Rat.mul_nonneg Rat.natCast_nonneg (Rat.zpow_nonneg (by decide))
    generalize (m : Rat) * (2 : Rat) ^ i = M at *
    generalize (n : Rat) * (2 : Rat) ^ j = N at *
    clear v1 v2 hq hpm hnr e1 e2 hmo
    generalize val x / val y = q at *
    constructor
    · intro hq
      by_cases hy0 : 0 < val y
      · have : 0 < val x := by rw [← hd]; exact Rat.mul_pos hq hy0
        cases h1 : ng x <;> cases h2 : ng y <;> simp [h1, h2] at sx' sy' ⊢ <;> grind
      · have hy1 : 0 < -val y := by grind
        have : 0 < -val x := by rw [← hd, ← Rat.mul_neg]; exact Rat.mul_pos hq hy1
        cases h1 : ng x <;> cases h2 : ng y <;> simp [h1, h2] at sx' sy' ⊢ <;> grind
    · intro hq
      have hq' : 0 < -q := by grind
      by_cases hy0 : 0 < val y
      · have : 0 < -val x := by rw [← hd, ← Rat.neg_mul]; exact Rat.mul_pos hq' hy0
        cases h1 : ng x <;> cases h2 : ng y <;> simp [h1, h2] at sx' sy' ⊢ <;> grind
      · have hy1 : 0 < -val y := by grind
        have : 0 < val x := by
          have := Rat.mul_pos hq' hy1
          grind
        cases h1 : ng x <;> cases h2 : ng y <;> simp [h1, h2] at sx' sy' ⊢ <;> grind
  obtain ⟨k, k1, k2⟩ := nearest_spec (ng x ^^ ng y) (2 * (m * 2 ^ mo / n) + (m * 2 ^ mo % n != 0).toNat) (i - j - mo - 1)
  refine ⟨_, k, k2, ?_, sg.1, sg.2⟩
  rw [hq]
  unfold V
  rw [Rat.mul_assoc, ← pow_add']
  by_cases hm : m = 0
  · subst hm
    rw [Nat.zero_mul] at k1 ⊢
    rw [Nat.zero_div, Nat.zero_mod] at k1
    have e0 : ((2 * 0 + ((0 : Nat) != 0).toNat : Nat) : Rat) = 0 := rfl
    rw [e0, Rat.zero_mul] at k1
    rw [show ((0 : Nat) : Rat) = 0 by rfl, Rat.div_def, Rat.zero_mul, Rat.zero_mul]
    exact k1
  · refine near_sticky (F := i - j - mo - 1 + 1074) k1 ?_ ?_
    · -- many digits
      have hl1 : 2 ^ m.log2 ≤ m := Nat.log2_self_le hm
      have hl2 : n < 2 ^ (n.log2 + 1) := Nat.lt_log2_self
      have hbig : 9007199254740992 ≤ m * 2 ^ mo / n := by
        rw [Nat.le_div_iff_mul_le (by omega)]
        have h1 : 2 ^ (54 + n.log2) ≤ 2 ^ (m.log2 + mo) := Nat.pow_le_pow_right (by omega) (by omega)
        rw [Nat.pow_add 2 m.log2] at h1
        have h2 : 2 ^ m.log2 * 2 ^ mo ≤ m * 2 ^ mo := Nat.mul_le_mul_right _ hl1
        have h3 : 9007199254740992 * 2 ^ (n.log2 + 1) = 2 ^ (54 + n.log2) := by
          rw [show 54 + n.log2 = 53 + (n.log2 + 1) by omega, Nat.pow_add 2 53]
        have h4 : 9007199254740992 * n ≤ 9007199254740992 * 2 ^ (n.log2 + 1) := Nat.mul_le_mul_left _ (by omega)
        omega
      have hp : (0 : Rat) ≤ (2 : Rat) ^ (i - j - mo - 1 + 1074) := Rat.zpow_nonneg (by decide)
      have : ((18014398509481984 : Nat) : Rat) ≤ ((2 * (m * 2 ^ mo / n) + (m * 2 ^ mo % n != 0).toNat : Nat) : Rat) := Rat.natCast_le_natCast.2 (by omega)
      exact Rat.mul_le_mul_of_nonneg_right this hp
    · intro z
      obtain ⟨s1, s2⟩ := sticky_iff (m * 2 ^ mo) n (by omega) z
      have hF1 : (2 : Rat) ^ (i - j - mo - 1 + 1074 + 1) = 2 * (2 : Rat) ^ (i - j - mo - 1 + 1074) := by
        rw [pow_add' _ 1]; rw [show (2 : Rat) ^ (1 : Int) = 2 from Rat.zpow_one 2]; grind
      have hF0 : (2 : Rat) ^ (i - j - mo + 1074) = 2 * (2 : Rat) ^ (i - j - mo - 1 + 1074) := by
        rw [← hF1]; congr 1; omega
      have hp : (0 : Rat) < (2 : Rat) ^ (i - j - mo - 1 + 1074) := Rat.zpow_pos (by decide)
      rw [hF1, hF0]
      generalize (2 : Rat) ^ (i - j - mo - 1 + 1074) = P at *
      generalize ((m * 2 ^ mo : Nat) : Rat) / (n : Rat) = t at *
      generalize ((2 * (m * 2 ^ mo / n) + (m * 2 ^ mo % n != 0).toNat : Nat) : Rat) = M at *
      have r1 : ∀ a b : Rat, a * P ≤ b * P ↔ a ≤ b := fun a b =>
        ⟨fun h => Rat.le_of_mul_le_mul_right h hp, fun h => Rat.mul_le_mul_of_nonneg_right h (Rat.le_of_lt hp)⟩
      have g1 : t * (2 * P) = 2 * t * P := by grind
      have g2 : (z : Rat) * (2 * P) = (z : Rat) * 2 * P := by grind
      rw [g1, g2, r1, r1, r1, r1]
      exact ⟨s1, s2⟩

/-! ### the sign bit turned -/
theorem rung_neg (b : Nat) : rung (b ^^^ 2 ^ 63) = rung b := by
  unfold rung
  rw [show (9223372036854775808 : Nat) = 2 ^ 63 by decide, Nat.xor_mod_two_pow]
  simp

theorem ng_neg (b : Nat) : ng (b ^^^ 2 ^ 63) = !ng b := by
  unfold ng
  rw [show (9223372036854775808 : Nat) = 2 ^ 63 by decide, Nat.xor_div_two_pow, Nat.div_self (by decide)]
  have h : (b / 2 ^ 63 ^^^ 1) % 2 = (b / 2 ^ 63 % 2) ^^^ 1 := by
    have := Nat.xor_mod_two_pow (a := b / 2 ^ 63) (b := 1) (n := 1)
    simpa using this
  rw [h]
  have : b / 2 ^ 63 % 2 = 0 ∨ b / 2 ^ 63 % 2 = 1 := by omega
  rcases this with e | e <;> rw [e] <;> rfl

/-- '-x' -/
def fneg (b : Nat) : Nat := b ^^^ 2 ^ 63
theorem fin_neg {b : Nat} : Fin (fneg b) ↔ Fin b := by unfold Fin fneg; rw [rung_neg]

theorem val_neg (b : Nat) : val (fneg b) = -val b := by
  unfold val fneg
  rw [rung_neg, ng_neg]
  cases ng b <;> simp <;> grind

/-! ### words that are not finite -/
theorem read_not_fin {x : Nat} (h : ¬ Fin x) : double.read x = .infinity (ng x) ∨ double.read x = .nan (ng x) (rung x - 9218868437227405312) := by
  unfold Fin at h
  have hs : double.signWeight = 9223372036854775808 := by decide
  have hb : double.binade = 4503599627370496 := by decide
  have hi : double.infRung = 9218868437227405312 := by decide
  have hl : double.leastPlace = -1074 := by decide
  unfold Format.read
  rw [hs, hb, hi, hl]
  change (if rung x < 4503599627370496 then Datum.number (ng x) (rung x) (-1074) else if rung x < 9218868437227405312 then Datum.number (ng x) (4503599627370496 + rung x % 4503599627370496) (-1074 + ((rung x / 4503599627370496 - 1 : Nat) : Int)) else if rung x = 9218868437227405312 then Datum.infinity (ng x) else Datum.nan (ng x) (rung x - 9218868437227405312)) = _ ∨ (if rung x < 4503599627370496 then Datum.number (ng x) (rung x) (-1074) else if rung x < 9218868437227405312 then Datum.number (ng x) (4503599627370496 + rung x % 4503599627370496) (-1074 + ((rung x / 4503599627370496 - 1 : Nat) : Int)) else if rung x = 9218868437227405312 then Datum.infinity (ng x) else Datum.nan (ng x) (rung x - 9218868437227405312)) = _
  rw [if_neg (by omega), if_neg h]
  by_cases e : rung x = 9218868437227405312
  · rw [if_pos e]; exact Or.inl rfl
  · rw [if_neg e]; exact Or.inr rfl

theorem order_not_fin {x c : Nat} (h : ¬ Fin x) (hc : Fin c) : double.order x c = none ∨ double.order x c = some (if ng x then .lt else .gt) := by
  obtain ⟨m, i, e⟩ := read_number hc
  unfold Format.order
  rw [e]
  rcases read_not_fin h with r | r <;> rw [r]
  · right; rfl
  · left; rfl

/-- 'd <= x && x <= c' with finite bounds: x is finite -/
theorem fin_of_bounds {x c d : Nat} (hc : Fin c) (hd : Fin d) (h1 : (double.order x c == some .lt || double.order x c == some .eq) = true) (h2 : (double.order x d == some .gt || double.order x d == some .eq) = true) : Fin x := by
  refine Decidable.byContradiction fun hn => ?_
  rcases order_not_fin hn hc with e | e
  · rw [e] at h1; simp at h1
  · rcases order_not_fin hn hd with e' | e'
    · rw [e'] at h2; simp at h2
    · rw [e] at h1; rw [e'] at h2
      cases hg : ng x <;> simp [hg] at h1 h2

theorem le_fin {x y : Nat} (hx : Fin x) (hy : Fin y) : (double.order x y == some .lt || double.order x y == some .eq) = decide (val x ≤ val y) := by
  obtain ⟨h1, h2, _⟩ := order_fin hx hy
  rw [h1, h2, Bool.eq_iff_iff]; simp only [Bool.or_eq_true, decide_eq_true_eq]; grind
theorem ge_fin {x y : Nat} (hx : Fin x) (hy : Fin y) : (double.order x y == some .gt || double.order x y == some .eq) = decide (val y ≤ val x) := by
  obtain ⟨_, h2, h3⟩ := order_fin hx hy
  rw [h2, h3, Bool.eq_iff_iff]; simp only [Bool.or_eq_true, decide_eq_true_eq]; grind

/-! ### the operations as functions of words (where they have an answer) -/
def fadd (x y : Nat) : Nat := (double.add x y).getD 0
def fsub (x y : Nat) : Nat := (double.sub x y).getD 0
def fmul (x y : Nat) : Nat := (double.mul x y).getD 0
def fdiv (x y : Nat) : Nat := (double.div x y).getD 0

theorem fadd_ok {x y : Nat} (hx : Fin x) (hy : Fin y) : double.add x y = some (fadd x y) ∧ IsRd (val x + val y) (fadd x y) := by
  obtain ⟨r, h, hr⟩ := add_spec hx hy
  have : fadd x y = r := by unfold fadd; rw [h]; rfl
  rw [this]; exact ⟨h, hr⟩
theorem fsub_ok {x y : Nat} (hx : Fin x) (hy : Fin y) : double.sub x y = some (fsub x y) ∧ IsRd (val x - val y) (fsub x y) := by
  obtain ⟨r, h, hr⟩ := sub_spec hx hy
  have : fsub x y = r := by unfold fsub; rw [h]; rfl
  rw [this]; exact ⟨h, hr⟩
theorem fmul_ok {x y : Nat} (hx : Fin x) (hy : Fin y) : double.mul x y = some (fmul x y) ∧ IsRd (val x * val y) (fmul x y) := by
  obtain ⟨r, h, hr⟩ := mul_spec hx hy
  have : fmul x y = r := by unfold fmul; rw [h]; rfl
  rw [this]; exact ⟨h, hr⟩
theorem fdiv_ok {x y : Nat} (hx : Fin x) (hy : Fin y) (hne : val y ≠ 0) : double.div x y = some (fdiv x y) ∧ IsRd (val x / val y) (fdiv x y) := by
  obtain ⟨r, h, hr⟩ := div_spec hx hy hne
  have : fdiv x y = r := by unfold fdiv; rw [h]; rfl
  rw [this]; exact ⟨h, hr⟩

/-! ### errors: 'u' is 2^-53, 'U / 2' is 2^-1075 -/
theorem fadd_err {x y : Nat} (hx : Fin x) (hy : Fin y) (hb : ab (val x + val y) ≤ BIG) : Fin (fadd x y) ∧ ab (val (fadd x y) - (val x + val y)) ≤ ab (val x + val y) / 9007199254740992 := by
  obtain ⟨_, h⟩ := fadd_ok hx hy
  obtain ⟨a, ha⟩ := val_int x
  obtain ⟨b, hb'⟩ := val_int y
  exact h.errInt hb (a + b) (by rw [ha, hb', Rat.intCast_add]; grind)
theorem fsub_err {x y : Nat} (hx : Fin x) (hy : Fin y) (hb : ab (val x - val y) ≤ BIG) : Fin (fsub x y) ∧ ab (val (fsub x y) - (val x - val y)) ≤ ab (val x - val y) / 9007199254740992 := by
  obtain ⟨_, h⟩ := fsub_ok hx hy
  obtain ⟨a, ha⟩ := val_int x
  obtain ⟨b, hb'⟩ := val_int y
  exact h.errInt hb (a - b) (by rw [ha, hb', Rat.intCast_sub]; grind)
theorem IsRd.errSum {q : Rat} {r : Nat} (h : IsRd q r) (hb : ab q ≤ BIG) : Fin r ∧ ab (val r - q) ≤ ab q / 9007199254740992 + U / 2 := by
  obtain ⟨hf, he⟩ := h.err hb
  refine ⟨hf, ?_⟩
  have := ab_nonneg q
  have := U_pos
  rcases he with he | he <;> grind
theorem fmul_err {x y : Nat} (hx : Fin x) (hy : Fin y) (hb : ab (val x * val y) ≤ BIG) : Fin (fmul x y) ∧ ab (val (fmul x y) - val x * val y) ≤ ab (val x * val y) / 9007199254740992 + U / 2 :=
  (fmul_ok hx hy).2.errSum hb
theorem fdiv_err {x y : Nat} (hx : Fin x) (hy : Fin y) (hne : val y ≠ 0) (hb : ab (val x / val y) ≤ BIG) : Fin (fdiv x y) ∧ ab (val (fdiv x y) - val x / val y) ≤ ab (val x / val y) / 9007199254740992 + U / 2 :=
  (fdiv_ok hx hy hne).2.errSum hb

/-- 'if v < 0 { return -v }; return v' -/
def fabs (x : Nat) : Nat := if double.order x 0 == some .lt then fneg x else x
theorem fin_zero : Fin 0 := by decide
theorem val_zero : val 0 = 0 := by
  unfold val
  rw [show rung 0 = 0 by decide, show ng 0 = false by decide, mg_zero]
  simp
theorem fabs_fin {x : Nat} (hx : Fin x) : Fin (fabs x) ∧ val (fabs x) = ab (val x) := by
  obtain ⟨h1, _, _⟩ := order_fin hx fin_zero
  unfold fabs ab
  rw [h1, val_zero]
  by_cases h : val x < 0
  · simp only [h, decide_true, if_true]
    exact ⟨fin_neg.2 hx, val_neg x⟩
  · simp [h]; exact hx

/-- a row times a vector, as the program computes it -/
def mrow (c0 c1 c2 x0 x1 x2 : Nat) : Nat := fadd (fadd (fmul x0 c0) (fmul x1 c1)) (fmul x2 c2)
/-- no step of it leaves the finite numbers -/
structure RowFin (c0 c1 c2 x0 x1 x2 : Nat) : Prop where
  fc0 : Fin c0
  fc1 : Fin c1
  fc2 : Fin c2
  fx0 : Fin x0
  fx1 : Fin x1
  fx2 : Fin x2
  p0 : Fin (fmul x0 c0)
  p1 : Fin (fmul x1 c1)
  p2 : Fin (fmul x2 c2)
  s : Fin (fadd (fmul x0 c0) (fmul x1 c1))

theorem U_le : U ≤ BIG / 1000000000000 := by decide +kernel

theorem mul_step {x c : Nat} {a : Rat} (hx : Fin x) (hc : Fin c) (h4 : ab (val c) ≤ 4) (hxa : ab (val x) ≤ a) (ha : a ≤ BIG / 64) :
    Fin (fmul x c) ∧ ab (val (fmul x c) - val c * val x) ≤ 4 * a / 9007199254740992 + U / 2 ∧ ab (val (fmul x c)) ≤ 5 * a + U / 2 := by
  have hx0 := ab_nonneg (val x)
  have hm : ab (val x * val c) ≤ 4 * a := by
    rw [ab_mul]
    have h1 := Rat.mul_le_mul_of_nonneg_left h4 hx0
    grind
  obtain ⟨hf, he⟩ := fmul_err hx hc (by grind)
  have e : val c * val x = val x * val c := Rat.mul_comm _ _
  rw [e]
  refine ⟨hf, by grind, ?_⟩
  have := ab_add (val (fmul x c) - val x * val c) (val x * val c)
  have e2 : val (fmul x c) - val x * val c + val x * val c = val (fmul x c) := by grind
  rw [e2] at this
  grind

/-- the error of a row times a vector, entries at most 4: A bounds the vector's entries together -/
theorem row_err {c0 c1 c2 x0 x1 x2 : Nat} {A : Rat} (k0 : Fin c0) (k1 : Fin c1) (k2 : Fin c2) (b0 : ab (val c0) ≤ 4) (b1 : ab (val c1) ≤ 4) (b2 : ab (val c2) ≤ 4)
    (hx0 : Fin x0) (hx1 : Fin x1) (hx2 : Fin x2) (hA : ab (val x0) + ab (val x1) + ab (val x2) ≤ A) (hB : A ≤ BIG / 64) :
    RowFin c0 c1 c2 x0 x1 x2 ∧ Fin (mrow c0 c1 c2 x0 x1 x2) ∧ ab (val (mrow c0 c1 c2 x0 x1 x2) - (val c0 * val x0 + val c1 * val x1 + val c2 * val x2)) ≤ A * 20 / 9007199254740992 + 2 * U
    ∧ ab (val (mrow c0 c1 c2 x0 x1 x2)) ≤ 6 * A + 2 * U := by
  have n0 := ab_nonneg (val x0)
  have n1 := ab_nonneg (val x1)
  have n2 := ab_nonneg (val x2)
  have up := U_pos
  have ub := U_le
  obtain ⟨f0, e0, q0⟩ := mul_step hx0 k0 b0 Rat.le_refl (by grind)
  obtain ⟨f1, e1, q1⟩ := mul_step hx1 k1 b1 Rat.le_refl (by grind)
  obtain ⟨f2, e2, q2⟩ := mul_step hx2 k2 b2 Rat.le_refl (by grind)
  have t1 := ab_add (val (fmul x0 c0)) (val (fmul x1 c1))
  obtain ⟨fs, es⟩ := fadd_err f0 f1 (by grind)
  have ts := ab_add (val (fadd (fmul x0 c0) (fmul x1 c1)) - (val (fmul x0 c0) + val (fmul x1 c1))) (val (fmul x0 c0) + val (fmul x1 c1))
  have es2 : val (fadd (fmul x0 c0) (fmul x1 c1)) - (val (fmul x0 c0) + val (fmul x1 c1)) + (val (fmul x0 c0) + val (fmul x1 c1)) = val (fadd (fmul x0 c0) (fmul x1 c1)) := by grind
  rw [es2] at ts
  have t2 := ab_add (val (fadd (fmul x0 c0) (fmul x1 c1))) (val (fmul x2 c2))
  obtain ⟨fr, er⟩ := fadd_err fs f2 (by grind)
  refine ⟨⟨k0, k1, k2, hx0, hx1, hx2, f0, f1, f2, fs⟩, fr, ?_⟩
  unfold mrow
  generalize val (fadd (fadd (fmul x0 c0) (fmul x1 c1)) (fmul x2 c2)) = R at *
  generalize val (fadd (fmul x0 c0) (fmul x1 c1)) = S at *
  generalize val (fmul x0 c0) = P0 at *
  generalize val (fmul x1 c1) = P1 at *
  generalize val (fmul x2 c2) = P2 at *
  have g0 := le_ab (P0 - val c0 * val x0)
  have g0' := neg_le_ab (P0 - val c0 * val x0)
  have main : ab (R - (val c0 * val x0 + val c1 * val x1 + val c2 * val x2)) ≤ A * 20 / 9007199254740992 + 2 * U := by
    have d1 := ab_add (R - (S + P2)) ((S - (P0 + P1)) + ((P0 - val c0 * val x0) + ((P1 - val c1 * val x1) + (P2 - val c2 * val x2))))
    have d2 := ab_add (S - (P0 + P1)) ((P0 - val c0 * val x0) + ((P1 - val c1 * val x1) + (P2 - val c2 * val x2)))
    have d3 := ab_add (P0 - val c0 * val x0) ((P1 - val c1 * val x1) + (P2 - val c2 * val x2))
    have d4 := ab_add (P1 - val c1 * val x1) (P2 - val c2 * val x2)
    have eq : R - (S + P2) + ((S - (P0 + P1)) + ((P0 - val c0 * val x0) + ((P1 - val c1 * val x1) + (P2 - val c2 * val x2)))) = R - (val c0 * val x0 + val c1 * val x1 + val c2 * val x2) := by grind
    rw [eq] at d1
    generalize ab (R - (val c0 * val x0 + val c1 * val x1 + val c2 * val x2)) = a1 at *
    grind
  refine ⟨main, ?_⟩
  have d1 := ab_add (R - (S + P2)) (S + P2)
  have eq : R - (S + P2) + (S + P2) = R := by grind
  rw [eq] at d1
  grind

theorem fsub_val {x y : Nat} (hx : Fin x) (hy : Fin y) (hb : ab (val x - val y) ≤ BIG) : Fin (fsub x y) ∧ ab (val (fsub x y)) ≤ ab (val x - val y) + ab (val x - val y) / 9007199254740992 := by
  obtain ⟨hf, he⟩ := fsub_err hx hy hb
  refine ⟨hf, ?_⟩
  have := ab_add (val (fsub x y) - (val x - val y)) (val x - val y)
  have e : val (fsub x y) - (val x - val y) + (val x - val y) = val (fsub x y) := by grind
  rw [e] at this
  grind

/-- 'zzAbs(got-want) <= tol' holds where got is within E of want and tol is above E by a little -/
theorem near_ok {g t tol : Nat} {E : Rat} (hg : Fin g) (ht : Fin t) (hto : Fin tol) (hE : ab (val g - val t) ≤ E) (hB : E ≤ BIG) (htol : E + E / 1000 ≤ val tol) :
    Fin (fsub g t) ∧ Fin (fabs (fsub g t)) ∧ (double.order (fabs (fsub g t)) tol == some .lt || double.order (fabs (fsub g t)) tol == some .eq) = true := by
  have h0 := ab_nonneg (val g - val t)
  obtain ⟨hf, hv⟩ := fsub_val hg ht (by grind)
  obtain ⟨ha, hav⟩ := fabs_fin hf
  refine ⟨hf, ha, ?_⟩
  rw [le_fin ha hto, decide_eq_true_iff, hav]
  grind

/-- 'C*s + T' from below: C, s, T not negative -/
theorem tol_low {C s T : Nat} (hC : Fin C) (hs : Fin s) (hT : Fin T) (c0 : 0 ≤ val C) (c1 : val C ≤ 1) (s0 : 0 ≤ val s) (sB : val s ≤ BIG / 64) (t0 : 0 ≤ val T) (tB : val T ≤ 1) :
    Fin (fmul C s) ∧ Fin (fadd (fmul C s) T) ∧ val C * val s * (999 / 1000) + val T * (999 / 1000) - U ≤ val (fadd (fmul C s) T) := by
  have up := U_pos
  have ub := U_le
  have b1 : (1000 : Rat) ≤ BIG := by decide +kernel
  have hp : 0 ≤ val C * val s := Rat.mul_nonneg c0 s0
  have hp1 : val C * val s ≤ val s := by
    have := Rat.mul_le_mul_of_nonneg_right c1 s0
    grind
  obtain ⟨f1, e1⟩ := fmul_err hC hs (by rw [ab_of_nonneg hp]; grind)
  rw [ab_of_nonneg hp, ab_le] at e1
  have hn := (fmul_ok hC hs).2.nonneg f1 hp
  have hn2 : 0 ≤ val (fmul C s) + val T := by grind
  obtain ⟨f2, e2⟩ := fadd_err f1 hT (by rw [ab_of_nonneg hn2]; grind)
  rw [ab_of_nonneg hn2, ab_le] at e2
  refine ⟨f1, f2, ?_⟩
  grind

theorem dot_bound {d0 d1 d2 x0 x1 x2 δ : Rat} (h0 : ab d0 ≤ δ) (h1 : ab d1 ≤ δ) (h2 : ab d2 ≤ δ) : ab (d0 * x0 + d1 * x1 + d2 * x2) ≤ δ * (ab x0 + ab x1 + ab x2) := by
  have a1 := ab_add (d0 * x0 + d1 * x1) (d2 * x2)
  have a2 := ab_add (d0 * x0) (d1 * x1)
  rw [ab_mul] at a1 a2
  rw [ab_mul d1] at a2
  have m0 := Rat.mul_le_mul_of_nonneg_right h0 (ab_nonneg x0)
  have m1 := Rat.mul_le_mul_of_nonneg_right h1 (ab_nonneg x1)
  have m2 := Rat.mul_le_mul_of_nonneg_right h2 (ab_nonneg x2)
  grind

/-- one entry of 'N (M x)' in floats: N M is the unit row i within 1e-10 (k tells which entry is meant) -/
theorem back_err {m00 m01 m02 m10 m11 m12 m20 m21 m22 n0 n1 n2 x0 x1 x2 : Nat} {A : Rat} {i0 i1 i2 δ : Rat}
    (r0 : Fin m00 ∧ Fin m01 ∧ Fin m02 ∧ ab (val m00) ≤ 4 ∧ ab (val m01) ≤ 4 ∧ ab (val m02) ≤ 4)
    (r1 : Fin m10 ∧ Fin m11 ∧ Fin m12 ∧ ab (val m10) ≤ 4 ∧ ab (val m11) ≤ 4 ∧ ab (val m12) ≤ 4)
    (r2 : Fin m20 ∧ Fin m21 ∧ Fin m22 ∧ ab (val m20) ≤ 4 ∧ ab (val m21) ≤ 4 ∧ ab (val m22) ≤ 4)
    (rn : Fin n0 ∧ Fin n1 ∧ Fin n2 ∧ ab (val n0) ≤ 4 ∧ ab (val n1) ≤ 4 ∧ ab (val n2) ≤ 4)
    (d0 : ab (val n0 * val m00 + val n1 * val m10 + val n2 * val m20 - i0) ≤ δ)
    (d1 : ab (val n0 * val m01 + val n1 * val m11 + val n2 * val m21 - i1) ≤ δ)
    (d2 : ab (val n0 * val m02 + val n1 * val m12 + val n2 * val m22 - i2) ≤ δ)
    (hx0 : Fin x0) (hx1 : Fin x1) (hx2 : Fin x2) (hA : ab (val x0) + ab (val x1) + ab (val x2) ≤ A) (hB : A ≤ BIG / 10000) :
    RowFin n0 n1 n2 (mrow m00 m01 m02 x0 x1 x2) (mrow m10 m11 m12 x0 x1 x2) (mrow m20 m21 m22 x0 x1 x2)
    ∧ Fin (mrow n0 n1 n2 (mrow m00 m01 m02 x0 x1 x2) (mrow m10 m11 m12 x0 x1 x2) (mrow m20 m21 m22 x0 x1 x2))
    ∧ ab (val (mrow n0 n1 n2 (mrow m00 m01 m02 x0 x1 x2) (mrow m10 m11 m12 x0 x1 x2) (mrow m20 m21 m22 x0 x1 x2)) - (i0 * val x0 + i1 * val x1 + i2 * val x2)) ≤ δ * A + A * 1000 / 9007199254740992 + 40 * U := by
  have up := U_pos
  have ub := U_le
  have nA : 0 ≤ A := by have := ab_nonneg (val x0); have := ab_nonneg (val x1); have := ab_nonneg (val x2); grind
  have nδ : 0 ≤ δ := Rat.le_trans (ab_nonneg _) d0
  obtain ⟨_, f0, e0, q0⟩ := row_err r0.1 r0.2.1 r0.2.2.1 r0.2.2.2.1 r0.2.2.2.2.1 r0.2.2.2.2.2 hx0 hx1 hx2 hA (by grind)
  obtain ⟨_, f1, e1, q1⟩ := row_err r1.1 r1.2.1 r1.2.2.1 r1.2.2.2.1 r1.2.2.2.2.1 r1.2.2.2.2.2 hx0 hx1 hx2 hA (by grind)
  obtain ⟨_, f2, e2, q2⟩ := row_err r2.1 r2.2.1 r2.2.2.1 r2.2.2.2.1 r2.2.2.2.2.1 r2.2.2.2.2.2 hx0 hx1 hx2 hA (by grind)
  obtain ⟨g, fr, er, _⟩ := row_err (A := 18 * A + 6 * U) rn.1 rn.2.1 rn.2.2.1 rn.2.2.2.1 rn.2.2.2.2.1 rn.2.2.2.2.2 f0 f1 f2 (by grind) (by grind)
  refine ⟨g, fr, ?_⟩
  generalize val (mrow n0 n1 n2 (mrow m00 m01 m02 x0 x1 x2) (mrow m10 m11 m12 x0 x1 x2) (mrow m20 m21 m22 x0 x1 x2)) = R at *
  generalize val (mrow m00 m01 m02 x0 x1 x2) = Y0 at *
  generalize val (mrow m10 m11 m12 x0 x1 x2) = Y1 at *
  generalize val (mrow m20 m21 m22 x0 x1 x2) = Y2 at *
  have hd := dot_bound (x0 := val x0) (x1 := val x1) (x2 := val x2) d0 d1 d2
  have hn := dot_bound (x0 := Y0 - (val m00 * val x0 + val m01 * val x1 + val m02 * val x2)) (x1 := Y1 - (val m10 * val x0 + val m11 * val x1 + val m12 * val x2)) (x2 := Y2 - (val m20 * val x0 + val m21 * val x1 + val m22 * val x2)) rn.2.2.2.1 rn.2.2.2.2.1 rn.2.2.2.2.2
  have hdA := Rat.mul_le_mul_of_nonneg_left hA nδ
  have t1 := ab_add (R - (val n0 * Y0 + val n1 * Y1 + val n2 * Y2)) ((val n0 * (Y0 - (val m00 * val x0 + val m01 * val x1 + val m02 * val x2)) + val n1 * (Y1 - (val m10 * val x0 + val m11 * val x1 + val m12 * val x2)) + val n2 * (Y2 - (val m20 * val x0 + val m21 * val x1 + val m22 * val x2))) + ((val n0 * val m00 + val n1 * val m10 + val n2 * val m20 - i0) * val x0 + (val n0 * val m01 + val n1 * val m11 + val n2 * val m21 - i1) * val x1 + (val n0 * val m02 + val n1 * val m12 + val n2 * val m22 - i2) * val x2))
  have t2 := ab_add (val n0 * (Y0 - (val m00 * val x0 + val m01 * val x1 + val m02 * val x2)) + val n1 * (Y1 - (val m10 * val x0 + val m11 * val x1 + val m12 * val x2)) + val n2 * (Y2 - (val m20 * val x0 + val m21 * val x1 + val m22 * val x2))) ((val n0 * val m00 + val n1 * val m10 + val n2 * val m20 - i0) * val x0 + (val n0 * val m01 + val n1 * val m11 + val n2 * val m21 - i1) * val x1 + (val n0 * val m02 + val n1 * val m12 + val n2 * val m22 - i2) * val x2)
  have eq : R - (val n0 * Y0 + val n1 * Y1 + val n2 * Y2) + ((val n0 * (Y0 - (val m00 * val x0 + val m01 * val x1 + val m02 * val x2)) + val n1 * (Y1 - (val m10 * val x0 + val m11 * val x1 + val m12 * val x2)) + val n2 * (Y2 - (val m20 * val x0 + val m21 * val x1 + val m22 * val x2))) + ((val n0 * val m00 + val n1 * val m10 + val n2 * val m20 - i0) * val x0 + (val n0 * val m01 + val n1 * val m11 + val n2 * val m21 - i1) * val x1 + (val n0 * val m02 + val n1 * val m12 + val n2 * val m22 - i2) * val x2)) = R - (i0 * val x0 + i1 * val x1 + i2 * val x2) := by grind
  rw [eq] at t1
  generalize ab (R - (i0 * val x0 + i1 * val x1 + i2 * val x2)) = F at *
  generalize ab (R - (val n0 * Y0 + val n1 * Y1 + val n2 * Y2)) = G1 at *
  generalize ab (val n0 * (Y0 - (val m00 * val x0 + val m01 * val x1 + val m02 * val x2)) + val n1 * (Y1 - (val m10 * val x0 + val m11 * val x1 + val m12 * val x2)) + val n2 * (Y2 - (val m20 * val x0 + val m21 * val x1 + val m22 * val x2))) = G2 at *
  generalize ab ((val n0 * val m00 + val n1 * val m10 + val n2 * val m20 - i0) * val x0 + (val n0 * val m01 + val n1 * val m11 + val n2 * val m21 - i1) * val x1 + (val n0 * val m02 + val n1 * val m12 + val n2 * val m22 - i2) * val x2) = G3 at *
  generalize ab (Y0 - (val m00 * val x0 + val m01 * val x1 + val m02 * val x2)) = H0 at *
  generalize ab (Y1 - (val m10 * val x0 + val m11 * val x1 + val m12 * val x2)) = H1 at *
  generalize ab (Y2 - (val m20 * val x0 + val m21 * val x1 + val m22 * val x2)) = H2 at *
  clear eq d0 d1 d2 r0 r1 r2 rn
  grind

/-- a row of constants: finite, entries at most 4 -/
def RowOk (c0 c1 c2 : Nat) : Prop := Fin c0 ∧ Fin c1 ∧ Fin c2 ∧ ab (val c0) ≤ 4 ∧ ab (val c1) ≤ 4 ∧ ab (val c2) ≤ 4
instance (c0 c1 c2 : Nat) : Decidable (RowOk c0 c1 c2) := by unfold RowOk; infer_instance
/-- row n times the matrix m is (i0, i1, i2) within δ -/
def UnitOk (n0 n1 n2 m00 m01 m02 m10 m11 m12 m20 m21 m22 : Nat) (i0 i1 i2 δ : Rat) : Prop :=
  ab (val n0 * val m00 + val n1 * val m10 + val n2 * val m20 - i0) ≤ δ ∧ ab (val n0 * val m01 + val n1 * val m11 + val n2 * val m21 - i1) ≤ δ ∧ ab (val n0 * val m02 + val n1 * val m12 + val n2 * val m22 - i2) ≤ δ
instance (n0 n1 n2 m00 m01 m02 m10 m11 m12 m20 m21 m22 : Nat) (i0 i1 i2 δ : Rat) : Decidable (UnitOk n0 n1 n2 m00 m01 m02 m10 m11 m12 m20 m21 m22 i0 i1 i2 δ) := by unfold UnitOk; infer_instance
/-- a tolerance's two constants -/
def TolOk (C T : Nat) : Prop := Fin C ∧ Fin T ∧ 99 / 100000000000 ≤ val C ∧ val C ≤ 1 ∧ 1000 * U ≤ val T ∧ val T ≤ 1
instance (C T : Nat) : Decidable (TolOk C T) := by unfold TolOk; infer_instance

theorem row_fin {c0 c1 c2 x0 x1 x2 : Nat} {A : Rat} (k : RowOk c0 c1 c2) (hx0 : Fin x0) (hx1 : Fin x1) (hx2 : Fin x2) (hA : ab (val x0) + ab (val x1) + ab (val x2) ≤ A) (hB : A ≤ BIG / 64) :
    RowFin c0 c1 c2 x0 x1 x2 ∧ Fin (mrow c0 c1 c2 x0 x1 x2) ∧ ab (val (mrow c0 c1 c2 x0 x1 x2) - (val c0 * val x0 + val c1 * val x1 + val c2 * val x2)) ≤ A * 20 / 9007199254740992 + 2 * U
    ∧ ab (val (mrow c0 c1 c2 x0 x1 x2)) ≤ 6 * A + 2 * U :=
  row_err k.1 k.2.1 k.2.2.1 k.2.2.2.1 k.2.2.2.2.1 k.2.2.2.2.2 hx0 hx1 hx2 hA hB

/-- there and back: entry by entry within 2e-10 of the input's size -/
theorem trip {m00 m01 m02 m10 m11 m12 m20 m21 m22 n0 n1 n2 x0 x1 x2 : Nat} {A i0 i1 i2 : Rat} (r0 : RowOk m00 m01 m02) (r1 : RowOk m10 m11 m12) (r2 : RowOk m20 m21 m22) (rn : RowOk n0 n1 n2)
    (hu : UnitOk n0 n1 n2 m00 m01 m02 m10 m11 m12 m20 m21 m22 i0 i1 i2 (1 / 10000000000)) (hx0 : Fin x0) (hx1 : Fin x1) (hx2 : Fin x2) (hA : ab (val x0) + ab (val x1) + ab (val x2) ≤ A) (hB : A ≤ BIG / 10000) :
    RowFin n0 n1 n2 (mrow m00 m01 m02 x0 x1 x2) (mrow m10 m11 m12 x0 x1 x2) (mrow m20 m21 m22 x0 x1 x2)
    ∧ Fin (mrow n0 n1 n2 (mrow m00 m01 m02 x0 x1 x2) (mrow m10 m11 m12 x0 x1 x2) (mrow m20 m21 m22 x0 x1 x2))
    ∧ ab (val (mrow n0 n1 n2 (mrow m00 m01 m02 x0 x1 x2) (mrow m10 m11 m12 x0 x1 x2) (mrow m20 m21 m22 x0 x1 x2)) - (i0 * val x0 + i1 * val x1 + i2 * val x2)) ≤ A / 5000000000 + 40 * U := by
  obtain ⟨h1, h2, h3⟩ := back_err r0 r1 r2 rn hu.1 hu.2.1 hu.2.2 hx0 hx1 hx2 hA hB
  refine ⟨h1, h2, ?_⟩
  have nA : 0 ≤ A := by have := ab_nonneg (val x0); have := ab_nonneg (val x1); have := ab_nonneg (val x2); grind
  grind

/-- the sum of the sizes, in floats -/
def fsum3 (x0 x1 x2 : Nat) : Nat := fadd (fadd (fabs x0) (fabs x1)) (fabs x2)
theorem fsum3_ok {x0 x1 x2 : Nat} {A : Rat} (hx0 : Fin x0) (hx1 : Fin x1) (hx2 : Fin x2) (hA : A = ab (val x0) + ab (val x1) + ab (val x2)) (hB : A ≤ BIG / 10000) :
    Fin (fadd (fabs x0) (fabs x1)) ∧ Fin (fsum3 x0 x1 x2) ∧ A * (999 / 1000) ≤ val (fsum3 x0 x1 x2) ∧ val (fsum3 x0 x1 x2) ≤ BIG / 1000 := by
  have n0 := ab_nonneg (val x0)
  have n1 := ab_nonneg (val x1)
  have n2 := ab_nonneg (val x2)
  obtain ⟨g0, e0⟩ := fabs_fin hx0
  obtain ⟨g1, e1⟩ := fabs_fin hx1
  obtain ⟨g2, e2⟩ := fabs_fin hx2
  have p1 : 0 ≤ val (fabs x0) + val (fabs x1) := by rw [e0, e1]; grind
  obtain ⟨f1, q1⟩ := fadd_err g0 g1 (by rw [ab_of_nonneg p1, e0, e1]; grind)
  rw [ab_of_nonneg p1, ab_le, e0, e1] at q1
  have p2 : 0 ≤ val (fadd (fabs x0) (fabs x1)) + val (fabs x2) := by rw [e2]; grind
  obtain ⟨f2, q2⟩ := fadd_err f1 g2 (by rw [ab_of_nonneg p2, e2]; grind)
  rw [ab_of_nonneg p2, ab_le, e2] at q2
  unfold fsum3
  exact ⟨f1, f2, by grind, by grind⟩

/-- a tolerance 'C*s + T' where s is at least A/3.1 (a sum of sizes, a greatest size) -/
theorem tol_ok {C T s : Nat} {A : Rat} (hc : TolOk C T) (hs : Fin s) (h0 : 0 ≤ A) (h1 : A / 3 * (999 / 1000) ≤ val s) (h2 : val s ≤ BIG / 1000) :
    Fin (fmul C s) ∧ Fin (fadd (fmul C s) T) ∧ (A / 5000000000 + 40 * U) + (A / 5000000000 + 40 * U) / 1000 ≤ val (fadd (fmul C s) T) := by
  obtain ⟨fC, fT, c1, c2, t1, t2⟩ := hc
  have up := U_pos
  have bp : (0 : Rat) ≤ BIG := by decide +kernel
  have s0 : 0 ≤ val s := by grind
  obtain ⟨g1, g2, g3⟩ := tol_low fC hs fT (by grind) c2 s0 (by grind) (by grind) t2
  refine ⟨g1, g2, ?_⟩
  have m := Rat.mul_le_mul_of_nonneg_right c1 s0
  grind

/-- a word that is ω times s but for one rounding (or exactly) -/
def Times (x : Nat) (ω : Rat) (s : Nat) : Prop := Fin x ∧ ab ω ≤ 4 ∧ ab (val x - ω * val s) ≤ ab (val s) * 4 / 9007199254740992 + U / 2

theorem times_self {s : Nat} (h : Fin s) : Times s 1 s := by
  refine ⟨h, by decide +kernel, ?_⟩
  have e : val s - 1 * val s = 0 := by grind
  rw [e, ab_of_nonneg Rat.le_refl]
  have := ab_nonneg (val s)
  have := U_pos
  grind

theorem times_mul {s c : Nat} (hs : Fin s) (hc : Fin c) (h4 : ab (val c) ≤ 4) (hb : ab (val s) ≤ BIG / 64) : Times (fmul s c) (val c) s := by
  obtain ⟨h1, h2, _⟩ := mul_step hs hc h4 Rat.le_refl hb
  exact ⟨h1, h4, by grind⟩

theorem times_size {x s : Nat} {ω : Rat} (h : Times x ω s) : ab (val x) ≤ 5 * ab (val s) + U := by
  obtain ⟨_, h4, he⟩ := h
  have := ab_add (val x - ω * val s) (ω * val s)
  have e : val x - ω * val s + ω * val s = val x := by grind
  rw [e, ab_mul] at this
  have hm := Rat.mul_le_mul_of_nonneg_right h4 (ab_nonneg (val s))
  have := U_pos
  have := ab_nonneg (val s)
  grind

/-- a row at a vector that is (ω0, ω1, ω2) times s gives τ times s within 2e-10 -/
theorem white_row {n0 n1 n2 x0 x1 x2 s t : Nat} {ω0 ω1 ω2 τ : Rat} (rn : RowOk n0 n1 n2) (h0 : Times x0 ω0 s) (h1 : Times x1 ω1 s) (h2 : Times x2 ω2 s) (ht : Times t τ s)
    (hd : ab (val n0 * ω0 + val n1 * ω1 + val n2 * ω2 - τ) ≤ 1 / 10000000000) (hb : ab (val s) ≤ BIG / 1000000) :
    RowFin n0 n1 n2 x0 x1 x2 ∧ Fin (mrow n0 n1 n2 x0 x1 x2) ∧ ab (val (mrow n0 n1 n2 x0 x1 x2) - val t) ≤ ab (val s) / 5000000000 + 40 * U := by
  have up := U_pos
  have ub := U_le
  have ns := ab_nonneg (val s)
  have z0 := times_size h0
  have z1 := times_size h1
  have z2 := times_size h2
  obtain ⟨g, f, e, _⟩ := row_fin (A := 15 * ab (val s) + 3 * U) rn h0.1 h1.1 h2.1 (by grind) (by grind)
  refine ⟨g, f, ?_⟩
  have hn := dot_bound (x0 := val x0 - ω0 * val s) (x1 := val x1 - ω1 * val s) (x2 := val x2 - ω2 * val s) rn.2.2.2.1 rn.2.2.2.2.1 rn.2.2.2.2.2
  have e0 := h0.2.2
  have e1 := h1.2.2
  have e2 := h2.2.2
  have et := ht.2.2
  have hds : ab ((val n0 * ω0 + val n1 * ω1 + val n2 * ω2 - τ) * val s) ≤ 1 / 10000000000 * ab (val s) := by
    rw [ab_mul]; exact Rat.mul_le_mul_of_nonneg_right hd ns
  generalize val (mrow n0 n1 n2 x0 x1 x2) = R at *
  have t1 := ab_add (R - (val n0 * val x0 + val n1 * val x1 + val n2 * val x2)) ((val n0 * (val x0 - ω0 * val s) + val n1 * (val x1 - ω1 * val s) + val n2 * (val x2 - ω2 * val s)) + ((val n0 * ω0 + val n1 * ω1 + val n2 * ω2 - τ) * val s + (τ * val s - val t)))
  have t2 := ab_add (val n0 * (val x0 - ω0 * val s) + val n1 * (val x1 - ω1 * val s) + val n2 * (val x2 - ω2 * val s)) ((val n0 * ω0 + val n1 * ω1 + val n2 * ω2 - τ) * val s + (τ * val s - val t))
  have t3 := ab_add ((val n0 * ω0 + val n1 * ω1 + val n2 * ω2 - τ) * val s) (τ * val s - val t)
  have et' : ab (τ * val s - val t) ≤ ab (val s) * 4 / 9007199254740992 + U / 2 := by
    rw [← ab_neg]
    have q : -(τ * val s - val t) = val t - τ * val s := by grind
    rw [q]; exact et
  have eq : R - (val n0 * val x0 + val n1 * val x1 + val n2 * val x2) + ((val n0 * (val x0 - ω0 * val s) + val n1 * (val x1 - ω1 * val s) + val n2 * (val x2 - ω2 * val s)) + ((val n0 * ω0 + val n1 * ω1 + val n2 * ω2 - τ) * val s + (τ * val s - val t))) = R - val t := by grind
  rw [eq] at t1
  generalize ab (R - val t) = F at *
  generalize ab (R - (val n0 * val x0 + val n1 * val x1 + val n2 * val x2)) = G1 at *
  generalize ab (val n0 * (val x0 - ω0 * val s) + val n1 * (val x1 - ω1 * val s) + val n2 * (val x2 - ω2 * val s)) = G2 at *
  generalize ab ((val n0 * ω0 + val n1 * ω1 + val n2 * ω2 - τ) * val s) = G3 at *
  generalize ab (τ * val s - val t) = G4 at *
  generalize ab ((val n0 * ω0 + val n1 * ω1 + val n2 * ω2 - τ) * val s + (τ * val s - val t)) = G5 at *
  generalize ab (val x0 - ω0 * val s) = H0 at *
  generalize ab (val x1 - ω1 * val s) = H1 at *
  generalize ab (val x2 - ω2 * val s) = H2 at *
  clear eq hd rn h0 h1 h2 ht
  grind

/-! ### the walk's spelling -/
theorem bits_add {x y : Nat} (hx : Fin x) (hy : Fin y) : floatBits .add .f64 x y = some (fadd x y) := (fadd_ok hx hy).1
theorem bits_sub {x y : Nat} (hx : Fin x) (hy : Fin y) : floatBits .sub .f64 x y = some (fsub x y) := (fsub_ok hx hy).1
theorem bits_mul {x y : Nat} (hx : Fin x) (hy : Fin y) : floatBits .mul .f64 x y = some (fmul x y) := (fmul_ok hx hy).1
theorem bits_div {x y : Nat} (hx : Fin x) (hy : Fin y) (h : val y ≠ 0) : floatBits .quo .f64 x y = some (fdiv x y) := (fdiv_ok hx hy h).1
end Go.Proofs.Ythhoalfilmlhaaa.Fl
