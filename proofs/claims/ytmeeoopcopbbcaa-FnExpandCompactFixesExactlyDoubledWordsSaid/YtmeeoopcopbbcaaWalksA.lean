/-
  The contracts of zzNib, compactHex, expandHex, hexR and their exports: each computes plain arithmetic on the digits of a 32-bit word. Conditions: the argument is a uint32 (and zzNib's count is between 0 and 8).
-/
import Derived.Test.YtmeeoopcopbbcaaRows
import Derived.WalkKit
import Derived.ProofKit
import Derived.OpenShut
import Derived.LoopTactic
import Derived.Laws.BitsAllLaws
import Derived.Lib.Hide
namespace Go.Proofs.Ytmeeoopcopbbcaa
open Go.ChangeShapes Go.WideShapes Go.ChangeAt Go.RowKit

theorem ret_bool {b : Bool} (h : b = true) : Ending.returned (.bool b) = .returned (.bool true) := by rw [h]
theorem ret_int {k : IntKind} {a b : Int} (h : a = b) : Ending.returned (.int k a) = .returned (.int k b) := by rw [h]

/-! ### plain arithmetic -/
theorem nat_mask (v w i : Nat) : v &&& ((2 ^ w - 1) * 2 ^ i) = v / 2 ^ i % 2 ^ w * 2 ^ i := by
  apply Nat.eq_of_testBit_eq
  intro j
  simp only [Nat.testBit_and, Nat.testBit_mul_two_pow, Nat.testBit_two_pow_sub_one, Nat.testBit_mod_two_pow, Nat.testBit_div_two_pow]
  by_cases h : i ≤ j
  · have e : i + (j - i) = j := by omega
    simp [h, Bool.and_comm]
  · simp [h]

theorem mask32 (v : Int) (m w i a b : Nat) (hm : (2 ^ w - 1) * 2 ^ i = m) (ha : 2 ^ i = a) (hb : 2 ^ w = b) (hl : m < 4294967296) (h0 : 0 ≤ v) (h1 : v ≤ 4294967295) :
    bits .and .u32 v (m : Int) = v / (a : Int) % (b : Int) * (a : Int) := by
  subst ha hb
  rw [u32_and v m h0 (by omega) (by omega) (by omega)]
  obtain ⟨n, rfl⟩ := Int.eq_ofNat_of_zero_le h0
  have e := nat_mask n w i
  rw [hm] at e
  simp only [Int.toNat_natCast]
  rw [e]
  simp

theorem or32 (x y : Int) (i a : Nat) (ha : 2 ^ i = a) (hx : x % (a : Int) = 0) (hy : y < (a : Int)) (h0 : 0 ≤ x) (h1 : x < 4294967296) (h2 : 0 ≤ y) (h3 : y < 4294967296) :
    bits .or .u32 x y = x + y := by
  subst ha
  rw [u32_or x y h0 h1 h2 h3]
  obtain ⟨n, rfl⟩ := Int.eq_ofNat_of_zero_le h0
  obtain ⟨k, rfl⟩ := Int.eq_ofNat_of_zero_le h2
  simp only [Int.toNat_natCast]
  rw [nat_join i n k (by exact_mod_cast hx) (by exact_mod_cast hy)]
  simp

/-- digit i of v, base 16 -/
def nib (v : Int) (i : Nat) : Int := v / ((16 ^ i : Nat) : Int) % 16
theorem nib_bd (v : Int) (i : Nat) : 0 ≤ nib v i ∧ nib v i ≤ 15 := by unfold nib; omega
theorem nib0 (v : Int) : nib v 0 = v % 16 := by unfold nib; omega
theorem nib1 (v : Int) : nib v 1 = v / 16 % 16 := by unfold nib; omega
theorem nib2 (v : Int) : nib v 2 = v / 256 % 16 := by unfold nib; omega
theorem nib3 (v : Int) : nib v 3 = v / 4096 % 16 := by unfold nib; omega
theorem nib4 (v : Int) : nib v 4 = v / 65536 % 16 := by unfold nib; omega
theorem nib5 (v : Int) : nib v 5 = v / 1048576 % 16 := by unfold nib; omega
theorem nib6 (v : Int) : nib v 6 = v / 16777216 % 16 := by unfold nib; omega
theorem nib7 (v : Int) : nib v 7 = v / 268435456 % 16 := by unfold nib; omega

theorem compact_eq (v : Int) (h0 : 0 ≤ v) (h1 : v ≤ 4294967295) :
    bits .or .u32 (bits .and .u32 v 267386880 / 4096) (bits .and .u32 v 4080 / 16) = nib v 6 * 4096 + nib v 5 * 256 + nib v 2 * 16 + nib v 1 := by
  have e1 : bits .and .u32 v 267386880 = v / 1048576 % 256 * 1048576 := mask32 v 267386880 8 20 1048576 256 (by decide) (by decide) (by decide) (by decide) h0 h1
  have e2 : bits .and .u32 v 4080 = v / 16 % 256 * 16 := mask32 v 4080 8 4 16 256 (by decide) (by decide) (by decide) (by decide) h0 h1
  rw [e1, e2, or32 _ _ 8 256 (by decide) (by omega) (by omega) (by omega) (by omega) (by omega) (by omega), nib1, nib2, nib5, nib6]
  omega

theorem expand_eq (v : Int) (h0 : 0 ≤ v) (h1 : v ≤ 4294967295) :
    bits .or .u32 (bits .or .u32 (bits .or .u32 (bits .or .u32 (bits .and .u32 v 61440 * 65536 % 4294967296) (bits .and .u32 v 65280 * 4096 % 4294967296)) (bits .and .u32 v 4080 * 256 % 4294967296)) (bits .and .u32 v 255 * 16 % 4294967296)) (bits .and .u32 v 15)
      = nib v 3 * 285212672 + nib v 2 * 1114112 + nib v 1 * 4352 + nib v 0 * 17 := by
  have e1 : bits .and .u32 v 61440 = v / 4096 % 16 * 4096 := mask32 v 61440 4 12 4096 16 (by decide) (by decide) (by decide) (by decide) h0 h1
  have e2 : bits .and .u32 v 65280 = v / 256 % 256 * 256 := mask32 v 65280 8 8 256 256 (by decide) (by decide) (by decide) (by decide) h0 h1
  have e3 : bits .and .u32 v 4080 = v / 16 % 256 * 16 := mask32 v 4080 8 4 16 256 (by decide) (by decide) (by decide) (by decide) h0 h1
  have e4 : bits .and .u32 v 255 = v / 1 % 256 * 1 := mask32 v 255 8 0 1 256 (by decide) (by decide) (by decide) (by decide) h0 h1
  have e5 : bits .and .u32 v 15 = v / 1 % 16 * 1 := mask32 v 15 4 0 1 16 (by decide) (by decide) (by decide) (by decide) h0 h1
  rw [e1, e2, e3, e4, e5]
  rw [or32 _ (v / 256 % 256 * 256 * 4096 % 4294967296) 28 268435456 (by decide) (by omega) (by omega) (by omega) (by omega) (by omega) (by omega)]
  rw [or32 _ (v / 16 % 256 * 16 * 256 % 4294967296) 20 1048576 (by decide) (by omega) (by omega) (by omega) (by omega) (by omega) (by omega)]
  rw [or32 _ (v / 1 % 256 * 1 * 16 % 4294967296) 12 4096 (by decide) (by omega) (by omega) (by omega) (by omega) (by omega) (by omega)]
  rw [or32 _ (v / 1 % 16 * 1) 4 16 (by decide) (by omega) (by omega) (by omega) (by omega) (by omega) (by omega)]
  rw [nib0, nib1, nib2, nib3]
  omega

/-! ### the contracts -/
theorem compact_any (v : Int) (w : World) (h0 : 0 ≤ v) (h1 : v ≤ 4294967295) :
    Calls Try.prog 10 #[.int .u32 v] w fun e w' => e = .returned (.int .u32 (nib v 6 * 4096 + nib v 5 * 256 + nib v 2 * 16 + nib v 1)) ∧ w = w' := by
  go_enter Try.func10, Try.ntmps10
  go_wp2
  go_ret
  exact ⟨ret_int (compact_eq v h0 h1), rfl⟩

theorem expand_any (v : Int) (w : World) (h0 : 0 ≤ v) (h1 : v ≤ 4294967295) :
    Calls Try.prog 12 #[.int .u32 v] w fun e w' => e = .returned (.int .u32 (nib v 3 * 285212672 + nib v 2 * 1114112 + nib v 1 * 4352 + nib v 0 * 17)) ∧ w = w' := by
  go_enter Try.func12, Try.ntmps12
  go_wp2
  go_ret
  exact ⟨ret_int (expand_eq v h0 h1), rfl⟩

theorem div_bd (v : Int) (p : Nat) (h0 : 0 ≤ v) (h1 : v ≤ 4294967295) : 0 ≤ v / ((16 ^ p : Nat) : Int) ∧ v / ((16 ^ p : Nat) : Int) ≤ 4294967295 := by
  obtain ⟨n, rfl⟩ := Int.eq_ofNat_of_zero_le h0
  have := Nat.div_le_self n (16 ^ p)
  constructor
  · exact Int.ediv_nonneg h0 (Int.natCast_nonneg _)
  · rw [← Int.natCast_ediv]; omega

theorem div_step (v : Int) (p : Nat) : v / ((16 ^ p : Nat) : Int) / 16 = v / ((16 ^ (p + 1) : Nat) : Int) := by
  rw [Int.ediv_ediv_of_nonneg (Int.natCast_nonneg _)]; simp [Int.pow_succ]

theorem nib_any (v : Int) (i : Nat) (w : World) (h0 : 0 ≤ v) (h1 : v ≤ 4294967295) (hi : i ≤ 8) :
    Calls Try.prog 9 #[.int .u32 v, .int .i64 i] w fun e w' => e = .returned (.int .u32 (nib v i)) ∧ w = w' := by
  go_enter Try.func9, Try.ntmps9
  go_wp2
  go_loop [0, 5] (fun x k => ∃ p : Nat, p ≤ i ∧ k = .int .i64 p ∧ x = .int .u32 (v / ((16 ^ p : Nat) : Int))) (fun _ k => i - (intOf k).toNat)
  case atStart => exact ⟨0, by omega, rfl, by simp⟩
  case round =>
    obtain ⟨p, hp, rfl, rfl⟩ := hrel
    have hbd := div_bd v p h0 h1
    have hst := div_step v p
    have HS := Lib.hid hst
    clear hst
    obtain ⟨z, hz⟩ : ∃ z, z = v / ((16 ^ p : Nat) : Int) := ⟨_, rfl⟩
    rw [← hz] at hbd HS ⊢
    have HZ := Lib.hid hz
    clear hz
    by_cases hlt : p < i
    · go_wp2
      go_round
      case rel => exact ⟨p + 1, by omega, by go_num, by rw [← HS.out]⟩
      case measure => simp [intOf]; omega
    · go_wp2
      go_ret
      obtain rfl : p = i := by omega
      exact ⟨ret_int (by rw [HZ.out]; rfl), rfl⟩
end Go.Proofs.Ytmeeoopcopbbcaa
