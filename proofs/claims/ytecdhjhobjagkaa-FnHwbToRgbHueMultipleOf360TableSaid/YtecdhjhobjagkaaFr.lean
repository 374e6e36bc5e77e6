/-
  Plain facts for hwb_to_rgb at a whole number of turns. Condition: none beyond the words' being finite.
-/
import Derived.Test.YtecdhjhobjagkaaFq
import Derived.Test.YtecdhjhobjagkaaFi
namespace Go.Proofs.Ytecdhjhobjagkaa
open Go.ChangeShapes Go.WideShapes Go.ChangeAt Go.RowKit

/-- math.Floor of a finite word -/
def ffloor (x : Nat) : Nat := FloatKind.f64.encode ((FloatKind.f64.decode x).integral .down)
theorem floorIs (x : Nat) (hx : Fl.Fin x) : FloorIs x (ffloor x) := by
  intro w
  obtain ⟨m, i, e⟩ := Fl.read_number hx
  rw [run_callFunc_extern (fn := Try.f61) Try.func61 (by kernel_rfl) (by kernel_rfl) (by kernel_rfl) (e := Go.Extern.MathFloor.toIntegral "math.archFloor" .down) (by kernel_rfl)]
  have e' : FloatKind.f64.decode x = .number (Fl.ng x) m i := e
  have ht : Go.Extern.MathFloor.toIntegral "math.archFloor" .down #[.float .f64 x] = pure (.float .f64 (FloatKind.f64.encode ((Ieee.Datum.number (Fl.ng x) m i).integral .down))) := by
    delta Go.Extern.MathFloor.toIntegral
    refine (rfl : _ = Go.Extern.MathFloor.toIntegral.match_1 (fun _ => Sem Value) (FloatKind.f64.decode x) _ _).trans ?_
    rw [e']
  rw [ht]
  unfold ffloor
  rw [e']
  rfl

theorem clo_p0 : CloOk 0 0 4602678819172646912 4607182418800017408 4607182418800017408 := fun bh bl bs w qh ql qs lh ll ls =>
  clo48 0 0 4602678819172646912 4607182418800017408 0 0 0 0 0 0 4602678819172646912 4602678819172646912 4602678819172646912 13837309855095848960 4621256167635550208 13837309855095848960 13830554455654793216 13826050856027422720 4607182418800017408 bh bl bs w (by decide +kernel) (by decide +kernel) (by decide +kernel) (by decide +kernel) (by decide +kernel) (by decide +kernel) (by decide +kernel) (by decide +kernel) (by decide +kernel) (by decide +kernel) (by decide +kernel) (by have h := floorIs 0 (by decide); rw [show ffloor 0 = 0 by decide +kernel] at h; exact h) (by decide +kernel) (by decide +kernel) (by decide +kernel) qh ql qs lh ll ls
theorem clo_p8 : CloOk 4620693217682128896 0 4602678819172646912 4607182418800017408 0 := fun bh bl bs w qh ql qs lh ll ls =>
  clo48 4620693217682128896 0 4602678819172646912 4607182418800017408 0 4620693217682128896 4604180019048437077 0 4604180019048437077 4620693217682128896 4602678819172646912 4602678819172646912 4602678819172646912 4617315517961601024 4607182418800017408 4607182418800017408 4607182418800017408 4602678819172646912 0 bh bl bs w (by decide +kernel) (by decide +kernel) (by decide +kernel) (by decide +kernel) (by decide +kernel) (by decide +kernel) (by decide +kernel) (by decide +kernel) (by decide +kernel) (by decide +kernel) (by decide +kernel) (by have h := floorIs 4604180019048437077 (by decide); rw [show ffloor 4604180019048437077 = 0 by decide +kernel] at h; exact h) (by decide +kernel) (by decide +kernel) (by decide +kernel) qh ql qs lh ll ls
theorem clo_p4 : CloOk 4616189618054758400 0 4602678819172646912 4607182418800017408 0 := fun bh bl bs w qh ql qs lh ll ls =>
  clo48 4616189618054758400 0 4602678819172646912 4607182418800017408 0 4616189618054758400 4599676419421066581 0 4599676419421066581 4616189618054758400 4602678819172646912 4602678819172646912 4602678819172646912 4607182418800017408 4617315517961601024 4607182418800017408 4607182418800017408 4602678819172646912 0 bh bl bs w (by decide +kernel) (by decide +kernel) (by decide +kernel) (by decide +kernel) (by decide +kernel) (by decide +kernel) (by decide +kernel) (by decide +kernel) (by decide +kernel) (by decide +kernel) (by decide +kernel) (by have h := floorIs 4599676419421066581 (by decide); rw [show ffloor 4599676419421066581 = 0 by decide +kernel] at h; exact h) (by decide +kernel) (by decide +kernel) (by decide +kernel) qh ql qs lh ll ls
theorem clo_m0 : CloOk 0 9223372036854775808 4602678819172646912 4607182418800017408 4607182418800017408 := fun bh bl bs w qh ql qs lh ll ls =>
  clo48 0 9223372036854775808 4602678819172646912 4607182418800017408 9223372036854775808 0 0 0 0 0 4602678819172646912 4602678819172646912 4602678819172646912 13837309855095848960 4621256167635550208 13837309855095848960 13830554455654793216 13826050856027422720 4607182418800017408 bh bl bs w (by decide +kernel) (by decide +kernel) (by decide +kernel) (by decide +kernel) (by decide +kernel) (by decide +kernel) (by decide +kernel) (by decide +kernel) (by decide +kernel) (by decide +kernel) (by decide +kernel) (by have h := floorIs 0 (by decide); rw [show ffloor 0 = 0 by decide +kernel] at h; exact h) (by decide +kernel) (by decide +kernel) (by decide +kernel) qh ql qs lh ll ls
theorem clo_m8 : CloOk 4620693217682128896 9223372036854775808 4602678819172646912 4607182418800017408 0 := fun bh bl bs w qh ql qs lh ll ls =>
  clo48 4620693217682128896 9223372036854775808 4602678819172646912 4607182418800017408 9223372036854775808 4620693217682128896 4604180019048437077 0 4604180019048437077 4620693217682128896 4602678819172646912 4602678819172646912 4602678819172646912 4617315517961601024 4607182418800017408 4607182418800017408 4607182418800017408 4602678819172646912 0 bh bl bs w (by decide +kernel) (by decide +kernel) (by decide +kernel) (by decide +kernel) (by decide +kernel) (by decide +kernel) (by decide +kernel) (by decide +kernel) (by decide +kernel) (by decide +kernel) (by decide +kernel) (by have h := floorIs 4604180019048437077 (by decide); rw [show ffloor 4604180019048437077 = 0 by decide +kernel] at h; exact h) (by decide +kernel) (by decide +kernel) (by decide +kernel) qh ql qs lh ll ls
theorem clo_m4 : CloOk 4616189618054758400 9223372036854775808 4602678819172646912 4607182418800017408 0 := fun bh bl bs w qh ql qs lh ll ls =>
  clo48 4616189618054758400 9223372036854775808 4602678819172646912 4607182418800017408 9223372036854775808 4616189618054758400 4599676419421066581 0 4599676419421066581 4616189618054758400 4602678819172646912 4602678819172646912 4602678819172646912 4607182418800017408 4617315517961601024 4607182418800017408 4607182418800017408 4602678819172646912 0 bh bl bs w (by decide +kernel) (by decide +kernel) (by decide +kernel) (by decide +kernel) (by decide +kernel) (by decide +kernel) (by decide +kernel) (by decide +kernel) (by decide +kernel) (by decide +kernel) (by decide +kernel) (by have h := floorIs 4599676419421066581 (by decide); rw [show ffloor 4599676419421066581 = 0 by decide +kernel] at h; exact h) (by decide +kernel) (by decide +kernel) (by decide +kernel) qh ql qs lh ll ls

theorem mul_p2 (m a b c : Nat) (h : a + b = c) : m * 2 ^ a * 2 ^ b = m * Fl.p2 c := by
  subst h
  unfold Fl.p2
  rw [Nat.mul_assoc, Nat.pow_add]
/-- a whole number below 2^53 is a word's value -/
theorem int_word (m : Nat) (hm : m < 9007199254740992) : ∃ x, Fl.Fin x ∧ Fl.val x = (m : Rat) := by
  by_cases h0 : m = 0
  · subst h0; exact ⟨0, Fl.fin_zero, by rw [Fl.val_zero]; rfl⟩
  · have hl : m.log2 < 53 := (Nat.log2_lt h0).2 (by simpa using hm)
    have h1 := Nat.log2_self_le h0
    have h2 : m < 2 ^ (m.log2 + 1) := Nat.lt_log2_self
    obtain ⟨j, hj⟩ : ∃ j, m.log2 + j = 52 := ⟨52 - m.log2, by omega⟩
    have e1 : 2 ^ m.log2 * 2 ^ j = 4503599627370496 := by rw [← Nat.pow_add, hj]
    have e2 : 2 ^ (m.log2 + 1) * 2 ^ j = 9007199254740992 := by rw [← Nat.pow_add, show m.log2 + 1 + j = 53 by omega]
    have l1 : 4503599627370496 ≤ m * 2 ^ j := by rw [← e1]; exact Nat.mul_le_mul_right _ h1
    have l2 : m * 2 ^ j < 9007199254740992 := by rw [← e2]; exact (Nat.mul_lt_mul_right (Nat.two_pow_pos j)).2 h2
    have hmg := Fl.mg_at (1074 - j) (m * 2 ^ j) (.inr l1) (by omega)
    have hk : (1074 - j) * 4503599627370496 + m * 2 ^ j < 9218868437227405312 := by omega
    obtain ⟨f, _, _⟩ := Fl.wd_fin (s := false) hk
    refine ⟨_, f, ?_⟩
    rw [Fl.val_wd hk, hmg]
    simp only [Bool.false_eq_true, if_false]
    have e3 : m * 2 ^ j * 2 ^ (1074 - j) = m * Fl.p2 1074 := mul_p2 m j (1074 - j) 1074 (by omega)
    rw [e3, Rat.natCast_mul]
    have e4 : ((Fl.p2 1074 : Nat) : Rat) * Fl.U = 1 := by
      rw [← Fl.pow_p2]
      exact Fl.VU
    rw [Rat.mul_assoc, e4]; grind
theorem int_word' (z : Int) (hz : z.natAbs < 9007199254740992) : ∃ x, Fl.Fin x ∧ Fl.val x = (z : Rat) := by
  obtain ⟨x, hx, hv⟩ := int_word z.natAbs hz
  rcases Int.natAbs_eq z with h | h
  · refine ⟨x, hx, ?_⟩
    rw [hv, h, Rat.intCast_natCast]
    simp
  · refine ⟨Fl.fneg x, Fl.fin_neg.2 hx, ?_⟩
    rw [Fl.val_neg, hv]
    conv => rhs; rw [h]
    rw [Rat.intCast_neg, Rat.intCast_natCast]
theorem exact_int {q : Rat} {r : Nat} {z : Int} (h : Fl.IsRd q r) (hz : z.natAbs < 9007199254740992) (e : q = (z : Rat)) : Fl.Fin r ∧ Fl.val r = (z : Rat) := by
  obtain ⟨x, hx, hv⟩ := int_word' z hz
  obtain ⟨a, b⟩ := h.exact hx (by rw [e, hv])
  exact ⟨a, by rw [b, e]⟩
theorem floatOfInt_rd (z : Int) : Fl.IsRd (z : Rat) (floatOfInt .f64 z) := by
  have := Fl.rd_of_int (z : Rat) z 0 (decide (z < 0)) (by rw [Rat.zpow_zero]; grind) (fun _ => rfl)
  exact this
/-- the floor of a word that is a whole number is that number -/
theorem ffloor_int {x : Nat} {z : Int} (hx : Fl.Fin x) (hv : Fl.val x = (z : Rat)) (hz : z.natAbs < 9007199254740992) : Fl.Fin (ffloor x) ∧ Fl.val (ffloor x) = (z : Rat) := by
  obtain ⟨m, i, e, _, _, hm, _, _⟩ := Fl.read_fin x hx
  have hval : Fl.val x = if Fl.ng x then -(m : Rat) * (2 : Rat) ^ i else (m : Rat) * (2 : Rat) ^ i := Fl.val_read hm
  -- the size of x as a natural number
  have habs : (m : Rat) * (2 : Rat) ^ i = ((z.natAbs : Nat) : Rat) := by
    have h1 : Fl.ab (Fl.val x) = (m : Rat) * (2 : Rat) ^ i := by
      have hp : (0 : Rat) ≤ (m : Rat) * (2 : Rat) ^ i := Rat.mul_nonneg Rat.natCast_nonneg (Rat.le_of_lt (Rat.zpow_pos (by decide)))
      rw [hval]
      cases Fl.ng x
      · simp only [Bool.false_eq_true, if_false]; exact Fl.ab_of_nonneg hp
      · simp only [if_true]
        rw [show -(m : Rat) * (2 : Rat) ^ i = -((m : Rat) * (2 : Rat) ^ i) by grind, Fl.ab_neg]
        exact Fl.ab_of_nonneg hp
    rw [← h1, hv]
    rcases Int.natAbs_eq z with h | h
    · conv => lhs; rw [h]
      rw [Rat.intCast_natCast]
      exact Fl.ab_of_nonneg Rat.natCast_nonneg
    · conv => lhs; rw [h]
      rw [Rat.intCast_neg, Fl.ab_neg, Rat.intCast_natCast]
      exact Fl.ab_of_nonneg Rat.natCast_nonneg
  have hcut : ∀ s, Ieee.Toward.cut .down s (m <<< i.toNat) (-i).toNat = z.natAbs := by
    intro s
    by_cases hi : 0 ≤ i
    · have e1 : (-i).toNat = 0 := by omega
      have e2 : m <<< i.toNat = z.natAbs := by
        rw [Nat.shiftLeft_eq]
        have : ((m * 2 ^ i.toNat : Nat) : Rat) = ((z.natAbs : Nat) : Rat) := by
          rw [Rat.natCast_mul, ← Fl.pow_nat, Int.toNat_of_nonneg hi, habs]
        exact Rat.natCast_inj.1 this
      rw [e1, e2]
      simp [Ieee.Toward.cut, Nat.mod_one]
    · obtain ⟨d, hd⟩ : ∃ d : Nat, i = -(d : Int) := ⟨(-i).toNat, by omega⟩
      subst hd
      have e1 : (-(-(d : Int))).toNat = d := by omega
      have e2 : (-(d : Int)).toNat = 0 := by omega
      rw [e1, e2]
      have e3 : m = z.natAbs * 2 ^ d := by
        have h3 : (m : Rat) = ((z.natAbs * 2 ^ d : Nat) : Rat) := by
          rw [Rat.natCast_mul, ← Fl.pow_nat, ← habs, Rat.mul_assoc, ← Fl.pow_add', show -(d : Int) + (d : Int) = 0 by omega, Rat.zpow_zero]; grind
        exact Rat.natCast_inj.1 h3
      by_cases hz0 : z.natAbs = 0
      · rw [hz0, Nat.zero_mul] at e3
        subst e3
        simp [Ieee.Toward.cut, hz0]
      · have hm0 : m ≠ 0 := by
          rw [e3]; exact Nat.mul_ne_zero hz0 (by have := Nat.two_pow_pos d; omega)
        have hd2 : d ≤ m.log2 := by
          rw [Nat.le_log2 hm0, e3]
          exact Nat.le_mul_of_pos_left _ (by omega)
        have hmin : min d (m.log2 + 2) = d := Nat.min_eq_left (by omega)
        have hlow : m / 2 ^ d = z.natAbs := by rw [e3]; exact Nat.mul_div_cancel _ (Nat.two_pow_pos d)
        have hrest : m % 2 ^ d = 0 := by rw [e3]; exact Nat.mul_mod_left _ _
        simp [Ieee.Toward.cut, hmin, Nat.shiftLeft_eq, hlow, hrest]
  have hrd : Fl.IsRd (z : Rat) (ffloor x) := by
    have he : ffloor x = Ieee.double.write (.number (Fl.ng x) z.natAbs 0) := by
      unfold ffloor
      have e' : FloatKind.f64.decode x = .number (Fl.ng x) m i := e
      rw [e']
      show Ieee.double.write (.number (Fl.ng x) (Ieee.Toward.cut .down (Fl.ng x) (m <<< i.toNat) (-i).toNat) 0) = _
      rw [hcut]
    rw [he]
    refine Fl.rd_of_int (z : Rat) z 0 (Fl.ng x) (by rw [Rat.zpow_zero]; grind) (fun hne => ?_)
    rw [hval] at hv
    have hpos : (0 : Rat) < (m : Rat) * (2 : Rat) ^ i := by
      rw [habs]
      exact Rat.natCast_pos.2 (by omega)
    cases hg : Fl.ng x
    · rw [hg] at hv
      simp only [Bool.false_eq_true, if_false] at hv
      have : (0 : Rat) < (z : Rat) := by rw [← hv]; exact hpos
      have := Rat.intCast_pos.1 this
      symm; rw [decide_eq_false_iff_not]; omega
    · rw [hg] at hv
      simp only [if_true] at hv
      have : (z : Rat) < 0 := by rw [← hv]; grind
      have := Rat.intCast_neg_iff.1 this
      symm; rw [decide_eq_true_iff]; exact this
  exact exact_int hrd hz rfl
/-- a rounded zero is one of the two zeros -/
theorem zero_words {q : Rat} {r : Nat} (h : Fl.IsRd q r) (e : q = 0) : r = 0 ∨ r = 9223372036854775808 := by
  subst e
  obtain ⟨s, k, rfl, hn, _, _⟩ := h.ex
  rw [Fl.ab_of_nonneg Rat.le_refl, Rat.zero_mul] at hn
  obtain rfl := Fl.near_unique hn Fl.near_zero
  cases s
  · exact .inl rfl
  · exact .inr rfl
theorem fin_le {x : Nat} (h : Fl.Fin x) : Fl.ab (Fl.val x) ≤ 2 * Fl.BIG := by
  rw [Fl.ab_val]
  have h1 : Fl.mg (Fl.rung x) ≤ Fl.mg 9218868437227405312 := Fl.mg_le (Nat.le_of_lt h)
  rw [Fl.mg_inf] at h1
  have h2 := Rat.mul_le_mul_of_nonneg_right (Rat.natCast_le_natCast.2 h1) (Rat.le_of_lt Fl.U_pos)
  have h3 := Fl.BIG_V
  have h4 := Fl.VU
  rw [Rat.natCast_mul, ← h3] at h2
  have h5 : ((2 : Nat) : Rat) = 2 := rfl
  rw [h5] at h2
  have h6 : (2 : Rat) * (Fl.BIG * Fl.V) * Fl.U = 2 * Fl.BIG := by
    rw [show (2 : Rat) * (Fl.BIG * Fl.V) * Fl.U = 2 * Fl.BIG * (Fl.V * Fl.U) by grind, h4]; grind
  rw [h6] at h2
  exact h2

/-- the hue words: hsl_to_rgb gives pure red -/
theorem red (a : Int) (ha : -2147483648 ≤ a ∧ a ≤ 2147483647) :
    floatBits .mul .f64 (floatOfInt .f64 a) 4645040803167600640 = some (Fl.fmul (floatOfInt .f64 a) 4645040803167600640)
    ∧ ∀ w, Calls Try.prog 40 #[.agg #[.float .f64 (Fl.fmul (floatOfInt .f64 a) 4645040803167600640)], .agg #[.float .f64 4636737291354636288], .agg #[.float .f64 4632233691727265792]] w fun e w' => e = .returned (.tuple #[.agg #[.float .f64 4607182418800017408], .agg #[.float .f64 0], .agg #[.float .f64 0]]) ∧ Below w.heap.size w w' := by
  have c360 : Fl.Fin 4645040803167600640 ∧ Fl.val 4645040803167600640 = 360 := by decide +kernel
  have n360 : Fl.val 4645040803167600640 ≠ 0 := by rw [c360.2]; decide
  obtain ⟨f0, v0⟩ := exact_int (floatOfInt_rd a) (by omega) rfl
  obtain ⟨e1, r1⟩ := Fl.fmul_ok f0 c360.1
  obtain ⟨f1, v1⟩ := exact_int (z := a * 360) r1 (by omega) (by rw [v0, c360.2, Rat.intCast_mul]; rfl)
  refine ⟨e1, fun w => ?_⟩
  generalize Fl.fmul (floatOfInt .f64 a) 4645040803167600640 = h0 at *
  obtain ⟨e2, r2⟩ := Fl.fdiv_ok f1 c360.1 n360
  obtain ⟨f2, v2⟩ := exact_int (z := a) r2 (by omega) (by
    rw [v1, c360.2, Rat.intCast_mul, Rat.div_def, Rat.mul_assoc, show ((360 : Int) : Rat) * (360 : Rat)⁻¹ = 1 by decide +kernel]; grind)
  obtain ⟨f3, v3⟩ := ffloor_int f2 v2 (by omega)
  obtain ⟨e4, r4⟩ := Fl.fsub_ok f2 f3
  have z4 := zero_words r4 (by rw [v2, v3]; grind)
  rcases z4 with z4 | z4
  · rw [z4] at e4
    exact hsl40 h0 _ _ 0 0 _ _ _ w e2 (floorIs _ f2) e4 (by decide +kernel) clo_p0 clo_p8 clo_p4
  · rw [z4] at e4
    exact hsl40 h0 _ _ 9223372036854775808 9223372036854775808 _ _ _ w e2 (floorIs _ f2) e4 (by decide +kernel) clo_m0 clo_m8 clo_m4
end Go.Proofs.Ytecdhjhobjagkaa
