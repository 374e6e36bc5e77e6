/-
  Plain facts on the hue's arithmetic. Condition: the words are finite, of size at most 1e300.
-/
import Derived.Test.YtecdhjhobjagkaaFc
namespace Go.Proofs.Ytecdhjhobjagkaa
open Ieee

/-- a rounded value lies between words that the value lies between -/
theorem rd_between {q : Rat} {r a b : Nat} (h : Fl.IsRd q r) (hq : Fl.ab q ≤ Fl.BIG) (ha : Fl.Fin a) (hb : Fl.Fin b) (h1 : Fl.val a ≤ q) (h2 : q ≤ Fl.val b) :
    Fl.Fin r ∧ Fl.val a ≤ Fl.val r ∧ Fl.val r ≤ Fl.val b := by
  obtain ⟨hr, _⟩ := h.err hq
  obtain ⟨_, ra⟩ := Fl.fadd_ok ha Fl.fin_zero
  obtain ⟨_, rb⟩ := Fl.fadd_ok hb Fl.fin_zero
  rw [Fl.val_zero, Rat.add_zero] at ra rb
  obtain ⟨fa, va⟩ := ra.exact ha rfl
  obtain ⟨fb, vb⟩ := rb.exact hb rfl
  have m1 := ra.mono h fa hr h1
  have m2 := h.mono rb hr fb h2
  exact ⟨hr, by grind, by grind⟩
theorem rd_neg {q : Rat} {r s : Nat} (h : Fl.IsRd q r) (k : Fl.IsRd (-q) s) (hr : Fl.Fin r) (hs : Fl.Fin s) : Fl.val s = -Fl.val r := by
  obtain ⟨i, n1, _, v1⟩ := h.val_eq hr
  obtain ⟨j, n2, _, v2⟩ := k.val_eq hs
  rw [Fl.ab_neg] at n2
  obtain rfl := Fl.near_unique n1 n2
  rw [v1, v2]
  by_cases c : q < 0
  · rw [if_pos c, if_neg (by grind)]; grind
  · by_cases c2 : q = 0
    · subst c2
      rw [Fl.ab_of_nonneg Rat.le_refl, Rat.zero_mul] at n1
      obtain rfl := Fl.near_unique n1 Fl.near_zero
      rw [Fl.mg_zero, if_neg c, if_neg (by grind)]
      have : ((0 : Nat) : Rat) = 0 := rfl
      grind
    · rw [if_neg c, if_pos (by grind)]; grind
theorem rat_div {a d c : Rat} (hd : 0 < d) : (c * d ≤ a → c ≤ a / d) ∧ (a ≤ c * d → a / d ≤ c) := by
  have e : a / d * d = a := Rat.div_mul_cancel (by grind)
  refine ⟨fun h => Rat.not_lt.1 fun hc => ?_, fun h => Rat.not_lt.1 fun hc => ?_⟩
  · have := Rat.mul_lt_mul_of_pos_right hc hd
    grind
  · have := Rat.mul_lt_mul_of_pos_right hc hd
    grind
theorem c300 : Fl.Fin 9094988921128908188 ∧ Fl.val 9094988921128908188 ≤ Fl.BIG / 64 := by decide +kernel
/-- the quotient (g - b) / (max - min) -/
theorem quo_unit {g b MX MN : Nat} (hg : Fl.Fin g) (hb : Fl.Fin b) (hX : Fl.Fin MX) (hN : Fl.Fin MN) (bX : Fl.ab (Fl.val MX) ≤ Fl.BIG / 64) (bN : Fl.ab (Fl.val MN) ≤ Fl.BIG / 64)
    (g1 : Fl.val MN ≤ Fl.val g) (g2 : Fl.val g ≤ Fl.val MX) (b1 : Fl.val MN ≤ Fl.val b) (b2 : Fl.val b ≤ Fl.val MX) (hlt : Fl.val MN < Fl.val MX) :
    Fl.Fin (Fl.fsub MX MN) ∧ 0 < Fl.val (Fl.fsub MX MN) ∧ Fl.Fin (Fl.fsub g b) ∧ Fl.Fin (Fl.fdiv (Fl.fsub g b) (Fl.fsub MX MN)) ∧ -1 ≤ Fl.val (Fl.fdiv (Fl.fsub g b) (Fl.fsub MX MN)) ∧ Fl.val (Fl.fdiv (Fl.fsub g b) (Fl.fsub MX MN)) ≤ 1
    ∧ (Fl.val b ≤ Fl.val g → 0 ≤ Fl.val (Fl.fdiv (Fl.fsub g b) (Fl.fsub MX MN))) ∧ (Fl.val g ≤ Fl.val b → Fl.val (Fl.fdiv (Fl.fsub g b) (Fl.fsub MX MN)) ≤ 0) := by
  have up := Fl.U_pos
  have ub := Fl.U_le
  have x1 := Fl.ab_le.1 bX
  have x2 := Fl.ab_le.1 bN
  have hsub : ∀ {p q : Nat}, Fl.Fin p → Fl.Fin q → Fl.val MN ≤ Fl.val p → Fl.val p ≤ Fl.val MX → Fl.val MN ≤ Fl.val q → Fl.val q ≤ Fl.val MX → Fl.Fin (Fl.fsub p q) ∧ Fl.val (Fl.fsub p q) ≤ Fl.val (Fl.fsub MX MN) ∧ Fl.Fin (Fl.fsub MX MN) := by
    intro p q hp hq p1 p2 q1 q2
    have f1 := (Fl.fsub_err hp hq (Fl.ab_le.2 ⟨by grind, by grind⟩)).1
    have f2 := (Fl.fsub_err hX hN (Fl.ab_le.2 ⟨by grind, by grind⟩)).1
    exact ⟨f1, (Fl.fsub_ok hp hq).2.mono (Fl.fsub_ok hX hN).2 f1 f2 (by grind), f2⟩
  obtain ⟨fa, ha, fd⟩ := hsub hg hb g1 g2 b1 b2
  obtain ⟨fa', ha', _⟩ := hsub hb hg b1 b2 g1 g2
  have hneg : Fl.val (Fl.fsub b g) = -Fl.val (Fl.fsub g b) := by
    refine rd_neg (Fl.fsub_ok hg hb).2 ?_ fa fa'
    have := (Fl.fsub_ok hb hg).2
    rw [show -(Fl.val g - Fl.val b) = Fl.val b - Fl.val g by grind]
    exact this
  have dpos : 0 < Fl.val (Fl.fsub MX MN) := by
    obtain ⟨_, e⟩ := Fl.fsub_err hX hN (Fl.ab_le.2 ⟨by grind, by grind⟩)
    rw [Fl.ab_of_nonneg (q := Fl.val MX - Fl.val MN) (by grind)] at e
    have := Fl.ab_le.1 e
    grind
  have s0 : Fl.val b ≤ Fl.val g → 0 ≤ Fl.val (Fl.fsub g b) := fun h => (Fl.fsub_ok hg hb).2.nonneg fa (by grind)
  have s1 : Fl.val g ≤ Fl.val b → Fl.val (Fl.fsub g b) ≤ 0 := fun h => by
    have := (Fl.fsub_ok hb hg).2.nonneg fa' (by grind)
    grind
  obtain ⟨_, rq⟩ := Fl.fdiv_ok fa fd (by grind)
  obtain ⟨d1, d2⟩ := rat_div (a := Fl.val (Fl.fsub g b)) (c := 1) dpos
  obtain ⟨d3, d4⟩ := rat_div (a := Fl.val (Fl.fsub g b)) (c := -1) dpos
  obtain ⟨d5, d6⟩ := rat_div (a := Fl.val (Fl.fsub g b)) (c := 0) dpos
  have w1 : Fl.Fin 4607182418800017408 ∧ Fl.val 4607182418800017408 = 1 := by decide +kernel
  have w2 : Fl.Fin 13830554455654793216 ∧ Fl.val 13830554455654793216 = -1 := by decide +kernel
  have big : (1 : Rat) ≤ Fl.BIG := by decide +kernel
  have hq1 := d2 (by grind)
  have hq2 := d3 (by grind)
  generalize Fl.fdiv (Fl.fsub g b) (Fl.fsub MX MN) = q at *
  generalize Fl.val (Fl.fsub g b) / Fl.val (Fl.fsub MX MN) = Q at *
  have hQ : Fl.ab Q ≤ Fl.BIG := Fl.ab_le.2 ⟨by grind, by grind⟩
  obtain ⟨fq, l1, l2⟩ := rd_between rq hQ w2.1 w1.1 (by grind) (by grind)
  refine ⟨fd, dpos, fa, fq, by grind, by grind, fun h => rq.nonneg fq (d5 (by have := s0 h; grind)), fun h => ?_⟩
  obtain ⟨_, _, l3⟩ := rd_between rq hQ w2.1 Fl.fin_zero (by grind) (by rw [Fl.val_zero]; exact d6 (by have := s1 h; grind))
  rw [Fl.val_zero] at l3
  exact l3

/-- the hue: (q + c) * 60 where q + c lies in [0, 6] -/
theorem hue_of {q c lo hi : Nat} (hq : Fl.Fin q) (hc : Fl.Fin c) (hl : Fl.Fin lo) (hh : Fl.Fin hi) (h1 : Fl.val lo ≤ Fl.val q + Fl.val c) (h2 : Fl.val q + Fl.val c ≤ Fl.val hi) (l0 : 0 ≤ Fl.val lo) (h6 : Fl.val hi ≤ 6) :
    Fl.Fin (Fl.fadd q c) ∧ 0 ≤ Fl.val (Fl.fadd q c) ∧ Fl.val (Fl.fadd q c) ≤ 6 := by
  have big : (6 : Rat) ≤ Fl.BIG := by decide +kernel
  obtain ⟨f, a, b⟩ := rd_between (Fl.fadd_ok hq hc).2 (Fl.ab_le.2 ⟨by grind, by grind⟩) hl hh h1 h2
  exact ⟨f, by grind, by grind⟩
theorem hue60 {q : Nat} (hq : Fl.Fin q) (h1 : 0 ≤ Fl.val q) (h2 : Fl.val q ≤ 6) :
    Fl.Fin (Fl.fmul q 4633641066610819072) ∧ 0 ≤ Fl.val (Fl.fmul q 4633641066610819072) ∧ Fl.val (Fl.fmul q 4633641066610819072) ≤ 360 := by
  have w60 : Fl.Fin 4633641066610819072 ∧ Fl.val 4633641066610819072 = 60 := by decide +kernel
  have w360 : Fl.Fin 4645040803167600640 ∧ Fl.val 4645040803167600640 = 360 := by decide +kernel
  have big : (360 : Rat) ≤ Fl.BIG := by decide +kernel
  obtain ⟨f, a, b⟩ := rd_between (Fl.fmul_ok hq w60.1).2 (by rw [w60.2]; exact Fl.ab_le.2 ⟨by grind, by grind⟩) Fl.fin_zero w360.1 (by rw [w60.2, Fl.val_zero]; grind) (by rw [w60.2, w360.2]; grind)
  rw [Fl.val_zero] at a
  exact ⟨f, a, by rw [w360.2] at b; exact b⟩

/-- a rounded word times a constant that is not zero has an answer, infinite or not -/
theorem mul_rd {q : Rat} {r c : Nat} (h : Fl.IsRd q r) (hc : Fl.Fin c) (c0 : Fl.val c ≠ 0) : ∃ s, floatBits .mul .f64 r c = some s := by
  by_cases hr : Fl.Fin r
  · exact ⟨_, Fl.bits_mul hr hc⟩
  · obtain ⟨s, k, e, _, _, _⟩ := h.ex
    have hrr : Fl.rung r = 9218868437227405312 := by
      rcases Nat.lt_or_ge k 9218868437227405312 with hk | hk
      · exact absurd (by rw [e]; exact (Fl.wd_fin hk).1) hr
      · rw [e]
        unfold Fl.rung Fl.wd
        rw [Nat.min_eq_right hk]
        cases s <;> rfl
    have hread : double.read r = .infinity (Fl.ng r) := by
      have hs : double.signWeight = 9223372036854775808 := by decide
      have hb : double.binade = 4503599627370496 := by decide
      have hi : double.infRung = 9218868437227405312 := by decide
      unfold Format.read
      rw [hs, hb, hi]
      have e1 : r % 9223372036854775808 = Fl.rung r := rfl
      have e2 : (r / 9223372036854775808 % 2 == 1) = Fl.ng r := rfl
      simp only [e1, e2]
      rw [if_neg (by omega), if_neg (by omega), if_pos hrr]
    obtain ⟨m, i, ec, _, _, _, _, hz⟩ := Fl.read_fin c hc
    have hm : m ≠ 0 := fun h => c0 (by
      have hr := hz.1 h
      unfold Fl.val
      rw [hr, Fl.mg_zero]
      simp)
    refine ⟨double.write (.infinity (Fl.ng r ^^ Fl.ng c)), ?_⟩
    show double.mul r c = _
    unfold Format.mul
    rw [hread, ec]
    unfold Datum.product
    simp [hm]
end Go.Proofs.Ytecdhjhobjagkaa
