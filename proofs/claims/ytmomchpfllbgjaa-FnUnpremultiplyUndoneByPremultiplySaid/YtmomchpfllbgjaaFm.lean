/-
  More of the theory of float64 words, in plain Lean (on top of YtmomchpfllbgjaaFl). No conditions of the program are used here.
-/
import Derived.Test.YtmomchpfllbgjaaFl
namespace Go.Proofs.Ytmomchpfllbgjaa.Fl
open Ieee

/-- in the normal range the error is relative alone -/
theorem IsRd.rel {q : Rat} {r : Nat} (h : IsRd q r) (hb : ab q ≤ BIG) (hn : 4503599627370496 * U ≤ ab q) : Fin r ∧ ab (val r - q) ≤ ab q / 9007199254740992 := by
  obtain ⟨hf, he⟩ := h.err hb
  refine ⟨hf, ?_⟩
  rcases he with he | he
  · exact he
  · grind
theorem IsRd.zero {r : Nat} (h : IsRd 0 r) : Fin r ∧ val r = 0 := by
  exact h.exact fin_zero val_zero.symm

/-- 2^52 units: from here on numbers are normal -/
def NRM : Rat := 4503599627370496 * U
theorem nrm_small : NRM ≤ 1 / 1000000000000000000000000000000000000000000000000000000000000000000000000000000000000000000000000000 / 1000000000000000000000000000000000000000000000000000000000000000000000000000000000000000000000000000 / 1000000000000000000000000000000000000000000000000000000000000000000000000000000000000000000000000000 := by decide +kernel

theorem div_ab (p a : Rat) (ha : 0 < a) : ab (p / a) = ab p / a := by
  rw [Rat.div_def, Rat.div_def, ab_mul, ab_of_nonneg (Rat.le_of_lt (Rat.inv_pos.2 ha))]

/-- times alpha, then divided by alpha -/
theorem mul_div_back {v a : Nat} (hv : Fin v) (ha : Fin a) (a0 : 0 < val a) (a1 : val a < 1) (hz : val v = 0 ∨ NRM ≤ ab (val v) * val a) (hb : ab (val v) ≤ BIG / 1000000) (hnv : val v = 0 ∨ NRM ≤ ab (val v) / 2) :
    Fin (fmul v a) ∧ Fin (fdiv (fmul v a) a) ∧ ab (val (fdiv (fmul v a) a) - val v) ≤ ab (val v) * 3 / 9007199254740992 := by
  have nv := ab_nonneg (val v)
  have bp : (0 : Rat) < BIG := by decide +kernel
  have ane : val a ≠ 0 := Rat.ne_of_gt a0
  rcases hz with hz | hz
  · have h1 := (fmul_ok hv ha).2
    rw [hz, Rat.zero_mul] at h1
    obtain ⟨f1, z1⟩ := h1.zero
    have h2 := (fdiv_ok f1 ha ane).2
    rw [z1, Rat.div_def, Rat.zero_mul] at h2
    obtain ⟨f2, z2⟩ := h2.zero
    refine ⟨f1, f2, ?_⟩
    rw [z2, hz]
    have e : (0 : Rat) - 0 = 0 := by grind
    rw [e, ab_of_nonneg Rat.le_refl]
    decide +kernel
  · have hm : ab (val v * val a) = ab (val v) * val a := by rw [ab_mul, ab_of_nonneg (Rat.le_of_lt a0)]
    have hle : ab (val v) * val a ≤ ab (val v) := by
      have := Rat.mul_le_mul_of_nonneg_left (Rat.le_of_lt a1) nv
      grind
    obtain ⟨f1, e1⟩ := (fmul_ok hv ha).2.rel (by rw [hm]; grind) (by rw [hm]; exact hz)
    rw [hm] at e1
    -- the quotient
    obtain ⟨q, hq⟩ : ∃ q, q = val (fmul v a) / val a := ⟨_, rfl⟩
    have hqa : q * val a = val (fmul v a) := by rw [hq]; exact Rat.div_mul_cancel ane
    have hqv : ab (q - val v) ≤ ab (val v) / 9007199254740992 := by
      have h3 : ab ((q - val v) * val a) ≤ ab (val v) / 9007199254740992 * val a := by
        have e : (q - val v) * val a = val (fmul v a) - val v * val a := by rw [← hqa]; grind
        rw [e]; grind
      rw [ab_mul, ab_of_nonneg (Rat.le_of_lt a0)] at h3
      exact Rat.le_of_mul_le_mul_right h3 a0
    have hq1 : ab q ≤ ab (val v) + ab (val v) / 9007199254740992 := by
      have := ab_add (q - val v) (val v)
      have e : q - val v + val v = q := by grind
      rw [e] at this; grind
    have hq2 : ab (val v) ≤ ab q + ab (val v) / 9007199254740992 := by
      have := ab_add q (val v - q)
      have e : q + (val v - q) = val v := by grind
      have e2 : ab (val v - q) = ab (q - val v) := by
        have e3 : val v - q = -(q - val v) := by grind
        rw [e3, ab_neg]
      rw [e, e2] at this; grind
    have hvn : NRM ≤ ab (val v) / 2 := by
      rcases hnv with h | h
      · rw [h] at hz
        rw [ab_of_nonneg Rat.le_refl, Rat.zero_mul] at hz
        have : (0 : Rat) < NRM := by decide +kernel
        grind
      · exact h
    obtain ⟨f2, e2⟩ := ((fdiv_ok f1 ha ane).2).rel (by rw [← hq]; grind) (by rw [← hq]; unfold NRM at hvn; grind)
    rw [← hq] at e2
    refine ⟨f1, f2, ?_⟩
    have := ab_add (val (fdiv (fmul v a) a) - q) (q - val v)
    have e : val (fdiv (fmul v a) a) - q + (q - val v) = val (fdiv (fmul v a) a) - val v := by grind
    rw [e] at this
    grind

/-- divided by alpha, then times alpha -/
theorem div_mul_back {v a : Nat} (hv : Fin v) (ha : Fin a) (a0 : 0 < val a) (a1 : val a < 1) (hb : ab (val v) / val a ≤ BIG / 1000000) (hnv : val v = 0 ∨ NRM ≤ ab (val v) / 2) :
    Fin (fdiv v a) ∧ Fin (fmul (fdiv v a) a) ∧ ab (val (fmul (fdiv v a) a) - val v) ≤ ab (val v) * 3 / 9007199254740992 := by
  have nv := ab_nonneg (val v)
  have bp : (0 : Rat) < BIG := by decide +kernel
  have ane : val a ≠ 0 := Rat.ne_of_gt a0
  rcases hnv with hz | hz
  · have h1 := (fdiv_ok hv ha ane).2
    rw [hz, Rat.div_def, Rat.zero_mul] at h1
    obtain ⟨f1, z1⟩ := h1.zero
    have h2 := (fmul_ok f1 ha).2
    rw [z1, Rat.zero_mul] at h2
    obtain ⟨f2, z2⟩ := h2.zero
    refine ⟨f1, f2, ?_⟩
    rw [z2, hz]
    have e : (0 : Rat) - 0 = 0 := by grind
    rw [e, ab_of_nonneg Rat.le_refl]
    decide +kernel
  · obtain ⟨q, hq⟩ : ∃ q, q = val v / val a := ⟨_, rfl⟩
    have hqa : q * val a = val v := by rw [hq]; exact Rat.div_mul_cancel ane
    have hqab : ab q * val a = ab (val v) := by rw [← hqa, ab_mul, ab_of_nonneg (Rat.le_of_lt a0)]
    have hqv : ab q = ab (val v) / val a := by rw [hq]; exact div_ab _ _ a0
    have hge : ab (val v) ≤ ab q := by
      have := Rat.mul_le_mul_of_nonneg_left (Rat.le_of_lt a1) (ab_nonneg q)
      grind
    rw [← hqv] at hb
    obtain ⟨f1, e1⟩ := (fdiv_ok hv ha ane).2.rel (by rw [← hq]; grind) (by rw [← hq]; unfold NRM at hz; grind)
    rw [← hq] at e1
    obtain ⟨r, hr⟩ : ∃ r, r = val (fdiv v a) := ⟨_, rfl⟩
    rw [← hr] at e1
    have h3 : ab (r * val a - val v) ≤ ab (val v) / 9007199254740992 := by
      have e : r * val a - val v = (r - q) * val a := by rw [← hqa]; grind
      rw [e, ab_mul, ab_of_nonneg (Rat.le_of_lt a0)]
      have := Rat.mul_le_mul_of_nonneg_right e1 (Rat.le_of_lt a0)
      grind
    have h4 : ab (r * val a) ≤ ab (val v) + ab (val v) / 9007199254740992 := by
      have := ab_add (r * val a - val v) (val v)
      have e : r * val a - val v + val v = r * val a := by grind
      rw [e] at this; grind
    have h5 : ab (val v) ≤ ab (r * val a) + ab (val v) / 9007199254740992 := by
      have := ab_add (r * val a) (val v - r * val a)
      have e : r * val a + (val v - r * val a) = val v := by grind
      have e2 : ab (val v - r * val a) = ab (r * val a - val v) := by
        have e3 : val v - r * val a = -(r * val a - val v) := by grind
        rw [e3, ab_neg]
      rw [e, e2] at this; grind
    obtain ⟨f2, e2⟩ := ((fmul_ok f1 ha).2).rel (by rw [← hr]; grind) (by rw [← hr]; unfold NRM at hz; grind)
    rw [← hr] at e2
    refine ⟨f1, f2, ?_⟩
    have := ab_add (val (fmul (fdiv v a) a) - r * val a) (r * val a - val v)
    have e : val (fmul (fdiv v a) a) - r * val a + (r * val a - val v) = val (fmul (fdiv v a) a) - val v := by grind
    rw [e] at this
    grind

/-- '!(zzAbs(out-in) > 1e-15*zzAbs(in))' -/
theorem chan_ok {v o C : Nat} (hv : Fin v) (ho : Fin o) (hC : Fin C) (c0 : 10 / 9007199254740992 ≤ 2 * val C) (c1 : val C ≤ 1) (h : ab (val o - val v) ≤ ab (val v) * 3 / 9007199254740992) (hb : ab (val v) ≤ BIG / 1000000) (hn : val v = 0 ∨ NRM ≤ ab (val v) / 1000000000000000000) :
    Fin (fsub o v) ∧ Fin (fabs v) ∧ Fin (fmul C (fabs v)) ∧ (double.order (fabs (fsub o v)) (fmul C (fabs v)) == some .gt) = false := by
  have nv := ab_nonneg (val v)
  have bp : (0 : Rat) < BIG := by decide +kernel
  obtain ⟨fa, va⟩ := fabs_fin hv
  obtain ⟨fs, vs⟩ := fsub_val ho hv (by grind)
  obtain ⟨fas, vas⟩ := fabs_fin fs
  have key : Fin (fmul C (fabs v)) ∧ ab (val (fsub o v)) ≤ val (fmul C (fabs v)) := by
    rcases hn with hz | hn
    · have h1 := (fmul_ok hC fa).2
      rw [va, hz, ab_of_nonneg Rat.le_refl, Rat.mul_zero] at h1
      obtain ⟨f1, z1⟩ := h1.zero
      refine ⟨f1, ?_⟩
      rw [z1]
      rw [hz, ab_of_nonneg Rat.le_refl] at h
      rw [hz] at vs
      grind
    · have hm : 0 ≤ val C * val (fabs v) := Rat.mul_nonneg (by grind) (by rw [va]; exact nv)
      have hcv := Rat.mul_le_mul_of_nonneg_right c1 nv
      have hcl : 5 / 9007199254740992 * ab (val v) ≤ val C * ab (val v) := Rat.mul_le_mul_of_nonneg_right (by grind) nv
      obtain ⟨f1, e1⟩ := (fmul_ok hC fa).2.rel (by rw [ab_of_nonneg hm, va]; grind) (by rw [ab_of_nonneg hm, va]; unfold NRM at hn; grind)
      rw [ab_of_nonneg hm, va, ab_le] at e1
      exact ⟨f1, by grind⟩
  refine ⟨fs, fa, key.1, ?_⟩
  have ho2 := (order_fin fas key.1).2.2
  rw [ho2, vas, decide_eq_false_iff_not]
  have := key.2
  grind
end Go.Proofs.Ytmomchpfllbgjaa.Fl
