/-
  The contract of n011_267's zzFinite. No conditions.
-/
import Derived.Test.YtecdhjhobjagkaaFn
namespace Go.Proofs.Ytecdhjhobjagkaa
open Go.ChangeShapes Go.WideShapes Go.ChangeAt Go.RowKit
attribute [local go_sem] run_store_float unary_neg_float

theorem fin10_yes (x : Nat) (w : World) (hx : Fl.Fin x) : Calls Try.prog 10 #[.float .f64 x] w fun e w' => e = .returned (.bool true) ∧ w' = w := by
  have o1 := (Fl.order_fin hx hx).2.1
  rw [decide_eq_true rfl] at o1
  change (FloatKind.f64.format.order x x == some .eq) = true at o1
  obtain ⟨fs, vs⟩ := fsub_zero_eq hx hx rfl
  have o2 := (Fl.order_fin fs Fl.fin_zero).2.1
  rw [Fl.val_zero, decide_eq_true vs] at o2
  change (FloatKind.f64.format.order (Fl.fsub x x) 0 == some .eq) = true at o2
  have c := fun w ty => run_float_arith (P := Try.prog) w .sub ty .f64 x x _ (Fl.bits_sub hx hx)
  go_enter Try.func10, Try.ntmps10
  go_wp2_with fail
  go_ret
  exact ⟨rfl, rfl⟩
theorem fin10_nan (x : Nat) (w : World) (h : (FloatKind.f64.format.order x x == some .eq) = false) : Calls Try.prog 10 #[.float .f64 x] w fun e w' => e = .returned (.bool false) ∧ w' = w := by
  go_enter Try.func10, Try.ntmps10
  go_wp2_with fail
  go_ret
  exact ⟨rfl, rfl⟩
theorem nan_word (t : Nat) : Ieee.double.order (t % 2 * 9223372036854775808 + 9218868437227405312 + 1 + t / 2 % 4503599627370495) 0 = none := by
  obtain ⟨y, hy⟩ : ∃ y, y = t % 2 * 9223372036854775808 + 9218868437227405312 + 1 + t / 2 % 4503599627370495 := ⟨_, rfl⟩
  rw [← hy]
  have hs : Ieee.double.signWeight = 9223372036854775808 := by decide
  have hb : Ieee.double.binade = 4503599627370496 := by decide
  have hi : Ieee.double.infRung = 9218868437227405312 := by decide
  have hr : 9218868437227405312 < y % 9223372036854775808 := by
    have ha : t % 2 = 0 ∨ t % 2 = 1 := by omega
    have hb : t / 2 % 4503599627370495 < 4503599627370495 := Nat.mod_lt _ (by decide)
    generalize t / 2 % 4503599627370495 = r at *
    rcases ha with ha | ha <;> rw [ha] at hy <;> omega
  have : ∃ s f, Ieee.double.read y = .nan s f := by
    unfold Ieee.Format.read
    rw [hs, hb, hi]
    simp only
    rw [if_neg (by omega), if_neg (by omega), if_neg (by omega)]
    exact ⟨_, _, rfl⟩
  obtain ⟨s, f, e⟩ := this
  unfold Ieee.Format.order
  rw [e]
  rfl
theorem run_sub_nan (x : Nat) (w : World) (ty : TypeId) (h2 : FloatKind.f64.format.sub x x = none) : (binOp .sub ty (.float .f64 x) (.float .f64 x)).run Try.prog w = .ok (.float .f64 (Question.cut (.nanBits .f64 x x) (w.tape w.drawn (.nanBits .f64 x x)))) w.drew := by
  simp [binOp, Op.floatArith, h2, Question.forced]
theorem fin10_inf (x : Nat) (w : World) (h : (FloatKind.f64.format.order x x == some .eq) = true) (h2 : FloatKind.f64.format.sub x x = none) : Calls Try.prog 10 #[.float .f64 x] w fun e w' => e = .returned (.bool false) ∧ Below w.heap.size w w' := by
  obtain ⟨y, hy⟩ : ∃ y, y = Question.cut (.nanBits .f64 x x) (w.tape w.drawn (.nanBits .f64 x x)) := ⟨_, rfl⟩
  have c : ∀ ty, (binOp .sub ty (.float .f64 x) (.float .f64 x)).run Try.prog w = .ok (.float .f64 y) w.drew := fun ty => by rw [hy]; exact run_sub_nan x w ty h2
  have o : (FloatKind.f64.format.order y 0 == some .eq) = false := by
    have : FloatKind.f64.format.order y 0 = none := by
      rw [hy]
      exact nan_word _
    rw [this]; rfl
  clear hy
  go_enter Try.func10, Try.ntmps10
  go_wp2_with fail
  go_ret
  exact ⟨rfl, (Below.refl _ _).drew⟩
/-- zzFinite tells the finite words -/
theorem fin10_no (x : Nat) (w : World) (hx : ¬ Fl.Fin x) : Calls Try.prog 10 #[.float .f64 x] w fun e w' => e = .returned (.bool false) ∧ Below w.heap.size w w' := by
  rcases Fl.read_not_fin hx with r | r
  · have h : (FloatKind.f64.format.order x x == some .eq) = true := by
      have : Ieee.double.order x x = some .eq := by
        unfold Ieee.Format.order
        rw [r]
        cases Fl.ng x <;> rfl
      change (Ieee.double.order x x == some .eq) = true
      rw [this]; rfl
    have h2 : FloatKind.f64.format.sub x x = none := by
      show Ieee.double.sub x x = none
      unfold Ieee.Format.sub
      rw [r]
      cases Fl.ng x <;> rfl
    exact fin10_inf x w h h2
  · have h : (FloatKind.f64.format.order x x == some .eq) = false := by
      have : Ieee.double.order x x = none := by
        unfold Ieee.Format.order
        rw [r]; rfl
      change (Ieee.double.order x x == some .eq) = false
      rw [this]; rfl
    refine (fin10_nan x w h).mono ?_
    rintro e w' ⟨he, rfl⟩
    exact ⟨he, Below.refl _ _⟩
end Go.Proofs.Ytecdhjhobjagkaa
