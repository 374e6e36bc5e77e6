/-
  The contracts of the law files' own helpers on floats (abs, in range, near): plain functions of the words; the world is left alone.
-/
import Derived.Test.YtlfgdgelfebciaaWa
import Derived.Lib.Hide
namespace Go.Proofs.Ytlfgdgelfebciaa
open Go.ChangeShapes Go.WideShapes Go.ChangeAt Go.RowKit

theorem unary_neg_float (b : Nat) : Op.unary .neg (.float .f64 b) = pure (.float .f64 (Fl.fneg b)) := rfl
attribute [local go_sem] unary_neg_float
theorem ret_bool {b : Bool} (h : b = true) : Ending.returned (.bool b) = .returned (.bool true) := by rw [h]
theorem ret_bool' {a b : Bool} (h : a = b) : Ending.returned (.bool a) = .returned (.bool b) := by rw [h]
theorem ret_float {a b : Nat} (h : a = b) : Ending.returned (.float .f64 a) = .returned (.float .f64 b) := by rw [h]

/-- 'x <= y', 'x >= y' as the walk spells them -/
def leB (x y : Nat) : Bool := FloatKind.f64.format.order x y == some .lt || FloatKind.f64.format.order x y == some .eq
def geB (x y : Nat) : Bool := FloatKind.f64.format.order x y == some .gt || FloatKind.f64.format.order x y == some .eq
def inB (x m : Nat) : Bool := geB x (Fl.fneg m) && leB x m

theorem abs_of {n : Nat} (x : Nat) (w : World)
    (hy : (FloatKind.f64.format.order x 0 == some .lt) = true → Calls Try.prog n #[.float .f64 x] w fun e w' => e = .returned (.float .f64 (Fl.fneg x)) ∧ w = w')
    (hn : (FloatKind.f64.format.order x 0 == some .lt) = false → Calls Try.prog n #[.float .f64 x] w fun e w' => e = .returned (.float .f64 x) ∧ w = w') :
    Calls Try.prog n #[.float .f64 x] w fun e w' => e = .returned (.float .f64 (Fl.fabs x)) ∧ w = w' := by
  by_cases h : (FloatKind.f64.format.order x 0 == some .lt) = true
  · refine (hy h).mono fun e w' ⟨he, hw⟩ => ⟨?_, hw⟩
    rw [he]; exact ret_float (if_pos h).symm
  · refine (hn (by rw [Bool.not_eq_true] at h; exact h)).mono fun e w' ⟨he, hw⟩ => ⟨?_, hw⟩
    rw [he]; exact ret_float (if_neg h).symm

theorem abs7 (x : Nat) (w : World) : Calls Try.prog 7 #[.float .f64 x] w fun e w' => e = .returned (.float .f64 (Fl.fabs x)) ∧ w = w' := by
  refine abs_of x w (fun h => ?_) (fun h => ?_)
  all_goals
    go_enter Try.func7, Try.ntmps7
    go_wp2
    go_ret
    exact ⟨rfl, rfl⟩

theorem inB_fin {x m : Nat} (hm : Fl.Fin m) (h : inB x m = true) : Fl.Fin x ∧ Fl.ab (Fl.val x) ≤ Fl.val m := by
  unfold inB at h
  rw [Bool.and_eq_true] at h
  obtain ⟨h1, h2⟩ := h
  have hn := Fl.fin_neg.2 hm
  have hf : Fl.Fin x := Fl.fin_of_bounds hm hn h2 h1
  have a : decide (Fl.val x ≤ Fl.val m) = true := by rw [← Fl.le_fin hf hm]; exact h2
  have b : decide (Fl.val (Fl.fneg m) ≤ Fl.val x) = true := by rw [← Fl.ge_fin hf hn]; exact h1
  rw [decide_eq_true_iff] at a b
  rw [Fl.val_neg] at b
  exact ⟨hf, Fl.ab_le.2 ⟨b, a⟩⟩

/-- 'x == x && x >= -lim && x <= lim' -/
def wiB (x m : Nat) : Bool := (FloatKind.f64.format.order x x == some .eq) && geB x (Fl.fneg m) && leB x m
theorem within4 (x m : Nat) (w : World) : Calls Try.prog 4 #[.float .f64 x, .float .f64 m] w fun e w' => e = .returned (.bool (wiB x m)) ∧ w = w' := by
  by_cases h : (FloatKind.f64.format.order x x == some .eq) = true
  · by_cases h2 : (FloatKind.f64.format.order x (Fl.fneg m) == some .gt || FloatKind.f64.format.order x (Fl.fneg m) == some .eq) = true
    · go_enter Try.func4, Try.ntmps4
      go_wp2
      go_ret
      exact ⟨ret_bool' (by unfold wiB leB geB; rw [h, h2]; rfl), rfl⟩
    · rw [Bool.not_eq_true] at h2
      go_enter Try.func4, Try.ntmps4
      go_wp2
      go_ret
      exact ⟨ret_bool' (by unfold wiB geB; rw [h, h2]; rfl), rfl⟩
  · rw [Bool.not_eq_true] at h
    go_enter Try.func4, Try.ntmps4
    go_wp2
    go_ret
    exact ⟨ret_bool' (by unfold wiB; rw [h]; rfl), rfl⟩
theorem wiB_fin {x m : Nat} (hm : Fl.Fin m) (h : wiB x m = true) : Fl.Fin x ∧ Fl.ab (Fl.val x) ≤ Fl.val m := by
  refine inB_fin hm ?_
  unfold wiB at h
  unfold inB
  rw [Bool.and_eq_true, Bool.and_eq_true] at h
  rw [h.1.2, h.2]; rfl
end Go.Proofs.Ytlfgdgelfebciaa
