/-
  The contract of n011_267's zzWithin, and the export's contract for finite channels. Condition: the channels are finite, of size at most 1e300.
-/
import Derived.Test.YtecdhjhobjagkaaFm
namespace Go.Proofs.Ytecdhjhobjagkaa
open Go.ChangeShapes Go.WideShapes Go.ChangeAt Go.RowKit
attribute [local go_sem] unary_neg_float

theorem ret_bool {b : Bool} (h : b = true) : Ending.returned (.bool b) = .returned (.bool true) := by rw [h]
theorem ret_bool' {a b : Bool} (h : a = b) : Ending.returned (.bool a) = .returned (.bool b) := by rw [h]
theorem ret_float {a b : Nat} (h : a = b) : Ending.returned (.float .f64 a) = .returned (.float .f64 b) := by rw [h]

/-- 'x <= y', 'x >= y' as the walk spells them -/
def leB (x y : Nat) : Bool := FloatKind.f64.format.order x y == some .lt || FloatKind.f64.format.order x y == some .eq
def geB (x y : Nat) : Bool := FloatKind.f64.format.order x y == some .gt || FloatKind.f64.format.order x y == some .eq
def inB (x m : Nat) : Bool := geB x (Fl.fneg m) && leB x m

theorem abs_of {n : Nat} (x : Nat) (w : World)
    (hy : (FloatKind.f64.format.order x 0 == some .lt) = true → Calls Try.prog n #[.float .f64 x] w fun e w' => e = .returned (.float .f64 (Fl.fneg x)) ∧ w = w')
    (hn : (FloatKind.f64.format.order x 0 == some .lt) = false → Calls Try.prog n #[.float .f64 x] w fun e w' => e = .returned (.float .f64 x) ∧ w = w') :
    Calls Try.prog n #[.float .f64 x] w fun e w' => e = .returned (.float .f64 (Fl.fabs x)) ∧ w = w' := by
  by_cases h : (FloatKind.f64.format.order x 0 == some .lt) = true
  · refine (hy h).mono fun e w' ⟨he, hw⟩ => ⟨?_, hw⟩
    rw [he]; exact ret_float (if_pos h).symm
  · refine (hn (by rw [Bool.not_eq_true] at h; exact h)).mono fun e w' ⟨he, hw⟩ => ⟨?_, hw⟩
    rw [he]; exact ret_float (if_neg h).symm

theorem in8 (x m : Nat) (w : World) : Calls Try.prog 8 #[.float .f64 x, .float .f64 m] w fun e w' => e = .returned (.bool (inB x m)) ∧ w = w' := by
  by_cases h : (FloatKind.f64.format.order x (Fl.fneg m) == some .gt || FloatKind.f64.format.order x (Fl.fneg m) == some .eq) = true
  · go_enter Try.func8, Try.ntmps8
    go_wp2
    go_ret
    exact ⟨ret_bool' (by unfold inB geB leB; rw [h]; rfl), rfl⟩
  · rw [Bool.not_eq_true] at h
    go_enter Try.func8, Try.ntmps8
    go_wp2
    go_ret
    exact ⟨ret_bool' (by unfold inB geB; rw [h]; rfl), rfl⟩

theorem inB_fin {x m : Nat} (hm : Fl.Fin m) (h : inB x m = true) : Fl.Fin x ∧ Fl.ab (Fl.val x) ≤ Fl.val m := by
  unfold inB at h
  rw [Bool.and_eq_true] at h
  obtain ⟨h1, h2⟩ := h
  have hn := Fl.fin_neg.2 hm
  have hf : Fl.Fin x := Fl.fin_of_bounds hm hn h2 h1
  have a : decide (Fl.val x ≤ Fl.val m) = true := by rw [← Fl.le_fin hf hm]; exact h2
  have b : decide (Fl.val (Fl.fneg m) ≤ Fl.val x) = true := by rw [← Fl.ge_fin hf hn]; exact h1
  rw [decide_eq_true_iff] at a b
  rw [Fl.val_neg] at b
  exact ⟨hf, Fl.ab_le.2 ⟨b, a⟩⟩


theorem hwb_law (x y z : Nat) (w : World) (hx : Fl.Fin x) (hy : Fl.Fin y) (hz : Fl.Fin z) (bx : Fl.ab (Fl.val x) ≤ Fl.BIG / 64) (by' : Fl.ab (Fl.val y) ≤ Fl.BIG / 64) (bz : Fl.ab (Fl.val z) ≤ Fl.BIG / 64) :
    ∃ lw lb, Calls Try.prog 9 #[.float .f64 x, .float .f64 y, .float .f64 z] w fun e w' => (∃ h, HueOk x y z h ∧ e = .returned (.tuple #[.float .f64 h, .float .f64 lw, .float .f64 lb])) ∧ Below w.heap.size w w' := by
  obtain ⟨fX, _, _, _, cX⟩ := max3_ok hx hy hz
  obtain ⟨fN, _, _, _, cN⟩ := min3_ok hx hy hz
  have bX : Fl.ab (Fl.val (fmax (fmax x y) z)) ≤ Fl.BIG / 64 := by rcases cX with c | c | c <;> rw [c] <;> assumption
  have c1 : Fl.Fin 4607182418800017408 ∧ Fl.val 4607182418800017408 = 1 := by decide +kernel
  have c100 : Fl.Fin 4636737291354636288 := by decide
  have big : (1000 : Rat) ≤ Fl.BIG / 64 := by decide +kernel
  have aX := Fl.ab_le.1 bX
  have fn := Fl.fin_neg.2 fX
  have vn := Fl.val_neg (fmax (fmax x y) z)
  obtain ⟨f7, _⟩ := Fl.fadd_err fn c1.1 (Fl.ab_le.2 ⟨by grind, by grind⟩)
  exact ⟨_, _, zzhwb9 (HueOk x y z) x y z _ _ w (fun w => hwb24 (HueOk x y z) x y z _ _ _ _ _ w rfl rfl (Fl.bits_add fn c1.1) (Fl.bits_mul fN c100) (Fl.bits_mul f7 c100) (fun w => hsl_law x y z w hx hy hz bx by' bz))⟩
end Go.Proofs.Ytecdhjhobjagkaa
