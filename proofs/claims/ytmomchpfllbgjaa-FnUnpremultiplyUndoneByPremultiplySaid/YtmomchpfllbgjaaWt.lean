/-
  The contracts of n011_53's helpers (zzTame, zzHueSlot), and the law of an invalid float operation: it gives some NaN. Plain functions of the words.
-/
import Derived.Test.YtmomchpfllbgjaaWi
import Derived.Test.YtmomchpfllbgjaaFm
namespace Go.Proofs.Ytmomchpfllbgjaa
open Go.ChangeShapes Go.WideShapes Go.ChangeAt Go.RowKit
attribute [local go_sem] unary_neg_float

/-- the NaN word that the tape's answer t stands for -/
def nanOf (t : Nat) : Nat := (t % 2) * 2 ^ 63 + 0x7ff0000000000000 + 1 + (t / 2) % (2 ^ 52 - 1)
theorem run_float_nan {P : Program} (w : World) (op : BinOp) (t : TypeId) (x y : Nat) (ho : op = .add ∨ op = .sub ∨ op = .mul ∨ op = .quo) (h : floatBits op .f64 x y = none) :
    (binOp op t (.float .f64 x) (.float .f64 y)).run P w = .ok (.float .f64 (nanOf (w.tape w.drawn (.nanBits .f64 x y)))) w.drew := by
  unfold floatBits at h
  rcases ho with rfl | rfl | rfl | rfl <;> simp only at h <;> simp [binOp, Op.floatArith, h, Question.forced, Question.cut, nanOf]

theorem nanOf_read (t : Nat) : ∃ s f, Ieee.double.read (nanOf t) = .nan s f := by
  have hs : Ieee.double.signWeight = 9223372036854775808 := by decide
  have hb : Ieee.double.binade = 4503599627370496 := by decide
  have hi : Ieee.double.infRung = 9218868437227405312 := by decide
  have hr : nanOf t % 9223372036854775808 = 9218868437227405313 + (t / 2) % 4503599627370495 := by
    unfold nanOf
    have : (t / 2) % (2 ^ 52 - 1) < 4503599627370495 := Nat.mod_lt _ (by decide)
    have e : (t / 2) % (2 ^ 52 - 1) = (t / 2) % 4503599627370495 := rfl
    omega
  unfold Ieee.Format.read
  rw [hs, hb, hi]
  simp only [hr]
  rw [if_neg (by omega), if_neg (by omega), if_neg (by omega)]
  exact ⟨_, _, rfl⟩
theorem order_nan (t y : Nat) : FloatKind.f64.format.order (nanOf t) y = none := by
  obtain ⟨s, f, h⟩ := nanOf_read t
  show Ieee.double.order (nanOf t) y = none
  unfold Ieee.Format.order
  rw [h]; rfl

/-- zzTame of a finite word -/
def tmF (x lim : Nat) : Bool := !(FloatKind.f64.format.order (Fl.fabs x) lim == some .gt) && ((FloatKind.f64.format.order x 0 == some .eq) || geB (Fl.fabs x) 1614679632300144556)
theorem eq_self {x : Nat} (hx : Fl.Fin x) : (FloatKind.f64.format.order x x == some .eq) = true := by
  have := (Fl.order_fin hx hx).2.1
  change (FloatKind.f64.format.order x x == some .eq) = _ at this
  rw [this]; simp
theorem ne_of_eq {x y : Nat} (h : (FloatKind.f64.format.order x y == some .eq) = true) : (FloatKind.f64.format.order x y != some .eq) = false := by
  unfold bne; rw [h]; rfl
theorem tame_fin (x lim : Nat) (w : World) (hx : Fl.Fin x) : Calls Try.prog 38 #[.float .f64 x, .float .f64 lim] w fun e w' => e = .returned (.bool (tmF x lim)) ∧ w = w' := by
  have e1 := ne_of_eq (eq_self hx)
  have hz := (Fl.fsub_ok hx hx).2
  have q : Fl.val x - Fl.val x = 0 := by grind
  rw [q] at hz
  obtain ⟨fz, vz⟩ := hz.zero
  have e2 : (FloatKind.f64.format.order (Fl.fsub x x) 0 != some .eq) = false := by
    apply ne_of_eq
    have := (Fl.order_fin fz Fl.fin_zero).2.1
    change (FloatKind.f64.format.order (Fl.fsub x x) 0 == some .eq) = _ at this
    rw [this, vz, Fl.val_zero]; simp
  have c1 := fun w ty => run_float_arith (P := Try.prog) w .sub ty .f64 x x _ (Fl.bits_sub hx hx)
  clear q vz fz hz hx
  by_cases h1 : (FloatKind.f64.format.order (Fl.fabs x) lim == some .gt) = true
  · go_enter Try.func38, Try.ntmps38
    go_wp2_with (go_at_call 42; refine (abs42 _ _).mono ?_; rintro e w' ⟨rfl, rfl⟩)
    go_ret
    exact ⟨ret_bool' (by unfold tmF; rw [h1]; rfl), rfl⟩
  rw [Bool.not_eq_true] at h1
  by_cases h2 : (FloatKind.f64.format.order x 0 == some .eq) = true
  · go_enter Try.func38, Try.ntmps38
    go_wp2_with (go_at_call 42; refine (abs42 _ _).mono ?_; rintro e w' ⟨rfl, rfl⟩)
    go_ret
    exact ⟨ret_bool' (by unfold tmF; rw [h1, h2]; rfl), rfl⟩
  rw [Bool.not_eq_true] at h2
  go_enter Try.func38, Try.ntmps38
  go_wp2_with (go_at_call 42; refine (abs42 _ _).mono ?_; rintro e w' ⟨rfl, rfl⟩)
  go_ret
  exact ⟨ret_bool' (by unfold tmF geB; rw [h1, h2]; rfl), rfl⟩

theorem tame_not (x lim : Nat) (w : World) (hx : ¬ Fl.Fin x) : Calls Try.prog 38 #[.float .f64 x, .float .f64 lim] w fun e w' => e = .returned (.bool false) ∧ Below w.heap.size w w' := by
  rcases Fl.read_not_fin hx with r | r
  · -- an infinity
    have e1 : (FloatKind.f64.format.order x x != some .eq) = false := by
      apply ne_of_eq
      show (Ieee.double.order x x == some .eq) = true
      unfold Ieee.Format.order; rw [r]; cases Fl.ng x <;> rfl
    have hn : floatBits .sub .f64 x x = none := by
      show Ieee.double.sub x x = none
      unfold Ieee.Format.sub; rw [r]; cases Fl.ng x <;> rfl
    have c1 := fun w ty => run_float_nan (P := Try.prog) w .sub ty x x (by simp) hn
    have c2 : ∀ t, (FloatKind.f64.format.order (nanOf t) 0 != some .eq) = true := fun t => by rw [order_nan]; rfl
    clear r hn hx
    go_enter Try.func38, Try.ntmps38
    go_wp2_with (go_at_call 42; refine (abs42 _ _).mono ?_; rintro e w' ⟨rfl, rfl⟩)
    go_ret
    exact ⟨rfl, (Below.refl _ _).drew⟩
  · have e1 : (FloatKind.f64.format.order x x != some .eq) = true := by
      show (Ieee.double.order x x != some .eq) = true
      unfold Ieee.Format.order; rw [r]; rfl
    clear r hx
    go_enter Try.func38, Try.ntmps38
    go_wp2_with (go_at_call 42; refine (abs42 _ _).mono ?_; rintro e w' ⟨rfl, rfl⟩)
    go_ret
    exact ⟨rfl, Below.refl _ _⟩
end Go.Proofs.Ytmomchpfllbgjaa
