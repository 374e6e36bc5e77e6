/-
  Plain facts on math.Min and math.Max of finite words. Condition: the words are finite.
-/
import Derived.Test.YtecdhjhobjagkaaFa
namespace Go.Proofs.Ytecdhjhobjagkaa
open Ieee

theorem dec_read (x : Nat) : FloatKind.f64.decode x = double.read x := rfl
theorem val_of_zero {x : Nat} (hx : Fl.Fin x) (h : (double.read x).isZero = true) : Fl.val x = 0 := by
  obtain ⟨m, i, e, _, _, v, _, hz⟩ := Fl.read_fin x hx
  rw [e] at h
  have hm : m = 0 := by
    cases m with
    | zero => rfl
    | succ k => simp [Datum.isZero] at h
  have hr := hz.1 hm
  unfold Fl.val
  rw [hr, Fl.mg_zero]
  simp
theorem fpick_fin (neg : Bool) (win : Ordering) {x y : Nat} (hx : Fl.Fin x) (hy : Fl.Fin y) :
    (fpick neg win x y = x ∧ Fl.val x = Fl.val y) ∨ (fpick neg win x y = y ∧ Fl.val x = Fl.val y) ∨ fpick neg win x y = if double.order x y == some win then x else y := by
  obtain ⟨m, i, e1⟩ := Fl.read_number hx
  obtain ⟨n, j, e2⟩ := Fl.read_number hy
  unfold fpick
  rw [dec_read, dec_read]
  have a1 : (double.read x == Datum.infinity neg) = false := by rw [e1]; rfl
  have a2 : (double.read y == Datum.infinity neg) = false := by rw [e2]; rfl
  have b1 : (double.read x).isNaN = false := by rw [e1]; rfl
  have b2 : (double.read y).isNaN = false := by rw [e2]; rfl
  rw [a1, a2, b1, b2]
  simp only [Bool.or_self, Bool.false_eq_true, if_false]
  by_cases hz : ((double.read x).isZero && (double.read y).isZero) = true
  · rw [if_pos hz]
    rw [Bool.and_eq_true] at hz
    have v : Fl.val x = Fl.val y := by rw [val_of_zero hx hz.1, val_of_zero hy hz.2]
    split
    · exact .inl ⟨rfl, v⟩
    · exact .inr (.inl ⟨rfl, v⟩)
  · rw [if_neg hz]
    exact .inr (.inr rfl)
theorem fmin_fin {x y : Nat} (hx : Fl.Fin x) (hy : Fl.Fin y) : (fmin x y = x ∧ Fl.val x ≤ Fl.val y) ∨ (fmin x y = y ∧ Fl.val y ≤ Fl.val x) := by
  unfold fmin
  rcases fpick_fin true .lt hx hy with ⟨h, v⟩ | ⟨h, v⟩ | h
  · exact .inl ⟨h, by rw [v]; exact Rat.le_refl⟩
  · exact .inr ⟨h, by rw [v]; exact Rat.le_refl⟩
  · rw [h, (Fl.order_fin hx hy).1]
    by_cases e : Fl.val x < Fl.val y
    · rw [decide_eq_true e]; exact .inl ⟨rfl, Rat.le_of_lt e⟩
    · rw [decide_eq_false e]; exact .inr ⟨rfl, Rat.not_lt.1 e⟩
theorem fmax_fin {x y : Nat} (hx : Fl.Fin x) (hy : Fl.Fin y) : (fmax x y = x ∧ Fl.val y ≤ Fl.val x) ∨ (fmax x y = y ∧ Fl.val x ≤ Fl.val y) := by
  unfold fmax
  rcases fpick_fin false .gt hx hy with ⟨h, v⟩ | ⟨h, v⟩ | h
  · exact .inl ⟨h, by rw [v]; exact Rat.le_refl⟩
  · exact .inr ⟨h, by rw [v]; exact Rat.le_refl⟩
  · rw [h, (Fl.order_fin hx hy).2.2]
    by_cases e : Fl.val y < Fl.val x
    · rw [decide_eq_true e]; exact .inl ⟨rfl, Rat.le_of_lt e⟩
    · rw [decide_eq_false e]; exact .inr ⟨rfl, Rat.not_lt.1 e⟩
end Go.Proofs.Ytecdhjhobjagkaa
