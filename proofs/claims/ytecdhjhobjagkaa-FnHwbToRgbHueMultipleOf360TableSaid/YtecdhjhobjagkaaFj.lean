/-
  The greatest and the least of three finite words. Condition: the words are finite.
-/
import Derived.Test.YtecdhjhobjagkaaFi
namespace Go.Proofs.Ytecdhjhobjagkaa
open Ieee

theorem max3_ok {x y z : Nat} (hx : Fl.Fin x) (hy : Fl.Fin y) (hz : Fl.Fin z) :
    Fl.Fin (fmax (fmax x y) z) ∧ Fl.val x ≤ Fl.val (fmax (fmax x y) z) ∧ Fl.val y ≤ Fl.val (fmax (fmax x y) z) ∧ Fl.val z ≤ Fl.val (fmax (fmax x y) z) ∧ (Fl.val (fmax (fmax x y) z) = Fl.val x ∨ Fl.val (fmax (fmax x y) z) = Fl.val y ∨ Fl.val (fmax (fmax x y) z) = Fl.val z) := by
  have h1 : Fl.Fin (fmax x y) ∧ Fl.val x ≤ Fl.val (fmax x y) ∧ Fl.val y ≤ Fl.val (fmax x y) ∧ (Fl.val (fmax x y) = Fl.val x ∨ Fl.val (fmax x y) = Fl.val y) := by
    rcases fmax_fin hx hy with ⟨e, h⟩ | ⟨e, h⟩
    · rw [e]; exact ⟨hx, Rat.le_refl, h, .inl rfl⟩
    · rw [e]; exact ⟨hy, h, Rat.le_refl, .inr rfl⟩
  obtain ⟨f, a, b, c⟩ := h1
  rcases fmax_fin f hz with ⟨e, h⟩ | ⟨e, h⟩
  · rw [e]; exact ⟨f, a, b, h, by rcases c with c | c <;> simp [c]⟩
  · rw [e]; exact ⟨hz, Rat.le_trans a h, Rat.le_trans b h, Rat.le_refl, .inr (.inr rfl)⟩
theorem min3_ok {x y z : Nat} (hx : Fl.Fin x) (hy : Fl.Fin y) (hz : Fl.Fin z) :
    Fl.Fin (fmin (fmin x y) z) ∧ Fl.val (fmin (fmin x y) z) ≤ Fl.val x ∧ Fl.val (fmin (fmin x y) z) ≤ Fl.val y ∧ Fl.val (fmin (fmin x y) z) ≤ Fl.val z ∧ (Fl.val (fmin (fmin x y) z) = Fl.val x ∨ Fl.val (fmin (fmin x y) z) = Fl.val y ∨ Fl.val (fmin (fmin x y) z) = Fl.val z) := by
  have h1 : Fl.Fin (fmin x y) ∧ Fl.val (fmin x y) ≤ Fl.val x ∧ Fl.val (fmin x y) ≤ Fl.val y ∧ (Fl.val (fmin x y) = Fl.val x ∨ Fl.val (fmin x y) = Fl.val y) := by
    rcases fmin_fin hx hy with ⟨e, h⟩ | ⟨e, h⟩
    · rw [e]; exact ⟨hx, Rat.le_refl, h, .inl rfl⟩
    · rw [e]; exact ⟨hy, h, Rat.le_refl, .inr rfl⟩
  obtain ⟨f, a, b, c⟩ := h1
  rcases fmin_fin f hz with ⟨e, h⟩ | ⟨e, h⟩
  · rw [e]; exact ⟨f, a, b, h, by rcases c with c | c <;> simp [c]⟩
  · rw [e]; exact ⟨hz, Rat.le_trans h a, Rat.le_trans h b, Rat.le_refl, .inr (.inr rfl)⟩
/-- what the hue is -/
def HueOk (x y z h : Nat) : Prop := (Fl.val x = Fl.val y ∧ Fl.val y = Fl.val z → h = 9221120237041090561) ∧ (¬(Fl.val x = Fl.val y ∧ Fl.val y = Fl.val z) → Fl.Fin h ∧ 0 ≤ Fl.val h ∧ Fl.val h ≤ 360)
theorem fsub_zero_eq {x y : Nat} (hx : Fl.Fin x) (hy : Fl.Fin y) (h : Fl.val x = Fl.val y) : Fl.Fin (Fl.fsub x y) ∧ Fl.val (Fl.fsub x y) = 0 := by
  obtain ⟨_, r⟩ := Fl.fsub_ok hx hy
  obtain ⟨a, b⟩ := r.exact Fl.fin_zero (by rw [Fl.val_zero, h]; grind)
  exact ⟨a, by rw [b, h]; grind⟩
end Go.Proofs.Ytecdhjhobjagkaa
