import Derived.Test.YtgkphknholechaaWn
namespace Go.Proofs.Ytgkphknholechaa
open Go.ChangeShapes Go.WideShapes Go.ChangeAt Go.RowKit

/-- the chain: node j (block L+j) holds node j-1, node 1 holds the leaf x -/
def Ch (L i : Nat) (x : Value) (w : World) : Prop := ∀ j, 1 ≤ j → j ≤ i → w.cell? ⟨L + j, 0, none⟩ = some (if j = 1 then x else .iface 71 (.pointer (some ⟨L + (j - 1), 0, none⟩))) ∧ w.frozen? ⟨L + j, 0, none⟩ = false

/-- what the call of node i leaves -/
def Fr (L i : Nat) (w w' : World) : Prop := (∀ j, i < j → w'.cell? ⟨L + j, 0, none⟩ = w.cell? ⟨L + j, 0, none⟩) ∧ (∀ a, w'.frozen? a = w.frozen? a) ∧ (∀ n w0, n ≤ L + 1 → Below n w0 w → Below n w0 w')

theorem cell_other (w : World) (a b : Nat) (v : Value) (_ : a ≠ b) : (w.setCell ⟨a, 0, none⟩ v).cell? ⟨b, 0, none⟩ = w.cell? ⟨b, 0, none⟩ := by
  simp [go_sem]

theorem Fr.set {L i : Nat} {w w1 : World} (h : Fr L i w w1) (v : Value) : Fr L (i + 1) w (w1.setCell ⟨L + (i + 1), 0, none⟩ v) := by
  refine ⟨fun j hj => ?_, fun a => ?_, fun n w0 hn hb => ?_⟩
  · rw [cell_other _ _ _ _ (by omega)]
    exact h.1 j (by omega)
  · rw [← h.2.1 a]; simp [go_sem]
  · exact Below.setCell (h.2.2 n w0 hn hb) (by simp; omega) _

theorem chain_val (L : Nat) : ∀ i w, Ch L (i + 1) (.iface 39 (.pointer (some ⟨L, 0, none⟩))) w →
    Calls Try.prog 57 #[.pointer (some ⟨L + (i + 1), 0, none⟩)] w fun e w' =>
      e = .returned (if i % 2 = 0 then .iface 71 (.pointer (some ⟨L + (i + 1), 0, none⟩)) else .iface 39 (.pointer (some ⟨L, 0, none⟩)))
      ∧ (i % 2 = 0 → w'.cell? ⟨L + (i + 1), 0, none⟩ = some (.iface 39 (.pointer (some ⟨L, 0, none⟩)))) ∧ Fr L (i + 1) w w' := by
  intro i
  induction i with
  | zero =>
    intro w h
    obtain ⟨h1, h2⟩ := h 1 (by omega) (by omega)
    rw [if_pos rfl] at h1
    refine (neg_leaf (L + 1) L w h1 h2).mono ?_
    rintro e w' ⟨rfl, rfl⟩
    have f0 : Fr L 0 w w := ⟨fun _ _ => rfl, fun _ => rfl, fun _ _ _ h => h⟩
    refine ⟨rfl, fun _ => ?_, f0.set _⟩
    simp [go_sem, h1]
  | succ i ih =>
    intro w h
    obtain ⟨h1, h2⟩ := h (i + 2) (by omega) (by omega)
    rw [if_neg (by omega)] at h1
    have K := ih w (fun j a b => h j a (by omega))
    have e1 : i + 2 - 1 = i + 1 := rfl
    rw [e1] at h1
    by_cases hp : i % 2 = 0
    · rw [if_pos hp] at K
      have hq : ¬ ((i + 1) % 2 = 0) := by omega
      rw [if_neg hq]
      refine (neg_to_neg (L + (i + 2)) (L + (i + 1)) (L + (i + 1)) (.iface 39 (.pointer (some ⟨L, 0, none⟩))) w _ h1 K (by simp) ?_).mono ?_
      · rintro w' ⟨a, b⟩
        exact ⟨⟨_, by rw [b.1 (i + 2) (by omega)]; exact h1⟩, by rw [b.2.1]; exact h2, a hp⟩
      · rintro e w' ⟨rfl, w1, ⟨a, b⟩, rfl⟩
        exact ⟨rfl, fun q => absurd q hq, b.set _⟩
    · rw [if_neg hp] at K
      have hq : (i + 1) % 2 = 0 := by omega
      rw [if_pos hq]
      refine (neg_to_leaf (L + (i + 2)) (L + (i + 1)) L w _ h1 K ?_).mono ?_
      · rintro w' ⟨a, b⟩
        exact ⟨⟨_, by rw [b.1 (i + 2) (by omega)]; exact h1⟩, by rw [b.2.1]; exact h2⟩
      · rintro e w' ⟨rfl, w1, ⟨a, b⟩, rfl⟩
        refine ⟨rfl, fun _ => ?_, b.set _⟩
        have := b.1 (i + 2) (by omega)
        rw [h1] at this
        simp [go_sem, this]
