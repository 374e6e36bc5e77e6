/-
  Dead selectors. Conditions: each theorem's own.
-/
import Derived.Test.YtphimfimnakclaaQq
namespace Go.Proofs.Ytphimfimnakclaa
open Go.RowKit Go.Lib
structure DdR (z : Bool) (w : World) (e : Ending) (w' : World) : Prop where
  ex : e = .returned (.bool z) ∧ Below w.heap.size w w'
structure DdL (w : World) (p : Nat → Bool) (n : Nat) (g : Nat) (vi : Value) (wx : World) : Prop where
  ex : ∃ i, i + g = n ∧ vi = .int .i64 (i : Nat) ∧ (∀ k, k < i → p k = false) ∧ Below w.heap.size w wx
/-- what a subclass selector shows to containsDeadSelectors -/
theorem sub_shows {w w' : World} {P : Nat → Prop} {c : Cells} {key : Nat} (h : SubT.E w P c key) (hB : Below w.heap.size w w') : c 1 = some (.int .i32 0) ∧ c 2 = some (.int .i32 0) ∧
    ((∃ b, c 0 = some (.iface 107 (.pointer (some ⟨b, 0, none⟩))) ∧ deadK key = false) ∨
     (∃ b k a n cc, c 0 = some (.iface 98 (.pointer (some ⟨b, 0, none⟩))) ∧ b < w'.heap.size ∧ w'.heap[b]? = some (.cells #[.slice a n cc, .string ⟨#[]⟩, .string ⟨#[]⟩, .int .u8 (k : Nat)] 104 (0, 0)) ∧ k ≤ 255 ∧ deadK key = (decide (n = 0) && (decide (k = 2) || decide (k = 9))))) := by
  rcases h with ⟨rfl, b, e0, e1, e2, hp, hb, hh⟩ | ⟨e1, e2, b, k, s, im, e0, hp, hb, hh, hk, hm, hr⟩
  · exact ⟨e1, e2, Or.inl ⟨b, e0, by decide⟩⟩
  · obtain ⟨a, cc, rfl, _⟩ := id hr
    refine ⟨e1, e2, Or.inr ⟨b, k, a, im.length, cc, e0, Nat.lt_of_lt_of_le hb hB.size, (hB.block b hb).trans hh, hk, ?_⟩⟩
    rcases hm with ⟨rfl, rfl⟩ | ⟨rfl, rfl⟩
    · rw [Bool.eq_iff_iff]
      simp only [deadK, Bool.or_eq_true, Bool.and_eq_true, beq_iff_eq, decide_eq_true_eq, List.length_nil, true_and]
      omega
    · rw [Bool.eq_iff_iff]
      simp only [deadK, Bool.or_eq_true, Bool.and_eq_true, beq_iff_eq, decide_eq_true_eq, List.length_cons, List.length_nil]
      omega
end Go.Proofs.Ytphimfimnakclaa
