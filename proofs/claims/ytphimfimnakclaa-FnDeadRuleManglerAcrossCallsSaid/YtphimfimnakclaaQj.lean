/-
  What stands as the rules are built. Conditions: each theorem's own.
-/
import Derived.Test.YtphimfimnakclaaQi
namespace Go.Proofs.Ytphimfimnakclaa
open Go.RowKit Go.Lib
theorem BO.keepI {B : Nat} {v : Value} {ms : List Int} {w w' : World} (h : BO IntT 3 B v ms w) (hs : w.heap.size ≤ w'.heap.size) (ho : ∀ g, v.ownBlock = some g → w'.heap[g]? = w.heap[g]?) : BO IntT 3 B v ms w' := by
  obtain ⟨xs, how, hx⟩ := h.own
  exact ⟨Nat.le_trans h.le hs, xs, own_heap how ho, fun i hi => hx i hi⟩
theorem BO.doneI {B B' : Nat} {v : Value} {ms : List Int} {w : World} (h : BO IntT 3 B v ms w) (hB : B' ≤ B) : RowL IntT w (KP B' w) v ms := by
  obtain ⟨xs, ho, hx⟩ := h.own
  have ho2 := ho.2
  rcases ho2 with ⟨hv, h0⟩ | ⟨g, cap, cur, hv, hb, hh, _⟩
  · subst hv
    refine ⟨none, 0, by rw [h0], fun i hi => by omega⟩
  · subst hv
    refine ⟨_, cap, rfl, fun i hi => ⟨g, rfl, ⟨by omega, cur, _, hh⟩, heap_lt hh, ?_⟩⟩
    refine IntT.loc (c := fun t => xs[i * 1 + t]?) (fun t ht => ?_) (show IntT.E w (KP B' w) _ _ from hx i hi)
    exact (World.ownsRow.cellAt ho (i * 1 + t) (mul_lt_len hi ht)).symm
structure BrR (w : World) (e : Ending) (w' : World) : Prop where
  ex : ∃ (rs : List Rl) (v1 v2 v3 : Value), e = .returned (.tuple #[v1, v2, v3]) ∧ rs.length ≤ 4096 ∧ (∀ r ∈ rs, Good r) ∧ St3 w.heap.size v1 v2 v3 rs w' ∧ Below w.heap.size w w'
structure InL (ws : World) (n c0 p0 j0 : Nat) (g : Nat) (v16 v17 v18 v21 v22 v23 v24 : Value) (wx : World) : Prop where
  ex : ∃ (r : Rl) (c p j : Nat), r.length + g = n ∧ v24 = .int .i64 (r.length : Nat) ∧ v16 = .int .i64 (c : Nat) ∧ v17 = .int .i64 (p : Nat) ∧ v18 = .int .i64 (j : Nat) ∧ c ≤ c0 + r.length ∧ p ≤ p0 + 3 * r.length ∧ j ≤ j0 + 9 * r.length ∧ v23 = .bool (deadR r) ∧ (∀ cx ∈ r, GoodC cx) ∧ BO (CxT SubT) 56 ws.heap.size v22 r wx ∧ BO IntT 3 ws.heap.size v21 ((n : Int) :: r.flatMap keyX) wx ∧ Below ws.heap.size ws wx
structure OuL (w : World) (n0 : Nat) (g : Nat) (v13 v14 v15 v16 v17 v18 v19 : Value) (wx : World) : Prop where
  ex : ∃ (rs : List Rl) (c p j : Nat), rs.length + g = n0 ∧ v19 = .int .i64 (rs.length : Nat) ∧ v16 = .int .i64 (c : Nat) ∧ v17 = .int .i64 (p : Nat) ∧ v18 = .int .i64 (j : Nat) ∧ c ≤ 3 * rs.length ∧ p ≤ 9 * rs.length ∧ j ≤ 27 * rs.length ∧ (∀ r ∈ rs, Good r) ∧ St3 w.heap.size v13 v14 v15 rs wx ∧ Below w.heap.size w wx
theorem St3.start (w : World) (n : Nat) (hn : n ≤ 4096) : ∃ w1 w2 w3, w1 = w.alloc (mkO (.agg #[.nilIface, .int .i32 0]) (n * 2) 47) ∧ w2 = w1.alloc (mkO (.slice none 0 0) (n * 1) 50) ∧ w3 = w2.alloc (mkO (.bool false) (n * 1) 4) ∧
    (Instr.makeSlice 24 (.int .i64 0) (.int .i64 (n : Int))).run Try.prog w = .ok (.slice (some ⟨w.heap.size, 0, none⟩) 0 n) w1 ∧
    (Instr.makeSlice 25 (.int .i64 0) (.int .i64 (n : Int))).run Try.prog w1 = .ok (.slice (some ⟨w1.heap.size, 0, none⟩) 0 n) w2 ∧
    (Instr.makeSlice 26 (.int .i64 0) (.int .i64 (n : Int))).run Try.prog w2 = .ok (.slice (some ⟨w2.heap.size, 0, none⟩) 0 n) w3 ∧
    St3 w.heap.size (.slice (some ⟨w.heap.size, 0, none⟩) 0 n) (.slice (some ⟨w1.heap.size, 0, none⟩) 0 n) (.slice (some ⟨w2.heap.size, 0, none⟩) 0 n) [] w3 ∧ Below w.heap.size w w3 := by
  obtain ⟨w1, h1⟩ : ∃ w1, w1 = w.alloc (mkO (.agg #[.nilIface, .int .i32 0]) (n * 2) 47) := ⟨_, rfl⟩
  obtain ⟨w2, h2⟩ : ∃ w2, w2 = w1.alloc (mkO (.slice none 0 0) (n * 1) 50) := ⟨_, rfl⟩
  obtain ⟨w3, h3⟩ : ∃ w3, w3 = w2.alloc (mkO (.bool false) (n * 1) 4) := ⟨_, rfl⟩
  have b1 : Below w.heap.size w w1 := by rw [h1]; exact (Below.refl _ _).alloc (Nat.le_refl _) _
  have b2 : Below w1.heap.size w1 w2 := by rw [h2]; exact (Below.refl _ _).alloc (Nat.le_refl _) _
  have b3 : Below w2.heap.size w2 w3 := by rw [h3]; exact (Below.refl _ _).alloc (Nat.le_refl _) _
  have b13 : Below w1.heap.size w1 w3 := b2.trans (b3.mono b2.size)
  have o1 := BO.made (PT 2) 47 (.agg #[.nilIface, .int .i32 0]) n w.heap.size w (by omega) (Nat.le_refl _)
  have o2 := BO.made (PT 1) 50 (.slice none 0 0) n w.heap.size w1 (by omega) b1.size
  have o3 := BO.made (PT 1) 4 (.bool false) n w.heap.size w2 (by omega) (Nat.le_trans b1.size b2.size)
  rw [← h1] at o1
  rw [← h2] at o2
  rw [← h3] at o3
  refine ⟨w1, w2, w3, h1, h2, h3, ?_, ?_, ?_, ⟨⟨[], o1.below b13, rfl, fun i h => by simp at h⟩, ⟨[], o2.below b3, rfl, fun i h => by simp at h⟩, o3⟩, b1.trans (b13.mono b1.size)⟩
  · rw [h1]; exact mkS0 24 47 _ 2 24 Try.underlying24 info47 (by decide) n (by omega) w
  · rw [h2]; exact mkS0 25 50 _ 1 24 Try.underlying25 info50 (by decide) n (by omega) w1
  · rw [h3]; exact mkS0 26 4 _ 1 1 Try.underlying26 info4 (by decide) n (by omega) w2
end Go.Proofs.Ytphimfimnakclaa
