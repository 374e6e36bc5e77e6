/-
  The dead-selectors law's guard, its exported function and its lists. Conditions: the shapes of the lists.
-/
import Derived.Test.YtlhcgnlbhncfkaaRe
namespace Go.Proofs.Ytlhcgnlbhncfkaa
open Go.ChangeShapes Go.WideShapes Go.ChangeAt Go.RowKit

theorem zz25 (a : Option Addr) (n c : Nat) (D : Nat → Bool) (w : World) (hn : n ≤ 65536) (hr : CompRow w a n D) :
    Calls Try.prog 25 #[.slice a n c] w fun e w' => DeadRes w n D e w' := by
  have HR := Lib.hid hr
  clear hr
  go_enter Try.func25, Try.ntmps25
  go_wp2_with fail
  refine (dead33 a n c D _ hn HR.out).mono ?_
  rintro e w' ⟨⟨b, rfl, hb⟩, hbl⟩
  have HB := Lib.hid hb
  have HL := Lib.hid hbl
  clear hb hbl
  go_wp2_with fail
  go_ret
  exact ⟨⟨b, rfl, HB.out⟩, HL.out⟩
theorem bytes23 (a0 a1 a2 : Option Addr) (n0 n1 n2 c0 c1 c2 : Nat) (k : Int) (w : World) :
    Calls Try.prog 23 #[.slice a0 n0 c0, .slice a1 n1 c1, .slice a2 n2 c2, .int .i64 k] w fun e w' => (∃ b, e = .returned (.bool b) ∧ (b = true → n0 + n1 + n2 ≤ 1048576)) ∧ w' = w := by
  go_enter Try.func23, Try.ntmps23
  go_wp2_with fail
  all_goals (go_ret; first | exact ⟨⟨false, rfl, by simp⟩, rfl⟩ | exact ⟨⟨true, rfl, fun _ => by omega⟩, rfl⟩)

/-- the cells of an owned list -/
theorem own_cells {w : World} {base : Nat} {e : TypeId} {size : Nat} {g n c : Nat} {xs : List Value} (h : w.ownsRow base e size (.slice (some ⟨g, 0, none⟩) n c) n xs) : ∀ j u, xs[j]? = some u → w.cell? ⟨g, j, none⟩ = some u := by
  intro j u hj
  rcases h.2 with ⟨e0, _⟩ | ⟨g', cap, cur, e0, _, hg, hc, _, hs, ht⟩
  · cases e0
  · injection e0 with e1 _ _
    injection e1 with e1
    injection e1 with e1
    subst e1
    rw [← ht, List.getElem?_take] at hj
    split at hj
    · simp only [Array.getElem?_toList] at hj
      simp [World.cell?, hg, hj]
    · cases hj
theorem CompCells.row {w : World} {base g n c : Nat} {xs : List Value} {D : Nat → Bool} (h : w.ownsRow base 33 6 (.slice (some ⟨g, 0, none⟩) n c) n xs) (hc : CompCells w xs n D) (l m : Nat) (hm : l + m ≤ n) : CompRow w (some ⟨g, l * 6, none⟩) m (fun i => D (l + i)) := by
  intro _
  obtain ⟨cur, hcur⟩ := own_block h g rfl
  refine ⟨g, l * 6, rfl, (Array.getElem?_eq_some_iff.1 hcur).1, fun i hi => ?_⟩
  obtain ⟨g', m', f, a0, a1, a2, a3, a4, a5, hm', hc', hd⟩ := hc.2 (l + i) (by omega)
  have e : l * 6 + i * 6 = (l + i) * 6 := by omega
  rw [e]
  exact ⟨g', m', f, own_cells h _ _ a0, own_cells h _ _ a1, own_cells h _ _ a2, own_cells h _ _ a3, own_cells h _ _ a4, own_cells h _ _ a5, hm', hc', hd⟩
theorem CompRow.below {w w' : World} {a : Option Addr} {n : Nat} {D : Nat → Bool} (h : CompRow w a n D) (hb : Below w.heap.size w w') : CompRow w' a n D := by
  intro hn
  obtain ⟨B, off, e, hlt, hc⟩ := h hn
  refine ⟨B, off, e, Nat.lt_of_lt_of_le hlt hb.size, fun i hi => ?_⟩
  have cell : ∀ o, w'.cell? ⟨B, o, none⟩ = w.cell? ⟨B, o, none⟩ := fun o => hb.cell (p := ⟨B, o, none⟩) hlt
  simp only [cell]
  obtain ⟨g, m, f, a0, a1, a2, a3, a4, a5, hm, hcc, hd⟩ := hc i hi
  exact ⟨g, m, f, a0, a1, a2, a3, a4, a5, hm, hcc.k33 (K33.below hb), hd⟩
theorem CompRow.at {w : World} {a a' : Option Addr} {n : Nat} {D : Nat → Bool} (h : CompRow w a n D) (e : 0 < n → a' = a) : CompRow w a' n D := by
  intro hn
  rw [e hn]
  exact h hn
/-- the reversed list's loop -/
structure Lr (w0 : World) (N : Nat) (D : Nat → Bool) (vr vi : Value) (w : World) : Prop where
  ex : ∃ r g xs, r ≤ N ∧ vr = .slice (some ⟨g, 0, none⟩) r N ∧ vi = .int .i64 ((N : Int) - 1 - (r : Int)) ∧ w.ownsRow w0.heap.size 33 6 (.slice (some ⟨g, 0, none⟩) r N) r xs ∧ CompCells w xs r (fun i => D (N - 1 - i))
  below : Below w0.heap.size w0 w
end Go.Proofs.Ytlhcgnlbhncfkaa
