/-
  A rule made of its selectors. Conditions: each theorem's own.
-/
import Derived.Test.YtphimfimnakclaaQg
namespace Go.Proofs.Ytphimfimnakclaa
open Go.RowKit Go.Lib
/-- plain cells: an element that says nothing of the rest of the memory -/
def PT (sz : Nat) : Elt (List Value) sz where
  E _ _ c m := ∀ t, t < sz → c t = m[t]?
  keep := fun _ _ _ h => h
  loc := fun h e t ht => (h t ht).symm.trans (e t ht)
theorem BO.keepP {sz : Nat} {e : TypeId} {B : Nat} {v : Value} {ms : List (List Value)} {w w' : World} (h : BO (PT sz) e B v ms w) (hs : w.heap.size ≤ w'.heap.size) (ho : ∀ g, v.ownBlock = some g → w'.heap[g]? = w.heap[g]?) : BO (PT sz) e B v ms w' := by
  obtain ⟨xs, how, hx⟩ := h.own
  exact ⟨Nat.le_trans h.le hs, xs, own_heap how ho, fun i hi => hx i hi⟩
structure RuR (i : Int) (v : Value) (w : World) (e : Ending) (w' : World) : Prop where
  ex : ∃ b, e = .returned (.agg #[.iface 63 (.pointer (some ⟨b, 0, none⟩)), .int .i32 i]) ∧ w.heap.size ≤ b ∧ w'.heap[b]? = some (.cells #[v, .slice none 0 0, .int .i32 0] 67 (0, 0)) ∧ Below w.heap.size w w'
set_option maxRecDepth 100000 in
theorem ru15 (i : Int) (a : Option Addr) (n c : Nat) (w : World) :
    Calls Try.prog 15 #[.int .i32 i, .slice a n c] w fun e w' => RuR i (.slice a n c) w e w' := by
  go_enter Try.func15, Try.ntmps15
  go_wp2_with fail
  exact bodyPost_ret (v := .agg #[.iface 63 (.pointer (some ⟨w.heap.size + 1, 0, none⟩)), .int .i32 i]) (by simp [results, Try.results15, go_sem]) rfl ⟨w.heap.size + 1, rfl, by omega, (two_alloc w _ _).2.2.2, (two_alloc w _ _).1⟩
end Go.Proofs.Ytphimfimnakclaa
