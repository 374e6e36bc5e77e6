/-
  Selectors and rules as they stand in memory, and their makers. Conditions: each theorem's own.
-/
import Derived.Test.YtphimfimnakclaaQb
namespace Go.Proofs.Ytphimfimnakclaa
open Go.RowKit Go.Lib
abbrev hov : Array Value := #[.string ⟨#[104, 111, 118, 101, 114]⟩, .slice none 0 0, .bool false]
/-- a plain pseudo-class -/
def SubT0 : Elt Nat 3 where
  E w P c key := key = 0 ∧ ∃ b, c 0 = some (.iface 107 (.pointer (some ⟨b, 0, none⟩))) ∧ c 1 = some (.int .i32 0) ∧ c 2 = some (.int .i32 0) ∧ P b ∧ b < w.heap.size ∧ w.heap[b]? = some (.cells hov 110 (0, 0))
  keep := by
    rintro w w' P P' h c m ⟨hk, b, e0, e1, e2, hp, hb, hh⟩
    exact ⟨hk, b, e0, e1, e2, h.sub b hp hb, Nat.lt_of_lt_of_le hb h.size, (h.block b hp hb).trans hh⟩
  loc := by
    rintro w P c c' m h ⟨hk, b, e0, e1, e2, hp⟩
    exact ⟨hk, b, by rw [← h 0 (by omega)]; exact e0, by rw [← h 1 (by omega)]; exact e1, by rw [← h 2 (by omega)]; exact e2, hp⟩
def CpT (S : Elt Nat 3) : Elt (List Nat) 6 where
  E w P c m := c 0 = some (.pointer none) ∧ (∃ s, c 1 = some s ∧ RowL S w P s m) ∧ c 2 = some (.slice none 0 0) ∧ c 3 = some (.int .i32 0) ∧ c 4 = some (.int .u8 0) ∧ c 5 = some (.bool false)
  keep := by
    rintro w w' P P' h c m ⟨e0, ⟨s, e1, hr⟩, e2⟩
    exact ⟨e0, ⟨s, e1, hr.keep h⟩, e2⟩
  loc := by
    rintro w P c c' m h ⟨e0, ⟨s, e1, hr⟩, e2, e3, e4, e5⟩
    exact ⟨by rw [← h 0 (by omega)]; exact e0, ⟨s, by rw [← h 1 (by omega)]; exact e1, hr⟩, by rw [← h 2 (by omega)]; exact e2, by rw [← h 3 (by omega)]; exact e3, by rw [← h 4 (by omega)]; exact e4, by rw [← h 5 (by omega)]; exact e5⟩
def CxT (S : Elt Nat 3) : Elt (List (List Nat)) 1 where
  E w P c m := ∃ s, c 0 = some s ∧ RowL (CpT S) w P s m
  keep := by
    rintro w w' P P' h c m ⟨s, e1, hr⟩
    exact ⟨s, e1, hr.keep h⟩
  loc := by
    rintro w P c c' m h ⟨s, e0, hr⟩
    exact ⟨s, by rw [← h 0 (by omega)]; exact e0, hr⟩
/-- a subclass selector by its key -/
def SubT : Elt Nat 3 where
  E w P c key := SubT0.E w P c key ∨ (c 1 = some (.int .i32 0) ∧ c 2 = some (.int .i32 0) ∧ ∃ b k s im, c 0 = some (.iface 98 (.pointer (some ⟨b, 0, none⟩))) ∧ P b ∧ b < w.heap.size ∧ w.heap[b]? = some (.cells #[s, .string ⟨#[]⟩, .string ⟨#[]⟩, .int .u8 (k : Nat)] 104 (0, 0)) ∧ k ≤ 255 ∧ ((key = 256 + k ∧ im = []) ∨ (key = 512 + k ∧ im = [[[0]]])) ∧ RowL (CxT SubT0) w P s im)
  keep := by
    rintro w w' P P' h c m (q | ⟨e1, e2, b, k, s, im, e0, hp, hb, hh, hk, hm, hr⟩)
    · exact Or.inl (SubT0.keep h q)
    · exact Or.inr ⟨e1, e2, b, k, s, im, e0, h.sub b hp hb, Nat.lt_of_lt_of_le hb h.size, (h.block b hp hb).trans hh, hk, hm, hr.keep h⟩
  loc := by
    rintro w P c c' m h (q | ⟨e1, e2, b, k, s, im, e0, hp⟩)
    · exact Or.inl (SubT0.loc h q)
    · exact Or.inr ⟨by rw [← h 1 (by omega)]; exact e1, by rw [← h 2 (by omega)]; exact e2, b, k, s, im, by rw [← h 0 (by omega)]; exact e0, hp⟩
abbrev Rl := List (List (List Nat))
/-- a rule: its place and its selectors -/
def RuT : Elt (Int × Rl) 2 where
  E w P c m := c 1 = some (.int .i32 m.1) ∧ ∃ b s, c 0 = some (.iface 63 (.pointer (some ⟨b, 0, none⟩))) ∧ P b ∧ b < w.heap.size ∧ w.heap[b]? = some (.cells #[s, .slice none 0 0, .int .i32 0] 67 (0, 0)) ∧ RowL (CxT SubT) w P s m.2
  keep := by
    rintro w w' P P' h c m ⟨e1, b, s, e0, hp, hb, hh, hr⟩
    exact ⟨e1, b, s, e0, h.sub b hp hb, Nat.lt_of_lt_of_le hb h.size, (h.block b hp hb).trans hh, hr.keep h⟩
  loc := by
    rintro w P c c' m h ⟨e1, b, s, e0, hp⟩
    exact ⟨by rw [← h 1 (by omega)]; exact e1, b, s, by rw [← h 0 (by omega)]; exact e0, hp⟩
/-- an integer -/
def IntT : Elt Int 1 where
  E _ _ c m := c 0 = some (.int .i64 m)
  keep := by
    rintro w w' P P' h c m e
    exact e
  loc := by
    rintro w P c c' m h e
    exact (h 0 (by omega)).symm.trans e
abbrev New (w w' : World) (g : Nat) : Prop := w.heap.size ≤ g ∧ NT w' g
theorem nt_of {w : World} {g : Nat} {cur : Array Value} {e : TypeId} {fz : Nat × Nat} (h : w.heap[g]? = some (.cells cur e fz)) (he : e ≠ 3) : NT w g := fun c f q => by
  rw [h] at q
  injection q with q
  injection q with _ q
  exact he q
structure SubR (key : Nat) (w : World) (e : Ending) (w' : World) : Prop where
  ex : ∃ c0, e = .returned (.agg #[c0, .int .i32 0, .int .i32 0]) ∧ c0.oneCell' = true ∧ SubT.E w' (New w w') (fun t => [c0, Value.int .i32 0, .int .i32 0][t]?) key ∧ Below w.heap.size w w'
structure HovR (w : World) (e : Ending) (w' : World) : Prop where
  ex : ∃ b, e = .returned (.agg #[.iface 107 (.pointer (some ⟨b, 0, none⟩)), .int .i32 0, .int .i32 0]) ∧ w.heap.size ≤ b ∧ w'.heap[b]? = some (.cells hov 110 (0, 0)) ∧ Below w.heap.size w w'
theorem two_alloc (w : World) (o1 o2 : Obj) : Below w.heap.size w ((w.alloc o1).alloc o2) ∧ ((w.alloc o1).alloc o2).heap.size = w.heap.size + 2 ∧ ((w.alloc o1).alloc o2).heap[w.heap.size]? = some o1 ∧ ((w.alloc o1).alloc o2).heap[w.heap.size + 1]? = some o2 := by
  have s1 : (w.alloc o1).heap.size = w.heap.size + 1 := by simp
  have b1 : Below w.heap.size w (w.alloc o1) := (Below.refl _ _).alloc (Nat.le_refl _) _
  refine ⟨b1.alloc (by omega) o2, by simp, ?_, ?_⟩
  · rw [Below.heap_alloc _ _ _ (by omega)]
    exact heap_alloc_new w o1
  · have := heap_alloc_new (w.alloc o1) o2
    rw [s1] at this
    exact this
set_option maxRecDepth 100000 in
theorem hov24 (w : World) : Calls Try.prog 24 #[] w fun e w' => HovR w e w' := by
  go_enter Try.func24, Try.ntmps24
  go_wp2_with fail
  exact bodyPost_ret (v := .agg #[.iface 107 (.pointer (some ⟨w.heap.size + 1, 0, none⟩)), .int .i32 0, .int .i32 0]) (by simp [results, Try.results24, go_sem]) rfl ⟨w.heap.size + 1, rfl, by omega, (two_alloc w _ _).2.2.2, (two_alloc w _ _).1⟩
structure ListR (k : Nat) (s : Value) (w : World) (e : Ending) (w' : World) : Prop where
  ex : ∃ b, e = .returned (.agg #[.iface 98 (.pointer (some ⟨b, 0, none⟩)), .int .i32 0, .int .i32 0]) ∧ w.heap.size ≤ b ∧ w'.heap[b]? = some (.cells #[s, .string ⟨#[]⟩, .string ⟨#[]⟩, .int .u8 (k : Nat)] 104 (0, 0)) ∧ Below w.heap.size w w'
set_option maxRecDepth 100000 in
theorem list25 (k : Nat) (a : Option Addr) (n c : Nat) (w : World) : Calls Try.prog 25 #[.int .u8 k, .slice a n c] w fun e w' => ListR k (.slice a n c) w e w' := by
  go_enter Try.func25, Try.ntmps25
  go_wp2_with fail
  exact bodyPost_ret (v := .agg #[.iface 98 (.pointer (some ⟨w.heap.size + 1, 0, none⟩)), .int .i32 0, .int .i32 0]) (by simp [results, Try.results25, go_sem]) rfl ⟨w.heap.size + 1, rfl, by omega, (two_alloc w _ _).2.2.2, (two_alloc w _ _).1⟩
end Go.Proofs.Ytphimfimnakclaa
