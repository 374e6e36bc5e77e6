/-
  The contract of multiplyMatrices: each result is the row's products summed in order, in float64; nothing that was there is written. Condition: no step leaves the finite numbers (RowFin).
-/
import Derived.Test.YtlfgdgelfebciaaWa
import Derived.Deep.RegionHeld3
import Derived.Deep.DrawnRows
namespace Go.Proofs.Ytlfgdgelfebciaa
open Go.ChangeShapes Go.WideShapes Go.ChangeAt Go.RowKit
attribute [local go_sem ↓] Go.wp_at_zero Go.wp_at_succ

/-- the three result cells are there and may be written; nothing below N has turned -/
structure Res (N : Nat) (w0 w' : World) : Prop where
  below : Below N w0 w'
  size : N + 7 ≤ w'.heap.size
  c8 : ∃ v, w'.cell? ⟨N + 1 + 1 + 1 + 1, 0, none⟩ = some v
  c9 : ∃ v, w'.cell? ⟨N + 1 + 1 + 1 + 1 + 1, 0, none⟩ = some v
  c10 : ∃ v, w'.cell? ⟨N + 1 + 1 + 1 + 1 + 1 + 1, 0, none⟩ = some v
  f8 : w'.frozen? ⟨N + 1 + 1 + 1 + 1, 0, none⟩ = false
  f9 : w'.frozen? ⟨N + 1 + 1 + 1 + 1 + 1, 0, none⟩ = false
  f10 : w'.frozen? ⟨N + 1 + 1 + 1 + 1 + 1 + 1, 0, none⟩ = false

theorem Res.call {N : Nat} {w0 w1 w2 : World} (h : Res N w0 w1) (hb : Below w1.heap.size w1 w2) : Res N w0 w2 := by
  have hs := h.size
  have hz := hb.size
  refine ⟨h.below.trans (hb.mono (by omega)), by omega, ?_, ?_, ?_, ?_, ?_, ?_⟩
  · rw [hb.cell (p := ⟨N + 1 + 1 + 1 + 1, 0, none⟩) (by show N + 1 + 1 + 1 + 1 < _; omega)]; exact h.c8
  · rw [hb.cell (p := ⟨N + 1 + 1 + 1 + 1 + 1, 0, none⟩) (by show N + 1 + 1 + 1 + 1 + 1 < _; omega)]; exact h.c9
  · rw [hb.cell (p := ⟨N + 1 + 1 + 1 + 1 + 1 + 1, 0, none⟩) (by show N + 1 + 1 + 1 + 1 + 1 + 1 < _; omega)]; exact h.c10
  · rw [hb.frozen (p := ⟨N + 1 + 1 + 1 + 1, 0, none⟩) (by show N + 1 + 1 + 1 + 1 < _; omega)]; exact h.f8
  · rw [hb.frozen (p := ⟨N + 1 + 1 + 1 + 1 + 1, 0, none⟩) (by show N + 1 + 1 + 1 + 1 + 1 < _; omega)]; exact h.f9
  · rw [hb.frozen (p := ⟨N + 1 + 1 + 1 + 1 + 1 + 1, 0, none⟩) (by show N + 1 + 1 + 1 + 1 + 1 + 1 < _; omega)]; exact h.f10

theorem store_run {w : World} {a : Addr} {m : Mode} (v : Nat) (hc : ∃ u, w.cell? a = some u) (hf : w.frozen? a = false) :
    (store a (.float .f64 v) m).run Try.prog w = .ok () (w.setCell a (.float .f64 v)) := by
  obtain ⟨u, hu⟩ := hc
  rw [run_store _ _ _ _ _ rfl, hu]
  simp [hf]

theorem Res.store8 {N : Nat} {w0 w1 : World} (h : Res N w0 w1) (v : Nat) : Res N w0 (w1.setCell ⟨N + 1 + 1 + 1 + 1, 0, none⟩ (.float .f64 v)) := by
  obtain ⟨a, b, ⟨u, c⟩, d, e, f, g, i⟩ := h
  refine ⟨a.setCell (by show N ≤ N + 1 + 1 + 1 + 1; omega) _, by simpa [World.setCell] using b, ?_, ?_, ?_, by rw [World.frozen?_setCell]; exact f, by rw [World.frozen?_setCell]; exact g, by rw [World.frozen?_setCell]; exact i⟩
  · exact ⟨_, World.cell?_setCell_same _ _ _ c⟩
  · rw [World.cell?_setCell_other _ _ _ _ (by simp)]; exact d
  · rw [World.cell?_setCell_other _ _ _ _ (by first | (simp; done) | (simp; omega))]; exact e
theorem Res.store9 {N : Nat} {w0 w1 : World} (h : Res N w0 w1) (v : Nat) : Res N w0 (w1.setCell ⟨N + 1 + 1 + 1 + 1 + 1, 0, none⟩ (.float .f64 v)) := by
  obtain ⟨a, b, d, ⟨u, c⟩, e, f, g, i⟩ := h
  refine ⟨a.setCell (by show N ≤ N + 1 + 1 + 1 + 1 + 1; omega) _, by simpa [World.setCell] using b, ?_, ?_, ?_, by rw [World.frozen?_setCell]; exact f, by rw [World.frozen?_setCell]; exact g, by rw [World.frozen?_setCell]; exact i⟩
  · rw [World.cell?_setCell_other _ _ _ _ (by first | (simp; done) | (simp; omega))]; exact d
  · exact ⟨_, World.cell?_setCell_same _ _ _ c⟩
  · rw [World.cell?_setCell_other _ _ _ _ (by first | (simp; done) | (simp; omega))]; exact e
theorem Res.store10 {N : Nat} {w0 w1 : World} (h : Res N w0 w1) (v : Nat) : Res N w0 (w1.setCell ⟨N + 1 + 1 + 1 + 1 + 1 + 1, 0, none⟩ (.float .f64 v)) := by
  obtain ⟨a, b, d, e, ⟨u, c⟩, f, g, i⟩ := h
  refine ⟨a.setCell (by show N ≤ N + 1 + 1 + 1 + 1 + 1 + 1; omega) _, by simpa [World.setCell] using b, ?_, ?_, ?_, by rw [World.frozen?_setCell]; exact f, by rw [World.frozen?_setCell]; exact g, by rw [World.frozen?_setCell]; exact i⟩
  · rw [World.cell?_setCell_other _ _ _ _ (by first | (simp; done) | (simp; omega))]; exact d
  · rw [World.cell?_setCell_other _ _ _ _ (by first | (simp; done) | (simp; omega))]; exact e
  · exact ⟨_, World.cell?_setCell_same _ _ _ c⟩
theorem setCell_back {w : World} {a : Addr} {u v : Value} (h : (w.setCell a u).cell? a = some v) : ∃ x, w.cell? a = some x := by
  cases hc : w.cell? a with
  | some x => exact ⟨x, rfl⟩
  | none =>
    exfalso
    unfold World.cell? at hc
    unfold World.setCell World.cell? at h
    simp only [Array.getElem?_modify] at h
    rw [if_pos trivial] at h
    cases hb : w.heap[a.block]? with
    | none => rw [hb] at h; simp at h
    | some o =>
      rw [hb] at h hc
      cases o with
      | cells c e f =>
        simp only [Option.map_some] at h hc
        cases hs : a.spot.isSome with
        | true => simp [hs] at h
        | false =>
          rw [hs] at h hc
          simp at h hc
          rw [Array.getElem?_eq_none (by simpa using hc)] at h
          cases h
      | _ => simp at h

theorem three_cells {N : Nat} {w0 w1 : World} {r0 r1 r2 : Value} (hR : Res N w0 (((w1.setCell ⟨N + 1 + 1 + 1 + 1, 0, none⟩ r0).setCell ⟨N + 1 + 1 + 1 + 1 + 1, 0, none⟩ r1).setCell ⟨N + 1 + 1 + 1 + 1 + 1 + 1, 0, none⟩ r2)) :
    (((w1.setCell ⟨N + 1 + 1 + 1 + 1, 0, none⟩ r0).setCell ⟨N + 1 + 1 + 1 + 1 + 1, 0, none⟩ r1).setCell ⟨N + 1 + 1 + 1 + 1 + 1 + 1, 0, none⟩ r2).cell? ⟨N + 1 + 1 + 1 + 1, 0, none⟩ = some r0
    ∧ (((w1.setCell ⟨N + 1 + 1 + 1 + 1, 0, none⟩ r0).setCell ⟨N + 1 + 1 + 1 + 1 + 1, 0, none⟩ r1).setCell ⟨N + 1 + 1 + 1 + 1 + 1 + 1, 0, none⟩ r2).cell? ⟨N + 1 + 1 + 1 + 1 + 1, 0, none⟩ = some r1
    ∧ (((w1.setCell ⟨N + 1 + 1 + 1 + 1, 0, none⟩ r0).setCell ⟨N + 1 + 1 + 1 + 1 + 1, 0, none⟩ r1).setCell ⟨N + 1 + 1 + 1 + 1 + 1 + 1, 0, none⟩ r2).cell? ⟨N + 1 + 1 + 1 + 1 + 1 + 1, 0, none⟩ = some r2 := by
  obtain ⟨v8, h8⟩ := hR.c8
  obtain ⟨v9, h9⟩ := hR.c9
  obtain ⟨v10, h10⟩ := hR.c10
  have n1 : (⟨N + 1 + 1 + 1 + 1 + 1 + 1, 0, none⟩ : Addr) ≠ ⟨N + 1 + 1 + 1 + 1, 0, none⟩ := by simp <;> omega
  have n2 : (⟨N + 1 + 1 + 1 + 1 + 1, 0, none⟩ : Addr) ≠ ⟨N + 1 + 1 + 1 + 1, 0, none⟩ := by simp <;> omega
  have n3 : (⟨N + 1 + 1 + 1 + 1 + 1 + 1, 0, none⟩ : Addr) ≠ ⟨N + 1 + 1 + 1 + 1 + 1, 0, none⟩ := by simp <;> omega
  rw [World.cell?_setCell_other _ _ _ _ (by first | exact n1 | exact n1.symm), World.cell?_setCell_other _ _ _ _ (by first | exact n2 | exact n2.symm)] at h8 ⊢
  rw [World.cell?_setCell_other _ _ _ _ (by first | exact n3 | exact n3.symm)] at h9
  obtain ⟨x8, y8⟩ := setCell_back h8
  obtain ⟨x9, y9⟩ := setCell_back h9
  obtain ⟨x10, y10⟩ := setCell_back h10
  refine ⟨World.cell?_setCell_same _ _ _ y8, ?_, World.cell?_setCell_same _ _ _ y10⟩
  rw [World.cell?_setCell_other _ _ _ _ (by first | exact n3 | exact n3.symm)]
  exact World.cell?_setCell_same _ _ _ y9

theorem kc {N b o : Nat} {w0 w1 w2 : World} {v : Value} (hr : Res N w0 w1) (hb : Below w1.heap.size w1 w2) (hlt : b < N + 7) (h : w1.cell? ⟨b, o, none⟩ = some v) : w2.cell? ⟨b, o, none⟩ = some v := by
  rw [hb.cell (p := ⟨b, o, none⟩) (by show b < _; have := hr.size; omega)]; exact h

/-- what the region of multiplyMatrices reads, and that it may write its three results -/
def SS (N : Nat) (c0 c1 c2 c3 c4 c5 c6 c7 c8 x0 x1 x2 : Nat) (w0 w' : World) : Prop := w'.cell? ⟨N, 0, none⟩ = some (.float .f64 c0) ∧ w'.cell? ⟨N, 1, none⟩ = some (.float .f64 c1) ∧ w'.cell? ⟨N, 2, none⟩ = some (.float .f64 c2) ∧ w'.cell? ⟨N, 3, none⟩ = some (.float .f64 c3) ∧ w'.cell? ⟨N, 4, none⟩ = some (.float .f64 c4) ∧ w'.cell? ⟨N, 5, none⟩ = some (.float .f64 c5) ∧ w'.cell? ⟨N, 6, none⟩ = some (.float .f64 c6) ∧ w'.cell? ⟨N, 7, none⟩ = some (.float .f64 c7) ∧ w'.cell? ⟨N, 8, none⟩ = some (.float .f64 c8) ∧ w'.cell? ⟨N + 1, 0, none⟩ = some (.float .f64 x0) ∧ w'.cell? ⟨N + 1 + 1, 0, none⟩ = some (.float .f64 x1) ∧ w'.cell? ⟨N + 1 + 1 + 1, 0, none⟩ = some (.float .f64 x2) ∧ Res N w0 w'

theorem SS.call {N c0 c1 c2 c3 c4 c5 c6 c7 c8 x0 x1 x2 : Nat} {w0 w1 w2 : World} (h : SS N c0 c1 c2 c3 c4 c5 c6 c7 c8 x0 x1 x2 w0 w1) (hb : Below w1.heap.size w1 w2) : SS N c0 c1 c2 c3 c4 c5 c6 c7 c8 x0 x1 x2 w0 w2 := by
  obtain ⟨h0, h1, h2, h3, h4, h5, h6, h7, h8, h9, h10, h11, hR⟩ := h
  exact ⟨kc hR hb (by omega) h0, kc hR hb (by omega) h1, kc hR hb (by omega) h2, kc hR hb (by omega) h3, kc hR hb (by omega) h4, kc hR hb (by omega) h5, kc hR hb (by omega) h6, kc hR hb (by omega) h7, kc hR hb (by omega) h8, kc hR hb (by omega) h9, kc hR hb (by omega) h10, kc hR hb (by omega) h11, hR.call hb⟩
theorem SS.s8 {N c0 c1 c2 c3 c4 c5 c6 c7 c8 x0 x1 x2 : Nat} {w0 w1 : World} (h : SS N c0 c1 c2 c3 c4 c5 c6 c7 c8 x0 x1 x2 w0 w1) (v : Nat) : SS N c0 c1 c2 c3 c4 c5 c6 c7 c8 x0 x1 x2 w0 (w1.setCell ⟨N + 1 + 1 + 1 + 1, 0, none⟩ (.float .f64 v)) := by
  obtain ⟨h0, h1, h2, h3, h4, h5, h6, h7, h8, h9, h10, h11, hR⟩ := h
  exact ⟨by rw [World.cell?_setCell_other _ _ _ _ (by simp <;> omega)]; exact h0, by rw [World.cell?_setCell_other _ _ _ _ (by simp <;> omega)]; exact h1, by rw [World.cell?_setCell_other _ _ _ _ (by simp <;> omega)]; exact h2, by rw [World.cell?_setCell_other _ _ _ _ (by simp <;> omega)]; exact h3, by rw [World.cell?_setCell_other _ _ _ _ (by simp <;> omega)]; exact h4, by rw [World.cell?_setCell_other _ _ _ _ (by simp <;> omega)]; exact h5, by rw [World.cell?_setCell_other _ _ _ _ (by simp <;> omega)]; exact h6, by rw [World.cell?_setCell_other _ _ _ _ (by simp <;> omega)]; exact h7, by rw [World.cell?_setCell_other _ _ _ _ (by simp <;> omega)]; exact h8, by rw [World.cell?_setCell_other _ _ _ _ (by simp <;> omega)]; exact h9, by rw [World.cell?_setCell_other _ _ _ _ (by simp <;> omega)]; exact h10, by rw [World.cell?_setCell_other _ _ _ _ (by simp <;> omega)]; exact h11, hR.store8 v⟩
theorem SS.s9 {N c0 c1 c2 c3 c4 c5 c6 c7 c8 x0 x1 x2 : Nat} {w0 w1 : World} (h : SS N c0 c1 c2 c3 c4 c5 c6 c7 c8 x0 x1 x2 w0 w1) (v : Nat) : SS N c0 c1 c2 c3 c4 c5 c6 c7 c8 x0 x1 x2 w0 (w1.setCell ⟨N + 1 + 1 + 1 + 1 + 1, 0, none⟩ (.float .f64 v)) := by
  obtain ⟨h0, h1, h2, h3, h4, h5, h6, h7, h8, h9, h10, h11, hR⟩ := h
  exact ⟨by rw [World.cell?_setCell_other _ _ _ _ (by simp <;> omega)]; exact h0, by rw [World.cell?_setCell_other _ _ _ _ (by simp <;> omega)]; exact h1, by rw [World.cell?_setCell_other _ _ _ _ (by simp <;> omega)]; exact h2, by rw [World.cell?_setCell_other _ _ _ _ (by simp <;> omega)]; exact h3, by rw [World.cell?_setCell_other _ _ _ _ (by simp <;> omega)]; exact h4, by rw [World.cell?_setCell_other _ _ _ _ (by simp <;> omega)]; exact h5, by rw [World.cell?_setCell_other _ _ _ _ (by simp <;> omega)]; exact h6, by rw [World.cell?_setCell_other _ _ _ _ (by simp <;> omega)]; exact h7, by rw [World.cell?_setCell_other _ _ _ _ (by simp <;> omega)]; exact h8, by rw [World.cell?_setCell_other _ _ _ _ (by simp <;> omega)]; exact h9, by rw [World.cell?_setCell_other _ _ _ _ (by simp <;> omega)]; exact h10, by rw [World.cell?_setCell_other _ _ _ _ (by simp <;> omega)]; exact h11, hR.store9 v⟩
theorem SS.s10 {N c0 c1 c2 c3 c4 c5 c6 c7 c8 x0 x1 x2 : Nat} {w0 w1 : World} (h : SS N c0 c1 c2 c3 c4 c5 c6 c7 c8 x0 x1 x2 w0 w1) (v : Nat) : SS N c0 c1 c2 c3 c4 c5 c6 c7 c8 x0 x1 x2 w0 (w1.setCell ⟨N + 1 + 1 + 1 + 1 + 1 + 1, 0, none⟩ (.float .f64 v)) := by
  obtain ⟨h0, h1, h2, h3, h4, h5, h6, h7, h8, h9, h10, h11, hR⟩ := h
  exact ⟨by rw [World.cell?_setCell_other _ _ _ _ (by simp <;> omega)]; exact h0, by rw [World.cell?_setCell_other _ _ _ _ (by simp <;> omega)]; exact h1, by rw [World.cell?_setCell_other _ _ _ _ (by simp <;> omega)]; exact h2, by rw [World.cell?_setCell_other _ _ _ _ (by simp <;> omega)]; exact h3, by rw [World.cell?_setCell_other _ _ _ _ (by simp <;> omega)]; exact h4, by rw [World.cell?_setCell_other _ _ _ _ (by simp <;> omega)]; exact h5, by rw [World.cell?_setCell_other _ _ _ _ (by simp <;> omega)]; exact h6, by rw [World.cell?_setCell_other _ _ _ _ (by simp <;> omega)]; exact h7, by rw [World.cell?_setCell_other _ _ _ _ (by simp <;> omega)]; exact h8, by rw [World.cell?_setCell_other _ _ _ _ (by simp <;> omega)]; exact h9, by rw [World.cell?_setCell_other _ _ _ _ (by simp <;> omega)]; exact h10, by rw [World.cell?_setCell_other _ _ _ _ (by simp <;> omega)]; exact h11, hR.store10 v⟩
theorem SS.start (c0 c1 c2 c3 c4 c5 c6 c7 c8 x0 x1 x2 : Nat) (w : World) : SS w.heap.size c0 c1 c2 c3 c4 c5 c6 c7 c8 x0 x1 x2 w (((((((w.alloc (.cells #[.float .f64 c0, .float .f64 c1, .float .f64 c2, .float .f64 c3, .float .f64 c4, .float .f64 c5, .float .f64 c6, .float .f64 c7, .float .f64 c8] 24)).alloc (.cells #[.float .f64 x0] 33)).alloc (.cells #[.float .f64 x1] 33)).alloc (.cells #[.float .f64 x2] 33)).alloc (.cells #[.float .f64 0] 33)).alloc (.cells #[.float .f64 0] 33)).alloc (.cells #[.float .f64 0] 33)).drew := by
  refine ⟨?_, ?_, ?_, ?_, ?_, ?_, ?_, ?_, ?_, ?_, ?_, ?_, ?_⟩
  iterate 12 (simp [go_sem])
  refine ⟨?_, by simp, ⟨_, by simp [go_sem]; rfl⟩, ⟨_, by simp [go_sem]; rfl⟩, ⟨_, by simp [go_sem]; rfl⟩, by simp [go_sem], by simp [go_sem], by simp [go_sem]⟩
  exact (((((((((Below.refl _ _).alloc (Nat.le_refl _) _).alloc (by simp) _).alloc (by simp; omega) _).alloc (by simp; omega) _).alloc (by simp; omega) _).alloc (by simp; omega) _).alloc (by simp; omega) _)).drew

set_option maxRecDepth 100000 in
set_option maxHeartbeats 4000000 in
theorem mm_any (c0 c1 c2 c3 c4 c5 c6 c7 c8 x0 x1 x2 : Nat) (w : World) (r0 : Fl.RowFin c0 c1 c2 x0 x1 x2) (r1 : Fl.RowFin c3 c4 c5 x0 x1 x2) (r2 : Fl.RowFin c6 c7 c8 x0 x1 x2) :
    Calls Try.prog 12 #[.agg #[.float .f64 c0, .float .f64 c1, .float .f64 c2, .float .f64 c3, .float .f64 c4, .float .f64 c5, .float .f64 c6, .float .f64 c7, .float .f64 c8], .agg #[.float .f64 x0], .agg #[.float .f64 x1], .agg #[.float .f64 x2]] w fun e w' => e = .returned (.tuple #[.agg #[.float .f64 (Fl.mrow c0 c1 c2 x0 x1 x2)], .agg #[.float .f64 (Fl.mrow c3 c4 c5 x0 x1 x2)], .agg #[.float .f64 (Fl.mrow c6 c7 c8 x0 x1 x2)]]) ∧ Below w.heap.size w w' := by
  have s8 : ∀ (w' : World) (v : Nat) (m : Mode), Res w.heap.size w w' → (store ⟨w.heap.size + 1 + 1 + 1 + 1, 0, none⟩ (.float .f64 v) m).run Try.prog w' = .ok () (w'.setCell ⟨w.heap.size + 1 + 1 + 1 + 1, 0, none⟩ (.float .f64 v)) := fun w' v m h => store_run v h.c8 h.f8
  have s9 : ∀ (w' : World) (v : Nat) (m : Mode), Res w.heap.size w w' → (store ⟨w.heap.size + 1 + 1 + 1 + 1 + 1, 0, none⟩ (.float .f64 v) m).run Try.prog w' = .ok () (w'.setCell ⟨w.heap.size + 1 + 1 + 1 + 1 + 1, 0, none⟩ (.float .f64 v)) := fun w' v m h => store_run v h.c9 h.f9
  have s10 : ∀ (w' : World) (v : Nat) (m : Mode), Res w.heap.size w w' → (store ⟨w.heap.size + 1 + 1 + 1 + 1 + 1 + 1, 0, none⟩ (.float .f64 v) m).run Try.prog w' = .ok () (w'.setCell ⟨w.heap.size + 1 + 1 + 1 + 1 + 1 + 1, 0, none⟩ (.float .f64 v)) := fun w' v m h => store_run v h.c10 h.f10
  go_enter Try.func12, Try.ntmps12
  go_wp2
  go_region_held3 (fun w' => w'.cell? ⟨w.heap.size, 0, none⟩ = some (.float .f64 c0) ∧ w'.cell? ⟨w.heap.size, 1, none⟩ = some (.float .f64 c1) ∧ w'.cell? ⟨w.heap.size, 2, none⟩ = some (.float .f64 c2) ∧ w'.cell? ⟨w.heap.size, 3, none⟩ = some (.float .f64 c3) ∧ w'.cell? ⟨w.heap.size, 4, none⟩ = some (.float .f64 c4) ∧ w'.cell? ⟨w.heap.size, 5, none⟩ = some (.float .f64 c5) ∧ w'.cell? ⟨w.heap.size, 6, none⟩ = some (.float .f64 c6) ∧ w'.cell? ⟨w.heap.size, 7, none⟩ = some (.float .f64 c7) ∧ w'.cell? ⟨w.heap.size, 8, none⟩ = some (.float .f64 c8) ∧ w'.cell? ⟨w.heap.size + 1, 0, none⟩ = some (.float .f64 x0) ∧ w'.cell? ⟨w.heap.size + 1 + 1, 0, none⟩ = some (.float .f64 x1) ∧ w'.cell? ⟨w.heap.size + 1 + 1 + 1, 0, none⟩ = some (.float .f64 x2) ∧ Res w.heap.size w w')
    (first | exact SS.start c0 c1 c2 c3 c4 c5 c6 c7 c8 x0 x1 x2 w | exact SS.call (by assumption) hb | exact SS.s8 (by assumption) _ | exact SS.s9 (by assumption) _ | exact SS.s10 (by assumption) _)
    (first | (go_at_call 13; refine (mulc_fin _ _ _ ?_ ?_).mono ?_; (first | exact r0.fx0 | exact r0.fx1 | exact r0.fx2); (first | exact r0.fc0 | exact r0.fc1 | exact r0.fc2 | exact r1.fc0 | exact r1.fc1 | exact r1.fc2 | exact r2.fc0 | exact r2.fc1 | exact r2.fc2); rintro e w1 ⟨rfl, hb⟩) | (go_at_call 14; refine (add_fin _ _ _ ?_ ?_).mono ?_; (first | exact r0.p0 | exact r0.s | exact r1.p0 | exact r1.s | exact r2.p0 | exact r2.s); (first | exact r0.p1 | exact r0.p2 | exact r1.p1 | exact r1.p2 | exact r2.p1 | exact r2.p2); rintro e w1 ⟨rfl, hb⟩))
  rename_i hH
  have hR : Res w.heap.size w _ := hH.2.2.2.2.2.2.2.2.2.2.2.2
  clear hH s8 s9 s10 r0 r1 r2
  go_wp2
  refine bodyPost_ret (v := .tuple #[.agg #[.float .f64 (Fl.mrow c0 c1 c2 x0 x1 x2)], .agg #[.float .f64 (Fl.mrow c3 c4 c5 x0 x1 x2)], .agg #[.float .f64 (Fl.mrow c6 c7 c8 x0 x1 x2)]]) ?_ rfl ⟨rfl, hR.below⟩
  obtain ⟨q8, q9, q10⟩ := three_cells hR
  simp [results, Try.results12, go_sem, q8, q9, q10, Fl.mrow]
end Go.Proofs.Ytlfgdgelfebciaa
