/-
  The contracts of ZZSetSide and updateSide: a side of the box is replaced, the rule of the old side is dropped where the text says so. No conditions beyond the shapes.
-/
import Derived.Test.YtgkphknholechaaWd
namespace Go.Proofs.Ytgkphknholechaa
open Go.ChangeShapes Go.WideShapes Go.ChangeAt Go.RowKit

theorem set21_0 (b : Nat) (x : Sd) (f : Nat → Sd) (w : World) (hb : b < w.heap.size) (h : Box w b f) :
    Calls Try.prog 21 #[.pointer (some ⟨b, 0, none⟩), .int .i64 0, .agg x.cells] w fun e w' => e = .returned (.tuple #[]) ∧ w' = ((puts b (1 + 0 * 11) x 11 w).alloc (.cells x.cells 54)).drew := by
  have q0 : w.cell? ⟨b, 1, none⟩ = some ((f 0).at 0) := h.1 0 0 (by omega) (by omega)
  have z0 : w.frozen? ⟨b, 1, none⟩ = false := h.2 _
  have q1 : w.cell? ⟨b, 2, none⟩ = some ((f 0).at 1) := h.1 0 1 (by omega) (by omega)
  have z1 : w.frozen? ⟨b, 2, none⟩ = false := h.2 _
  have q2 : w.cell? ⟨b, 3, none⟩ = some ((f 0).at 2) := h.1 0 2 (by omega) (by omega)
  have z2 : w.frozen? ⟨b, 3, none⟩ = false := h.2 _
  have q3 : w.cell? ⟨b, 4, none⟩ = some ((f 0).at 3) := h.1 0 3 (by omega) (by omega)
  have z3 : w.frozen? ⟨b, 4, none⟩ = false := h.2 _
  have q4 : w.cell? ⟨b, 5, none⟩ = some ((f 0).at 4) := h.1 0 4 (by omega) (by omega)
  have z4 : w.frozen? ⟨b, 5, none⟩ = false := h.2 _
  have q5 : w.cell? ⟨b, 6, none⟩ = some ((f 0).at 5) := h.1 0 5 (by omega) (by omega)
  have z5 : w.frozen? ⟨b, 6, none⟩ = false := h.2 _
  have q6 : w.cell? ⟨b, 7, none⟩ = some ((f 0).at 6) := h.1 0 6 (by omega) (by omega)
  have z6 : w.frozen? ⟨b, 7, none⟩ = false := h.2 _
  have q7 : w.cell? ⟨b, 8, none⟩ = some ((f 0).at 7) := h.1 0 7 (by omega) (by omega)
  have z7 : w.frozen? ⟨b, 8, none⟩ = false := h.2 _
  have q8 : w.cell? ⟨b, 9, none⟩ = some ((f 0).at 8) := h.1 0 8 (by omega) (by omega)
  have z8 : w.frozen? ⟨b, 9, none⟩ = false := h.2 _
  have q9 : w.cell? ⟨b, 10, none⟩ = some ((f 0).at 9) := h.1 0 9 (by omega) (by omega)
  have z9 : w.frozen? ⟨b, 10, none⟩ = false := h.2 _
  have q10 : w.cell? ⟨b, 11, none⟩ = some ((f 0).at 10) := h.1 0 10 (by omega) (by omega)
  have z10 : w.frozen? ⟨b, 11, none⟩ = false := h.2 _
  clear h
  unfold Sd.cells
  go_enter Try.func21, Try.ntmps21
  go_wp2_with fail
  go_region
  go_wp2
  go_end0
  exact ⟨rfl, rfl⟩

theorem set21_1 (b : Nat) (x : Sd) (f : Nat → Sd) (w : World) (hb : b < w.heap.size) (h : Box w b f) :
    Calls Try.prog 21 #[.pointer (some ⟨b, 0, none⟩), .int .i64 1, .agg x.cells] w fun e w' => e = .returned (.tuple #[]) ∧ w' = ((puts b (1 + 1 * 11) x 11 w).alloc (.cells x.cells 54)).drew := by
  have q0 : w.cell? ⟨b, 12, none⟩ = some ((f 1).at 0) := h.1 1 0 (by omega) (by omega)
  have z0 : w.frozen? ⟨b, 12, none⟩ = false := h.2 _
  have q1 : w.cell? ⟨b, 13, none⟩ = some ((f 1).at 1) := h.1 1 1 (by omega) (by omega)
  have z1 : w.frozen? ⟨b, 13, none⟩ = false := h.2 _
  have q2 : w.cell? ⟨b, 14, none⟩ = some ((f 1).at 2) := h.1 1 2 (by omega) (by omega)
  have z2 : w.frozen? ⟨b, 14, none⟩ = false := h.2 _
  have q3 : w.cell? ⟨b, 15, none⟩ = some ((f 1).at 3) := h.1 1 3 (by omega) (by omega)
  have z3 : w.frozen? ⟨b, 15, none⟩ = false := h.2 _
  have q4 : w.cell? ⟨b, 16, none⟩ = some ((f 1).at 4) := h.1 1 4 (by omega) (by omega)
  have z4 : w.frozen? ⟨b, 16, none⟩ = false := h.2 _
  have q5 : w.cell? ⟨b, 17, none⟩ = some ((f 1).at 5) := h.1 1 5 (by omega) (by omega)
  have z5 : w.frozen? ⟨b, 17, none⟩ = false := h.2 _
  have q6 : w.cell? ⟨b, 18, none⟩ = some ((f 1).at 6) := h.1 1 6 (by omega) (by omega)
  have z6 : w.frozen? ⟨b, 18, none⟩ = false := h.2 _
  have q7 : w.cell? ⟨b, 19, none⟩ = some ((f 1).at 7) := h.1 1 7 (by omega) (by omega)
  have z7 : w.frozen? ⟨b, 19, none⟩ = false := h.2 _
  have q8 : w.cell? ⟨b, 20, none⟩ = some ((f 1).at 8) := h.1 1 8 (by omega) (by omega)
  have z8 : w.frozen? ⟨b, 20, none⟩ = false := h.2 _
  have q9 : w.cell? ⟨b, 21, none⟩ = some ((f 1).at 9) := h.1 1 9 (by omega) (by omega)
  have z9 : w.frozen? ⟨b, 21, none⟩ = false := h.2 _
  have q10 : w.cell? ⟨b, 22, none⟩ = some ((f 1).at 10) := h.1 1 10 (by omega) (by omega)
  have z10 : w.frozen? ⟨b, 22, none⟩ = false := h.2 _
  clear h
  unfold Sd.cells
  go_enter Try.func21, Try.ntmps21
  go_wp2_with fail
  go_region
  go_wp2
  go_end0
  exact ⟨rfl, rfl⟩

theorem set21_2 (b : Nat) (x : Sd) (f : Nat → Sd) (w : World) (hb : b < w.heap.size) (h : Box w b f) :
    Calls Try.prog 21 #[.pointer (some ⟨b, 0, none⟩), .int .i64 2, .agg x.cells] w fun e w' => e = .returned (.tuple #[]) ∧ w' = ((puts b (1 + 2 * 11) x 11 w).alloc (.cells x.cells 54)).drew := by
  have q0 : w.cell? ⟨b, 23, none⟩ = some ((f 2).at 0) := h.1 2 0 (by omega) (by omega)
  have z0 : w.frozen? ⟨b, 23, none⟩ = false := h.2 _
  have q1 : w.cell? ⟨b, 24, none⟩ = some ((f 2).at 1) := h.1 2 1 (by omega) (by omega)
  have z1 : w.frozen? ⟨b, 24, none⟩ = false := h.2 _
  have q2 : w.cell? ⟨b, 25, none⟩ = some ((f 2).at 2) := h.1 2 2 (by omega) (by omega)
  have z2 : w.frozen? ⟨b, 25, none⟩ = false := h.2 _
  have q3 : w.cell? ⟨b, 26, none⟩ = some ((f 2).at 3) := h.1 2 3 (by omega) (by omega)
  have z3 : w.frozen? ⟨b, 26, none⟩ = false := h.2 _
  have q4 : w.cell? ⟨b, 27, none⟩ = some ((f 2).at 4) := h.1 2 4 (by omega) (by omega)
  have z4 : w.frozen? ⟨b, 27, none⟩ = false := h.2 _
  have q5 : w.cell? ⟨b, 28, none⟩ = some ((f 2).at 5) := h.1 2 5 (by omega) (by omega)
  have z5 : w.frozen? ⟨b, 28, none⟩ = false := h.2 _
  have q6 : w.cell? ⟨b, 29, none⟩ = some ((f 2).at 6) := h.1 2 6 (by omega) (by omega)
  have z6 : w.frozen? ⟨b, 29, none⟩ = false := h.2 _
  have q7 : w.cell? ⟨b, 30, none⟩ = some ((f 2).at 7) := h.1 2 7 (by omega) (by omega)
  have z7 : w.frozen? ⟨b, 30, none⟩ = false := h.2 _
  have q8 : w.cell? ⟨b, 31, none⟩ = some ((f 2).at 8) := h.1 2 8 (by omega) (by omega)
  have z8 : w.frozen? ⟨b, 31, none⟩ = false := h.2 _
  have q9 : w.cell? ⟨b, 32, none⟩ = some ((f 2).at 9) := h.1 2 9 (by omega) (by omega)
  have z9 : w.frozen? ⟨b, 32, none⟩ = false := h.2 _
  have q10 : w.cell? ⟨b, 33, none⟩ = some ((f 2).at 10) := h.1 2 10 (by omega) (by omega)
  have z10 : w.frozen? ⟨b, 33, none⟩ = false := h.2 _
  clear h
  unfold Sd.cells
  go_enter Try.func21, Try.ntmps21
  go_wp2_with fail
  go_region
  go_wp2
  go_end0
  exact ⟨rfl, rfl⟩

theorem set21_3 (b : Nat) (x : Sd) (f : Nat → Sd) (w : World) (hb : b < w.heap.size) (h : Box w b f) :
    Calls Try.prog 21 #[.pointer (some ⟨b, 0, none⟩), .int .i64 3, .agg x.cells] w fun e w' => e = .returned (.tuple #[]) ∧ w' = ((puts b (1 + 3 * 11) x 11 w).alloc (.cells x.cells 54)).drew := by
  have q0 : w.cell? ⟨b, 34, none⟩ = some ((f 3).at 0) := h.1 3 0 (by omega) (by omega)
  have z0 : w.frozen? ⟨b, 34, none⟩ = false := h.2 _
  have q1 : w.cell? ⟨b, 35, none⟩ = some ((f 3).at 1) := h.1 3 1 (by omega) (by omega)
  have z1 : w.frozen? ⟨b, 35, none⟩ = false := h.2 _
  have q2 : w.cell? ⟨b, 36, none⟩ = some ((f 3).at 2) := h.1 3 2 (by omega) (by omega)
  have z2 : w.frozen? ⟨b, 36, none⟩ = false := h.2 _
  have q3 : w.cell? ⟨b, 37, none⟩ = some ((f 3).at 3) := h.1 3 3 (by omega) (by omega)
  have z3 : w.frozen? ⟨b, 37, none⟩ = false := h.2 _
  have q4 : w.cell? ⟨b, 38, none⟩ = some ((f 3).at 4) := h.1 3 4 (by omega) (by omega)
  have z4 : w.frozen? ⟨b, 38, none⟩ = false := h.2 _
  have q5 : w.cell? ⟨b, 39, none⟩ = some ((f 3).at 5) := h.1 3 5 (by omega) (by omega)
  have z5 : w.frozen? ⟨b, 39, none⟩ = false := h.2 _
  have q6 : w.cell? ⟨b, 40, none⟩ = some ((f 3).at 6) := h.1 3 6 (by omega) (by omega)
  have z6 : w.frozen? ⟨b, 40, none⟩ = false := h.2 _
  have q7 : w.cell? ⟨b, 41, none⟩ = some ((f 3).at 7) := h.1 3 7 (by omega) (by omega)
  have z7 : w.frozen? ⟨b, 41, none⟩ = false := h.2 _
  have q8 : w.cell? ⟨b, 42, none⟩ = some ((f 3).at 8) := h.1 3 8 (by omega) (by omega)
  have z8 : w.frozen? ⟨b, 42, none⟩ = false := h.2 _
  have q9 : w.cell? ⟨b, 43, none⟩ = some ((f 3).at 9) := h.1 3 9 (by omega) (by omega)
  have z9 : w.frozen? ⟨b, 43, none⟩ = false := h.2 _
  have q10 : w.cell? ⟨b, 44, none⟩ = some ((f 3).at 10) := h.1 3 10 (by omega) (by omega)
  have z10 : w.frozen? ⟨b, 44, none⟩ = false := h.2 _
  clear h
  unfold Sd.cells
  go_enter Try.func21, Try.ntmps21
  go_wp2_with fail
  go_region
  go_wp2
  go_end0
  exact ⟨rfl, rfl⟩

