/-
  The contracts of updateSide and ZZUpdateSide: the side is replaced; the old side's rule is emptied where both are safe and the old one may go. Conditions: the shapes of box and rules.
-/
import Derived.Test.YtgkphknholechaaWe
namespace Go.Proofs.Ytgkphknholechaa
open Go.ChangeShapes Go.WideShapes Go.ChangeAt Go.RowKit

/-- is the old side's rule dropped? -/
def dropB (y x : Sd) : Bool := (y.k != 0) && (!x.g || y.g) && (y.s == 0) && (x.s == 0)
/-- rule m emptied -/
def rz (d : Bool) (r m : Nat) (w : World) : World := if d then (w.setCell ⟨r, m * 2, none⟩ .nilIface).setCell ⟨r, m * 2 + 1, none⟩ (.int .i32 0) else w

theorem up29_0A (b r n m : Nat) (xk xs xi yk ys : Int) (xg yg : Bool) (f : Nat → Sd) (w : World) (_hb : b < w.heap.size) (_hr : r < w.heap.size) (_hn : n ≤ 4096) (_hm : m < n) (_hrb : r ≠ b) (h : Box w b f)
    (hi : f 0 = ⟨yk, ys, (m : Int), yg⟩) (c0 : ∃ v, w.cell? ⟨r, m * 2, none⟩ = some v) (c1 : ∃ v, w.cell? ⟨r, m * 2 + 1, none⟩ = some v) (_z0 : w.frozen? ⟨r, m * 2, none⟩ = false) (_z1 : w.frozen? ⟨r, m * 2 + 1, none⟩ = false)
    (_hk : (yk != 0) = false) :
    Calls Try.prog 29 #[.pointer (some ⟨b, 0, none⟩), .slice (some ⟨r, 0, none⟩) n n, .int .i64 0, .agg (Sd.mk xk xs xi xg).cells] w fun e w' => e = .returned (.tuple #[]) ∧ ∃ o1 o2, w' = (((puts b (1 + 0 * 11) ⟨xk, xs, xi, xg⟩ 11 (rz false r m w)).alloc o1).alloc o2).drew := by
  have q0 : w.cell? ⟨b, 1, none⟩ = some (.pointer none) := by have := h.1 0 0 (by omega) (by omega); rw [hi] at this; exact this
  have y0 : w.frozen? ⟨b, 1, none⟩ = false := h.2 _
  have q1 : w.cell? ⟨b, 2, none⟩ = some (.string ⟨#[]⟩) := by have := h.1 0 1 (by omega) (by omega); rw [hi] at this; exact this
  have y1 : w.frozen? ⟨b, 2, none⟩ = false := h.2 _
  have q2 : w.cell? ⟨b, 3, none⟩ = some (.int .i32 0) := by have := h.1 0 2 (by omega) (by omega); rw [hi] at this; exact this
  have y2 : w.frozen? ⟨b, 3, none⟩ = false := h.2 _
  have q3 : w.cell? ⟨b, 4, none⟩ = some (.int .u32 0) := by have := h.1 0 3 (by omega) (by omega); rw [hi] at this; exact this
  have y3 : w.frozen? ⟨b, 4, none⟩ = false := h.2 _
  have q4 : w.cell? ⟨b, 5, none⟩ = some (.int .u16 0) := by have := h.1 0 4 (by omega) (by omega); rw [hi] at this; exact this
  have y4 : w.frozen? ⟨b, 5, none⟩ = false := h.2 _
  have q5 : w.cell? ⟨b, 6, none⟩ = some (.int .u8 yk) := by have := h.1 0 5 (by omega) (by omega); rw [hi] at this; exact this
  have y5 : w.frozen? ⟨b, 6, none⟩ = false := h.2 _
  have q6 : w.cell? ⟨b, 7, none⟩ = some (.int .u8 0) := by have := h.1 0 6 (by omega) (by omega); rw [hi] at this; exact this
  have y6 : w.frozen? ⟨b, 7, none⟩ = false := h.2 _
  have q7 : w.cell? ⟨b, 8, none⟩ = some (.string ⟨#[]⟩) := by have := h.1 0 7 (by omega) (by omega); rw [hi] at this; exact this
  have y7 : w.frozen? ⟨b, 8, none⟩ = false := h.2 _
  have q8 : w.cell? ⟨b, 9, none⟩ = some (.int .u8 ys) := by have := h.1 0 8 (by omega) (by omega); rw [hi] at this; exact this
  have y8 : w.frozen? ⟨b, 9, none⟩ = false := h.2 _
  have q9 : w.cell? ⟨b, 10, none⟩ = some (.int .u32 (m : Int)) := by have := h.1 0 9 (by omega) (by omega); rw [hi] at this; exact this
  have y9 : w.frozen? ⟨b, 10, none⟩ = false := h.2 _
  have q10 : w.cell? ⟨b, 11, none⟩ = some (.bool yg) := by have := h.1 0 10 (by omega) (by omega); rw [hi] at this; exact this
  have y10 : w.frozen? ⟨b, 11, none⟩ = false := h.2 _
  obtain ⟨v0, c0⟩ := c0
  obtain ⟨v1, c1⟩ := c1
  clear h hi
  unfold Sd.cells
  go_enter Try.func29, Try.ntmps29
  go_wp2_with fail
  go_region
  go_wp2
  go_end0
  exact ⟨rfl, _, _, rfl⟩

theorem up29_0B (b r n m : Nat) (xk xs xi yk ys : Int) (xg yg : Bool) (f : Nat → Sd) (w : World) (_hb : b < w.heap.size) (_hr : r < w.heap.size) (_hn : n ≤ 4096) (_hm : m < n) (_hrb : r ≠ b) (h : Box w b f)
    (hi : f 0 = ⟨yk, ys, (m : Int), yg⟩) (c0 : ∃ v, w.cell? ⟨r, m * 2, none⟩ = some v) (c1 : ∃ v, w.cell? ⟨r, m * 2 + 1, none⟩ = some v) (_z0 : w.frozen? ⟨r, m * 2, none⟩ = false) (_z1 : w.frozen? ⟨r, m * 2 + 1, none⟩ = false)
    (_hk : (yk != 0) = true) (hx : xg = true) (hy : yg = false) :
    Calls Try.prog 29 #[.pointer (some ⟨b, 0, none⟩), .slice (some ⟨r, 0, none⟩) n n, .int .i64 0, .agg (Sd.mk xk xs xi xg).cells] w fun e w' => e = .returned (.tuple #[]) ∧ ∃ o1 o2, w' = (((puts b (1 + 0 * 11) ⟨xk, xs, xi, xg⟩ 11 (rz false r m w)).alloc o1).alloc o2).drew := by
  have q0 : w.cell? ⟨b, 1, none⟩ = some (.pointer none) := by have := h.1 0 0 (by omega) (by omega); rw [hi] at this; exact this
  have y0 : w.frozen? ⟨b, 1, none⟩ = false := h.2 _
  have q1 : w.cell? ⟨b, 2, none⟩ = some (.string ⟨#[]⟩) := by have := h.1 0 1 (by omega) (by omega); rw [hi] at this; exact this
  have y1 : w.frozen? ⟨b, 2, none⟩ = false := h.2 _
  have q2 : w.cell? ⟨b, 3, none⟩ = some (.int .i32 0) := by have := h.1 0 2 (by omega) (by omega); rw [hi] at this; exact this
  have y2 : w.frozen? ⟨b, 3, none⟩ = false := h.2 _
  have q3 : w.cell? ⟨b, 4, none⟩ = some (.int .u32 0) := by have := h.1 0 3 (by omega) (by omega); rw [hi] at this; exact this
  have y3 : w.frozen? ⟨b, 4, none⟩ = false := h.2 _
  have q4 : w.cell? ⟨b, 5, none⟩ = some (.int .u16 0) := by have := h.1 0 4 (by omega) (by omega); rw [hi] at this; exact this
  have y4 : w.frozen? ⟨b, 5, none⟩ = false := h.2 _
  have q5 : w.cell? ⟨b, 6, none⟩ = some (.int .u8 yk) := by have := h.1 0 5 (by omega) (by omega); rw [hi] at this; exact this
  have y5 : w.frozen? ⟨b, 6, none⟩ = false := h.2 _
  have q6 : w.cell? ⟨b, 7, none⟩ = some (.int .u8 0) := by have := h.1 0 6 (by omega) (by omega); rw [hi] at this; exact this
  have y6 : w.frozen? ⟨b, 7, none⟩ = false := h.2 _
  have q7 : w.cell? ⟨b, 8, none⟩ = some (.string ⟨#[]⟩) := by have := h.1 0 7 (by omega) (by omega); rw [hi] at this; exact this
  have y7 : w.frozen? ⟨b, 8, none⟩ = false := h.2 _
  have q8 : w.cell? ⟨b, 9, none⟩ = some (.int .u8 ys) := by have := h.1 0 8 (by omega) (by omega); rw [hi] at this; exact this
  have y8 : w.frozen? ⟨b, 9, none⟩ = false := h.2 _
  have q9 : w.cell? ⟨b, 10, none⟩ = some (.int .u32 (m : Int)) := by have := h.1 0 9 (by omega) (by omega); rw [hi] at this; exact this
  have y9 : w.frozen? ⟨b, 10, none⟩ = false := h.2 _
  have q10 : w.cell? ⟨b, 11, none⟩ = some (.bool yg) := by have := h.1 0 10 (by omega) (by omega); rw [hi] at this; exact this
  have y10 : w.frozen? ⟨b, 11, none⟩ = false := h.2 _
  obtain ⟨v0, c0⟩ := c0
  obtain ⟨v1, c1⟩ := c1
  clear h hi
  unfold Sd.cells
  subst hx hy
  go_enter Try.func29, Try.ntmps29
  go_wp2_with fail
  go_region
  go_wp2
  go_end0
  exact ⟨rfl, _, _, rfl⟩

theorem up29_0C (b r n m : Nat) (xk xs xi yk ys : Int) (xg yg : Bool) (f : Nat → Sd) (w : World) (_hb : b < w.heap.size) (_hr : r < w.heap.size) (_hn : n ≤ 4096) (_hm : m < n) (_hrb : r ≠ b) (h : Box w b f)
    (hi : f 0 = ⟨yk, ys, (m : Int), yg⟩) (c0 : ∃ v, w.cell? ⟨r, m * 2, none⟩ = some v) (c1 : ∃ v, w.cell? ⟨r, m * 2 + 1, none⟩ = some v) (_z0 : w.frozen? ⟨r, m * 2, none⟩ = false) (_z1 : w.frozen? ⟨r, m * 2 + 1, none⟩ = false)
    (_hk : (yk != 0) = true) (hx : xg = false) (_hs : (ys == 0) = false) :
    Calls Try.prog 29 #[.pointer (some ⟨b, 0, none⟩), .slice (some ⟨r, 0, none⟩) n n, .int .i64 0, .agg (Sd.mk xk xs xi xg).cells] w fun e w' => e = .returned (.tuple #[]) ∧ ∃ o1 o2, w' = (((puts b (1 + 0 * 11) ⟨xk, xs, xi, xg⟩ 11 (rz false r m w)).alloc o1).alloc o2).drew := by
  have q0 : w.cell? ⟨b, 1, none⟩ = some (.pointer none) := by have := h.1 0 0 (by omega) (by omega); rw [hi] at this; exact this
  have y0 : w.frozen? ⟨b, 1, none⟩ = false := h.2 _
  have q1 : w.cell? ⟨b, 2, none⟩ = some (.string ⟨#[]⟩) := by have := h.1 0 1 (by omega) (by omega); rw [hi] at this; exact this
  have y1 : w.frozen? ⟨b, 2, none⟩ = false := h.2 _
  have q2 : w.cell? ⟨b, 3, none⟩ = some (.int .i32 0) := by have := h.1 0 2 (by omega) (by omega); rw [hi] at this; exact this
  have y2 : w.frozen? ⟨b, 3, none⟩ = false := h.2 _
  have q3 : w.cell? ⟨b, 4, none⟩ = some (.int .u32 0) := by have := h.1 0 3 (by omega) (by omega); rw [hi] at this; exact this
  have y3 : w.frozen? ⟨b, 4, none⟩ = false := h.2 _
  have q4 : w.cell? ⟨b, 5, none⟩ = some (.int .u16 0) := by have := h.1 0 4 (by omega) (by omega); rw [hi] at this; exact this
  have y4 : w.frozen? ⟨b, 5, none⟩ = false := h.2 _
  have q5 : w.cell? ⟨b, 6, none⟩ = some (.int .u8 yk) := by have := h.1 0 5 (by omega) (by omega); rw [hi] at this; exact this
  have y5 : w.frozen? ⟨b, 6, none⟩ = false := h.2 _
  have q6 : w.cell? ⟨b, 7, none⟩ = some (.int .u8 0) := by have := h.1 0 6 (by omega) (by omega); rw [hi] at this; exact this
  have y6 : w.frozen? ⟨b, 7, none⟩ = false := h.2 _
  have q7 : w.cell? ⟨b, 8, none⟩ = some (.string ⟨#[]⟩) := by have := h.1 0 7 (by omega) (by omega); rw [hi] at this; exact this
  have y7 : w.frozen? ⟨b, 8, none⟩ = false := h.2 _
  have q8 : w.cell? ⟨b, 9, none⟩ = some (.int .u8 ys) := by have := h.1 0 8 (by omega) (by omega); rw [hi] at this; exact this
  have y8 : w.frozen? ⟨b, 9, none⟩ = false := h.2 _
  have q9 : w.cell? ⟨b, 10, none⟩ = some (.int .u32 (m : Int)) := by have := h.1 0 9 (by omega) (by omega); rw [hi] at this; exact this
  have y9 : w.frozen? ⟨b, 10, none⟩ = false := h.2 _
  have q10 : w.cell? ⟨b, 11, none⟩ = some (.bool yg) := by have := h.1 0 10 (by omega) (by omega); rw [hi] at this; exact this
  have y10 : w.frozen? ⟨b, 11, none⟩ = false := h.2 _
  obtain ⟨v0, c0⟩ := c0
  obtain ⟨v1, c1⟩ := c1
  clear h hi
  unfold Sd.cells
  subst hx
  go_enter Try.func29, Try.ntmps29
  go_wp2_with fail
  go_region
  go_wp2
  go_end0
  exact ⟨rfl, _, _, rfl⟩

theorem up29_0D (b r n m : Nat) (xk xs xi yk ys : Int) (xg yg : Bool) (f : Nat → Sd) (w : World) (_hb : b < w.heap.size) (_hr : r < w.heap.size) (_hn : n ≤ 4096) (_hm : m < n) (_hrb : r ≠ b) (h : Box w b f)
    (hi : f 0 = ⟨yk, ys, (m : Int), yg⟩) (c0 : ∃ v, w.cell? ⟨r, m * 2, none⟩ = some v) (c1 : ∃ v, w.cell? ⟨r, m * 2 + 1, none⟩ = some v) (_z0 : w.frozen? ⟨r, m * 2, none⟩ = false) (_z1 : w.frozen? ⟨r, m * 2 + 1, none⟩ = false)
    (_hk : (yk != 0) = true) (hx : xg = true) (hy : yg = true) (_hs : (ys == 0) = false) :
    Calls Try.prog 29 #[.pointer (some ⟨b, 0, none⟩), .slice (some ⟨r, 0, none⟩) n n, .int .i64 0, .agg (Sd.mk xk xs xi xg).cells] w fun e w' => e = .returned (.tuple #[]) ∧ ∃ o1 o2, w' = (((puts b (1 + 0 * 11) ⟨xk, xs, xi, xg⟩ 11 (rz false r m w)).alloc o1).alloc o2).drew := by
  have q0 : w.cell? ⟨b, 1, none⟩ = some (.pointer none) := by have := h.1 0 0 (by omega) (by omega); rw [hi] at this; exact this
  have y0 : w.frozen? ⟨b, 1, none⟩ = false := h.2 _
  have q1 : w.cell? ⟨b, 2, none⟩ = some (.string ⟨#[]⟩) := by have := h.1 0 1 (by omega) (by omega); rw [hi] at this; exact this
  have y1 : w.frozen? ⟨b, 2, none⟩ = false := h.2 _
  have q2 : w.cell? ⟨b, 3, none⟩ = some (.int .i32 0) := by have := h.1 0 2 (by omega) (by omega); rw [hi] at this; exact this
  have y2 : w.frozen? ⟨b, 3, none⟩ = false := h.2 _
  have q3 : w.cell? ⟨b, 4, none⟩ = some (.int .u32 0) := by have := h.1 0 3 (by omega) (by omega); rw [hi] at this; exact this
  have y3 : w.frozen? ⟨b, 4, none⟩ = false := h.2 _
  have q4 : w.cell? ⟨b, 5, none⟩ = some (.int .u16 0) := by have := h.1 0 4 (by omega) (by omega); rw [hi] at this; exact this
  have y4 : w.frozen? ⟨b, 5, none⟩ = false := h.2 _
  have q5 : w.cell? ⟨b, 6, none⟩ = some (.int .u8 yk) := by have := h.1 0 5 (by omega) (by omega); rw [hi] at this; exact this
  have y5 : w.frozen? ⟨b, 6, none⟩ = false := h.2 _
  have q6 : w.cell? ⟨b, 7, none⟩ = some (.int .u8 0) := by have := h.1 0 6 (by omega) (by omega); rw [hi] at this; exact this
  have y6 : w.frozen? ⟨b, 7, none⟩ = false := h.2 _
  have q7 : w.cell? ⟨b, 8, none⟩ = some (.string ⟨#[]⟩) := by have := h.1 0 7 (by omega) (by omega); rw [hi] at this; exact this
  have y7 : w.frozen? ⟨b, 8, none⟩ = false := h.2 _
  have q8 : w.cell? ⟨b, 9, none⟩ = some (.int .u8 ys) := by have := h.1 0 8 (by omega) (by omega); rw [hi] at this; exact this
  have y8 : w.frozen? ⟨b, 9, none⟩ = false := h.2 _
  have q9 : w.cell? ⟨b, 10, none⟩ = some (.int .u32 (m : Int)) := by have := h.1 0 9 (by omega) (by omega); rw [hi] at this; exact this
  have y9 : w.frozen? ⟨b, 10, none⟩ = false := h.2 _
  have q10 : w.cell? ⟨b, 11, none⟩ = some (.bool yg) := by have := h.1 0 10 (by omega) (by omega); rw [hi] at this; exact this
  have y10 : w.frozen? ⟨b, 11, none⟩ = false := h.2 _
  obtain ⟨v0, c0⟩ := c0
  obtain ⟨v1, c1⟩ := c1
  clear h hi
  unfold Sd.cells
  subst hx hy
  go_enter Try.func29, Try.ntmps29
  go_wp2_with fail
  go_region
  go_wp2
  go_end0
  exact ⟨rfl, _, _, rfl⟩

theorem up29_0E (b r n m : Nat) (xk xs xi yk ys : Int) (xg yg : Bool) (f : Nat → Sd) (w : World) (_hb : b < w.heap.size) (_hr : r < w.heap.size) (_hn : n ≤ 4096) (_hm : m < n) (_hrb : r ≠ b) (h : Box w b f)
    (hi : f 0 = ⟨yk, ys, (m : Int), yg⟩) (c0 : ∃ v, w.cell? ⟨r, m * 2, none⟩ = some v) (c1 : ∃ v, w.cell? ⟨r, m * 2 + 1, none⟩ = some v) (_z0 : w.frozen? ⟨r, m * 2, none⟩ = false) (_z1 : w.frozen? ⟨r, m * 2 + 1, none⟩ = false)
    (_hk : (yk != 0) = true) (hx : xg = false) (_hs : (ys == 0) = true) (_ht : (xs == 0) = false) :
    Calls Try.prog 29 #[.pointer (some ⟨b, 0, none⟩), .slice (some ⟨r, 0, none⟩) n n, .int .i64 0, .agg (Sd.mk xk xs xi xg).cells] w fun e w' => e = .returned (.tuple #[]) ∧ ∃ o1 o2, w' = (((puts b (1 + 0 * 11) ⟨xk, xs, xi, xg⟩ 11 (rz false r m w)).alloc o1).alloc o2).drew := by
  have q0 : w.cell? ⟨b, 1, none⟩ = some (.pointer none) := by have := h.1 0 0 (by omega) (by omega); rw [hi] at this; exact this
  have y0 : w.frozen? ⟨b, 1, none⟩ = false := h.2 _
  have q1 : w.cell? ⟨b, 2, none⟩ = some (.string ⟨#[]⟩) := by have := h.1 0 1 (by omega) (by omega); rw [hi] at this; exact this
  have y1 : w.frozen? ⟨b, 2, none⟩ = false := h.2 _
  have q2 : w.cell? ⟨b, 3, none⟩ = some (.int .i32 0) := by have := h.1 0 2 (by omega) (by omega); rw [hi] at this; exact this
  have y2 : w.frozen? ⟨b, 3, none⟩ = false := h.2 _
  have q3 : w.cell? ⟨b, 4, none⟩ = some (.int .u32 0) := by have := h.1 0 3 (by omega) (by omega); rw [hi] at this; exact this
  have y3 : w.frozen? ⟨b, 4, none⟩ = false := h.2 _
  have q4 : w.cell? ⟨b, 5, none⟩ = some (.int .u16 0) := by have := h.1 0 4 (by omega) (by omega); rw [hi] at this; exact this
  have y4 : w.frozen? ⟨b, 5, none⟩ = false := h.2 _
  have q5 : w.cell? ⟨b, 6, none⟩ = some (.int .u8 yk) := by have := h.1 0 5 (by omega) (by omega); rw [hi] at this; exact this
  have y5 : w.frozen? ⟨b, 6, none⟩ = false := h.2 _
  have q6 : w.cell? ⟨b, 7, none⟩ = some (.int .u8 0) := by have := h.1 0 6 (by omega) (by omega); rw [hi] at this; exact this
  have y6 : w.frozen? ⟨b, 7, none⟩ = false := h.2 _
  have q7 : w.cell? ⟨b, 8, none⟩ = some (.string ⟨#[]⟩) := by have := h.1 0 7 (by omega) (by omega); rw [hi] at this; exact this
  have y7 : w.frozen? ⟨b, 8, none⟩ = false := h.2 _
  have q8 : w.cell? ⟨b, 9, none⟩ = some (.int .u8 ys) := by have := h.1 0 8 (by omega) (by omega); rw [hi] at this; exact this
  have y8 : w.frozen? ⟨b, 9, none⟩ = false := h.2 _
  have q9 : w.cell? ⟨b, 10, none⟩ = some (.int .u32 (m : Int)) := by have := h.1 0 9 (by omega) (by omega); rw [hi] at this; exact this
  have y9 : w.frozen? ⟨b, 10, none⟩ = false := h.2 _
  have q10 : w.cell? ⟨b, 11, none⟩ = some (.bool yg) := by have := h.1 0 10 (by omega) (by omega); rw [hi] at this; exact this
  have y10 : w.frozen? ⟨b, 11, none⟩ = false := h.2 _
  obtain ⟨v0, c0⟩ := c0
  obtain ⟨v1, c1⟩ := c1
  clear h hi
  unfold Sd.cells
  subst hx
  go_enter Try.func29, Try.ntmps29
  go_wp2_with fail
  go_region
  go_wp2
  go_end0
  exact ⟨rfl, _, _, rfl⟩

theorem up29_0F (b r n m : Nat) (xk xs xi yk ys : Int) (xg yg : Bool) (f : Nat → Sd) (w : World) (_hb : b < w.heap.size) (_hr : r < w.heap.size) (_hn : n ≤ 4096) (_hm : m < n) (_hrb : r ≠ b) (h : Box w b f)
    (hi : f 0 = ⟨yk, ys, (m : Int), yg⟩) (c0 : ∃ v, w.cell? ⟨r, m * 2, none⟩ = some v) (c1 : ∃ v, w.cell? ⟨r, m * 2 + 1, none⟩ = some v) (_z0 : w.frozen? ⟨r, m * 2, none⟩ = false) (_z1 : w.frozen? ⟨r, m * 2 + 1, none⟩ = false)
    (_hk : (yk != 0) = true) (hx : xg = true) (hy : yg = true) (_hs : (ys == 0) = true) (_ht : (xs == 0) = false) :
    Calls Try.prog 29 #[.pointer (some ⟨b, 0, none⟩), .slice (some ⟨r, 0, none⟩) n n, .int .i64 0, .agg (Sd.mk xk xs xi xg).cells] w fun e w' => e = .returned (.tuple #[]) ∧ ∃ o1 o2, w' = (((puts b (1 + 0 * 11) ⟨xk, xs, xi, xg⟩ 11 (rz false r m w)).alloc o1).alloc o2).drew := by
  have q0 : w.cell? ⟨b, 1, none⟩ = some (.pointer none) := by have := h.1 0 0 (by omega) (by omega); rw [hi] at this; exact this
  have y0 : w.frozen? ⟨b, 1, none⟩ = false := h.2 _
  have q1 : w.cell? ⟨b, 2, none⟩ = some (.string ⟨#[]⟩) := by have := h.1 0 1 (by omega) (by omega); rw [hi] at this; exact this
  have y1 : w.frozen? ⟨b, 2, none⟩ = false := h.2 _
  have q2 : w.cell? ⟨b, 3, none⟩ = some (.int .i32 0) := by have := h.1 0 2 (by omega) (by omega); rw [hi] at this; exact this
  have y2 : w.frozen? ⟨b, 3, none⟩ = false := h.2 _
  have q3 : w.cell? ⟨b, 4, none⟩ = some (.int .u32 0) := by have := h.1 0 3 (by omega) (by omega); rw [hi] at this; exact this
  have y3 : w.frozen? ⟨b, 4, none⟩ = false := h.2 _
  have q4 : w.cell? ⟨b, 5, none⟩ = some (.int .u16 0) := by have := h.1 0 4 (by omega) (by omega); rw [hi] at this; exact this
  have y4 : w.frozen? ⟨b, 5, none⟩ = false := h.2 _
  have q5 : w.cell? ⟨b, 6, none⟩ = some (.int .u8 yk) := by have := h.1 0 5 (by omega) (by omega); rw [hi] at this; exact this
  have y5 : w.frozen? ⟨b, 6, none⟩ = false := h.2 _
  have q6 : w.cell? ⟨b, 7, none⟩ = some (.int .u8 0) := by have := h.1 0 6 (by omega) (by omega); rw [hi] at this; exact this
  have y6 : w.frozen? ⟨b, 7, none⟩ = false := h.2 _
  have q7 : w.cell? ⟨b, 8, none⟩ = some (.string ⟨#[]⟩) := by have := h.1 0 7 (by omega) (by omega); rw [hi] at this; exact this
  have y7 : w.frozen? ⟨b, 8, none⟩ = false := h.2 _
  have q8 : w.cell? ⟨b, 9, none⟩ = some (.int .u8 ys) := by have := h.1 0 8 (by omega) (by omega); rw [hi] at this; exact this
  have y8 : w.frozen? ⟨b, 9, none⟩ = false := h.2 _
  have q9 : w.cell? ⟨b, 10, none⟩ = some (.int .u32 (m : Int)) := by have := h.1 0 9 (by omega) (by omega); rw [hi] at this; exact this
  have y9 : w.frozen? ⟨b, 10, none⟩ = false := h.2 _
  have q10 : w.cell? ⟨b, 11, none⟩ = some (.bool yg) := by have := h.1 0 10 (by omega) (by omega); rw [hi] at this; exact this
  have y10 : w.frozen? ⟨b, 11, none⟩ = false := h.2 _
  obtain ⟨v0, c0⟩ := c0
  obtain ⟨v1, c1⟩ := c1
  clear h hi
  unfold Sd.cells
  subst hx hy
  go_enter Try.func29, Try.ntmps29
  go_wp2_with fail
  go_region
  go_wp2
  go_end0
  exact ⟨rfl, _, _, rfl⟩

theorem up29_0G (b r n m : Nat) (xk xs xi yk ys : Int) (xg yg : Bool) (f : Nat → Sd) (w : World) (_hb : b < w.heap.size) (_hr : r < w.heap.size) (_hn : n ≤ 4096) (_hm : m < n) (_hrb : r ≠ b) (h : Box w b f)
    (hi : f 0 = ⟨yk, ys, (m : Int), yg⟩) (c0 : ∃ v, w.cell? ⟨r, m * 2, none⟩ = some v) (c1 : ∃ v, w.cell? ⟨r, m * 2 + 1, none⟩ = some v) (_z0 : w.frozen? ⟨r, m * 2, none⟩ = false) (_z1 : w.frozen? ⟨r, m * 2 + 1, none⟩ = false)
    (_hk : (yk != 0) = true) (hx : xg = false) (_hs : (ys == 0) = true) (_ht : (xs == 0) = true) :
    Calls Try.prog 29 #[.pointer (some ⟨b, 0, none⟩), .slice (some ⟨r, 0, none⟩) n n, .int .i64 0, .agg (Sd.mk xk xs xi xg).cells] w fun e w' => e = .returned (.tuple #[]) ∧ ∃ o1 o2, w' = (((puts b (1 + 0 * 11) ⟨xk, xs, xi, xg⟩ 11 (rz true r m w)).alloc o1).alloc o2).drew := by
  have q0 : w.cell? ⟨b, 1, none⟩ = some (.pointer none) := by have := h.1 0 0 (by omega) (by omega); rw [hi] at this; exact this
  have y0 : w.frozen? ⟨b, 1, none⟩ = false := h.2 _
  have q1 : w.cell? ⟨b, 2, none⟩ = some (.string ⟨#[]⟩) := by have := h.1 0 1 (by omega) (by omega); rw [hi] at this; exact this
  have y1 : w.frozen? ⟨b, 2, none⟩ = false := h.2 _
  have q2 : w.cell? ⟨b, 3, none⟩ = some (.int .i32 0) := by have := h.1 0 2 (by omega) (by omega); rw [hi] at this; exact this
  have y2 : w.frozen? ⟨b, 3, none⟩ = false := h.2 _
  have q3 : w.cell? ⟨b, 4, none⟩ = some (.int .u32 0) := by have := h.1 0 3 (by omega) (by omega); rw [hi] at this; exact this
  have y3 : w.frozen? ⟨b, 4, none⟩ = false := h.2 _
  have q4 : w.cell? ⟨b, 5, none⟩ = some (.int .u16 0) := by have := h.1 0 4 (by omega) (by omega); rw [hi] at this; exact this
  have y4 : w.frozen? ⟨b, 5, none⟩ = false := h.2 _
  have q5 : w.cell? ⟨b, 6, none⟩ = some (.int .u8 yk) := by have := h.1 0 5 (by omega) (by omega); rw [hi] at this; exact this
  have y5 : w.frozen? ⟨b, 6, none⟩ = false := h.2 _
  have q6 : w.cell? ⟨b, 7, none⟩ = some (.int .u8 0) := by have := h.1 0 6 (by omega) (by omega); rw [hi] at this; exact this
  have y6 : w.frozen? ⟨b, 7, none⟩ = false := h.2 _
  have q7 : w.cell? ⟨b, 8, none⟩ = some (.string ⟨#[]⟩) := by have := h.1 0 7 (by omega) (by omega); rw [hi] at this; exact this
  have y7 : w.frozen? ⟨b, 8, none⟩ = false := h.2 _
  have q8 : w.cell? ⟨b, 9, none⟩ = some (.int .u8 ys) := by have := h.1 0 8 (by omega) (by omega); rw [hi] at this; exact this
  have y8 : w.frozen? ⟨b, 9, none⟩ = false := h.2 _
  have q9 : w.cell? ⟨b, 10, none⟩ = some (.int .u32 (m : Int)) := by have := h.1 0 9 (by omega) (by omega); rw [hi] at this; exact this
  have y9 : w.frozen? ⟨b, 10, none⟩ = false := h.2 _
  have q10 : w.cell? ⟨b, 11, none⟩ = some (.bool yg) := by have := h.1 0 10 (by omega) (by omega); rw [hi] at this; exact this
  have y10 : w.frozen? ⟨b, 11, none⟩ = false := h.2 _
  obtain ⟨v0, c0⟩ := c0
  obtain ⟨v1, c1⟩ := c1
  clear h hi
  unfold Sd.cells
  subst hx
  go_enter Try.func29, Try.ntmps29
  go_wp2_with fail
  go_region
  go_wp2
  go_end0
  exact ⟨rfl, _, _, rfl⟩

theorem up29_0H (b r n m : Nat) (xk xs xi yk ys : Int) (xg yg : Bool) (f : Nat → Sd) (w : World) (_hb : b < w.heap.size) (_hr : r < w.heap.size) (_hn : n ≤ 4096) (_hm : m < n) (_hrb : r ≠ b) (h : Box w b f)
    (hi : f 0 = ⟨yk, ys, (m : Int), yg⟩) (c0 : ∃ v, w.cell? ⟨r, m * 2, none⟩ = some v) (c1 : ∃ v, w.cell? ⟨r, m * 2 + 1, none⟩ = some v) (_z0 : w.frozen? ⟨r, m * 2, none⟩ = false) (_z1 : w.frozen? ⟨r, m * 2 + 1, none⟩ = false)
    (_hk : (yk != 0) = true) (hx : xg = true) (hy : yg = true) (_hs : (ys == 0) = true) (_ht : (xs == 0) = true) :
    Calls Try.prog 29 #[.pointer (some ⟨b, 0, none⟩), .slice (some ⟨r, 0, none⟩) n n, .int .i64 0, .agg (Sd.mk xk xs xi xg).cells] w fun e w' => e = .returned (.tuple #[]) ∧ ∃ o1 o2, w' = (((puts b (1 + 0 * 11) ⟨xk, xs, xi, xg⟩ 11 (rz true r m w)).alloc o1).alloc o2).drew := by
  have q0 : w.cell? ⟨b, 1, none⟩ = some (.pointer none) := by have := h.1 0 0 (by omega) (by omega); rw [hi] at this; exact this
  have y0 : w.frozen? ⟨b, 1, none⟩ = false := h.2 _
  have q1 : w.cell? ⟨b, 2, none⟩ = some (.string ⟨#[]⟩) := by have := h.1 0 1 (by omega) (by omega); rw [hi] at this; exact this
  have y1 : w.frozen? ⟨b, 2, none⟩ = false := h.2 _
  have q2 : w.cell? ⟨b, 3, none⟩ = some (.int .i32 0) := by have := h.1 0 2 (by omega) (by omega); rw [hi] at this; exact this
  have y2 : w.frozen? ⟨b, 3, none⟩ = false := h.2 _
  have q3 : w.cell? ⟨b, 4, none⟩ = some (.int .u32 0) := by have := h.1 0 3 (by omega) (by omega); rw [hi] at this; exact this
  have y3 : w.frozen? ⟨b, 4, none⟩ = false := h.2 _
  have q4 : w.cell? ⟨b, 5, none⟩ = some (.int .u16 0) := by have := h.1 0 4 (by omega) (by omega); rw [hi] at this; exact this
  have y4 : w.frozen? ⟨b, 5, none⟩ = false := h.2 _
  have q5 : w.cell? ⟨b, 6, none⟩ = some (.int .u8 yk) := by have := h.1 0 5 (by omega) (by omega); rw [hi] at this; exact this
  have y5 : w.frozen? ⟨b, 6, none⟩ = false := h.2 _
  have q6 : w.cell? ⟨b, 7, none⟩ = some (.int .u8 0) := by have := h.1 0 6 (by omega) (by omega); rw [hi] at this; exact this
  have y6 : w.frozen? ⟨b, 7, none⟩ = false := h.2 _
  have q7 : w.cell? ⟨b, 8, none⟩ = some (.string ⟨#[]⟩) := by have := h.1 0 7 (by omega) (by omega); rw [hi] at this; exact this
  have y7 : w.frozen? ⟨b, 8, none⟩ = false := h.2 _
  have q8 : w.cell? ⟨b, 9, none⟩ = some (.int .u8 ys) := by have := h.1 0 8 (by omega) (by omega); rw [hi] at this; exact this
  have y8 : w.frozen? ⟨b, 9, none⟩ = false := h.2 _
  have q9 : w.cell? ⟨b, 10, none⟩ = some (.int .u32 (m : Int)) := by have := h.1 0 9 (by omega) (by omega); rw [hi] at this; exact this
  have y9 : w.frozen? ⟨b, 10, none⟩ = false := h.2 _
  have q10 : w.cell? ⟨b, 11, none⟩ = some (.bool yg) := by have := h.1 0 10 (by omega) (by omega); rw [hi] at this; exact this
  have y10 : w.frozen? ⟨b, 11, none⟩ = false := h.2 _
  obtain ⟨v0, c0⟩ := c0
  obtain ⟨v1, c1⟩ := c1
  clear h hi
  unfold Sd.cells
  subst hx hy
  go_enter Try.func29, Try.ntmps29
  go_wp2_with fail
  go_region
  go_wp2
  go_end0
  exact ⟨rfl, _, _, rfl⟩

theorem up29_0 (b r n m : Nat) (xk xs xi yk ys : Int) (xg yg : Bool) (f : Nat → Sd) (w : World) (hb : b < w.heap.size) (hr : r < w.heap.size) (hn : n ≤ 4096) (hm : m < n) (hrb : r ≠ b) (h : Box w b f)
    (hi : f 0 = ⟨yk, ys, (m : Int), yg⟩) (c0 : ∃ v, w.cell? ⟨r, m * 2, none⟩ = some v) (c1 : ∃ v, w.cell? ⟨r, m * 2 + 1, none⟩ = some v) (z0 : w.frozen? ⟨r, m * 2, none⟩ = false) (z1 : w.frozen? ⟨r, m * 2 + 1, none⟩ = false) :
    Calls Try.prog 29 #[.pointer (some ⟨b, 0, none⟩), .slice (some ⟨r, 0, none⟩) n n, .int .i64 0, .agg (Sd.mk xk xs xi xg).cells] w fun e w' => e = .returned (.tuple #[]) ∧ ∃ o1 o2, w' = (((puts b (1 + 0 * 11) ⟨xk, xs, xi, xg⟩ 11 (rz (dropB ⟨yk, ys, (m : Int), yg⟩ ⟨xk, xs, xi, xg⟩) r m w)).alloc o1).alloc o2).drew := by
  unfold dropB
  dsimp only
  cases hk : (yk != 0)
  · exact up29_0A b r n m xk xs xi yk ys xg yg f w hb hr hn hm hrb h hi c0 c1 z0 z1 hk
  cases hs : (ys == 0)
  · cases xg
    · simpa using up29_0C b r n m xk xs xi yk ys false yg f w hb hr hn hm hrb h hi c0 c1 z0 z1 hk rfl hs
    · cases yg
      · simpa using up29_0B b r n m xk xs xi yk ys true false f w hb hr hn hm hrb h hi c0 c1 z0 z1 hk rfl rfl
      · simpa using up29_0D b r n m xk xs xi yk ys true true f w hb hr hn hm hrb h hi c0 c1 z0 z1 hk rfl rfl hs
  cases ht : (xs == 0)
  · cases xg
    · simpa using up29_0E b r n m xk xs xi yk ys false yg f w hb hr hn hm hrb h hi c0 c1 z0 z1 hk rfl hs ht
    · cases yg
      · simpa using up29_0B b r n m xk xs xi yk ys true false f w hb hr hn hm hrb h hi c0 c1 z0 z1 hk rfl rfl
      · simpa using up29_0F b r n m xk xs xi yk ys true true f w hb hr hn hm hrb h hi c0 c1 z0 z1 hk rfl rfl hs ht
  cases xg
  · simpa using up29_0G b r n m xk xs xi yk ys false yg f w hb hr hn hm hrb h hi c0 c1 z0 z1 hk rfl hs ht
  · cases yg
    · simpa using up29_0B b r n m xk xs xi yk ys true false f w hb hr hn hm hrb h hi c0 c1 z0 z1 hk rfl rfl
    · simpa using up29_0H b r n m xk xs xi yk ys true true f w hb hr hn hm hrb h hi c0 c1 z0 z1 hk rfl rfl hs ht

theorem up29_1A (b r n m : Nat) (xk xs xi yk ys : Int) (xg yg : Bool) (f : Nat → Sd) (w : World) (_hb : b < w.heap.size) (_hr : r < w.heap.size) (_hn : n ≤ 4096) (_hm : m < n) (_hrb : r ≠ b) (h : Box w b f)
    (hi : f 1 = ⟨yk, ys, (m : Int), yg⟩) (c0 : ∃ v, w.cell? ⟨r, m * 2, none⟩ = some v) (c1 : ∃ v, w.cell? ⟨r, m * 2 + 1, none⟩ = some v) (_z0 : w.frozen? ⟨r, m * 2, none⟩ = false) (_z1 : w.frozen? ⟨r, m * 2 + 1, none⟩ = false)
    (_hk : (yk != 0) = false) :
    Calls Try.prog 29 #[.pointer (some ⟨b, 0, none⟩), .slice (some ⟨r, 0, none⟩) n n, .int .i64 1, .agg (Sd.mk xk xs xi xg).cells] w fun e w' => e = .returned (.tuple #[]) ∧ ∃ o1 o2, w' = (((puts b (1 + 1 * 11) ⟨xk, xs, xi, xg⟩ 11 (rz false r m w)).alloc o1).alloc o2).drew := by
  have q0 : w.cell? ⟨b, 12, none⟩ = some (.pointer none) := by have := h.1 1 0 (by omega) (by omega); rw [hi] at this; exact this
  have y0 : w.frozen? ⟨b, 12, none⟩ = false := h.2 _
  have q1 : w.cell? ⟨b, 13, none⟩ = some (.string ⟨#[]⟩) := by have := h.1 1 1 (by omega) (by omega); rw [hi] at this; exact this
  have y1 : w.frozen? ⟨b, 13, none⟩ = false := h.2 _
  have q2 : w.cell? ⟨b, 14, none⟩ = some (.int .i32 0) := by have := h.1 1 2 (by omega) (by omega); rw [hi] at this; exact this
  have y2 : w.frozen? ⟨b, 14, none⟩ = false := h.2 _
  have q3 : w.cell? ⟨b, 15, none⟩ = some (.int .u32 0) := by have := h.1 1 3 (by omega) (by omega); rw [hi] at this; exact this
  have y3 : w.frozen? ⟨b, 15, none⟩ = false := h.2 _
  have q4 : w.cell? ⟨b, 16, none⟩ = some (.int .u16 0) := by have := h.1 1 4 (by omega) (by omega); rw [hi] at this; exact this
  have y4 : w.frozen? ⟨b, 16, none⟩ = false := h.2 _
  have q5 : w.cell? ⟨b, 17, none⟩ = some (.int .u8 yk) := by have := h.1 1 5 (by omega) (by omega); rw [hi] at this; exact this
  have y5 : w.frozen? ⟨b, 17, none⟩ = false := h.2 _
  have q6 : w.cell? ⟨b, 18, none⟩ = some (.int .u8 0) := by have := h.1 1 6 (by omega) (by omega); rw [hi] at this; exact this
  have y6 : w.frozen? ⟨b, 18, none⟩ = false := h.2 _
  have q7 : w.cell? ⟨b, 19, none⟩ = some (.string ⟨#[]⟩) := by have := h.1 1 7 (by omega) (by omega); rw [hi] at this; exact this
  have y7 : w.frozen? ⟨b, 19, none⟩ = false := h.2 _
  have q8 : w.cell? ⟨b, 20, none⟩ = some (.int .u8 ys) := by have := h.1 1 8 (by omega) (by omega); rw [hi] at this; exact this
  have y8 : w.frozen? ⟨b, 20, none⟩ = false := h.2 _
  have q9 : w.cell? ⟨b, 21, none⟩ = some (.int .u32 (m : Int)) := by have := h.1 1 9 (by omega) (by omega); rw [hi] at this; exact this
  have y9 : w.frozen? ⟨b, 21, none⟩ = false := h.2 _
  have q10 : w.cell? ⟨b, 22, none⟩ = some (.bool yg) := by have := h.1 1 10 (by omega) (by omega); rw [hi] at this; exact this
  have y10 : w.frozen? ⟨b, 22, none⟩ = false := h.2 _
  obtain ⟨v0, c0⟩ := c0
  obtain ⟨v1, c1⟩ := c1
  clear h hi
  unfold Sd.cells
  go_enter Try.func29, Try.ntmps29
  go_wp2_with fail
  go_region
  go_wp2
  go_end0
  exact ⟨rfl, _, _, rfl⟩

theorem up29_1B (b r n m : Nat) (xk xs xi yk ys : Int) (xg yg : Bool) (f : Nat → Sd) (w : World) (_hb : b < w.heap.size) (_hr : r < w.heap.size) (_hn : n ≤ 4096) (_hm : m < n) (_hrb : r ≠ b) (h : Box w b f)
    (hi : f 1 = ⟨yk, ys, (m : Int), yg⟩) (c0 : ∃ v, w.cell? ⟨r, m * 2, none⟩ = some v) (c1 : ∃ v, w.cell? ⟨r, m * 2 + 1, none⟩ = some v) (_z0 : w.frozen? ⟨r, m * 2, none⟩ = false) (_z1 : w.frozen? ⟨r, m * 2 + 1, none⟩ = false)
    (_hk : (yk != 0) = true) (hx : xg = true) (hy : yg = false) :
    Calls Try.prog 29 #[.pointer (some ⟨b, 0, none⟩), .slice (some ⟨r, 0, none⟩) n n, .int .i64 1, .agg (Sd.mk xk xs xi xg).cells] w fun e w' => e = .returned (.tuple #[]) ∧ ∃ o1 o2, w' = (((puts b (1 + 1 * 11) ⟨xk, xs, xi, xg⟩ 11 (rz false r m w)).alloc o1).alloc o2).drew := by
  have q0 : w.cell? ⟨b, 12, none⟩ = some (.pointer none) := by have := h.1 1 0 (by omega) (by omega); rw [hi] at this; exact this
  have y0 : w.frozen? ⟨b, 12, none⟩ = false := h.2 _
  have q1 : w.cell? ⟨b, 13, none⟩ = some (.string ⟨#[]⟩) := by have := h.1 1 1 (by omega) (by omega); rw [hi] at this; exact this
  have y1 : w.frozen? ⟨b, 13, none⟩ = false := h.2 _
  have q2 : w.cell? ⟨b, 14, none⟩ = some (.int .i32 0) := by have := h.1 1 2 (by omega) (by omega); rw [hi] at this; exact this
  have y2 : w.frozen? ⟨b, 14, none⟩ = false := h.2 _
  have q3 : w.cell? ⟨b, 15, none⟩ = some (.int .u32 0) := by have := h.1 1 3 (by omega) (by omega); rw [hi] at this; exact this
  have y3 : w.frozen? ⟨b, 15, none⟩ = false := h.2 _
  have q4 : w.cell? ⟨b, 16, none⟩ = some (.int .u16 0) := by have := h.1 1 4 (by omega) (by omega); rw [hi] at this; exact this
  have y4 : w.frozen? ⟨b, 16, none⟩ = false := h.2 _
  have q5 : w.cell? ⟨b, 17, none⟩ = some (.int .u8 yk) := by have := h.1 1 5 (by omega) (by omega); rw [hi] at this; exact this
  have y5 : w.frozen? ⟨b, 17, none⟩ = false := h.2 _
  have q6 : w.cell? ⟨b, 18, none⟩ = some (.int .u8 0) := by have := h.1 1 6 (by omega) (by omega); rw [hi] at this; exact this
  have y6 : w.frozen? ⟨b, 18, none⟩ = false := h.2 _
  have q7 : w.cell? ⟨b, 19, none⟩ = some (.string ⟨#[]⟩) := by have := h.1 1 7 (by omega) (by omega); rw [hi] at this; exact this
  have y7 : w.frozen? ⟨b, 19, none⟩ = false := h.2 _
  have q8 : w.cell? ⟨b, 20, none⟩ = some (.int .u8 ys) := by have := h.1 1 8 (by omega) (by omega); rw [hi] at this; exact this
  have y8 : w.frozen? ⟨b, 20, none⟩ = false := h.2 _
  have q9 : w.cell? ⟨b, 21, none⟩ = some (.int .u32 (m : Int)) := by have := h.1 1 9 (by omega) (by omega); rw [hi] at this; exact this
  have y9 : w.frozen? ⟨b, 21, none⟩ = false := h.2 _
  have q10 : w.cell? ⟨b, 22, none⟩ = some (.bool yg) := by have := h.1 1 10 (by omega) (by omega); rw [hi] at this; exact this
  have y10 : w.frozen? ⟨b, 22, none⟩ = false := h.2 _
  obtain ⟨v0, c0⟩ := c0
  obtain ⟨v1, c1⟩ := c1
  clear h hi
  unfold Sd.cells
  subst hx hy
  go_enter Try.func29, Try.ntmps29
  go_wp2_with fail
  go_region
  go_wp2
  go_end0
  exact ⟨rfl, _, _, rfl⟩

theorem up29_1C (b r n m : Nat) (xk xs xi yk ys : Int) (xg yg : Bool) (f : Nat → Sd) (w : World) (_hb : b < w.heap.size) (_hr : r < w.heap.size) (_hn : n ≤ 4096) (_hm : m < n) (_hrb : r ≠ b) (h : Box w b f)
    (hi : f 1 = ⟨yk, ys, (m : Int), yg⟩) (c0 : ∃ v, w.cell? ⟨r, m * 2, none⟩ = some v) (c1 : ∃ v, w.cell? ⟨r, m * 2 + 1, none⟩ = some v) (_z0 : w.frozen? ⟨r, m * 2, none⟩ = false) (_z1 : w.frozen? ⟨r, m * 2 + 1, none⟩ = false)
    (_hk : (yk != 0) = true) (hx : xg = false) (_hs : (ys == 0) = false) :
    Calls Try.prog 29 #[.pointer (some ⟨b, 0, none⟩), .slice (some ⟨r, 0, none⟩) n n, .int .i64 1, .agg (Sd.mk xk xs xi xg).cells] w fun e w' => e = .returned (.tuple #[]) ∧ ∃ o1 o2, w' = (((puts b (1 + 1 * 11) ⟨xk, xs, xi, xg⟩ 11 (rz false r m w)).alloc o1).alloc o2).drew := by
  have q0 : w.cell? ⟨b, 12, none⟩ = some (.pointer none) := by have := h.1 1 0 (by omega) (by omega); rw [hi] at this; exact this
  have y0 : w.frozen? ⟨b, 12, none⟩ = false := h.2 _
  have q1 : w.cell? ⟨b, 13, none⟩ = some (.string ⟨#[]⟩) := by have := h.1 1 1 (by omega) (by omega); rw [hi] at this; exact this
  have y1 : w.frozen? ⟨b, 13, none⟩ = false := h.2 _
  have q2 : w.cell? ⟨b, 14, none⟩ = some (.int .i32 0) := by have := h.1 1 2 (by omega) (by omega); rw [hi] at this; exact this
  have y2 : w.frozen? ⟨b, 14, none⟩ = false := h.2 _
  have q3 : w.cell? ⟨b, 15, none⟩ = some (.int .u32 0) := by have := h.1 1 3 (by omega) (by omega); rw [hi] at this; exact this
  have y3 : w.frozen? ⟨b, 15, none⟩ = false := h.2 _
  have q4 : w.cell? ⟨b, 16, none⟩ = some (.int .u16 0) := by have := h.1 1 4 (by omega) (by omega); rw [hi] at this; exact this
  have y4 : w.frozen? ⟨b, 16, none⟩ = false := h.2 _
  have q5 : w.cell? ⟨b, 17, none⟩ = some (.int .u8 yk) := by have := h.1 1 5 (by omega) (by omega); rw [hi] at this; exact this
  have y5 : w.frozen? ⟨b, 17, none⟩ = false := h.2 _
  have q6 : w.cell? ⟨b, 18, none⟩ = some (.int .u8 0) := by have := h.1 1 6 (by omega) (by omega); rw [hi] at this; exact this
  have y6 : w.frozen? ⟨b, 18, none⟩ = false := h.2 _
  have q7 : w.cell? ⟨b, 19, none⟩ = some (.string ⟨#[]⟩) := by have := h.1 1 7 (by omega) (by omega); rw [hi] at this; exact this
  have y7 : w.frozen? ⟨b, 19, none⟩ = false := h.2 _
  have q8 : w.cell? ⟨b, 20, none⟩ = some (.int .u8 ys) := by have := h.1 1 8 (by omega) (by omega); rw [hi] at this; exact this
  have y8 : w.frozen? ⟨b, 20, none⟩ = false := h.2 _
  have q9 : w.cell? ⟨b, 21, none⟩ = some (.int .u32 (m : Int)) := by have := h.1 1 9 (by omega) (by omega); rw [hi] at this; exact this
  have y9 : w.frozen? ⟨b, 21, none⟩ = false := h.2 _
  have q10 : w.cell? ⟨b, 22, none⟩ = some (.bool yg) := by have := h.1 1 10 (by omega) (by omega); rw [hi] at this; exact this
  have y10 : w.frozen? ⟨b, 22, none⟩ = false := h.2 _
  obtain ⟨v0, c0⟩ := c0
  obtain ⟨v1, c1⟩ := c1
  clear h hi
  unfold Sd.cells
  subst hx
  go_enter Try.func29, Try.ntmps29
  go_wp2_with fail
  go_region
  go_wp2
  go_end0
  exact ⟨rfl, _, _, rfl⟩

theorem up29_1D (b r n m : Nat) (xk xs xi yk ys : Int) (xg yg : Bool) (f : Nat → Sd) (w : World) (_hb : b < w.heap.size) (_hr : r < w.heap.size) (_hn : n ≤ 4096) (_hm : m < n) (_hrb : r ≠ b) (h : Box w b f)
    (hi : f 1 = ⟨yk, ys, (m : Int), yg⟩) (c0 : ∃ v, w.cell? ⟨r, m * 2, none⟩ = some v) (c1 : ∃ v, w.cell? ⟨r, m * 2 + 1, none⟩ = some v) (_z0 : w.frozen? ⟨r, m * 2, none⟩ = false) (_z1 : w.frozen? ⟨r, m * 2 + 1, none⟩ = false)
    (_hk : (yk != 0) = true) (hx : xg = true) (hy : yg = true) (_hs : (ys == 0) = false) :
    Calls Try.prog 29 #[.pointer (some ⟨b, 0, none⟩), .slice (some ⟨r, 0, none⟩) n n, .int .i64 1, .agg (Sd.mk xk xs xi xg).cells] w fun e w' => e = .returned (.tuple #[]) ∧ ∃ o1 o2, w' = (((puts b (1 + 1 * 11) ⟨xk, xs, xi, xg⟩ 11 (rz false r m w)).alloc o1).alloc o2).drew := by
  have q0 : w.cell? ⟨b, 12, none⟩ = some (.pointer none) := by have := h.1 1 0 (by omega) (by omega); rw [hi] at this; exact this
  have y0 : w.frozen? ⟨b, 12, none⟩ = false := h.2 _
  have q1 : w.cell? ⟨b, 13, none⟩ = some (.string ⟨#[]⟩) := by have := h.1 1 1 (by omega) (by omega); rw [hi] at this; exact this
  have y1 : w.frozen? ⟨b, 13, none⟩ = false := h.2 _
  have q2 : w.cell? ⟨b, 14, none⟩ = some (.int .i32 0) := by have := h.1 1 2 (by omega) (by omega); rw [hi] at this; exact this
  have y2 : w.frozen? ⟨b, 14, none⟩ = false := h.2 _
  have q3 : w.cell? ⟨b, 15, none⟩ = some (.int .u32 0) := by have := h.1 1 3 (by omega) (by omega); rw [hi] at this; exact this
  have y3 : w.frozen? ⟨b, 15, none⟩ = false := h.2 _
  have q4 : w.cell? ⟨b, 16, none⟩ = some (.int .u16 0) := by have := h.1 1 4 (by omega) (by omega); rw [hi] at this; exact this
  have y4 : w.frozen? ⟨b, 16, none⟩ = false := h.2 _
  have q5 : w.cell? ⟨b, 17, none⟩ = some (.int .u8 yk) := by have := h.1 1 5 (by omega) (by omega); rw [hi] at this; exact this
  have y5 : w.frozen? ⟨b, 17, none⟩ = false := h.2 _
  have q6 : w.cell? ⟨b, 18, none⟩ = some (.int .u8 0) := by have := h.1 1 6 (by omega) (by omega); rw [hi] at this; exact this
  have y6 : w.frozen? ⟨b, 18, none⟩ = false := h.2 _
  have q7 : w.cell? ⟨b, 19, none⟩ = some (.string ⟨#[]⟩) := by have := h.1 1 7 (by omega) (by omega); rw [hi] at this; exact this
  have y7 : w.frozen? ⟨b, 19, none⟩ = false := h.2 _
  have q8 : w.cell? ⟨b, 20, none⟩ = some (.int .u8 ys) := by have := h.1 1 8 (by omega) (by omega); rw [hi] at this; exact this
  have y8 : w.frozen? ⟨b, 20, none⟩ = false := h.2 _
  have q9 : w.cell? ⟨b, 21, none⟩ = some (.int .u32 (m : Int)) := by have := h.1 1 9 (by omega) (by omega); rw [hi] at this; exact this
  have y9 : w.frozen? ⟨b, 21, none⟩ = false := h.2 _
  have q10 : w.cell? ⟨b, 22, none⟩ = some (.bool yg) := by have := h.1 1 10 (by omega) (by omega); rw [hi] at this; exact this
  have y10 : w.frozen? ⟨b, 22, none⟩ = false := h.2 _
  obtain ⟨v0, c0⟩ := c0
  obtain ⟨v1, c1⟩ := c1
  clear h hi
  unfold Sd.cells
  subst hx hy
  go_enter Try.func29, Try.ntmps29
  go_wp2_with fail
  go_region
  go_wp2
  go_end0
  exact ⟨rfl, _, _, rfl⟩

theorem up29_1E (b r n m : Nat) (xk xs xi yk ys : Int) (xg yg : Bool) (f : Nat → Sd) (w : World) (_hb : b < w.heap.size) (_hr : r < w.heap.size) (_hn : n ≤ 4096) (_hm : m < n) (_hrb : r ≠ b) (h : Box w b f)
    (hi : f 1 = ⟨yk, ys, (m : Int), yg⟩) (c0 : ∃ v, w.cell? ⟨r, m * 2, none⟩ = some v) (c1 : ∃ v, w.cell? ⟨r, m * 2 + 1, none⟩ = some v) (_z0 : w.frozen? ⟨r, m * 2, none⟩ = false) (_z1 : w.frozen? ⟨r, m * 2 + 1, none⟩ = false)
    (_hk : (yk != 0) = true) (hx : xg = false) (_hs : (ys == 0) = true) (_ht : (xs == 0) = false) :
    Calls Try.prog 29 #[.pointer (some ⟨b, 0, none⟩), .slice (some ⟨r, 0, none⟩) n n, .int .i64 1, .agg (Sd.mk xk xs xi xg).cells] w fun e w' => e = .returned (.tuple #[]) ∧ ∃ o1 o2, w' = (((puts b (1 + 1 * 11) ⟨xk, xs, xi, xg⟩ 11 (rz false r m w)).alloc o1).alloc o2).drew := by
  have q0 : w.cell? ⟨b, 12, none⟩ = some (.pointer none) := by have := h.1 1 0 (by omega) (by omega); rw [hi] at this; exact this
  have y0 : w.frozen? ⟨b, 12, none⟩ = false := h.2 _
  have q1 : w.cell? ⟨b, 13, none⟩ = some (.string ⟨#[]⟩) := by have := h.1 1 1 (by omega) (by omega); rw [hi] at this; exact this
  have y1 : w.frozen? ⟨b, 13, none⟩ = false := h.2 _
  have q2 : w.cell? ⟨b, 14, none⟩ = some (.int .i32 0) := by have := h.1 1 2 (by omega) (by omega); rw [hi] at this; exact this
  have y2 : w.frozen? ⟨b, 14, none⟩ = false := h.2 _
  have q3 : w.cell? ⟨b, 15, none⟩ = some (.int .u32 0) := by have := h.1 1 3 (by omega) (by omega); rw [hi] at this; exact this
  have y3 : w.frozen? ⟨b, 15, none⟩ = false := h.2 _
  have q4 : w.cell? ⟨b, 16, none⟩ = some (.int .u16 0) := by have := h.1 1 4 (by omega) (by omega); rw [hi] at this; exact this
  have y4 : w.frozen? ⟨b, 16, none⟩ = false := h.2 _
  have q5 : w.cell? ⟨b, 17, none⟩ = some (.int .u8 yk) := by have := h.1 1 5 (by omega) (by omega); rw [hi] at this; exact this
  have y5 : w.frozen? ⟨b, 17, none⟩ = false := h.2 _
  have q6 : w.cell? ⟨b, 18, none⟩ = some (.int .u8 0) := by have := h.1 1 6 (by omega) (by omega); rw [hi] at this; exact this
  have y6 : w.frozen? ⟨b, 18, none⟩ = false := h.2 _
  have q7 : w.cell? ⟨b, 19, none⟩ = some (.string ⟨#[]⟩) := by have := h.1 1 7 (by omega) (by omega); rw [hi] at this; exact this
  have y7 : w.frozen? ⟨b, 19, none⟩ = false := h.2 _
  have q8 : w.cell? ⟨b, 20, none⟩ = some (.int .u8 ys) := by have := h.1 1 8 (by omega) (by omega); rw [hi] at this; exact this
  have y8 : w.frozen? ⟨b, 20, none⟩ = false := h.2 _
  have q9 : w.cell? ⟨b, 21, none⟩ = some (.int .u32 (m : Int)) := by have := h.1 1 9 (by omega) (by omega); rw [hi] at this; exact this
  have y9 : w.frozen? ⟨b, 21, none⟩ = false := h.2 _
  have q10 : w.cell? ⟨b, 22, none⟩ = some (.bool yg) := by have := h.1 1 10 (by omega) (by omega); rw [hi] at this; exact this
  have y10 : w.frozen? ⟨b, 22, none⟩ = false := h.2 _
  obtain ⟨v0, c0⟩ := c0
  obtain ⟨v1, c1⟩ := c1
  clear h hi
  unfold Sd.cells
  subst hx
  go_enter Try.func29, Try.ntmps29
  go_wp2_with fail
  go_region
  go_wp2
  go_end0
  exact ⟨rfl, _, _, rfl⟩

theorem up29_1F (b r n m : Nat) (xk xs xi yk ys : Int) (xg yg : Bool) (f : Nat → Sd) (w : World) (_hb : b < w.heap.size) (_hr : r < w.heap.size) (_hn : n ≤ 4096) (_hm : m < n) (_hrb : r ≠ b) (h : Box w b f)
    (hi : f 1 = ⟨yk, ys, (m : Int), yg⟩) (c0 : ∃ v, w.cell? ⟨r, m * 2, none⟩ = some v) (c1 : ∃ v, w.cell? ⟨r, m * 2 + 1, none⟩ = some v) (_z0 : w.frozen? ⟨r, m * 2, none⟩ = false) (_z1 : w.frozen? ⟨r, m * 2 + 1, none⟩ = false)
    (_hk : (yk != 0) = true) (hx : xg = true) (hy : yg = true) (_hs : (ys == 0) = true) (_ht : (xs == 0) = false) :
    Calls Try.prog 29 #[.pointer (some ⟨b, 0, none⟩), .slice (some ⟨r, 0, none⟩) n n, .int .i64 1, .agg (Sd.mk xk xs xi xg).cells] w fun e w' => e = .returned (.tuple #[]) ∧ ∃ o1 o2, w' = (((puts b (1 + 1 * 11) ⟨xk, xs, xi, xg⟩ 11 (rz false r m w)).alloc o1).alloc o2).drew := by
  have q0 : w.cell? ⟨b, 12, none⟩ = some (.pointer none) := by have := h.1 1 0 (by omega) (by omega); rw [hi] at this; exact this
  have y0 : w.frozen? ⟨b, 12, none⟩ = false := h.2 _
  have q1 : w.cell? ⟨b, 13, none⟩ = some (.string ⟨#[]⟩) := by have := h.1 1 1 (by omega) (by omega); rw [hi] at this; exact this
  have y1 : w.frozen? ⟨b, 13, none⟩ = false := h.2 _
  have q2 : w.cell? ⟨b, 14, none⟩ = some (.int .i32 0) := by have := h.1 1 2 (by omega) (by omega); rw [hi] at this; exact this
  have y2 : w.frozen? ⟨b, 14, none⟩ = false := h.2 _
  have q3 : w.cell? ⟨b, 15, none⟩ = some (.int .u32 0) := by have := h.1 1 3 (by omega) (by omega); rw [hi] at this; exact this
  have y3 : w.frozen? ⟨b, 15, none⟩ = false := h.2 _
  have q4 : w.cell? ⟨b, 16, none⟩ = some (.int .u16 0) := by have := h.1 1 4 (by omega) (by omega); rw [hi] at this; exact this
  have y4 : w.frozen? ⟨b, 16, none⟩ = false := h.2 _
  have q5 : w.cell? ⟨b, 17, none⟩ = some (.int .u8 yk) := by have := h.1 1 5 (by omega) (by omega); rw [hi] at this; exact this
  have y5 : w.frozen? ⟨b, 17, none⟩ = false := h.2 _
  have q6 : w.cell? ⟨b, 18, none⟩ = some (.int .u8 0) := by have := h.1 1 6 (by omega) (by omega); rw [hi] at this; exact this
  have y6 : w.frozen? ⟨b, 18, none⟩ = false := h.2 _
  have q7 : w.cell? ⟨b, 19, none⟩ = some (.string ⟨#[]⟩) := by have := h.1 1 7 (by omega) (by omega); rw [hi] at this; exact this
  have y7 : w.frozen? ⟨b, 19, none⟩ = false := h.2 _
  have q8 : w.cell? ⟨b, 20, none⟩ = some (.int .u8 ys) := by have := h.1 1 8 (by omega) (by omega); rw [hi] at this; exact this
  have y8 : w.frozen? ⟨b, 20, none⟩ = false := h.2 _
  have q9 : w.cell? ⟨b, 21, none⟩ = some (.int .u32 (m : Int)) := by have := h.1 1 9 (by omega) (by omega); rw [hi] at this; exact this
  have y9 : w.frozen? ⟨b, 21, none⟩ = false := h.2 _
  have q10 : w.cell? ⟨b, 22, none⟩ = some (.bool yg) := by have := h.1 1 10 (by omega) (by omega); rw [hi] at this; exact this
  have y10 : w.frozen? ⟨b, 22, none⟩ = false := h.2 _
  obtain ⟨v0, c0⟩ := c0
  obtain ⟨v1, c1⟩ := c1
  clear h hi
  unfold Sd.cells
  subst hx hy
  go_enter Try.func29, Try.ntmps29
  go_wp2_with fail
  go_region
  go_wp2
  go_end0
  exact ⟨rfl, _, _, rfl⟩

theorem up29_1G (b r n m : Nat) (xk xs xi yk ys : Int) (xg yg : Bool) (f : Nat → Sd) (w : World) (_hb : b < w.heap.size) (_hr : r < w.heap.size) (_hn : n ≤ 4096) (_hm : m < n) (_hrb : r ≠ b) (h : Box w b f)
    (hi : f 1 = ⟨yk, ys, (m : Int), yg⟩) (c0 : ∃ v, w.cell? ⟨r, m * 2, none⟩ = some v) (c1 : ∃ v, w.cell? ⟨r, m * 2 + 1, none⟩ = some v) (_z0 : w.frozen? ⟨r, m * 2, none⟩ = false) (_z1 : w.frozen? ⟨r, m * 2 + 1, none⟩ = false)
    (_hk : (yk != 0) = true) (hx : xg = false) (_hs : (ys == 0) = true) (_ht : (xs == 0) = true) :
    Calls Try.prog 29 #[.pointer (some ⟨b, 0, none⟩), .slice (some ⟨r, 0, none⟩) n n, .int .i64 1, .agg (Sd.mk xk xs xi xg).cells] w fun e w' => e = .returned (.tuple #[]) ∧ ∃ o1 o2, w' = (((puts b (1 + 1 * 11) ⟨xk, xs, xi, xg⟩ 11 (rz true r m w)).alloc o1).alloc o2).drew := by
  have q0 : w.cell? ⟨b, 12, none⟩ = some (.pointer none) := by have := h.1 1 0 (by omega) (by omega); rw [hi] at this; exact this
  have y0 : w.frozen? ⟨b, 12, none⟩ = false := h.2 _
  have q1 : w.cell? ⟨b, 13, none⟩ = some (.string ⟨#[]⟩) := by have := h.1 1 1 (by omega) (by omega); rw [hi] at this; exact this
  have y1 : w.frozen? ⟨b, 13, none⟩ = false := h.2 _
  have q2 : w.cell? ⟨b, 14, none⟩ = some (.int .i32 0) := by have := h.1 1 2 (by omega) (by omega); rw [hi] at this; exact this
  have y2 : w.frozen? ⟨b, 14, none⟩ = false := h.2 _
  have q3 : w.cell? ⟨b, 15, none⟩ = some (.int .u32 0) := by have := h.1 1 3 (by omega) (by omega); rw [hi] at this; exact this
  have y3 : w.frozen? ⟨b, 15, none⟩ = false := h.2 _
  have q4 : w.cell? ⟨b, 16, none⟩ = some (.int .u16 0) := by have := h.1 1 4 (by omega) (by omega); rw [hi] at this; exact this
  have y4 : w.frozen? ⟨b, 16, none⟩ = false := h.2 _
  have q5 : w.cell? ⟨b, 17, none⟩ = some (.int .u8 yk) := by have := h.1 1 5 (by omega) (by omega); rw [hi] at this; exact this
  have y5 : w.frozen? ⟨b, 17, none⟩ = false := h.2 _
  have q6 : w.cell? ⟨b, 18, none⟩ = some (.int .u8 0) := by have := h.1 1 6 (by omega) (by omega); rw [hi] at this; exact this
  have y6 : w.frozen? ⟨b, 18, none⟩ = false := h.2 _
  have q7 : w.cell? ⟨b, 19, none⟩ = some (.string ⟨#[]⟩) := by have := h.1 1 7 (by omega) (by omega); rw [hi] at this; exact this
  have y7 : w.frozen? ⟨b, 19, none⟩ = false := h.2 _
  have q8 : w.cell? ⟨b, 20, none⟩ = some (.int .u8 ys) := by have := h.1 1 8 (by omega) (by omega); rw [hi] at this; exact this
  have y8 : w.frozen? ⟨b, 20, none⟩ = false := h.2 _
  have q9 : w.cell? ⟨b, 21, none⟩ = some (.int .u32 (m : Int)) := by have := h.1 1 9 (by omega) (by omega); rw [hi] at this; exact this
  have y9 : w.frozen? ⟨b, 21, none⟩ = false := h.2 _
  have q10 : w.cell? ⟨b, 22, none⟩ = some (.bool yg) := by have := h.1 1 10 (by omega) (by omega); rw [hi] at this; exact this
  have y10 : w.frozen? ⟨b, 22, none⟩ = false := h.2 _
  obtain ⟨v0, c0⟩ := c0
  obtain ⟨v1, c1⟩ := c1
  clear h hi
  unfold Sd.cells
  subst hx
  go_enter Try.func29, Try.ntmps29
  go_wp2_with fail
  go_region
  go_wp2
  go_end0
  exact ⟨rfl, _, _, rfl⟩

theorem up29_1H (b r n m : Nat) (xk xs xi yk ys : Int) (xg yg : Bool) (f : Nat → Sd) (w : World) (_hb : b < w.heap.size) (_hr : r < w.heap.size) (_hn : n ≤ 4096) (_hm : m < n) (_hrb : r ≠ b) (h : Box w b f)
    (hi : f 1 = ⟨yk, ys, (m : Int), yg⟩) (c0 : ∃ v, w.cell? ⟨r, m * 2, none⟩ = some v) (c1 : ∃ v, w.cell? ⟨r, m * 2 + 1, none⟩ = some v) (_z0 : w.frozen? ⟨r, m * 2, none⟩ = false) (_z1 : w.frozen? ⟨r, m * 2 + 1, none⟩ = false)
    (_hk : (yk != 0) = true) (hx : xg = true) (hy : yg = true) (_hs : (ys == 0) = true) (_ht : (xs == 0) = true) :
    Calls Try.prog 29 #[.pointer (some ⟨b, 0, none⟩), .slice (some ⟨r, 0, none⟩) n n, .int .i64 1, .agg (Sd.mk xk xs xi xg).cells] w fun e w' => e = .returned (.tuple #[]) ∧ ∃ o1 o2, w' = (((puts b (1 + 1 * 11) ⟨xk, xs, xi, xg⟩ 11 (rz true r m w)).alloc o1).alloc o2).drew := by
  have q0 : w.cell? ⟨b, 12, none⟩ = some (.pointer none) := by have := h.1 1 0 (by omega) (by omega); rw [hi] at this; exact this
  have y0 : w.frozen? ⟨b, 12, none⟩ = false := h.2 _
  have q1 : w.cell? ⟨b, 13, none⟩ = some (.string ⟨#[]⟩) := by have := h.1 1 1 (by omega) (by omega); rw [hi] at this; exact this
  have y1 : w.frozen? ⟨b, 13, none⟩ = false := h.2 _
  have q2 : w.cell? ⟨b, 14, none⟩ = some (.int .i32 0) := by have := h.1 1 2 (by omega) (by omega); rw [hi] at this; exact this
  have y2 : w.frozen? ⟨b, 14, none⟩ = false := h.2 _
  have q3 : w.cell? ⟨b, 15, none⟩ = some (.int .u32 0) := by have := h.1 1 3 (by omega) (by omega); rw [hi] at this; exact this
  have y3 : w.frozen? ⟨b, 15, none⟩ = false := h.2 _
  have q4 : w.cell? ⟨b, 16, none⟩ = some (.int .u16 0) := by have := h.1 1 4 (by omega) (by omega); rw [hi] at this; exact this
  have y4 : w.frozen? ⟨b, 16, none⟩ = false := h.2 _
  have q5 : w.cell? ⟨b, 17, none⟩ = some (.int .u8 yk) := by have := h.1 1 5 (by omega) (by omega); rw [hi] at this; exact this
  have y5 : w.frozen? ⟨b, 17, none⟩ = false := h.2 _
  have q6 : w.cell? ⟨b, 18, none⟩ = some (.int .u8 0) := by have := h.1 1 6 (by omega) (by omega); rw [hi] at this; exact this
  have y6 : w.frozen? ⟨b, 18, none⟩ = false := h.2 _
  have q7 : w.cell? ⟨b, 19, none⟩ = some (.string ⟨#[]⟩) := by have := h.1 1 7 (by omega) (by omega); rw [hi] at this; exact this
  have y7 : w.frozen? ⟨b, 19, none⟩ = false := h.2 _
  have q8 : w.cell? ⟨b, 20, none⟩ = some (.int .u8 ys) := by have := h.1 1 8 (by omega) (by omega); rw [hi] at this; exact this
  have y8 : w.frozen? ⟨b, 20, none⟩ = false := h.2 _
  have q9 : w.cell? ⟨b, 21, none⟩ = some (.int .u32 (m : Int)) := by have := h.1 1 9 (by omega) (by omega); rw [hi] at this; exact this
  have y9 : w.frozen? ⟨b, 21, none⟩ = false := h.2 _
  have q10 : w.cell? ⟨b, 22, none⟩ = some (.bool yg) := by have := h.1 1 10 (by omega) (by omega); rw [hi] at this; exact this
  have y10 : w.frozen? ⟨b, 22, none⟩ = false := h.2 _
  obtain ⟨v0, c0⟩ := c0
  obtain ⟨v1, c1⟩ := c1
  clear h hi
  unfold Sd.cells
  subst hx hy
  go_enter Try.func29, Try.ntmps29
  go_wp2_with fail
  go_region
  go_wp2
  go_end0
  exact ⟨rfl, _, _, rfl⟩

theorem up29_1 (b r n m : Nat) (xk xs xi yk ys : Int) (xg yg : Bool) (f : Nat → Sd) (w : World) (hb : b < w.heap.size) (hr : r < w.heap.size) (hn : n ≤ 4096) (hm : m < n) (hrb : r ≠ b) (h : Box w b f)
    (hi : f 1 = ⟨yk, ys, (m : Int), yg⟩) (c0 : ∃ v, w.cell? ⟨r, m * 2, none⟩ = some v) (c1 : ∃ v, w.cell? ⟨r, m * 2 + 1, none⟩ = some v) (z0 : w.frozen? ⟨r, m * 2, none⟩ = false) (z1 : w.frozen? ⟨r, m * 2 + 1, none⟩ = false) :
    Calls Try.prog 29 #[.pointer (some ⟨b, 0, none⟩), .slice (some ⟨r, 0, none⟩) n n, .int .i64 1, .agg (Sd.mk xk xs xi xg).cells] w fun e w' => e = .returned (.tuple #[]) ∧ ∃ o1 o2, w' = (((puts b (1 + 1 * 11) ⟨xk, xs, xi, xg⟩ 11 (rz (dropB ⟨yk, ys, (m : Int), yg⟩ ⟨xk, xs, xi, xg⟩) r m w)).alloc o1).alloc o2).drew := by
  unfold dropB
  dsimp only
  cases hk : (yk != 0)
  · exact up29_1A b r n m xk xs xi yk ys xg yg f w hb hr hn hm hrb h hi c0 c1 z0 z1 hk
  cases hs : (ys == 0)
  · cases xg
    · simpa using up29_1C b r n m xk xs xi yk ys false yg f w hb hr hn hm hrb h hi c0 c1 z0 z1 hk rfl hs
    · cases yg
      · simpa using up29_1B b r n m xk xs xi yk ys true false f w hb hr hn hm hrb h hi c0 c1 z0 z1 hk rfl rfl
      · simpa using up29_1D b r n m xk xs xi yk ys true true f w hb hr hn hm hrb h hi c0 c1 z0 z1 hk rfl rfl hs
  cases ht : (xs == 0)
  · cases xg
    · simpa using up29_1E b r n m xk xs xi yk ys false yg f w hb hr hn hm hrb h hi c0 c1 z0 z1 hk rfl hs ht
    · cases yg
      · simpa using up29_1B b r n m xk xs xi yk ys true false f w hb hr hn hm hrb h hi c0 c1 z0 z1 hk rfl rfl
      · simpa using up29_1F b r n m xk xs xi yk ys true true f w hb hr hn hm hrb h hi c0 c1 z0 z1 hk rfl rfl hs ht
  cases xg
  · simpa using up29_1G b r n m xk xs xi yk ys false yg f w hb hr hn hm hrb h hi c0 c1 z0 z1 hk rfl hs ht
  · cases yg
    · simpa using up29_1B b r n m xk xs xi yk ys true false f w hb hr hn hm hrb h hi c0 c1 z0 z1 hk rfl rfl
    · simpa using up29_1H b r n m xk xs xi yk ys true true f w hb hr hn hm hrb h hi c0 c1 z0 z1 hk rfl rfl hs ht

theorem up29_2A (b r n m : Nat) (xk xs xi yk ys : Int) (xg yg : Bool) (f : Nat → Sd) (w : World) (_hb : b < w.heap.size) (_hr : r < w.heap.size) (_hn : n ≤ 4096) (_hm : m < n) (_hrb : r ≠ b) (h : Box w b f)
    (hi : f 2 = ⟨yk, ys, (m : Int), yg⟩) (c0 : ∃ v, w.cell? ⟨r, m * 2, none⟩ = some v) (c1 : ∃ v, w.cell? ⟨r, m * 2 + 1, none⟩ = some v) (_z0 : w.frozen? ⟨r, m * 2, none⟩ = false) (_z1 : w.frozen? ⟨r, m * 2 + 1, none⟩ = false)
    (_hk : (yk != 0) = false) :
    Calls Try.prog 29 #[.pointer (some ⟨b, 0, none⟩), .slice (some ⟨r, 0, none⟩) n n, .int .i64 2, .agg (Sd.mk xk xs xi xg).cells] w fun e w' => e = .returned (.tuple #[]) ∧ ∃ o1 o2, w' = (((puts b (1 + 2 * 11) ⟨xk, xs, xi, xg⟩ 11 (rz false r m w)).alloc o1).alloc o2).drew := by
  have q0 : w.cell? ⟨b, 23, none⟩ = some (.pointer none) := by have := h.1 2 0 (by omega) (by omega); rw [hi] at this; exact this
  have y0 : w.frozen? ⟨b, 23, none⟩ = false := h.2 _
  have q1 : w.cell? ⟨b, 24, none⟩ = some (.string ⟨#[]⟩) := by have := h.1 2 1 (by omega) (by omega); rw [hi] at this; exact this
  have y1 : w.frozen? ⟨b, 24, none⟩ = false := h.2 _
  have q2 : w.cell? ⟨b, 25, none⟩ = some (.int .i32 0) := by have := h.1 2 2 (by omega) (by omega); rw [hi] at this; exact this
  have y2 : w.frozen? ⟨b, 25, none⟩ = false := h.2 _
  have q3 : w.cell? ⟨b, 26, none⟩ = some (.int .u32 0) := by have := h.1 2 3 (by omega) (by omega); rw [hi] at this; exact this
  have y3 : w.frozen? ⟨b, 26, none⟩ = false := h.2 _
  have q4 : w.cell? ⟨b, 27, none⟩ = some (.int .u16 0) := by have := h.1 2 4 (by omega) (by omega); rw [hi] at this; exact this
  have y4 : w.frozen? ⟨b, 27, none⟩ = false := h.2 _
  have q5 : w.cell? ⟨b, 28, none⟩ = some (.int .u8 yk) := by have := h.1 2 5 (by omega) (by omega); rw [hi] at this; exact this
  have y5 : w.frozen? ⟨b, 28, none⟩ = false := h.2 _
  have q6 : w.cell? ⟨b, 29, none⟩ = some (.int .u8 0) := by have := h.1 2 6 (by omega) (by omega); rw [hi] at this; exact this
  have y6 : w.frozen? ⟨b, 29, none⟩ = false := h.2 _
  have q7 : w.cell? ⟨b, 30, none⟩ = some (.string ⟨#[]⟩) := by have := h.1 2 7 (by omega) (by omega); rw [hi] at this; exact this
  have y7 : w.frozen? ⟨b, 30, none⟩ = false := h.2 _
  have q8 : w.cell? ⟨b, 31, none⟩ = some (.int .u8 ys) := by have := h.1 2 8 (by omega) (by omega); rw [hi] at this; exact this
  have y8 : w.frozen? ⟨b, 31, none⟩ = false := h.2 _
  have q9 : w.cell? ⟨b, 32, none⟩ = some (.int .u32 (m : Int)) := by have := h.1 2 9 (by omega) (by omega); rw [hi] at this; exact this
  have y9 : w.frozen? ⟨b, 32, none⟩ = false := h.2 _
  have q10 : w.cell? ⟨b, 33, none⟩ = some (.bool yg) := by have := h.1 2 10 (by omega) (by omega); rw [hi] at this; exact this
  have y10 : w.frozen? ⟨b, 33, none⟩ = false := h.2 _
  obtain ⟨v0, c0⟩ := c0
  obtain ⟨v1, c1⟩ := c1
  clear h hi
  unfold Sd.cells
  go_enter Try.func29, Try.ntmps29
  go_wp2_with fail
  go_region
  go_wp2
  go_end0
  exact ⟨rfl, _, _, rfl⟩

theorem up29_2B (b r n m : Nat) (xk xs xi yk ys : Int) (xg yg : Bool) (f : Nat → Sd) (w : World) (_hb : b < w.heap.size) (_hr : r < w.heap.size) (_hn : n ≤ 4096) (_hm : m < n) (_hrb : r ≠ b) (h : Box w b f)
    (hi : f 2 = ⟨yk, ys, (m : Int), yg⟩) (c0 : ∃ v, w.cell? ⟨r, m * 2, none⟩ = some v) (c1 : ∃ v, w.cell? ⟨r, m * 2 + 1, none⟩ = some v) (_z0 : w.frozen? ⟨r, m * 2, none⟩ = false) (_z1 : w.frozen? ⟨r, m * 2 + 1, none⟩ = false)
    (_hk : (yk != 0) = true) (hx : xg = true) (hy : yg = false) :
    Calls Try.prog 29 #[.pointer (some ⟨b, 0, none⟩), .slice (some ⟨r, 0, none⟩) n n, .int .i64 2, .agg (Sd.mk xk xs xi xg).cells] w fun e w' => e = .returned (.tuple #[]) ∧ ∃ o1 o2, w' = (((puts b (1 + 2 * 11) ⟨xk, xs, xi, xg⟩ 11 (rz false r m w)).alloc o1).alloc o2).drew := by
  have q0 : w.cell? ⟨b, 23, none⟩ = some (.pointer none) := by have := h.1 2 0 (by omega) (by omega); rw [hi] at this; exact this
  have y0 : w.frozen? ⟨b, 23, none⟩ = false := h.2 _
  have q1 : w.cell? ⟨b, 24, none⟩ = some (.string ⟨#[]⟩) := by have := h.1 2 1 (by omega) (by omega); rw [hi] at this; exact this
  have y1 : w.frozen? ⟨b, 24, none⟩ = false := h.2 _
  have q2 : w.cell? ⟨b, 25, none⟩ = some (.int .i32 0) := by have := h.1 2 2 (by omega) (by omega); rw [hi] at this; exact this
  have y2 : w.frozen? ⟨b, 25, none⟩ = false := h.2 _
  have q3 : w.cell? ⟨b, 26, none⟩ = some (.int .u32 0) := by have := h.1 2 3 (by omega) (by omega); rw [hi] at this; exact this
  have y3 : w.frozen? ⟨b, 26, none⟩ = false := h.2 _
  have q4 : w.cell? ⟨b, 27, none⟩ = some (.int .u16 0) := by have := h.1 2 4 (by omega) (by omega); rw [hi] at this; exact this
  have y4 : w.frozen? ⟨b, 27, none⟩ = false := h.2 _
  have q5 : w.cell? ⟨b, 28, none⟩ = some (.int .u8 yk) := by have := h.1 2 5 (by omega) (by omega); rw [hi] at this; exact this
  have y5 : w.frozen? ⟨b, 28, none⟩ = false := h.2 _
  have q6 : w.cell? ⟨b, 29, none⟩ = some (.int .u8 0) := by have := h.1 2 6 (by omega) (by omega); rw [hi] at this; exact this
  have y6 : w.frozen? ⟨b, 29, none⟩ = false := h.2 _
  have q7 : w.cell? ⟨b, 30, none⟩ = some (.string ⟨#[]⟩) := by have := h.1 2 7 (by omega) (by omega); rw [hi] at this; exact this
  have y7 : w.frozen? ⟨b, 30, none⟩ = false := h.2 _
  have q8 : w.cell? ⟨b, 31, none⟩ = some (.int .u8 ys) := by have := h.1 2 8 (by omega) (by omega); rw [hi] at this; exact this
  have y8 : w.frozen? ⟨b, 31, none⟩ = false := h.2 _
  have q9 : w.cell? ⟨b, 32, none⟩ = some (.int .u32 (m : Int)) := by have := h.1 2 9 (by omega) (by omega); rw [hi] at this; exact this
  have y9 : w.frozen? ⟨b, 32, none⟩ = false := h.2 _
  have q10 : w.cell? ⟨b, 33, none⟩ = some (.bool yg) := by have := h.1 2 10 (by omega) (by omega); rw [hi] at this; exact this
  have y10 : w.frozen? ⟨b, 33, none⟩ = false := h.2 _
  obtain ⟨v0, c0⟩ := c0
  obtain ⟨v1, c1⟩ := c1
  clear h hi
  unfold Sd.cells
  subst hx hy
  go_enter Try.func29, Try.ntmps29
  go_wp2_with fail
  go_region
  go_wp2
  go_end0
  exact ⟨rfl, _, _, rfl⟩

theorem up29_2C (b r n m : Nat) (xk xs xi yk ys : Int) (xg yg : Bool) (f : Nat → Sd) (w : World) (_hb : b < w.heap.size) (_hr : r < w.heap.size) (_hn : n ≤ 4096) (_hm : m < n) (_hrb : r ≠ b) (h : Box w b f)
    (hi : f 2 = ⟨yk, ys, (m : Int), yg⟩) (c0 : ∃ v, w.cell? ⟨r, m * 2, none⟩ = some v) (c1 : ∃ v, w.cell? ⟨r, m * 2 + 1, none⟩ = some v) (_z0 : w.frozen? ⟨r, m * 2, none⟩ = false) (_z1 : w.frozen? ⟨r, m * 2 + 1, none⟩ = false)
    (_hk : (yk != 0) = true) (hx : xg = false) (_hs : (ys == 0) = false) :
    Calls Try.prog 29 #[.pointer (some ⟨b, 0, none⟩), .slice (some ⟨r, 0, none⟩) n n, .int .i64 2, .agg (Sd.mk xk xs xi xg).cells] w fun e w' => e = .returned (.tuple #[]) ∧ ∃ o1 o2, w' = (((puts b (1 + 2 * 11) ⟨xk, xs, xi, xg⟩ 11 (rz false r m w)).alloc o1).alloc o2).drew := by
  have q0 : w.cell? ⟨b, 23, none⟩ = some (.pointer none) := by have := h.1 2 0 (by omega) (by omega); rw [hi] at this; exact this
  have y0 : w.frozen? ⟨b, 23, none⟩ = false := h.2 _
  have q1 : w.cell? ⟨b, 24, none⟩ = some (.string ⟨#[]⟩) := by have := h.1 2 1 (by omega) (by omega); rw [hi] at this; exact this
  have y1 : w.frozen? ⟨b, 24, none⟩ = false := h.2 _
  have q2 : w.cell? ⟨b, 25, none⟩ = some (.int .i32 0) := by have := h.1 2 2 (by omega) (by omega); rw [hi] at this; exact this
  have y2 : w.frozen? ⟨b, 25, none⟩ = false := h.2 _
  have q3 : w.cell? ⟨b, 26, none⟩ = some (.int .u32 0) := by have := h.1 2 3 (by omega) (by omega); rw [hi] at this; exact this
  have y3 : w.frozen? ⟨b, 26, none⟩ = false := h.2 _
  have q4 : w.cell? ⟨b, 27, none⟩ = some (.int .u16 0) := by have := h.1 2 4 (by omega) (by omega); rw [hi] at this; exact this
  have y4 : w.frozen? ⟨b, 27, none⟩ = false := h.2 _
  have q5 : w.cell? ⟨b, 28, none⟩ = some (.int .u8 yk) := by have := h.1 2 5 (by omega) (by omega); rw [hi] at this; exact this
  have y5 : w.frozen? ⟨b, 28, none⟩ = false := h.2 _
  have q6 : w.cell? ⟨b, 29, none⟩ = some (.int .u8 0) := by have := h.1 2 6 (by omega) (by omega); rw [hi] at this; exact this
  have y6 : w.frozen? ⟨b, 29, none⟩ = false := h.2 _
  have q7 : w.cell? ⟨b, 30, none⟩ = some (.string ⟨#[]⟩) := by have := h.1 2 7 (by omega) (by omega); rw [hi] at this; exact this
  have y7 : w.frozen? ⟨b, 30, none⟩ = false := h.2 _
  have q8 : w.cell? ⟨b, 31, none⟩ = some (.int .u8 ys) := by have := h.1 2 8 (by omega) (by omega); rw [hi] at this; exact this
  have y8 : w.frozen? ⟨b, 31, none⟩ = false := h.2 _
  have q9 : w.cell? ⟨b, 32, none⟩ = some (.int .u32 (m : Int)) := by have := h.1 2 9 (by omega) (by omega); rw [hi] at this; exact this
  have y9 : w.frozen? ⟨b, 32, none⟩ = false := h.2 _
  have q10 : w.cell? ⟨b, 33, none⟩ = some (.bool yg) := by have := h.1 2 10 (by omega) (by omega); rw [hi] at this; exact this
  have y10 : w.frozen? ⟨b, 33, none⟩ = false := h.2 _
  obtain ⟨v0, c0⟩ := c0
  obtain ⟨v1, c1⟩ := c1
  clear h hi
  unfold Sd.cells
  subst hx
  go_enter Try.func29, Try.ntmps29
  go_wp2_with fail
  go_region
  go_wp2
  go_end0
  exact ⟨rfl, _, _, rfl⟩

theorem up29_2D (b r n m : Nat) (xk xs xi yk ys : Int) (xg yg : Bool) (f : Nat → Sd) (w : World) (_hb : b < w.heap.size) (_hr : r < w.heap.size) (_hn : n ≤ 4096) (_hm : m < n) (_hrb : r ≠ b) (h : Box w b f)
    (hi : f 2 = ⟨yk, ys, (m : Int), yg⟩) (c0 : ∃ v, w.cell? ⟨r, m * 2, none⟩ = some v) (c1 : ∃ v, w.cell? ⟨r, m * 2 + 1, none⟩ = some v) (_z0 : w.frozen? ⟨r, m * 2, none⟩ = false) (_z1 : w.frozen? ⟨r, m * 2 + 1, none⟩ = false)
    (_hk : (yk != 0) = true) (hx : xg = true) (hy : yg = true) (_hs : (ys == 0) = false) :
    Calls Try.prog 29 #[.pointer (some ⟨b, 0, none⟩), .slice (some ⟨r, 0, none⟩) n n, .int .i64 2, .agg (Sd.mk xk xs xi xg).cells] w fun e w' => e = .returned (.tuple #[]) ∧ ∃ o1 o2, w' = (((puts b (1 + 2 * 11) ⟨xk, xs, xi, xg⟩ 11 (rz false r m w)).alloc o1).alloc o2).drew := by
  have q0 : w.cell? ⟨b, 23, none⟩ = some (.pointer none) := by have := h.1 2 0 (by omega) (by omega); rw [hi] at this; exact this
  have y0 : w.frozen? ⟨b, 23, none⟩ = false := h.2 _
  have q1 : w.cell? ⟨b, 24, none⟩ = some (.string ⟨#[]⟩) := by have := h.1 2 1 (by omega) (by omega); rw [hi] at this; exact this
  have y1 : w.frozen? ⟨b, 24, none⟩ = false := h.2 _
  have q2 : w.cell? ⟨b, 25, none⟩ = some (.int .i32 0) := by have := h.1 2 2 (by omega) (by omega); rw [hi] at this; exact this
  have y2 : w.frozen? ⟨b, 25, none⟩ = false := h.2 _
  have q3 : w.cell? ⟨b, 26, none⟩ = some (.int .u32 0) := by have := h.1 2 3 (by omega) (by omega); rw [hi] at this; exact this
  have y3 : w.frozen? ⟨b, 26, none⟩ = false := h.2 _
  have q4 : w.cell? ⟨b, 27, none⟩ = some (.int .u16 0) := by have := h.1 2 4 (by omega) (by omega); rw [hi] at this; exact this
  have y4 : w.frozen? ⟨b, 27, none⟩ = false := h.2 _
  have q5 : w.cell? ⟨b, 28, none⟩ = some (.int .u8 yk) := by have := h.1 2 5 (by omega) (by omega); rw [hi] at this; exact this
  have y5 : w.frozen? ⟨b, 28, none⟩ = false := h.2 _
  have q6 : w.cell? ⟨b, 29, none⟩ = some (.int .u8 0) := by have := h.1 2 6 (by omega) (by omega); rw [hi] at this; exact this
  have y6 : w.frozen? ⟨b, 29, none⟩ = false := h.2 _
  have q7 : w.cell? ⟨b, 30, none⟩ = some (.string ⟨#[]⟩) := by have := h.1 2 7 (by omega) (by omega); rw [hi] at this; exact this
  have y7 : w.frozen? ⟨b, 30, none⟩ = false := h.2 _
  have q8 : w.cell? ⟨b, 31, none⟩ = some (.int .u8 ys) := by have := h.1 2 8 (by omega) (by omega); rw [hi] at this; exact this
  have y8 : w.frozen? ⟨b, 31, none⟩ = false := h.2 _
  have q9 : w.cell? ⟨b, 32, none⟩ = some (.int .u32 (m : Int)) := by have := h.1 2 9 (by omega) (by omega); rw [hi] at this; exact this
  have y9 : w.frozen? ⟨b, 32, none⟩ = false := h.2 _
  have q10 : w.cell? ⟨b, 33, none⟩ = some (.bool yg) := by have := h.1 2 10 (by omega) (by omega); rw [hi] at this; exact this
  have y10 : w.frozen? ⟨b, 33, none⟩ = false := h.2 _
  obtain ⟨v0, c0⟩ := c0
  obtain ⟨v1, c1⟩ := c1
  clear h hi
  unfold Sd.cells
  subst hx hy
  go_enter Try.func29, Try.ntmps29
  go_wp2_with fail
  go_region
  go_wp2
  go_end0
  exact ⟨rfl, _, _, rfl⟩

theorem up29_2E (b r n m : Nat) (xk xs xi yk ys : Int) (xg yg : Bool) (f : Nat → Sd) (w : World) (_hb : b < w.heap.size) (_hr : r < w.heap.size) (_hn : n ≤ 4096) (_hm : m < n) (_hrb : r ≠ b) (h : Box w b f)
    (hi : f 2 = ⟨yk, ys, (m : Int), yg⟩) (c0 : ∃ v, w.cell? ⟨r, m * 2, none⟩ = some v) (c1 : ∃ v, w.cell? ⟨r, m * 2 + 1, none⟩ = some v) (_z0 : w.frozen? ⟨r, m * 2, none⟩ = false) (_z1 : w.frozen? ⟨r, m * 2 + 1, none⟩ = false)
    (_hk : (yk != 0) = true) (hx : xg = false) (_hs : (ys == 0) = true) (_ht : (xs == 0) = false) :
    Calls Try.prog 29 #[.pointer (some ⟨b, 0, none⟩), .slice (some ⟨r, 0, none⟩) n n, .int .i64 2, .agg (Sd.mk xk xs xi xg).cells] w fun e w' => e = .returned (.tuple #[]) ∧ ∃ o1 o2, w' = (((puts b (1 + 2 * 11) ⟨xk, xs, xi, xg⟩ 11 (rz false r m w)).alloc o1).alloc o2).drew := by
  have q0 : w.cell? ⟨b, 23, none⟩ = some (.pointer none) := by have := h.1 2 0 (by omega) (by omega); rw [hi] at this; exact this
  have y0 : w.frozen? ⟨b, 23, none⟩ = false := h.2 _
  have q1 : w.cell? ⟨b, 24, none⟩ = some (.string ⟨#[]⟩) := by have := h.1 2 1 (by omega) (by omega); rw [hi] at this; exact this
  have y1 : w.frozen? ⟨b, 24, none⟩ = false := h.2 _
  have q2 : w.cell? ⟨b, 25, none⟩ = some (.int .i32 0) := by have := h.1 2 2 (by omega) (by omega); rw [hi] at this; exact this
  have y2 : w.frozen? ⟨b, 25, none⟩ = false := h.2 _
  have q3 : w.cell? ⟨b, 26, none⟩ = some (.int .u32 0) := by have := h.1 2 3 (by omega) (by omega); rw [hi] at this; exact this
  have y3 : w.frozen? ⟨b, 26, none⟩ = false := h.2 _
  have q4 : w.cell? ⟨b, 27, none⟩ = some (.int .u16 0) := by have := h.1 2 4 (by omega) (by omega); rw [hi] at this; exact this
  have y4 : w.frozen? ⟨b, 27, none⟩ = false := h.2 _
  have q5 : w.cell? ⟨b, 28, none⟩ = some (.int .u8 yk) := by have := h.1 2 5 (by omega) (by omega); rw [hi] at this; exact this
  have y5 : w.frozen? ⟨b, 28, none⟩ = false := h.2 _
  have q6 : w.cell? ⟨b, 29, none⟩ = some (.int .u8 0) := by have := h.1 2 6 (by omega) (by omega); rw [hi] at this; exact this
  have y6 : w.frozen? ⟨b, 29, none⟩ = false := h.2 _
  have q7 : w.cell? ⟨b, 30, none⟩ = some (.string ⟨#[]⟩) := by have := h.1 2 7 (by omega) (by omega); rw [hi] at this; exact this
  have y7 : w.frozen? ⟨b, 30, none⟩ = false := h.2 _
  have q8 : w.cell? ⟨b, 31, none⟩ = some (.int .u8 ys) := by have := h.1 2 8 (by omega) (by omega); rw [hi] at this; exact this
  have y8 : w.frozen? ⟨b, 31, none⟩ = false := h.2 _
  have q9 : w.cell? ⟨b, 32, none⟩ = some (.int .u32 (m : Int)) := by have := h.1 2 9 (by omega) (by omega); rw [hi] at this; exact this
  have y9 : w.frozen? ⟨b, 32, none⟩ = false := h.2 _
  have q10 : w.cell? ⟨b, 33, none⟩ = some (.bool yg) := by have := h.1 2 10 (by omega) (by omega); rw [hi] at this; exact this
  have y10 : w.frozen? ⟨b, 33, none⟩ = false := h.2 _
  obtain ⟨v0, c0⟩ := c0
  obtain ⟨v1, c1⟩ := c1
  clear h hi
  unfold Sd.cells
  subst hx
  go_enter Try.func29, Try.ntmps29
  go_wp2_with fail
  go_region
  go_wp2
  go_end0
  exact ⟨rfl, _, _, rfl⟩

theorem up29_2F (b r n m : Nat) (xk xs xi yk ys : Int) (xg yg : Bool) (f : Nat → Sd) (w : World) (_hb : b < w.heap.size) (_hr : r < w.heap.size) (_hn : n ≤ 4096) (_hm : m < n) (_hrb : r ≠ b) (h : Box w b f)
    (hi : f 2 = ⟨yk, ys, (m : Int), yg⟩) (c0 : ∃ v, w.cell? ⟨r, m * 2, none⟩ = some v) (c1 : ∃ v, w.cell? ⟨r, m * 2 + 1, none⟩ = some v) (_z0 : w.frozen? ⟨r, m * 2, none⟩ = false) (_z1 : w.frozen? ⟨r, m * 2 + 1, none⟩ = false)
    (_hk : (yk != 0) = true) (hx : xg = true) (hy : yg = true) (_hs : (ys == 0) = true) (_ht : (xs == 0) = false) :
    Calls Try.prog 29 #[.pointer (some ⟨b, 0, none⟩), .slice (some ⟨r, 0, none⟩) n n, .int .i64 2, .agg (Sd.mk xk xs xi xg).cells] w fun e w' => e = .returned (.tuple #[]) ∧ ∃ o1 o2, w' = (((puts b (1 + 2 * 11) ⟨xk, xs, xi, xg⟩ 11 (rz false r m w)).alloc o1).alloc o2).drew := by
  have q0 : w.cell? ⟨b, 23, none⟩ = some (.pointer none) := by have := h.1 2 0 (by omega) (by omega); rw [hi] at this; exact this
  have y0 : w.frozen? ⟨b, 23, none⟩ = false := h.2 _
  have q1 : w.cell? ⟨b, 24, none⟩ = some (.string ⟨#[]⟩) := by have := h.1 2 1 (by omega) (by omega); rw [hi] at this; exact this
  have y1 : w.frozen? ⟨b, 24, none⟩ = false := h.2 _
  have q2 : w.cell? ⟨b, 25, none⟩ = some (.int .i32 0) := by have := h.1 2 2 (by omega) (by omega); rw [hi] at this; exact this
  have y2 : w.frozen? ⟨b, 25, none⟩ = false := h.2 _
  have q3 : w.cell? ⟨b, 26, none⟩ = some (.int .u32 0) := by have := h.1 2 3 (by omega) (by omega); rw [hi] at this; exact this
  have y3 : w.frozen? ⟨b, 26, none⟩ = false := h.2 _
  have q4 : w.cell? ⟨b, 27, none⟩ = some (.int .u16 0) := by have := h.1 2 4 (by omega) (by omega); rw [hi] at this; exact this
  have y4 : w.frozen? ⟨b, 27, none⟩ = false := h.2 _
  have q5 : w.cell? ⟨b, 28, none⟩ = some (.int .u8 yk) := by have := h.1 2 5 (by omega) (by omega); rw [hi] at this; exact this
  have y5 : w.frozen? ⟨b, 28, none⟩ = false := h.2 _
  have q6 : w.cell? ⟨b, 29, none⟩ = some (.int .u8 0) := by have := h.1 2 6 (by omega) (by omega); rw [hi] at this; exact this
  have y6 : w.frozen? ⟨b, 29, none⟩ = false := h.2 _
  have q7 : w.cell? ⟨b, 30, none⟩ = some (.string ⟨#[]⟩) := by have := h.1 2 7 (by omega) (by omega); rw [hi] at this; exact this
  have y7 : w.frozen? ⟨b, 30, none⟩ = false := h.2 _
  have q8 : w.cell? ⟨b, 31, none⟩ = some (.int .u8 ys) := by have := h.1 2 8 (by omega) (by omega); rw [hi] at this; exact this
  have y8 : w.frozen? ⟨b, 31, none⟩ = false := h.2 _
  have q9 : w.cell? ⟨b, 32, none⟩ = some (.int .u32 (m : Int)) := by have := h.1 2 9 (by omega) (by omega); rw [hi] at this; exact this
  have y9 : w.frozen? ⟨b, 32, none⟩ = false := h.2 _
  have q10 : w.cell? ⟨b, 33, none⟩ = some (.bool yg) := by have := h.1 2 10 (by omega) (by omega); rw [hi] at this; exact this
  have y10 : w.frozen? ⟨b, 33, none⟩ = false := h.2 _
  obtain ⟨v0, c0⟩ := c0
  obtain ⟨v1, c1⟩ := c1
  clear h hi
  unfold Sd.cells
  subst hx hy
  go_enter Try.func29, Try.ntmps29
  go_wp2_with fail
  go_region
  go_wp2
  go_end0
  exact ⟨rfl, _, _, rfl⟩

theorem up29_2G (b r n m : Nat) (xk xs xi yk ys : Int) (xg yg : Bool) (f : Nat → Sd) (w : World) (_hb : b < w.heap.size) (_hr : r < w.heap.size) (_hn : n ≤ 4096) (_hm : m < n) (_hrb : r ≠ b) (h : Box w b f)
    (hi : f 2 = ⟨yk, ys, (m : Int), yg⟩) (c0 : ∃ v, w.cell? ⟨r, m * 2, none⟩ = some v) (c1 : ∃ v, w.cell? ⟨r, m * 2 + 1, none⟩ = some v) (_z0 : w.frozen? ⟨r, m * 2, none⟩ = false) (_z1 : w.frozen? ⟨r, m * 2 + 1, none⟩ = false)
    (_hk : (yk != 0) = true) (hx : xg = false) (_hs : (ys == 0) = true) (_ht : (xs == 0) = true) :
    Calls Try.prog 29 #[.pointer (some ⟨b, 0, none⟩), .slice (some ⟨r, 0, none⟩) n n, .int .i64 2, .agg (Sd.mk xk xs xi xg).cells] w fun e w' => e = .returned (.tuple #[]) ∧ ∃ o1 o2, w' = (((puts b (1 + 2 * 11) ⟨xk, xs, xi, xg⟩ 11 (rz true r m w)).alloc o1).alloc o2).drew := by
  have q0 : w.cell? ⟨b, 23, none⟩ = some (.pointer none) := by have := h.1 2 0 (by omega) (by omega); rw [hi] at this; exact this
  have y0 : w.frozen? ⟨b, 23, none⟩ = false := h.2 _
  have q1 : w.cell? ⟨b, 24, none⟩ = some (.string ⟨#[]⟩) := by have := h.1 2 1 (by omega) (by omega); rw [hi] at this; exact this
  have y1 : w.frozen? ⟨b, 24, none⟩ = false := h.2 _
  have q2 : w.cell? ⟨b, 25, none⟩ = some (.int .i32 0) := by have := h.1 2 2 (by omega) (by omega); rw [hi] at this; exact this
  have y2 : w.frozen? ⟨b, 25, none⟩ = false := h.2 _
  have q3 : w.cell? ⟨b, 26, none⟩ = some (.int .u32 0) := by have := h.1 2 3 (by omega) (by omega); rw [hi] at this; exact this
  have y3 : w.frozen? ⟨b, 26, none⟩ = false := h.2 _
  have q4 : w.cell? ⟨b, 27, none⟩ = some (.int .u16 0) := by have := h.1 2 4 (by omega) (by omega); rw [hi] at this; exact this
  have y4 : w.frozen? ⟨b, 27, none⟩ = false := h.2 _
  have q5 : w.cell? ⟨b, 28, none⟩ = some (.int .u8 yk) := by have := h.1 2 5 (by omega) (by omega); rw [hi] at this; exact this
  have y5 : w.frozen? ⟨b, 28, none⟩ = false := h.2 _
  have q6 : w.cell? ⟨b, 29, none⟩ = some (.int .u8 0) := by have := h.1 2 6 (by omega) (by omega); rw [hi] at this; exact this
  have y6 : w.frozen? ⟨b, 29, none⟩ = false := h.2 _
  have q7 : w.cell? ⟨b, 30, none⟩ = some (.string ⟨#[]⟩) := by have := h.1 2 7 (by omega) (by omega); rw [hi] at this; exact this
  have y7 : w.frozen? ⟨b, 30, none⟩ = false := h.2 _
  have q8 : w.cell? ⟨b, 31, none⟩ = some (.int .u8 ys) := by have := h.1 2 8 (by omega) (by omega); rw [hi] at this; exact this
  have y8 : w.frozen? ⟨b, 31, none⟩ = false := h.2 _
  have q9 : w.cell? ⟨b, 32, none⟩ = some (.int .u32 (m : Int)) := by have := h.1 2 9 (by omega) (by omega); rw [hi] at this; exact this
  have y9 : w.frozen? ⟨b, 32, none⟩ = false := h.2 _
  have q10 : w.cell? ⟨b, 33, none⟩ = some (.bool yg) := by have := h.1 2 10 (by omega) (by omega); rw [hi] at this; exact this
  have y10 : w.frozen? ⟨b, 33, none⟩ = false := h.2 _
  obtain ⟨v0, c0⟩ := c0
  obtain ⟨v1, c1⟩ := c1
  clear h hi
  unfold Sd.cells
  subst hx
  go_enter Try.func29, Try.ntmps29
  go_wp2_with fail
  go_region
  go_wp2
  go_end0
  exact ⟨rfl, _, _, rfl⟩

theorem up29_2H (b r n m : Nat) (xk xs xi yk ys : Int) (xg yg : Bool) (f : Nat → Sd) (w : World) (_hb : b < w.heap.size) (_hr : r < w.heap.size) (_hn : n ≤ 4096) (_hm : m < n) (_hrb : r ≠ b) (h : Box w b f)
    (hi : f 2 = ⟨yk, ys, (m : Int), yg⟩) (c0 : ∃ v, w.cell? ⟨r, m * 2, none⟩ = some v) (c1 : ∃ v, w.cell? ⟨r, m * 2 + 1, none⟩ = some v) (_z0 : w.frozen? ⟨r, m * 2, none⟩ = false) (_z1 : w.frozen? ⟨r, m * 2 + 1, none⟩ = false)
    (_hk : (yk != 0) = true) (hx : xg = true) (hy : yg = true) (_hs : (ys == 0) = true) (_ht : (xs == 0) = true) :
    Calls Try.prog 29 #[.pointer (some ⟨b, 0, none⟩), .slice (some ⟨r, 0, none⟩) n n, .int .i64 2, .agg (Sd.mk xk xs xi xg).cells] w fun e w' => e = .returned (.tuple #[]) ∧ ∃ o1 o2, w' = (((puts b (1 + 2 * 11) ⟨xk, xs, xi, xg⟩ 11 (rz true r m w)).alloc o1).alloc o2).drew := by
  have q0 : w.cell? ⟨b, 23, none⟩ = some (.pointer none) := by have := h.1 2 0 (by omega) (by omega); rw [hi] at this; exact this
  have y0 : w.frozen? ⟨b, 23, none⟩ = false := h.2 _
  have q1 : w.cell? ⟨b, 24, none⟩ = some (.string ⟨#[]⟩) := by have := h.1 2 1 (by omega) (by omega); rw [hi] at this; exact this
  have y1 : w.frozen? ⟨b, 24, none⟩ = false := h.2 _
  have q2 : w.cell? ⟨b, 25, none⟩ = some (.int .i32 0) := by have := h.1 2 2 (by omega) (by omega); rw [hi] at this; exact this
  have y2 : w.frozen? ⟨b, 25, none⟩ = false := h.2 _
  have q3 : w.cell? ⟨b, 26, none⟩ = some (.int .u32 0) := by have := h.1 2 3 (by omega) (by omega); rw [hi] at this; exact this
  have y3 : w.frozen? ⟨b, 26, none⟩ = false := h.2 _
  have q4 : w.cell? ⟨b, 27, none⟩ = some (.int .u16 0) := by have := h.1 2 4 (by omega) (by omega); rw [hi] at this; exact this
  have y4 : w.frozen? ⟨b, 27, none⟩ = false := h.2 _
  have q5 : w.cell? ⟨b, 28, none⟩ = some (.int .u8 yk) := by have := h.1 2 5 (by omega) (by omega); rw [hi] at this; exact this
  have y5 : w.frozen? ⟨b, 28, none⟩ = false := h.2 _
  have q6 : w.cell? ⟨b, 29, none⟩ = some (.int .u8 0) := by have := h.1 2 6 (by omega) (by omega); rw [hi] at this; exact this
  have y6 : w.frozen? ⟨b, 29, none⟩ = false := h.2 _
  have q7 : w.cell? ⟨b, 30, none⟩ = some (.string ⟨#[]⟩) := by have := h.1 2 7 (by omega) (by omega); rw [hi] at this; exact this
  have y7 : w.frozen? ⟨b, 30, none⟩ = false := h.2 _
  have q8 : w.cell? ⟨b, 31, none⟩ = some (.int .u8 ys) := by have := h.1 2 8 (by omega) (by omega); rw [hi] at this; exact this
  have y8 : w.frozen? ⟨b, 31, none⟩ = false := h.2 _
  have q9 : w.cell? ⟨b, 32, none⟩ = some (.int .u32 (m : Int)) := by have := h.1 2 9 (by omega) (by omega); rw [hi] at this; exact this
  have y9 : w.frozen? ⟨b, 32, none⟩ = false := h.2 _
  have q10 : w.cell? ⟨b, 33, none⟩ = some (.bool yg) := by have := h.1 2 10 (by omega) (by omega); rw [hi] at this; exact this
  have y10 : w.frozen? ⟨b, 33, none⟩ = false := h.2 _
  obtain ⟨v0, c0⟩ := c0
  obtain ⟨v1, c1⟩ := c1
  clear h hi
  unfold Sd.cells
  subst hx hy
  go_enter Try.func29, Try.ntmps29
  go_wp2_with fail
  go_region
  go_wp2
  go_end0
  exact ⟨rfl, _, _, rfl⟩

theorem up29_2 (b r n m : Nat) (xk xs xi yk ys : Int) (xg yg : Bool) (f : Nat → Sd) (w : World) (hb : b < w.heap.size) (hr : r < w.heap.size) (hn : n ≤ 4096) (hm : m < n) (hrb : r ≠ b) (h : Box w b f)
    (hi : f 2 = ⟨yk, ys, (m : Int), yg⟩) (c0 : ∃ v, w.cell? ⟨r, m * 2, none⟩ = some v) (c1 : ∃ v, w.cell? ⟨r, m * 2 + 1, none⟩ = some v) (z0 : w.frozen? ⟨r, m * 2, none⟩ = false) (z1 : w.frozen? ⟨r, m * 2 + 1, none⟩ = false) :
    Calls Try.prog 29 #[.pointer (some ⟨b, 0, none⟩), .slice (some ⟨r, 0, none⟩) n n, .int .i64 2, .agg (Sd.mk xk xs xi xg).cells] w fun e w' => e = .returned (.tuple #[]) ∧ ∃ o1 o2, w' = (((puts b (1 + 2 * 11) ⟨xk, xs, xi, xg⟩ 11 (rz (dropB ⟨yk, ys, (m : Int), yg⟩ ⟨xk, xs, xi, xg⟩) r m w)).alloc o1).alloc o2).drew := by
  unfold dropB
  dsimp only
  cases hk : (yk != 0)
  · exact up29_2A b r n m xk xs xi yk ys xg yg f w hb hr hn hm hrb h hi c0 c1 z0 z1 hk
  cases hs : (ys == 0)
  · cases xg
    · simpa using up29_2C b r n m xk xs xi yk ys false yg f w hb hr hn hm hrb h hi c0 c1 z0 z1 hk rfl hs
    · cases yg
      · simpa using up29_2B b r n m xk xs xi yk ys true false f w hb hr hn hm hrb h hi c0 c1 z0 z1 hk rfl rfl
      · simpa using up29_2D b r n m xk xs xi yk ys true true f w hb hr hn hm hrb h hi c0 c1 z0 z1 hk rfl rfl hs
  cases ht : (xs == 0)
  · cases xg
    · simpa using up29_2E b r n m xk xs xi yk ys false yg f w hb hr hn hm hrb h hi c0 c1 z0 z1 hk rfl hs ht
    · cases yg
      · simpa using up29_2B b r n m xk xs xi yk ys true false f w hb hr hn hm hrb h hi c0 c1 z0 z1 hk rfl rfl
      · simpa using up29_2F b r n m xk xs xi yk ys true true f w hb hr hn hm hrb h hi c0 c1 z0 z1 hk rfl rfl hs ht
  cases xg
  · simpa using up29_2G b r n m xk xs xi yk ys false yg f w hb hr hn hm hrb h hi c0 c1 z0 z1 hk rfl hs ht
  · cases yg
    · simpa using up29_2B b r n m xk xs xi yk ys true false f w hb hr hn hm hrb h hi c0 c1 z0 z1 hk rfl rfl
    · simpa using up29_2H b r n m xk xs xi yk ys true true f w hb hr hn hm hrb h hi c0 c1 z0 z1 hk rfl rfl hs ht

theorem up29_3A (b r n m : Nat) (xk xs xi yk ys : Int) (xg yg : Bool) (f : Nat → Sd) (w : World) (_hb : b < w.heap.size) (_hr : r < w.heap.size) (_hn : n ≤ 4096) (_hm : m < n) (_hrb : r ≠ b) (h : Box w b f)
    (hi : f 3 = ⟨yk, ys, (m : Int), yg⟩) (c0 : ∃ v, w.cell? ⟨r, m * 2, none⟩ = some v) (c1 : ∃ v, w.cell? ⟨r, m * 2 + 1, none⟩ = some v) (_z0 : w.frozen? ⟨r, m * 2, none⟩ = false) (_z1 : w.frozen? ⟨r, m * 2 + 1, none⟩ = false)
    (_hk : (yk != 0) = false) :
    Calls Try.prog 29 #[.pointer (some ⟨b, 0, none⟩), .slice (some ⟨r, 0, none⟩) n n, .int .i64 3, .agg (Sd.mk xk xs xi xg).cells] w fun e w' => e = .returned (.tuple #[]) ∧ ∃ o1 o2, w' = (((puts b (1 + 3 * 11) ⟨xk, xs, xi, xg⟩ 11 (rz false r m w)).alloc o1).alloc o2).drew := by
  have q0 : w.cell? ⟨b, 34, none⟩ = some (.pointer none) := by have := h.1 3 0 (by omega) (by omega); rw [hi] at this; exact this
  have y0 : w.frozen? ⟨b, 34, none⟩ = false := h.2 _
  have q1 : w.cell? ⟨b, 35, none⟩ = some (.string ⟨#[]⟩) := by have := h.1 3 1 (by omega) (by omega); rw [hi] at this; exact this
  have y1 : w.frozen? ⟨b, 35, none⟩ = false := h.2 _
  have q2 : w.cell? ⟨b, 36, none⟩ = some (.int .i32 0) := by have := h.1 3 2 (by omega) (by omega); rw [hi] at this; exact this
  have y2 : w.frozen? ⟨b, 36, none⟩ = false := h.2 _
  have q3 : w.cell? ⟨b, 37, none⟩ = some (.int .u32 0) := by have := h.1 3 3 (by omega) (by omega); rw [hi] at this; exact this
  have y3 : w.frozen? ⟨b, 37, none⟩ = false := h.2 _
  have q4 : w.cell? ⟨b, 38, none⟩ = some (.int .u16 0) := by have := h.1 3 4 (by omega) (by omega); rw [hi] at this; exact this
  have y4 : w.frozen? ⟨b, 38, none⟩ = false := h.2 _
  have q5 : w.cell? ⟨b, 39, none⟩ = some (.int .u8 yk) := by have := h.1 3 5 (by omega) (by omega); rw [hi] at this; exact this
  have y5 : w.frozen? ⟨b, 39, none⟩ = false := h.2 _
  have q6 : w.cell? ⟨b, 40, none⟩ = some (.int .u8 0) := by have := h.1 3 6 (by omega) (by omega); rw [hi] at this; exact this
  have y6 : w.frozen? ⟨b, 40, none⟩ = false := h.2 _
  have q7 : w.cell? ⟨b, 41, none⟩ = some (.string ⟨#[]⟩) := by have := h.1 3 7 (by omega) (by omega); rw [hi] at this; exact this
  have y7 : w.frozen? ⟨b, 41, none⟩ = false := h.2 _
  have q8 : w.cell? ⟨b, 42, none⟩ = some (.int .u8 ys) := by have := h.1 3 8 (by omega) (by omega); rw [hi] at this; exact this
  have y8 : w.frozen? ⟨b, 42, none⟩ = false := h.2 _
  have q9 : w.cell? ⟨b, 43, none⟩ = some (.int .u32 (m : Int)) := by have := h.1 3 9 (by omega) (by omega); rw [hi] at this; exact this
  have y9 : w.frozen? ⟨b, 43, none⟩ = false := h.2 _
  have q10 : w.cell? ⟨b, 44, none⟩ = some (.bool yg) := by have := h.1 3 10 (by omega) (by omega); rw [hi] at this; exact this
  have y10 : w.frozen? ⟨b, 44, none⟩ = false := h.2 _
  obtain ⟨v0, c0⟩ := c0
  obtain ⟨v1, c1⟩ := c1
  clear h hi
  unfold Sd.cells
  go_enter Try.func29, Try.ntmps29
  go_wp2_with fail
  go_region
  go_wp2
  go_end0
  exact ⟨rfl, _, _, rfl⟩

theorem up29_3B (b r n m : Nat) (xk xs xi yk ys : Int) (xg yg : Bool) (f : Nat → Sd) (w : World) (_hb : b < w.heap.size) (_hr : r < w.heap.size) (_hn : n ≤ 4096) (_hm : m < n) (_hrb : r ≠ b) (h : Box w b f)
    (hi : f 3 = ⟨yk, ys, (m : Int), yg⟩) (c0 : ∃ v, w.cell? ⟨r, m * 2, none⟩ = some v) (c1 : ∃ v, w.cell? ⟨r, m * 2 + 1, none⟩ = some v) (_z0 : w.frozen? ⟨r, m * 2, none⟩ = false) (_z1 : w.frozen? ⟨r, m * 2 + 1, none⟩ = false)
    (_hk : (yk != 0) = true) (hx : xg = true) (hy : yg = false) :
    Calls Try.prog 29 #[.pointer (some ⟨b, 0, none⟩), .slice (some ⟨r, 0, none⟩) n n, .int .i64 3, .agg (Sd.mk xk xs xi xg).cells] w fun e w' => e = .returned (.tuple #[]) ∧ ∃ o1 o2, w' = (((puts b (1 + 3 * 11) ⟨xk, xs, xi, xg⟩ 11 (rz false r m w)).alloc o1).alloc o2).drew := by
  have q0 : w.cell? ⟨b, 34, none⟩ = some (.pointer none) := by have := h.1 3 0 (by omega) (by omega); rw [hi] at this; exact this
  have y0 : w.frozen? ⟨b, 34, none⟩ = false := h.2 _
  have q1 : w.cell? ⟨b, 35, none⟩ = some (.string ⟨#[]⟩) := by have := h.1 3 1 (by omega) (by omega); rw [hi] at this; exact this
  have y1 : w.frozen? ⟨b, 35, none⟩ = false := h.2 _
  have q2 : w.cell? ⟨b, 36, none⟩ = some (.int .i32 0) := by have := h.1 3 2 (by omega) (by omega); rw [hi] at this; exact this
  have y2 : w.frozen? ⟨b, 36, none⟩ = false := h.2 _
  have q3 : w.cell? ⟨b, 37, none⟩ = some (.int .u32 0) := by have := h.1 3 3 (by omega) (by omega); rw [hi] at this; exact this
  have y3 : w.frozen? ⟨b, 37, none⟩ = false := h.2 _
  have q4 : w.cell? ⟨b, 38, none⟩ = some (.int .u16 0) := by have := h.1 3 4 (by omega) (by omega); rw [hi] at this; exact this
  have y4 : w.frozen? ⟨b, 38, none⟩ = false := h.2 _
  have q5 : w.cell? ⟨b, 39, none⟩ = some (.int .u8 yk) := by have := h.1 3 5 (by omega) (by omega); rw [hi] at this; exact this
  have y5 : w.frozen? ⟨b, 39, none⟩ = false := h.2 _
  have q6 : w.cell? ⟨b, 40, none⟩ = some (.int .u8 0) := by have := h.1 3 6 (by omega) (by omega); rw [hi] at this; exact this
  have y6 : w.frozen? ⟨b, 40, none⟩ = false := h.2 _
  have q7 : w.cell? ⟨b, 41, none⟩ = some (.string ⟨#[]⟩) := by have := h.1 3 7 (by omega) (by omega); rw [hi] at this; exact this
  have y7 : w.frozen? ⟨b, 41, none⟩ = false := h.2 _
  have q8 : w.cell? ⟨b, 42, none⟩ = some (.int .u8 ys) := by have := h.1 3 8 (by omega) (by omega); rw [hi] at this; exact this
  have y8 : w.frozen? ⟨b, 42, none⟩ = false := h.2 _
  have q9 : w.cell? ⟨b, 43, none⟩ = some (.int .u32 (m : Int)) := by have := h.1 3 9 (by omega) (by omega); rw [hi] at this; exact this
  have y9 : w.frozen? ⟨b, 43, none⟩ = false := h.2 _
  have q10 : w.cell? ⟨b, 44, none⟩ = some (.bool yg) := by have := h.1 3 10 (by omega) (by omega); rw [hi] at this; exact this
  have y10 : w.frozen? ⟨b, 44, none⟩ = false := h.2 _
  obtain ⟨v0, c0⟩ := c0
  obtain ⟨v1, c1⟩ := c1
  clear h hi
  unfold Sd.cells
  subst hx hy
  go_enter Try.func29, Try.ntmps29
  go_wp2_with fail
  go_region
  go_wp2
  go_end0
  exact ⟨rfl, _, _, rfl⟩

theorem up29_3C (b r n m : Nat) (xk xs xi yk ys : Int) (xg yg : Bool) (f : Nat → Sd) (w : World) (_hb : b < w.heap.size) (_hr : r < w.heap.size) (_hn : n ≤ 4096) (_hm : m < n) (_hrb : r ≠ b) (h : Box w b f)
    (hi : f 3 = ⟨yk, ys, (m : Int), yg⟩) (c0 : ∃ v, w.cell? ⟨r, m * 2, none⟩ = some v) (c1 : ∃ v, w.cell? ⟨r, m * 2 + 1, none⟩ = some v) (_z0 : w.frozen? ⟨r, m * 2, none⟩ = false) (_z1 : w.frozen? ⟨r, m * 2 + 1, none⟩ = false)
    (_hk : (yk != 0) = true) (hx : xg = false) (_hs : (ys == 0) = false) :
    Calls Try.prog 29 #[.pointer (some ⟨b, 0, none⟩), .slice (some ⟨r, 0, none⟩) n n, .int .i64 3, .agg (Sd.mk xk xs xi xg).cells] w fun e w' => e = .returned (.tuple #[]) ∧ ∃ o1 o2, w' = (((puts b (1 + 3 * 11) ⟨xk, xs, xi, xg⟩ 11 (rz false r m w)).alloc o1).alloc o2).drew := by
  have q0 : w.cell? ⟨b, 34, none⟩ = some (.pointer none) := by have := h.1 3 0 (by omega) (by omega); rw [hi] at this; exact this
  have y0 : w.frozen? ⟨b, 34, none⟩ = false := h.2 _
  have q1 : w.cell? ⟨b, 35, none⟩ = some (.string ⟨#[]⟩) := by have := h.1 3 1 (by omega) (by omega); rw [hi] at this; exact this
  have y1 : w.frozen? ⟨b, 35, none⟩ = false := h.2 _
  have q2 : w.cell? ⟨b, 36, none⟩ = some (.int .i32 0) := by have := h.1 3 2 (by omega) (by omega); rw [hi] at this; exact this
  have y2 : w.frozen? ⟨b, 36, none⟩ = false := h.2 _
  have q3 : w.cell? ⟨b, 37, none⟩ = some (.int .u32 0) := by have := h.1 3 3 (by omega) (by omega); rw [hi] at this; exact this
  have y3 : w.frozen? ⟨b, 37, none⟩ = false := h.2 _
  have q4 : w.cell? ⟨b, 38, none⟩ = some (.int .u16 0) := by have := h.1 3 4 (by omega) (by omega); rw [hi] at this; exact this
  have y4 : w.frozen? ⟨b, 38, none⟩ = false := h.2 _
  have q5 : w.cell? ⟨b, 39, none⟩ = some (.int .u8 yk) := by have := h.1 3 5 (by omega) (by omega); rw [hi] at this; exact this
  have y5 : w.frozen? ⟨b, 39, none⟩ = false := h.2 _
  have q6 : w.cell? ⟨b, 40, none⟩ = some (.int .u8 0) := by have := h.1 3 6 (by omega) (by omega); rw [hi] at this; exact this
  have y6 : w.frozen? ⟨b, 40, none⟩ = false := h.2 _
  have q7 : w.cell? ⟨b, 41, none⟩ = some (.string ⟨#[]⟩) := by have := h.1 3 7 (by omega) (by omega); rw [hi] at this; exact this
  have y7 : w.frozen? ⟨b, 41, none⟩ = false := h.2 _
  have q8 : w.cell? ⟨b, 42, none⟩ = some (.int .u8 ys) := by have := h.1 3 8 (by omega) (by omega); rw [hi] at this; exact this
  have y8 : w.frozen? ⟨b, 42, none⟩ = false := h.2 _
  have q9 : w.cell? ⟨b, 43, none⟩ = some (.int .u32 (m : Int)) := by have := h.1 3 9 (by omega) (by omega); rw [hi] at this; exact this
  have y9 : w.frozen? ⟨b, 43, none⟩ = false := h.2 _
  have q10 : w.cell? ⟨b, 44, none⟩ = some (.bool yg) := by have := h.1 3 10 (by omega) (by omega); rw [hi] at this; exact this
  have y10 : w.frozen? ⟨b, 44, none⟩ = false := h.2 _
  obtain ⟨v0, c0⟩ := c0
  obtain ⟨v1, c1⟩ := c1
  clear h hi
  unfold Sd.cells
  subst hx
  go_enter Try.func29, Try.ntmps29
  go_wp2_with fail
  go_region
  go_wp2
  go_end0
  exact ⟨rfl, _, _, rfl⟩

theorem up29_3D (b r n m : Nat) (xk xs xi yk ys : Int) (xg yg : Bool) (f : Nat → Sd) (w : World) (_hb : b < w.heap.size) (_hr : r < w.heap.size) (_hn : n ≤ 4096) (_hm : m < n) (_hrb : r ≠ b) (h : Box w b f)
    (hi : f 3 = ⟨yk, ys, (m : Int), yg⟩) (c0 : ∃ v, w.cell? ⟨r, m * 2, none⟩ = some v) (c1 : ∃ v, w.cell? ⟨r, m * 2 + 1, none⟩ = some v) (_z0 : w.frozen? ⟨r, m * 2, none⟩ = false) (_z1 : w.frozen? ⟨r, m * 2 + 1, none⟩ = false)
    (_hk : (yk != 0) = true) (hx : xg = true) (hy : yg = true) (_hs : (ys == 0) = false) :
    Calls Try.prog 29 #[.pointer (some ⟨b, 0, none⟩), .slice (some ⟨r, 0, none⟩) n n, .int .i64 3, .agg (Sd.mk xk xs xi xg).cells] w fun e w' => e = .returned (.tuple #[]) ∧ ∃ o1 o2, w' = (((puts b (1 + 3 * 11) ⟨xk, xs, xi, xg⟩ 11 (rz false r m w)).alloc o1).alloc o2).drew := by
  have q0 : w.cell? ⟨b, 34, none⟩ = some (.pointer none) := by have := h.1 3 0 (by omega) (by omega); rw [hi] at this; exact this
  have y0 : w.frozen? ⟨b, 34, none⟩ = false := h.2 _
  have q1 : w.cell? ⟨b, 35, none⟩ = some (.string ⟨#[]⟩) := by have := h.1 3 1 (by omega) (by omega); rw [hi] at this; exact this
  have y1 : w.frozen? ⟨b, 35, none⟩ = false := h.2 _
  have q2 : w.cell? ⟨b, 36, none⟩ = some (.int .i32 0) := by have := h.1 3 2 (by omega) (by omega); rw [hi] at this; exact this
  have y2 : w.frozen? ⟨b, 36, none⟩ = false := h.2 _
  have q3 : w.cell? ⟨b, 37, none⟩ = some (.int .u32 0) := by have := h.1 3 3 (by omega) (by omega); rw [hi] at this; exact this
  have y3 : w.frozen? ⟨b, 37, none⟩ = false := h.2 _
  have q4 : w.cell? ⟨b, 38, none⟩ = some (.int .u16 0) := by have := h.1 3 4 (by omega) (by omega); rw [hi] at this; exact this
  have y4 : w.frozen? ⟨b, 38, none⟩ = false := h.2 _
  have q5 : w.cell? ⟨b, 39, none⟩ = some (.int .u8 yk) := by have := h.1 3 5 (by omega) (by omega); rw [hi] at this; exact this
  have y5 : w.frozen? ⟨b, 39, none⟩ = false := h.2 _
  have q6 : w.cell? ⟨b, 40, none⟩ = some (.int .u8 0) := by have := h.1 3 6 (by omega) (by omega); rw [hi] at this; exact this
  have y6 : w.frozen? ⟨b, 40, none⟩ = false := h.2 _
  have q7 : w.cell? ⟨b, 41, none⟩ = some (.string ⟨#[]⟩) := by have := h.1 3 7 (by omega) (by omega); rw [hi] at this; exact this
  have y7 : w.frozen? ⟨b, 41, none⟩ = false := h.2 _
  have q8 : w.cell? ⟨b, 42, none⟩ = some (.int .u8 ys) := by have := h.1 3 8 (by omega) (by omega); rw [hi] at this; exact this
  have y8 : w.frozen? ⟨b, 42, none⟩ = false := h.2 _
  have q9 : w.cell? ⟨b, 43, none⟩ = some (.int .u32 (m : Int)) := by have := h.1 3 9 (by omega) (by omega); rw [hi] at this; exact this
  have y9 : w.frozen? ⟨b, 43, none⟩ = false := h.2 _
  have q10 : w.cell? ⟨b, 44, none⟩ = some (.bool yg) := by have := h.1 3 10 (by omega) (by omega); rw [hi] at this; exact this
  have y10 : w.frozen? ⟨b, 44, none⟩ = false := h.2 _
  obtain ⟨v0, c0⟩ := c0
  obtain ⟨v1, c1⟩ := c1
  clear h hi
  unfold Sd.cells
  subst hx hy
  go_enter Try.func29, Try.ntmps29
  go_wp2_with fail
  go_region
  go_wp2
  go_end0
  exact ⟨rfl, _, _, rfl⟩

theorem up29_3E (b r n m : Nat) (xk xs xi yk ys : Int) (xg yg : Bool) (f : Nat → Sd) (w : World) (_hb : b < w.heap.size) (_hr : r < w.heap.size) (_hn : n ≤ 4096) (_hm : m < n) (_hrb : r ≠ b) (h : Box w b f)
    (hi : f 3 = ⟨yk, ys, (m : Int), yg⟩) (c0 : ∃ v, w.cell? ⟨r, m * 2, none⟩ = some v) (c1 : ∃ v, w.cell? ⟨r, m * 2 + 1, none⟩ = some v) (_z0 : w.frozen? ⟨r, m * 2, none⟩ = false) (_z1 : w.frozen? ⟨r, m * 2 + 1, none⟩ = false)
    (_hk : (yk != 0) = true) (hx : xg = false) (_hs : (ys == 0) = true) (_ht : (xs == 0) = false) :
    Calls Try.prog 29 #[.pointer (some ⟨b, 0, none⟩), .slice (some ⟨r, 0, none⟩) n n, .int .i64 3, .agg (Sd.mk xk xs xi xg).cells] w fun e w' => e = .returned (.tuple #[]) ∧ ∃ o1 o2, w' = (((puts b (1 + 3 * 11) ⟨xk, xs, xi, xg⟩ 11 (rz false r m w)).alloc o1).alloc o2).drew := by
  have q0 : w.cell? ⟨b, 34, none⟩ = some (.pointer none) := by have := h.1 3 0 (by omega) (by omega); rw [hi] at this; exact this
  have y0 : w.frozen? ⟨b, 34, none⟩ = false := h.2 _
  have q1 : w.cell? ⟨b, 35, none⟩ = some (.string ⟨#[]⟩) := by have := h.1 3 1 (by omega) (by omega); rw [hi] at this; exact this
  have y1 : w.frozen? ⟨b, 35, none⟩ = false := h.2 _
  have q2 : w.cell? ⟨b, 36, none⟩ = some (.int .i32 0) := by have := h.1 3 2 (by omega) (by omega); rw [hi] at this; exact this
  have y2 : w.frozen? ⟨b, 36, none⟩ = false := h.2 _
  have q3 : w.cell? ⟨b, 37, none⟩ = some (.int .u32 0) := by have := h.1 3 3 (by omega) (by omega); rw [hi] at this; exact this
  have y3 : w.frozen? ⟨b, 37, none⟩ = false := h.2 _
  have q4 : w.cell? ⟨b, 38, none⟩ = some (.int .u16 0) := by have := h.1 3 4 (by omega) (by omega); rw [hi] at this; exact this
  have y4 : w.frozen? ⟨b, 38, none⟩ = false := h.2 _
  have q5 : w.cell? ⟨b, 39, none⟩ = some (.int .u8 yk) := by have := h.1 3 5 (by omega) (by omega); rw [hi] at this; exact this
  have y5 : w.frozen? ⟨b, 39, none⟩ = false := h.2 _
  have q6 : w.cell? ⟨b, 40, none⟩ = some (.int .u8 0) := by have := h.1 3 6 (by omega) (by omega); rw [hi] at this; exact this
  have y6 : w.frozen? ⟨b, 40, none⟩ = false := h.2 _
  have q7 : w.cell? ⟨b, 41, none⟩ = some (.string ⟨#[]⟩) := by have := h.1 3 7 (by omega) (by omega); rw [hi] at this; exact this
  have y7 : w.frozen? ⟨b, 41, none⟩ = false := h.2 _
  have q8 : w.cell? ⟨b, 42, none⟩ = some (.int .u8 ys) := by have := h.1 3 8 (by omega) (by omega); rw [hi] at this; exact this
  have y8 : w.frozen? ⟨b, 42, none⟩ = false := h.2 _
  have q9 : w.cell? ⟨b, 43, none⟩ = some (.int .u32 (m : Int)) := by have := h.1 3 9 (by omega) (by omega); rw [hi] at this; exact this
  have y9 : w.frozen? ⟨b, 43, none⟩ = false := h.2 _
  have q10 : w.cell? ⟨b, 44, none⟩ = some (.bool yg) := by have := h.1 3 10 (by omega) (by omega); rw [hi] at this; exact this
  have y10 : w.frozen? ⟨b, 44, none⟩ = false := h.2 _
  obtain ⟨v0, c0⟩ := c0
  obtain ⟨v1, c1⟩ := c1
  clear h hi
  unfold Sd.cells
  subst hx
  go_enter Try.func29, Try.ntmps29
  go_wp2_with fail
  go_region
  go_wp2
  go_end0
  exact ⟨rfl, _, _, rfl⟩

theorem up29_3F (b r n m : Nat) (xk xs xi yk ys : Int) (xg yg : Bool) (f : Nat → Sd) (w : World) (_hb : b < w.heap.size) (_hr : r < w.heap.size) (_hn : n ≤ 4096) (_hm : m < n) (_hrb : r ≠ b) (h : Box w b f)
    (hi : f 3 = ⟨yk, ys, (m : Int), yg⟩) (c0 : ∃ v, w.cell? ⟨r, m * 2, none⟩ = some v) (c1 : ∃ v, w.cell? ⟨r, m * 2 + 1, none⟩ = some v) (_z0 : w.frozen? ⟨r, m * 2, none⟩ = false) (_z1 : w.frozen? ⟨r, m * 2 + 1, none⟩ = false)
    (_hk : (yk != 0) = true) (hx : xg = true) (hy : yg = true) (_hs : (ys == 0) = true) (_ht : (xs == 0) = false) :
    Calls Try.prog 29 #[.pointer (some ⟨b, 0, none⟩), .slice (some ⟨r, 0, none⟩) n n, .int .i64 3, .agg (Sd.mk xk xs xi xg).cells] w fun e w' => e = .returned (.tuple #[]) ∧ ∃ o1 o2, w' = (((puts b (1 + 3 * 11) ⟨xk, xs, xi, xg⟩ 11 (rz false r m w)).alloc o1).alloc o2).drew := by
  have q0 : w.cell? ⟨b, 34, none⟩ = some (.pointer none) := by have := h.1 3 0 (by omega) (by omega); rw [hi] at this; exact this
  have y0 : w.frozen? ⟨b, 34, none⟩ = false := h.2 _
  have q1 : w.cell? ⟨b, 35, none⟩ = some (.string ⟨#[]⟩) := by have := h.1 3 1 (by omega) (by omega); rw [hi] at this; exact this
  have y1 : w.frozen? ⟨b, 35, none⟩ = false := h.2 _
  have q2 : w.cell? ⟨b, 36, none⟩ = some (.int .i32 0) := by have := h.1 3 2 (by omega) (by omega); rw [hi] at this; exact this
  have y2 : w.frozen? ⟨b, 36, none⟩ = false := h.2 _
  have q3 : w.cell? ⟨b, 37, none⟩ = some (.int .u32 0) := by have := h.1 3 3 (by omega) (by omega); rw [hi] at this; exact this
  have y3 : w.frozen? ⟨b, 37, none⟩ = false := h.2 _
  have q4 : w.cell? ⟨b, 38, none⟩ = some (.int .u16 0) := by have := h.1 3 4 (by omega) (by omega); rw [hi] at this; exact this
  have y4 : w.frozen? ⟨b, 38, none⟩ = false := h.2 _
  have q5 : w.cell? ⟨b, 39, none⟩ = some (.int .u8 yk) := by have := h.1 3 5 (by omega) (by omega); rw [hi] at this; exact this
  have y5 : w.frozen? ⟨b, 39, none⟩ = false := h.2 _
  have q6 : w.cell? ⟨b, 40, none⟩ = some (.int .u8 0) := by have := h.1 3 6 (by omega) (by omega); rw [hi] at this; exact this
  have y6 : w.frozen? ⟨b, 40, none⟩ = false := h.2 _
  have q7 : w.cell? ⟨b, 41, none⟩ = some (.string ⟨#[]⟩) := by have := h.1 3 7 (by omega) (by omega); rw [hi] at this; exact this
  have y7 : w.frozen? ⟨b, 41, none⟩ = false := h.2 _
  have q8 : w.cell? ⟨b, 42, none⟩ = some (.int .u8 ys) := by have := h.1 3 8 (by omega) (by omega); rw [hi] at this; exact this
  have y8 : w.frozen? ⟨b, 42, none⟩ = false := h.2 _
  have q9 : w.cell? ⟨b, 43, none⟩ = some (.int .u32 (m : Int)) := by have := h.1 3 9 (by omega) (by omega); rw [hi] at this; exact this
  have y9 : w.frozen? ⟨b, 43, none⟩ = false := h.2 _
  have q10 : w.cell? ⟨b, 44, none⟩ = some (.bool yg) := by have := h.1 3 10 (by omega) (by omega); rw [hi] at this; exact this
  have y10 : w.frozen? ⟨b, 44, none⟩ = false := h.2 _
  obtain ⟨v0, c0⟩ := c0
  obtain ⟨v1, c1⟩ := c1
  clear h hi
  unfold Sd.cells
  subst hx hy
  go_enter Try.func29, Try.ntmps29
  go_wp2_with fail
  go_region
  go_wp2
  go_end0
  exact ⟨rfl, _, _, rfl⟩

theorem up29_3G (b r n m : Nat) (xk xs xi yk ys : Int) (xg yg : Bool) (f : Nat → Sd) (w : World) (_hb : b < w.heap.size) (_hr : r < w.heap.size) (_hn : n ≤ 4096) (_hm : m < n) (_hrb : r ≠ b) (h : Box w b f)
    (hi : f 3 = ⟨yk, ys, (m : Int), yg⟩) (c0 : ∃ v, w.cell? ⟨r, m * 2, none⟩ = some v) (c1 : ∃ v, w.cell? ⟨r, m * 2 + 1, none⟩ = some v) (_z0 : w.frozen? ⟨r, m * 2, none⟩ = false) (_z1 : w.frozen? ⟨r, m * 2 + 1, none⟩ = false)
    (_hk : (yk != 0) = true) (hx : xg = false) (_hs : (ys == 0) = true) (_ht : (xs == 0) = true) :
    Calls Try.prog 29 #[.pointer (some ⟨b, 0, none⟩), .slice (some ⟨r, 0, none⟩) n n, .int .i64 3, .agg (Sd.mk xk xs xi xg).cells] w fun e w' => e = .returned (.tuple #[]) ∧ ∃ o1 o2, w' = (((puts b (1 + 3 * 11) ⟨xk, xs, xi, xg⟩ 11 (rz true r m w)).alloc o1).alloc o2).drew := by
  have q0 : w.cell? ⟨b, 34, none⟩ = some (.pointer none) := by have := h.1 3 0 (by omega) (by omega); rw [hi] at this; exact this
  have y0 : w.frozen? ⟨b, 34, none⟩ = false := h.2 _
  have q1 : w.cell? ⟨b, 35, none⟩ = some (.string ⟨#[]⟩) := by have := h.1 3 1 (by omega) (by omega); rw [hi] at this; exact this
  have y1 : w.frozen? ⟨b, 35, none⟩ = false := h.2 _
  have q2 : w.cell? ⟨b, 36, none⟩ = some (.int .i32 0) := by have := h.1 3 2 (by omega) (by omega); rw [hi] at this; exact this
  have y2 : w.frozen? ⟨b, 36, none⟩ = false := h.2 _
  have q3 : w.cell? ⟨b, 37, none⟩ = some (.int .u32 0) := by have := h.1 3 3 (by omega) (by omega); rw [hi] at this; exact this
  have y3 : w.frozen? ⟨b, 37, none⟩ = false := h.2 _
  have q4 : w.cell? ⟨b, 38, none⟩ = some (.int .u16 0) := by have := h.1 3 4 (by omega) (by omega); rw [hi] at this; exact this
  have y4 : w.frozen? ⟨b, 38, none⟩ = false := h.2 _
  have q5 : w.cell? ⟨b, 39, none⟩ = some (.int .u8 yk) := by have := h.1 3 5 (by omega) (by omega); rw [hi] at this; exact this
  have y5 : w.frozen? ⟨b, 39, none⟩ = false := h.2 _
  have q6 : w.cell? ⟨b, 40, none⟩ = some (.int .u8 0) := by have := h.1 3 6 (by omega) (by omega); rw [hi] at this; exact this
  have y6 : w.frozen? ⟨b, 40, none⟩ = false := h.2 _
  have q7 : w.cell? ⟨b, 41, none⟩ = some (.string ⟨#[]⟩) := by have := h.1 3 7 (by omega) (by omega); rw [hi] at this; exact this
  have y7 : w.frozen? ⟨b, 41, none⟩ = false := h.2 _
  have q8 : w.cell? ⟨b, 42, none⟩ = some (.int .u8 ys) := by have := h.1 3 8 (by omega) (by omega); rw [hi] at this; exact this
  have y8 : w.frozen? ⟨b, 42, none⟩ = false := h.2 _
  have q9 : w.cell? ⟨b, 43, none⟩ = some (.int .u32 (m : Int)) := by have := h.1 3 9 (by omega) (by omega); rw [hi] at this; exact this
  have y9 : w.frozen? ⟨b, 43, none⟩ = false := h.2 _
  have q10 : w.cell? ⟨b, 44, none⟩ = some (.bool yg) := by have := h.1 3 10 (by omega) (by omega); rw [hi] at this; exact this
  have y10 : w.frozen? ⟨b, 44, none⟩ = false := h.2 _
  obtain ⟨v0, c0⟩ := c0
  obtain ⟨v1, c1⟩ := c1
  clear h hi
  unfold Sd.cells
  subst hx
  go_enter Try.func29, Try.ntmps29
  go_wp2_with fail
  go_region
  go_wp2
  go_end0
  exact ⟨rfl, _, _, rfl⟩

theorem up29_3H (b r n m : Nat) (xk xs xi yk ys : Int) (xg yg : Bool) (f : Nat → Sd) (w : World) (_hb : b < w.heap.size) (_hr : r < w.heap.size) (_hn : n ≤ 4096) (_hm : m < n) (_hrb : r ≠ b) (h : Box w b f)
    (hi : f 3 = ⟨yk, ys, (m : Int), yg⟩) (c0 : ∃ v, w.cell? ⟨r, m * 2, none⟩ = some v) (c1 : ∃ v, w.cell? ⟨r, m * 2 + 1, none⟩ = some v) (_z0 : w.frozen? ⟨r, m * 2, none⟩ = false) (_z1 : w.frozen? ⟨r, m * 2 + 1, none⟩ = false)
    (_hk : (yk != 0) = true) (hx : xg = true) (hy : yg = true) (_hs : (ys == 0) = true) (_ht : (xs == 0) = true) :
    Calls Try.prog 29 #[.pointer (some ⟨b, 0, none⟩), .slice (some ⟨r, 0, none⟩) n n, .int .i64 3, .agg (Sd.mk xk xs xi xg).cells] w fun e w' => e = .returned (.tuple #[]) ∧ ∃ o1 o2, w' = (((puts b (1 + 3 * 11) ⟨xk, xs, xi, xg⟩ 11 (rz true r m w)).alloc o1).alloc o2).drew := by
  have q0 : w.cell? ⟨b, 34, none⟩ = some (.pointer none) := by have := h.1 3 0 (by omega) (by omega); rw [hi] at this; exact this
  have y0 : w.frozen? ⟨b, 34, none⟩ = false := h.2 _
  have q1 : w.cell? ⟨b, 35, none⟩ = some (.string ⟨#[]⟩) := by have := h.1 3 1 (by omega) (by omega); rw [hi] at this; exact this
  have y1 : w.frozen? ⟨b, 35, none⟩ = false := h.2 _
  have q2 : w.cell? ⟨b, 36, none⟩ = some (.int .i32 0) := by have := h.1 3 2 (by omega) (by omega); rw [hi] at this; exact this
  have y2 : w.frozen? ⟨b, 36, none⟩ = false := h.2 _
  have q3 : w.cell? ⟨b, 37, none⟩ = some (.int .u32 0) := by have := h.1 3 3 (by omega) (by omega); rw [hi] at this; exact this
  have y3 : w.frozen? ⟨b, 37, none⟩ = false := h.2 _
  have q4 : w.cell? ⟨b, 38, none⟩ = some (.int .u16 0) := by have := h.1 3 4 (by omega) (by omega); rw [hi] at this; exact this
  have y4 : w.frozen? ⟨b, 38, none⟩ = false := h.2 _
  have q5 : w.cell? ⟨b, 39, none⟩ = some (.int .u8 yk) := by have := h.1 3 5 (by omega) (by omega); rw [hi] at this; exact this
  have y5 : w.frozen? ⟨b, 39, none⟩ = false := h.2 _
  have q6 : w.cell? ⟨b, 40, none⟩ = some (.int .u8 0) := by have := h.1 3 6 (by omega) (by omega); rw [hi] at this; exact this
  have y6 : w.frozen? ⟨b, 40, none⟩ = false := h.2 _
  have q7 : w.cell? ⟨b, 41, none⟩ = some (.string ⟨#[]⟩) := by have := h.1 3 7 (by omega) (by omega); rw [hi] at this; exact this
  have y7 : w.frozen? ⟨b, 41, none⟩ = false := h.2 _
  have q8 : w.cell? ⟨b, 42, none⟩ = some (.int .u8 ys) := by have := h.1 3 8 (by omega) (by omega); rw [hi] at this; exact this
  have y8 : w.frozen? ⟨b, 42, none⟩ = false := h.2 _
  have q9 : w.cell? ⟨b, 43, none⟩ = some (.int .u32 (m : Int)) := by have := h.1 3 9 (by omega) (by omega); rw [hi] at this; exact this
  have y9 : w.frozen? ⟨b, 43, none⟩ = false := h.2 _
  have q10 : w.cell? ⟨b, 44, none⟩ = some (.bool yg) := by have := h.1 3 10 (by omega) (by omega); rw [hi] at this; exact this
  have y10 : w.frozen? ⟨b, 44, none⟩ = false := h.2 _
  obtain ⟨v0, c0⟩ := c0
  obtain ⟨v1, c1⟩ := c1
  clear h hi
  unfold Sd.cells
  subst hx hy
  go_enter Try.func29, Try.ntmps29
  go_wp2_with fail
  go_region
  go_wp2
  go_end0
  exact ⟨rfl, _, _, rfl⟩

theorem up29_3 (b r n m : Nat) (xk xs xi yk ys : Int) (xg yg : Bool) (f : Nat → Sd) (w : World) (hb : b < w.heap.size) (hr : r < w.heap.size) (hn : n ≤ 4096) (hm : m < n) (hrb : r ≠ b) (h : Box w b f)
    (hi : f 3 = ⟨yk, ys, (m : Int), yg⟩) (c0 : ∃ v, w.cell? ⟨r, m * 2, none⟩ = some v) (c1 : ∃ v, w.cell? ⟨r, m * 2 + 1, none⟩ = some v) (z0 : w.frozen? ⟨r, m * 2, none⟩ = false) (z1 : w.frozen? ⟨r, m * 2 + 1, none⟩ = false) :
    Calls Try.prog 29 #[.pointer (some ⟨b, 0, none⟩), .slice (some ⟨r, 0, none⟩) n n, .int .i64 3, .agg (Sd.mk xk xs xi xg).cells] w fun e w' => e = .returned (.tuple #[]) ∧ ∃ o1 o2, w' = (((puts b (1 + 3 * 11) ⟨xk, xs, xi, xg⟩ 11 (rz (dropB ⟨yk, ys, (m : Int), yg⟩ ⟨xk, xs, xi, xg⟩) r m w)).alloc o1).alloc o2).drew := by
  unfold dropB
  dsimp only
  cases hk : (yk != 0)
  · exact up29_3A b r n m xk xs xi yk ys xg yg f w hb hr hn hm hrb h hi c0 c1 z0 z1 hk
  cases hs : (ys == 0)
  · cases xg
    · simpa using up29_3C b r n m xk xs xi yk ys false yg f w hb hr hn hm hrb h hi c0 c1 z0 z1 hk rfl hs
    · cases yg
      · simpa using up29_3B b r n m xk xs xi yk ys true false f w hb hr hn hm hrb h hi c0 c1 z0 z1 hk rfl rfl
      · simpa using up29_3D b r n m xk xs xi yk ys true true f w hb hr hn hm hrb h hi c0 c1 z0 z1 hk rfl rfl hs
  cases ht : (xs == 0)
  · cases xg
    · simpa using up29_3E b r n m xk xs xi yk ys false yg f w hb hr hn hm hrb h hi c0 c1 z0 z1 hk rfl hs ht
    · cases yg
      · simpa using up29_3B b r n m xk xs xi yk ys true false f w hb hr hn hm hrb h hi c0 c1 z0 z1 hk rfl rfl
      · simpa using up29_3F b r n m xk xs xi yk ys true true f w hb hr hn hm hrb h hi c0 c1 z0 z1 hk rfl rfl hs ht
  cases xg
  · simpa using up29_3G b r n m xk xs xi yk ys false yg f w hb hr hn hm hrb h hi c0 c1 z0 z1 hk rfl hs ht
  · cases yg
    · simpa using up29_3B b r n m xk xs xi yk ys true false f w hb hr hn hm hrb h hi c0 c1 z0 z1 hk rfl rfl
    · simpa using up29_3H b r n m xk xs xi yk ys true true f w hb hr hn hm hrb h hi c0 c1 z0 z1 hk rfl rfl hs ht

