/-
  The contracts of the parser's peek, at, current and index over a token list. Conditions: the shapes of the lists.
-/
import Derived.Test.YtnlohfbmknedhaaWc
namespace Go.Proofs.Ytnlohfbmknedhaa
open Go.ChangeShapes Go.WideShapes Go.ChangeAt Go.RowKit

/-- a parser at block p over the source s and the n tokens f in block r, its cursor at i -/
structure Psr (w : World) (p : Nat) (s : ByteArray) (r n : Nat) (f : Nat → Tk) (i : Int) : Prop where
  lt : p < w.heap.size
  rlt : r < w.heap.size
  ne : r ≠ p
  small : s.size ≤ 1048576 ∧ n ≤ 1048576
  c9 : w.cell? ⟨p, 9, none⟩ = some (.string s)
  c16 : w.cell? ⟨p, 16, none⟩ = some (.slice (some ⟨r, 0, none⟩) n n)
  c42 : w.cell? ⟨p, 42, none⟩ = some (.int .i64 i)
  z42 : w.frozen? ⟨p, 42, none⟩ = false
  t : ∀ j o, j < n → o < 5 → w.cell? ⟨r, j * 5 + o, none⟩ = some ((f j).at o)

theorem Psr.call {w w' : World} {p : Nat} {s : ByteArray} {r n : Nat} {f : Nat → Tk} {i : Int} (h : Psr w p s r n f i) (hb : Below w.heap.size w w') : Psr w' p s r n f i := by
  have := hb.size
  have h1 := h.lt
  have h2 := h.rlt
  refine ⟨by omega, by omega, h.ne, h.small, ?_, ?_, ?_, ?_, fun j o hj ho => ?_⟩
  · rw [hb.cell (p := ⟨p, 9, none⟩) h1]; exact h.c9
  · rw [hb.cell (p := ⟨p, 16, none⟩) h1]; exact h.c16
  · rw [hb.cell (p := ⟨p, 42, none⟩) h1]; exact h.c42
  · rw [hb.frozen (p := ⟨p, 42, none⟩) h1]; exact h.z42
  · rw [hb.cell (p := ⟨r, j * 5 + o, none⟩) h2]; exact h.t j o hj ho

set_option maxRecDepth 20000 in
set_option maxHeartbeats 1000000 in
theorem new15 (s : ByteArray) (n : Nat) (f : Nat → Tk) (i : Int) (w0 w : World) (h : TkS w0 n n f w) (hs : s.size ≤ 1048576) (hn : n ≤ 1048576) :
    Calls Try.prog 15 #[.string s, .slice (some ⟨w0.heap.size, 0, none⟩) n n, .int .i64 i] w fun e w' => e = .returned (.pointer (some ⟨w.heap.size, 0, none⟩)) ∧ Psr w' w.heap.size s w0.heap.size n f i ∧ Below w.heap.size w w' := by
  have H := Lib.hid h
  clear h
  go_enter Try.func15, Try.ntmps15
  go_wp2
  go_ret
  have h := H.out
  have hsz := h.size
  refine ⟨rfl, ⟨by simp [go_sem], by simp [go_sem]; omega, by omega, ⟨hs, hn⟩, by simp [go_sem], by simp [go_sem], by simp [go_sem], by simp [go_sem], fun j o hj ho => ?_⟩, (Below.refl _ _).alloc (Nat.le_refl _) _⟩
  rw [World.cell?_alloc_lt _ _ _ hsz]; exact h.t j o hj ho

/-- the token at place i: past the end, the end of the file -/
def cur (s : ByteArray) (n : Nat) (f : Nat → Tk) (i : Nat) : Tk := if i < n then f i else ⟨s.size, 0, 0⟩

set_option maxRecDepth 20000 in
set_option maxHeartbeats 1000000 in
theorem at50 (p : Nat) (s : ByteArray) (r n : Nat) (f : Nat → Tk) (c : Int) (i : Nat) (w : World) (h : Psr w p s r n f c) (hi : i ≤ n) :
    Calls Try.prog 50 #[.pointer (some ⟨p, 0, none⟩), .int .i64 i] w fun e w' => e = .returned (.agg #[.int .i32 (cur s n f i).s, .int .i32 (cur s n f i).l, .int .u16 0, .int .u8 (cur s n f i).k, .int .u8 0]) ∧ Below w.heap.size w w' := by
  have q9 := h.c9
  have q16 := h.c16
  have hlt := h.lt
  have hrl := h.rlt
  obtain ⟨hs, hn⟩ := h.small
  by_cases hin : i < n
  · have e : cur s n f i = f i := if_pos hin
    have t0 : w.cell? ⟨r, i * 5, none⟩ = some (.int .i32 (f i).s) := h.t i 0 hin (by omega)
    have t1 : w.cell? ⟨r, i * 5 + 1, none⟩ = some (.int .i32 (f i).l) := h.t i 1 hin (by omega)
    have t2 : w.cell? ⟨r, i * 5 + 2, none⟩ = some (.int .u16 0) := h.t i 2 hin (by omega)
    have t3 : w.cell? ⟨r, i * 5 + 3, none⟩ = some (.int .u8 (f i).k) := h.t i 3 hin (by omega)
    have t4 : w.cell? ⟨r, i * 5 + 4, none⟩ = some (.int .u8 0) := h.t i 4 hin (by omega)
    rw [e]
    generalize f i = tt at *
    clear h
    go_enter Try.func50, Try.ntmps50
    go_wp2
    refine bodyPost_ret (v := .agg #[.int .i32 tt.s, .int .i32 tt.l, .int .u16 0, .int .u8 tt.k, .int .u8 0]) (by simp [results, Try.results50, go_sem]) rfl ⟨rfl, ?_⟩
    exact (Below.refl _ _).alloc (Nat.le_refl _) _
  · have e : cur s n f i = ⟨s.size, 0, 0⟩ := if_neg hin
    rw [e]
    clear h
    go_enter Try.func50, Try.ntmps50
    go_wp2
    refine bodyPost_ret (v := .agg #[.int .i32 s.size, .int .i32 0, .int .u16 0, .int .u8 0, .int .u8 0]) (by simp [results, Try.results50, go_sem]) rfl ⟨rfl, ?_⟩
    exact (Below.refl _ _).alloc (Nat.le_refl _) _

set_option maxRecDepth 20000 in
set_option maxHeartbeats 1000000 in
theorem current45 (p : Nat) (s : ByteArray) (r n : Nat) (f : Nat → Tk) (i : Nat) (w : World) (h : Psr w p s r n f i) (hi : i ≤ n) :
    Calls Try.prog 45 #[.pointer (some ⟨p, 0, none⟩)] w fun e w' => e = .returned (.agg #[.int .i32 (cur s n f i).s, .int .i32 (cur s n f i).l, .int .u16 0, .int .u8 (cur s n f i).k, .int .u8 0]) ∧ Below w.heap.size w w' := by
  have q42 := h.c42
  have hlt := h.lt
  have H := Lib.hid h
  clear h
  obtain ⟨tt, ht⟩ : ∃ tt, tt = cur s n f i := ⟨_, rfl⟩
  rw [← ht]
  go_enter Try.func45, Try.ntmps45
  go_wp2_with fail
  refine (at50 p s r n f i i _ (H.out.call ((Below.refl _ _).alloc (Nat.le_refl _) _)) hi).mono ?_
  rw [← ht]
  rintro e w2 ⟨rfl, hb⟩
  have hb2 : Below w.heap.size w w2 := ((Below.refl _ _).alloc (Nat.le_refl _) _).trans (hb.mono (by simp [go_sem]))
  have c0 : ∀ o, o < 5 → ∃ v, w2.cell? ⟨w.heap.size, o, none⟩ = some v := by
    intro o ho
    have e5 : o = 0 ∨ o = 1 ∨ o = 2 ∨ o = 3 ∨ o = 4 := by omega
    rw [hb.cell (p := ⟨w.heap.size, o, none⟩) (by simp [go_sem])]
    rcases e5 with rfl | rfl | rfl | rfl | rfl <;> exact ⟨_, by simp [go_sem]; rfl⟩
  have z0 : ∀ o, w2.frozen? ⟨w.heap.size, o, none⟩ = false := by
    intro o
    rw [hb.frozen (p := ⟨w.heap.size, o, none⟩) (by simp [go_sem])]
    simp [go_sem]
  obtain ⟨v0, y0⟩ := c0 0 (by omega)
  obtain ⟨v1, y1⟩ := c0 1 (by omega)
  obtain ⟨v2, y2⟩ := c0 2 (by omega)
  obtain ⟨v3, y3⟩ := c0 3 (by omega)
  obtain ⟨v4, y4⟩ := c0 4 (by omega)
  have HB := Lib.hid hb2
  clear hb hb2 H c0 q42 ht
  go_wp2
  refine bodyPost_ret (v := .agg #[.int .i32 tt.s, .int .i32 tt.l, .int .u16 0, .int .u8 tt.k, .int .u8 0]) (by simp [results, Try.results45, go_sem, y0, y1, y2, y3, y4]) rfl ⟨rfl, ?_⟩
  exact ((((HB.out.setCell (Nat.le_refl _) _).setCell (Nat.le_refl _) _).setCell (Nat.le_refl _) _).setCell (Nat.le_refl _) _).setCell (Nat.le_refl _) _

theorem field2 (a b c d e : Value) (w : World) : (Instr.field 69 (.agg #[a, b, c, d, e]) 2).run Try.prog w = .ok d w := by kernel_rfl

attribute [local go_sem] field2 in
set_option maxRecDepth 20000 in
theorem peek35 (p : Nat) (s : ByteArray) (r n : Nat) (f : Nat → Tk) (i : Nat) (k : Int) (w : World) (h : Psr w p s r n f i) (hi : i ≤ n) :
    Calls Try.prog 35 #[.pointer (some ⟨p, 0, none⟩), .int .u8 k] w fun e w' => e = .returned (.bool (decide (k = (cur s n f i).k))) ∧ Below w.heap.size w w' := by
  have H := Lib.hid h
  clear h
  obtain ⟨tt, ht⟩ : ∃ tt, tt = cur s n f i := ⟨_, rfl⟩
  rw [← ht]
  go_enter Try.func35, Try.ntmps35
  go_wp2_with fail
  refine (current45 p s r n f i _ H.out hi).mono ?_
  rw [← ht]
  rintro e w2 ⟨rfl, hb⟩
  have HB := Lib.hid hb
  clear hb H ht
  by_cases e : k = tt.k
  · go_wp2
    go_ret
    exact ⟨by simp [e], HB.out⟩
  · go_wp2
    go_ret
    exact ⟨by simp [e], HB.out⟩

set_option maxRecDepth 20000 in
theorem zpeek16 (p : Nat) (s : ByteArray) (r n : Nat) (f : Nat → Tk) (i : Nat) (k : Int) (w : World) (h : Psr w p s r n f i) (hi : i ≤ n) :
    Calls Try.prog 16 #[.pointer (some ⟨p, 0, none⟩), .int .u8 k] w fun e w' => e = .returned (.bool (decide (k = (cur s n f i).k))) ∧ Below w.heap.size w w' := by
  have H := Lib.hid h
  clear h
  go_enter Try.func16, Try.ntmps16
  go_wp2_with fail
  refine (peek35 p s r n f i k _ H.out hi).mono ?_
  rintro e w2 ⟨rfl, hb⟩
  have HB := Lib.hid hb
  clear hb H
  go_wp2
  go_ret
  exact ⟨rfl, HB.out⟩

set_option maxRecDepth 20000 in
theorem index17 (p : Nat) (s : ByteArray) (r n : Nat) (f : Nat → Tk) (i : Int) (w : World) (h : Psr w p s r n f i) :
    Calls Try.prog 17 #[.pointer (some ⟨p, 0, none⟩)] w fun e w' => e = .returned (.int .i64 i) ∧ w' = w := by
  have q42 := h.c42
  clear h
  go_enter Try.func17, Try.ntmps17
  go_wp2
  go_ret
  exact ⟨rfl, rfl⟩
end Go.Proofs.Ytnlohfbmknedhaa
