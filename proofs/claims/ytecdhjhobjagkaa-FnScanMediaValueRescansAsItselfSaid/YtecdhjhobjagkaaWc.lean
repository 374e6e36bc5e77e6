/-
  The contracts of the quad's making and of the exported compactTokenQuad. Condition: tokens without children.
-/
import Derived.Test.YtecdhjhobjagkaaWb
namespace Go.Proofs.Ytecdhjhobjagkaa
open Go.ChangeShapes Go.WideShapes Go.ChangeAt Go.RowKit

/-- what the exported compactTokenQuad gives -/
structure Cz (x0 x1 x2 x3 : Tok) (m : Bool) (w : World) (e : Ending) (w' : World) : Prop where
  ex : ∃ B, e = .returned (.slice (some ⟨B, 0, none⟩) (qn x0 x1 x2 x3) 4) ∧ w.heap.size ≤ B ∧ Hold B 4 (wsd m (qn x0 x1 x2 x3) (qn x0 x1 x2 x3) (four x0 x1 x2 x3)) w w'

set_option maxRecDepth 20000 in
set_option maxHeartbeats 2000000 in
theorem zcompact15 (x0 x1 x2 x3 : Tok) (m : Bool) (w : World) :
    Calls Try.prog 15 #[x0.v, x1.v, x2.v, x3.v, .bool m] w (Cz x0 x1 x2 x3 m w) := by
  simp only [Tok.v]
  go_enter Try.func15, Try.ntmps15
  go_wp2_with fail
  with_reducible refine (compact28 x0 x1 x2 x3 m _).mono ?_
  rintro e w2 ⟨rfl, hh⟩
  have HH := Lib.hid hh
  clear hh
  generalize hn : qn x0 x1 x2 x3 = n at *
  go_wp2_with fail
  go_ret
  have hh := HH.out
  have hb : Below w.heap.size w ((((w.alloc (.cells #[.pointer none, .string x0.t, .int .i32 x0.s, .int .u32 x0.p, .int .u16 0, .int .u8 x0.k, .int .u8 x0.ws] 42)).alloc (.cells #[.pointer none, .string x1.t, .int .i32 x1.s, .int .u32 x1.p, .int .u16 0, .int .u8 x1.k, .int .u8 x1.ws] 42)).alloc (.cells #[.pointer none, .string x2.t, .int .i32 x2.s, .int .u32 x2.p, .int .u16 0, .int .u8 x2.k, .int .u8 x2.ws] 42)).alloc (.cells #[.pointer none, .string x3.t, .int .i32 x3.s, .int .u32 x3.p, .int .u16 0, .int .u8 x3.k, .int .u8 x3.ws] 42)) :=
    ((((Below.refl _ _).alloc (Nat.le_refl _) _).alloc (by simp [go_sem]) _).alloc (by simp [go_sem]; omega) _).alloc (by simp [go_sem]; omega) _
  have hs : w.heap.size ≤ ((((w.alloc (.cells #[.pointer none, .string x0.t, .int .i32 x0.s, .int .u32 x0.p, .int .u16 0, .int .u8 x0.k, .int .u8 x0.ws] 42)).alloc (.cells #[.pointer none, .string x1.t, .int .i32 x1.s, .int .u32 x1.p, .int .u16 0, .int .u8 x1.k, .int .u8 x1.ws] 42)).alloc (.cells #[.pointer none, .string x2.t, .int .i32 x2.s, .int .u32 x2.p, .int .u16 0, .int .u8 x2.k, .int .u8 x2.ws] 42)).alloc (.cells #[.pointer none, .string x3.t, .int .i32 x3.s, .int .u32 x3.p, .int .u16 0, .int .u8 x3.k, .int .u8 x3.ws] 42)).heap.size := hb.size
  have ht := hh.toks
  rw [show (((((w.alloc (.cells #[.pointer none, .string x0.t, .int .i32 x0.s, .int .u32 x0.p, .int .u16 0, .int .u8 x0.k, .int .u8 x0.ws] 42)).alloc (.cells #[.pointer none, .string x1.t, .int .i32 x1.s, .int .u32 x1.p, .int .u16 0, .int .u8 x1.k, .int .u8 x1.ws] 42)).alloc (.cells #[.pointer none, .string x2.t, .int .i32 x2.s, .int .u32 x2.p, .int .u16 0, .int .u8 x2.k, .int .u8 x2.ws] 42)).alloc (.cells #[.pointer none, .string x3.t, .int .i32 x3.s, .int .u32 x3.p, .int .u16 0, .int .u8 x3.k, .int .u8 x3.ws] 42)).heap.size + 4) = w.heap.size + 1 + 1 + 1 + 1 + 4 by simp [go_sem]] at ht
  refine ⟨_, by rw [hn]; rfl, by omega, by rw [hn]; exact ⟨ht, hb.trans (hh.below.mono hs), Nat.le_trans hs hh.size⟩⟩

/-- a row of four tokens under way in block Q -/
structure TkQ (Q k : Nat) (x : Nat → Tok) (w : World) : Prop where
  size : Q < w.heap.size
  c : ∀ o, o < 28 → ∃ v, w.cell? ⟨Q, o, none⟩ = some v
  t : ∀ i o, i < k → o < 7 → w.cell? ⟨Q, i * 7 + o, none⟩ = some ((x i).at o)
  z : ∀ o, w.frozen? ⟨Q, o, none⟩ = false

theorem TkQ.drew {Q k : Nat} {x : Nat → Tok} {w : World} (h : TkQ Q k x w) : TkQ Q k x w.drew :=
  ⟨h.size, h.c, h.t, h.z⟩

theorem TkQ.put {Q k : Nat} {x : Nat → Tok} {w : World} (h : TkQ Q k x w) (o : Nat) (v : Value) (ho : k * 7 ≤ o) : TkQ Q k x (w.setCell ⟨Q, o, none⟩ v) := by
  refine ⟨by simpa [go_sem] using h.size, fun q hq => ?_, fun i q hi hq => ?_, fun q => ?_⟩
  · by_cases e : q = o
    · subst e
      obtain ⟨u, hu⟩ := h.c q hq
      exact ⟨v, World.cell?_setCell_same _ _ _ hu⟩
    · rw [World.cell?_setCell_other _ _ _ _ (by simp <;> omega)]; exact h.c q hq
  · rw [World.cell?_setCell_other _ _ _ _ (by simp <;> omega)]; exact h.t i q hi hq
  · rw [World.frozen?_setCell]; exact h.z q

theorem cell_drew (w : World) (a : Addr) : w.drew.cell? a = w.cell? a := rfl
def cellAt (w : World) (a : Addr) : Value := (w.cell? a).getD (.int .u8 0)
theorem TkQ.holds {Q k : Nat} {x : Nat → Tok} {w : World} (h : TkQ Q k x w) (o : Nat) (ho : o < 28) : w.cell? ⟨Q, o, none⟩ = some (cellAt w ⟨Q, o, none⟩) := by
  obtain ⟨v, hv⟩ := h.c o ho
  rw [cellAt, hv]; rfl
theorem same_of {w : World} {a : Addr} {v : Value} (h : ∃ u, w.cell? a = some u) : (w.setCell a v).cell? a = some v := by
  obtain ⟨u, hu⟩ := h
  exact World.cell?_setCell_same _ _ _ hu

abbrev put7 (r o : Nat) (v0 v1 v2 v3 v4 v5 v6 : Value) (w : World) : World := ((((((w.setCell ⟨r, o, none⟩ v0).setCell ⟨r, o + 1, none⟩ v1).setCell ⟨r, o + 2, none⟩ v2).setCell ⟨r, o + 3, none⟩ v3).setCell ⟨r, o + 4, none⟩ v4).setCell ⟨r, o + 5, none⟩ v5).setCell ⟨r, o + 6, none⟩ v6

theorem TkQ.next {Q k : Nat} {x : Nat → Tok} {w : World} (h : TkQ Q k x w) (hk : k < 4) :
    TkQ Q (k + 1) x ((put7 Q (k * 7) (.pointer none) (.string (x k).t) (.int .i32 0) (.int .u32 (x k).p) (.int .u16 0) (.int .u8 (x k).k) (.int .u8 (x k).ws) w).setCell ⟨Q, k * 7 + 2, none⟩ (.int .i32 (x k).s)).drew := by
  have h0 := h.put (k * 7) (.pointer none) (Nat.le_refl _)
  have h1 := h0.put (k * 7 + 1) (.string (x k).t) (by omega)
  have h2 := h1.put (k * 7 + 2) (.int .i32 0) (by omega)
  have h3 := h2.put (k * 7 + 3) (.int .u32 (x k).p) (by omega)
  have h4 := h3.put (k * 7 + 4) (.int .u16 0) (by omega)
  have h5 := h4.put (k * 7 + 5) (.int .u8 (x k).k) (by omega)
  have h6 := h5.put (k * 7 + 6) (.int .u8 (x k).ws) (by omega)
  have h7 := (h6.put (k * 7 + 2) (.int .i32 (x k).s) (by omega)).drew
  refine ⟨h7.size, h7.c, fun i o hi ho => ?_, h7.z⟩
  by_cases e : i = k
  · subst e
    have e7 : o = 0 ∨ o = 1 ∨ o = 2 ∨ o = 3 ∨ o = 4 ∨ o = 5 ∨ o = 6 := by omega
    rcases e7 with rfl | rfl | rfl | rfl | rfl | rfl | rfl
    · rw [cell_drew, World.cell?_setCell_other _ _ _ _ (by simp)]
      rw [World.cell?_setCell_other _ _ _ _ (by simp), World.cell?_setCell_other _ _ _ _ (by simp), World.cell?_setCell_other _ _ _ _ (by simp), World.cell?_setCell_other _ _ _ _ (by simp), World.cell?_setCell_other _ _ _ _ (by simp), World.cell?_setCell_other _ _ _ _ (by simp)]
      exact same_of (h.c _ (by omega))
    · rw [cell_drew, World.cell?_setCell_other _ _ _ _ (by simp)]
      rw [World.cell?_setCell_other _ _ _ _ (by simp), World.cell?_setCell_other _ _ _ _ (by simp), World.cell?_setCell_other _ _ _ _ (by simp), World.cell?_setCell_other _ _ _ _ (by simp), World.cell?_setCell_other _ _ _ _ (by simp)]
      exact same_of (h0.c _ (by omega))
    · rw [cell_drew]
      exact same_of (h6.c _ (by omega))
    · rw [cell_drew, World.cell?_setCell_other _ _ _ _ (by simp)]
      rw [World.cell?_setCell_other _ _ _ _ (by simp), World.cell?_setCell_other _ _ _ _ (by simp), World.cell?_setCell_other _ _ _ _ (by simp)]
      exact same_of (h2.c _ (by omega))
    · rw [cell_drew, World.cell?_setCell_other _ _ _ _ (by simp)]
      rw [World.cell?_setCell_other _ _ _ _ (by simp), World.cell?_setCell_other _ _ _ _ (by simp)]
      exact same_of (h3.c _ (by omega))
    · rw [cell_drew, World.cell?_setCell_other _ _ _ _ (by simp)]
      rw [World.cell?_setCell_other _ _ _ _ (by simp)]
      exact same_of (h4.c _ (by omega))
    · rw [cell_drew, World.cell?_setCell_other _ _ _ _ (by simp)]
      exact same_of (h5.c _ (by omega))
  · exact h7.t i o (by omega) ho

/-- the world of zzQuad: the four arrays boxed, the result's cell and the quad laid -/
abbrev W6 (x0 x1 x2 x3 : Tok) (w : World) : World :=
  (((((w.alloc (.cells #[.int .u8 x0.k, .int .u8 x1.k, .int .u8 x2.k, .int .u8 x3.k] 29)).alloc
    (.cells #[.string x0.t, .string x1.t, .string x2.t, .string x3.t] 30)).alloc
    (.cells #[.int .u32 x0.p, .int .u32 x1.p, .int .u32 x2.p, .int .u32 x3.p] 32)).alloc
    (.cells #[.int .u8 x0.ws, .int .u8 x1.ws, .int .u8 x2.ws, .int .u8 x3.ws] 29)).alloc
    (.cells #[.pointer none, .string ⟨#[]⟩, .int .i32 0, .int .u32 0, .int .u16 0, .int .u8 0, .int .u8 0, .pointer none, .string ⟨#[]⟩, .int .i32 0, .int .u32 0, .int .u16 0, .int .u8 0, .int .u8 0, .pointer none, .string ⟨#[]⟩, .int .i32 0, .int .u32 0, .int .u16 0, .int .u8 0, .int .u8 0, .pointer none, .string ⟨#[]⟩, .int .i32 0, .int .u32 0, .int .u16 0, .int .u8 0, .int .u8 0] 43)).alloc
    (.cells #[.pointer none, .string ⟨#[]⟩, .int .i32 0, .int .u32 0, .int .u16 0, .int .u8 0, .int .u8 0, .pointer none, .string ⟨#[]⟩, .int .i32 0, .int .u32 0, .int .u16 0, .int .u8 0, .int .u8 0, .pointer none, .string ⟨#[]⟩, .int .i32 0, .int .u32 0, .int .u16 0, .int .u8 0, .int .u8 0, .pointer none, .string ⟨#[]⟩, .int .i32 0, .int .u32 0, .int .u16 0, .int .u8 0, .int .u8 0] 43)

theorem W6_cells (x0 x1 x2 x3 : Tok) (w : World) (k : Nat) (hk : k < 4) : (W6 x0 x1 x2 x3 w).cell? ⟨w.heap.size, k, none⟩ = some (.int .u8 (four x0 x1 x2 x3 k).k) ∧ (W6 x0 x1 x2 x3 w).cell? ⟨w.heap.size + 1, k, none⟩ = some (.string (four x0 x1 x2 x3 k).t) ∧ (W6 x0 x1 x2 x3 w).cell? ⟨w.heap.size + 1 + 1, k, none⟩ = some (.int .u32 (four x0 x1 x2 x3 k).p) ∧ (W6 x0 x1 x2 x3 w).cell? ⟨w.heap.size + 1 + 1 + 1, k, none⟩ = some (.int .u8 (four x0 x1 x2 x3 k).ws) := by
  have e : k = 0 ∨ k = 1 ∨ k = 2 ∨ k = 3 := by omega
  rcases e with rfl | rfl | rfl | rfl <;> simp [go_sem, four]

def list28 (x0 x1 x2 x3 : Tok) : List Value := [.pointer none, .string x0.t, .int .i32 x0.s, .int .u32 x0.p, .int .u16 0, .int .u8 x0.k, .int .u8 x0.ws, .pointer none, .string x1.t, .int .i32 x1.s, .int .u32 x1.p, .int .u16 0, .int .u8 x1.k, .int .u8 x1.ws, .pointer none, .string x2.t, .int .i32 x2.s, .int .u32 x2.p, .int .u16 0, .int .u8 x2.k, .int .u8 x2.ws, .pointer none, .string x3.t, .int .i32 x3.s, .int .u32 x3.p, .int .u16 0, .int .u8 x3.k, .int .u8 x3.ws]
theorem list28_at (x0 x1 x2 x3 : Tok) (j : Nat) (h : j < 28) : (list28 x0 x1 x2 x3)[j]? = some ((four x0 x1 x2 x3 (j / 7)).at (j % 7)) := by
  have e : j = 7 * (j / 7) + j % 7 := by omega
  have e1 : j / 7 = 0 ∨ j / 7 = 1 ∨ j / 7 = 2 ∨ j / 7 = 3 := by omega
  have e2 : j % 7 = 0 ∨ j % 7 = 1 ∨ j % 7 = 2 ∨ j % 7 = 3 ∨ j % 7 = 4 ∨ j % 7 = 5 ∨ j % 7 = 6 := by omega
  generalize j / 7 = a at *
  generalize j % 7 = b at *
  subst e
  rcases e1 with rfl | rfl | rfl | rfl <;> rcases e2 with rfl | rfl | rfl | rfl | rfl | rfl | rfl <;> simp [list28, four, Tok.at]
theorem info43 : (Try.prog.info? 43).map (·.size) = some 28 := by kernel_rfl

structure LoopQ (x0 x1 x2 x3 : Tok) (w : World) (i : Value) (wr : World) : Prop where
  ex : ∃ k : Nat, k ≤ 4 ∧ i = .int .i64 k ∧ TkQ (w.heap.size + 1 + 1 + 1 + 1 + 1) k (four x0 x1 x2 x3) wr ∧ Below (w.heap.size + 1 + 1 + 1 + 1 + 1) (W6 x0 x1 x2 x3 w) wr

end Go.Proofs.Ytecdhjhobjagkaa
