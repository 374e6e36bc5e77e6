/-
  The contracts of the token-quad laws' helpers: equality but for whitespace, the shorthand's index. Condition: tokens without children.
-/
import Derived.Test.YtecdhjhobjagkaaIo
import Derived.WalkKit
import Derived.ProofKit
import Derived.OpenShut
import Derived.LoopTactic
import Derived.RegionTactic
import Derived.Lib.Hide
import Derived.Below
import Derived.WalkSmall
import Derived.OwnWalk
import Derived.Laws.MakeOwn
import Derived.Deep.RegionHeld3
import Derived.Deep.QuietTactic
import Derived.BigQuiet
import Derived.Handy
import Derived.Outline
namespace Go.Proofs.Ytecdhjhobjagkaa
open Go.ChangeShapes Go.WideShapes Go.ChangeAt Go.RowKit

/-- a token without children: text, place, payload, kind, whitespace -/
structure Tok where
  t : ByteArray
  s : Int
  p : Int
  k : Int
  ws : Int
def Tok.at (x : Tok) (o : Nat) : Value := if o = 0 then .pointer none else if o = 1 then .string x.t else if o = 2 then .int .i32 x.s else if o = 3 then .int .u32 x.p else if o = 4 then .int .u16 0 else if o = 5 then .int .u8 x.k else .int .u8 x.ws
abbrev Tok.v (x : Tok) : Value := .agg #[.pointer none, .string x.t, .int .i32 x.s, .int .u32 x.p, .int .u16 0, .int .u8 x.k, .int .u8 x.ws]
def teq (x y : Tok) : Bool := decide (x.k = y.k ∧ x.t.toList = y.t.toList ∧ x.p = y.p)

set_option maxRecDepth 20000 in
set_option maxHeartbeats 1000000 in
theorem eq17 (x y : Tok) (w : World) :
    Calls Try.prog 17 #[x.v, y.v] w fun e w' => e = .returned (.bool (teq x y)) ∧ Below w.heap.size w w' := by
  obtain ⟨xt, xs, xp, xk, xw⟩ := x
  obtain ⟨yt, ys, yp, yk, yw⟩ := y
  simp only [Tok.v, teq]
  by_cases h1 : xk = yk
  · by_cases h2 : xt.toList = yt.toList
    · by_cases h3 : xp = yp
      · subst h1 h3
        go_enter Try.func17, Try.ntmps17
        go_wp2_with fail
        go_ret
        exact ⟨by simp [h2], ((Below.refl _ _).alloc (Nat.le_refl _) _).alloc (by simp [go_sem]) _⟩
      · subst h1
        go_enter Try.func17, Try.ntmps17
        go_wp2_with fail
        go_ret
        exact ⟨by simp [h3], ((Below.refl _ _).alloc (Nat.le_refl _) _).alloc (by simp [go_sem]) _⟩
    · subst h1
      go_enter Try.func17, Try.ntmps17
      go_wp2_with fail
      go_ret
      exact ⟨by simp [h2], ((Below.refl _ _).alloc (Nat.le_refl _) _).alloc (by simp [go_sem]) _⟩
  · go_enter Try.func17, Try.ntmps17
    go_wp2_with fail
    go_ret
    exact ⟨by simp [h1], ((Below.refl _ _).alloc (Nat.le_refl _) _).alloc (by simp [go_sem]) _⟩

/-- which of k written values stands for side i -/
def qix (k i : Nat) : Nat := if k ≤ 1 then 0 else if i < k then i else if i = 3 then 1 else 0

theorem index16 (k i : Nat) (w : World) (hk : k ≤ 4) (hi : i < 4) :
    Calls Try.prog 16 #[.int .i64 k, .int .i64 i] w fun e w' => e = .returned (.int .i64 (qix k i : Nat)) ∧ w' = w := by
  unfold qix
  by_cases h1 : k ≤ 1
  · go_enter Try.func16, Try.ntmps16
    go_wp2_with fail
    go_ret
    exact ⟨by simp [h1], rfl⟩
  · by_cases h2 : i < k
    · go_enter Try.func16, Try.ntmps16
      go_wp2_with fail
      go_ret
      exact ⟨by simp [h1, h2], rfl⟩
    · by_cases h3 : i = 3
      · subst h3
        go_enter Try.func16, Try.ntmps16
        go_wp2_with fail
        go_ret
        exact ⟨by simp [h1, h2], rfl⟩
      · have h3' : ((i : Int) == 3) = false := by simp; omega
        go_enter Try.func16, Try.ntmps16
        go_wp2_with fail
        go_ret
        exact ⟨by simp [h1, h2, h3], rfl⟩

/-- a row of n tokens -/
structure Toks (B n : Nat) (x : Nat → Tok) (w : World) : Prop where
  size : B < w.heap.size
  c : ∀ i o, i < n → o < 7 → w.cell? ⟨B, i * 7 + o, none⟩ = some ((x i).at o)
  z : ∀ o, w.frozen? ⟨B, o, none⟩ = false

theorem Toks.call {B n : Nat} {x : Nat → Tok} {w w' : World} (h : Toks B n x w) (hb : Below w.heap.size w w') : Toks B n x w' := by
  have hs := h.size
  have hz := hb.size
  refine ⟨by omega, fun i o hi ho => ?_, fun o => ?_⟩
  · rw [hb.cell (p := ⟨B, i * 7 + o, none⟩) hs]; exact h.c i o hi ho
  · rw [hb.frozen (p := ⟨B, o, none⟩) hs]; exact h.z o

def four (x0 x1 x2 x3 : Tok) (i : Nat) : Tok := if i = 0 then x0 else if i = 1 then x1 else if i = 2 then x2 else x3

/-- the world with the four tokens boxed and laid in a row -/
abbrev W5 (x0 x1 x2 x3 : Tok) (w : World) : World :=
  ((((w.alloc (.cells #[.pointer none, .string x0.t, .int .i32 x0.s, .int .u32 x0.p, .int .u16 0, .int .u8 x0.k, .int .u8 x0.ws] 42)).alloc
    (.cells #[.pointer none, .string x1.t, .int .i32 x1.s, .int .u32 x1.p, .int .u16 0, .int .u8 x1.k, .int .u8 x1.ws] 42)).alloc
    (.cells #[.pointer none, .string x2.t, .int .i32 x2.s, .int .u32 x2.p, .int .u16 0, .int .u8 x2.k, .int .u8 x2.ws] 42)).alloc
    (.cells #[.pointer none, .string x3.t, .int .i32 x3.s, .int .u32 x3.p, .int .u16 0, .int .u8 x3.k, .int .u8 x3.ws] 42)).alloc
    (.cells #[.pointer none, .string x0.t, .int .i32 x0.s, .int .u32 x0.p, .int .u16 0, .int .u8 x0.k, .int .u8 x0.ws,
      .pointer none, .string x1.t, .int .i32 x1.s, .int .u32 x1.p, .int .u16 0, .int .u8 x1.k, .int .u8 x1.ws,
      .pointer none, .string x2.t, .int .i32 x2.s, .int .u32 x2.p, .int .u16 0, .int .u8 x2.k, .int .u8 x2.ws,
      .pointer none, .string x3.t, .int .i32 x3.s, .int .u32 x3.p, .int .u16 0, .int .u8 x3.k, .int .u8 x3.ws] 42)

theorem toks_five (x0 x1 x2 x3 : Tok) (w : World) : Toks (w.heap.size + 4) 4 (four x0 x1 x2 x3) (W5 x0 x1 x2 x3 w) := by
  refine ⟨by simp [go_sem], fun i o hi ho => ?_, fun o => by simp [go_sem]⟩
  have hi' : i = 0 ∨ i = 1 ∨ i = 2 ∨ i = 3 := by omega
  have ho' : o = 0 ∨ o = 1 ∨ o = 2 ∨ o = 3 ∨ o = 4 ∨ o = 5 ∨ o = 6 := by omega
  rcases hi' with rfl | rfl | rfl | rfl <;> rcases ho' with rfl | rfl | rfl | rfl | rfl | rfl | rfl <;> simp [go_sem, four, Tok.at]

theorem below_five (x0 x1 x2 x3 : Tok) (w : World) : Below w.heap.size w (W5 x0 x1 x2 x3 w) :=
  (((((Below.refl _ _).alloc (Nat.le_refl _) _).alloc (by simp [go_sem]) _).alloc (by simp [go_sem]; omega) _).alloc (by simp [go_sem]; omega) _).alloc (by simp [go_sem]; omega) _

/-- the cells of token i of a row at B -/
abbrev TkC (B a : Nat) (x : Tok) (w' : World) : Prop :=
  w'.cell? ⟨B, a, none⟩ = some (.pointer none) ∧ w'.cell? ⟨B, a + 1, none⟩ = some (.string x.t) ∧ w'.cell? ⟨B, a + 2, none⟩ = some (.int .i32 x.s) ∧ w'.cell? ⟨B, a + 3, none⟩ = some (.int .u32 x.p) ∧ w'.cell? ⟨B, a + 4, none⟩ = some (.int .u16 0) ∧ w'.cell? ⟨B, a + 5, none⟩ = some (.int .u8 x.k) ∧ w'.cell? ⟨B, a + 6, none⟩ = some (.int .u8 x.ws)

theorem Toks.tok {B n : Nat} {x : Nat → Tok} {w : World} (h : Toks B n x w) (i : Nat) (hi : i < n) : TkC B (i * 7) (x i) w :=
  ⟨h.c i 0 hi (by omega), h.c i 1 hi (by omega), h.c i 2 hi (by omega), h.c i 3 hi (by omega), h.c i 4 hi (by omega), h.c i 5 hi (by omega), h.c i 6 hi (by omega)⟩

/-- grown, and the row still lies there -/
structure Hold (B n : Nat) (x : Nat → Tok) (w0 w : World) : Prop where
  toks : Toks B n x w
  below : Below w0.heap.size w0 w
  size : w0.heap.size ≤ w.heap.size

theorem Hold.call {B n : Nat} {x : Nat → Tok} {w0 w w' : World} (h : Hold B n x w0 w) (hb : Below w.heap.size w w') : Hold B n x w0 w' :=
  ⟨h.toks.call hb, h.below.trans (hb.mono h.size), Nat.le_trans h.size hb.size⟩

/-- the state of a region that compares tokens i and j -/
abbrev CmpS (B n i j : Nat) (x : Nat → Tok) (w0 w' : World) : Prop := TkC B (i * 7) (x i) w' ∧ TkC B (j * 7) (x j) w' ∧ Hold B n x w0 w'
theorem Hold.cmp {B n : Nat} {x : Nat → Tok} {w0 w : World} (h : Hold B n x w0 w) (i j : Nat) (hi : i < n) (hj : j < n) : CmpS B n i j x w0 w := ⟨h.toks.tok i hi, h.toks.tok j hj, h⟩
theorem CmpS.call {B n i j : Nat} {x : Nat → Tok} {w0 w w' : World} (h : CmpS B n i j x w0 w) (hi : i < n) (hj : j < n) (hb : Below w.heap.size w w') : CmpS B n i j x w0 w' := (h.2.2.call hb).cmp i j hi hj
end Go.Proofs.Ytecdhjhobjagkaa
