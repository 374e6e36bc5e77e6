import Derived.Test.YtgkphknholechaaIo
import Derived.WalkKit
import Derived.WalkLawsBesides
import Derived.ProofKit
import Derived.OpenShut
import Derived.RegionTactic
import Derived.LoopTactic
import Derived.Lib.Hide
namespace Go.Proofs.Ytgkphknholechaa
open Go.ChangeShapes Go.WideShapes Go.ChangeAt Go.RowKit

/-- a side of a box, as the law makes it -/
structure Sd where
  k : Int
  s : Int
  i : Int
  g : Bool
/-- its eleven cells -/
def Sd.cells (x : Sd) : Array Value := #[.pointer none, .string ⟨#[]⟩, .int .i32 0, .int .u32 0, .int .u16 0, .int .u8 x.k, .int .u8 0, .string ⟨#[]⟩, .int .u8 x.s, .int .u32 x.i, .bool x.g]
def Sd.at (x : Sd) (o : Nat) : Value := x.cells.getD o .nilIface

def kindOf (c : Int) : Int := if c.tmod 5 = 0 then 0 else if c.tmod 5 = 1 then 30 else if c.tmod 5 = 2 then 34 else if c.tmod 5 = 3 then 26 else 29

theorem kind20 (c : Int) (w : World) (hc : (Lit.int .u8 c).wf = true) : Calls Try.prog 20 #[.int .u8 c] w fun e w' => e = .returned (.int .u8 (kindOf c)) ∧ w' = w := by
  obtain ⟨h0, h1⟩ := bounds_u8 hc
  have hm : c.tmod 5 = c % 5 := Int.tmod_eq_emod_of_nonneg h0
  unfold kindOf
  by_cases e0 : c.tmod 5 = 0
  · rw [if_pos e0]
    go_enter Try.func20, Try.ntmps20
    go_wp2
    go_ret
    exact ⟨rfl, rfl⟩
  rw [if_neg e0]
  by_cases e1 : c.tmod 5 = 1
  · rw [if_pos e1]
    go_enter Try.func20, Try.ntmps20
    go_wp2
    go_ret
    exact ⟨rfl, rfl⟩
  rw [if_neg e1]
  by_cases e2 : c.tmod 5 = 2
  · rw [if_pos e2]
    go_enter Try.func20, Try.ntmps20
    go_wp2
    go_ret
    exact ⟨rfl, rfl⟩
  rw [if_neg e2]
  by_cases e3 : c.tmod 5 = 3
  · rw [if_pos e3]
    go_enter Try.func20, Try.ntmps20
    go_wp2
    go_ret
    exact ⟨rfl, rfl⟩
  rw [if_neg e3]
  go_enter Try.func20, Try.ntmps20
  go_wp2
  go_ret
  exact ⟨rfl, rfl⟩

theorem side19 (x : Sd) (w : World) : Calls Try.prog 19 #[.int .u8 x.k, .int .u8 x.s, .int .u32 x.i, .bool x.g] w fun e w' => e = .returned (.agg x.cells) ∧ w' = w.alloc (.cells x.cells 54) := by
  go_enter Try.func19, Try.ntmps19
  go_wp2
  exact bodyPost_ret (v := .agg x.cells) (by simp [results, Try.results19, go_sem, Sd.cells]) rfl ⟨rfl, rfl⟩

theorem data23 (l : Int) (w : World) : Calls Try.prog 23 #[.agg #[.nilIface, .int .i32 l]] w fun e w' => e = .returned (.bool false) ∧ w' = w.alloc (.cells #[.nilIface, .int .i32 l] 63) := by
  go_enter Try.func23, Try.ntmps23
  go_wp2
  go_ret
  exact ⟨rfl, rfl⟩

/-- the box: block b holds the four sides f -/
def Box (w : World) (b : Nat) (f : Nat → Sd) : Prop := (∀ j o, j < 4 → o < 11 → w.cell? ⟨b, 1 + j * 11 + o, none⟩ = some ((f j).at o)) ∧ ∀ o, w.frozen? ⟨b, o, none⟩ = false

/-- eleven cells stored one after the other -/
def puts (b base : Nat) (x : Sd) : Nat → World → World
  | 0, w => w
  | n + 1, w => (puts b base x n w).setCell ⟨b, base + n, none⟩ (x.at n)

def upd (f : Nat → Sd) (j : Nat) (x : Sd) : Nat → Sd := fun i => if i = j then x else f i

theorem puts_frozen (b base : Nat) (x : Sd) (n : Nat) (w : World) (a : Addr) : (puts b base x n w).frozen? a = w.frozen? a := by
  induction n with
  | zero => rfl
  | succ n ih => rw [puts, ← ih]; simp [go_sem]
theorem puts_block (b base : Nat) (x : Sd) (n : Nat) (w : World) (c o : Nat) (h : b ≠ c) : (puts b base x n w).cell? ⟨c, o, none⟩ = w.cell? ⟨c, o, none⟩ := by
  induction n with
  | zero => rfl
  | succ n ih => rw [puts, ← ih]; simp [go_sem]
theorem puts_out (b base : Nat) (x : Sd) (n : Nat) (w : World) (o : Nat) (h : o < base ∨ base + n ≤ o) : (puts b base x n w).cell? ⟨b, o, none⟩ = w.cell? ⟨b, o, none⟩ := by
  induction n with
  | zero => rfl
  | succ n ih =>
    rw [puts, ← ih (by omega)]
    have : base + n ≠ o := by omega
    simp [go_sem]
theorem puts_in (b base : Nat) (x : Sd) (n : Nat) (w : World) (o : Nat) (h : o < n) (hs : ∀ o < n, (w.cell? ⟨b, base + o, none⟩).isSome = true) : (puts b base x n w).cell? ⟨b, base + o, none⟩ = some (x.at o) := by
  induction n with
  | zero => omega
  | succ n ih =>
    rw [puts]
    by_cases e : o = n
    · subst e
      have k := puts_out b base x o w (base + o) (by omega)
      obtain ⟨y, hy⟩ := Option.isSome_iff_exists.mp (hs o (by omega))
      rw [hy] at k
      simp [go_sem, k]
    · rw [← ih (by omega) (fun o h => hs o (by omega))]
      have : base + n ≠ base + o := by omega
      simp [go_sem]
theorem puts_below (b base : Nat) (x : Sd) (n : Nat) (w w0 : World) (m : Nat) (hm : m ≤ b) (h : Below m w0 w) : Below m w0 (puts b base x n w) := by
  induction n with
  | zero => exact h
  | succ n ih => exact Below.setCell ih (by simpa using hm) _

theorem Box.put {w : World} {b : Nat} {f : Nat → Sd} (h : Box w b f) (j : Nat) (hj : j < 4) (x : Sd) : Box (puts b (1 + j * 11) x 11 w) b (upd f j x) := by
  refine ⟨fun i o hi ho => ?_, fun o => by rw [puts_frozen]; exact h.2 o⟩
  by_cases e : i = j
  · subst e
    rw [puts_in b _ x 11 w o ho (fun o ho => by rw [h.1 i o hi ho]; rfl)]
    simp [upd]
  · rw [puts_out b _ x 11 w _ (by omega), h.1 i o hi ho]
    simp [upd, e]
