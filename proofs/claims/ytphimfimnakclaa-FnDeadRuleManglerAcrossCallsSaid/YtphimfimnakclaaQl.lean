/-
  The hashes. Conditions: each theorem's own.
-/
import Derived.Test.YtphimfimnakclaaQk
import Derived.Laws.RangeString
namespace Go.Proofs.Ytphimfimnakclaa
open Go.RowKit Go.Lib
def hc (x y : Int) : Int := bits BinOp.xor IntKind.u32 x ((y + 2654435769 + x * 64 + x / 4) % 4294967296)
set_option maxRecDepth 100000 in
theorem hc50 (x y : Int) (w : World) : Calls Try.prog 50 #[.int .u32 x, .int .u32 y] w fun e w' => e = .returned (.int .u32 (hc x y)) ∧ w = w' := by
  go_enter Try.func50, Try.ntmps50
  go_wp2_with fail
  go_ret
  exact ⟨rfl, rfl⟩
def chAt (s : ByteArray) (k : Nat) : Nat := if h : k < s.size then (s[k]'h).toNat else 0
/-- a string's hash after k letters -/
def hsk (x : Int) (s : ByteArray) : Nat → Int
  | 0 => hc x (s.size : Nat)
  | k + 1 => hc (hsk x s k) (chAt s k : Nat)
def hS (x : Int) (s : ByteArray) : Int := hsk x s s.size
structure HsR (z : Int) (w : World) (e : Ending) (w' : World) : Prop where
  ex : e = .returned (.int .u32 z) ∧ Below w.heap.size w w'
structure HsL (x : Int) (s : ByteArray) (w : World) (g : Nat) (v0 : Value) (wx : World) : Prop where
  ex : ∃ k, k + g = s.size ∧ v0 = .int .u32 (hsk x s k) ∧ wx = w.iter s k
set_option maxHeartbeats 4000000 in
set_option maxRecDepth 100000 in
theorem hs53 (x : Int) (s : ByteArray) (hs : s.size ≤ 65536) (ha : ∀ k (h : k < s.size), (s[k]'h).toNat < 128) (w : World) : Calls Try.prog 53 #[.int .u32 x, .string s] w fun e w' => HsR (hS x s) w e w' := by
  have u9 := Try.underlying9
  have e0 : IntKind.u32.wrap ((s.size : Nat) : Int) = (s.size : Int) := by
    unfold IntKind.wrap
    simp [IntKind.bits, IntKind.signed]
    omega
  have HL0 := hid (show HsL x s w s.size (.int .u32 (hc x (s.size : Nat))) (w.iter s 0) from ⟨0, by simp, rfl, rfl⟩)
  have HA := hid ha
  have HS := hid hs
  clear ha hs
  go_enter Try.func53, Try.ntmps53
  go_wp2_with (go_at_call 50; go_must (refine (hc50 _ _ _).mono ?_); rintro _ _ ⟨rfl, rfl⟩)
  go_loopg [0] s.size (fun g v0 wx => HsL x s w g v0 wx)
  case atStart => exact HL0.out
  case round =>
    obtain ⟨k, hk, rfl, rfl⟩ := hrel.ex
    clear hrel HL0
    cases gk with
    | zero =>
      have hke : k = s.size := by omega
      have hnx := fun ty => run_next_end (P := Try.prog) w s k ty (by omega)
      have HK := hid hke
      clear hke hk
      go_wp2_with fail
      go_ret
      exact ⟨by have := HK.out; subst this; rfl, (Below.refl _ _).alloc (Nat.le_refl _) _⟩
    | succ g =>
      have hlt : k < s.size := by omega
      have hnx := fun ty => run_next_ascii (P := Try.prog) w s k ty hlt (HA.out k hlt)
      have hch : ((s[k]'hlt).toNat : Int) = (chAt s k : Nat) := by unfold chAt; rw [dif_pos hlt]
      have hc1 : chAt s k < 128 := by unfold chAt; rw [dif_pos hlt]; exact HA.out k hlt
      rw [hch] at hnx
      have e1 : IntKind.u32.wrap ((chAt s k : Nat) : Int) = (chAt s k : Int) := by
        unfold IntKind.wrap
        simp [IntKind.bits, IntKind.signed]
        omega
      clear hch
      go_wp2_with (go_at_call 50; go_must (refine (hc50 _ _ _).mono ?_); rintro _ _ ⟨rfl, rfl⟩)
      go_roundg g
      case measure => omega
      case rel => exact ⟨k + 1, by omega, rfl, rfl⟩
end Go.Proofs.Ytphimfimnakclaa
