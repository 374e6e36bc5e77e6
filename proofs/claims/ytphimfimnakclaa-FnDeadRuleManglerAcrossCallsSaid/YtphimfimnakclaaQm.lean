/-
  The hash of a plain pseudo-class. Conditions: each theorem's own.
-/
import Derived.Test.YtphimfimnakclaaQl
namespace Go.Proofs.Ytphimfimnakclaa
open Go.RowKit Go.Lib
set_option maxRecDepth 100000 in
theorem h67nil (x : Int) (w : World) : Calls Try.prog 67 #[.int .u32 x, .slice none 0 0] w fun e w' => e = .returned (.int .u32 (hc x 0)) ∧ w = w' := by
  go_enter Try.func67, Try.ntmps67
  go_wp2_with (go_at_call 50; go_must (refine (hc50 _ _ _).mono ?_); rintro _ _ ⟨rfl, rfl⟩)
  go_loopg [0, 14] 0 (fun g v0 v14 wx => v0 = .int .u32 (hc x 0) ∧ v14 = .int .i64 0 ∧ wx = w)
  case atStart => exact ⟨rfl, rfl, rfl⟩
  case round =>
    obtain ⟨rfl, rfl, rfl⟩ := hrel
    go_wp2_with fail
    go_ret
    exact ⟨rfl, rfl⟩
set_option maxRecDepth 100000 in
theorem h52nil (x : Int) (w : World) : Calls Try.prog 52 #[.int .u32 x, .slice none 0 0] w fun e w' => e = .returned (.int .u32 (hc x 0)) ∧ w = w' := by
  go_enter Try.func52, Try.ntmps52
  go_wp2_with (go_at_call 50; go_must (refine (hc50 _ _ _).mono ?_); rintro _ _ ⟨rfl, rfl⟩)
  go_loopg [0, 16] 0 (fun g v0 v16 wx => v0 = .int .u32 (hc x 0) ∧ v16 = .int .i64 0 ∧ wx = w)
  case atStart => exact ⟨rfl, rfl, rfl⟩
  case round =>
    obtain ⟨rfl, rfl, rfl⟩ := hrel
    go_wp2_with fail
    go_ret
    exact ⟨rfl, rfl⟩
abbrev hovS : ByteArray := ⟨#[104, 111, 118, 101, 114]⟩
theorem hov_ascii : ∀ k (h : k < hovS.size), (hovS[k]'h).toNat < 128 := by decide
def hP : Int := hc (hS 4 hovS) 0
set_option maxRecDepth 100000 in
theorem h65 (b : Nat) (w : World) (hh : w.heap[b]? = some (.cells hov 110 (0, 0))) : Calls Try.prog 65 #[.pointer (some ⟨b, 0, none⟩)] w fun e w' => HsR hP w e w' := by
  obtain ⟨c0, _⟩ : w.cell? ⟨b, 0, none⟩ = some (.string hovS) ∧ w.frozen? ⟨b, 0, none⟩ = false := hcell hh 0 _ rfl
  have hlt := heap_lt hh
  have C := hid (hs53 4 hovS (by decide) hov_ascii w)
  have HH := hid hh
  clear hh
  go_enter Try.func65, Try.ntmps65
  go_wp2_with fail
  refine C.out.mono ?_
  rintro e w1 hR
  obtain ⟨rfl, hB⟩ := hR.ex
  clear hR
  have h1 := (hB.block b hlt).trans HH.out
  obtain ⟨c1, _⟩ : w1.cell? ⟨b, 1, none⟩ = some (.slice none 0 0) ∧ w1.frozen? ⟨b, 1, none⟩ = false := hcell h1 1 _ rfl
  have HB := hid hB
  clear hB h1 C c0
  go_wp2_with (go_at_call 67; go_must (refine (h67nil _ _).mono ?_); rintro _ _ ⟨rfl, rfl⟩)
  go_ret
  exact ⟨rfl, HB.out⟩
theorem meth65 (v : Value) (w : World) : (method (Try.prog.types.size + Made.depth) 107 v "Hash").run Try.prog w = .ok (65, v) w := by kernel_rfl
theorem meth60 (v : Value) (w : World) : (method (Try.prog.types.size + Made.depth) 98 v "Hash").run Try.prog w = .ok (60, v) w := by kernel_rfl
end Go.Proofs.Ytphimfimnakclaa
