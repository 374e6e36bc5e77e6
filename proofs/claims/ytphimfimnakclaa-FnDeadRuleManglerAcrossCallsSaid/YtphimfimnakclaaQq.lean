/-
  Equal: no tokens, no rules. Conditions: each theorem's own.
-/
import Derived.Test.YtphimfimnakclaaQp
namespace Go.Proofs.Ytphimfimnakclaa
open Go.RowKit Go.Lib
set_option maxRecDepth 100000 in
theorem e66nil (v : Value) (w : World) : Calls Try.prog 66 #[.slice none 0 0, .slice none 0 0, v] w fun e w' => e = .returned (.bool true) ∧ w = w' := by
  go_enter Try.func66, Try.ntmps66
  go_wp2_with fail
  go_loopg [16] 0 (fun g v16 wx => v16 = .int .i64 0 ∧ wx = w)
  case atStart => exact ⟨rfl, rfl⟩
  case round =>
    obtain ⟨rfl, rfl⟩ := hrel
    go_wp2_with fail
    go_ret
    exact ⟨rfl, rfl⟩
set_option maxRecDepth 100000 in
theorem e49nil (v : Value) (w : World) : Calls Try.prog 49 #[.slice none 0 0, .slice none 0 0, v] w fun e w' => e = .returned (.bool true) ∧ w = w' := by
  go_enter Try.func49, Try.ntmps49
  go_wp2_with fail
  go_loopg [16] 0 (fun g v16 wx => v16 = .int .i64 0 ∧ wx = w)
  case atStart => exact ⟨rfl, rfl⟩
  case round =>
    obtain ⟨rfl, rfl⟩ := hrel
    go_wp2_with fail
    go_ret
    exact ⟨rfl, rfl⟩
end Go.Proofs.Ytphimfimnakclaa
