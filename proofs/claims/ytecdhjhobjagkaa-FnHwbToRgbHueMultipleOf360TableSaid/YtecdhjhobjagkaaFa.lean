/-
  The contracts of helpers.F64's methods and of math.Min, Max, Floor that the hue laws reach: each gives the float64 operation's word; they make memory of their own only.
-/
import Derived.Test.YtecdhjhobjagkaaRows
import Derived.WalkKit
import Derived.ProofKit
import Derived.OpenShut
import Derived.WalkLawsBesides
import Derived.Lib.Hide
import Derived.Laws.Externs
import Derived.Deep.RegionHeld3
import Derived.Deep.QuietTactic
import Derived.BigQuiet
import Derived.Test.YtecdhjhobjagkaaFl
namespace Go.Proofs.Ytecdhjhobjagkaa
open Go.ChangeShapes Go.WideShapes Go.ChangeAt Go.RowKit

theorem run_store_float {P : Program} {w : World} {a : Addr} {m : Mode} (k : FloatKind) (b : Nat) : (store a (.float k b) m).run P w = stored P w a (.float k b) m := run_store P w a _ m rfl
theorem unary_neg_float (b : Nat) : Op.unary .neg (.float .f64 b) = pure (.float .f64 (Fl.fneg b)) := rfl
attribute [local go_sem] run_store_float unary_neg_float

theorem fnew (x : Nat) (w : World) :
    Calls Try.prog 25 #[.float .f64 x] w fun e w' => e = .returned (.agg #[.float .f64 x]) ∧ w.alloc (.cells #[.float .f64 x] 56) = w' := by
  go_enter Try.func25, Try.ntmps25
  go_wp2
  exact bodyPost_ret (v := .agg #[.float .f64 x]) (by simp [results, Try.results25, go_sem]) rfl ⟨rfl, rfl⟩

theorem fvalue (x : Nat) (w : World) :
    Calls Try.prog 26 #[.agg #[.float .f64 x]] w fun e w' => e = .returned (.float .f64 x) ∧ w.alloc (.cells #[.float .f64 x] 56) = w' := by
  go_enter Try.func26, Try.ntmps26
  go_wp2
  go_ret
  exact ⟨rfl, rfl⟩

theorem fnegc (x : Nat) (w : World) :
    Calls Try.prog 34 #[.agg #[.float .f64 x]] w fun e w' => e = .returned (.agg #[.float .f64 (Fl.fneg x)]) ∧ Below w.heap.size w w' := by
  go_enter Try.func34, Try.ntmps34
  go_wp2_with (go_at_call 25; refine (fnew _ _).mono ?_; rintro e w1 ⟨rfl, rfl⟩)
  refine bodyPost_ret (v := .agg #[.float .f64 (Fl.fneg x)]) (by simp [results, Try.results34, go_sem]) rfl ⟨rfl, ?_⟩
  exact (((Below.refl _ _).alloc (Nat.le_refl _) _).alloc (by simp) _).alloc (by simp; omega) _

/-- math.archMin and archMax of two words -/
def fpick (neg : Bool) (win : Ordering) (x y : Nat) : Nat :=
  if FloatKind.f64.decode x == .infinity neg || FloatKind.f64.decode y == .infinity neg then FloatKind.f64.encode (.infinity neg)
  else if (FloatKind.f64.decode x).isNaN || (FloatKind.f64.decode y).isNaN then 0x7FF8000000000001
  else if (FloatKind.f64.decode x).isZero && (FloatKind.f64.decode y).isZero then (if (FloatKind.f64.decode x).neg == neg then x else y)
  else if (FloatKind.f64.decode x).order (FloatKind.f64.decode y) == some win then x else y
def fmin (x y : Nat) : Nat := fpick true .lt x y
def fmax (x y : Nat) : Nat := fpick false .gt x y
theorem run_min (x y : Nat) (w : World) : (callFunc 52 #[.float .f64 x, .float .f64 y]).run Try.prog w = .ok (.value (.float .f64 (fmin x y))) w := by
  rw [run_callFunc_extern (fn := Try.f52) Try.func52 (by kernel_rfl) (by kernel_rfl) (by kernel_rfl) (e := Go.Extern.MathDim.pick "math.archMin" true .lt) (by kernel_rfl)]
  rfl
theorem run_max (x y : Nat) (w : World) : (callFunc 54 #[.float .f64 x, .float .f64 y]).run Try.prog w = .ok (.value (.float .f64 (fmax x y))) w := by
  rw [run_callFunc_extern (fn := Try.f54) Try.func54 (by kernel_rfl) (by kernel_rfl) (by kernel_rfl) (e := Go.Extern.MathDim.pick "math.archMax" false .gt) (by kernel_rfl)]
  rfl
attribute [local go_sem] run_min run_max
theorem min45 (x y : Nat) (w : World) : Calls Try.prog 45 #[.float .f64 x, .float .f64 y] w fun e w' => e = .returned (.float .f64 (fmin x y)) ∧ w' = w := by
  go_enter Try.func45, Try.ntmps45
  go_wp2_with fail
  go_ret
  exact ⟨rfl, rfl⟩
theorem max46 (x y : Nat) (w : World) : Calls Try.prog 46 #[.float .f64 x, .float .f64 y] w fun e w' => e = .returned (.float .f64 (fmax x y)) ∧ w' = w := by
  go_enter Try.func46, Try.ntmps46
  go_wp2_with fail
  go_ret
  exact ⟨rfl, rfl⟩
end Go.Proofs.Ytecdhjhobjagkaa
