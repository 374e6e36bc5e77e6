/-
  The contracts of helpers.F64's methods that the matrix laws reach: each gives the float64 operation's word; they make memory of their own only. Condition: the operation has an answer (is not invalid).
-/
import Derived.Test.YtlfgdgelfebciaaRows
import Derived.WalkKit
import Derived.ProofKit
import Derived.OpenShut
import Derived.WalkLawsBesides
import Derived.Test.YtlfgdgelfebciaaFl
namespace Go.Proofs.Ytlfgdgelfebciaa
open Go.ChangeShapes Go.WideShapes Go.ChangeAt Go.RowKit

theorem run_store_float {P : Program} {w : World} {a : Addr} {m : Mode} (k : FloatKind) (b : Nat) : (store a (.float k b) m).run P w = stored P w a (.float k b) m := run_store P w a _ m rfl
attribute [local go_sem] run_store_float

theorem bcell {W w1 : World} (hb : Below W.heap.size W w1) : (∀ b o, b < W.heap.size → w1.cell? ⟨b, o, none⟩ = W.cell? ⟨b, o, none⟩) ∧ (∀ b o, b < W.heap.size → w1.frozen? ⟨b, o, none⟩ = W.frozen? ⟨b, o, none⟩) :=
  ⟨fun b o h => hb.cell (p := ⟨b, o, none⟩) h, fun b o h => hb.frozen (p := ⟨b, o, none⟩) h⟩

theorem new_exact (x : Nat) (w : World) :
    Calls Try.prog 10 #[.float .f64 x] w fun e w' => e = .returned (.agg #[.float .f64 x]) ∧ w.alloc (.cells #[.float .f64 x] 33) = w' := by
  go_enter Try.func10, Try.ntmps10
  go_wp2
  exact bodyPost_ret (v := .agg #[.float .f64 x]) (by simp [results, Try.results10, go_sem]) rfl ⟨rfl, rfl⟩

theorem value_exact (x : Nat) (w : World) :
    Calls Try.prog 11 #[.agg #[.float .f64 x]] w fun e w' => e = .returned (.float .f64 x) ∧ w.alloc (.cells #[.float .f64 x] 33) = w' := by
  go_enter Try.func11, Try.ntmps11
  go_wp2
  go_ret
  exact ⟨rfl, rfl⟩

theorem mulc_any (x c r : Nat) (w : World) (h : floatBits .mul .f64 x c = some r) :
    Calls Try.prog 13 #[.agg #[.float .f64 x], .float .f64 c] w fun e w' => e = .returned (.agg #[.float .f64 r]) ∧ Below w.heap.size w w' := by
  have hr := fun w t => run_float_arith (P := Try.prog) w .mul t .f64 x c r h
  clear h
  go_enter Try.func13, Try.ntmps13
  go_wp2_with (go_at_call 10; refine (new_exact _ _).mono ?_; rintro e w1 ⟨rfl, rfl⟩)
  refine bodyPost_ret (v := .agg #[.float .f64 r]) (by simp [results, Try.results13, go_sem]) rfl ⟨rfl, ?_⟩
  exact (((Below.refl _ _).alloc (Nat.le_refl _) _).alloc (by simp) _).alloc (by simp; omega) _

theorem add_any (x y r : Nat) (w : World) (h : floatBits .add .f64 x y = some r) :
    Calls Try.prog 14 #[.agg #[.float .f64 x], .agg #[.float .f64 y]] w fun e w' => e = .returned (.agg #[.float .f64 r]) ∧ Below w.heap.size w w' := by
  have hr := fun w t => run_float_arith (P := Try.prog) w .add t .f64 x y r h
  clear h
  go_enter Try.func14, Try.ntmps14
  go_wp2_with (go_at_call 10; refine (new_exact _ _).mono ?_; rintro e w1 ⟨rfl, rfl⟩)
  refine bodyPost_ret (v := .agg #[.float .f64 r]) (by simp [results, Try.results14, go_sem]) rfl ⟨rfl, ?_⟩
  exact ((((Below.refl _ _).alloc (Nat.le_refl _) _).alloc (by simp) _).alloc (by simp; omega) _).alloc (by simp; omega) _

theorem mulc_fin (x c : Nat) (w : World) (hx : Fl.Fin x) (hc : Fl.Fin c) :
    Calls Try.prog 13 #[.agg #[.float .f64 x], .float .f64 c] w fun e w' => e = .returned (.agg #[.float .f64 (Fl.fmul x c)]) ∧ Below w.heap.size w w' :=
  mulc_any x c _ w (Fl.bits_mul hx hc)
theorem add_fin (x y : Nat) (w : World) (hx : Fl.Fin x) (hy : Fl.Fin y) :
    Calls Try.prog 14 #[.agg #[.float .f64 x], .agg #[.float .f64 y]] w fun e w' => e = .returned (.agg #[.float .f64 (Fl.fadd x y)]) ∧ Below w.heap.size w w' :=
  add_any x y _ w (Fl.bits_add hx hy)

end Go.Proofs.Ytlfgdgelfebciaa
