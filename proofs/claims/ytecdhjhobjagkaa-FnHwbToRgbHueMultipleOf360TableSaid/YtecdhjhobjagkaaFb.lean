/-
  The contracts of helpers.F64's arithmetic and of Min3, Max3 that the hue laws reach. Condition: the operation has an answer.
-/
import Derived.Test.YtecdhjhobjagkaaFa
import Derived.Handy
namespace Go.Proofs.Ytecdhjhobjagkaa
open Go.ChangeShapes Go.WideShapes Go.ChangeAt Go.RowKit
attribute [local go_sem] run_store_float unary_neg_float

theorem faddc (x c r : Nat) (w : World) (h : floatBits .add .f64 x c = some r) :
    Calls Try.prog 35 #[.agg #[.float .f64 x], .float .f64 c] w fun e w' => e = .returned (.agg #[.float .f64 r]) ∧ Below w.heap.size w w' := by
  have hr := fun w t => run_float_arith (P := Try.prog) w .add t .f64 x c r h
  clear h
  go_enter Try.func35, Try.ntmps35
  go_wp2_with (go_at_call 25; refine (fnew _ _).mono ?_; rintro e w1 ⟨rfl, rfl⟩)
  refine bodyPost_ret (v := .agg #[.float .f64 r]) (by simp [results, Try.results35, go_sem]) rfl ⟨rfl, ?_⟩
  exact (((Below.refl _ _).alloc (Nat.le_refl _) _).alloc (by simp) _).alloc (by simp; omega) _

theorem fmulc (x c r : Nat) (w : World) (h : floatBits .mul .f64 x c = some r) :
    Calls Try.prog 36 #[.agg #[.float .f64 x], .float .f64 c] w fun e w' => e = .returned (.agg #[.float .f64 r]) ∧ Below w.heap.size w w' := by
  have hr := fun w t => run_float_arith (P := Try.prog) w .mul t .f64 x c r h
  clear h
  go_enter Try.func36, Try.ntmps36
  go_wp2_with (go_at_call 25; refine (fnew _ _).mono ?_; rintro e w1 ⟨rfl, rfl⟩)
  refine bodyPost_ret (v := .agg #[.float .f64 r]) (by simp [results, Try.results36, go_sem]) rfl ⟨rfl, ?_⟩
  exact (((Below.refl _ _).alloc (Nat.le_refl _) _).alloc (by simp) _).alloc (by simp; omega) _

theorem fdivc (x c r : Nat) (w : World) (h : floatBits .quo .f64 x c = some r) :
    Calls Try.prog 37 #[.agg #[.float .f64 x], .float .f64 c] w fun e w' => e = .returned (.agg #[.float .f64 r]) ∧ Below w.heap.size w w' := by
  have hr := fun w t => run_float_arith (P := Try.prog) w .quo t .f64 x c r h
  clear h
  go_enter Try.func37, Try.ntmps37
  go_wp2_with (go_at_call 25; refine (fnew _ _).mono ?_; rintro e w1 ⟨rfl, rfl⟩)
  refine bodyPost_ret (v := .agg #[.float .f64 r]) (by simp [results, Try.results37, go_sem]) rfl ⟨rfl, ?_⟩
  exact (((Below.refl _ _).alloc (Nat.le_refl _) _).alloc (by simp) _).alloc (by simp; omega) _

theorem fsubc (x c r : Nat) (w : World) (h : floatBits .sub .f64 x c = some r) :
    Calls Try.prog 50 #[.agg #[.float .f64 x], .float .f64 c] w fun e w' => e = .returned (.agg #[.float .f64 r]) ∧ Below w.heap.size w w' := by
  have hr := fun w t => run_float_arith (P := Try.prog) w .sub t .f64 x c r h
  clear h
  go_enter Try.func50, Try.ntmps50
  go_wp2_with (go_at_call 25; refine (fnew _ _).mono ?_; rintro e w1 ⟨rfl, rfl⟩)
  refine bodyPost_ret (v := .agg #[.float .f64 r]) (by simp [results, Try.results50, go_sem]) rfl ⟨rfl, ?_⟩
  exact (((Below.refl _ _).alloc (Nat.le_refl _) _).alloc (by simp) _).alloc (by simp; omega) _

theorem faddb (x y r : Nat) (w : World) (h : floatBits .add .f64 x y = some r) :
    Calls Try.prog 38 #[.agg #[.float .f64 x], .agg #[.float .f64 y]] w fun e w' => e = .returned (.agg #[.float .f64 r]) ∧ Below w.heap.size w w' := by
  have hr := fun w t => run_float_arith (P := Try.prog) w .add t .f64 x y r h
  clear h
  go_enter Try.func38, Try.ntmps38
  go_wp2_with (go_at_call 25; refine (fnew _ _).mono ?_; rintro e w1 ⟨rfl, rfl⟩)
  refine bodyPost_ret (v := .agg #[.float .f64 r]) (by simp [results, Try.results38, go_sem]) rfl ⟨rfl, ?_⟩
  exact ((((Below.refl _ _).alloc (Nat.le_refl _) _).alloc (by simp) _).alloc (by simp; omega) _).alloc (by simp; omega) _

theorem fdivb (x y r : Nat) (w : World) (h : floatBits .quo .f64 x y = some r) :
    Calls Try.prog 39 #[.agg #[.float .f64 x], .agg #[.float .f64 y]] w fun e w' => e = .returned (.agg #[.float .f64 r]) ∧ Below w.heap.size w w' := by
  have hr := fun w t => run_float_arith (P := Try.prog) w .quo t .f64 x y r h
  clear h
  go_enter Try.func39, Try.ntmps39
  go_wp2_with (go_at_call 25; refine (fnew _ _).mono ?_; rintro e w1 ⟨rfl, rfl⟩)
  refine bodyPost_ret (v := .agg #[.float .f64 r]) (by simp [results, Try.results39, go_sem]) rfl ⟨rfl, ?_⟩
  exact ((((Below.refl _ _).alloc (Nat.le_refl _) _).alloc (by simp) _).alloc (by simp; omega) _).alloc (by simp; omega) _

theorem fmulb (x y r : Nat) (w : World) (h : floatBits .mul .f64 x y = some r) :
    Calls Try.prog 41 #[.agg #[.float .f64 x], .agg #[.float .f64 y]] w fun e w' => e = .returned (.agg #[.float .f64 r]) ∧ Below w.heap.size w w' := by
  have hr := fun w t => run_float_arith (P := Try.prog) w .mul t .f64 x y r h
  clear h
  go_enter Try.func41, Try.ntmps41
  go_wp2_with (go_at_call 25; refine (fnew _ _).mono ?_; rintro e w1 ⟨rfl, rfl⟩)
  refine bodyPost_ret (v := .agg #[.float .f64 r]) (by simp [results, Try.results41, go_sem]) rfl ⟨rfl, ?_⟩
  exact ((((Below.refl _ _).alloc (Nat.le_refl _) _).alloc (by simp) _).alloc (by simp; omega) _).alloc (by simp; omega) _

theorem fsubb (x y r : Nat) (w : World) (h : floatBits .sub .f64 x y = some r) :
    Calls Try.prog 43 #[.agg #[.float .f64 x], .agg #[.float .f64 y]] w fun e w' => e = .returned (.agg #[.float .f64 r]) ∧ Below w.heap.size w w' := by
  have hr := fun w t => run_float_arith (P := Try.prog) w .sub t .f64 x y r h
  clear h
  go_enter Try.func43, Try.ntmps43
  go_wp2_with (go_at_call 25; refine (fnew _ _).mono ?_; rintro e w1 ⟨rfl, rfl⟩)
  refine bodyPost_ret (v := .agg #[.float .f64 r]) (by simp [results, Try.results43, go_sem]) rfl ⟨rfl, ?_⟩
  exact ((((Below.refl _ _).alloc (Nat.le_refl _) _).alloc (by simp) _).alloc (by simp; omega) _).alloc (by simp; omega) _

set_option maxRecDepth 20000 in
set_option maxHeartbeats 1000000 in
theorem min32 (x y z : Nat) (w : World) :
    Calls Try.prog 32 #[.agg #[.float .f64 x], .agg #[.float .f64 y], .agg #[.float .f64 z]] w fun e w' => e = .returned (.agg #[.float .f64 (fmin (fmin x y) z)]) ∧ Below w.heap.size w w' := by
  go_enter Try.func32, Try.ntmps32
  go_wp2_with fail
  go_region_held3 (fun w' => w'.cell? ⟨w.heap.size, 0, none⟩ = some (.float .f64 x) ∧ w'.cell? ⟨w.heap.size + 1, 0, none⟩ = some (.float .f64 y) ∧ w'.cell? ⟨w.heap.size + 1 + 1, 0, none⟩ = some (.float .f64 z)) (first | (refine ⟨?_, ?_, ?_⟩ <;> (simp [go_sem]; done)) | go_keep)
    (first | (go_at_call 45; with_reducible refine (min45 _ _ _).mono ?_; rintro e w1 ⟨rfl, hw⟩; obtain rfl := hw.symm) | (go_at_call 25; with_reducible refine (fnew _ _).mono ?_; rintro e w1 ⟨rfl, rfl⟩))
  go_wp2_with fail
  refine bodyPost_ret (v := .agg #[.float .f64 (fmin (fmin x y) z)]) (by simp [results, Try.results32, go_sem]) rfl ⟨rfl, ?_⟩
  go_grown

set_option maxRecDepth 20000 in
set_option maxHeartbeats 1000000 in
theorem max33 (x y z : Nat) (w : World) :
    Calls Try.prog 33 #[.agg #[.float .f64 x], .agg #[.float .f64 y], .agg #[.float .f64 z]] w fun e w' => e = .returned (.agg #[.float .f64 (fmax (fmax x y) z)]) ∧ Below w.heap.size w w' := by
  go_enter Try.func33, Try.ntmps33
  go_wp2_with fail
  go_region_held3 (fun w' => w'.cell? ⟨w.heap.size, 0, none⟩ = some (.float .f64 x) ∧ w'.cell? ⟨w.heap.size + 1, 0, none⟩ = some (.float .f64 y) ∧ w'.cell? ⟨w.heap.size + 1 + 1, 0, none⟩ = some (.float .f64 z)) (first | (refine ⟨?_, ?_, ?_⟩ <;> (simp [go_sem]; done)) | go_keep)
    (first | (go_at_call 46; with_reducible refine (max46 _ _ _).mono ?_; rintro e w1 ⟨rfl, hw⟩; obtain rfl := hw.symm) | (go_at_call 25; with_reducible refine (fnew _ _).mono ?_; rintro e w1 ⟨rfl, rfl⟩))
  go_wp2_with fail
  refine bodyPost_ret (v := .agg #[.float .f64 (fmax (fmax x y) z)]) (by simp [results, Try.results33, go_sem]) rfl ⟨rfl, ?_⟩
  go_grown

end Go.Proofs.Ytecdhjhobjagkaa
