/-
  The contracts of premultiply and unpremultiply and of their exports, for 0 < alpha < 1: the hue channel is handed on, the others are multiplied (divided) by alpha in float64; nothing that was there is written. Condition: each operation has an answer.
-/
import Derived.Test.YtmomchpfllbgjaaWi
import Derived.Test.YtmomchpfllbgjaaWx
import Derived.RegionTactic
namespace Go.Proofs.Ytmomchpfllbgjaa
open Go.ChangeShapes Go.WideShapes Go.ChangeAt Go.RowKit
attribute [local go_sem] run_store_float

theorem al {w0 w : World} (h : Below w0.heap.size w0 w) (o : Obj) : Below w0.heap.size w0 (w.alloc o) := h.alloc h.size o

theorem mul60 (x y r : Nat) (w : World) (h : floatBits .mul .f64 x y = some r) :
    Calls Try.prog 60 #[.agg #[.float .f64 x], .agg #[.float .f64 y]] w fun e w' => e = .returned (.agg #[.float .f64 r]) ∧ (((w.alloc (.cells #[.float .f64 x] 39)).alloc (.cells #[.float .f64 y] 39)).alloc (.cells #[.float .f64 r] 39)).alloc (.cells #[.float .f64 r] 39) = w' := by
  have hr := fun w t => run_float_arith (P := Try.prog) w .mul t .f64 x y r h
  clear h
  go_enter Try.func60, Try.ntmps60
  go_wp2_with (go_at_call 44; refine (new_exact _ _).mono ?_; rintro e w1 ⟨rfl, rfl⟩)
  exact bodyPost_ret (v := .agg #[.float .f64 r]) (by simp [results, Try.results60, go_sem]) rfl ⟨rfl, rfl⟩

theorem div61 (x y r : Nat) (w : World) (h : floatBits .quo .f64 x y = some r) :
    Calls Try.prog 61 #[.agg #[.float .f64 x], .agg #[.float .f64 y]] w fun e w' => e = .returned (.agg #[.float .f64 r]) ∧ (((w.alloc (.cells #[.float .f64 x] 39)).alloc (.cells #[.float .f64 y] 39)).alloc (.cells #[.float .f64 r] 39)).alloc (.cells #[.float .f64 r] 39) = w' := by
  have hr := fun w t => run_float_arith (P := Try.prog) w .quo t .f64 x y r h
  clear h
  go_enter Try.func61, Try.ntmps61
  go_wp2_with (go_at_call 44; refine (new_exact _ _).mono ?_; rintro e w1 ⟨rfl, rfl⟩)
  exact bodyPost_ret (v := .agg #[.float .f64 r]) (by simp [results, Try.results61, go_sem]) rfl ⟨rfl, rfl⟩

/-- channel 0 is a hue (hsl, hwb); channel 2 is a hue (lch, oklch) -/
def hueL (cs : Int) : Bool := cs == 2 || cs == 3
def hueR (cs : Int) : Bool := cs == 5 || cs == 7

set_option maxHeartbeats 2000000 in
theorem pre_A2 (v0 v1 v2 a r1 r2 : Nat) (w : World) (ha : (FloatKind.f64.format.order a 4607182418800017408 == some .lt) = true) (h1 : floatBits .mul .f64 v1 a = some r1) (h2 : floatBits .mul .f64 v2 a = some r2) :
    Calls Try.prog 57 #[.agg #[.float .f64 v0], .agg #[.float .f64 v1], .agg #[.float .f64 v2], .agg #[.float .f64 a], .int .u8 2] w fun e w' => e = .returned (.tuple #[.agg #[.float .f64 v0], .agg #[.float .f64 r1], .agg #[.float .f64 r2]]) ∧ Below w.heap.size w w' := by
  have M2 := Lib.hid (fun w => mul60 v2 a r2 w h2)
  have M1 := Lib.hid (fun w => mul60 v1 a r1 w h1)
  clear h2 h1
  go_enter Try.func57, Try.ntmps57
  go_wp2_with (first | (go_at_call 45; refine (value_exact _ _).mono ?_; rintro e w1 ⟨rfl, rfl⟩))
  refine (M2.out _).mono ?_
  rintro e w1 ⟨rfl, rfl⟩
  go_wp2_with fail
  refine (M1.out _).mono ?_
  rintro e w1 ⟨rfl, hw⟩
  have B1 : Below w.heap.size w w1 := by
    rw [← hw]
    repeat with_reducible apply al
    exact Below.refl _ _
  have q0 : w1.cell? ⟨w.heap.size, 0, none⟩ = some (.float .f64 v0) := by rw [← hw]; simp [go_sem]
  have q1 : w1.cell? ⟨w.heap.size + 1, 0, none⟩ = some (.float .f64 v1) := by rw [← hw]; simp [go_sem]
  have q2 : w1.cell? ⟨w.heap.size + 1 + 1, 0, none⟩ = some (.float .f64 r2) := by rw [← hw]; simp [go_sem]
  have q4 : w1.cell? ⟨w.heap.size + 1 + 1 + 1 + 1, 0, none⟩ = some (.float .f64 0) := by rw [← hw]; simp [go_sem]
  have q5 : w1.cell? ⟨w.heap.size + 1 + 1 + 1 + 1 + 1, 0, none⟩ = some (.float .f64 0) := by rw [← hw]; simp [go_sem]
  have q6 : w1.cell? ⟨w.heap.size + 1 + 1 + 1 + 1 + 1 + 1, 0, none⟩ = some (.float .f64 0) := by rw [← hw]; simp [go_sem]
  have f1 : w1.frozen? ⟨w.heap.size + 1, 0, none⟩ = false := by rw [← hw]; simp [go_sem]
  have f4 : w1.frozen? ⟨w.heap.size + 1 + 1 + 1 + 1, 0, none⟩ = false := by rw [← hw]; simp [go_sem]
  have f5 : w1.frozen? ⟨w.heap.size + 1 + 1 + 1 + 1 + 1, 0, none⟩ = false := by rw [← hw]; simp [go_sem]
  have f6 : w1.frozen? ⟨w.heap.size + 1 + 1 + 1 + 1 + 1 + 1, 0, none⟩ = false := by rw [← hw]; simp [go_sem]
  clear hw M2 M1
  go_wp2_with fail
  go_region
  go_wp2
  refine bodyPost_ret (v := .tuple #[.agg #[.float .f64 v0], .agg #[.float .f64 r1], .agg #[.float .f64 r2]]) (by simp [results, Try.results57, go_sem, q4, q5, q6]) rfl ⟨rfl, ?_⟩
  repeat (first | exact B1 | apply Below.drew | (refine Below.setCell ?_ (by simp; try omega) _))

set_option maxHeartbeats 2000000 in
theorem pre_A3 (v0 v1 v2 a r1 r2 : Nat) (w : World) (ha : (FloatKind.f64.format.order a 4607182418800017408 == some .lt) = true) (h1 : floatBits .mul .f64 v1 a = some r1) (h2 : floatBits .mul .f64 v2 a = some r2) :
    Calls Try.prog 57 #[.agg #[.float .f64 v0], .agg #[.float .f64 v1], .agg #[.float .f64 v2], .agg #[.float .f64 a], .int .u8 3] w fun e w' => e = .returned (.tuple #[.agg #[.float .f64 v0], .agg #[.float .f64 r1], .agg #[.float .f64 r2]]) ∧ Below w.heap.size w w' := by
  have M2 := Lib.hid (fun w => mul60 v2 a r2 w h2)
  have M1 := Lib.hid (fun w => mul60 v1 a r1 w h1)
  clear h2 h1
  go_enter Try.func57, Try.ntmps57
  go_wp2_with (first | (go_at_call 45; refine (value_exact _ _).mono ?_; rintro e w1 ⟨rfl, rfl⟩))
  refine (M2.out _).mono ?_
  rintro e w1 ⟨rfl, rfl⟩
  go_wp2_with fail
  refine (M1.out _).mono ?_
  rintro e w1 ⟨rfl, hw⟩
  have B1 : Below w.heap.size w w1 := by
    rw [← hw]
    repeat with_reducible apply al
    exact Below.refl _ _
  have q0 : w1.cell? ⟨w.heap.size, 0, none⟩ = some (.float .f64 v0) := by rw [← hw]; simp [go_sem]
  have q1 : w1.cell? ⟨w.heap.size + 1, 0, none⟩ = some (.float .f64 v1) := by rw [← hw]; simp [go_sem]
  have q2 : w1.cell? ⟨w.heap.size + 1 + 1, 0, none⟩ = some (.float .f64 r2) := by rw [← hw]; simp [go_sem]
  have q4 : w1.cell? ⟨w.heap.size + 1 + 1 + 1 + 1, 0, none⟩ = some (.float .f64 0) := by rw [← hw]; simp [go_sem]
  have q5 : w1.cell? ⟨w.heap.size + 1 + 1 + 1 + 1 + 1, 0, none⟩ = some (.float .f64 0) := by rw [← hw]; simp [go_sem]
  have q6 : w1.cell? ⟨w.heap.size + 1 + 1 + 1 + 1 + 1 + 1, 0, none⟩ = some (.float .f64 0) := by rw [← hw]; simp [go_sem]
  have f1 : w1.frozen? ⟨w.heap.size + 1, 0, none⟩ = false := by rw [← hw]; simp [go_sem]
  have f4 : w1.frozen? ⟨w.heap.size + 1 + 1 + 1 + 1, 0, none⟩ = false := by rw [← hw]; simp [go_sem]
  have f5 : w1.frozen? ⟨w.heap.size + 1 + 1 + 1 + 1 + 1, 0, none⟩ = false := by rw [← hw]; simp [go_sem]
  have f6 : w1.frozen? ⟨w.heap.size + 1 + 1 + 1 + 1 + 1 + 1, 0, none⟩ = false := by rw [← hw]; simp [go_sem]
  clear hw M2 M1
  go_wp2_with fail
  go_region
  go_wp2
  refine bodyPost_ret (v := .tuple #[.agg #[.float .f64 v0], .agg #[.float .f64 r1], .agg #[.float .f64 r2]]) (by simp [results, Try.results57, go_sem, q4, q5, q6]) rfl ⟨rfl, ?_⟩
  repeat (first | exact B1 | apply Below.drew | (refine Below.setCell ?_ (by simp; try omega) _))

set_option maxHeartbeats 2000000 in
theorem pre_B5 (v0 v1 v2 a r0 r1 : Nat) (w : World) (ha : (FloatKind.f64.format.order a 4607182418800017408 == some .lt) = true) (h0 : floatBits .mul .f64 v0 a = some r0) (h1 : floatBits .mul .f64 v1 a = some r1) :
    Calls Try.prog 57 #[.agg #[.float .f64 v0], .agg #[.float .f64 v1], .agg #[.float .f64 v2], .agg #[.float .f64 a], .int .u8 5] w fun e w' => e = .returned (.tuple #[.agg #[.float .f64 r0], .agg #[.float .f64 r1], .agg #[.float .f64 v2]]) ∧ Below w.heap.size w w' := by
  have M0 := Lib.hid (fun w => mul60 v0 a r0 w h0)
  have M1 := Lib.hid (fun w => mul60 v1 a r1 w h1)
  clear h0 h1
  go_enter Try.func57, Try.ntmps57
  go_wp2_with (first | (go_at_call 45; refine (value_exact _ _).mono ?_; rintro e w1 ⟨rfl, rfl⟩))
  refine (M0.out _).mono ?_
  rintro e w1 ⟨rfl, rfl⟩
  go_wp2_with fail
  refine (M1.out _).mono ?_
  rintro e w1 ⟨rfl, hw⟩
  have B1 : Below w.heap.size w w1 := by
    rw [← hw]
    repeat with_reducible apply al
    exact Below.refl _ _
  have q0 : w1.cell? ⟨w.heap.size, 0, none⟩ = some (.float .f64 r0) := by rw [← hw]; simp [go_sem]
  have q1 : w1.cell? ⟨w.heap.size + 1, 0, none⟩ = some (.float .f64 v1) := by rw [← hw]; simp [go_sem]
  have q2 : w1.cell? ⟨w.heap.size + 1 + 1, 0, none⟩ = some (.float .f64 v2) := by rw [← hw]; simp [go_sem]
  have q4 : w1.cell? ⟨w.heap.size + 1 + 1 + 1 + 1, 0, none⟩ = some (.float .f64 0) := by rw [← hw]; simp [go_sem]
  have q5 : w1.cell? ⟨w.heap.size + 1 + 1 + 1 + 1 + 1, 0, none⟩ = some (.float .f64 0) := by rw [← hw]; simp [go_sem]
  have q6 : w1.cell? ⟨w.heap.size + 1 + 1 + 1 + 1 + 1 + 1, 0, none⟩ = some (.float .f64 0) := by rw [← hw]; simp [go_sem]
  have f1 : w1.frozen? ⟨w.heap.size + 1, 0, none⟩ = false := by rw [← hw]; simp [go_sem]
  have f4 : w1.frozen? ⟨w.heap.size + 1 + 1 + 1 + 1, 0, none⟩ = false := by rw [← hw]; simp [go_sem]
  have f5 : w1.frozen? ⟨w.heap.size + 1 + 1 + 1 + 1 + 1, 0, none⟩ = false := by rw [← hw]; simp [go_sem]
  have f6 : w1.frozen? ⟨w.heap.size + 1 + 1 + 1 + 1 + 1 + 1, 0, none⟩ = false := by rw [← hw]; simp [go_sem]
  clear hw M0 M1
  go_wp2_with fail
  go_region
  go_wp2
  refine bodyPost_ret (v := .tuple #[.agg #[.float .f64 r0], .agg #[.float .f64 r1], .agg #[.float .f64 v2]]) (by simp [results, Try.results57, go_sem, q4, q5, q6]) rfl ⟨rfl, ?_⟩
  repeat (first | exact B1 | apply Below.drew | (refine Below.setCell ?_ (by simp; try omega) _))

set_option maxHeartbeats 2000000 in
theorem pre_B7 (v0 v1 v2 a r0 r1 : Nat) (w : World) (ha : (FloatKind.f64.format.order a 4607182418800017408 == some .lt) = true) (h0 : floatBits .mul .f64 v0 a = some r0) (h1 : floatBits .mul .f64 v1 a = some r1) :
    Calls Try.prog 57 #[.agg #[.float .f64 v0], .agg #[.float .f64 v1], .agg #[.float .f64 v2], .agg #[.float .f64 a], .int .u8 7] w fun e w' => e = .returned (.tuple #[.agg #[.float .f64 r0], .agg #[.float .f64 r1], .agg #[.float .f64 v2]]) ∧ Below w.heap.size w w' := by
  have M0 := Lib.hid (fun w => mul60 v0 a r0 w h0)
  have M1 := Lib.hid (fun w => mul60 v1 a r1 w h1)
  clear h0 h1
  go_enter Try.func57, Try.ntmps57
  go_wp2_with (first | (go_at_call 45; refine (value_exact _ _).mono ?_; rintro e w1 ⟨rfl, rfl⟩))
  refine (M0.out _).mono ?_
  rintro e w1 ⟨rfl, rfl⟩
  go_wp2_with fail
  refine (M1.out _).mono ?_
  rintro e w1 ⟨rfl, hw⟩
  have B1 : Below w.heap.size w w1 := by
    rw [← hw]
    repeat with_reducible apply al
    exact Below.refl _ _
  have q0 : w1.cell? ⟨w.heap.size, 0, none⟩ = some (.float .f64 r0) := by rw [← hw]; simp [go_sem]
  have q1 : w1.cell? ⟨w.heap.size + 1, 0, none⟩ = some (.float .f64 v1) := by rw [← hw]; simp [go_sem]
  have q2 : w1.cell? ⟨w.heap.size + 1 + 1, 0, none⟩ = some (.float .f64 v2) := by rw [← hw]; simp [go_sem]
  have q4 : w1.cell? ⟨w.heap.size + 1 + 1 + 1 + 1, 0, none⟩ = some (.float .f64 0) := by rw [← hw]; simp [go_sem]
  have q5 : w1.cell? ⟨w.heap.size + 1 + 1 + 1 + 1 + 1, 0, none⟩ = some (.float .f64 0) := by rw [← hw]; simp [go_sem]
  have q6 : w1.cell? ⟨w.heap.size + 1 + 1 + 1 + 1 + 1 + 1, 0, none⟩ = some (.float .f64 0) := by rw [← hw]; simp [go_sem]
  have f1 : w1.frozen? ⟨w.heap.size + 1, 0, none⟩ = false := by rw [← hw]; simp [go_sem]
  have f4 : w1.frozen? ⟨w.heap.size + 1 + 1 + 1 + 1, 0, none⟩ = false := by rw [← hw]; simp [go_sem]
  have f5 : w1.frozen? ⟨w.heap.size + 1 + 1 + 1 + 1 + 1, 0, none⟩ = false := by rw [← hw]; simp [go_sem]
  have f6 : w1.frozen? ⟨w.heap.size + 1 + 1 + 1 + 1 + 1 + 1, 0, none⟩ = false := by rw [← hw]; simp [go_sem]
  clear hw M0 M1
  go_wp2_with fail
  go_region
  go_wp2
  refine bodyPost_ret (v := .tuple #[.agg #[.float .f64 r0], .agg #[.float .f64 r1], .agg #[.float .f64 v2]]) (by simp [results, Try.results57, go_sem, q4, q5, q6]) rfl ⟨rfl, ?_⟩
  repeat (first | exact B1 | apply Below.drew | (refine Below.setCell ?_ (by simp; try omega) _))

set_option maxHeartbeats 2000000 in
theorem pre_C (v0 v1 v2 a r0 r1 r2 : Nat) (cs : Int) (w : World) (ha : (FloatKind.f64.format.order a 4607182418800017408 == some .lt) = true) (c2 : (cs == 2) = false) (c3 : (cs == 3) = false) (c5 : (cs == 5) = false) (c7 : (cs == 7) = false) (h0 : floatBits .mul .f64 v0 a = some r0) (h1 : floatBits .mul .f64 v1 a = some r1) (h2 : floatBits .mul .f64 v2 a = some r2) :
    Calls Try.prog 57 #[.agg #[.float .f64 v0], .agg #[.float .f64 v1], .agg #[.float .f64 v2], .agg #[.float .f64 a], .int .u8 cs] w fun e w' => e = .returned (.tuple #[.agg #[.float .f64 r0], .agg #[.float .f64 r1], .agg #[.float .f64 r2]]) ∧ Below w.heap.size w w' := by
  have M0 := Lib.hid (fun w => mul60 v0 a r0 w h0)
  have M2 := Lib.hid (fun w => mul60 v2 a r2 w h2)
  have M1 := Lib.hid (fun w => mul60 v1 a r1 w h1)
  clear h0 h2 h1
  go_enter Try.func57, Try.ntmps57
  go_wp2_with (first | (go_at_call 45; refine (value_exact _ _).mono ?_; rintro e w1 ⟨rfl, rfl⟩))
  refine (M0.out _).mono ?_
  rintro e w1 ⟨rfl, rfl⟩
  go_wp2_with fail
  refine (M2.out _).mono ?_
  rintro e w1 ⟨rfl, rfl⟩
  go_wp2_with fail
  refine (M1.out _).mono ?_
  rintro e w1 ⟨rfl, hw⟩
  have B1 : Below w.heap.size w w1 := by
    rw [← hw]
    repeat with_reducible apply al
    exact Below.refl _ _
  have q0 : w1.cell? ⟨w.heap.size, 0, none⟩ = some (.float .f64 r0) := by rw [← hw]; simp [go_sem]
  have q1 : w1.cell? ⟨w.heap.size + 1, 0, none⟩ = some (.float .f64 v1) := by rw [← hw]; simp [go_sem]
  have q2 : w1.cell? ⟨w.heap.size + 1 + 1, 0, none⟩ = some (.float .f64 r2) := by rw [← hw]; simp [go_sem]
  have q4 : w1.cell? ⟨w.heap.size + 1 + 1 + 1 + 1, 0, none⟩ = some (.float .f64 0) := by rw [← hw]; simp [go_sem]
  have q5 : w1.cell? ⟨w.heap.size + 1 + 1 + 1 + 1 + 1, 0, none⟩ = some (.float .f64 0) := by rw [← hw]; simp [go_sem]
  have q6 : w1.cell? ⟨w.heap.size + 1 + 1 + 1 + 1 + 1 + 1, 0, none⟩ = some (.float .f64 0) := by rw [← hw]; simp [go_sem]
  have f1 : w1.frozen? ⟨w.heap.size + 1, 0, none⟩ = false := by rw [← hw]; simp [go_sem]
  have f4 : w1.frozen? ⟨w.heap.size + 1 + 1 + 1 + 1, 0, none⟩ = false := by rw [← hw]; simp [go_sem]
  have f5 : w1.frozen? ⟨w.heap.size + 1 + 1 + 1 + 1 + 1, 0, none⟩ = false := by rw [← hw]; simp [go_sem]
  have f6 : w1.frozen? ⟨w.heap.size + 1 + 1 + 1 + 1 + 1 + 1, 0, none⟩ = false := by rw [← hw]; simp [go_sem]
  clear hw M0 M2 M1
  go_wp2_with fail
  go_region
  go_wp2
  refine bodyPost_ret (v := .tuple #[.agg #[.float .f64 r0], .agg #[.float .f64 r1], .agg #[.float .f64 r2]]) (by simp [results, Try.results57, go_sem, q4, q5, q6]) rfl ⟨rfl, ?_⟩
  repeat (first | exact B1 | apply Below.drew | (refine Below.setCell ?_ (by simp; try omega) _))

/-- whatever the colour space -/
theorem pre_any (v0 v1 v2 a r0 r1 r2 : Nat) (cs : Int) (w : World) (ha : (FloatKind.f64.format.order a 4607182418800017408 == some .lt) = true) (hL : hueL cs = false → floatBits .mul .f64 v0 a = some r0) (hM : floatBits .mul .f64 v1 a = some r1) (hR : hueR cs = false → floatBits .mul .f64 v2 a = some r2) (eL : hueL cs = true → r0 = v0) (eR : hueR cs = true → r2 = v2) :
    Calls Try.prog 57 #[.agg #[.float .f64 v0], .agg #[.float .f64 v1], .agg #[.float .f64 v2], .agg #[.float .f64 a], .int .u8 cs] w fun e w' => e = .returned (.tuple #[.agg #[.float .f64 r0], .agg #[.float .f64 r1], .agg #[.float .f64 r2]]) ∧ Below w.heap.size w w' := by
  by_cases c2 : cs = 2
  · subst c2
    obtain rfl := eL rfl
    exact pre_A2 _ _ _ _ _ _ w ha hM (hR rfl)
  by_cases c3 : cs = 3
  · subst c3
    obtain rfl := eL rfl
    exact pre_A3 _ _ _ _ _ _ w ha hM (hR rfl)
  by_cases c5 : cs = 5
  · subst c5
    obtain rfl := eR rfl
    exact pre_B5 _ _ _ _ _ _ w ha (hL rfl) hM
  by_cases c7 : cs = 7
  · subst c7
    obtain rfl := eR rfl
    exact pre_B7 _ _ _ _ _ _ w ha (hL rfl) hM
  have d2 : (cs == 2) = false := by simpa using c2
  have d3 : (cs == 3) = false := by simpa using c3
  have d5 : (cs == 5) = false := by simpa using c5
  have d7 : (cs == 7) = false := by simpa using c7
  exact pre_C _ _ _ _ _ _ _ cs w ha d2 d3 d5 d7 (hL (by unfold hueL; rw [d2, d3]; rfl)) hM (hR (by unfold hueR; rw [d5, d7]; rfl))

set_option maxHeartbeats 2000000 in
theorem zzpre (v0 v1 v2 a r0 r1 r2 : Nat) (cs : Int) (w : World) (ha : (FloatKind.f64.format.order a 4607182418800017408 == some .lt) = true) (hL : hueL cs = false → floatBits .mul .f64 v0 a = some r0) (hM : floatBits .mul .f64 v1 a = some r1) (hR : hueR cs = false → floatBits .mul .f64 v2 a = some r2) (eL : hueL cs = true → r0 = v0) (eR : hueR cs = true → r2 = v2) :
    Calls Try.prog 39 #[.float .f64 v0, .float .f64 v1, .float .f64 v2, .float .f64 a, .int .u8 cs] w fun e w' => e = .returned (.tuple #[.float .f64 r0, .float .f64 r1, .float .f64 r2]) ∧ Below w.heap.size w w' := by
  have K := Lib.hid (fun w => pre_any v0 v1 v2 a r0 r1 r2 cs w ha hL hM hR eL eR)
  clear hL hM hR eL eR ha
  go_enter Try.func39, Try.ntmps39
  go_wp2_with (first | (go_at_call 44; refine (new_exact _ _).mono ?_; rintro e w1 ⟨rfl, rfl⟩))
  refine (K.out _).mono ?_
  rintro e w1 ⟨rfl, hb⟩
  have HB := Lib.hid hb
  clear hb
  go_wp2_with fail
  go_region_held3 (fun w' => w'.cell? ⟨w1.heap.size, 0, none⟩ = some (.float .f64 r0) ∧ w'.cell? ⟨w1.heap.size + 1, 0, none⟩ = some (.float .f64 r1) ∧ w'.cell? ⟨w1.heap.size + 1 + 1, 0, none⟩ = some (.float .f64 r2) ∧ Kp w1.heap.size w1 w')
    (first | exact S3.start _ _ _ _ _ | exact S3.call (by assumption) hb)
    (first | (go_at_call 45; refine (value_any _ _).mono ?_; rintro e w2 ⟨rfl, hb⟩))
  rename_i hH
  have hK := hH.2.2.2
  clear hH
  go_wp2
  go_ret3
  refine ⟨rfl, ?_⟩
  have hz := HB.out.size
  exact ((((((Below.refl _ _).alloc (Nat.le_refl _) _).alloc (by simp) _).alloc (by simp; omega) _).alloc (by simp; omega) _).trans (HB.out.mono (by simp; omega))).trans (hK.below.mono (by simp at hz; omega))

set_option maxHeartbeats 2000000 in
theorem unp_A2 (v0 v1 v2 a r1 r2 : Nat) (w : World) (hp : (FloatKind.f64.format.order a 0 == some .gt) = true) (ha : (FloatKind.f64.format.order a 4607182418800017408 == some .lt) = true) (h1 : floatBits .quo .f64 v1 a = some r1) (h2 : floatBits .quo .f64 v2 a = some r2) :
    Calls Try.prog 58 #[.agg #[.float .f64 v0], .agg #[.float .f64 v1], .agg #[.float .f64 v2], .agg #[.float .f64 a], .int .u8 2] w fun e w' => e = .returned (.tuple #[.agg #[.float .f64 v0], .agg #[.float .f64 r1], .agg #[.float .f64 r2]]) ∧ Below w.heap.size w w' := by
  have M2 := Lib.hid (fun w => div61 v2 a r2 w h2)
  have M1 := Lib.hid (fun w => div61 v1 a r1 w h1)
  clear h2 h1
  go_enter Try.func58, Try.ntmps58
  go_wp2_with (first | (go_at_call 45; refine (value_exact _ _).mono ?_; rintro e w1 ⟨rfl, rfl⟩))
  refine (M2.out _).mono ?_
  rintro e w1 ⟨rfl, rfl⟩
  go_wp2_with fail
  refine (M1.out _).mono ?_
  rintro e w1 ⟨rfl, hw⟩
  have B1 : Below w.heap.size w w1 := by
    rw [← hw]
    repeat with_reducible apply al
    exact Below.refl _ _
  have q0 : w1.cell? ⟨w.heap.size, 0, none⟩ = some (.float .f64 v0) := by rw [← hw]; simp [go_sem]
  have q1 : w1.cell? ⟨w.heap.size + 1, 0, none⟩ = some (.float .f64 v1) := by rw [← hw]; simp [go_sem]
  have q2 : w1.cell? ⟨w.heap.size + 1 + 1, 0, none⟩ = some (.float .f64 r2) := by rw [← hw]; simp [go_sem]
  have q4 : w1.cell? ⟨w.heap.size + 1 + 1 + 1 + 1, 0, none⟩ = some (.float .f64 0) := by rw [← hw]; simp [go_sem]
  have q5 : w1.cell? ⟨w.heap.size + 1 + 1 + 1 + 1 + 1, 0, none⟩ = some (.float .f64 0) := by rw [← hw]; simp [go_sem]
  have q6 : w1.cell? ⟨w.heap.size + 1 + 1 + 1 + 1 + 1 + 1, 0, none⟩ = some (.float .f64 0) := by rw [← hw]; simp [go_sem]
  have f1 : w1.frozen? ⟨w.heap.size + 1, 0, none⟩ = false := by rw [← hw]; simp [go_sem]
  have f4 : w1.frozen? ⟨w.heap.size + 1 + 1 + 1 + 1, 0, none⟩ = false := by rw [← hw]; simp [go_sem]
  have f5 : w1.frozen? ⟨w.heap.size + 1 + 1 + 1 + 1 + 1, 0, none⟩ = false := by rw [← hw]; simp [go_sem]
  have f6 : w1.frozen? ⟨w.heap.size + 1 + 1 + 1 + 1 + 1 + 1, 0, none⟩ = false := by rw [← hw]; simp [go_sem]
  clear hw M2 M1
  go_wp2_with fail
  go_region
  go_wp2
  refine bodyPost_ret (v := .tuple #[.agg #[.float .f64 v0], .agg #[.float .f64 r1], .agg #[.float .f64 r2]]) (by simp [results, Try.results58, go_sem, q4, q5, q6]) rfl ⟨rfl, ?_⟩
  repeat (first | exact B1 | apply Below.drew | (refine Below.setCell ?_ (by simp; try omega) _))

set_option maxHeartbeats 2000000 in
theorem unp_A3 (v0 v1 v2 a r1 r2 : Nat) (w : World) (hp : (FloatKind.f64.format.order a 0 == some .gt) = true) (ha : (FloatKind.f64.format.order a 4607182418800017408 == some .lt) = true) (h1 : floatBits .quo .f64 v1 a = some r1) (h2 : floatBits .quo .f64 v2 a = some r2) :
    Calls Try.prog 58 #[.agg #[.float .f64 v0], .agg #[.float .f64 v1], .agg #[.float .f64 v2], .agg #[.float .f64 a], .int .u8 3] w fun e w' => e = .returned (.tuple #[.agg #[.float .f64 v0], .agg #[.float .f64 r1], .agg #[.float .f64 r2]]) ∧ Below w.heap.size w w' := by
  have M2 := Lib.hid (fun w => div61 v2 a r2 w h2)
  have M1 := Lib.hid (fun w => div61 v1 a r1 w h1)
  clear h2 h1
  go_enter Try.func58, Try.ntmps58
  go_wp2_with (first | (go_at_call 45; refine (value_exact _ _).mono ?_; rintro e w1 ⟨rfl, rfl⟩))
  refine (M2.out _).mono ?_
  rintro e w1 ⟨rfl, rfl⟩
  go_wp2_with fail
  refine (M1.out _).mono ?_
  rintro e w1 ⟨rfl, hw⟩
  have B1 : Below w.heap.size w w1 := by
    rw [← hw]
    repeat with_reducible apply al
    exact Below.refl _ _
  have q0 : w1.cell? ⟨w.heap.size, 0, none⟩ = some (.float .f64 v0) := by rw [← hw]; simp [go_sem]
  have q1 : w1.cell? ⟨w.heap.size + 1, 0, none⟩ = some (.float .f64 v1) := by rw [← hw]; simp [go_sem]
  have q2 : w1.cell? ⟨w.heap.size + 1 + 1, 0, none⟩ = some (.float .f64 r2) := by rw [← hw]; simp [go_sem]
  have q4 : w1.cell? ⟨w.heap.size + 1 + 1 + 1 + 1, 0, none⟩ = some (.float .f64 0) := by rw [← hw]; simp [go_sem]
  have q5 : w1.cell? ⟨w.heap.size + 1 + 1 + 1 + 1 + 1, 0, none⟩ = some (.float .f64 0) := by rw [← hw]; simp [go_sem]
  have q6 : w1.cell? ⟨w.heap.size + 1 + 1 + 1 + 1 + 1 + 1, 0, none⟩ = some (.float .f64 0) := by rw [← hw]; simp [go_sem]
  have f1 : w1.frozen? ⟨w.heap.size + 1, 0, none⟩ = false := by rw [← hw]; simp [go_sem]
  have f4 : w1.frozen? ⟨w.heap.size + 1 + 1 + 1 + 1, 0, none⟩ = false := by rw [← hw]; simp [go_sem]
  have f5 : w1.frozen? ⟨w.heap.size + 1 + 1 + 1 + 1 + 1, 0, none⟩ = false := by rw [← hw]; simp [go_sem]
  have f6 : w1.frozen? ⟨w.heap.size + 1 + 1 + 1 + 1 + 1 + 1, 0, none⟩ = false := by rw [← hw]; simp [go_sem]
  clear hw M2 M1
  go_wp2_with fail
  go_region
  go_wp2
  refine bodyPost_ret (v := .tuple #[.agg #[.float .f64 v0], .agg #[.float .f64 r1], .agg #[.float .f64 r2]]) (by simp [results, Try.results58, go_sem, q4, q5, q6]) rfl ⟨rfl, ?_⟩
  repeat (first | exact B1 | apply Below.drew | (refine Below.setCell ?_ (by simp; try omega) _))

set_option maxHeartbeats 2000000 in
theorem unp_B5 (v0 v1 v2 a r0 r1 : Nat) (w : World) (hp : (FloatKind.f64.format.order a 0 == some .gt) = true) (ha : (FloatKind.f64.format.order a 4607182418800017408 == some .lt) = true) (h0 : floatBits .quo .f64 v0 a = some r0) (h1 : floatBits .quo .f64 v1 a = some r1) :
    Calls Try.prog 58 #[.agg #[.float .f64 v0], .agg #[.float .f64 v1], .agg #[.float .f64 v2], .agg #[.float .f64 a], .int .u8 5] w fun e w' => e = .returned (.tuple #[.agg #[.float .f64 r0], .agg #[.float .f64 r1], .agg #[.float .f64 v2]]) ∧ Below w.heap.size w w' := by
  have M0 := Lib.hid (fun w => div61 v0 a r0 w h0)
  have M1 := Lib.hid (fun w => div61 v1 a r1 w h1)
  clear h0 h1
  go_enter Try.func58, Try.ntmps58
  go_wp2_with (first | (go_at_call 45; refine (value_exact _ _).mono ?_; rintro e w1 ⟨rfl, rfl⟩))
  refine (M0.out _).mono ?_
  rintro e w1 ⟨rfl, rfl⟩
  go_wp2_with fail
  refine (M1.out _).mono ?_
  rintro e w1 ⟨rfl, hw⟩
  have B1 : Below w.heap.size w w1 := by
    rw [← hw]
    repeat with_reducible apply al
    exact Below.refl _ _
  have q0 : w1.cell? ⟨w.heap.size, 0, none⟩ = some (.float .f64 r0) := by rw [← hw]; simp [go_sem]
  have q1 : w1.cell? ⟨w.heap.size + 1, 0, none⟩ = some (.float .f64 v1) := by rw [← hw]; simp [go_sem]
  have q2 : w1.cell? ⟨w.heap.size + 1 + 1, 0, none⟩ = some (.float .f64 v2) := by rw [← hw]; simp [go_sem]
  have q4 : w1.cell? ⟨w.heap.size + 1 + 1 + 1 + 1, 0, none⟩ = some (.float .f64 0) := by rw [← hw]; simp [go_sem]
  have q5 : w1.cell? ⟨w.heap.size + 1 + 1 + 1 + 1 + 1, 0, none⟩ = some (.float .f64 0) := by rw [← hw]; simp [go_sem]
  have q6 : w1.cell? ⟨w.heap.size + 1 + 1 + 1 + 1 + 1 + 1, 0, none⟩ = some (.float .f64 0) := by rw [← hw]; simp [go_sem]
  have f1 : w1.frozen? ⟨w.heap.size + 1, 0, none⟩ = false := by rw [← hw]; simp [go_sem]
  have f4 : w1.frozen? ⟨w.heap.size + 1 + 1 + 1 + 1, 0, none⟩ = false := by rw [← hw]; simp [go_sem]
  have f5 : w1.frozen? ⟨w.heap.size + 1 + 1 + 1 + 1 + 1, 0, none⟩ = false := by rw [← hw]; simp [go_sem]
  have f6 : w1.frozen? ⟨w.heap.size + 1 + 1 + 1 + 1 + 1 + 1, 0, none⟩ = false := by rw [← hw]; simp [go_sem]
  clear hw M0 M1
  go_wp2_with fail
  go_region
  go_wp2
  refine bodyPost_ret (v := .tuple #[.agg #[.float .f64 r0], .agg #[.float .f64 r1], .agg #[.float .f64 v2]]) (by simp [results, Try.results58, go_sem, q4, q5, q6]) rfl ⟨rfl, ?_⟩
  repeat (first | exact B1 | apply Below.drew | (refine Below.setCell ?_ (by simp; try omega) _))

set_option maxHeartbeats 2000000 in
theorem unp_B7 (v0 v1 v2 a r0 r1 : Nat) (w : World) (hp : (FloatKind.f64.format.order a 0 == some .gt) = true) (ha : (FloatKind.f64.format.order a 4607182418800017408 == some .lt) = true) (h0 : floatBits .quo .f64 v0 a = some r0) (h1 : floatBits .quo .f64 v1 a = some r1) :
    Calls Try.prog 58 #[.agg #[.float .f64 v0], .agg #[.float .f64 v1], .agg #[.float .f64 v2], .agg #[.float .f64 a], .int .u8 7] w fun e w' => e = .returned (.tuple #[.agg #[.float .f64 r0], .agg #[.float .f64 r1], .agg #[.float .f64 v2]]) ∧ Below w.heap.size w w' := by
  have M0 := Lib.hid (fun w => div61 v0 a r0 w h0)
  have M1 := Lib.hid (fun w => div61 v1 a r1 w h1)
  clear h0 h1
  go_enter Try.func58, Try.ntmps58
  go_wp2_with (first | (go_at_call 45; refine (value_exact _ _).mono ?_; rintro e w1 ⟨rfl, rfl⟩))
  refine (M0.out _).mono ?_
  rintro e w1 ⟨rfl, rfl⟩
  go_wp2_with fail
  refine (M1.out _).mono ?_
  rintro e w1 ⟨rfl, hw⟩
  have B1 : Below w.heap.size w w1 := by
    rw [← hw]
    repeat with_reducible apply al
    exact Below.refl _ _
  have q0 : w1.cell? ⟨w.heap.size, 0, none⟩ = some (.float .f64 r0) := by rw [← hw]; simp [go_sem]
  have q1 : w1.cell? ⟨w.heap.size + 1, 0, none⟩ = some (.float .f64 v1) := by rw [← hw]; simp [go_sem]
  have q2 : w1.cell? ⟨w.heap.size + 1 + 1, 0, none⟩ = some (.float .f64 v2) := by rw [← hw]; simp [go_sem]
  have q4 : w1.cell? ⟨w.heap.size + 1 + 1 + 1 + 1, 0, none⟩ = some (.float .f64 0) := by rw [← hw]; simp [go_sem]
  have q5 : w1.cell? ⟨w.heap.size + 1 + 1 + 1 + 1 + 1, 0, none⟩ = some (.float .f64 0) := by rw [← hw]; simp [go_sem]
  have q6 : w1.cell? ⟨w.heap.size + 1 + 1 + 1 + 1 + 1 + 1, 0, none⟩ = some (.float .f64 0) := by rw [← hw]; simp [go_sem]
  have f1 : w1.frozen? ⟨w.heap.size + 1, 0, none⟩ = false := by rw [← hw]; simp [go_sem]
  have f4 : w1.frozen? ⟨w.heap.size + 1 + 1 + 1 + 1, 0, none⟩ = false := by rw [← hw]; simp [go_sem]
  have f5 : w1.frozen? ⟨w.heap.size + 1 + 1 + 1 + 1 + 1, 0, none⟩ = false := by rw [← hw]; simp [go_sem]
  have f6 : w1.frozen? ⟨w.heap.size + 1 + 1 + 1 + 1 + 1 + 1, 0, none⟩ = false := by rw [← hw]; simp [go_sem]
  clear hw M0 M1
  go_wp2_with fail
  go_region
  go_wp2
  refine bodyPost_ret (v := .tuple #[.agg #[.float .f64 r0], .agg #[.float .f64 r1], .agg #[.float .f64 v2]]) (by simp [results, Try.results58, go_sem, q4, q5, q6]) rfl ⟨rfl, ?_⟩
  repeat (first | exact B1 | apply Below.drew | (refine Below.setCell ?_ (by simp; try omega) _))

set_option maxHeartbeats 2000000 in
theorem unp_C (v0 v1 v2 a r0 r1 r2 : Nat) (cs : Int) (w : World) (hp : (FloatKind.f64.format.order a 0 == some .gt) = true) (ha : (FloatKind.f64.format.order a 4607182418800017408 == some .lt) = true) (c2 : (cs == 2) = false) (c3 : (cs == 3) = false) (c5 : (cs == 5) = false) (c7 : (cs == 7) = false) (h0 : floatBits .quo .f64 v0 a = some r0) (h1 : floatBits .quo .f64 v1 a = some r1) (h2 : floatBits .quo .f64 v2 a = some r2) :
    Calls Try.prog 58 #[.agg #[.float .f64 v0], .agg #[.float .f64 v1], .agg #[.float .f64 v2], .agg #[.float .f64 a], .int .u8 cs] w fun e w' => e = .returned (.tuple #[.agg #[.float .f64 r0], .agg #[.float .f64 r1], .agg #[.float .f64 r2]]) ∧ Below w.heap.size w w' := by
  have M0 := Lib.hid (fun w => div61 v0 a r0 w h0)
  have M2 := Lib.hid (fun w => div61 v2 a r2 w h2)
  have M1 := Lib.hid (fun w => div61 v1 a r1 w h1)
  clear h0 h2 h1
  go_enter Try.func58, Try.ntmps58
  go_wp2_with (first | (go_at_call 45; refine (value_exact _ _).mono ?_; rintro e w1 ⟨rfl, rfl⟩))
  refine (M0.out _).mono ?_
  rintro e w1 ⟨rfl, rfl⟩
  go_wp2_with fail
  refine (M2.out _).mono ?_
  rintro e w1 ⟨rfl, rfl⟩
  go_wp2_with fail
  refine (M1.out _).mono ?_
  rintro e w1 ⟨rfl, hw⟩
  have B1 : Below w.heap.size w w1 := by
    rw [← hw]
    repeat with_reducible apply al
    exact Below.refl _ _
  have q0 : w1.cell? ⟨w.heap.size, 0, none⟩ = some (.float .f64 r0) := by rw [← hw]; simp [go_sem]
  have q1 : w1.cell? ⟨w.heap.size + 1, 0, none⟩ = some (.float .f64 v1) := by rw [← hw]; simp [go_sem]
  have q2 : w1.cell? ⟨w.heap.size + 1 + 1, 0, none⟩ = some (.float .f64 r2) := by rw [← hw]; simp [go_sem]
  have q4 : w1.cell? ⟨w.heap.size + 1 + 1 + 1 + 1, 0, none⟩ = some (.float .f64 0) := by rw [← hw]; simp [go_sem]
  have q5 : w1.cell? ⟨w.heap.size + 1 + 1 + 1 + 1 + 1, 0, none⟩ = some (.float .f64 0) := by rw [← hw]; simp [go_sem]
  have q6 : w1.cell? ⟨w.heap.size + 1 + 1 + 1 + 1 + 1 + 1, 0, none⟩ = some (.float .f64 0) := by rw [← hw]; simp [go_sem]
  have f1 : w1.frozen? ⟨w.heap.size + 1, 0, none⟩ = false := by rw [← hw]; simp [go_sem]
  have f4 : w1.frozen? ⟨w.heap.size + 1 + 1 + 1 + 1, 0, none⟩ = false := by rw [← hw]; simp [go_sem]
  have f5 : w1.frozen? ⟨w.heap.size + 1 + 1 + 1 + 1 + 1, 0, none⟩ = false := by rw [← hw]; simp [go_sem]
  have f6 : w1.frozen? ⟨w.heap.size + 1 + 1 + 1 + 1 + 1 + 1, 0, none⟩ = false := by rw [← hw]; simp [go_sem]
  clear hw M0 M2 M1
  go_wp2_with fail
  go_region
  go_wp2
  refine bodyPost_ret (v := .tuple #[.agg #[.float .f64 r0], .agg #[.float .f64 r1], .agg #[.float .f64 r2]]) (by simp [results, Try.results58, go_sem, q4, q5, q6]) rfl ⟨rfl, ?_⟩
  repeat (first | exact B1 | apply Below.drew | (refine Below.setCell ?_ (by simp; try omega) _))

/-- whatever the colour space -/
theorem unp_any (v0 v1 v2 a r0 r1 r2 : Nat) (cs : Int) (w : World) (hp : (FloatKind.f64.format.order a 0 == some .gt) = true) (ha : (FloatKind.f64.format.order a 4607182418800017408 == some .lt) = true) (hL : hueL cs = false → floatBits .quo .f64 v0 a = some r0) (hM : floatBits .quo .f64 v1 a = some r1) (hR : hueR cs = false → floatBits .quo .f64 v2 a = some r2) (eL : hueL cs = true → r0 = v0) (eR : hueR cs = true → r2 = v2) :
    Calls Try.prog 58 #[.agg #[.float .f64 v0], .agg #[.float .f64 v1], .agg #[.float .f64 v2], .agg #[.float .f64 a], .int .u8 cs] w fun e w' => e = .returned (.tuple #[.agg #[.float .f64 r0], .agg #[.float .f64 r1], .agg #[.float .f64 r2]]) ∧ Below w.heap.size w w' := by
  by_cases c2 : cs = 2
  · subst c2
    obtain rfl := eL rfl
    exact unp_A2 _ _ _ _ _ _ w hp ha hM (hR rfl)
  by_cases c3 : cs = 3
  · subst c3
    obtain rfl := eL rfl
    exact unp_A3 _ _ _ _ _ _ w hp ha hM (hR rfl)
  by_cases c5 : cs = 5
  · subst c5
    obtain rfl := eR rfl
    exact unp_B5 _ _ _ _ _ _ w hp ha (hL rfl) hM
  by_cases c7 : cs = 7
  · subst c7
    obtain rfl := eR rfl
    exact unp_B7 _ _ _ _ _ _ w hp ha (hL rfl) hM
  have d2 : (cs == 2) = false := by simpa using c2
  have d3 : (cs == 3) = false := by simpa using c3
  have d5 : (cs == 5) = false := by simpa using c5
  have d7 : (cs == 7) = false := by simpa using c7
  exact unp_C _ _ _ _ _ _ _ cs w hp ha d2 d3 d5 d7 (hL (by unfold hueL; rw [d2, d3]; rfl)) hM (hR (by unfold hueR; rw [d5, d7]; rfl))

set_option maxHeartbeats 2000000 in
theorem zzunp (v0 v1 v2 a r0 r1 r2 : Nat) (cs : Int) (w : World) (hp : (FloatKind.f64.format.order a 0 == some .gt) = true) (ha : (FloatKind.f64.format.order a 4607182418800017408 == some .lt) = true) (hL : hueL cs = false → floatBits .quo .f64 v0 a = some r0) (hM : floatBits .quo .f64 v1 a = some r1) (hR : hueR cs = false → floatBits .quo .f64 v2 a = some r2) (eL : hueL cs = true → r0 = v0) (eR : hueR cs = true → r2 = v2) :
    Calls Try.prog 40 #[.float .f64 v0, .float .f64 v1, .float .f64 v2, .float .f64 a, .int .u8 cs] w fun e w' => e = .returned (.tuple #[.float .f64 r0, .float .f64 r1, .float .f64 r2]) ∧ Below w.heap.size w w' := by
  have K := Lib.hid (fun w => unp_any v0 v1 v2 a r0 r1 r2 cs w hp ha hL hM hR eL eR)
  clear hL hM hR eL eR hp ha
  go_enter Try.func40, Try.ntmps40
  go_wp2_with (first | (go_at_call 44; refine (new_exact _ _).mono ?_; rintro e w1 ⟨rfl, rfl⟩))
  refine (K.out _).mono ?_
  rintro e w1 ⟨rfl, hb⟩
  have HB := Lib.hid hb
  clear hb
  go_wp2_with fail
  go_region_held3 (fun w' => w'.cell? ⟨w1.heap.size, 0, none⟩ = some (.float .f64 r0) ∧ w'.cell? ⟨w1.heap.size + 1, 0, none⟩ = some (.float .f64 r1) ∧ w'.cell? ⟨w1.heap.size + 1 + 1, 0, none⟩ = some (.float .f64 r2) ∧ Kp w1.heap.size w1 w')
    (first | exact S3.start _ _ _ _ _ | exact S3.call (by assumption) hb)
    (first | (go_at_call 45; refine (value_any _ _).mono ?_; rintro e w2 ⟨rfl, hb⟩))
  rename_i hH
  have hK := hH.2.2.2
  clear hH
  go_wp2
  go_ret3
  refine ⟨rfl, ?_⟩
  have hz := HB.out.size
  exact ((((((Below.refl _ _).alloc (Nat.le_refl _) _).alloc (by simp) _).alloc (by simp; omega) _).alloc (by simp; omega) _).trans (HB.out.mono (by simp; omega))).trans (hK.below.mono (by simp at hz; omega))

end Go.Proofs.Ytmomchpfllbgjaa
