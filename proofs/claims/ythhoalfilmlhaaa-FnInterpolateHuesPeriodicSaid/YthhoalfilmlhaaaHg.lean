/-
  The contracts of the laws' floor, distance of angles and comparison of ends. Condition: the operations have answers.
-/
import Derived.Test.YthhoalfilmlhaaaHf
namespace Go.Proofs.Ythhoalfilmlhaaa
open Go.ChangeShapes Go.WideShapes Go.ChangeAt Go.RowKit
attribute [local go_sem] run_store_float unary_neg_float

set_option maxRecDepth 20000 in
theorem floor11 (x : Nat) (n : Int) (h : (Ieee.double.read x).toInt .zero = some n) (hn : n.natAbs ≤ 4503599627370496) (f : Fl.Fin (floatOfInt .f64 n)) (w : World) :
    Calls Try.prog 11 #[.float .f64 x] w fun e w' => e = .returned (.float .f64 (Fl.zfl x n)) ∧ w' = w := by
  have hc := run_toInt x n h hn
  have hs := fun w t => run_float_arith (P := Try.prog) w .sub t .f64 (floatOfInt .f64 n) 4607182418800017408 _ (Fl.bits_sub f Fl.w1.1)
  have hd : Fl.zfl x n = if (FloatKind.f64.format.order (floatOfInt .f64 n) x == some .gt) = true then Fl.fsub (floatOfInt .f64 n) 4607182418800017408 else floatOfInt .f64 n := rfl
  rw [hd]
  clear hd h hn f
  cases hb : (FloatKind.f64.format.order (floatOfInt .f64 n) x == some .gt)
  · go_enter Try.func11, Try.ntmps11
    go_wp2_with fail
    go_ret
    exact ⟨rfl, rfl⟩
  · go_enter Try.func11, Try.ntmps11
    go_wp2_with fail
    go_ret
    exact ⟨rfl, rfl⟩
set_option maxRecDepth 20000 in
theorem circ6 (x y : Nat) (n : Int) (hx : Fl.Fin x) (hy : Fl.Fin y) (h : (Ieee.double.read (Fl.fdiv (Fl.fsub x y) 4645040803167600640)).toInt .zero = some n) (hn : n.natAbs ≤ 4503599627370496) (ok : Fl.CircOk x y n) (w : World) :
    Calls Try.prog 6 #[.float .f64 x, .float .f64 y] w fun e w' => e = .returned (.float .f64 (Fl.circ x y n)) ∧ w' = w := by
  have F := Lib.hid (floor11 (Fl.fdiv (Fl.fsub x y) 4645040803167600640) n h hn ok.i)
  have h1 := fun w t => run_float_arith (P := Try.prog) w .sub t .f64 x y _ (Fl.bits_sub hx hy)
  have h2 := fun w t => run_float_arith (P := Try.prog) w .quo t .f64 (Fl.fsub x y) 4645040803167600640 _ (Fl.bits_div ok.d Fl.w360.1 (by rw [Fl.w360.2]; decide))
  have h3 := fun w t => run_float_arith (P := Try.prog) w .mul t .f64 4645040803167600640 (Fl.zfl (Fl.fdiv (Fl.fsub x y) 4645040803167600640) n) _ (Fl.bits_mul Fl.w360.1 ok.f)
  have h4 := fun w t => run_float_arith (P := Try.prog) w .sub t .f64 (Fl.fsub x y) (Fl.fmul 4645040803167600640 (Fl.zfl (Fl.fdiv (Fl.fsub x y) 4645040803167600640) n)) (Fl.circm x y n) (Fl.bits_sub ok.d ok.p)
  have h5 := fun w t => run_float_arith (P := Try.prog) w .sub t .f64 4645040803167600640 (Fl.circm x y n) _ (Fl.bits_sub Fl.w360.1 ok.m)
  have hd : Fl.circ x y n = if (FloatKind.f64.format.order (Fl.fsub 4645040803167600640 (Fl.circm x y n)) (Fl.circm x y n) == some .lt) = true then Fl.fsub 4645040803167600640 (Fl.circm x y n) else Fl.circm x y n := rfl
  rw [hd]
  clear hd h hn ok hx hy
  cases hb : (FloatKind.f64.format.order (Fl.fsub 4645040803167600640 (Fl.circm x y n)) (Fl.circm x y n) == some .lt)
  · go_enter Try.func6, Try.ntmps6
    go_wp2_with fail
    refine (F.out _).mono ?_
    rintro e w1 ⟨rfl, hw⟩
    obtain rfl := hw.symm
    clear hw
    go_wp2_with fail
    go_ret
    exact ⟨rfl, rfl⟩
  · go_enter Try.func6, Try.ntmps6
    go_wp2_with fail
    refine (F.out _).mono ?_
    rintro e w1 ⟨rfl, hw⟩
    obtain rfl := hw.symm
    clear hw
    go_wp2_with fail
    go_ret
    exact ⟨rfl, rfl⟩
theorem end10h (v x o c : Nat) (w : World) (hc : ∀ w, Calls Try.prog 6 #[.float .f64 v, .float .f64 x] w fun e w' => e = .returned (.float .f64 c) ∧ w' = w) :
    Calls Try.prog 10 #[.float .f64 v, .float .f64 x, .float .f64 o, .bool true] w fun e w' => e = .returned (.bool (leB c 4517329193108106637)) ∧ w' = w := by
  have C := Lib.hid hc
  clear hc
  unfold leB
  go_enter Try.func10, Try.ntmps10
  go_wp2_with fail
  refine (C.out _).mono ?_
  rintro e w1 ⟨rfl, hw⟩
  obtain rfl := hw.symm
  clear hw
  go_wp2_with fail
  go_ret
  exact ⟨rfl, rfl⟩
set_option maxRecDepth 20000 in
theorem end10p (v x o d s1 s2 s3 : Nat) (w : World) (k1 : floatBits .sub .f64 v x = some d) (k2 : floatBits .add .f64 (Fl.fabs x) (Fl.fabs o) = some s1) (k3 : floatBits .add .f64 s1 4607182418800017408 = some s2) (k4 : floatBits .mul .f64 4472406533629990549 s2 = some s3) :
    Calls Try.prog 10 #[.float .f64 v, .float .f64 x, .float .f64 o, .bool false] w fun e w' => e = .returned (.bool (leB (Fl.fabs d) s3)) ∧ w' = w := by
  have h1 := fun w t => run_float_arith (P := Try.prog) w .sub t .f64 v x d k1
  have h2 := fun w t => run_float_arith (P := Try.prog) w .add t .f64 _ _ s1 k2
  have h3 := fun w t => run_float_arith (P := Try.prog) w .add t .f64 _ _ s2 k3
  have h4 := fun w t => run_float_arith (P := Try.prog) w .mul t .f64 _ _ s3 k4
  clear k1 k2 k3 k4
  unfold leB
  go_enter Try.func10, Try.ntmps10
  go_wp2_with (go_at_call 7; with_reducible refine (abs7 _ _).mono ?_; rintro e w1 ⟨rfl, hw⟩; obtain rfl := hw.symm; clear hw)
  go_ret
  exact ⟨rfl, rfl⟩
end Go.Proofs.Ythhoalfilmlhaaa
