/-
  The walk of the law on interpolateColors' ends and on what the hue method touches. Conditions: the shapes of the arguments.
-/
import Derived.Test.YthhoalfilmlhaaaHh
namespace Go.Proofs.Ythhoalfilmlhaaa
open Go.ChangeShapes Go.WideShapes Go.ChangeAt Go.RowKit
attribute [local go_sem] run_store_float unary_neg_float

theorem order_self {x : Nat} (h : Fl.Fin x) : FloatKind.f64.format.order x x = some .eq := by
  have h2 := (Fl.order_fin h h).2.1
  rw [decide_eq_true rfl] at h2
  exact eq_of_beq h2
set_option maxRecDepth 20000 in
set_option maxHeartbeats 8000000 in
theorem walk4 (a0 a1 a2 a3 a4 a5 a6 : Nat) (a7 a8 a9 : Int) (w : World) :
    Calls Try.prog 4 #[.float .f64 a0, .float .f64 a1, .float .f64 a2, .float .f64 a3, .float .f64 a4, .float .f64 a5, .float .f64 a6, .int .u8 a7, .int .u8 a8, .int .u8 a9] w fun e w' => e = .returned (.bool true) ∧ Below w.heap.size w w' := by
  go_enter Try.func4, Try.ntmps4
  go_wp2_with fail
  refine (in5 a0 4696837146684686336 _).mono ?_
  rintro e wx ⟨rfl, hw⟩
  obtain rfl := hw.symm
  clear hw
  cases h0 : inB a0 4696837146684686336
  · go_wp2_with fail
    exact bodyPost_ret (v := .bool true) (by simp [results, Try.results4, go_sem]) rfl ⟨rfl, Below.refl _ _⟩
  have D0 := inB_bd h0
  clear h0
  have D0 := Lib.hid D0
  go_wp2_with fail
  refine (in5 a1 4696837146684686336 _).mono ?_
  rintro e wx ⟨rfl, hw⟩
  obtain rfl := hw.symm
  clear hw
  cases h1 : inB a1 4696837146684686336
  · go_wp2_with fail
    exact bodyPost_ret (v := .bool true) (by simp [results, Try.results4, go_sem]) rfl ⟨rfl, Below.refl _ _⟩
  have D1 := inB_bd h1
  clear h1
  have D1 := Lib.hid D1
  go_wp2_with fail
  refine (in5 a2 4696837146684686336 _).mono ?_
  rintro e wx ⟨rfl, hw⟩
  obtain rfl := hw.symm
  clear hw
  cases h2 : inB a2 4696837146684686336
  · go_wp2_with fail
    exact bodyPost_ret (v := .bool true) (by simp [results, Try.results4, go_sem]) rfl ⟨rfl, Below.refl _ _⟩
  have D2 := inB_bd h2
  clear h2
  have D2 := Lib.hid D2
  go_wp2_with fail
  refine (in5 a3 4696837146684686336 _).mono ?_
  rintro e wx ⟨rfl, hw⟩
  obtain rfl := hw.symm
  clear hw
  cases h3 : inB a3 4696837146684686336
  · go_wp2_with fail
    exact bodyPost_ret (v := .bool true) (by simp [results, Try.results4, go_sem]) rfl ⟨rfl, Below.refl _ _⟩
  have D3 := inB_bd h3
  clear h3
  have D3 := Lib.hid D3
  go_wp2_with fail
  refine (in5 a4 4696837146684686336 _).mono ?_
  rintro e wx ⟨rfl, hw⟩
  obtain rfl := hw.symm
  clear hw
  cases h4 : inB a4 4696837146684686336
  · go_wp2_with fail
    exact bodyPost_ret (v := .bool true) (by simp [results, Try.results4, go_sem]) rfl ⟨rfl, Below.refl _ _⟩
  have D4 := inB_bd h4
  clear h4
  have D4 := Lib.hid D4
  go_wp2_with fail
  refine (in5 a5 4696837146684686336 _).mono ?_
  rintro e wx ⟨rfl, hw⟩
  obtain rfl := hw.symm
  clear hw
  cases h5 : inB a5 4696837146684686336
  · go_wp2_with fail
    exact bodyPost_ret (v := .bool true) (by simp [results, Try.results4, go_sem]) rfl ⟨rfl, Below.refl _ _⟩
  have D5 := inB_bd h5
  clear h5
  have D5 := Lib.hid D5
  cases ht1 : geB a6 0
  · unfold geB at ht1
    go_wp2_with fail
    exact bodyPost_ret (v := .bool true) (by simp [results, Try.results4, go_sem]) rfl ⟨rfl, Below.refl _ _⟩
  cases ht2 : leB a6 4607182418800017408
  · unfold geB at ht1
    unfold leB at ht2
    go_wp2_with fail
    exact bodyPost_ret (v := .bool true) (by simp [results, Try.results4, go_sem]) rfl ⟨rfl, Below.refl _ _⟩
  have DT := Lib.hid (unit_of ht1 ht2)
  unfold geB at ht1
  unfold leB at ht2
  by_cases c2 : a7 = 2
  · subst c2
    obtain ⟨A, B, fA, fB, hh⟩ := hueAny a0 a3 a8 D0.out D3.out
    obtain ⟨A', B', fA', fB', hh'⟩ := hueAny a0 a3 a9 D0.out D3.out
    have Z := Lib.hid (fun (t : Nat) (ht : Unit1 t) (w : World) => zz9 a0 a1 a2 a3 a4 a5 t _ _ _ 2 a8 w (fun w => col2 a0 a1 a2 a3 a4 a5 t _ _ _ a8 w (hh t ht).2 (lerpAny a1 a4 D1.out D4.out t ht).2 (lerpAny a2 a5 D2.out D5.out t ht).2))
    have Z' := Lib.hid (fun (t : Nat) (ht : Unit1 t) (w : World) => zz9 a0 a1 a2 a3 a4 a5 t _ _ _ 2 a9 w (fun w => col2 a0 a1 a2 a3 a4 a5 t _ _ _ a9 w (hh' t ht).2 (lerpAny a1 a4 D1.out D4.out t ht).2 (lerpAny a2 a5 D2.out D5.out t ht).2))
    have E00 := Lib.hid (end_hue0 (o := a3) D0.out fA (frac_bd fB))
    have E01 := Lib.hid (end_p0 D1.out D4.out)
    have E02 := Lib.hid (end_p0 D2.out D5.out)
    have E10 := Lib.hid (end_hue1 (o := a0) D3.out fA.s fA.f fB)
    have E11 := Lib.hid (end_p1 D1.out D4.out)
    have E12 := Lib.hid (end_p1 D2.out D5.out)
    have o1 := order_self (lerpAny a1 a4 D1.out D4.out a6 DT.out).1
    have o2 := order_self (lerpAny a2 a5 D2.out D5.out a6 DT.out).1
    go_wp2_with fail
    refine (Z.out _ unit0 _).mono ?_
    rintro e y1 ⟨rfl, hb⟩
    have BB1 := Lib.hid ((Below.refl w.heap.size w).trans (hb.mono (Nat.le_refl _)))
    clear hb
    go_wp2_with fail
    refine (E00.out _).mono ?_
    rintro e wx ⟨rfl, hw⟩
    obtain rfl := hw.symm
    clear hw
    go_wp2_with fail
    refine (E01.out _).mono ?_
    rintro e wx ⟨rfl, hw⟩
    obtain rfl := hw.symm
    clear hw
    go_wp2_with fail
    refine (E02.out _).mono ?_
    rintro e wx ⟨rfl, hw⟩
    obtain rfl := hw.symm
    clear hw
    go_wp2_with fail
    refine (Z.out _ unit1 _).mono ?_
    rintro e y2 ⟨rfl, hb⟩
    have BB2 := Lib.hid (BB1.out.trans (hb.mono BB1.out.size))
    clear hb
    go_wp2_with fail
    refine (E10.out _).mono ?_
    rintro e wx ⟨rfl, hw⟩
    obtain rfl := hw.symm
    clear hw
    go_wp2_with fail
    refine (E11.out _).mono ?_
    rintro e wx ⟨rfl, hw⟩
    obtain rfl := hw.symm
    clear hw
    go_wp2_with fail
    refine (E12.out _).mono ?_
    rintro e wx ⟨rfl, hw⟩
    obtain rfl := hw.symm
    clear hw
    go_wp2_with fail
    refine (Z.out _ DT.out _).mono ?_
    rintro e y3 ⟨rfl, hb⟩
    have BB3 := Lib.hid (BB2.out.trans (hb.mono BB2.out.size))
    clear hb
    go_wp2_with fail
    refine (Z'.out _ DT.out _).mono ?_
    rintro e y4 ⟨rfl, hb⟩
    have BB4 := Lib.hid (BB3.out.trans (hb.mono BB3.out.size))
    clear hb
    go_wp2_with fail
    exact bodyPost_ret (v := .bool true) (by simp [results, Try.results4, go_sem]) rfl ⟨rfl, BB4.out⟩
  by_cases c3 : a7 = 3
  · subst c3
    obtain ⟨A, B, fA, fB, hh⟩ := hueAny a0 a3 a8 D0.out D3.out
    obtain ⟨A', B', fA', fB', hh'⟩ := hueAny a0 a3 a9 D0.out D3.out
    have Z := Lib.hid (fun (t : Nat) (ht : Unit1 t) (w : World) => zz9 a0 a1 a2 a3 a4 a5 t _ _ _ 3 a8 w (fun w => col3 a0 a1 a2 a3 a4 a5 t _ _ _ a8 w (hh t ht).2 (lerpAny a1 a4 D1.out D4.out t ht).2 (lerpAny a2 a5 D2.out D5.out t ht).2))
    have Z' := Lib.hid (fun (t : Nat) (ht : Unit1 t) (w : World) => zz9 a0 a1 a2 a3 a4 a5 t _ _ _ 3 a9 w (fun w => col3 a0 a1 a2 a3 a4 a5 t _ _ _ a9 w (hh' t ht).2 (lerpAny a1 a4 D1.out D4.out t ht).2 (lerpAny a2 a5 D2.out D5.out t ht).2))
    have E00 := Lib.hid (end_hue0 (o := a3) D0.out fA (frac_bd fB))
    have E01 := Lib.hid (end_p0 D1.out D4.out)
    have E02 := Lib.hid (end_p0 D2.out D5.out)
    have E10 := Lib.hid (end_hue1 (o := a0) D3.out fA.s fA.f fB)
    have E11 := Lib.hid (end_p1 D1.out D4.out)
    have E12 := Lib.hid (end_p1 D2.out D5.out)
    have o1 := order_self (lerpAny a1 a4 D1.out D4.out a6 DT.out).1
    have o2 := order_self (lerpAny a2 a5 D2.out D5.out a6 DT.out).1
    go_wp2_with fail
    refine (Z.out _ unit0 _).mono ?_
    rintro e y1 ⟨rfl, hb⟩
    have BB1 := Lib.hid ((Below.refl w.heap.size w).trans (hb.mono (Nat.le_refl _)))
    clear hb
    go_wp2_with fail
    refine (E00.out _).mono ?_
    rintro e wx ⟨rfl, hw⟩
    obtain rfl := hw.symm
    clear hw
    go_wp2_with fail
    refine (E01.out _).mono ?_
    rintro e wx ⟨rfl, hw⟩
    obtain rfl := hw.symm
    clear hw
    go_wp2_with fail
    refine (E02.out _).mono ?_
    rintro e wx ⟨rfl, hw⟩
    obtain rfl := hw.symm
    clear hw
    go_wp2_with fail
    refine (Z.out _ unit1 _).mono ?_
    rintro e y2 ⟨rfl, hb⟩
    have BB2 := Lib.hid (BB1.out.trans (hb.mono BB1.out.size))
    clear hb
    go_wp2_with fail
    refine (E10.out _).mono ?_
    rintro e wx ⟨rfl, hw⟩
    obtain rfl := hw.symm
    clear hw
    go_wp2_with fail
    refine (E11.out _).mono ?_
    rintro e wx ⟨rfl, hw⟩
    obtain rfl := hw.symm
    clear hw
    go_wp2_with fail
    refine (E12.out _).mono ?_
    rintro e wx ⟨rfl, hw⟩
    obtain rfl := hw.symm
    clear hw
    go_wp2_with fail
    refine (Z.out _ DT.out _).mono ?_
    rintro e y3 ⟨rfl, hb⟩
    have BB3 := Lib.hid (BB2.out.trans (hb.mono BB2.out.size))
    clear hb
    go_wp2_with fail
    refine (Z'.out _ DT.out _).mono ?_
    rintro e y4 ⟨rfl, hb⟩
    have BB4 := Lib.hid (BB3.out.trans (hb.mono BB3.out.size))
    clear hb
    go_wp2_with fail
    exact bodyPost_ret (v := .bool true) (by simp [results, Try.results4, go_sem]) rfl ⟨rfl, BB4.out⟩
  by_cases c5 : a7 = 5
  · subst c5
    obtain ⟨A, B, fA, fB, hh⟩ := hueAny a2 a5 a8 D2.out D5.out
    obtain ⟨A', B', fA', fB', hh'⟩ := hueAny a2 a5 a9 D2.out D5.out
    have Z := Lib.hid (fun (t : Nat) (ht : Unit1 t) (w : World) => zz9 a0 a1 a2 a3 a4 a5 t _ _ _ 5 a8 w (fun w => col5 a0 a1 a2 a3 a4 a5 t _ _ _ a8 w (lerpAny a0 a3 D0.out D3.out t ht).2 (lerpAny a1 a4 D1.out D4.out t ht).2 (hh t ht).2))
    have Z' := Lib.hid (fun (t : Nat) (ht : Unit1 t) (w : World) => zz9 a0 a1 a2 a3 a4 a5 t _ _ _ 5 a9 w (fun w => col5 a0 a1 a2 a3 a4 a5 t _ _ _ a9 w (lerpAny a0 a3 D0.out D3.out t ht).2 (lerpAny a1 a4 D1.out D4.out t ht).2 (hh' t ht).2))
    have E00 := Lib.hid (end_p0 D0.out D3.out)
    have E01 := Lib.hid (end_p0 D1.out D4.out)
    have E02 := Lib.hid (end_hue0 (o := a5) D2.out fA (frac_bd fB))
    have E10 := Lib.hid (end_p1 D0.out D3.out)
    have E11 := Lib.hid (end_p1 D1.out D4.out)
    have E12 := Lib.hid (end_hue1 (o := a2) D5.out fA.s fA.f fB)
    have o1 := order_self (lerpAny a1 a4 D1.out D4.out a6 DT.out).1
    have o0 := order_self (lerpAny a0 a3 D0.out D3.out a6 DT.out).1
    go_wp2_with fail
    refine (Z.out _ unit0 _).mono ?_
    rintro e y1 ⟨rfl, hb⟩
    have BB1 := Lib.hid ((Below.refl w.heap.size w).trans (hb.mono (Nat.le_refl _)))
    clear hb
    go_wp2_with fail
    refine (E00.out _).mono ?_
    rintro e wx ⟨rfl, hw⟩
    obtain rfl := hw.symm
    clear hw
    go_wp2_with fail
    refine (E01.out _).mono ?_
    rintro e wx ⟨rfl, hw⟩
    obtain rfl := hw.symm
    clear hw
    go_wp2_with fail
    refine (E02.out _).mono ?_
    rintro e wx ⟨rfl, hw⟩
    obtain rfl := hw.symm
    clear hw
    go_wp2_with fail
    refine (Z.out _ unit1 _).mono ?_
    rintro e y2 ⟨rfl, hb⟩
    have BB2 := Lib.hid (BB1.out.trans (hb.mono BB1.out.size))
    clear hb
    go_wp2_with fail
    refine (E10.out _).mono ?_
    rintro e wx ⟨rfl, hw⟩
    obtain rfl := hw.symm
    clear hw
    go_wp2_with fail
    refine (E11.out _).mono ?_
    rintro e wx ⟨rfl, hw⟩
    obtain rfl := hw.symm
    clear hw
    go_wp2_with fail
    refine (E12.out _).mono ?_
    rintro e wx ⟨rfl, hw⟩
    obtain rfl := hw.symm
    clear hw
    go_wp2_with fail
    refine (Z.out _ DT.out _).mono ?_
    rintro e y3 ⟨rfl, hb⟩
    have BB3 := Lib.hid (BB2.out.trans (hb.mono BB2.out.size))
    clear hb
    go_wp2_with fail
    refine (Z'.out _ DT.out _).mono ?_
    rintro e y4 ⟨rfl, hb⟩
    have BB4 := Lib.hid (BB3.out.trans (hb.mono BB3.out.size))
    clear hb
    go_wp2_with fail
    exact bodyPost_ret (v := .bool true) (by simp [results, Try.results4, go_sem]) rfl ⟨rfl, BB4.out⟩
  by_cases c7 : a7 = 7
  · subst c7
    obtain ⟨A, B, fA, fB, hh⟩ := hueAny a2 a5 a8 D2.out D5.out
    obtain ⟨A', B', fA', fB', hh'⟩ := hueAny a2 a5 a9 D2.out D5.out
    have Z := Lib.hid (fun (t : Nat) (ht : Unit1 t) (w : World) => zz9 a0 a1 a2 a3 a4 a5 t _ _ _ 7 a8 w (fun w => col7 a0 a1 a2 a3 a4 a5 t _ _ _ a8 w (lerpAny a0 a3 D0.out D3.out t ht).2 (lerpAny a1 a4 D1.out D4.out t ht).2 (hh t ht).2))
    have Z' := Lib.hid (fun (t : Nat) (ht : Unit1 t) (w : World) => zz9 a0 a1 a2 a3 a4 a5 t _ _ _ 7 a9 w (fun w => col7 a0 a1 a2 a3 a4 a5 t _ _ _ a9 w (lerpAny a0 a3 D0.out D3.out t ht).2 (lerpAny a1 a4 D1.out D4.out t ht).2 (hh' t ht).2))
    have E00 := Lib.hid (end_p0 D0.out D3.out)
    have E01 := Lib.hid (end_p0 D1.out D4.out)
    have E02 := Lib.hid (end_hue0 (o := a5) D2.out fA (frac_bd fB))
    have E10 := Lib.hid (end_p1 D0.out D3.out)
    have E11 := Lib.hid (end_p1 D1.out D4.out)
    have E12 := Lib.hid (end_hue1 (o := a2) D5.out fA.s fA.f fB)
    have o1 := order_self (lerpAny a1 a4 D1.out D4.out a6 DT.out).1
    have o0 := order_self (lerpAny a0 a3 D0.out D3.out a6 DT.out).1
    go_wp2_with fail
    refine (Z.out _ unit0 _).mono ?_
    rintro e y1 ⟨rfl, hb⟩
    have BB1 := Lib.hid ((Below.refl w.heap.size w).trans (hb.mono (Nat.le_refl _)))
    clear hb
    go_wp2_with fail
    refine (E00.out _).mono ?_
    rintro e wx ⟨rfl, hw⟩
    obtain rfl := hw.symm
    clear hw
    go_wp2_with fail
    refine (E01.out _).mono ?_
    rintro e wx ⟨rfl, hw⟩
    obtain rfl := hw.symm
    clear hw
    go_wp2_with fail
    refine (E02.out _).mono ?_
    rintro e wx ⟨rfl, hw⟩
    obtain rfl := hw.symm
    clear hw
    go_wp2_with fail
    refine (Z.out _ unit1 _).mono ?_
    rintro e y2 ⟨rfl, hb⟩
    have BB2 := Lib.hid (BB1.out.trans (hb.mono BB1.out.size))
    clear hb
    go_wp2_with fail
    refine (E10.out _).mono ?_
    rintro e wx ⟨rfl, hw⟩
    obtain rfl := hw.symm
    clear hw
    go_wp2_with fail
    refine (E11.out _).mono ?_
    rintro e wx ⟨rfl, hw⟩
    obtain rfl := hw.symm
    clear hw
    go_wp2_with fail
    refine (E12.out _).mono ?_
    rintro e wx ⟨rfl, hw⟩
    obtain rfl := hw.symm
    clear hw
    go_wp2_with fail
    refine (Z.out _ DT.out _).mono ?_
    rintro e y3 ⟨rfl, hb⟩
    have BB3 := Lib.hid (BB2.out.trans (hb.mono BB2.out.size))
    clear hb
    go_wp2_with fail
    refine (Z'.out _ DT.out _).mono ?_
    rintro e y4 ⟨rfl, hb⟩
    have BB4 := Lib.hid (BB3.out.trans (hb.mono BB3.out.size))
    clear hb
    go_wp2_with fail
    exact bodyPost_ret (v := .bool true) (by simp [results, Try.results4, go_sem]) rfl ⟨rfl, BB4.out⟩
  · have g2 : (a7 == 2) = false := by simp [c2]
    have g3 : (a7 == 3) = false := by simp [c3]
    have g5 : (a7 == 5) = false := by simp [c5]
    have g7 : (a7 == 7) = false := by simp [c7]
    have Z := Lib.hid (fun (t : Nat) (ht : Unit1 t) (w : World) => zz9 a0 a1 a2 a3 a4 a5 t _ _ _ a7 a8 w (fun w => colo a0 a1 a2 a3 a4 a5 t _ _ _ a8 a7 ⟨c2, c3, c5, c7⟩ w (lerpAny a0 a3 D0.out D3.out t ht).2 (lerpAny a1 a4 D1.out D4.out t ht).2 (lerpAny a2 a5 D2.out D5.out t ht).2))
    have Z' := Lib.hid (fun (t : Nat) (ht : Unit1 t) (w : World) => zz9 a0 a1 a2 a3 a4 a5 t _ _ _ a7 a9 w (fun w => colo a0 a1 a2 a3 a4 a5 t _ _ _ a9 a7 ⟨c2, c3, c5, c7⟩ w (lerpAny a0 a3 D0.out D3.out t ht).2 (lerpAny a1 a4 D1.out D4.out t ht).2 (lerpAny a2 a5 D2.out D5.out t ht).2))
    have E00 := Lib.hid (end_p0 D0.out D3.out)
    have E01 := Lib.hid (end_p0 D1.out D4.out)
    have E02 := Lib.hid (end_p0 D2.out D5.out)
    have E10 := Lib.hid (end_p1 D0.out D3.out)
    have E11 := Lib.hid (end_p1 D1.out D4.out)
    have E12 := Lib.hid (end_p1 D2.out D5.out)
    have o1 := order_self (lerpAny a1 a4 D1.out D4.out a6 DT.out).1
    have o0 := order_self (lerpAny a0 a3 D0.out D3.out a6 DT.out).1
    have o2 := order_self (lerpAny a2 a5 D2.out D5.out a6 DT.out).1
    go_wp2_with fail
    refine (Z.out _ unit0 _).mono ?_
    rintro e y1 ⟨rfl, hb⟩
    have BB1 := Lib.hid ((Below.refl w.heap.size w).trans (hb.mono (Nat.le_refl _)))
    clear hb
    go_wp2_with fail
    refine (E00.out _).mono ?_
    rintro e wx ⟨rfl, hw⟩
    obtain rfl := hw.symm
    clear hw
    go_wp2_with fail
    refine (E01.out _).mono ?_
    rintro e wx ⟨rfl, hw⟩
    obtain rfl := hw.symm
    clear hw
    go_wp2_with fail
    refine (E02.out _).mono ?_
    rintro e wx ⟨rfl, hw⟩
    obtain rfl := hw.symm
    clear hw
    go_wp2_with fail
    refine (Z.out _ unit1 _).mono ?_
    rintro e y2 ⟨rfl, hb⟩
    have BB2 := Lib.hid (BB1.out.trans (hb.mono BB1.out.size))
    clear hb
    go_wp2_with fail
    refine (E10.out _).mono ?_
    rintro e wx ⟨rfl, hw⟩
    obtain rfl := hw.symm
    clear hw
    go_wp2_with fail
    refine (E11.out _).mono ?_
    rintro e wx ⟨rfl, hw⟩
    obtain rfl := hw.symm
    clear hw
    go_wp2_with fail
    refine (E12.out _).mono ?_
    rintro e wx ⟨rfl, hw⟩
    obtain rfl := hw.symm
    clear hw
    go_wp2_with fail
    refine (Z.out _ DT.out _).mono ?_
    rintro e y3 ⟨rfl, hb⟩
    have BB3 := Lib.hid (BB2.out.trans (hb.mono BB2.out.size))
    clear hb
    go_wp2_with fail
    refine (Z'.out _ DT.out _).mono ?_
    rintro e y4 ⟨rfl, hb⟩
    have BB4 := Lib.hid (BB3.out.trans (hb.mono BB3.out.size))
    clear hb
    go_wp2_with fail
    exact bodyPost_ret (v := .bool true) (by simp [results, Try.results4, go_sem]) rfl ⟨rfl, BB4.out⟩
end Go.Proofs.Ythhoalfilmlhaaa
