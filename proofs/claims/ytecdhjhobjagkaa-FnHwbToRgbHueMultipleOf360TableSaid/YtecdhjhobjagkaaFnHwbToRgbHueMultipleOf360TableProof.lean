/-
  At a hue that is a whole number of turns and finite, non-negative whiteness and blackness, hwb_to_rgb gives the gray or pure red, tinted and shaded.
-/
import Derived.Test.YtecdhjhobjagkaaIo
import Derived.WalkKit
import Derived.ProofKit
import Derived.OpenShut
import Derived.ShutString
import Derived.ChangeOld
import Derived.Below
import Derived.WalkLawsBesides
import Derived.Test.YtecdhjhobjagkaaFr
import Derived.Test.YtecdhjhobjagkaaFs
import Derived.Lib.Hide
namespace Go.Proofs.Ytecdhjhobjagkaa.fnHwbToRgbHueMultipleOf360Table
open Go.ChangeShapes Go.WideShapes Go.ChangeAt Go.RowKit
open Go.ChangeMaps (open_string shut_string)
set_option linter.unusedVariables false

theorem own : ownKnob Try.prog.godebug = none := by kernel_rfl
theorem laidOut : laidOutB Try.prog = true := by kernel_rfl


/-- what the words are, in plain Lean -/
theorem parts (a1 a2 : Nat) (h1 : Fl.Fin a1) (h2 : Fl.Fin a2) (p1 : 0 ≤ Fl.val a1) (p2 : 0 ≤ Fl.val a2) :
    Fl.Fin (Fl.fdiv a1 4636737291354636288) ∧ Fl.Fin (Fl.fdiv a2 4636737291354636288) ∧ Fl.Fin (Fl.fadd (Fl.fdiv a1 4636737291354636288) (Fl.fdiv a2 4636737291354636288))
    ∧ 0 ≤ Fl.val (Fl.fdiv a1 4636737291354636288) ∧ 0 ≤ Fl.val (Fl.fdiv a2 4636737291354636288) ∧ Fl.val (Fl.fdiv a1 4636737291354636288) ≤ Fl.BIG / 10 ∧ Fl.val (Fl.fdiv a1 4636737291354636288) ≤ Fl.val (Fl.fadd (Fl.fdiv a1 4636737291354636288) (Fl.fdiv a2 4636737291354636288))
    ∧ Fl.val 4636737291354636288 ≠ 0 := by
  have c100 : Fl.Fin 4636737291354636288 ∧ Fl.val 4636737291354636288 = 100 := by decide +kernel
  have n100 : Fl.val 4636737291354636288 ≠ 0 := by rw [c100.2]; decide
  have up := Fl.U_pos
  have ub := Fl.U_le
  have bp : (0 : Rat) < Fl.BIG := by decide +kernel
  have hd : ∀ a, Fl.Fin a → 0 ≤ Fl.val a → Fl.Fin (Fl.fdiv a 4636737291354636288) ∧ 0 ≤ Fl.val (Fl.fdiv a 4636737291354636288) ∧ Fl.val (Fl.fdiv a 4636737291354636288) ≤ Fl.BIG / 10 := by
    intro a ha pa
    have b1 := fin_le ha
    rw [Fl.ab_of_nonneg pa] at b1
    obtain ⟨d1, d2⟩ := rat_div (a := Fl.val a) (c := Fl.BIG / 20) (d := 100) (by decide)
    obtain ⟨d3, d4⟩ := rat_div (a := Fl.val a) (c := 0) (d := 100) (by decide)
    have q1 := d2 (by grind)
    have q0 := d3 (by grind)
    have hq : Fl.ab (Fl.val a / Fl.val 4636737291354636288) ≤ Fl.BIG / 20 := by rw [c100.2, Fl.ab_of_nonneg q0]; exact q1
    obtain ⟨f, e⟩ := Fl.fdiv_err ha c100.1 n100 (Rat.le_trans hq (by grind))
    have r := (Fl.fdiv_ok ha c100.1 n100).2
    refine ⟨f, r.nonneg f (by rw [c100.2]; exact q0), ?_⟩
    rw [c100.2] at e hq
    rw [Fl.ab_of_nonneg q0] at e hq
    have := Fl.ab_le.1 e
    grind
  obtain ⟨f1, q1, u1⟩ := hd a1 h1 p1
  obtain ⟨f2, q2, u2⟩ := hd a2 h2 p2
  obtain ⟨f3, _⟩ := Fl.fadd_err f1 f2 (by rw [Fl.ab_of_nonneg (by grind)]; grind)
  refine ⟨f1, f2, f3, q1, q2, u1, ?_, n100⟩
  obtain ⟨_, ra⟩ := Fl.fadd_ok f1 Fl.fin_zero
  rw [Fl.val_zero, Rat.add_zero] at ra
  obtain ⟨fa, va⟩ := ra.exact f1 rfl
  have := ra.mono (Fl.fadd_ok f1 f2).2 fa f3 (by grind)
  grind
theorem eq_true {x y : Nat} (hx : Fl.Fin x) (hy : Fl.Fin y) (h : Fl.val x = Fl.val y) : (FloatKind.f64.format.order x y == some .eq) = true := by
  have := (Fl.order_fin hx hy).2.1
  rw [decide_eq_true h] at this
  exact this
/-- the colour below the gray -/
theorem tinted (wq sq : Nat) (fw : Fl.Fin wq) (fs : Fl.Fin sq) (hw : 0 ≤ Fl.val wq) (hb : Fl.val wq ≤ Fl.BIG / 10) (h0 : 0 ≤ Fl.val sq) (h1 : Fl.val sq < 1) :
    ∃ dl m1 m2 n1 n2 d2 t2, floatBits .add .f64 (Fl.fneg sq) 4607182418800017408 = some dl ∧ floatBits .mul .f64 dl 4607182418800017408 = some m1 ∧ floatBits .mul .f64 dl 0 = some m2
    ∧ floatBits .add .f64 m1 wq = some n1 ∧ floatBits .add .f64 m2 wq = some n2 ∧ floatBits .sub .f64 4607182418800017408 sq = some d2 ∧ floatBits .add .f64 d2 wq = some t2
    ∧ (FloatKind.f64.format.order n2 wq == some .eq) = true ∧ (FloatKind.f64.format.order n1 t2 == some .eq) = true ∧ (FloatKind.f64.format.order n1 n2 == some .gt || FloatKind.f64.format.order n1 n2 == some .eq) = true := by
  have c1 : Fl.Fin 4607182418800017408 ∧ Fl.val 4607182418800017408 = 1 := by decide +kernel
  have bp : (1000 : Rat) < Fl.BIG := by decide +kernel
  have fn := Fl.fin_neg.2 fs
  have vn := Fl.val_neg sq
  have q1 : Fl.ab (Fl.val (Fl.fneg sq) + Fl.val 4607182418800017408) ≤ 1 := by rw [vn, c1.2]; exact Fl.ab_le.2 ⟨by grind, by grind⟩
  obtain ⟨fd, ed⟩ := Fl.fadd_err fn c1.1 (Rat.le_trans q1 (by grind))
  have rd := (Fl.fadd_ok fn c1.1).2
  have nd := rd.nonneg fd (by rw [vn, c1.2]; grind)
  have dle : Fl.val (Fl.fadd (Fl.fneg sq) 4607182418800017408) ≤ 2 := by
    have := Fl.ab_le.1 ed
    have := Fl.ab_le.1 q1
    grind
  obtain ⟨fd2, _⟩ := Fl.fsub_err c1.1 fs (by rw [c1.2]; exact Fl.ab_le.2 ⟨by grind, by grind⟩)
  have rd2 := (Fl.fsub_ok c1.1 fs).2
  have hdd : Fl.val (Fl.fadd (Fl.fneg sq) 4607182418800017408) = Fl.val (Fl.fsub 4607182418800017408 sq) := by
    have a := rd.mono rd2 fd fd2 (by rw [vn, c1.2]; grind)
    have b := rd2.mono rd fd2 fd (by rw [vn, c1.2]; grind)
    grind
  have rm1 := (Fl.fmul_ok fd c1.1).2
  obtain ⟨fm1, vm1⟩ := rm1.exact fd (by rw [c1.2]; grind)
  have rm2 := (Fl.fmul_ok fd Fl.fin_zero).2
  obtain ⟨fm2, vm2⟩ := rm2.exact Fl.fin_zero (by rw [Fl.val_zero]; grind)
  rw [c1.2] at vm1
  rw [Fl.val_zero] at vm2
  have rn1 := (Fl.fadd_ok fm1 fw).2
  obtain ⟨fn1, _⟩ := Fl.fadd_err fm1 fw (by rw [Fl.ab_of_nonneg (by grind)]; grind)
  have rn2 := (Fl.fadd_ok fm2 fw).2
  obtain ⟨fn2, vn2⟩ := rn2.exact fw (by grind)
  have rt := (Fl.fadd_ok fd2 fw).2
  obtain ⟨ft, _⟩ := Fl.fadd_err fd2 fw (by rw [← hdd, Fl.ab_of_nonneg (by grind)]; grind)
  refine ⟨_, _, _, _, _, _, _, Fl.bits_add fn c1.1, Fl.bits_mul fd c1.1, Fl.bits_mul fd Fl.fin_zero, Fl.bits_add fm1 fw, Fl.bits_add fm2 fw, Fl.bits_sub c1.1 fs, Fl.bits_add fd2 fw, eq_true fn2 fw (by grind), eq_true fn1 ft ?_, ?_⟩
  · have a := rn1.mono rt fn1 ft (by grind)
    have b := rt.mono rn1 ft fn1 (by grind)
    grind
  · have := Fl.ge_fin fn1 fn2
    rw [decide_eq_true (rn2.mono rn1 fn2 fn1 (by grind))] at this
    exact this

set_option maxHeartbeats 4000000 in
set_option maxRecDepth 100000 in
theorem walk (a0 : Int) (a1 : Nat) (a2 : Nat) (w : World) (w0 : (Lit.int .i32 a0).wf = true) (w1 : (Lit.float .f64 a1).wf = true) (w2 : (Lit.float .f64 a2).wf = true) :
    Calls Try.prog 4 #[.int .i32 a0, .float .f64 a1, .float .f64 a2] w fun e w' => e = .returned (.bool true) ∧ Below w.heap.size w w' := by
  have hM : IntKind.i32.max = 2147483647 := by decide
  have hm : IntKind.i32.min = -2147483648 := by decide
  have hr : -2147483648 ≤ a0 ∧ a0 ≤ 2147483647 := by
    simp only [Lit.wf, Bool.and_eq_true, decide_eq_true_eq] at w0
    omega
  clear w0 w1 w2 hM hm
  by_cases h1 : Fl.Fin a1
  case neg =>
    have F := Lib.hid (fun w => fin10_no a1 w h1)
    go_enter Try.func4, Try.ntmps4
    go_wp2_with fail
    refine (F.out _).mono ?_
    rintro e wx ⟨rfl, hb⟩
    have HB := Lib.hid hb
    clear hb
    go_wp2_with fail
    go_ret
    exact ⟨rfl, HB.out⟩
  by_cases h2 : Fl.Fin a2
  case neg =>
    have F := Lib.hid (fun w => fin10_no a2 w h2)
    have G := Lib.hid (fun w => fin10_yes a1 w h1)
    go_enter Try.func4, Try.ntmps4
    go_wp2_with fail
    refine (G.out _).mono ?_
    rintro e wx ⟨rfl, hw⟩
    obtain rfl := hw.symm
    go_wp2_with fail
    refine (F.out _).mono ?_
    rintro e wx ⟨rfl, hb⟩
    have HB := Lib.hid hb
    clear hb
    go_wp2_with fail
    go_ret
    exact ⟨rfl, HB.out⟩
  have G1 := Lib.hid (fun w => fin10_yes a1 w h1)
  have G2 := Lib.hid (fun w => fin10_yes a2 w h2)
  have o1 := (Fl.order_fin h1 Fl.fin_zero).1
  have o2 := (Fl.order_fin h2 Fl.fin_zero).1
  rw [Fl.val_zero] at o1 o2
  change (FloatKind.f64.format.order a1 0 == some .lt) = _ at o1
  change (FloatKind.f64.format.order a2 0 == some .lt) = _ at o2
  by_cases p1 : Fl.val a1 < 0
  · rw [decide_eq_true p1] at o1
    go_enter Try.func4, Try.ntmps4
    go_wp2_with fail
    refine (G1.out _).mono ?_
    rintro e wx ⟨rfl, hw⟩
    obtain rfl := hw.symm
    go_wp2_with fail
    refine (G2.out _).mono ?_
    rintro e wx ⟨rfl, hw⟩
    obtain rfl := hw.symm
    go_wp2_with fail
    go_ret
    exact ⟨rfl, Below.refl _ _⟩
  rw [decide_eq_false p1] at o1
  by_cases p2 : Fl.val a2 < 0
  · rw [decide_eq_true p2] at o2
    go_enter Try.func4, Try.ntmps4
    go_wp2_with fail
    refine (G1.out _).mono ?_
    rintro e wx ⟨rfl, hw⟩
    obtain rfl := hw.symm
    go_wp2_with fail
    refine (G2.out _).mono ?_
    rintro e wx ⟨rfl, hw⟩
    obtain rfl := hw.symm
    go_wp2_with fail
    go_ret
    exact ⟨rfl, Below.refl _ _⟩
  rw [decide_eq_false p2] at o2
  obtain ⟨fw, fk, fs, n1, n2, u1, le, n100⟩ := parts a1 a2 h1 h2 (Rat.not_lt.1 p1) (Rat.not_lt.1 p2)
  have c100 : Fl.Fin 4636737291354636288 := by decide
  have c1 : Fl.Fin 4607182418800017408 ∧ Fl.val 4607182418800017408 = 1 := by decide +kernel
  have e1 := Fl.bits_div h1 c100 n100
  have e2 := Fl.bits_div h2 c100 n100
  have e3 := Fl.bits_add fw fk
  obtain ⟨wq, hwq⟩ : ∃ y, Fl.fdiv a1 4636737291354636288 = y := ⟨_, rfl⟩
  obtain ⟨kq, hkq⟩ : ∃ y, Fl.fdiv a2 4636737291354636288 = y := ⟨_, rfl⟩
  rw [hwq, hkq] at fs e3 le
  rw [hwq] at e1 fw n1 u1
  rw [hkq] at e2 fk n2
  obtain ⟨sq, hsq⟩ : ∃ y, Fl.fadd wq kq = y := ⟨_, rfl⟩
  rw [hsq] at fs e3 le
  clear hwq hkq hsq
  obtain ⟨eh, KR⟩ := red a0 hr
  have cH := fun w ty => run_float_arith (P := Try.prog) w .mul ty .f64 (floatOfInt .f64 a0) 4645040803167600640 _ eh
  generalize Fl.fmul (floatOfInt .f64 a0) 4645040803167600640 = h0 at *
  have cW := fun w ty => run_float_arith (P := Try.prog) w .quo ty .f64 a1 4636737291354636288 _ e1
  have cK := fun w ty => run_float_arith (P := Try.prog) w .quo ty .f64 a2 4636737291354636288 _ e2
  have cS := fun w ty => run_float_arith (P := Try.prog) w .add ty .f64 wq kq _ e3
  have og := Fl.ge_fin fs c1.1
  rw [c1.2] at og
  change (FloatKind.f64.format.order sq 4607182418800017408 == some .gt || FloatKind.f64.format.order sq 4607182418800017408 == some .eq) = _ at og
  by_cases hc : 1 ≤ Fl.val sq
  · rw [decide_eq_true hc] at og
    have ns : Fl.val sq ≠ 0 := by grind
    have bp : (1000 : Rat) < Fl.BIG := by decide +kernel
    have fg : Fl.Fin (Fl.fdiv wq sq) := by
      obtain ⟨d1, d2⟩ := rat_div (a := Fl.val wq) (c := 1) (d := Fl.val sq) (by grind)
      obtain ⟨d3, d4⟩ := rat_div (a := Fl.val wq) (c := 0) (d := Fl.val sq) (by grind)
      exact (Fl.fdiv_err fw fs ns (Fl.ab_le.2 ⟨by have := d3 (by grind); grind, by have := d2 (by grind); grind⟩)).1
    have e4 := Fl.bits_div fw fs ns
    have og2 := eq_true fg fg rfl
    generalize Fl.fdiv wq sq = gr at *
    have cG := fun w ty => run_float_arith (P := Try.prog) w .quo ty .f64 wq sq _ e4
    have KZ := Lib.hid (fun w => zzrgb11 h0 a1 a2 gr gr gr w (fun w => hwb27A h0 a1 a2 wq kq sq gr w e1 e2 e3 og e4))
    clear KR e1 e2 e3 e4 eh le u1 n1 n2 fw fk fs fg
    go_enter Try.func4, Try.ntmps4
    go_wp2_with fail
    refine (G1.out _).mono ?_
    rintro e wx ⟨rfl, hw⟩
    obtain rfl := hw.symm
    go_wp2_with fail
    refine (G2.out _).mono ?_
    rintro e wx ⟨rfl, hw⟩
    obtain rfl := hw.symm
    go_wp2_with fail
    refine (KZ.out _).mono ?_
    rintro e wx ⟨rfl, hb⟩
    have HB := Lib.hid hb
    clear hb
    go_wp2_with fail
    go_ret
    exact ⟨rfl, HB.out⟩
  · rw [decide_eq_false hc] at og
    obtain ⟨dl, m1, m2, r1, r2, d2, t2, x1, x2, x3, x4, x5, x6, x7, y1, y2, y3⟩ := tinted wq sq fw fs n1 u1 (by grind) (by grind)
    have cD := fun w ty => run_float_arith (P := Try.prog) w .sub ty .f64 4607182418800017408 sq _ x6
    have cT := fun w ty => run_float_arith (P := Try.prog) w .add ty .f64 d2 wq _ x7
    have KZ := Lib.hid (fun w => zzrgb11 h0 a1 a2 r1 r2 r2 w (fun w => hwb27B h0 a1 a2 wq kq sq dl 4607182418800017408 0 0 m1 m2 m2 r1 r2 r2 w e1 e2 e3 og x1 x2 x3 x3 x4 x5 x5 KR))
    clear KR e1 e2 e3 eh le u1 n1 n2 fw fk fs x1 x2 x3 x4 x5 x6 x7
    go_enter Try.func4, Try.ntmps4
    go_wp2_with fail
    refine (G1.out _).mono ?_
    rintro e wx ⟨rfl, hw⟩
    obtain rfl := hw.symm
    go_wp2_with fail
    refine (G2.out _).mono ?_
    rintro e wx ⟨rfl, hw⟩
    obtain rfl := hw.symm
    go_wp2_with fail
    refine (KZ.out _).mono ?_
    rintro e wx ⟨rfl, hb⟩
    have HB := Lib.hid hb
    clear hb
    go_wp2_with fail
    go_ret
    exact ⟨rfl, HB.out⟩

set_option maxRecDepth 100000 in
theorem lifted (os : Os) (started : os.Started) (H : Type) (enc : TypeId × Value → H) :
    ReturnsInHanded {} Try.checked os 4 .any (Rows.fnHwbToRgbHueMultipleOf360TableSpec.pre6 enc Try.prog Try.f4 Rows.fnHwbToRgbHueMultipleOf360TableRow.domain false) (Rows.fnHwbToRgbHueMultipleOf360TableSpec.post enc Try.prog Try.f4 false true false false) := by
  refine returnsInHanded_of_change (C := Try.checked) own started (by kernel_rfl) Try.func4
    (ChangeSpec.witness6 (enc := enc) (C := Try.checked) false ⟨#[], #[.int .i32 0, .float .f64 0, .float .f64 0], []⟩ 8 (by kernel_rfl) (by kernel_rfl) (by kernel_rfl) (by kernel_rfl)) ?_
  intro W base args ds gs before hval0 hW hcnd _
  have hval : ∀ (j : Nat) t v, Try.f4.params[j]? = some t → args[j]? = some v → Value.okWide Try.prog W .any base t v := hval0
  have hW' := hW
  obtain ⟨p, q, hA0, hV, rfl, hfz, hnd⟩ := hW
  have hA : DataW.TrodAll enc Try.prog W 0 (fun _ => true) true Try.f4.params.toList args.toList ds p := hA0
  rw [Try.params4] at hA hval
  obtain ⟨v0, vs0, d0, ds0, p0, q0, hargs, rfl, rfl, h0, r0⟩ := trodAll_cons hA
  obtain ⟨v1, vs1, d1, ds1, p1, q1, rfl, rfl, rfl, h1, r1⟩ := trodAll_cons r0
  obtain ⟨v2, vs2, d2, ds2, p2, q2, rfl, rfl, rfl, h2, r2⟩ := trodAll_cons r1
  obtain ⟨rfl, rfl, rfl⟩ := trodAll_nil r2
  obtain rfl : args = #[v0, v1, v2] := by cases args; simp_all
  obtain ⟨rfl, rfl⟩ := trodVars_none hV
  obtain ⟨a0, rfl, rfl, rfl, w0⟩ := open_int Try.underlying21 (hval 0 21 v0 rfl rfl) h0
  obtain ⟨a1, rfl, rfl, rfl, w1⟩ := open_float Try.underlying22 (hval 1 22 v1 rfl rfl) h1
  obtain ⟨a2, rfl, rfl, rfl, w2⟩ := open_float Try.underlying22 (hval 2 22 v2 rfl rfl) h2
  clear hA0 hval0
  refine (walk a0 a1 a2 W w0 w1 w2).mono fun e W' ⟨he, bel⟩ => ?_
  subst he
  exact ⟨_, rfl, _, _, _, [], _, [], hW', trodAll_mk1 (shut_bool Try.underlying4 _), (trodAll_cons_mk (shut_int Try.underlying21 w0) (trodAll_cons_mk (shut_float Try.underlying22 w1) (trodAll_cons_mk (shut_float Try.underlying22 w2) trodAll_mk0))), rfl, bel.frame _, fun h => by cases h⟩

theorem q0 : (Rows.fnHwbToRgbHueMultipleOf360TableRow.wf (OpenSpec.ofChange Rows.fnHwbToRgbHueMultipleOf360TableSpec)) = true := by kernel_rfl
theorem q3 : (Try.f4.params.all (Try.pinned.checked.prog.readableRec ·)) = true := by kernel_rfl
theorem q4 : (namedTie Try.pinned.checked.prog Rows.fnHwbToRgbHueMultipleOf360TableRow.named Rows.fnHwbToRgbHueMultipleOf360TableSpec.vars) = true := by kernel_rfl
theorem q5 : ((Rows.fnHwbToRgbHueMultipleOf360TableRow.stops == [])) = true := by kernel_rfl
theorem q7 : ((Rows.fnHwbToRgbHueMultipleOf360TableRow.knobs == [])) = true := by kernel_rfl
theorem q9 : ((Rows.fnHwbToRgbHueMultipleOf360TableRow.inPlace == Try.pinned.checked.prog.inPlace 4)) = true := by kernel_rfl
theorem q10 : ((Rows.fnHwbToRgbHueMultipleOf360TableRow.unfollowed == Try.pinned.checked.prog.unfollowed 4)) = true := by kernel_rfl
theorem q11 : ((Rows.fnHwbToRgbHueMultipleOf360TableRow.recurses == Try.pinned.checked.prog.recurses 4)) = true := by kernel_rfl
theorem q12 : ((Rows.fnHwbToRgbHueMultipleOf360TableRow.named == Try.pinned.checked.prog.varsNamed 4)) = true := by kernel_rfl
theorem q13 : ((Rows.fnHwbToRgbHueMultipleOf360TableRow.maps == (Try.f4.params.toList ++ Rows.fnHwbToRgbHueMultipleOf360TableSpec.plain.varTypes Try.pinned.checked.prog).any (Try.pinned.checked.prog.mapsRec ·))) = true := by kernel_rfl
theorem q14 : ((Rows.fnHwbToRgbHueMultipleOf360TableRow.ifaces == (Try.f4.params.toList ++ Rows.fnHwbToRgbHueMultipleOf360TableSpec.plain.varTypes Try.pinned.checked.prog).any (Try.pinned.checked.prog.ifacesRec ·))) = true := by kernel_rfl
theorem q15 : ((Rows.fnHwbToRgbHueMultipleOf360TableRow.mapsOut == Try.pinned.checked.prog.mapsAmong Try.f4.resultTypes.toList)) = true := by kernel_rfl
theorem q16 : ((Rows.fnHwbToRgbHueMultipleOf360TableRow.loops == (Try.f4.params.toList ++ Rows.fnHwbToRgbHueMultipleOf360TableSpec.plain.varTypes Try.pinned.checked.prog).any (Try.pinned.checked.prog.loopsFrom ·))) = true := by kernel_rfl
theorem q17 : ((Rows.fnHwbToRgbHueMultipleOf360TableRow.wideKeys == (Try.f4.params.toList ++ Rows.fnHwbToRgbHueMultipleOf360TableSpec.plain.varTypes Try.pinned.checked.prog ++ Try.f4.resultTypes.toList).any (Try.pinned.checked.prog.wideKeysFrom ·))) = true := by kernel_rfl
theorem q18 : (Rows.fnHwbToRgbHueMultipleOf360TableSpec.vars.all (Try.pinned.checked.prog.varReadable ·)) = true := by kernel_rfl
theorem q19 : (Try.f4.resultTypes.all (fun t => Try.pinned.checked.prog.readableRec t && decide (t < Try.pinned.checked.prog.types.size))) = true := by kernel_rfl
theorem q20 : ((Rows.fnHwbToRgbHueMultipleOf360TableRow.ifacesOut == Try.f4.resultTypes.toList.any (Try.pinned.checked.prog.ifacesRec ·))) = true := by kernel_rfl
theorem q21 : ((Rows.fnHwbToRgbHueMultipleOf360TableRow.loopsOut == Try.f4.resultTypes.toList.any (Try.pinned.checked.prog.loopsFrom ·))) = true := by kernel_rfl
theorem q22 : ((Rows.fnHwbToRgbHueMultipleOf360TableRow.plainKeys == Try.pinned.checked.prog.plainKeys)) = true := by kernel_rfl
theorem q23 : (Rows.fnHwbToRgbHueMultipleOf360TableRow.shortTexts.isNone) = true := by kernel_rfl
theorem q26 : ((Rows.fnHwbToRgbHueMultipleOf360TableRow.lifted == Try.pinned.checked.prog.liftsFinal)) = true := by rw [g26]; kernel_rfl
theorem q27 : ((Try.pinned.checked.prog.make == some Rows.fnHwbToRgbHueMultipleOf360TableRow.make)) = true := by rw [g27]; kernel_rfl
theorem q28 : ((Rows.fnHwbToRgbHueMultipleOf360TableRow.kinds == (if Rows.fnHwbToRgbHueMultipleOf360TableRow.domain.isEmpty then [] else Try.f4.params.toList.map fun t => match Try.pinned.checked.prog.underlying t with | some (.int k) => some k | _ => none))) = true := by kernel_rfl
theorem q29 : ((Rows.fnHwbToRgbHueMultipleOf360TableRow.pinned == Rows.fnHwbToRgbHueMultipleOf360TableRow.pinnedBy)) = true := by kernel_rfl
theorem q30 : ((Rows.fnHwbToRgbHueMultipleOf360TableRow.veiled == (Try.f4.params.toList ++ Rows.fnHwbToRgbHueMultipleOf360TableSpec.plain.varTypes Try.pinned.checked.prog ++ Try.f4.resultTypes.toList).any (Try.pinned.checked.prog.veiledRec ·))) = true := by kernel_rfl
theorem q31 : (Rows.fnHwbToRgbHueMultipleOf360TableRow.veiledFits Try.pinned.checked.prog Try.f4.params.toList (Try.f4.params.toList ++ Rows.fnHwbToRgbHueMultipleOf360TableSpec.plain.varTypes Try.pinned.checked.prog ++ Try.f4.resultTypes.toList)) = true := by kernel_rfl
set_option maxRecDepth 100000 in
theorem closed : joinedFacts Try.pinned.checked.prog 4 Try.f4 Rows.fnHwbToRgbHueMultipleOf360TableSpec Rows.fnHwbToRgbHueMultipleOf360TableRow = true :=
  (andI (andI (andI (andI (andI (andI (andI (andI (andI (andI (andI (andI (andI (andI (andI (andI (andI (andI (andI (andI (andI (andI (andI (andI (andI (andI (andI (andI (andI (andI (andI q0 g1) g2) q3) q4) q5) g6) q7) g8) q9) q10) q11) q12) q13) q14) q15) q16) q17) q18) q19) q20) q21) q22) q23) g24) g25) q26) q27) q28) q29) q30) q31)
theorem over : Rows.fnHwbToRgbHueMultipleOf360TableRow.holds Try.pinned (OpenSpec.ofChange Rows.fnHwbToRgbHueMultipleOf360TableSpec) :=
  OpenClaim.holds_of_wide 4 Try.f4 rfl rfl rfl rfl rfl rfl rfl ⟨rfl, rfl, rfl, rfl, rfl⟩ rfl rfl rfl rfl rfl (by kernel_rfl) Try.func4 closed
    (of_decide_eq_true (by kernel_rfl)) (by unfold Func.isWrapper; first | (rw [if_pos (by decide +kernel)]; kernel_rfl) | (rw [if_neg (by decide +kernel)]; exact ⟨rfl, rfl⟩))
    (fun os started H enc _ => lifted os started H enc)

theorem proved : Rows.FnHwbToRgbHueMultipleOf360TableSaid := over
#print axioms proved
end Go.Proofs.Ytecdhjhobjagkaa.fnHwbToRgbHueMultipleOf360Table
