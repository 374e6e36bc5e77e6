/-
  For channels of size at most 1e300, rgb_to_hwb's hue is NaN exactly when the three are equal, and else lies in [0, 360].
-/
import Derived.Test.YtecdhjhobjagkaaIo
import Derived.WalkKit
import Derived.ProofKit
import Derived.OpenShut
import Derived.ShutString
import Derived.ChangeOld
import Derived.Below
import Derived.WalkLawsBesides
import Derived.Test.YtecdhjhobjagkaaFn
import Derived.Lib.Hide
import Derived.BigQuiet
import Derived.Deep.QuietTactic
namespace Go.Proofs.Ytecdhjhobjagkaa.fnRgbToHwbHueIsNaNExactlyForGrays
open Go.ChangeShapes Go.WideShapes Go.ChangeAt Go.RowKit
open Go.ChangeMaps (open_string shut_string)
set_option linter.unusedVariables false

theorem own : ownKnob Try.prog.godebug = none := by kernel_rfl
theorem laidOut : laidOutB Try.prog = true := by kernel_rfl


attribute [local go_sem] unary_neg_float in
set_option maxHeartbeats 4000000 in
set_option maxRecDepth 100000 in
theorem walk (a0 : Nat) (a1 : Nat) (a2 : Nat) (w : World) (w0 : (Lit.float .f64 a0).wf = true) (w1 : (Lit.float .f64 a1).wf = true) (w2 : (Lit.float .f64 a2).wf = true) :
    Calls Try.prog 3 #[.float .f64 a0, .float .f64 a1, .float .f64 a2] w fun e w' => e = .returned (.bool true) ∧ Below w.heap.size w w' := by
  by_cases i0 : inB a0 9094988921128908188 = true
  rotate_left
  · rw [Bool.not_eq_true] at i0
    go_enter Try.func3, Try.ntmps3
    go_wp2_with (go_at_call 8; refine (in8 _ _ _).mono ?_; rintro e w' ⟨rfl, rfl⟩)
    go_ret
    exact ⟨rfl, Below.refl _ _⟩
  by_cases i1 : inB a1 9094988921128908188 = true
  rotate_left
  · rw [Bool.not_eq_true] at i1
    go_enter Try.func3, Try.ntmps3
    go_wp2_with (go_at_call 8; refine (in8 _ _ _).mono ?_; rintro e w' ⟨rfl, rfl⟩)
    go_ret
    exact ⟨rfl, Below.refl _ _⟩
  by_cases i2 : inB a2 9094988921128908188 = true
  rotate_left
  · rw [Bool.not_eq_true] at i2
    go_enter Try.func3, Try.ntmps3
    go_wp2_with (go_at_call 8; refine (in8 _ _ _).mono ?_; rintro e w' ⟨rfl, rfl⟩)
    go_ret
    exact ⟨rfl, Below.refl _ _⟩
  obtain ⟨h0, b0⟩ := inB_fin c300.1 i0
  obtain ⟨h1, b1⟩ := inB_fin c300.1 i1
  obtain ⟨h2, b2⟩ := inB_fin c300.1 i2
  obtain ⟨lw, lb, K⟩ := hwb_law a0 a1 a2 w h0 h1 h2 (Rat.le_trans b0 c300.2) (Rat.le_trans b1 c300.2) (Rat.le_trans b2 c300.2)
  have o1 := (Fl.order_fin h0 h1).2.1
  have o2 := (Fl.order_fin h1 h2).2.1
  change (FloatKind.f64.format.order a0 a1 == some .eq) = _ at o1
  change (FloatKind.f64.format.order a1 a2 == some .eq) = _ at o2
  have K0 := Lib.hid K
  clear K b0 b1 b2
  go_enter Try.func3, Try.ntmps3
  go_wp2_with (go_at_call 8; refine (in8 _ _ _).mono ?_; rintro e w' ⟨rfl, rfl⟩)
  refine K0.out.mono ?_
  rintro e wa ⟨⟨h, hh, rfl⟩, hb⟩
  have HB := Lib.hid hb
  have HH := Lib.hid hh
  clear hb hh
  by_cases e1 : Fl.val a0 = Fl.val a1
  · rw [decide_eq_true e1] at o1
    by_cases e2 : Fl.val a1 = Fl.val a2
    · rw [decide_eq_true e2] at o2
      obtain rfl := HH.out.1 ⟨e1, e2⟩
      go_wp2_with fail
      go_ret
      exact ⟨by rfl, HB.out⟩
    · rw [decide_eq_false e2] at o2
      obtain ⟨fh, g1, g2⟩ := HH.out.2 (fun c => e2 c.2)
      have t1 := Fl.ge_fin fh Fl.fin_zero
      rw [Fl.val_zero, decide_eq_true g1] at t1
      have w360 : Fl.Fin 4645040803167600640 ∧ Fl.val 4645040803167600640 = 360 := by decide +kernel
      have t2 := Fl.le_fin fh w360.1
      rw [w360.2, decide_eq_true g2] at t2
      change (FloatKind.f64.format.order h 0 == some .gt || FloatKind.f64.format.order h 0 == some .eq) = true at t1
      change (FloatKind.f64.format.order h 4645040803167600640 == some .lt || FloatKind.f64.format.order h 4645040803167600640 == some .eq) = true at t2
      go_wp2_with fail
      go_ret
      exact ⟨rfl, HB.out⟩
  · rw [decide_eq_false e1] at o1
    obtain ⟨fh, g1, g2⟩ := HH.out.2 (fun c => e1 c.1)
    have t1 := Fl.ge_fin fh Fl.fin_zero
    rw [Fl.val_zero, decide_eq_true g1] at t1
    have w360 : Fl.Fin 4645040803167600640 ∧ Fl.val 4645040803167600640 = 360 := by decide +kernel
    have t2 := Fl.le_fin fh w360.1
    rw [w360.2, decide_eq_true g2] at t2
    change (FloatKind.f64.format.order h 0 == some .gt || FloatKind.f64.format.order h 0 == some .eq) = true at t1
    change (FloatKind.f64.format.order h 4645040803167600640 == some .lt || FloatKind.f64.format.order h 4645040803167600640 == some .eq) = true at t2
    go_wp2_with fail
    go_ret
    exact ⟨rfl, HB.out⟩

set_option maxRecDepth 100000 in
theorem lifted (os : Os) (started : os.Started) (H : Type) (enc : TypeId × Value → H) :
    ReturnsInHanded {} Try.checked os 3 .any (Rows.fnRgbToHwbHueIsNaNExactlyForGraysSpec.pre6 enc Try.prog Try.f3 Rows.fnRgbToHwbHueIsNaNExactlyForGraysRow.domain false) (Rows.fnRgbToHwbHueIsNaNExactlyForGraysSpec.post enc Try.prog Try.f3 false true false false) := by
  refine returnsInHanded_of_change (C := Try.checked) own started (by kernel_rfl) Try.func3
    (ChangeSpec.witness6 (enc := enc) (C := Try.checked) false ⟨#[], #[.float .f64 0, .float .f64 0, .float .f64 0], []⟩ 8 (by kernel_rfl) (by kernel_rfl) (by kernel_rfl) (by kernel_rfl)) ?_
  intro W base args ds gs before hval0 hW hcnd _
  have hval : ∀ (j : Nat) t v, Try.f3.params[j]? = some t → args[j]? = some v → Value.okWide Try.prog W .any base t v := hval0
  have hW' := hW
  obtain ⟨p, q, hA0, hV, rfl, hfz, hnd⟩ := hW
  have hA : DataW.TrodAll enc Try.prog W 0 (fun _ => true) true Try.f3.params.toList args.toList ds p := hA0
  rw [Try.params3] at hA hval
  obtain ⟨v0, vs0, d0, ds0, p0, q0, hargs, rfl, rfl, h0, r0⟩ := trodAll_cons hA
  obtain ⟨v1, vs1, d1, ds1, p1, q1, rfl, rfl, rfl, h1, r1⟩ := trodAll_cons r0
  obtain ⟨v2, vs2, d2, ds2, p2, q2, rfl, rfl, rfl, h2, r2⟩ := trodAll_cons r1
  obtain ⟨rfl, rfl, rfl⟩ := trodAll_nil r2
  obtain rfl : args = #[v0, v1, v2] := by cases args; simp_all
  obtain ⟨rfl, rfl⟩ := trodVars_none hV
  obtain ⟨a0, rfl, rfl, rfl, w0⟩ := open_float Try.underlying22 (hval 0 22 v0 rfl rfl) h0
  obtain ⟨a1, rfl, rfl, rfl, w1⟩ := open_float Try.underlying22 (hval 1 22 v1 rfl rfl) h1
  obtain ⟨a2, rfl, rfl, rfl, w2⟩ := open_float Try.underlying22 (hval 2 22 v2 rfl rfl) h2
  clear hA0 hval0
  refine (walk a0 a1 a2 W w0 w1 w2).mono fun e W' ⟨he, bel⟩ => ?_
  subst he
  exact ⟨_, rfl, _, _, _, [], _, [], hW', trodAll_mk1 (shut_bool Try.underlying4 _), (trodAll_cons_mk (shut_float Try.underlying22 w0) (trodAll_cons_mk (shut_float Try.underlying22 w1) (trodAll_cons_mk (shut_float Try.underlying22 w2) trodAll_mk0))), rfl, bel.frame _, fun h => by cases h⟩

theorem q0 : (Rows.fnRgbToHwbHueIsNaNExactlyForGraysRow.wf (OpenSpec.ofChange Rows.fnRgbToHwbHueIsNaNExactlyForGraysSpec)) = true := by kernel_rfl
theorem q3 : (Try.f3.params.all (Try.pinned.checked.prog.readableRec ·)) = true := by kernel_rfl
theorem q4 : (namedTie Try.pinned.checked.prog Rows.fnRgbToHwbHueIsNaNExactlyForGraysRow.named Rows.fnRgbToHwbHueIsNaNExactlyForGraysSpec.vars) = true := by kernel_rfl
theorem q5 : ((Rows.fnRgbToHwbHueIsNaNExactlyForGraysRow.stops == [])) = true := by kernel_rfl
theorem q7 : ((Rows.fnRgbToHwbHueIsNaNExactlyForGraysRow.knobs == [])) = true := by kernel_rfl
theorem q9 : ((Rows.fnRgbToHwbHueIsNaNExactlyForGraysRow.inPlace == Try.pinned.checked.prog.inPlace 3)) = true := by kernel_rfl
theorem q10 : ((Rows.fnRgbToHwbHueIsNaNExactlyForGraysRow.unfollowed == Try.pinned.checked.prog.unfollowed 3)) = true := by kernel_rfl
theorem q11 : ((Rows.fnRgbToHwbHueIsNaNExactlyForGraysRow.recurses == Try.pinned.checked.prog.recurses 3)) = true := by kernel_rfl
theorem q12 : ((Rows.fnRgbToHwbHueIsNaNExactlyForGraysRow.named == Try.pinned.checked.prog.varsNamed 3)) = true := by kernel_rfl
theorem q13 : ((Rows.fnRgbToHwbHueIsNaNExactlyForGraysRow.maps == (Try.f3.params.toList ++ Rows.fnRgbToHwbHueIsNaNExactlyForGraysSpec.plain.varTypes Try.pinned.checked.prog).any (Try.pinned.checked.prog.mapsRec ·))) = true := by kernel_rfl
theorem q14 : ((Rows.fnRgbToHwbHueIsNaNExactlyForGraysRow.ifaces == (Try.f3.params.toList ++ Rows.fnRgbToHwbHueIsNaNExactlyForGraysSpec.plain.varTypes Try.pinned.checked.prog).any (Try.pinned.checked.prog.ifacesRec ·))) = true := by kernel_rfl
theorem q15 : ((Rows.fnRgbToHwbHueIsNaNExactlyForGraysRow.mapsOut == Try.pinned.checked.prog.mapsAmong Try.f3.resultTypes.toList)) = true := by kernel_rfl
theorem q16 : ((Rows.fnRgbToHwbHueIsNaNExactlyForGraysRow.loops == (Try.f3.params.toList ++ Rows.fnRgbToHwbHueIsNaNExactlyForGraysSpec.plain.varTypes Try.pinned.checked.prog).any (Try.pinned.checked.prog.loopsFrom ·))) = true := by kernel_rfl
theorem q17 : ((Rows.fnRgbToHwbHueIsNaNExactlyForGraysRow.wideKeys == (Try.f3.params.toList ++ Rows.fnRgbToHwbHueIsNaNExactlyForGraysSpec.plain.varTypes Try.pinned.checked.prog ++ Try.f3.resultTypes.toList).any (Try.pinned.checked.prog.wideKeysFrom ·))) = true := by kernel_rfl
theorem q18 : (Rows.fnRgbToHwbHueIsNaNExactlyForGraysSpec.vars.all (Try.pinned.checked.prog.varReadable ·)) = true := by kernel_rfl
theorem q19 : (Try.f3.resultTypes.all (fun t => Try.pinned.checked.prog.readableRec t && decide (t < Try.pinned.checked.prog.types.size))) = true := by kernel_rfl
theorem q20 : ((Rows.fnRgbToHwbHueIsNaNExactlyForGraysRow.ifacesOut == Try.f3.resultTypes.toList.any (Try.pinned.checked.prog.ifacesRec ·))) = true := by kernel_rfl
theorem q21 : ((Rows.fnRgbToHwbHueIsNaNExactlyForGraysRow.loopsOut == Try.f3.resultTypes.toList.any (Try.pinned.checked.prog.loopsFrom ·))) = true := by kernel_rfl
theorem q22 : ((Rows.fnRgbToHwbHueIsNaNExactlyForGraysRow.plainKeys == Try.pinned.checked.prog.plainKeys)) = true := by kernel_rfl
theorem q23 : (Rows.fnRgbToHwbHueIsNaNExactlyForGraysRow.shortTexts.isNone) = true := by kernel_rfl
theorem q26 : ((Rows.fnRgbToHwbHueIsNaNExactlyForGraysRow.lifted == Try.pinned.checked.prog.liftsFinal)) = true := by rw [g26]; kernel_rfl
theorem q27 : ((Try.pinned.checked.prog.make == some Rows.fnRgbToHwbHueIsNaNExactlyForGraysRow.make)) = true := by rw [g27]; kernel_rfl
theorem q28 : ((Rows.fnRgbToHwbHueIsNaNExactlyForGraysRow.kinds == (if Rows.fnRgbToHwbHueIsNaNExactlyForGraysRow.domain.isEmpty then [] else Try.f3.params.toList.map fun t => match Try.pinned.checked.prog.underlying t with | some (.int k) => some k | _ => none))) = true := by kernel_rfl
theorem q29 : ((Rows.fnRgbToHwbHueIsNaNExactlyForGraysRow.pinned == Rows.fnRgbToHwbHueIsNaNExactlyForGraysRow.pinnedBy)) = true := by kernel_rfl
theorem q30 : ((Rows.fnRgbToHwbHueIsNaNExactlyForGraysRow.veiled == (Try.f3.params.toList ++ Rows.fnRgbToHwbHueIsNaNExactlyForGraysSpec.plain.varTypes Try.pinned.checked.prog ++ Try.f3.resultTypes.toList).any (Try.pinned.checked.prog.veiledRec ·))) = true := by kernel_rfl
theorem q31 : (Rows.fnRgbToHwbHueIsNaNExactlyForGraysRow.veiledFits Try.pinned.checked.prog Try.f3.params.toList (Try.f3.params.toList ++ Rows.fnRgbToHwbHueIsNaNExactlyForGraysSpec.plain.varTypes Try.pinned.checked.prog ++ Try.f3.resultTypes.toList)) = true := by kernel_rfl
set_option maxRecDepth 100000 in
theorem closed : joinedFacts Try.pinned.checked.prog 3 Try.f3 Rows.fnRgbToHwbHueIsNaNExactlyForGraysSpec Rows.fnRgbToHwbHueIsNaNExactlyForGraysRow = true :=
  (andI (andI (andI (andI (andI (andI (andI (andI (andI (andI (andI (andI (andI (andI (andI (andI (andI (andI (andI (andI (andI (andI (andI (andI (andI (andI (andI (andI (andI (andI (andI q0 g1) g2) q3) q4) q5) g6) q7) g8) q9) q10) q11) q12) q13) q14) q15) q16) q17) q18) q19) q20) q21) q22) q23) g24) g25) q26) q27) q28) q29) q30) q31)
theorem over : Rows.fnRgbToHwbHueIsNaNExactlyForGraysRow.holds Try.pinned (OpenSpec.ofChange Rows.fnRgbToHwbHueIsNaNExactlyForGraysSpec) :=
  OpenClaim.holds_of_wide 3 Try.f3 rfl rfl rfl rfl rfl rfl rfl ⟨rfl, rfl, rfl, rfl, rfl⟩ rfl rfl rfl rfl rfl (by kernel_rfl) Try.func3 closed
    (of_decide_eq_true (by kernel_rfl)) (by unfold Func.isWrapper; first | (rw [if_pos (by decide +kernel)]; kernel_rfl) | (rw [if_neg (by decide +kernel)]; exact ⟨rfl, rfl⟩))
    (fun os started H enc _ => lifted os started H enc)

theorem proved : Rows.FnRgbToHwbHueIsNaNExactlyForGraysSaid := over
#print axioms proved
end Go.Proofs.Ytecdhjhobjagkaa.fnRgbToHwbHueIsNaNExactlyForGrays
