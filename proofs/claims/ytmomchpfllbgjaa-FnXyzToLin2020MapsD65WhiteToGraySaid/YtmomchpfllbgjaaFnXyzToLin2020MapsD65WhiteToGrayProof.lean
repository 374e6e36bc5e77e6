/-
  For every finite s of size at most 1e9, xyz_to_lin_2020 carries s times the D65 white to (s, s, s) within 1e-6 times the size of s. No conditions.
-/
import Derived.Test.YtmomchpfllbgjaaIo
import Derived.WalkKit
import Derived.ProofKit
import Derived.OpenShut
import Derived.ShutString
import Derived.ChangeOld
import Derived.Below
import Derived.WalkLawsBesides
import Derived.Test.YtmomchpfllbgjaaWx
import Derived.Test.YtmomchpfllbgjaaWh
import Derived.Lib.Hide
namespace Go.Proofs.Ytmomchpfllbgjaa.fnXyzToLin2020MapsD65WhiteToGray
open Go.ChangeShapes Go.WideShapes Go.ChangeAt Go.RowKit
open Go.ChangeMaps (open_string shut_string)
set_option linter.unusedVariables false

theorem own : ownKnob Try.prog.godebug = none := by kernel_rfl
theorem laidOut : laidOutB Try.prog = true := by kernel_rfl

open Fl

theorem n0 : RowOk 4610409928823119432 13823450852009809460 13821607897934212378 := by decide +kernel
theorem n1 : RowOk 13827552215197025300 4609958803467607422 4580202195299733041 := by decide +kernel
theorem n2 : RowOk 4580741564155148474 13809696752864339029 4606660930076757740 := by decide +kernel
theorem k4606736165463080392 : Fl.Fin 4606736165463080392 ∧ ab (val 4606736165463080392) ≤ 4 := by decide +kernel
theorem k4607583499253154051 : Fl.Fin 4607583499253154051 ∧ ab (val 4607583499253154051) ≤ 4 := by decide +kernel
theorem d0 : ab (val 4610409928823119432 * (val 4606736165463080392) + val 13823450852009809460 * 1 + val 13821607897934212378 * (val 4607583499253154051) - 1) ≤ 1 / 10000000000 := by decide +kernel
theorem d1 : ab (val 13827552215197025300 * (val 4606736165463080392) + val 4609958803467607422 * 1 + val 4580202195299733041 * (val 4607583499253154051) - 1) ≤ 1 / 10000000000 := by decide +kernel
theorem d2 : ab (val 4580741564155148474 * (val 4606736165463080392) + val 13809696752864339029 * 1 + val 4606660930076757740 * (val 4607583499253154051) - 1) ≤ 1 / 10000000000 := by decide +kernel
theorem tolC : TolOk 4517329193108106637 118622047889322841 := by decide +kernel
theorem limB : val 4741671816366391296 ≤ BIG / 1000000 := by decide +kernel

/-- all that the walk needs, in plain Lean -/
theorem plain (s : Nat) (h : Fl.Fin s) (b : ab (val s) ≤ BIG / 1000000) :
    (RowFin 4610409928823119432 13823450852009809460 13821607897934212378 (fmul s 4606736165463080392) s (fmul s 4607583499253154051) ∧ RowFin 13827552215197025300 4609958803467607422 4580202195299733041 (fmul s 4606736165463080392) s (fmul s 4607583499253154051) ∧ RowFin 4580741564155148474 13809696752864339029 4606660930076757740 (fmul s 4606736165463080392) s (fmul s 4607583499253154051))
    ∧ (Fl.Fin (mrow 4610409928823119432 13823450852009809460 13821607897934212378 (fmul s 4606736165463080392) s (fmul s 4607583499253154051)) ∧ Fl.Fin (mrow 13827552215197025300 4609958803467607422 4580202195299733041 (fmul s 4606736165463080392) s (fmul s 4607583499253154051)) ∧ Fl.Fin (mrow 4580741564155148474 13809696752864339029 4606660930076757740 (fmul s 4606736165463080392) s (fmul s 4607583499253154051))) ∧ (Fl.Fin (fmul s 4606736165463080392) ∧ Fl.Fin (fmul s 4607583499253154051) ∧ Fl.Fin s ∧ Fl.Fin s)
    ∧ (Fl.Fin (fabs s) ∧ Fl.Fin (fmul 4517329193108106637 (fabs s)) ∧ Fl.Fin (fadd (fmul 4517329193108106637 (fabs s)) 118622047889322841))
    ∧ (leB (fabs (fsub (mrow 4610409928823119432 13823450852009809460 13821607897934212378 (fmul s 4606736165463080392) s (fmul s 4607583499253154051)) s)) (fadd (fmul 4517329193108106637 (fabs s)) 118622047889322841) = true ∧ leB (fabs (fsub (mrow 13827552215197025300 4609958803467607422 4580202195299733041 (fmul s 4606736165463080392) s (fmul s 4607583499253154051)) s)) (fadd (fmul 4517329193108106637 (fabs s)) 118622047889322841) = true ∧ leB (fabs (fsub (mrow 4580741564155148474 13809696752864339029 4606660930076757740 (fmul s 4606736165463080392) s (fmul s 4607583499253154051)) s)) (fadd (fmul 4517329193108106637 (fabs s)) 118622047889322841) = true) := by
  have up := U_pos
  have ub := U_le
  have ns := ab_nonneg (val s)
  have a0 := times_mul h k4606736165463080392.1 k4606736165463080392.2 (by grind)
  have a1 := times_self h
  have a2 := times_mul h k4607583499253154051.1 k4607583499253154051.2 (by grind)
  have b0 := times_self h
  have b2 := times_self h
  obtain ⟨p0, g0, e0⟩ := white_row n0 a0 a1 a2 b0 d0 b
  obtain ⟨p1, g1, e1⟩ := white_row n1 a0 a1 a2 a1 d1 b
  obtain ⟨p2, g2, e2⟩ := white_row n2 a0 a1 a2 b2 d2 b
  obtain ⟨f1, f2⟩ := fabs_fin h
  obtain ⟨q1, q2, q3⟩ := tol_ok (A := ab (val s)) tolC f1 ns (by rw [f2]; grind) (by rw [f2]; grind)
  obtain ⟨_, _, l0⟩ := near_ok g0 b0.1 q2 e0 (by grind) q3
  obtain ⟨_, _, l1⟩ := near_ok g1 a1.1 q2 e1 (by grind) q3
  obtain ⟨_, _, l2⟩ := near_ok g2 b2.1 q2 e2 (by grind) q3
  exact ⟨⟨p0, p1, p2⟩, ⟨g0, g1, g2⟩, ⟨a0.1, a2.1, b0.1, b2.1⟩, ⟨f1, q1, q2⟩, ⟨l0, l1, l2⟩⟩

set_option maxHeartbeats 2000000 in
set_option maxRecDepth 100000 in
theorem walk (a0 : Nat) (w : World) (w0 : (Lit.float .f64 a0).wf = true) :
    Calls Try.prog 4 #[.float .f64 a0] w fun e w' => e = .returned (.bool true) ∧ Below w.heap.size w w' := by
  by_cases i0 : inB a0 4741671816366391296 = true
  rotate_left
  · rw [Bool.not_eq_true] at i0
    go_enter Try.func4, Try.ntmps4
    go_wp2_with (go_at_call 15; refine (in15 _ _ _).mono ?_; rintro e w' ⟨rfl, rfl⟩)
    go_ret
    exact ⟨rfl, Below.refl _ _⟩
  obtain ⟨h0, b0⟩ := inB_fin (by decide) i0
  have P := plain a0 h0 (Rat.le_trans b0 limB)
  clear b0
  have KM := fun w => ZZxyzToLin2020_n011_70_any (fmul a0 4606736165463080392) a0 (fmul a0 4607583499253154051) w P.1.1 P.1.2.1 P.1.2.2
  obtain ⟨_, ⟨gr0, gr1, gr2⟩, ⟨gv0, gv2, gt0, gt2⟩, ⟨ga, gp, gt⟩, ⟨l0, l1, l2⟩⟩ := P
  have c0 := fun w ty => run_float_arith (P := Try.prog) w .mul ty .f64 a0 4606736165463080392 _ (bits_mul h0 k4606736165463080392.1)
  have c1 := fun w ty => run_float_arith (P := Try.prog) w .mul ty .f64 a0 4607583499253154051 _ (bits_mul h0 k4607583499253154051.1)
  obtain ⟨r0, er0⟩ : ∃ y, mrow 4610409928823119432 13823450852009809460 13821607897934212378 (fmul a0 4606736165463080392) a0 (fmul a0 4607583499253154051) = y := ⟨_, rfl⟩
  rw [er0] at KM gr0 l0
  obtain ⟨r1, er1⟩ : ∃ y, mrow 13827552215197025300 4609958803467607422 4580202195299733041 (fmul a0 4606736165463080392) a0 (fmul a0 4607583499253154051) = y := ⟨_, rfl⟩
  rw [er1] at KM gr1 l1
  obtain ⟨r2, er2⟩ : ∃ y, mrow 4580741564155148474 13809696752864339029 4606660930076757740 (fmul a0 4606736165463080392) a0 (fmul a0 4607583499253154051) = y := ⟨_, rfl⟩
  rw [er2] at KM gr2 l2
  clear er0 er1 er2
  have KM := Lib.hid KM
  have c8 := fun w ty => run_float_arith (P := Try.prog) w .mul ty .f64 4517329193108106637 (fabs a0) _ (bits_mul tolC.1 ga)
  have c9 := fun w ty => run_float_arith (P := Try.prog) w .add ty .f64 (fmul 4517329193108106637 (fabs a0)) 118622047889322841 _ (bits_add gp tolC.2.1)
  obtain ⟨tl, etl⟩ : ∃ y, fadd (fmul 4517329193108106637 (fabs a0)) 118622047889322841 = y := ⟨_, rfl⟩
  rw [etl] at c9 l0 l1 l2
  clear etl
  have N0 := Lib.hid (fun w => near18 r0 a0 tl w gr0 gt0 l0)
  have N1 := Lib.hid (fun w => near18 r1 a0 tl w gr1 h0 l1)
  have N2 := Lib.hid (fun w => near18 r2 a0 tl w gr2 gt2 l2)
  clear l0 l1 l2 gr0 gr1 gr2 gt gp ga gv0 gv2 gt0 gt2
  go_enter Try.func4, Try.ntmps4
  go_wp2_with (go_at_call 15; refine (in15 _ _ _).mono ?_; rintro e w' ⟨rfl, rfl⟩)
  refine (KM.out _).mono ?_
  rintro e wa ⟨rfl, hba⟩
  have HA := Lib.hid hba
  clear hba
  go_wp2_with (go_at_call 17; refine (abs17 _ _).mono ?_; rintro e w' ⟨rfl, rfl⟩)
  refine (N0.out _).mono ?_
  rintro e w' ⟨rfl, rfl⟩
  go_wp2_with fail
  refine (N1.out _).mono ?_
  rintro e w' ⟨rfl, rfl⟩
  go_wp2_with fail
  refine (N2.out _).mono ?_
  rintro e w' ⟨rfl, rfl⟩
  go_wp2_with fail
  go_ret
  exact ⟨rfl, HA.out⟩

set_option maxRecDepth 100000 in
theorem lifted (os : Os) (started : os.Started) (H : Type) (enc : TypeId × Value → H) :
    ReturnsInHanded {} Try.checked os 4 .any (Rows.fnXyzToLin2020MapsD65WhiteToGraySpec.pre6 enc Try.prog Try.f4 Rows.fnXyzToLin2020MapsD65WhiteToGrayRow.domain false) (Rows.fnXyzToLin2020MapsD65WhiteToGraySpec.post enc Try.prog Try.f4 false true false false) := by
  refine returnsInHanded_of_change (C := Try.checked) own started (by kernel_rfl) Try.func4
    (ChangeSpec.witness6 (enc := enc) (C := Try.checked) false ⟨#[], #[.float .f64 0], []⟩ 8 (by kernel_rfl) (by kernel_rfl) (by kernel_rfl) (by kernel_rfl)) ?_
  intro W base args ds gs before hval0 hW hcnd _
  have hval : ∀ (j : Nat) t v, Try.f4.params[j]? = some t → args[j]? = some v → Value.okWide Try.prog W .any base t v := hval0
  have hW' := hW
  obtain ⟨p, q, hA0, hV, rfl, hfz, hnd⟩ := hW
  have hA : DataW.TrodAll enc Try.prog W 0 (fun _ => true) true Try.f4.params.toList args.toList ds p := hA0
  rw [Try.params4] at hA hval
  obtain ⟨v0, vs0, d0, ds0, p0, q0, hargs, rfl, rfl, h0, r0⟩ := trodAll_cons hA
  obtain ⟨rfl, rfl, rfl⟩ := trodAll_nil r0
  obtain rfl : args = #[v0] := by cases args; simp_all
  obtain ⟨rfl, rfl⟩ := trodVars_none hV
  obtain ⟨a0, rfl, rfl, rfl, w0⟩ := open_float Try.underlying22 (hval 0 22 v0 rfl rfl) h0
  clear hA0 hval0
  refine (walk a0 W w0).mono fun e W' ⟨he, bel⟩ => ?_
  subst he
  exact ⟨_, rfl, _, _, _, [], _, [], hW', trodAll_mk1 (shut_bool Try.underlying4 _), (trodAll_cons_mk (shut_float Try.underlying22 w0) trodAll_mk0), rfl, bel.frame _, fun h => by cases h⟩

theorem q0 : (Rows.fnXyzToLin2020MapsD65WhiteToGrayRow.wf (OpenSpec.ofChange Rows.fnXyzToLin2020MapsD65WhiteToGraySpec)) = true := by kernel_rfl
theorem q3 : (Try.f4.params.all (Try.pinned.checked.prog.readableRec ·)) = true := by kernel_rfl
theorem q4 : (namedTie Try.pinned.checked.prog Rows.fnXyzToLin2020MapsD65WhiteToGrayRow.named Rows.fnXyzToLin2020MapsD65WhiteToGraySpec.vars) = true := by kernel_rfl
theorem q5 : ((Rows.fnXyzToLin2020MapsD65WhiteToGrayRow.stops == [])) = true := by kernel_rfl
theorem q7 : ((Rows.fnXyzToLin2020MapsD65WhiteToGrayRow.knobs == [])) = true := by kernel_rfl
theorem q9 : ((Rows.fnXyzToLin2020MapsD65WhiteToGrayRow.inPlace == Try.pinned.checked.prog.inPlace 4)) = true := by kernel_rfl
theorem q10 : ((Rows.fnXyzToLin2020MapsD65WhiteToGrayRow.unfollowed == Try.pinned.checked.prog.unfollowed 4)) = true := by kernel_rfl
theorem q11 : ((Rows.fnXyzToLin2020MapsD65WhiteToGrayRow.recurses == Try.pinned.checked.prog.recurses 4)) = true := by kernel_rfl
theorem q12 : ((Rows.fnXyzToLin2020MapsD65WhiteToGrayRow.named == Try.pinned.checked.prog.varsNamed 4)) = true := by kernel_rfl
theorem q13 : ((Rows.fnXyzToLin2020MapsD65WhiteToGrayRow.maps == (Try.f4.params.toList ++ Rows.fnXyzToLin2020MapsD65WhiteToGraySpec.plain.varTypes Try.pinned.checked.prog).any (Try.pinned.checked.prog.mapsRec ·))) = true := by kernel_rfl
theorem q14 : ((Rows.fnXyzToLin2020MapsD65WhiteToGrayRow.ifaces == (Try.f4.params.toList ++ Rows.fnXyzToLin2020MapsD65WhiteToGraySpec.plain.varTypes Try.pinned.checked.prog).any (Try.pinned.checked.prog.ifacesRec ·))) = true := by kernel_rfl
theorem q15 : ((Rows.fnXyzToLin2020MapsD65WhiteToGrayRow.mapsOut == Try.pinned.checked.prog.mapsAmong Try.f4.resultTypes.toList)) = true := by kernel_rfl
theorem q16 : ((Rows.fnXyzToLin2020MapsD65WhiteToGrayRow.loops == (Try.f4.params.toList ++ Rows.fnXyzToLin2020MapsD65WhiteToGraySpec.plain.varTypes Try.pinned.checked.prog).any (Try.pinned.checked.prog.loopsFrom ·))) = true := by kernel_rfl
theorem q17 : ((Rows.fnXyzToLin2020MapsD65WhiteToGrayRow.wideKeys == (Try.f4.params.toList ++ Rows.fnXyzToLin2020MapsD65WhiteToGraySpec.plain.varTypes Try.pinned.checked.prog ++ Try.f4.resultTypes.toList).any (Try.pinned.checked.prog.wideKeysFrom ·))) = true := by kernel_rfl
theorem q18 : (Rows.fnXyzToLin2020MapsD65WhiteToGraySpec.vars.all (Try.pinned.checked.prog.varReadable ·)) = true := by kernel_rfl
theorem q19 : (Try.f4.resultTypes.all (fun t => Try.pinned.checked.prog.readableRec t && decide (t < Try.pinned.checked.prog.types.size))) = true := by kernel_rfl
theorem q20 : ((Rows.fnXyzToLin2020MapsD65WhiteToGrayRow.ifacesOut == Try.f4.resultTypes.toList.any (Try.pinned.checked.prog.ifacesRec ·))) = true := by kernel_rfl
theorem q21 : ((Rows.fnXyzToLin2020MapsD65WhiteToGrayRow.loopsOut == Try.f4.resultTypes.toList.any (Try.pinned.checked.prog.loopsFrom ·))) = true := by kernel_rfl
theorem q22 : ((Rows.fnXyzToLin2020MapsD65WhiteToGrayRow.plainKeys == Try.pinned.checked.prog.plainKeys)) = true := by kernel_rfl
theorem q23 : (Rows.fnXyzToLin2020MapsD65WhiteToGrayRow.shortTexts.isNone) = true := by kernel_rfl
theorem q26 : ((Rows.fnXyzToLin2020MapsD65WhiteToGrayRow.lifted == Try.pinned.checked.prog.liftsFinal)) = true := by rw [g26]; kernel_rfl
theorem q27 : ((Try.pinned.checked.prog.make == some Rows.fnXyzToLin2020MapsD65WhiteToGrayRow.make)) = true := by rw [g27]; kernel_rfl
theorem q28 : ((Rows.fnXyzToLin2020MapsD65WhiteToGrayRow.kinds == (if Rows.fnXyzToLin2020MapsD65WhiteToGrayRow.domain.isEmpty then [] else Try.f4.params.toList.map fun t => match Try.pinned.checked.prog.underlying t with | some (.int k) => some k | _ => none))) = true := by kernel_rfl
theorem q29 : ((Rows.fnXyzToLin2020MapsD65WhiteToGrayRow.pinned == Rows.fnXyzToLin2020MapsD65WhiteToGrayRow.pinnedBy)) = true := by kernel_rfl
theorem q30 : ((Rows.fnXyzToLin2020MapsD65WhiteToGrayRow.veiled == (Try.f4.params.toList ++ Rows.fnXyzToLin2020MapsD65WhiteToGraySpec.plain.varTypes Try.pinned.checked.prog ++ Try.f4.resultTypes.toList).any (Try.pinned.checked.prog.veiledRec ·))) = true := by kernel_rfl
theorem q31 : (Rows.fnXyzToLin2020MapsD65WhiteToGrayRow.veiledFits Try.pinned.checked.prog Try.f4.params.toList (Try.f4.params.toList ++ Rows.fnXyzToLin2020MapsD65WhiteToGraySpec.plain.varTypes Try.pinned.checked.prog ++ Try.f4.resultTypes.toList)) = true := by kernel_rfl
theorem closed : joinedFacts Try.pinned.checked.prog 4 Try.f4 Rows.fnXyzToLin2020MapsD65WhiteToGraySpec Rows.fnXyzToLin2020MapsD65WhiteToGrayRow = true :=
  (andI (andI (andI (andI (andI (andI (andI (andI (andI (andI (andI (andI (andI (andI (andI (andI (andI (andI (andI (andI (andI (andI (andI (andI (andI (andI (andI (andI (andI (andI (andI q0 g1) g2) q3) q4) q5) g6) q7) g8) q9) q10) q11) q12) q13) q14) q15) q16) q17) q18) q19) q20) q21) q22) q23) g24) g25) q26) q27) q28) q29) q30) q31)
theorem over : Rows.fnXyzToLin2020MapsD65WhiteToGrayRow.holds Try.pinned (OpenSpec.ofChange Rows.fnXyzToLin2020MapsD65WhiteToGraySpec) :=
  OpenClaim.holds_of_wide 4 Try.f4 rfl rfl rfl rfl rfl rfl rfl ⟨rfl, rfl, rfl, rfl, rfl⟩ rfl rfl rfl rfl rfl (by kernel_rfl) Try.func4 closed
    (of_decide_eq_true (by kernel_rfl)) (by unfold Func.isWrapper; first | (rw [if_pos (by decide +kernel)]; kernel_rfl) | (rw [if_neg (by decide +kernel)]; exact ⟨rfl, rfl⟩))
    (fun os started H enc _ => lifted os started H enc)

theorem proved : Rows.FnXyzToLin2020MapsD65WhiteToGraySaid := over
#print axioms proved
end Go.Proofs.Ytmomchpfllbgjaa.fnXyzToLin2020MapsD65WhiteToGray
