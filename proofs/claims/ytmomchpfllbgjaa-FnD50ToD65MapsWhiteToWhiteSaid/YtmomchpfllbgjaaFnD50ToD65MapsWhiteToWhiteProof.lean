/-
  For every finite s of size at most 1e9, d50_to_d65 carries s times the D50 white to s times the D65 white within 1e-6 times the size of s. No conditions.
-/
import Derived.Test.YtmomchpfllbgjaaIo
import Derived.WalkKit
import Derived.ProofKit
import Derived.OpenShut
import Derived.ShutString
import Derived.ChangeOld
import Derived.Below
import Derived.WalkLawsBesides
import Derived.Test.YtmomchpfllbgjaaWx
import Derived.Test.YtmomchpfllbgjaaWh
import Derived.Lib.Hide
namespace Go.Proofs.Ytmomchpfllbgjaa.fnD50ToD65MapsWhiteToWhite
open Go.ChangeShapes Go.WideShapes Go.ChangeAt Go.RowKit
open Go.ChangeMaps (open_string shut_string)
set_option linter.unusedVariables false

theorem own : ownKnob Try.prog.godebug = none := by kernel_rfl
theorem laidOut : laidOutB Try.prog = true := by kernel_rfl

open Fl

theorem n0 : RowOk 4606781359035228631 13805686934621605564 4589222729528858206 := by decide +kernel
theorem n1 : RowOk 13807206270255814006 4607227434071091789 4581722003917944388 := by decide +kernel
theorem n2 : RowOk 4578252168053708272 13804940185734608780 4608670254662337346 := by decide +kernel
theorem k4605607101106091996 : Fl.Fin 4605607101106091996 ∧ ab (val 4605607101106091996) ≤ 4 := by decide +kernel
theorem k4606736165463080392 : Fl.Fin 4606736165463080392 ∧ ab (val 4606736165463080392) ≤ 4 := by decide +kernel
theorem k4606860822843362778 : Fl.Fin 4606860822843362778 ∧ ab (val 4606860822843362778) ≤ 4 := by decide +kernel
theorem k4607583499253154051 : Fl.Fin 4607583499253154051 ∧ ab (val 4607583499253154051) ≤ 4 := by decide +kernel
theorem d0 : ab (val 4606781359035228631 * (val 4606860822843362778) + val 13805686934621605564 * 1 + val 4589222729528858206 * (val 4605607101106091996) - (val 4606736165463080392)) ≤ 1 / 10000000000 := by decide +kernel
theorem d1 : ab (val 13807206270255814006 * (val 4606860822843362778) + val 4607227434071091789 * 1 + val 4581722003917944388 * (val 4605607101106091996) - 1) ≤ 1 / 10000000000 := by decide +kernel
theorem d2 : ab (val 4578252168053708272 * (val 4606860822843362778) + val 13804940185734608780 * 1 + val 4608670254662337346 * (val 4605607101106091996) - (val 4607583499253154051)) ≤ 1 / 10000000000 := by decide +kernel
theorem tolC : TolOk 4517329193108106637 118622047889322841 := by decide +kernel
theorem limB : val 4741671816366391296 ≤ BIG / 1000000 := by decide +kernel

/-- all that the walk needs, in plain Lean -/
theorem plain (s : Nat) (h : Fl.Fin s) (b : ab (val s) ≤ BIG / 1000000) :
    (RowFin 4606781359035228631 13805686934621605564 4589222729528858206 (fmul s 4606860822843362778) s (fmul s 4605607101106091996) ∧ RowFin 13807206270255814006 4607227434071091789 4581722003917944388 (fmul s 4606860822843362778) s (fmul s 4605607101106091996) ∧ RowFin 4578252168053708272 13804940185734608780 4608670254662337346 (fmul s 4606860822843362778) s (fmul s 4605607101106091996))
    ∧ (Fl.Fin (mrow 4606781359035228631 13805686934621605564 4589222729528858206 (fmul s 4606860822843362778) s (fmul s 4605607101106091996)) ∧ Fl.Fin (mrow 13807206270255814006 4607227434071091789 4581722003917944388 (fmul s 4606860822843362778) s (fmul s 4605607101106091996)) ∧ Fl.Fin (mrow 4578252168053708272 13804940185734608780 4608670254662337346 (fmul s 4606860822843362778) s (fmul s 4605607101106091996))) ∧ (Fl.Fin (fmul s 4606860822843362778) ∧ Fl.Fin (fmul s 4605607101106091996) ∧ Fl.Fin (fmul s 4606736165463080392) ∧ Fl.Fin (fmul s 4607583499253154051))
    ∧ (Fl.Fin (fabs s) ∧ Fl.Fin (fmul 4517329193108106637 (fabs s)) ∧ Fl.Fin (fadd (fmul 4517329193108106637 (fabs s)) 118622047889322841))
    ∧ (leB (fabs (fsub (mrow 4606781359035228631 13805686934621605564 4589222729528858206 (fmul s 4606860822843362778) s (fmul s 4605607101106091996)) (fmul s 4606736165463080392))) (fadd (fmul 4517329193108106637 (fabs s)) 118622047889322841) = true ∧ leB (fabs (fsub (mrow 13807206270255814006 4607227434071091789 4581722003917944388 (fmul s 4606860822843362778) s (fmul s 4605607101106091996)) s)) (fadd (fmul 4517329193108106637 (fabs s)) 118622047889322841) = true ∧ leB (fabs (fsub (mrow 4578252168053708272 13804940185734608780 4608670254662337346 (fmul s 4606860822843362778) s (fmul s 4605607101106091996)) (fmul s 4607583499253154051))) (fadd (fmul 4517329193108106637 (fabs s)) 118622047889322841) = true) := by
  have up := U_pos
  have ub := U_le
  have ns := ab_nonneg (val s)
  have a0 := times_mul h k4606860822843362778.1 k4606860822843362778.2 (by grind)
  have a1 := times_self h
  have a2 := times_mul h k4605607101106091996.1 k4605607101106091996.2 (by grind)
  have b0 := times_mul h k4606736165463080392.1 k4606736165463080392.2 (by grind)
  have b2 := times_mul h k4607583499253154051.1 k4607583499253154051.2 (by grind)
  obtain ⟨p0, g0, e0⟩ := white_row n0 a0 a1 a2 b0 d0 b
  obtain ⟨p1, g1, e1⟩ := white_row n1 a0 a1 a2 a1 d1 b
  obtain ⟨p2, g2, e2⟩ := white_row n2 a0 a1 a2 b2 d2 b
  obtain ⟨f1, f2⟩ := fabs_fin h
  obtain ⟨q1, q2, q3⟩ := tol_ok (A := ab (val s)) tolC f1 ns (by rw [f2]; grind) (by rw [f2]; grind)
  obtain ⟨_, _, l0⟩ := near_ok g0 b0.1 q2 e0 (by grind) q3
  obtain ⟨_, _, l1⟩ := near_ok g1 a1.1 q2 e1 (by grind) q3
  obtain ⟨_, _, l2⟩ := near_ok g2 b2.1 q2 e2 (by grind) q3
  exact ⟨⟨p0, p1, p2⟩, ⟨g0, g1, g2⟩, ⟨a0.1, a2.1, b0.1, b2.1⟩, ⟨f1, q1, q2⟩, ⟨l0, l1, l2⟩⟩

set_option maxHeartbeats 2000000 in
set_option maxRecDepth 100000 in
theorem walk (a0 : Nat) (w : World) (w0 : (Lit.float .f64 a0).wf = true) :
    Calls Try.prog 3 #[.float .f64 a0] w fun e w' => e = .returned (.bool true) ∧ Below w.heap.size w w' := by
  by_cases i0 : inB a0 4741671816366391296 = true
  rotate_left
  · rw [Bool.not_eq_true] at i0
    go_enter Try.func3, Try.ntmps3
    go_wp2_with (go_at_call 15; refine (in15 _ _ _).mono ?_; rintro e w' ⟨rfl, rfl⟩)
    go_ret
    exact ⟨rfl, Below.refl _ _⟩
  obtain ⟨h0, b0⟩ := inB_fin (by decide) i0
  have P := plain a0 h0 (Rat.le_trans b0 limB)
  clear b0
  have KM := fun w => ZZd50ToD65_n011_70_any (fmul a0 4606860822843362778) a0 (fmul a0 4605607101106091996) w P.1.1 P.1.2.1 P.1.2.2
  obtain ⟨_, ⟨gr0, gr1, gr2⟩, ⟨gv0, gv2, gt0, gt2⟩, ⟨ga, gp, gt⟩, ⟨l0, l1, l2⟩⟩ := P
  have c0 := fun w ty => run_float_arith (P := Try.prog) w .mul ty .f64 a0 4605607101106091996 _ (bits_mul h0 k4605607101106091996.1)
  have c1 := fun w ty => run_float_arith (P := Try.prog) w .mul ty .f64 a0 4606736165463080392 _ (bits_mul h0 k4606736165463080392.1)
  have c2 := fun w ty => run_float_arith (P := Try.prog) w .mul ty .f64 a0 4606860822843362778 _ (bits_mul h0 k4606860822843362778.1)
  have c3 := fun w ty => run_float_arith (P := Try.prog) w .mul ty .f64 a0 4607583499253154051 _ (bits_mul h0 k4607583499253154051.1)
  obtain ⟨r0, er0⟩ : ∃ y, mrow 4606781359035228631 13805686934621605564 4589222729528858206 (fmul a0 4606860822843362778) a0 (fmul a0 4605607101106091996) = y := ⟨_, rfl⟩
  rw [er0] at KM gr0 l0
  obtain ⟨r1, er1⟩ : ∃ y, mrow 13807206270255814006 4607227434071091789 4581722003917944388 (fmul a0 4606860822843362778) a0 (fmul a0 4605607101106091996) = y := ⟨_, rfl⟩
  rw [er1] at KM gr1 l1
  obtain ⟨r2, er2⟩ : ∃ y, mrow 4578252168053708272 13804940185734608780 4608670254662337346 (fmul a0 4606860822843362778) a0 (fmul a0 4605607101106091996) = y := ⟨_, rfl⟩
  rw [er2] at KM gr2 l2
  clear er0 er1 er2
  have KM := Lib.hid KM
  have c8 := fun w ty => run_float_arith (P := Try.prog) w .mul ty .f64 4517329193108106637 (fabs a0) _ (bits_mul tolC.1 ga)
  have c9 := fun w ty => run_float_arith (P := Try.prog) w .add ty .f64 (fmul 4517329193108106637 (fabs a0)) 118622047889322841 _ (bits_add gp tolC.2.1)
  obtain ⟨tl, etl⟩ : ∃ y, fadd (fmul 4517329193108106637 (fabs a0)) 118622047889322841 = y := ⟨_, rfl⟩
  rw [etl] at c9 l0 l1 l2
  clear etl
  have N0 := Lib.hid (fun w => near18 r0 (fmul a0 4606736165463080392) tl w gr0 gt0 l0)
  have N1 := Lib.hid (fun w => near18 r1 a0 tl w gr1 h0 l1)
  have N2 := Lib.hid (fun w => near18 r2 (fmul a0 4607583499253154051) tl w gr2 gt2 l2)
  clear l0 l1 l2 gr0 gr1 gr2 gt gp ga gv0 gv2 gt0 gt2
  go_enter Try.func3, Try.ntmps3
  go_wp2_with (go_at_call 15; refine (in15 _ _ _).mono ?_; rintro e w' ⟨rfl, rfl⟩)
  refine (KM.out _).mono ?_
  rintro e wa ⟨rfl, hba⟩
  have HA := Lib.hid hba
  clear hba
  go_wp2_with (go_at_call 17; refine (abs17 _ _).mono ?_; rintro e w' ⟨rfl, rfl⟩)
  refine (N0.out _).mono ?_
  rintro e w' ⟨rfl, rfl⟩
  go_wp2_with fail
  refine (N1.out _).mono ?_
  rintro e w' ⟨rfl, rfl⟩
  go_wp2_with fail
  refine (N2.out _).mono ?_
  rintro e w' ⟨rfl, rfl⟩
  go_wp2_with fail
  go_ret
  exact ⟨rfl, HA.out⟩

set_option maxRecDepth 100000 in
theorem lifted (os : Os) (started : os.Started) (H : Type) (enc : TypeId × Value → H) :
    ReturnsInHanded {} Try.checked os 3 .any (Rows.fnD50ToD65MapsWhiteToWhiteSpec.pre6 enc Try.prog Try.f3 Rows.fnD50ToD65MapsWhiteToWhiteRow.domain false) (Rows.fnD50ToD65MapsWhiteToWhiteSpec.post enc Try.prog Try.f3 false true false false) := by
  refine returnsInHanded_of_change (C := Try.checked) own started (by kernel_rfl) Try.func3
    (ChangeSpec.witness6 (enc := enc) (C := Try.checked) false ⟨#[], #[.float .f64 0], []⟩ 8 (by kernel_rfl) (by kernel_rfl) (by kernel_rfl) (by kernel_rfl)) ?_
  intro W base args ds gs before hval0 hW hcnd _
  have hval : ∀ (j : Nat) t v, Try.f3.params[j]? = some t → args[j]? = some v → Value.okWide Try.prog W .any base t v := hval0
  have hW' := hW
  obtain ⟨p, q, hA0, hV, rfl, hfz, hnd⟩ := hW
  have hA : DataW.TrodAll enc Try.prog W 0 (fun _ => true) true Try.f3.params.toList args.toList ds p := hA0
  rw [Try.params3] at hA hval
  obtain ⟨v0, vs0, d0, ds0, p0, q0, hargs, rfl, rfl, h0, r0⟩ := trodAll_cons hA
  obtain ⟨rfl, rfl, rfl⟩ := trodAll_nil r0
  obtain rfl : args = #[v0] := by cases args; simp_all
  obtain ⟨rfl, rfl⟩ := trodVars_none hV
  obtain ⟨a0, rfl, rfl, rfl, w0⟩ := open_float Try.underlying22 (hval 0 22 v0 rfl rfl) h0
  clear hA0 hval0
  refine (walk a0 W w0).mono fun e W' ⟨he, bel⟩ => ?_
  subst he
  exact ⟨_, rfl, _, _, _, [], _, [], hW', trodAll_mk1 (shut_bool Try.underlying4 _), (trodAll_cons_mk (shut_float Try.underlying22 w0) trodAll_mk0), rfl, bel.frame _, fun h => by cases h⟩

theorem q0 : (Rows.fnD50ToD65MapsWhiteToWhiteRow.wf (OpenSpec.ofChange Rows.fnD50ToD65MapsWhiteToWhiteSpec)) = true := by kernel_rfl
theorem q3 : (Try.f3.params.all (Try.pinned.checked.prog.readableRec ·)) = true := by kernel_rfl
theorem q4 : (namedTie Try.pinned.checked.prog Rows.fnD50ToD65MapsWhiteToWhiteRow.named Rows.fnD50ToD65MapsWhiteToWhiteSpec.vars) = true := by kernel_rfl
theorem q5 : ((Rows.fnD50ToD65MapsWhiteToWhiteRow.stops == [])) = true := by kernel_rfl
theorem q7 : ((Rows.fnD50ToD65MapsWhiteToWhiteRow.knobs == [])) = true := by kernel_rfl
theorem q9 : ((Rows.fnD50ToD65MapsWhiteToWhiteRow.inPlace == Try.pinned.checked.prog.inPlace 3)) = true := by kernel_rfl
theorem q10 : ((Rows.fnD50ToD65MapsWhiteToWhiteRow.unfollowed == Try.pinned.checked.prog.unfollowed 3)) = true := by kernel_rfl
theorem q11 : ((Rows.fnD50ToD65MapsWhiteToWhiteRow.recurses == Try.pinned.checked.prog.recurses 3)) = true := by kernel_rfl
theorem q12 : ((Rows.fnD50ToD65MapsWhiteToWhiteRow.named == Try.pinned.checked.prog.varsNamed 3)) = true := by kernel_rfl
theorem q13 : ((Rows.fnD50ToD65MapsWhiteToWhiteRow.maps == (Try.f3.params.toList ++ Rows.fnD50ToD65MapsWhiteToWhiteSpec.plain.varTypes Try.pinned.checked.prog).any (Try.pinned.checked.prog.mapsRec ·))) = true := by kernel_rfl
theorem q14 : ((Rows.fnD50ToD65MapsWhiteToWhiteRow.ifaces == (Try.f3.params.toList ++ Rows.fnD50ToD65MapsWhiteToWhiteSpec.plain.varTypes Try.pinned.checked.prog).any (Try.pinned.checked.prog.ifacesRec ·))) = true := by kernel_rfl
theorem q15 : ((Rows.fnD50ToD65MapsWhiteToWhiteRow.mapsOut == Try.pinned.checked.prog.mapsAmong Try.f3.resultTypes.toList)) = true := by kernel_rfl
theorem q16 : ((Rows.fnD50ToD65MapsWhiteToWhiteRow.loops == (Try.f3.params.toList ++ Rows.fnD50ToD65MapsWhiteToWhiteSpec.plain.varTypes Try.pinned.checked.prog).any (Try.pinned.checked.prog.loopsFrom ·))) = true := by kernel_rfl
theorem q17 : ((Rows.fnD50ToD65MapsWhiteToWhiteRow.wideKeys == (Try.f3.params.toList ++ Rows.fnD50ToD65MapsWhiteToWhiteSpec.plain.varTypes Try.pinned.checked.prog ++ Try.f3.resultTypes.toList).any (Try.pinned.checked.prog.wideKeysFrom ·))) = true := by kernel_rfl
theorem q18 : (Rows.fnD50ToD65MapsWhiteToWhiteSpec.vars.all (Try.pinned.checked.prog.varReadable ·)) = true := by kernel_rfl
theorem q19 : (Try.f3.resultTypes.all (fun t => Try.pinned.checked.prog.readableRec t && decide (t < Try.pinned.checked.prog.types.size))) = true := by kernel_rfl
theorem q20 : ((Rows.fnD50ToD65MapsWhiteToWhiteRow.ifacesOut == Try.f3.resultTypes.toList.any (Try.pinned.checked.prog.ifacesRec ·))) = true := by kernel_rfl
theorem q21 : ((Rows.fnD50ToD65MapsWhiteToWhiteRow.loopsOut == Try.f3.resultTypes.toList.any (Try.pinned.checked.prog.loopsFrom ·))) = true := by kernel_rfl
theorem q22 : ((Rows.fnD50ToD65MapsWhiteToWhiteRow.plainKeys == Try.pinned.checked.prog.plainKeys)) = true := by kernel_rfl
theorem q23 : (Rows.fnD50ToD65MapsWhiteToWhiteRow.shortTexts.isNone) = true := by kernel_rfl
theorem q26 : ((Rows.fnD50ToD65MapsWhiteToWhiteRow.lifted == Try.pinned.checked.prog.liftsFinal)) = true := by rw [g26]; kernel_rfl
theorem q27 : ((Try.pinned.checked.prog.make == some Rows.fnD50ToD65MapsWhiteToWhiteRow.make)) = true := by rw [g27]; kernel_rfl
theorem q28 : ((Rows.fnD50ToD65MapsWhiteToWhiteRow.kinds == (if Rows.fnD50ToD65MapsWhiteToWhiteRow.domain.isEmpty then [] else Try.f3.params.toList.map fun t => match Try.pinned.checked.prog.underlying t with | some (.int k) => some k | _ => none))) = true := by kernel_rfl
theorem q29 : ((Rows.fnD50ToD65MapsWhiteToWhiteRow.pinned == Rows.fnD50ToD65MapsWhiteToWhiteRow.pinnedBy)) = true := by kernel_rfl
theorem q30 : ((Rows.fnD50ToD65MapsWhiteToWhiteRow.veiled == (Try.f3.params.toList ++ Rows.fnD50ToD65MapsWhiteToWhiteSpec.plain.varTypes Try.pinned.checked.prog ++ Try.f3.resultTypes.toList).any (Try.pinned.checked.prog.veiledRec ·))) = true := by kernel_rfl
theorem q31 : (Rows.fnD50ToD65MapsWhiteToWhiteRow.veiledFits Try.pinned.checked.prog Try.f3.params.toList (Try.f3.params.toList ++ Rows.fnD50ToD65MapsWhiteToWhiteSpec.plain.varTypes Try.pinned.checked.prog ++ Try.f3.resultTypes.toList)) = true := by kernel_rfl
theorem closed : joinedFacts Try.pinned.checked.prog 3 Try.f3 Rows.fnD50ToD65MapsWhiteToWhiteSpec Rows.fnD50ToD65MapsWhiteToWhiteRow = true :=
  (andI (andI (andI (andI (andI (andI (andI (andI (andI (andI (andI (andI (andI (andI (andI (andI (andI (andI (andI (andI (andI (andI (andI (andI (andI (andI (andI (andI (andI (andI (andI q0 g1) g2) q3) q4) q5) g6) q7) g8) q9) q10) q11) q12) q13) q14) q15) q16) q17) q18) q19) q20) q21) q22) q23) g24) g25) q26) q27) q28) q29) q30) q31)
theorem over : Rows.fnD50ToD65MapsWhiteToWhiteRow.holds Try.pinned (OpenSpec.ofChange Rows.fnD50ToD65MapsWhiteToWhiteSpec) :=
  OpenClaim.holds_of_wide 3 Try.f3 rfl rfl rfl rfl rfl rfl rfl ⟨rfl, rfl, rfl, rfl, rfl⟩ rfl rfl rfl rfl rfl (by kernel_rfl) Try.func3 closed
    (of_decide_eq_true (by kernel_rfl)) (by unfold Func.isWrapper; first | (rw [if_pos (by decide +kernel)]; kernel_rfl) | (rw [if_neg (by decide +kernel)]; exact ⟨rfl, rfl⟩))
    (fun os started H enc _ => lifted os started H enc)

theorem proved : Rows.FnD50ToD65MapsWhiteToWhiteSaid := over
#print axioms proved
end Go.Proofs.Ytmomchpfllbgjaa.fnD50ToD65MapsWhiteToWhite
