/-
  For every finite k of size at most 1e200, lin_prophoto_to_xyz(k,k,k) is k times the D50 white within 1e-9 times the size of k. No conditions.
-/
import Derived.Test.YtmomchpfllbgjaaIo
import Derived.WalkKit
import Derived.ProofKit
import Derived.OpenShut
import Derived.ShutString
import Derived.ChangeOld
import Derived.Below
import Derived.WalkLawsBesides
import Derived.Test.YtmomchpfllbgjaaWx
import Derived.Test.YtmomchpfllbgjaaWh
import Derived.Lib.Hide
namespace Go.Proofs.Ytmomchpfllbgjaa.fnLinProphotoToXyzMapsEqualChannelsToD50White
open Go.ChangeShapes Go.WideShapes Go.ChangeAt Go.RowKit
open Go.ChangeMaps (open_string shut_string)
set_option linter.unusedVariables false

theorem own : ownKnob Try.prog.godebug = none := by kernel_rfl
theorem laidOut : laidOutB Try.prog = true := by kernel_rfl

open Fl

theorem n0 : RowOk 4605360807233314590 4594038603377978885 4584678738446791632 := by decide +kernel
theorem n1 : RowOk 4598861048020904497 4604586933246227991 4545948571150199221 := by decide +kernel
theorem n2 : RowOk 0 0 4605607101106091995 := by decide +kernel
theorem k4605607101106091996 : Fl.Fin 4605607101106091996 ∧ ab (val 4605607101106091996) ≤ 4 := by decide +kernel
theorem k4606860822843362778 : Fl.Fin 4606860822843362778 ∧ ab (val 4606860822843362778) ≤ 4 := by decide +kernel
theorem d0 : ab (val 4605360807233314590 * 1 + val 4594038603377978885 * 1 + val 4584678738446791632 * 1 - (val 4606860822843362778)) ≤ 1 / 10000000000 := by decide +kernel
theorem d1 : ab (val 4598861048020904497 * 1 + val 4604586933246227991 * 1 + val 4545948571150199221 * 1 - 1) ≤ 1 / 10000000000 := by decide +kernel
theorem d2 : ab (val 0 * 1 + val 0 * 1 + val 4605607101106091995 * 1 - (val 4605607101106091996)) ≤ 1 / 10000000000 := by decide +kernel
theorem tolC : TolOk 4472406533629990549 118622047889322841 := by decide +kernel
theorem limB : val 7598952565167317594 ≤ BIG / 1000000 := by decide +kernel

/-- all that the walk needs, in plain Lean -/
theorem plain (s : Nat) (h : Fl.Fin s) (b : ab (val s) ≤ BIG / 1000000) :
    (RowFin 4605360807233314590 4594038603377978885 4584678738446791632 s s s ∧ RowFin 4598861048020904497 4604586933246227991 4545948571150199221 s s s ∧ RowFin 0 0 4605607101106091995 s s s)
    ∧ (Fl.Fin (mrow 4605360807233314590 4594038603377978885 4584678738446791632 s s s) ∧ Fl.Fin (mrow 4598861048020904497 4604586933246227991 4545948571150199221 s s s) ∧ Fl.Fin (mrow 0 0 4605607101106091995 s s s)) ∧ (Fl.Fin s ∧ Fl.Fin s ∧ Fl.Fin (fmul s 4606860822843362778) ∧ Fl.Fin (fmul s 4605607101106091996))
    ∧ (Fl.Fin (fabs s) ∧ Fl.Fin (fmul 4472406533629990549 (fabs s)) ∧ Fl.Fin (fadd (fmul 4472406533629990549 (fabs s)) 118622047889322841))
    ∧ (leB (fabs (fsub (mrow 4605360807233314590 4594038603377978885 4584678738446791632 s s s) (fmul s 4606860822843362778))) (fadd (fmul 4472406533629990549 (fabs s)) 118622047889322841) = true ∧ leB (fabs (fsub (mrow 4598861048020904497 4604586933246227991 4545948571150199221 s s s) s)) (fadd (fmul 4472406533629990549 (fabs s)) 118622047889322841) = true ∧ leB (fabs (fsub (mrow 0 0 4605607101106091995 s s s) (fmul s 4605607101106091996))) (fadd (fmul 4472406533629990549 (fabs s)) 118622047889322841) = true) := by
  have up := U_pos
  have ub := U_le
  have ns := ab_nonneg (val s)
  have a0 := times_self h
  have a1 := times_self h
  have a2 := times_self h
  have b0 := times_mul h k4606860822843362778.1 k4606860822843362778.2 (by grind)
  have b2 := times_mul h k4605607101106091996.1 k4605607101106091996.2 (by grind)
  obtain ⟨p0, g0, e0⟩ := white_row n0 a0 a1 a2 b0 d0 b
  obtain ⟨p1, g1, e1⟩ := white_row n1 a0 a1 a2 a1 d1 b
  obtain ⟨p2, g2, e2⟩ := white_row n2 a0 a1 a2 b2 d2 b
  obtain ⟨f1, f2⟩ := fabs_fin h
  obtain ⟨q1, q2, q3⟩ := tol_ok (A := ab (val s)) tolC f1 ns (by rw [f2]; grind) (by rw [f2]; grind)
  obtain ⟨_, _, l0⟩ := near_ok g0 b0.1 q2 e0 (by grind) q3
  obtain ⟨_, _, l1⟩ := near_ok g1 a1.1 q2 e1 (by grind) q3
  obtain ⟨_, _, l2⟩ := near_ok g2 b2.1 q2 e2 (by grind) q3
  exact ⟨⟨p0, p1, p2⟩, ⟨g0, g1, g2⟩, ⟨a0.1, a2.1, b0.1, b2.1⟩, ⟨f1, q1, q2⟩, ⟨l0, l1, l2⟩⟩

set_option maxHeartbeats 2000000 in
set_option maxRecDepth 100000 in
theorem walk (a0 : Nat) (w : World) (w0 : (Lit.float .f64 a0).wf = true) :
    Calls Try.prog 5 #[.float .f64 a0] w fun e w' => e = .returned (.bool true) ∧ Below w.heap.size w w' := by
  by_cases i0 : tameB a0 = true
  rotate_left
  · rw [Bool.not_eq_true] at i0
    go_enter Try.func5, Try.ntmps5
    go_wp2_with (go_at_call 20; refine (tame20 _ _).mono ?_; rintro e w' ⟨rfl, rfl⟩)
    go_ret
    exact ⟨rfl, Below.refl _ _⟩
  obtain ⟨h0, b0⟩ := tameB_fin i0
  have P := plain a0 h0 (Rat.le_trans b0 limB)
  clear b0
  have KM := fun w => ZZlinProphotoToXyz_n011_83_any a0 a0 a0 w P.1.1 P.1.2.1 P.1.2.2
  obtain ⟨_, ⟨gr0, gr1, gr2⟩, ⟨gv0, gv2, gt0, gt2⟩, ⟨ga, gp, gt⟩, ⟨l0, l1, l2⟩⟩ := P
  have c0 := fun w ty => run_float_arith (P := Try.prog) w .mul ty .f64 a0 4605607101106091996 _ (bits_mul h0 k4605607101106091996.1)
  have c1 := fun w ty => run_float_arith (P := Try.prog) w .mul ty .f64 a0 4606860822843362778 _ (bits_mul h0 k4606860822843362778.1)
  obtain ⟨r0, er0⟩ : ∃ y, mrow 4605360807233314590 4594038603377978885 4584678738446791632 a0 a0 a0 = y := ⟨_, rfl⟩
  rw [er0] at KM gr0 l0
  obtain ⟨r1, er1⟩ : ∃ y, mrow 4598861048020904497 4604586933246227991 4545948571150199221 a0 a0 a0 = y := ⟨_, rfl⟩
  rw [er1] at KM gr1 l1
  obtain ⟨r2, er2⟩ : ∃ y, mrow 0 0 4605607101106091995 a0 a0 a0 = y := ⟨_, rfl⟩
  rw [er2] at KM gr2 l2
  clear er0 er1 er2
  have KM := Lib.hid KM
  have c8 := fun w ty => run_float_arith (P := Try.prog) w .mul ty .f64 4472406533629990549 (fabs a0) _ (bits_mul tolC.1 ga)
  have c9 := fun w ty => run_float_arith (P := Try.prog) w .add ty .f64 (fmul 4472406533629990549 (fabs a0)) 118622047889322841 _ (bits_add gp tolC.2.1)
  obtain ⟨tl, etl⟩ : ∃ y, fadd (fmul 4472406533629990549 (fabs a0)) 118622047889322841 = y := ⟨_, rfl⟩
  rw [etl] at c9 l0 l1 l2
  clear etl
  have e0 := fun w ty => run_float_arith (P := Try.prog) w .sub ty .f64 r0 (fmul a0 4606860822843362778) _ (bits_sub gr0 gt0)
  have e1 := fun w ty => run_float_arith (P := Try.prog) w .sub ty .f64 r1 a0 _ (bits_sub gr1 h0)
  have e2 := fun w ty => run_float_arith (P := Try.prog) w .sub ty .f64 r2 (fmul a0 4605607101106091996) _ (bits_sub gr2 gt2)
  unfold leB at l0 l1 l2
  clear gr0 gr1 gr2 gt gp ga gv0 gv2 gt0 gt2
  go_enter Try.func5, Try.ntmps5
  go_wp2_with (go_at_call 20; refine (tame20 _ _).mono ?_; rintro e w' ⟨rfl, rfl⟩)
  refine (KM.out _).mono ?_
  rintro e wa ⟨rfl, hba⟩
  have HA := Lib.hid hba
  clear hba
  go_wp2_with (go_at_call 22; refine (abs22 _ _).mono ?_; rintro e w' ⟨rfl, rfl⟩)
  go_ret
  exact ⟨rfl, HA.out⟩

set_option maxRecDepth 100000 in
theorem lifted (os : Os) (started : os.Started) (H : Type) (enc : TypeId × Value → H) :
    ReturnsInHanded {} Try.checked os 5 .any (Rows.fnLinProphotoToXyzMapsEqualChannelsToD50WhiteSpec.pre6 enc Try.prog Try.f5 Rows.fnLinProphotoToXyzMapsEqualChannelsToD50WhiteRow.domain false) (Rows.fnLinProphotoToXyzMapsEqualChannelsToD50WhiteSpec.post enc Try.prog Try.f5 false true false false) := by
  refine returnsInHanded_of_change (C := Try.checked) own started (by kernel_rfl) Try.func5
    (ChangeSpec.witness6 (enc := enc) (C := Try.checked) false ⟨#[], #[.float .f64 0], []⟩ 8 (by kernel_rfl) (by kernel_rfl) (by kernel_rfl) (by kernel_rfl)) ?_
  intro W base args ds gs before hval0 hW hcnd _
  have hval : ∀ (j : Nat) t v, Try.f5.params[j]? = some t → args[j]? = some v → Value.okWide Try.prog W .any base t v := hval0
  have hW' := hW
  obtain ⟨p, q, hA0, hV, rfl, hfz, hnd⟩ := hW
  have hA : DataW.TrodAll enc Try.prog W 0 (fun _ => true) true Try.f5.params.toList args.toList ds p := hA0
  rw [Try.params5] at hA hval
  obtain ⟨v0, vs0, d0, ds0, p0, q0, hargs, rfl, rfl, h0, r0⟩ := trodAll_cons hA
  obtain ⟨rfl, rfl, rfl⟩ := trodAll_nil r0
  obtain rfl : args = #[v0] := by cases args; simp_all
  obtain ⟨rfl, rfl⟩ := trodVars_none hV
  obtain ⟨a0, rfl, rfl, rfl, w0⟩ := open_float Try.underlying22 (hval 0 22 v0 rfl rfl) h0
  clear hA0 hval0
  refine (walk a0 W w0).mono fun e W' ⟨he, bel⟩ => ?_
  subst he
  exact ⟨_, rfl, _, _, _, [], _, [], hW', trodAll_mk1 (shut_bool Try.underlying4 _), (trodAll_cons_mk (shut_float Try.underlying22 w0) trodAll_mk0), rfl, bel.frame _, fun h => by cases h⟩

theorem q0 : (Rows.fnLinProphotoToXyzMapsEqualChannelsToD50WhiteRow.wf (OpenSpec.ofChange Rows.fnLinProphotoToXyzMapsEqualChannelsToD50WhiteSpec)) = true := by kernel_rfl
theorem q3 : (Try.f5.params.all (Try.pinned.checked.prog.readableRec ·)) = true := by kernel_rfl
theorem q4 : (namedTie Try.pinned.checked.prog Rows.fnLinProphotoToXyzMapsEqualChannelsToD50WhiteRow.named Rows.fnLinProphotoToXyzMapsEqualChannelsToD50WhiteSpec.vars) = true := by kernel_rfl
theorem q5 : ((Rows.fnLinProphotoToXyzMapsEqualChannelsToD50WhiteRow.stops == [])) = true := by kernel_rfl
theorem q7 : ((Rows.fnLinProphotoToXyzMapsEqualChannelsToD50WhiteRow.knobs == [])) = true := by kernel_rfl
theorem q9 : ((Rows.fnLinProphotoToXyzMapsEqualChannelsToD50WhiteRow.inPlace == Try.pinned.checked.prog.inPlace 5)) = true := by kernel_rfl
theorem q10 : ((Rows.fnLinProphotoToXyzMapsEqualChannelsToD50WhiteRow.unfollowed == Try.pinned.checked.prog.unfollowed 5)) = true := by kernel_rfl
theorem q11 : ((Rows.fnLinProphotoToXyzMapsEqualChannelsToD50WhiteRow.recurses == Try.pinned.checked.prog.recurses 5)) = true := by kernel_rfl
theorem q12 : ((Rows.fnLinProphotoToXyzMapsEqualChannelsToD50WhiteRow.named == Try.pinned.checked.prog.varsNamed 5)) = true := by kernel_rfl
theorem q13 : ((Rows.fnLinProphotoToXyzMapsEqualChannelsToD50WhiteRow.maps == (Try.f5.params.toList ++ Rows.fnLinProphotoToXyzMapsEqualChannelsToD50WhiteSpec.plain.varTypes Try.pinned.checked.prog).any (Try.pinned.checked.prog.mapsRec ·))) = true := by kernel_rfl
theorem q14 : ((Rows.fnLinProphotoToXyzMapsEqualChannelsToD50WhiteRow.ifaces == (Try.f5.params.toList ++ Rows.fnLinProphotoToXyzMapsEqualChannelsToD50WhiteSpec.plain.varTypes Try.pinned.checked.prog).any (Try.pinned.checked.prog.ifacesRec ·))) = true := by kernel_rfl
theorem q15 : ((Rows.fnLinProphotoToXyzMapsEqualChannelsToD50WhiteRow.mapsOut == Try.pinned.checked.prog.mapsAmong Try.f5.resultTypes.toList)) = true := by kernel_rfl
theorem q16 : ((Rows.fnLinProphotoToXyzMapsEqualChannelsToD50WhiteRow.loops == (Try.f5.params.toList ++ Rows.fnLinProphotoToXyzMapsEqualChannelsToD50WhiteSpec.plain.varTypes Try.pinned.checked.prog).any (Try.pinned.checked.prog.loopsFrom ·))) = true := by kernel_rfl
theorem q17 : ((Rows.fnLinProphotoToXyzMapsEqualChannelsToD50WhiteRow.wideKeys == (Try.f5.params.toList ++ Rows.fnLinProphotoToXyzMapsEqualChannelsToD50WhiteSpec.plain.varTypes Try.pinned.checked.prog ++ Try.f5.resultTypes.toList).any (Try.pinned.checked.prog.wideKeysFrom ·))) = true := by kernel_rfl
theorem q18 : (Rows.fnLinProphotoToXyzMapsEqualChannelsToD50WhiteSpec.vars.all (Try.pinned.checked.prog.varReadable ·)) = true := by kernel_rfl
theorem q19 : (Try.f5.resultTypes.all (fun t => Try.pinned.checked.prog.readableRec t && decide (t < Try.pinned.checked.prog.types.size))) = true := by kernel_rfl
theorem q20 : ((Rows.fnLinProphotoToXyzMapsEqualChannelsToD50WhiteRow.ifacesOut == Try.f5.resultTypes.toList.any (Try.pinned.checked.prog.ifacesRec ·))) = true := by kernel_rfl
theorem q21 : ((Rows.fnLinProphotoToXyzMapsEqualChannelsToD50WhiteRow.loopsOut == Try.f5.resultTypes.toList.any (Try.pinned.checked.prog.loopsFrom ·))) = true := by kernel_rfl
theorem q22 : ((Rows.fnLinProphotoToXyzMapsEqualChannelsToD50WhiteRow.plainKeys == Try.pinned.checked.prog.plainKeys)) = true := by kernel_rfl
theorem q23 : (Rows.fnLinProphotoToXyzMapsEqualChannelsToD50WhiteRow.shortTexts.isNone) = true := by kernel_rfl
theorem q26 : ((Rows.fnLinProphotoToXyzMapsEqualChannelsToD50WhiteRow.lifted == Try.pinned.checked.prog.liftsFinal)) = true := by rw [g26]; kernel_rfl
theorem q27 : ((Try.pinned.checked.prog.make == some Rows.fnLinProphotoToXyzMapsEqualChannelsToD50WhiteRow.make)) = true := by rw [g27]; kernel_rfl
theorem q28 : ((Rows.fnLinProphotoToXyzMapsEqualChannelsToD50WhiteRow.kinds == (if Rows.fnLinProphotoToXyzMapsEqualChannelsToD50WhiteRow.domain.isEmpty then [] else Try.f5.params.toList.map fun t => match Try.pinned.checked.prog.underlying t with | some (.int k) => some k | _ => none))) = true := by kernel_rfl
theorem q29 : ((Rows.fnLinProphotoToXyzMapsEqualChannelsToD50WhiteRow.pinned == Rows.fnLinProphotoToXyzMapsEqualChannelsToD50WhiteRow.pinnedBy)) = true := by kernel_rfl
theorem q30 : ((Rows.fnLinProphotoToXyzMapsEqualChannelsToD50WhiteRow.veiled == (Try.f5.params.toList ++ Rows.fnLinProphotoToXyzMapsEqualChannelsToD50WhiteSpec.plain.varTypes Try.pinned.checked.prog ++ Try.f5.resultTypes.toList).any (Try.pinned.checked.prog.veiledRec ·))) = true := by kernel_rfl
theorem q31 : (Rows.fnLinProphotoToXyzMapsEqualChannelsToD50WhiteRow.veiledFits Try.pinned.checked.prog Try.f5.params.toList (Try.f5.params.toList ++ Rows.fnLinProphotoToXyzMapsEqualChannelsToD50WhiteSpec.plain.varTypes Try.pinned.checked.prog ++ Try.f5.resultTypes.toList)) = true := by kernel_rfl
theorem closed : joinedFacts Try.pinned.checked.prog 5 Try.f5 Rows.fnLinProphotoToXyzMapsEqualChannelsToD50WhiteSpec Rows.fnLinProphotoToXyzMapsEqualChannelsToD50WhiteRow = true :=
  (andI (andI (andI (andI (andI (andI (andI (andI (andI (andI (andI (andI (andI (andI (andI (andI (andI (andI (andI (andI (andI (andI (andI (andI (andI (andI (andI (andI (andI (andI (andI q0 g1) g2) q3) q4) q5) g6) q7) g8) q9) q10) q11) q12) q13) q14) q15) q16) q17) q18) q19) q20) q21) q22) q23) g24) g25) q26) q27) q28) q29) q30) q31)
theorem over : Rows.fnLinProphotoToXyzMapsEqualChannelsToD50WhiteRow.holds Try.pinned (OpenSpec.ofChange Rows.fnLinProphotoToXyzMapsEqualChannelsToD50WhiteSpec) :=
  OpenClaim.holds_of_wide 5 Try.f5 rfl rfl rfl rfl rfl rfl rfl ⟨rfl, rfl, rfl, rfl, rfl⟩ rfl rfl rfl rfl rfl (by kernel_rfl) Try.func5 closed
    (of_decide_eq_true (by kernel_rfl)) (by unfold Func.isWrapper; first | (rw [if_pos (by decide +kernel)]; kernel_rfl) | (rw [if_neg (by decide +kernel)]; exact ⟨rfl, rfl⟩))
    (fun os started H enc _ => lifted os started H enc)

theorem proved : Rows.FnLinProphotoToXyzMapsEqualChannelsToD50WhiteSaid := over
#print axioms proved
end Go.Proofs.Ytmomchpfllbgjaa.fnLinProphotoToXyzMapsEqualChannelsToD50White
