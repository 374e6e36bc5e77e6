/-
  The law FnInterpolateHuesPeriodic holds at every input. Conditions: the statement's own.
-/
import Derived.Test.YthhoalfilmlhaaaIo
import Derived.WalkKit
import Derived.ProofKit
import Derived.OpenShut
import Derived.ShutString
import Derived.ChangeOld
import Derived.Below
import Derived.WalkLawsBesides
import Derived.Test.YthhoalfilmlhaaaHk
namespace Go.Proofs.Ythhoalfilmlhaaa.fnInterpolateHuesPeriodic
open Go.ChangeShapes Go.WideShapes Go.ChangeAt Go.RowKit
open Go.ChangeMaps (open_string shut_string)
set_option linter.unusedVariables false

theorem own : ownKnob Try.prog.godebug = none := by kernel_rfl
theorem laidOut : laidOutB Try.prog = true := by kernel_rfl

theorem walk (a0 : Nat) (a1 : Nat) (a2 : Nat) (a3 : Int) (a4 : Int) (a5 : Int) (w : World) (w0 : (Lit.float .f64 a0).wf = true) (w1 : (Lit.float .f64 a1).wf = true) (w2 : (Lit.float .f64 a2).wf = true) (w3 : (Lit.int .i16 a3).wf = true) (w4 : (Lit.int .i16 a4).wf = true) (w5 : (Lit.int .u8 a5).wf = true) :
    Calls Try.prog 3 #[.float .f64 a0, .float .f64 a1, .float .f64 a2, .int .i16 a3, .int .i16 a4, .int .u8 a5] w fun e w' => e = .returned (.bool true) ∧ Below w.heap.size w w' := by
  exact walk3 a0 a1 a2 a3 a4 a5 w w3 w4 w5

set_option maxRecDepth 100000 in
theorem lifted (os : Os) (started : os.Started) (H : Type) (enc : TypeId × Value → H) :
    ReturnsInHanded {} Try.checked os 3 .any (Rows.fnInterpolateHuesPeriodicSpec.pre6 enc Try.prog Try.f3 Rows.fnInterpolateHuesPeriodicRow.domain false) (Rows.fnInterpolateHuesPeriodicSpec.post enc Try.prog Try.f3 false true false false) := by
  refine returnsInHanded_of_change (C := Try.checked) own started (by kernel_rfl) Try.func3
    (ChangeSpec.witness6 (enc := enc) (C := Try.checked) false ⟨#[], #[.float .f64 0, .float .f64 0, .float .f64 0, .int .i16 0, .int .i16 0, .int .u8 0], []⟩ 8 (by kernel_rfl) (by kernel_rfl) (by kernel_rfl) (by kernel_rfl)) ?_
  intro W base args ds gs before hval0 hW hcnd _
  have hval : ∀ (j : Nat) t v, Try.f3.params[j]? = some t → args[j]? = some v → Value.okWide Try.prog W .any base t v := hval0
  have hW' := hW
  obtain ⟨p, q, hA0, hV, rfl, hfz, hnd⟩ := hW
  have hA : DataW.TrodAll enc Try.prog W 0 (fun _ => true) true Try.f3.params.toList args.toList ds p := hA0
  rw [Try.params3] at hA hval
  obtain ⟨v0, vs0, d0, ds0, p0, q0, hargs, rfl, rfl, h0, r0⟩ := trodAll_cons hA
  obtain ⟨v1, vs1, d1, ds1, p1, q1, rfl, rfl, rfl, h1, r1⟩ := trodAll_cons r0
  obtain ⟨v2, vs2, d2, ds2, p2, q2, rfl, rfl, rfl, h2, r2⟩ := trodAll_cons r1
  obtain ⟨v3, vs3, d3, ds3, p3, q3, rfl, rfl, rfl, h3, r3⟩ := trodAll_cons r2
  obtain ⟨v4, vs4, d4, ds4, p4, q4, rfl, rfl, rfl, h4, r4⟩ := trodAll_cons r3
  obtain ⟨v5, vs5, d5, ds5, p5, q5, rfl, rfl, rfl, h5, r5⟩ := trodAll_cons r4
  obtain ⟨rfl, rfl, rfl⟩ := trodAll_nil r5
  obtain rfl : args = #[v0, v1, v2, v3, v4, v5] := by cases args; simp_all
  obtain ⟨rfl, rfl⟩ := trodVars_none hV
  obtain ⟨a0, rfl, rfl, rfl, w0⟩ := open_float Try.underlying22 (hval 0 22 v0 rfl rfl) h0
  obtain ⟨a1, rfl, rfl, rfl, w1⟩ := open_float Try.underlying22 (hval 1 22 v1 rfl rfl) h1
  obtain ⟨a2, rfl, rfl, rfl, w2⟩ := open_float Try.underlying22 (hval 2 22 v2 rfl rfl) h2
  obtain ⟨a3, rfl, rfl, rfl, w3⟩ := open_int Try.underlying23 (hval 3 23 v3 rfl rfl) h3
  obtain ⟨a4, rfl, rfl, rfl, w4⟩ := open_int Try.underlying23 (hval 4 23 v4 rfl rfl) h4
  obtain ⟨a5, rfl, rfl, rfl, w5⟩ := open_int Try.underlying5 (hval 5 5 v5 rfl rfl) h5
  clear hA0 hval0
  refine (walk a0 a1 a2 a3 a4 a5 W w0 w1 w2 w3 w4 w5).mono fun e W' ⟨he, bel⟩ => ?_
  subst he
  exact ⟨_, rfl, _, _, _, [], _, [], hW', trodAll_mk1 (shut_bool Try.underlying4 _), (trodAll_cons_mk (shut_float Try.underlying22 w0) (trodAll_cons_mk (shut_float Try.underlying22 w1) (trodAll_cons_mk (shut_float Try.underlying22 w2) (trodAll_cons_mk (shut_int Try.underlying23 w3) (trodAll_cons_mk (shut_int Try.underlying23 w4) (trodAll_cons_mk (shut_int Try.underlying5 w5) trodAll_mk0)))))), rfl, bel.frame _, fun h => by cases h⟩

theorem q0 : (Rows.fnInterpolateHuesPeriodicRow.wf (OpenSpec.ofChange Rows.fnInterpolateHuesPeriodicSpec)) = true := by kernel_rfl
theorem q3 : (Try.f3.params.all (Try.pinned.checked.prog.readableRec ·)) = true := by kernel_rfl
theorem q4 : (namedTie Try.pinned.checked.prog Rows.fnInterpolateHuesPeriodicRow.named Rows.fnInterpolateHuesPeriodicSpec.vars) = true := by kernel_rfl
theorem q5 : ((Rows.fnInterpolateHuesPeriodicRow.stops == [])) = true := by kernel_rfl
theorem q7 : ((Rows.fnInterpolateHuesPeriodicRow.knobs == [])) = true := by kernel_rfl
theorem q9 : ((Rows.fnInterpolateHuesPeriodicRow.inPlace == Try.pinned.checked.prog.inPlace 3)) = true := by kernel_rfl
theorem q10 : ((Rows.fnInterpolateHuesPeriodicRow.unfollowed == Try.pinned.checked.prog.unfollowed 3)) = true := by kernel_rfl
theorem q11 : ((Rows.fnInterpolateHuesPeriodicRow.recurses == Try.pinned.checked.prog.recurses 3)) = true := by kernel_rfl
theorem q12 : ((Rows.fnInterpolateHuesPeriodicRow.named == Try.pinned.checked.prog.varsNamed 3)) = true := by kernel_rfl
theorem q13 : ((Rows.fnInterpolateHuesPeriodicRow.maps == (Try.f3.params.toList ++ Rows.fnInterpolateHuesPeriodicSpec.plain.varTypes Try.pinned.checked.prog).any (Try.pinned.checked.prog.mapsRec ·))) = true := by kernel_rfl
theorem q14 : ((Rows.fnInterpolateHuesPeriodicRow.ifaces == (Try.f3.params.toList ++ Rows.fnInterpolateHuesPeriodicSpec.plain.varTypes Try.pinned.checked.prog).any (Try.pinned.checked.prog.ifacesRec ·))) = true := by kernel_rfl
theorem q15 : ((Rows.fnInterpolateHuesPeriodicRow.mapsOut == Try.pinned.checked.prog.mapsAmong Try.f3.resultTypes.toList)) = true := by kernel_rfl
theorem q16 : ((Rows.fnInterpolateHuesPeriodicRow.loops == (Try.f3.params.toList ++ Rows.fnInterpolateHuesPeriodicSpec.plain.varTypes Try.pinned.checked.prog).any (Try.pinned.checked.prog.loopsFrom ·))) = true := by kernel_rfl
theorem q17 : ((Rows.fnInterpolateHuesPeriodicRow.wideKeys == (Try.f3.params.toList ++ Rows.fnInterpolateHuesPeriodicSpec.plain.varTypes Try.pinned.checked.prog ++ Try.f3.resultTypes.toList).any (Try.pinned.checked.prog.wideKeysFrom ·))) = true := by kernel_rfl
theorem q18 : (Rows.fnInterpolateHuesPeriodicSpec.vars.all (Try.pinned.checked.prog.varReadable ·)) = true := by kernel_rfl
theorem q19 : (Try.f3.resultTypes.all (fun t => Try.pinned.checked.prog.readableRec t && decide (t < Try.pinned.checked.prog.types.size))) = true := by kernel_rfl
theorem q20 : ((Rows.fnInterpolateHuesPeriodicRow.ifacesOut == Try.f3.resultTypes.toList.any (Try.pinned.checked.prog.ifacesRec ·))) = true := by kernel_rfl
theorem q21 : ((Rows.fnInterpolateHuesPeriodicRow.loopsOut == Try.f3.resultTypes.toList.any (Try.pinned.checked.prog.loopsFrom ·))) = true := by kernel_rfl
theorem q22 : ((Rows.fnInterpolateHuesPeriodicRow.plainKeys == Try.pinned.checked.prog.plainKeys)) = true := by kernel_rfl
theorem q23 : (Rows.fnInterpolateHuesPeriodicRow.shortTexts.isNone) = true := by kernel_rfl
theorem q26 : ((Rows.fnInterpolateHuesPeriodicRow.lifted == Try.pinned.checked.prog.liftsFinal)) = true := by rw [g26]; kernel_rfl
theorem q27 : ((Try.pinned.checked.prog.make == some Rows.fnInterpolateHuesPeriodicRow.make)) = true := by rw [g27]; kernel_rfl
theorem q28 : ((Rows.fnInterpolateHuesPeriodicRow.kinds == (if Rows.fnInterpolateHuesPeriodicRow.domain.isEmpty then [] else Try.f3.params.toList.map fun t => match Try.pinned.checked.prog.underlying t with | some (.int k) => some k | _ => none))) = true := by kernel_rfl
theorem q29 : ((Rows.fnInterpolateHuesPeriodicRow.pinned == Rows.fnInterpolateHuesPeriodicRow.pinnedBy)) = true := by kernel_rfl
theorem q30 : ((Rows.fnInterpolateHuesPeriodicRow.veiled == (Try.f3.params.toList ++ Rows.fnInterpolateHuesPeriodicSpec.plain.varTypes Try.pinned.checked.prog ++ Try.f3.resultTypes.toList).any (Try.pinned.checked.prog.veiledRec ·))) = true := by kernel_rfl
theorem q31 : (Rows.fnInterpolateHuesPeriodicRow.veiledFits Try.pinned.checked.prog Try.f3.params.toList (Try.f3.params.toList ++ Rows.fnInterpolateHuesPeriodicSpec.plain.varTypes Try.pinned.checked.prog ++ Try.f3.resultTypes.toList)) = true := by kernel_rfl
set_option maxRecDepth 100000 in
theorem closed : joinedFacts Try.pinned.checked.prog 3 Try.f3 Rows.fnInterpolateHuesPeriodicSpec Rows.fnInterpolateHuesPeriodicRow = true :=
  (andI (andI (andI (andI (andI (andI (andI (andI (andI (andI (andI (andI (andI (andI (andI (andI (andI (andI (andI (andI (andI (andI (andI (andI (andI (andI (andI (andI (andI (andI (andI q0 g1) g2) q3) q4) q5) g6) q7) g8) q9) q10) q11) q12) q13) q14) q15) q16) q17) q18) q19) q20) q21) q22) q23) g24) g25) q26) q27) q28) q29) q30) q31)
theorem over : Rows.fnInterpolateHuesPeriodicRow.holds Try.pinned (OpenSpec.ofChange Rows.fnInterpolateHuesPeriodicSpec) :=
  OpenClaim.holds_of_wide 3 Try.f3 rfl rfl rfl rfl rfl rfl rfl ⟨rfl, rfl, rfl, rfl, rfl⟩ rfl rfl rfl rfl rfl (by kernel_rfl) Try.func3 closed
    (of_decide_eq_true (by kernel_rfl)) (by unfold Func.isWrapper; first | (rw [if_pos (by decide +kernel)]; kernel_rfl) | (rw [if_neg (by decide +kernel)]; exact ⟨rfl, rfl⟩))
    (fun os started H enc _ => lifted os started H enc)

theorem proved : Rows.FnInterpolateHuesPeriodicSaid := over
#print axioms proved
end Go.Proofs.Ythhoalfilmlhaaa.fnInterpolateHuesPeriodic
