/-
  The law FnInterpolateColorsEndpointsAndMethodScope holds at every input. Conditions: the statement's own.
-/
import Derived.Test.YthhoalfilmlhaaaIo
import Derived.WalkKit
import Derived.ProofKit
import Derived.OpenShut
import Derived.ShutString
import Derived.ChangeOld
import Derived.Below
import Derived.WalkLawsBesides
import Derived.Test.YthhoalfilmlhaaaHi
namespace Go.Proofs.Ythhoalfilmlhaaa.fnInterpolateColorsEndpointsAndMethodScope
open Go.ChangeShapes Go.WideShapes Go.ChangeAt Go.RowKit
open Go.ChangeMaps (open_string shut_string)
set_option linter.unusedVariables false

theorem own : ownKnob Try.prog.godebug = none := by kernel_rfl
theorem laidOut : laidOutB Try.prog = true := by kernel_rfl

theorem walk (a0 : Nat) (a1 : Nat) (a2 : Nat) (a3 : Nat) (a4 : Nat) (a5 : Nat) (a6 : Nat) (a7 : Int) (a8 : Int) (a9 : Int) (w : World) (w0 : (Lit.float .f64 a0).wf = true) (w1 : (Lit.float .f64 a1).wf = true) (w2 : (Lit.float .f64 a2).wf = true) (w3 : (Lit.float .f64 a3).wf = true) (w4 : (Lit.float .f64 a4).wf = true) (w5 : (Lit.float .f64 a5).wf = true) (w6 : (Lit.float .f64 a6).wf = true) (w7 : (Lit.int .u8 a7).wf = true) (w8 : (Lit.int .u8 a8).wf = true) (w9 : (Lit.int .u8 a9).wf = true) :
    Calls Try.prog 4 #[.float .f64 a0, .float .f64 a1, .float .f64 a2, .float .f64 a3, .float .f64 a4, .float .f64 a5, .float .f64 a6, .int .u8 a7, .int .u8 a8, .int .u8 a9] w fun e w' => e = .returned (.bool true) ∧ Below w.heap.size w w' := by
  exact walk4 a0 a1 a2 a3 a4 a5 a6 a7 a8 a9 w

set_option maxRecDepth 100000 in
theorem lifted (os : Os) (started : os.Started) (H : Type) (enc : TypeId × Value → H) :
    ReturnsInHanded {} Try.checked os 4 .any (Rows.fnInterpolateColorsEndpointsAndMethodScopeSpec.pre6 enc Try.prog Try.f4 Rows.fnInterpolateColorsEndpointsAndMethodScopeRow.domain false) (Rows.fnInterpolateColorsEndpointsAndMethodScopeSpec.post enc Try.prog Try.f4 false true false false) := by
  refine returnsInHanded_of_change (C := Try.checked) own started (by kernel_rfl) Try.func4
    (ChangeSpec.witness6 (enc := enc) (C := Try.checked) false ⟨#[], #[.float .f64 0, .float .f64 0, .float .f64 0, .float .f64 0, .float .f64 0, .float .f64 0, .float .f64 0, .int .u8 0, .int .u8 0, .int .u8 0], []⟩ 8 (by kernel_rfl) (by kernel_rfl) (by kernel_rfl) (by kernel_rfl)) ?_
  intro W base args ds gs before hval0 hW hcnd _
  have hval : ∀ (j : Nat) t v, Try.f4.params[j]? = some t → args[j]? = some v → Value.okWide Try.prog W .any base t v := hval0
  have hW' := hW
  obtain ⟨p, q, hA0, hV, rfl, hfz, hnd⟩ := hW
  have hA : DataW.TrodAll enc Try.prog W 0 (fun _ => true) true Try.f4.params.toList args.toList ds p := hA0
  rw [Try.params4] at hA hval
  obtain ⟨v0, vs0, d0, ds0, p0, q0, hargs, rfl, rfl, h0, r0⟩ := trodAll_cons hA
  obtain ⟨v1, vs1, d1, ds1, p1, q1, rfl, rfl, rfl, h1, r1⟩ := trodAll_cons r0
  obtain ⟨v2, vs2, d2, ds2, p2, q2, rfl, rfl, rfl, h2, r2⟩ := trodAll_cons r1
  obtain ⟨v3, vs3, d3, ds3, p3, q3, rfl, rfl, rfl, h3, r3⟩ := trodAll_cons r2
  obtain ⟨v4, vs4, d4, ds4, p4, q4, rfl, rfl, rfl, h4, r4⟩ := trodAll_cons r3
  obtain ⟨v5, vs5, d5, ds5, p5, q5, rfl, rfl, rfl, h5, r5⟩ := trodAll_cons r4
  obtain ⟨v6, vs6, d6, ds6, p6, q6, rfl, rfl, rfl, h6, r6⟩ := trodAll_cons r5
  obtain ⟨v7, vs7, d7, ds7, p7, q7, rfl, rfl, rfl, h7, r7⟩ := trodAll_cons r6
  obtain ⟨v8, vs8, d8, ds8, p8, q8, rfl, rfl, rfl, h8, r8⟩ := trodAll_cons r7
  obtain ⟨v9, vs9, d9, ds9, p9, q9, rfl, rfl, rfl, h9, r9⟩ := trodAll_cons r8
  obtain ⟨rfl, rfl, rfl⟩ := trodAll_nil r9
  obtain rfl : args = #[v0, v1, v2, v3, v4, v5, v6, v7, v8, v9] := by cases args; simp_all
  obtain ⟨rfl, rfl⟩ := trodVars_none hV
  obtain ⟨a0, rfl, rfl, rfl, w0⟩ := open_float Try.underlying22 (hval 0 22 v0 rfl rfl) h0
  obtain ⟨a1, rfl, rfl, rfl, w1⟩ := open_float Try.underlying22 (hval 1 22 v1 rfl rfl) h1
  obtain ⟨a2, rfl, rfl, rfl, w2⟩ := open_float Try.underlying22 (hval 2 22 v2 rfl rfl) h2
  obtain ⟨a3, rfl, rfl, rfl, w3⟩ := open_float Try.underlying22 (hval 3 22 v3 rfl rfl) h3
  obtain ⟨a4, rfl, rfl, rfl, w4⟩ := open_float Try.underlying22 (hval 4 22 v4 rfl rfl) h4
  obtain ⟨a5, rfl, rfl, rfl, w5⟩ := open_float Try.underlying22 (hval 5 22 v5 rfl rfl) h5
  obtain ⟨a6, rfl, rfl, rfl, w6⟩ := open_float Try.underlying22 (hval 6 22 v6 rfl rfl) h6
  obtain ⟨a7, rfl, rfl, rfl, w7⟩ := open_int Try.underlying5 (hval 7 5 v7 rfl rfl) h7
  obtain ⟨a8, rfl, rfl, rfl, w8⟩ := open_int Try.underlying5 (hval 8 5 v8 rfl rfl) h8
  obtain ⟨a9, rfl, rfl, rfl, w9⟩ := open_int Try.underlying5 (hval 9 5 v9 rfl rfl) h9
  clear hA0 hval0
  refine (walk a0 a1 a2 a3 a4 a5 a6 a7 a8 a9 W w0 w1 w2 w3 w4 w5 w6 w7 w8 w9).mono fun e W' ⟨he, bel⟩ => ?_
  subst he
  exact ⟨_, rfl, _, _, _, [], _, [], hW', trodAll_mk1 (shut_bool Try.underlying4 _), (trodAll_cons_mk (shut_float Try.underlying22 w0) (trodAll_cons_mk (shut_float Try.underlying22 w1) (trodAll_cons_mk (shut_float Try.underlying22 w2) (trodAll_cons_mk (shut_float Try.underlying22 w3) (trodAll_cons_mk (shut_float Try.underlying22 w4) (trodAll_cons_mk (shut_float Try.underlying22 w5) (trodAll_cons_mk (shut_float Try.underlying22 w6) (trodAll_cons_mk (shut_int Try.underlying5 w7) (trodAll_cons_mk (shut_int Try.underlying5 w8) (trodAll_cons_mk (shut_int Try.underlying5 w9) trodAll_mk0)))))))))), rfl, bel.frame _, fun h => by cases h⟩

theorem q0 : (Rows.fnInterpolateColorsEndpointsAndMethodScopeRow.wf (OpenSpec.ofChange Rows.fnInterpolateColorsEndpointsAndMethodScopeSpec)) = true := by kernel_rfl
theorem q3 : (Try.f4.params.all (Try.pinned.checked.prog.readableRec ·)) = true := by kernel_rfl
theorem q4 : (namedTie Try.pinned.checked.prog Rows.fnInterpolateColorsEndpointsAndMethodScopeRow.named Rows.fnInterpolateColorsEndpointsAndMethodScopeSpec.vars) = true := by kernel_rfl
theorem q5 : ((Rows.fnInterpolateColorsEndpointsAndMethodScopeRow.stops == [])) = true := by kernel_rfl
theorem q7 : ((Rows.fnInterpolateColorsEndpointsAndMethodScopeRow.knobs == [])) = true := by kernel_rfl
theorem q9 : ((Rows.fnInterpolateColorsEndpointsAndMethodScopeRow.inPlace == Try.pinned.checked.prog.inPlace 4)) = true := by kernel_rfl
theorem q10 : ((Rows.fnInterpolateColorsEndpointsAndMethodScopeRow.unfollowed == Try.pinned.checked.prog.unfollowed 4)) = true := by kernel_rfl
theorem q11 : ((Rows.fnInterpolateColorsEndpointsAndMethodScopeRow.recurses == Try.pinned.checked.prog.recurses 4)) = true := by kernel_rfl
theorem q12 : ((Rows.fnInterpolateColorsEndpointsAndMethodScopeRow.named == Try.pinned.checked.prog.varsNamed 4)) = true := by kernel_rfl
theorem q13 : ((Rows.fnInterpolateColorsEndpointsAndMethodScopeRow.maps == (Try.f4.params.toList ++ Rows.fnInterpolateColorsEndpointsAndMethodScopeSpec.plain.varTypes Try.pinned.checked.prog).any (Try.pinned.checked.prog.mapsRec ·))) = true := by kernel_rfl
theorem q14 : ((Rows.fnInterpolateColorsEndpointsAndMethodScopeRow.ifaces == (Try.f4.params.toList ++ Rows.fnInterpolateColorsEndpointsAndMethodScopeSpec.plain.varTypes Try.pinned.checked.prog).any (Try.pinned.checked.prog.ifacesRec ·))) = true := by kernel_rfl
theorem q15 : ((Rows.fnInterpolateColorsEndpointsAndMethodScopeRow.mapsOut == Try.pinned.checked.prog.mapsAmong Try.f4.resultTypes.toList)) = true := by kernel_rfl
theorem q16 : ((Rows.fnInterpolateColorsEndpointsAndMethodScopeRow.loops == (Try.f4.params.toList ++ Rows.fnInterpolateColorsEndpointsAndMethodScopeSpec.plain.varTypes Try.pinned.checked.prog).any (Try.pinned.checked.prog.loopsFrom ·))) = true := by kernel_rfl
theorem q17 : ((Rows.fnInterpolateColorsEndpointsAndMethodScopeRow.wideKeys == (Try.f4.params.toList ++ Rows.fnInterpolateColorsEndpointsAndMethodScopeSpec.plain.varTypes Try.pinned.checked.prog ++ Try.f4.resultTypes.toList).any (Try.pinned.checked.prog.wideKeysFrom ·))) = true := by kernel_rfl
theorem q18 : (Rows.fnInterpolateColorsEndpointsAndMethodScopeSpec.vars.all (Try.pinned.checked.prog.varReadable ·)) = true := by kernel_rfl
theorem q19 : (Try.f4.resultTypes.all (fun t => Try.pinned.checked.prog.readableRec t && decide (t < Try.pinned.checked.prog.types.size))) = true := by kernel_rfl
theorem q20 : ((Rows.fnInterpolateColorsEndpointsAndMethodScopeRow.ifacesOut == Try.f4.resultTypes.toList.any (Try.pinned.checked.prog.ifacesRec ·))) = true := by kernel_rfl
theorem q21 : ((Rows.fnInterpolateColorsEndpointsAndMethodScopeRow.loopsOut == Try.f4.resultTypes.toList.any (Try.pinned.checked.prog.loopsFrom ·))) = true := by kernel_rfl
theorem q22 : ((Rows.fnInterpolateColorsEndpointsAndMethodScopeRow.plainKeys == Try.pinned.checked.prog.plainKeys)) = true := by kernel_rfl
theorem q23 : (Rows.fnInterpolateColorsEndpointsAndMethodScopeRow.shortTexts.isNone) = true := by kernel_rfl
theorem q26 : ((Rows.fnInterpolateColorsEndpointsAndMethodScopeRow.lifted == Try.pinned.checked.prog.liftsFinal)) = true := by rw [g26]; kernel_rfl
theorem q27 : ((Try.pinned.checked.prog.make == some Rows.fnInterpolateColorsEndpointsAndMethodScopeRow.make)) = true := by rw [g27]; kernel_rfl
theorem q28 : ((Rows.fnInterpolateColorsEndpointsAndMethodScopeRow.kinds == (if Rows.fnInterpolateColorsEndpointsAndMethodScopeRow.domain.isEmpty then [] else Try.f4.params.toList.map fun t => match Try.pinned.checked.prog.underlying t with | some (.int k) => some k | _ => none))) = true := by kernel_rfl
theorem q29 : ((Rows.fnInterpolateColorsEndpointsAndMethodScopeRow.pinned == Rows.fnInterpolateColorsEndpointsAndMethodScopeRow.pinnedBy)) = true := by kernel_rfl
theorem q30 : ((Rows.fnInterpolateColorsEndpointsAndMethodScopeRow.veiled == (Try.f4.params.toList ++ Rows.fnInterpolateColorsEndpointsAndMethodScopeSpec.plain.varTypes Try.pinned.checked.prog ++ Try.f4.resultTypes.toList).any (Try.pinned.checked.prog.veiledRec ·))) = true := by kernel_rfl
theorem q31 : (Rows.fnInterpolateColorsEndpointsAndMethodScopeRow.veiledFits Try.pinned.checked.prog Try.f4.params.toList (Try.f4.params.toList ++ Rows.fnInterpolateColorsEndpointsAndMethodScopeSpec.plain.varTypes Try.pinned.checked.prog ++ Try.f4.resultTypes.toList)) = true := by kernel_rfl
set_option maxRecDepth 100000 in
theorem closed : joinedFacts Try.pinned.checked.prog 4 Try.f4 Rows.fnInterpolateColorsEndpointsAndMethodScopeSpec Rows.fnInterpolateColorsEndpointsAndMethodScopeRow = true :=
  (andI (andI (andI (andI (andI (andI (andI (andI (andI (andI (andI (andI (andI (andI (andI (andI (andI (andI (andI (andI (andI (andI (andI (andI (andI (andI (andI (andI (andI (andI (andI q0 g1) g2) q3) q4) q5) g6) q7) g8) q9) q10) q11) q12) q13) q14) q15) q16) q17) q18) q19) q20) q21) q22) q23) g24) g25) q26) q27) q28) q29) q30) q31)
theorem over : Rows.fnInterpolateColorsEndpointsAndMethodScopeRow.holds Try.pinned (OpenSpec.ofChange Rows.fnInterpolateColorsEndpointsAndMethodScopeSpec) :=
  OpenClaim.holds_of_wide 4 Try.f4 rfl rfl rfl rfl rfl rfl rfl ⟨rfl, rfl, rfl, rfl, rfl⟩ rfl rfl rfl rfl rfl (by kernel_rfl) Try.func4 closed
    (of_decide_eq_true (by kernel_rfl)) (by unfold Func.isWrapper; first | (rw [if_pos (by decide +kernel)]; kernel_rfl) | (rw [if_neg (by decide +kernel)]; exact ⟨rfl, rfl⟩))
    (fun os started H enc _ => lifted os started H enc)

theorem proved : Rows.FnInterpolateColorsEndpointsAndMethodScopeSaid := over
#print axioms proved
end Go.Proofs.Ythhoalfilmlhaaa.fnInterpolateColorsEndpointsAndMethodScope
