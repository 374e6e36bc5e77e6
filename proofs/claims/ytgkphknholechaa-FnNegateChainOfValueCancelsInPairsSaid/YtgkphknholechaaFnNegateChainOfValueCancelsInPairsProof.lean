/-
  A chain of k nested negates round a value: the value under k mod 2 negates. No conditions.
-/
import Derived.Test.YtgkphknholechaaIo
import Derived.WalkKit
import Derived.ProofKit
import Derived.OpenShut
import Derived.ShutString
import Derived.ChangeOld
import Derived.Below
import Derived.WalkLawsBesides
import Derived.Test.YtgkphknholechaaWr
namespace Go.Proofs.Ytgkphknholechaa.fnNegateChainOfValueCancelsInPairs
open Go.ChangeShapes Go.WideShapes Go.ChangeAt Go.RowKit
open Go.ChangeMaps (open_string shut_string)
set_option linter.unusedVariables false

theorem own : ownKnob Try.prog.godebug = none := by kernel_rfl
theorem laidOut : laidOutB Try.prog = true := by kernel_rfl

theorem walk (a0 : Int) (w : World) (w0 : (Lit.int .i64 a0).wf = true) :
    Calls Try.prog 3 #[.int .i64 a0] w fun e w' => e = .returned (.bool true) ∧ Below w.heap.size w w' := by
  have hw := w0
  by_cases h0 : a0 < 0
  · go_enter Try.func3, Try.ntmps3
    go_wp2_with fail
    go_ret
    exact ⟨rfl, Below.refl _ _⟩
  by_cases h1 : 65536 < a0
  · go_enter Try.func3, Try.ntmps3
    go_wp2_with fail
    go_ret
    exact ⟨rfl, Below.refl _ _⟩
  obtain ⟨k, rfl⟩ : ∃ k : Nat, a0 = k := ⟨a0.toNat, by omega⟩
  have hk : k ≤ 65536 := by omega
  have K := Lib.hid (fun w => build_val k hk w)
  have e2 : ((k % 2 : Nat) : Int) = Int.tmod k 2 := rfl
  go_enter Try.func3, Try.ntmps3
  go_wp2_with fail
  refine (K.out _).mono ?_
  rintro e w' ⟨rfl, hb⟩
  have HB := Lib.hid hb
  clear hb
  rw [e2]
  go_wp2_with fail
  go_ret
  exact ⟨rfl, HB.out⟩

set_option maxRecDepth 100000 in
theorem lifted (os : Os) (started : os.Started) (H : Type) (enc : TypeId × Value → H) :
    ReturnsInHanded {} Try.checked os 3 .any (Rows.fnNegateChainOfValueCancelsInPairsSpec.pre6 enc Try.prog Try.f3 Rows.fnNegateChainOfValueCancelsInPairsRow.domain false) (Rows.fnNegateChainOfValueCancelsInPairsSpec.post enc Try.prog Try.f3 false true false false) := by
  refine returnsInHanded_of_change (C := Try.checked) own started (by kernel_rfl) Try.func3
    (ChangeSpec.witness6 (enc := enc) (C := Try.checked) false ⟨#[], #[.int .i64 0], []⟩ 8 (by kernel_rfl) (by kernel_rfl) (by kernel_rfl) (by kernel_rfl)) ?_
  intro W base args ds gs before hval0 hW hcnd _
  have hval : ∀ (j : Nat) t v, Try.f3.params[j]? = some t → args[j]? = some v → Value.okWide Try.prog W .any base t v := hval0
  have hW' := hW
  obtain ⟨p, q, hA0, hV, rfl, hfz, hnd⟩ := hW
  have hA : DataW.TrodAll enc Try.prog W 0 (fun _ => true) true Try.f3.params.toList args.toList ds p := hA0
  rw [Try.params3] at hA hval
  obtain ⟨v0, vs0, d0, ds0, p0, q0, hargs, rfl, rfl, h0, r0⟩ := trodAll_cons hA
  obtain ⟨rfl, rfl, rfl⟩ := trodAll_nil r0
  obtain rfl : args = #[v0] := by cases args; simp_all
  obtain ⟨rfl, rfl⟩ := trodVars_none hV
  obtain ⟨a0, rfl, rfl, rfl, w0⟩ := open_int Try.underlying3 (hval 0 3 v0 rfl rfl) h0
  clear hA0 hval0
  refine (walk a0 W w0).mono fun e W' ⟨he, bel⟩ => ?_
  subst he
  exact ⟨_, rfl, _, _, _, [], _, [], hW', trodAll_mk1 (shut_bool Try.underlying4 _), (trodAll_cons_mk (shut_int Try.underlying3 w0) trodAll_mk0), rfl, bel.frame _, fun h => by cases h⟩

theorem q0 : (Rows.fnNegateChainOfValueCancelsInPairsRow.wf (OpenSpec.ofChange Rows.fnNegateChainOfValueCancelsInPairsSpec)) = true := by kernel_rfl
theorem q3 : (Try.f3.params.all (Try.pinned.checked.prog.readableRec ·)) = true := by kernel_rfl
theorem q4 : (namedTie Try.pinned.checked.prog Rows.fnNegateChainOfValueCancelsInPairsRow.named Rows.fnNegateChainOfValueCancelsInPairsSpec.vars) = true := by kernel_rfl
theorem q5 : ((Rows.fnNegateChainOfValueCancelsInPairsRow.stops == [])) = true := by kernel_rfl
theorem q7 : ((Rows.fnNegateChainOfValueCancelsInPairsRow.knobs == [])) = true := by kernel_rfl
theorem q9 : ((Rows.fnNegateChainOfValueCancelsInPairsRow.inPlace == Try.pinned.checked.prog.inPlace 3)) = true := by kernel_rfl
theorem q10 : ((Rows.fnNegateChainOfValueCancelsInPairsRow.unfollowed == Try.pinned.checked.prog.unfollowed 3)) = true := by kernel_rfl
theorem q11 : ((Rows.fnNegateChainOfValueCancelsInPairsRow.recurses == Try.pinned.checked.prog.recurses 3)) = true := by kernel_rfl
theorem q12 : ((Rows.fnNegateChainOfValueCancelsInPairsRow.named == Try.pinned.checked.prog.varsNamed 3)) = true := by kernel_rfl
theorem q13 : ((Rows.fnNegateChainOfValueCancelsInPairsRow.maps == (Try.f3.params.toList ++ Rows.fnNegateChainOfValueCancelsInPairsSpec.plain.varTypes Try.pinned.checked.prog).any (Try.pinned.checked.prog.mapsRec ·))) = true := by kernel_rfl
theorem q14 : ((Rows.fnNegateChainOfValueCancelsInPairsRow.ifaces == (Try.f3.params.toList ++ Rows.fnNegateChainOfValueCancelsInPairsSpec.plain.varTypes Try.pinned.checked.prog).any (Try.pinned.checked.prog.ifacesRec ·))) = true := by kernel_rfl
theorem q15 : ((Rows.fnNegateChainOfValueCancelsInPairsRow.mapsOut == Try.pinned.checked.prog.mapsAmong Try.f3.resultTypes.toList)) = true := by kernel_rfl
theorem q16 : ((Rows.fnNegateChainOfValueCancelsInPairsRow.loops == (Try.f3.params.toList ++ Rows.fnNegateChainOfValueCancelsInPairsSpec.plain.varTypes Try.pinned.checked.prog).any (Try.pinned.checked.prog.loopsFrom ·))) = true := by kernel_rfl
theorem q17 : ((Rows.fnNegateChainOfValueCancelsInPairsRow.wideKeys == (Try.f3.params.toList ++ Rows.fnNegateChainOfValueCancelsInPairsSpec.plain.varTypes Try.pinned.checked.prog ++ Try.f3.resultTypes.toList).any (Try.pinned.checked.prog.wideKeysFrom ·))) = true := by kernel_rfl
theorem q18 : (Rows.fnNegateChainOfValueCancelsInPairsSpec.vars.all (Try.pinned.checked.prog.varReadable ·)) = true := by kernel_rfl
theorem q19 : (Try.f3.resultTypes.all (fun t => Try.pinned.checked.prog.readableRec t && decide (t < Try.pinned.checked.prog.types.size))) = true := by kernel_rfl
theorem q20 : ((Rows.fnNegateChainOfValueCancelsInPairsRow.ifacesOut == Try.f3.resultTypes.toList.any (Try.pinned.checked.prog.ifacesRec ·))) = true := by kernel_rfl
theorem q21 : ((Rows.fnNegateChainOfValueCancelsInPairsRow.loopsOut == Try.f3.resultTypes.toList.any (Try.pinned.checked.prog.loopsFrom ·))) = true := by kernel_rfl
theorem q22 : ((Rows.fnNegateChainOfValueCancelsInPairsRow.plainKeys == Try.pinned.checked.prog.plainKeys)) = true := by kernel_rfl
theorem q23 : (Rows.fnNegateChainOfValueCancelsInPairsRow.shortTexts.isNone) = true := by kernel_rfl
theorem q26 : ((Rows.fnNegateChainOfValueCancelsInPairsRow.lifted == Try.pinned.checked.prog.liftsFinal)) = true := by rw [g26]; kernel_rfl
theorem q27 : ((Try.pinned.checked.prog.make == some Rows.fnNegateChainOfValueCancelsInPairsRow.make)) = true := by rw [g27]; kernel_rfl
theorem q28 : ((Rows.fnNegateChainOfValueCancelsInPairsRow.kinds == (if Rows.fnNegateChainOfValueCancelsInPairsRow.domain.isEmpty then [] else Try.f3.params.toList.map fun t => match Try.pinned.checked.prog.underlying t with | some (.int k) => some k | _ => none))) = true := by kernel_rfl
theorem q29 : ((Rows.fnNegateChainOfValueCancelsInPairsRow.pinned == Rows.fnNegateChainOfValueCancelsInPairsRow.pinnedBy)) = true := by kernel_rfl
theorem q30 : ((Rows.fnNegateChainOfValueCancelsInPairsRow.veiled == (Try.f3.params.toList ++ Rows.fnNegateChainOfValueCancelsInPairsSpec.plain.varTypes Try.pinned.checked.prog ++ Try.f3.resultTypes.toList).any (Try.pinned.checked.prog.veiledRec ·))) = true := by kernel_rfl
theorem q31 : (Rows.fnNegateChainOfValueCancelsInPairsRow.veiledFits Try.pinned.checked.prog Try.f3.params.toList (Try.f3.params.toList ++ Rows.fnNegateChainOfValueCancelsInPairsSpec.plain.varTypes Try.pinned.checked.prog ++ Try.f3.resultTypes.toList)) = true := by kernel_rfl
set_option maxRecDepth 100000 in
theorem closed : joinedFacts Try.pinned.checked.prog 3 Try.f3 Rows.fnNegateChainOfValueCancelsInPairsSpec Rows.fnNegateChainOfValueCancelsInPairsRow = true :=
  (andI (andI (andI (andI (andI (andI (andI (andI (andI (andI (andI (andI (andI (andI (andI (andI (andI (andI (andI (andI (andI (andI (andI (andI (andI (andI (andI (andI (andI (andI (andI q0 g1) g2) q3) q4) q5) g6) q7) g8) q9) q10) q11) q12) q13) q14) q15) q16) q17) q18) q19) q20) q21) q22) q23) g24) g25) q26) q27) q28) q29) q30) q31)
theorem over : Rows.fnNegateChainOfValueCancelsInPairsRow.holds Try.pinned (OpenSpec.ofChange Rows.fnNegateChainOfValueCancelsInPairsSpec) :=
  OpenClaim.holds_of_wide 3 Try.f3 rfl rfl rfl rfl rfl rfl rfl ⟨rfl, rfl, rfl, rfl, rfl⟩ rfl rfl rfl rfl rfl (by kernel_rfl) Try.func3 closed
    (of_decide_eq_true (by kernel_rfl)) (by unfold Func.isWrapper; first | (rw [if_pos (by decide +kernel)]; kernel_rfl) | (rw [if_neg (by decide +kernel)]; exact ⟨rfl, rfl⟩))
    (fun os started H enc _ => lifted os started H enc)

theorem proved : Rows.FnNegateChainOfValueCancelsInPairsSaid := over
#print axioms proved
end Go.Proofs.Ytgkphknholechaa.fnNegateChainOfValueCancelsInPairs
