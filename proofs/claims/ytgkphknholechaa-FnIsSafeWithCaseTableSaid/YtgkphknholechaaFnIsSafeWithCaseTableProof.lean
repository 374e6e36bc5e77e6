/-
  Two unit-safety trackers in reachable states are safe with each other exactly when both are safe, or both carry one unsafe unit and it is the same. No conditions.
-/
import Derived.Test.YtgkphknholechaaIo
import Derived.WalkKit
import Derived.ProofKit
import Derived.OpenShut
import Derived.ShutString
import Derived.ChangeOld
import Derived.Below
import Derived.WalkLawsBesides
namespace Go.Proofs.Ytgkphknholechaa.fnIsSafeWithCaseTable
open Go.ChangeShapes Go.WideShapes Go.ChangeAt Go.RowKit
open Go.ChangeMaps (open_string shut_string)
set_option linter.unusedVariables false

theorem own : ownKnob Try.prog.godebug = none := by kernel_rfl
theorem laidOut : laidOutB Try.prog = true := by kernel_rfl


theorem bytes_yes (a0 : Int) (a1 : ByteArray) (a2 : Int) (a3 : ByteArray) (w : World) (h : a1.size + a3.size ≤ 1048576) :
    Calls Try.prog 13 #[.int .u8 a0, .string a1, .int .u8 a2, .string a3] w fun e w' => e = .returned (.bool true) ∧ w = w' := by
  go_enter Try.func13, Try.ntmps13
  go_wp2
  go_ret
  exact ⟨rfl, rfl⟩

theorem bytes_no (a0 : Int) (a1 : ByteArray) (a2 : Int) (a3 : ByteArray) (w : World) (w1 : a1.size ≤ maxLen) (w3 : a3.size ≤ maxLen) (h : 1048576 < a1.size + a3.size) :
    Calls Try.prog 13 #[.int .u8 a0, .string a1, .int .u8 a2, .string a3] w fun e w' => e = .returned (.bool false) ∧ w = w' := by
  unfold maxLen at w1 w3
  by_cases h1 : 1048576 < a1.size
  · go_enter Try.func13, Try.ntmps13
    go_wp2
    go_ret
    exact ⟨rfl, rfl⟩
  · by_cases h2 : 1048576 < a3.size
    · go_enter Try.func13, Try.ntmps13
      go_wp2
      go_ret
      exact ⟨rfl, rfl⟩
    · go_enter Try.func13, Try.ntmps13
      go_wp2
      go_ret
      exact ⟨rfl, rfl⟩

theorem cases3 (a : Int) (h0 : 0 ≤ a) (h : a ≤ 2) : a = 0 ∨ a = 1 ∨ a = 2 := by omega

set_option maxHeartbeats 1000000 in
theorem walk (a0 : Int) (a1 : ByteArray) (a2 : Int) (a3 : ByteArray) (w : World) (w0 : (Lit.int .u8 a0).wf = true) (w1 : a1.size ≤ maxLen) (w2 : (Lit.int .u8 a2).wf = true) (w3 : a3.size ≤ maxLen) :
    Calls Try.prog 5 #[.int .u8 a0, .string a1, .int .u8 a2, .string a3] w fun e w' => e = .returned (.bool true) ∧ Below w.heap.size w w' := by
  have hb0 := bounds_u8 w0
  have hb2 := bounds_u8 w2
  by_cases hs : a1.size + a3.size ≤ 1048576
  rotate_left
  · go_enter Try.func5, Try.ntmps5
    go_wp2_with (go_at_call 13; refine (bytes_no _ _ _ _ _ w1 w3 (by omega)).mono ?_; rintro e w' ⟨rfl, rfl⟩)
    go_ret
    exact ⟨rfl, Below.refl _ _⟩
  clear w1 w3
  by_cases g0 : 2 < a0
  · go_enter Try.func5, Try.ntmps5
    go_wp2_with (go_at_call 13; refine (bytes_yes _ _ _ _ _ hs).mono ?_; rintro e w' ⟨rfl, rfl⟩)
    go_ret
    exact ⟨rfl, Below.refl _ _⟩
  by_cases g2 : 2 < a2
  · go_enter Try.func5, Try.ntmps5
    go_wp2_with (go_at_call 13; refine (bytes_yes _ _ _ _ _ hs).mono ?_; rintro e w' ⟨rfl, rfl⟩)
    go_ret
    exact ⟨rfl, Below.refl _ _⟩
  rcases cases3 a0 hb0.1 (by omega) with rfl | rfl | rfl <;> rcases cases3 a2 hb2.1 (by omega) with rfl | rfl | rfl
  all_goals
    clear hb0 hb2 g0 g2 w0 w2
    go_enter Try.func5, Try.ntmps5
    go_wp2_with (first | (go_at_call 13; refine (bytes_yes _ _ _ _ _ hs).mono ?_; rintro e w' ⟨rfl, rfl⟩) | go_in)
    go_ret
    exact ⟨rfl, ((Below.refl _ _).alloc (Nat.le_refl _) _).alloc (by simp) _⟩

set_option maxRecDepth 100000 in
theorem lifted (os : Os) (started : os.Started) (H : Type) (enc : TypeId × Value → H) :
    ReturnsInHanded {} Try.checked os 5 .any (Rows.fnIsSafeWithCaseTableSpec.pre6 enc Try.prog Try.f5 Rows.fnIsSafeWithCaseTableRow.domain false) (Rows.fnIsSafeWithCaseTableSpec.post enc Try.prog Try.f5 false true false false) := by
  refine returnsInHanded_of_change (C := Try.checked) own started (by kernel_rfl) Try.func5
    (ChangeSpec.witness6 (enc := enc) (C := Try.checked) false ⟨#[], #[.int .u8 0, .string ByteArray.empty, .int .u8 0, .string ByteArray.empty], []⟩ 8 (by kernel_rfl) (by kernel_rfl) (by kernel_rfl) (by kernel_rfl)) ?_
  intro W base args ds gs before hval0 hW hcnd _
  have hval : ∀ (j : Nat) t v, Try.f5.params[j]? = some t → args[j]? = some v → Value.okWide Try.prog W .any base t v := hval0
  have hW' := hW
  obtain ⟨p, q, hA0, hV, rfl, hfz, hnd⟩ := hW
  have hA : DataW.TrodAll enc Try.prog W 0 (fun _ => true) true Try.f5.params.toList args.toList ds p := hA0
  rw [Try.params5] at hA hval
  obtain ⟨v0, vs0, d0, ds0, p0, q0, hargs, rfl, rfl, h0, r0⟩ := trodAll_cons hA
  obtain ⟨v1, vs1, d1, ds1, p1, q1, rfl, rfl, rfl, h1, r1⟩ := trodAll_cons r0
  obtain ⟨v2, vs2, d2, ds2, p2, q2, rfl, rfl, rfl, h2, r2⟩ := trodAll_cons r1
  obtain ⟨v3, vs3, d3, ds3, p3, q3, rfl, rfl, rfl, h3, r3⟩ := trodAll_cons r2
  obtain ⟨rfl, rfl, rfl⟩ := trodAll_nil r3
  obtain rfl : args = #[v0, v1, v2, v3] := by cases args; simp_all
  obtain ⟨rfl, rfl⟩ := trodVars_none hV
  obtain ⟨a0, rfl, rfl, rfl, w0⟩ := open_int Try.underlying5 (hval 0 5 v0 rfl rfl) h0
  obtain ⟨a1, rfl, rfl, rfl, w1⟩ := open_string Try.underlying9 (hval 1 9 v1 rfl rfl) h1
  obtain ⟨a2, rfl, rfl, rfl, w2⟩ := open_int Try.underlying5 (hval 2 5 v2 rfl rfl) h2
  obtain ⟨a3, rfl, rfl, rfl, w3⟩ := open_string Try.underlying9 (hval 3 9 v3 rfl rfl) h3
  clear hA0 hval0
  refine (walk a0 a1 a2 a3 W w0 w1 w2 w3).mono fun e W' ⟨he, bel⟩ => ?_
  subst he
  exact ⟨_, rfl, _, _, _, [], _, [], hW', trodAll_mk1 (shut_bool Try.underlying4 _), (trodAll_cons_mk (shut_int Try.underlying5 w0) (trodAll_cons_mk (shut_string Try.underlying9 w1) (trodAll_cons_mk (shut_int Try.underlying5 w2) (trodAll_cons_mk (shut_string Try.underlying9 w3) trodAll_mk0)))), rfl, bel.frame _, fun h => by cases h⟩

theorem q0 : (Rows.fnIsSafeWithCaseTableRow.wf (OpenSpec.ofChange Rows.fnIsSafeWithCaseTableSpec)) = true := by kernel_rfl
theorem q3 : (Try.f5.params.all (Try.pinned.checked.prog.readableRec ·)) = true := by kernel_rfl
theorem q4 : (namedTie Try.pinned.checked.prog Rows.fnIsSafeWithCaseTableRow.named Rows.fnIsSafeWithCaseTableSpec.vars) = true := by kernel_rfl
theorem q5 : ((Rows.fnIsSafeWithCaseTableRow.stops == [])) = true := by kernel_rfl
theorem q7 : ((Rows.fnIsSafeWithCaseTableRow.knobs == [])) = true := by kernel_rfl
theorem q9 : ((Rows.fnIsSafeWithCaseTableRow.inPlace == Try.pinned.checked.prog.inPlace 5)) = true := by kernel_rfl
theorem q10 : ((Rows.fnIsSafeWithCaseTableRow.unfollowed == Try.pinned.checked.prog.unfollowed 5)) = true := by kernel_rfl
theorem q11 : ((Rows.fnIsSafeWithCaseTableRow.recurses == Try.pinned.checked.prog.recurses 5)) = true := by kernel_rfl
theorem q12 : ((Rows.fnIsSafeWithCaseTableRow.named == Try.pinned.checked.prog.varsNamed 5)) = true := by kernel_rfl
theorem q13 : ((Rows.fnIsSafeWithCaseTableRow.maps == (Try.f5.params.toList ++ Rows.fnIsSafeWithCaseTableSpec.plain.varTypes Try.pinned.checked.prog).any (Try.pinned.checked.prog.mapsRec ·))) = true := by kernel_rfl
theorem q14 : ((Rows.fnIsSafeWithCaseTableRow.ifaces == (Try.f5.params.toList ++ Rows.fnIsSafeWithCaseTableSpec.plain.varTypes Try.pinned.checked.prog).any (Try.pinned.checked.prog.ifacesRec ·))) = true := by kernel_rfl
theorem q15 : ((Rows.fnIsSafeWithCaseTableRow.mapsOut == Try.pinned.checked.prog.mapsAmong Try.f5.resultTypes.toList)) = true := by kernel_rfl
theorem q16 : ((Rows.fnIsSafeWithCaseTableRow.loops == (Try.f5.params.toList ++ Rows.fnIsSafeWithCaseTableSpec.plain.varTypes Try.pinned.checked.prog).any (Try.pinned.checked.prog.loopsFrom ·))) = true := by kernel_rfl
theorem q17 : ((Rows.fnIsSafeWithCaseTableRow.wideKeys == (Try.f5.params.toList ++ Rows.fnIsSafeWithCaseTableSpec.plain.varTypes Try.pinned.checked.prog ++ Try.f5.resultTypes.toList).any (Try.pinned.checked.prog.wideKeysFrom ·))) = true := by kernel_rfl
theorem q18 : (Rows.fnIsSafeWithCaseTableSpec.vars.all (Try.pinned.checked.prog.varReadable ·)) = true := by kernel_rfl
theorem q19 : (Try.f5.resultTypes.all (fun t => Try.pinned.checked.prog.readableRec t && decide (t < Try.pinned.checked.prog.types.size))) = true := by kernel_rfl
theorem q20 : ((Rows.fnIsSafeWithCaseTableRow.ifacesOut == Try.f5.resultTypes.toList.any (Try.pinned.checked.prog.ifacesRec ·))) = true := by kernel_rfl
theorem q21 : ((Rows.fnIsSafeWithCaseTableRow.loopsOut == Try.f5.resultTypes.toList.any (Try.pinned.checked.prog.loopsFrom ·))) = true := by kernel_rfl
theorem q22 : ((Rows.fnIsSafeWithCaseTableRow.plainKeys == Try.pinned.checked.prog.plainKeys)) = true := by kernel_rfl
theorem q23 : (Rows.fnIsSafeWithCaseTableRow.shortTexts.isNone) = true := by kernel_rfl
theorem q26 : ((Rows.fnIsSafeWithCaseTableRow.lifted == Try.pinned.checked.prog.liftsFinal)) = true := by rw [g26]; kernel_rfl
theorem q27 : ((Try.pinned.checked.prog.make == some Rows.fnIsSafeWithCaseTableRow.make)) = true := by rw [g27]; kernel_rfl
theorem q28 : ((Rows.fnIsSafeWithCaseTableRow.kinds == (if Rows.fnIsSafeWithCaseTableRow.domain.isEmpty then [] else Try.f5.params.toList.map fun t => match Try.pinned.checked.prog.underlying t with | some (.int k) => some k | _ => none))) = true := by kernel_rfl
theorem q29 : ((Rows.fnIsSafeWithCaseTableRow.pinned == Rows.fnIsSafeWithCaseTableRow.pinnedBy)) = true := by kernel_rfl
theorem q30 : ((Rows.fnIsSafeWithCaseTableRow.veiled == (Try.f5.params.toList ++ Rows.fnIsSafeWithCaseTableSpec.plain.varTypes Try.pinned.checked.prog ++ Try.f5.resultTypes.toList).any (Try.pinned.checked.prog.veiledRec ·))) = true := by kernel_rfl
theorem q31 : (Rows.fnIsSafeWithCaseTableRow.veiledFits Try.pinned.checked.prog Try.f5.params.toList (Try.f5.params.toList ++ Rows.fnIsSafeWithCaseTableSpec.plain.varTypes Try.pinned.checked.prog ++ Try.f5.resultTypes.toList)) = true := by kernel_rfl
set_option maxRecDepth 100000 in
theorem closed : joinedFacts Try.pinned.checked.prog 5 Try.f5 Rows.fnIsSafeWithCaseTableSpec Rows.fnIsSafeWithCaseTableRow = true :=
  (andI (andI (andI (andI (andI (andI (andI (andI (andI (andI (andI (andI (andI (andI (andI (andI (andI (andI (andI (andI (andI (andI (andI (andI (andI (andI (andI (andI (andI (andI (andI q0 g1) g2) q3) q4) q5) g6) q7) g8) q9) q10) q11) q12) q13) q14) q15) q16) q17) q18) q19) q20) q21) q22) q23) g24) g25) q26) q27) q28) q29) q30) q31)
theorem over : Rows.fnIsSafeWithCaseTableRow.holds Try.pinned (OpenSpec.ofChange Rows.fnIsSafeWithCaseTableSpec) :=
  OpenClaim.holds_of_wide 5 Try.f5 rfl rfl rfl rfl rfl rfl rfl ⟨rfl, rfl, rfl, rfl, rfl⟩ rfl rfl rfl rfl rfl (by kernel_rfl) Try.func5 closed
    (of_decide_eq_true (by kernel_rfl)) (by unfold Func.isWrapper; first | (rw [if_pos (by decide +kernel)]; kernel_rfl) | (rw [if_neg (by decide +kernel)]; exact ⟨rfl, rfl⟩))
    (fun os started H enc _ => lifted os started H enc)

theorem proved : Rows.FnIsSafeWithCaseTableSaid := over
#print axioms proved
end Go.Proofs.Ytgkphknholechaa.fnIsSafeWithCaseTable
