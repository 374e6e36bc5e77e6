/-
  A chain of k nested negates round a number: the number's own node, negated k times. No conditions.
-/
import Derived.Test.YtgkphknholechaaIo
import Derived.WalkKit
import Derived.ProofKit
import Derived.OpenShut
import Derived.ShutString
import Derived.ChangeOld
import Derived.Below
import Derived.WalkLawsBesides
import Derived.Test.YtgkphknholechaaWv
namespace Go.Proofs.Ytgkphknholechaa.fnNegateChainOfNumericFlipsSignByParity
open Go.ChangeShapes Go.WideShapes Go.ChangeAt Go.RowKit
open Go.ChangeMaps (open_string shut_string)
set_option linter.unusedVariables false

theorem own : ownKnob Try.prog.godebug = none := by kernel_rfl
theorem laidOut : laidOutB Try.prog = true := by kernel_rfl

theorem bytes15 (s : ByteArray) (x : Nat) (k : Int) (w : World) (hs : s.size ≤ maxLen) : Calls Try.prog 15 #[.string s, .float .f64 x, .int .i64 k] w fun e w' => e = .returned (.bool (decide (s.size ≤ 1048576))) ∧ w' = w := by
  have hm : maxLen = 9223372036854775807 := by decide
  rw [hm] at hs
  by_cases h : s.size ≤ 1048576
  · rw [decide_eq_true h]
    go_enter Try.func15, Try.ntmps15
    go_wp2
    go_ret
    exact ⟨rfl, rfl⟩
  · rw [decide_eq_false h]
    go_enter Try.func15, Try.ntmps15
    go_wp2
    go_ret
    exact ⟨rfl, rfl⟩

attribute [local go_sem] unary_neg_float
theorem walk (a0 : ByteArray) (a1 : Nat) (a2 : Int) (w : World) (w0 : a0.size ≤ maxLen) (w1 : (Lit.float .f64 a1).wf = true) (w2 : (Lit.int .i64 a2).wf = true) :
    Calls Try.prog 6 #[.string a0, .float .f64 a1, .int .i64 a2] w fun e w' => e = .returned (.bool true) ∧ Below w.heap.size w w' := by
  have hw := w2
  by_cases hs : a0.size ≤ 1048576
  rotate_left
  · have hb : decide (a0.size ≤ 1048576) = false := decide_eq_false hs
    go_enter Try.func6, Try.ntmps6
    go_wp2_with fail
    refine (bytes15 _ _ _ _ w0).mono ?_
    rintro e w' ⟨rfl, rfl⟩
    rw [hb]
    go_wp2_with fail
    go_ret
    exact ⟨rfl, Below.refl _ _⟩
  have hb : decide (a0.size ≤ 1048576) = true := decide_eq_true hs
  by_cases h0 : a2 < 0
  · go_enter Try.func6, Try.ntmps6
    go_wp2_with fail
    refine (bytes15 _ _ _ _ w0).mono ?_
    rintro e w' ⟨rfl, rfl⟩
    rw [hb]
    go_wp2_with fail
    go_ret
    exact ⟨rfl, Below.refl _ _⟩
  by_cases h1 : 65536 < a2
  · go_enter Try.func6, Try.ntmps6
    go_wp2_with fail
    refine (bytes15 _ _ _ _ w0).mono ?_
    rintro e w' ⟨rfl, rfl⟩
    rw [hb]
    go_wp2_with fail
    go_ret
    exact ⟨rfl, Below.refl _ _⟩
  obtain ⟨k, rfl⟩ : ∃ k : Nat, a2 = k := ⟨a2.toNat, by omega⟩
  have hk : k ≤ 65536 := by omega
  have K := Lib.hid (fun w => build_num a0 a1 k hk w)
  by_cases hp : k % 2 = 0
  · have ek : ((k : Int).tmod 2 == 1) = false := by
      have e2 : (k : Int).tmod 2 = ((k % 2 : Nat) : Int) := rfl
      rw [e2, hp]; rfl
    have ev : sg k a1 = a1 := by unfold sg; rw [if_pos hp]
    rw [ev] at K
    go_enter Try.func6, Try.ntmps6
    go_wp2_with fail
    refine (bytes15 _ _ _ _ w0).mono ?_
    rintro e w' ⟨rfl, rfl⟩
    rw [hb]
    go_wp2_with fail
    refine (K.out _).mono ?_
    rintro e w1 ⟨rfl, hb1⟩
    have HB := Lib.hid hb1
    clear hb1
    go_wp2_with fail
    refine (same16 _ _).mono ?_
    rintro e w2 ⟨rfl, hb2⟩
    have HC := Lib.hid hb2
    clear hb2
    go_wp2_with fail
    go_ret
    exact ⟨rfl, HB.out.trans (HC.out.mono HB.out.size)⟩
  · have ek : ((k : Int).tmod 2 == 1) = true := by
      have e2 : (k : Int).tmod 2 = ((k % 2 : Nat) : Int) := rfl
      have e3 : k % 2 = 1 := by omega
      rw [e2, e3]; rfl
    have ev : sg k a1 = a1 ^^^ 2 ^ 63 := by unfold sg; rw [if_neg hp]
    rw [ev] at K
    go_enter Try.func6, Try.ntmps6
    go_wp2_with fail
    refine (bytes15 _ _ _ _ w0).mono ?_
    rintro e w' ⟨rfl, rfl⟩
    rw [hb]
    go_wp2_with fail
    refine (K.out _).mono ?_
    rintro e w1 ⟨rfl, hb1⟩
    have HB := Lib.hid hb1
    clear hb1
    go_wp2_with fail
    refine (same16 _ _).mono ?_
    rintro e w2 ⟨rfl, hb2⟩
    have HC := Lib.hid hb2
    clear hb2
    go_wp2_with fail
    go_ret
    exact ⟨rfl, HB.out.trans (HC.out.mono HB.out.size)⟩

set_option maxRecDepth 100000 in
theorem lifted (os : Os) (started : os.Started) (H : Type) (enc : TypeId × Value → H) :
    ReturnsInHanded {} Try.checked os 6 .any (Rows.fnNegateChainOfNumericFlipsSignByParitySpec.pre6 enc Try.prog Try.f6 Rows.fnNegateChainOfNumericFlipsSignByParityRow.domain false) (Rows.fnNegateChainOfNumericFlipsSignByParitySpec.post enc Try.prog Try.f6 false true false false) := by
  refine returnsInHanded_of_change (C := Try.checked) own started (by kernel_rfl) Try.func6
    (ChangeSpec.witness6 (enc := enc) (C := Try.checked) false ⟨#[], #[.string ByteArray.empty, .float .f64 0, .int .i64 0], []⟩ 8 (by kernel_rfl) (by kernel_rfl) (by kernel_rfl) (by kernel_rfl)) ?_
  intro W base args ds gs before hval0 hW hcnd _
  have hval : ∀ (j : Nat) t v, Try.f6.params[j]? = some t → args[j]? = some v → Value.okWide Try.prog W .any base t v := hval0
  have hW' := hW
  obtain ⟨p, q, hA0, hV, rfl, hfz, hnd⟩ := hW
  have hA : DataW.TrodAll enc Try.prog W 0 (fun _ => true) true Try.f6.params.toList args.toList ds p := hA0
  rw [Try.params6] at hA hval
  obtain ⟨v0, vs0, d0, ds0, p0, q0, hargs, rfl, rfl, h0, r0⟩ := trodAll_cons hA
  obtain ⟨v1, vs1, d1, ds1, p1, q1, rfl, rfl, rfl, h1, r1⟩ := trodAll_cons r0
  obtain ⟨v2, vs2, d2, ds2, p2, q2, rfl, rfl, rfl, h2, r2⟩ := trodAll_cons r1
  obtain ⟨rfl, rfl, rfl⟩ := trodAll_nil r2
  obtain rfl : args = #[v0, v1, v2] := by cases args; simp_all
  obtain ⟨rfl, rfl⟩ := trodVars_none hV
  obtain ⟨a0, rfl, rfl, rfl, w0⟩ := open_string Try.underlying9 (hval 0 9 v0 rfl rfl) h0
  obtain ⟨a1, rfl, rfl, rfl, w1⟩ := open_float Try.underlying22 (hval 1 22 v1 rfl rfl) h1
  obtain ⟨a2, rfl, rfl, rfl, w2⟩ := open_int Try.underlying3 (hval 2 3 v2 rfl rfl) h2
  clear hA0 hval0
  refine (walk a0 a1 a2 W w0 w1 w2).mono fun e W' ⟨he, bel⟩ => ?_
  subst he
  exact ⟨_, rfl, _, _, _, [], _, [], hW', trodAll_mk1 (shut_bool Try.underlying4 _), (trodAll_cons_mk (shut_string Try.underlying9 w0) (trodAll_cons_mk (shut_float Try.underlying22 w1) (trodAll_cons_mk (shut_int Try.underlying3 w2) trodAll_mk0))), rfl, bel.frame _, fun h => by cases h⟩

theorem q0 : (Rows.fnNegateChainOfNumericFlipsSignByParityRow.wf (OpenSpec.ofChange Rows.fnNegateChainOfNumericFlipsSignByParitySpec)) = true := by kernel_rfl
theorem q3 : (Try.f6.params.all (Try.pinned.checked.prog.readableRec ·)) = true := by kernel_rfl
theorem q4 : (namedTie Try.pinned.checked.prog Rows.fnNegateChainOfNumericFlipsSignByParityRow.named Rows.fnNegateChainOfNumericFlipsSignByParitySpec.vars) = true := by kernel_rfl
theorem q5 : ((Rows.fnNegateChainOfNumericFlipsSignByParityRow.stops == [])) = true := by kernel_rfl
theorem q7 : ((Rows.fnNegateChainOfNumericFlipsSignByParityRow.knobs == [])) = true := by kernel_rfl
theorem q9 : ((Rows.fnNegateChainOfNumericFlipsSignByParityRow.inPlace == Try.pinned.checked.prog.inPlace 6)) = true := by kernel_rfl
theorem q10 : ((Rows.fnNegateChainOfNumericFlipsSignByParityRow.unfollowed == Try.pinned.checked.prog.unfollowed 6)) = true := by kernel_rfl
theorem q11 : ((Rows.fnNegateChainOfNumericFlipsSignByParityRow.recurses == Try.pinned.checked.prog.recurses 6)) = true := by kernel_rfl
theorem q12 : ((Rows.fnNegateChainOfNumericFlipsSignByParityRow.named == Try.pinned.checked.prog.varsNamed 6)) = true := by kernel_rfl
theorem q13 : ((Rows.fnNegateChainOfNumericFlipsSignByParityRow.maps == (Try.f6.params.toList ++ Rows.fnNegateChainOfNumericFlipsSignByParitySpec.plain.varTypes Try.pinned.checked.prog).any (Try.pinned.checked.prog.mapsRec ·))) = true := by kernel_rfl
theorem q14 : ((Rows.fnNegateChainOfNumericFlipsSignByParityRow.ifaces == (Try.f6.params.toList ++ Rows.fnNegateChainOfNumericFlipsSignByParitySpec.plain.varTypes Try.pinned.checked.prog).any (Try.pinned.checked.prog.ifacesRec ·))) = true := by kernel_rfl
theorem q15 : ((Rows.fnNegateChainOfNumericFlipsSignByParityRow.mapsOut == Try.pinned.checked.prog.mapsAmong Try.f6.resultTypes.toList)) = true := by kernel_rfl
theorem q16 : ((Rows.fnNegateChainOfNumericFlipsSignByParityRow.loops == (Try.f6.params.toList ++ Rows.fnNegateChainOfNumericFlipsSignByParitySpec.plain.varTypes Try.pinned.checked.prog).any (Try.pinned.checked.prog.loopsFrom ·))) = true := by kernel_rfl
theorem q17 : ((Rows.fnNegateChainOfNumericFlipsSignByParityRow.wideKeys == (Try.f6.params.toList ++ Rows.fnNegateChainOfNumericFlipsSignByParitySpec.plain.varTypes Try.pinned.checked.prog ++ Try.f6.resultTypes.toList).any (Try.pinned.checked.prog.wideKeysFrom ·))) = true := by kernel_rfl
theorem q18 : (Rows.fnNegateChainOfNumericFlipsSignByParitySpec.vars.all (Try.pinned.checked.prog.varReadable ·)) = true := by kernel_rfl
theorem q19 : (Try.f6.resultTypes.all (fun t => Try.pinned.checked.prog.readableRec t && decide (t < Try.pinned.checked.prog.types.size))) = true := by kernel_rfl
theorem q20 : ((Rows.fnNegateChainOfNumericFlipsSignByParityRow.ifacesOut == Try.f6.resultTypes.toList.any (Try.pinned.checked.prog.ifacesRec ·))) = true := by kernel_rfl
theorem q21 : ((Rows.fnNegateChainOfNumericFlipsSignByParityRow.loopsOut == Try.f6.resultTypes.toList.any (Try.pinned.checked.prog.loopsFrom ·))) = true := by kernel_rfl
theorem q22 : ((Rows.fnNegateChainOfNumericFlipsSignByParityRow.plainKeys == Try.pinned.checked.prog.plainKeys)) = true := by kernel_rfl
theorem q23 : (Rows.fnNegateChainOfNumericFlipsSignByParityRow.shortTexts.isNone) = true := by kernel_rfl
theorem q26 : ((Rows.fnNegateChainOfNumericFlipsSignByParityRow.lifted == Try.pinned.checked.prog.liftsFinal)) = true := by rw [g26]; kernel_rfl
theorem q27 : ((Try.pinned.checked.prog.make == some Rows.fnNegateChainOfNumericFlipsSignByParityRow.make)) = true := by rw [g27]; kernel_rfl
theorem q28 : ((Rows.fnNegateChainOfNumericFlipsSignByParityRow.kinds == (if Rows.fnNegateChainOfNumericFlipsSignByParityRow.domain.isEmpty then [] else Try.f6.params.toList.map fun t => match Try.pinned.checked.prog.underlying t with | some (.int k) => some k | _ => none))) = true := by kernel_rfl
theorem q29 : ((Rows.fnNegateChainOfNumericFlipsSignByParityRow.pinned == Rows.fnNegateChainOfNumericFlipsSignByParityRow.pinnedBy)) = true := by kernel_rfl
theorem q30 : ((Rows.fnNegateChainOfNumericFlipsSignByParityRow.veiled == (Try.f6.params.toList ++ Rows.fnNegateChainOfNumericFlipsSignByParitySpec.plain.varTypes Try.pinned.checked.prog ++ Try.f6.resultTypes.toList).any (Try.pinned.checked.prog.veiledRec ·))) = true := by kernel_rfl
theorem q31 : (Rows.fnNegateChainOfNumericFlipsSignByParityRow.veiledFits Try.pinned.checked.prog Try.f6.params.toList (Try.f6.params.toList ++ Rows.fnNegateChainOfNumericFlipsSignByParitySpec.plain.varTypes Try.pinned.checked.prog ++ Try.f6.resultTypes.toList)) = true := by kernel_rfl
set_option maxRecDepth 100000 in
theorem closed : joinedFacts Try.pinned.checked.prog 6 Try.f6 Rows.fnNegateChainOfNumericFlipsSignByParitySpec Rows.fnNegateChainOfNumericFlipsSignByParityRow = true :=
  (andI (andI (andI (andI (andI (andI (andI (andI (andI (andI (andI (andI (andI (andI (andI (andI (andI (andI (andI (andI (andI (andI (andI (andI (andI (andI (andI (andI (andI (andI (andI q0 g1) g2) q3) q4) q5) g6) q7) g8) q9) q10) q11) q12) q13) q14) q15) q16) q17) q18) q19) q20) q21) q22) q23) g24) g25) q26) q27) q28) q29) q30) q31)
theorem over : Rows.fnNegateChainOfNumericFlipsSignByParityRow.holds Try.pinned (OpenSpec.ofChange Rows.fnNegateChainOfNumericFlipsSignByParitySpec) :=
  OpenClaim.holds_of_wide 6 Try.f6 rfl rfl rfl rfl rfl rfl rfl ⟨rfl, rfl, rfl, rfl, rfl⟩ rfl rfl rfl rfl rfl (by kernel_rfl) Try.func6 closed
    (of_decide_eq_true (by kernel_rfl)) (by unfold Func.isWrapper; first | (rw [if_pos (by decide +kernel)]; kernel_rfl) | (rw [if_neg (by decide +kernel)]; exact ⟨rfl, rfl⟩))
    (fun os started H enc _ => lifted os started H enc)

theorem proved : Rows.FnNegateChainOfNumericFlipsSignByParitySaid := over
#print axioms proved
end Go.Proofs.Ytgkphknholechaa.fnNegateChainOfNumericFlipsSignByParity
