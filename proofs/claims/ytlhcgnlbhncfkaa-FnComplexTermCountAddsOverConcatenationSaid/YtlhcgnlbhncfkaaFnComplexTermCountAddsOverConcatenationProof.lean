/-
  The law FnComplexTermCountAddsOverConcatenation holds at every input. Conditions: the statement's own.
-/
import Derived.Test.YtlhcgnlbhncfkaaIo
import Derived.WalkKit
import Derived.ProofKit
import Derived.OpenShut
import Derived.ShutString
import Derived.ChangeOld
import Derived.Below
import Derived.WalkLawsBesides
import Derived.Test.YtlhcgnlbhncfkaaCh
namespace Go.Proofs.Ytlhcgnlbhncfkaa.fnComplexTermCountAddsOverConcatenation
open Go.ChangeShapes Go.WideShapes Go.ChangeAt Go.RowKit
open Go.ChangeMaps (open_string shut_string)
set_option linter.unusedVariables false

theorem own : ownKnob Try.prog.godebug = none := by kernel_rfl
theorem laidOut : laidOutB Try.prog = true := by kernel_rfl

theorem walk (a0 : Option Addr) (len0 cap0 : Nat) (z0 : List Int) (a1 : Option Addr) (len1 cap1 : Nat) (z1 : List Int) (w : World) (w0 : IsRow .u8 w a0 len0 cap0 z0) (w1 : IsRow .u8 w a1 len1 cap1 z1) :
    Calls Try.prog 6 #[.slice a0 len0 cap0, .slice a1 len1 cap1] w fun e w' => e = .returned (.bool true) ∧ Below w.heap.size w w' := by
  exact walk6 a0 len0 cap0 z0 a1 len1 cap1 z1 w w0 w1

set_option maxRecDepth 100000 in
theorem lifted (os : Os) (started : os.Started) (H : Type) (enc : TypeId × Value → H) :
    ReturnsInHanded {} Try.checked os 6 .any (Rows.fnComplexTermCountAddsOverConcatenationSpec.pre6 enc Try.prog Try.f6 Rows.fnComplexTermCountAddsOverConcatenationRow.domain false) (Rows.fnComplexTermCountAddsOverConcatenationSpec.post enc Try.prog Try.f6 false true false false) := by
  refine returnsInHanded_of_change (C := Try.checked) own started (by kernel_rfl) Try.func6
    (ChangeSpec.witness6 (enc := enc) (C := Try.checked) false ⟨#[], #[.slice none 0 0, .slice none 0 0], []⟩ 8 (by kernel_rfl) (by kernel_rfl) (by kernel_rfl) (by kernel_rfl)) ?_
  intro W base args ds gs before hval0 hW hcnd _
  have hval : ∀ (j : Nat) t v, Try.f6.params[j]? = some t → args[j]? = some v → Value.okWide Try.prog W .any base t v := hval0
  have hW' := hW
  obtain ⟨p, q, hA0, hV, rfl, hfz, hnd⟩ := hW
  have hA : DataW.TrodAll enc Try.prog W 0 (fun _ => true) true Try.f6.params.toList args.toList ds p := hA0
  rw [Try.params6] at hA hval
  obtain ⟨v0, vs0, d0, ds0, p0, q0, hargs, rfl, rfl, h0, r0⟩ := trodAll_cons hA
  obtain ⟨v1, vs1, d1, ds1, p1, q1, rfl, rfl, rfl, h1, r1⟩ := trodAll_cons r0
  obtain ⟨rfl, rfl, rfl⟩ := trodAll_nil r1
  obtain rfl : args = #[v0, v1] := by cases args; simp_all
  obtain ⟨rfl, rfl⟩ := trodVars_none hV
  obtain ⟨a0, len0, cap0, rfl⟩ := okWide_slice Try.underlying22 (hval 0 22 v0 rfl rfl)
  have k0 := h0
  have lt0 : ∀ x ∈ p0, x.block < W.heap.size := by obtain ⟨m, hm⟩ := k0; exact DataW.trod_lt m _ _ _ hm
  obtain ⟨z0, w0⟩ : ∃ zs, IsRow .u8 W a0 len0 cap0 zs := by
    obtain ⟨fuel, hf⟩ := h0
    rcases open_ints Try.underlying22 Try.underlying5 (by kernel_rfl) hf with ⟨hcs, _⟩ | ⟨x, l, c, zs, hcs, _, hl, hm, hz, _, hcell, hwz⟩
    · simp [Value.cells] at hcs
      obtain ⟨rfl, rfl, rfl⟩ := hcs
      exact ⟨[], .inl ⟨rfl, rfl, rfl, rfl⟩⟩
    · simp [Value.cells] at hcs
      obtain ⟨rfl, rfl, rfl⟩ := hcs
      exact ⟨zs, .inr ⟨_, rfl, hl, hm, by simpa using hz, hcell, hwz⟩⟩
  obtain ⟨a1, len1, cap1, rfl⟩ := okWide_slice Try.underlying22 (hval 1 22 v1 rfl rfl)
  have k1 := h1
  have lt1 : ∀ x ∈ p1, x.block < W.heap.size := by obtain ⟨m, hm⟩ := k1; exact DataW.trod_lt m _ _ _ hm
  obtain ⟨z1, w1⟩ : ∃ zs, IsRow .u8 W a1 len1 cap1 zs := by
    obtain ⟨fuel, hf⟩ := h1
    rcases open_ints Try.underlying22 Try.underlying5 (by kernel_rfl) hf with ⟨hcs, _⟩ | ⟨x, l, c, zs, hcs, _, hl, hm, hz, _, hcell, hwz⟩
    · simp [Value.cells] at hcs
      obtain ⟨rfl, rfl, rfl⟩ := hcs
      exact ⟨[], .inl ⟨rfl, rfl, rfl, rfl⟩⟩
    · simp [Value.cells] at hcs
      obtain ⟨rfl, rfl, rfl⟩ := hcs
      exact ⟨zs, .inr ⟨_, rfl, hl, hm, by simpa using hz, hcell, hwz⟩⟩
  clear hA0 hval0
  refine (walk a0 len0 cap0 z0 a1 len1 cap1 z1 W w0 w1).mono fun e W' ⟨he, bel⟩ => ?_
  subst he
  exact ⟨_, rfl, _, _, _, [], _, [], hW', trodAll_mk1 (shut_bool Try.underlying4 _), (trodAll_cons_mk (Below.trod laidOut (by kernel_rfl) (of_decide_eq_true (by kernel_rfl)) k0 bel lt0) (trodAll_cons_mk (Below.trod laidOut (by kernel_rfl) (of_decide_eq_true (by kernel_rfl)) k1 bel lt1) trodAll_mk0)), rfl, bel.frame _, fun h => by cases h⟩

theorem q0 : (Rows.fnComplexTermCountAddsOverConcatenationRow.wf (OpenSpec.ofChange Rows.fnComplexTermCountAddsOverConcatenationSpec)) = true := by kernel_rfl
theorem q3 : (Try.f6.params.all (Try.pinned.checked.prog.readableRec ·)) = true := by kernel_rfl
theorem q4 : (namedTie Try.pinned.checked.prog Rows.fnComplexTermCountAddsOverConcatenationRow.named Rows.fnComplexTermCountAddsOverConcatenationSpec.vars) = true := by kernel_rfl
theorem q5 : ((Rows.fnComplexTermCountAddsOverConcatenationRow.stops == [])) = true := by kernel_rfl
theorem q7 : ((Rows.fnComplexTermCountAddsOverConcatenationRow.knobs == [])) = true := by kernel_rfl
theorem q9 : ((Rows.fnComplexTermCountAddsOverConcatenationRow.inPlace == Try.pinned.checked.prog.inPlace 6)) = true := by kernel_rfl
theorem q10 : ((Rows.fnComplexTermCountAddsOverConcatenationRow.unfollowed == Try.pinned.checked.prog.unfollowed 6)) = true := by kernel_rfl
theorem q11 : ((Rows.fnComplexTermCountAddsOverConcatenationRow.recurses == Try.pinned.checked.prog.recurses 6)) = true := by kernel_rfl
theorem q12 : ((Rows.fnComplexTermCountAddsOverConcatenationRow.named == Try.pinned.checked.prog.varsNamed 6)) = true := by kernel_rfl
theorem q13 : ((Rows.fnComplexTermCountAddsOverConcatenationRow.maps == (Try.f6.params.toList ++ Rows.fnComplexTermCountAddsOverConcatenationSpec.plain.varTypes Try.pinned.checked.prog).any (Try.pinned.checked.prog.mapsRec ·))) = true := by kernel_rfl
theorem q14 : ((Rows.fnComplexTermCountAddsOverConcatenationRow.ifaces == (Try.f6.params.toList ++ Rows.fnComplexTermCountAddsOverConcatenationSpec.plain.varTypes Try.pinned.checked.prog).any (Try.pinned.checked.prog.ifacesRec ·))) = true := by kernel_rfl
theorem q15 : ((Rows.fnComplexTermCountAddsOverConcatenationRow.mapsOut == Try.pinned.checked.prog.mapsAmong Try.f6.resultTypes.toList)) = true := by kernel_rfl
theorem q16 : ((Rows.fnComplexTermCountAddsOverConcatenationRow.loops == (Try.f6.params.toList ++ Rows.fnComplexTermCountAddsOverConcatenationSpec.plain.varTypes Try.pinned.checked.prog).any (Try.pinned.checked.prog.loopsFrom ·))) = true := by kernel_rfl
theorem q17 : ((Rows.fnComplexTermCountAddsOverConcatenationRow.wideKeys == (Try.f6.params.toList ++ Rows.fnComplexTermCountAddsOverConcatenationSpec.plain.varTypes Try.pinned.checked.prog ++ Try.f6.resultTypes.toList).any (Try.pinned.checked.prog.wideKeysFrom ·))) = true := by kernel_rfl
theorem q18 : (Rows.fnComplexTermCountAddsOverConcatenationSpec.vars.all (Try.pinned.checked.prog.varReadable ·)) = true := by kernel_rfl
theorem q19 : (Try.f6.resultTypes.all (fun t => Try.pinned.checked.prog.readableRec t && decide (t < Try.pinned.checked.prog.types.size))) = true := by kernel_rfl
theorem q20 : ((Rows.fnComplexTermCountAddsOverConcatenationRow.ifacesOut == Try.f6.resultTypes.toList.any (Try.pinned.checked.prog.ifacesRec ·))) = true := by kernel_rfl
theorem q21 : ((Rows.fnComplexTermCountAddsOverConcatenationRow.loopsOut == Try.f6.resultTypes.toList.any (Try.pinned.checked.prog.loopsFrom ·))) = true := by kernel_rfl
theorem q22 : ((Rows.fnComplexTermCountAddsOverConcatenationRow.plainKeys == Try.pinned.checked.prog.plainKeys)) = true := by kernel_rfl
theorem q23 : (Rows.fnComplexTermCountAddsOverConcatenationRow.shortTexts.isNone) = true := by kernel_rfl
theorem q26 : ((Rows.fnComplexTermCountAddsOverConcatenationRow.lifted == Try.pinned.checked.prog.liftsFinal)) = true := by rw [g26]; kernel_rfl
theorem q27 : ((Try.pinned.checked.prog.make == some Rows.fnComplexTermCountAddsOverConcatenationRow.make)) = true := by rw [g27]; kernel_rfl
theorem q28 : ((Rows.fnComplexTermCountAddsOverConcatenationRow.kinds == (if Rows.fnComplexTermCountAddsOverConcatenationRow.domain.isEmpty then [] else Try.f6.params.toList.map fun t => match Try.pinned.checked.prog.underlying t with | some (.int k) => some k | _ => none))) = true := by kernel_rfl
theorem q29 : ((Rows.fnComplexTermCountAddsOverConcatenationRow.pinned == Rows.fnComplexTermCountAddsOverConcatenationRow.pinnedBy)) = true := by kernel_rfl
theorem q30 : ((Rows.fnComplexTermCountAddsOverConcatenationRow.veiled == (Try.f6.params.toList ++ Rows.fnComplexTermCountAddsOverConcatenationSpec.plain.varTypes Try.pinned.checked.prog ++ Try.f6.resultTypes.toList).any (Try.pinned.checked.prog.veiledRec ·))) = true := by kernel_rfl
theorem q31 : (Rows.fnComplexTermCountAddsOverConcatenationRow.veiledFits Try.pinned.checked.prog Try.f6.params.toList (Try.f6.params.toList ++ Rows.fnComplexTermCountAddsOverConcatenationSpec.plain.varTypes Try.pinned.checked.prog ++ Try.f6.resultTypes.toList)) = true := by kernel_rfl
set_option maxRecDepth 100000 in
theorem closed : joinedFacts Try.pinned.checked.prog 6 Try.f6 Rows.fnComplexTermCountAddsOverConcatenationSpec Rows.fnComplexTermCountAddsOverConcatenationRow = true :=
  (andI (andI (andI (andI (andI (andI (andI (andI (andI (andI (andI (andI (andI (andI (andI (andI (andI (andI (andI (andI (andI (andI (andI (andI (andI (andI (andI (andI (andI (andI (andI q0 g1) g2) q3) q4) q5) g6) q7) g8) q9) q10) q11) q12) q13) q14) q15) q16) q17) q18) q19) q20) q21) q22) q23) g24) g25) q26) q27) q28) q29) q30) q31)
theorem over : Rows.fnComplexTermCountAddsOverConcatenationRow.holds Try.pinned (OpenSpec.ofChange Rows.fnComplexTermCountAddsOverConcatenationSpec) :=
  OpenClaim.holds_of_wide 6 Try.f6 rfl rfl rfl rfl rfl rfl rfl ⟨rfl, rfl, rfl, rfl, rfl⟩ rfl rfl rfl rfl rfl (by kernel_rfl) Try.func6 closed
    (of_decide_eq_true (by kernel_rfl)) (by unfold Func.isWrapper; first | (rw [if_pos (by decide +kernel)]; kernel_rfl) | (rw [if_neg (by decide +kernel)]; exact ⟨rfl, rfl⟩))
    (fun os started H enc _ => lifted os started H enc)

theorem proved : Rows.FnComplexTermCountAddsOverConcatenationSaid := over
#print axioms proved
end Go.Proofs.Ytlhcgnlbhncfkaa.fnComplexTermCountAddsOverConcatenation
