/-
  The compact quad is a lossless prefix: proof of the law FnCompactTokenQuadIsALosslessPrefix. No conditions.
-/
import Derived.Test.YtecdhjhobjagkaaIo
import Derived.WalkKit
import Derived.ProofKit
import Derived.OpenShut
import Derived.ShutString
import Derived.ChangeOld
import Derived.Below
import Derived.WalkLawsBesides
import Derived.Laws.IdiomArrays
import Derived.ChangeArms
import Derived.Test.YtecdhjhobjagkaaWg
namespace Go.Proofs.Ytecdhjhobjagkaa.fnCompactTokenQuadIsALosslessPrefix
open Go.ChangeShapes Go.WideShapes Go.ChangeAt Go.RowKit
open Go.ChangeMaps (open_string shut_string)
set_option linter.unusedVariables false

theorem own : ownKnob Try.prog.godebug = none := by kernel_rfl
theorem laidOut : laidOutB Try.prog = true := by kernel_rfl

theorem list4 (l : List Value) (h : l.length = 4) : ∃ a b c d, l = [a, b, c, d] := by
  match l, h with
  | [a, b, c, d], _ => exact ⟨a, b, c, d, rfl⟩
theorem cells29 : Try.prog.cellsOf 29 = 4 := by kernel_rfl
theorem cells30 : Try.prog.cellsOf 30 = 4 := by kernel_rfl
theorem cells32 : Try.prog.cellsOf 32 = 4 := by kernel_rfl
theorem cells5 : Try.prog.cellsOf 5 = 1 := by kernel_rfl
theorem cells9 : Try.prog.cellsOf 9 = 1 := by kernel_rfl
theorem cells31 : Try.prog.cellsOf 31 = 1 := by kernel_rfl

theorem walk (a0_0 a0_1 a0_2 a0_3 : Int) (a1_0 a1_1 a1_2 a1_3 : ByteArray) (a2_0 a2_1 a2_2 a2_3 : Int) (a3_0 a3_1 a3_2 a3_3 : Int) (a4 : Bool) (w : World) (w0_0 : (Lit.int .u8 a0_0).wf = true) (w0_1 : (Lit.int .u8 a0_1).wf = true) (w0_2 : (Lit.int .u8 a0_2).wf = true) (w0_3 : (Lit.int .u8 a0_3).wf = true) (w1_0 : a1_0.size ≤ maxLen) (w1_1 : a1_1.size ≤ maxLen) (w1_2 : a1_2.size ≤ maxLen) (w1_3 : a1_3.size ≤ maxLen) (w2_0 : (Lit.int .u32 a2_0).wf = true) (w2_1 : (Lit.int .u32 a2_1).wf = true) (w2_2 : (Lit.int .u32 a2_2).wf = true) (w2_3 : (Lit.int .u32 a2_3).wf = true) (w3_0 : (Lit.int .u8 a3_0).wf = true) (w3_1 : (Lit.int .u8 a3_1).wf = true) (w3_2 : (Lit.int .u8 a3_2).wf = true) (w3_3 : (Lit.int .u8 a3_3).wf = true) :
    Calls Try.prog 7 #[.agg #[.int .u8 a0_0, .int .u8 a0_1, .int .u8 a0_2, .int .u8 a0_3], .agg #[.string a1_0, .string a1_1, .string a1_2, .string a1_3], .agg #[.int .u32 a2_0, .int .u32 a2_1, .int .u32 a2_2, .int .u32 a2_3], .agg #[.int .u8 a3_0, .int .u8 a3_1, .int .u8 a3_2, .int .u8 a3_3], .bool a4] w fun e w' => e = .returned (.bool true) ∧ Below w.heap.size w w' := by
  exact law7 ⟨a1_0, 0, a2_0, a0_0, a3_0⟩ ⟨a1_1, 1, a2_1, a0_1, a3_1⟩ ⟨a1_2, 2, a2_2, a0_2, a3_2⟩ ⟨a1_3, 3, a2_3, a0_3, a3_3⟩ a4 w rfl rfl rfl rfl w1_0 w1_1 w1_2 w1_3

set_option maxRecDepth 100000 in
theorem lifted (os : Os) (started : os.Started) (H : Type) (enc : TypeId × Value → H) :
    ReturnsInHanded {} Try.checked os 7 .any (Rows.fnCompactTokenQuadIsALosslessPrefixSpec.pre6 enc Try.prog Try.f7 Rows.fnCompactTokenQuadIsALosslessPrefixRow.domain false) (Rows.fnCompactTokenQuadIsALosslessPrefixSpec.post enc Try.prog Try.f7 false true false false) := by
  refine returnsInHanded_of_change (C := Try.checked) own started (by kernel_rfl) Try.func7
    (ChangeSpec.witness6 (enc := enc) (C := Try.checked) false ⟨#[], #[.agg #[.int .u8 0, .int .u8 0, .int .u8 0, .int .u8 0], .agg #[.string ByteArray.empty, .string ByteArray.empty, .string ByteArray.empty, .string ByteArray.empty], .agg #[.int .u32 0, .int .u32 0, .int .u32 0, .int .u32 0], .agg #[.int .u8 0, .int .u8 0, .int .u8 0, .int .u8 0], .bool false], []⟩ 8 (by kernel_rfl) (by kernel_rfl) (by kernel_rfl) (by kernel_rfl)) ?_
  intro W base args ds gs before hval0 hW hcnd _
  have hval : ∀ (j : Nat) t v, Try.f7.params[j]? = some t → args[j]? = some v → Value.okWide Try.prog W .any base t v := hval0
  have hW' := hW
  obtain ⟨p, q, hA0, hV, rfl, hfz, hnd⟩ := hW
  have hA : DataW.TrodAll enc Try.prog W 0 (fun _ => true) true Try.f7.params.toList args.toList ds p := hA0
  rw [Try.params7] at hA hval
  obtain ⟨v0, vs0, d0, ds0, p0, q0, hargs, rfl, rfl, h0, r0⟩ := trodAll_cons hA
  obtain ⟨v1, vs1, d1, ds1, p1, q1, rfl, rfl, rfl, h1, r1⟩ := trodAll_cons r0
  obtain ⟨v2, vs2, d2, ds2, p2, q2, rfl, rfl, rfl, h2, r2⟩ := trodAll_cons r1
  obtain ⟨v3, vs3, d3, ds3, p3, q3, rfl, rfl, rfl, h3, r3⟩ := trodAll_cons r2
  obtain ⟨v4, vs4, d4, ds4, p4, q4, rfl, rfl, rfl, h4, r4⟩ := trodAll_cons r3
  obtain ⟨rfl, rfl, rfl⟩ := trodAll_nil r4
  obtain rfl : args = #[v0, v1, v2, v3, v4] := by cases args; simp_all
  obtain ⟨rfl, rfl⟩ := trodVars_none hV
  have k0 := h0
  have lt0 : ∀ x ∈ p0, x.block < W.heap.size := by obtain ⟨m, hm⟩ := k0; exact DataW.trod_lt m _ _ _ hm
  obtain ⟨cs0, rfl, hsz0, _⟩ : ∃ cs, v0 = .agg cs ∧ cs.size = Try.prog.cellsOf 29 ∧ Row.okWide Try.prog W .any base 29 cs := by
    have := hval 0 29 v0 rfl rfl
    simpa [Value.okWide, Try.underlying29] using this
  rw [cells29] at hsz0
  obtain ⟨l0⟩ := cs0
  obtain ⟨c0_0, c0_1, c0_2, c0_3, rfl⟩ := list4 l0 hsz0
  obtain ⟨fuel0, hf0⟩ := h0
  obtain ⟨y0_0, y0_1, y0_2, y0_3, m0, hx0, hy0_0, hy0_1, hy0_2, hy0_3⟩ := trod_array4 Try.underlying29 cells5 hf0
  obtain ⟨a0_0, e0_0, _, w0_0⟩ := DataW.trod_int Try.underlying5 hy0_0
  simp only [List.cons.injEq, and_true] at e0_0
  subst e0_0
  obtain ⟨a0_1, e0_1, _, w0_1⟩ := DataW.trod_int Try.underlying5 hy0_1
  simp only [List.cons.injEq, and_true] at e0_1
  subst e0_1
  obtain ⟨a0_2, e0_2, _, w0_2⟩ := DataW.trod_int Try.underlying5 hy0_2
  simp only [List.cons.injEq, and_true] at e0_2
  subst e0_2
  obtain ⟨a0_3, e0_3, _, w0_3⟩ := DataW.trod_int Try.underlying5 hy0_3
  simp only [List.cons.injEq, and_true] at e0_3
  subst e0_3
  clear hx0 hy0_0 hy0_1 hy0_2 hy0_3 hf0 hsz0
  have k1 := h1
  have lt1 : ∀ x ∈ p1, x.block < W.heap.size := by obtain ⟨m, hm⟩ := k1; exact DataW.trod_lt m _ _ _ hm
  obtain ⟨cs1, rfl, hsz1, _⟩ : ∃ cs, v1 = .agg cs ∧ cs.size = Try.prog.cellsOf 30 ∧ Row.okWide Try.prog W .any base 30 cs := by
    have := hval 1 30 v1 rfl rfl
    simpa [Value.okWide, Try.underlying30] using this
  rw [cells30] at hsz1
  obtain ⟨l1⟩ := cs1
  obtain ⟨c1_0, c1_1, c1_2, c1_3, rfl⟩ := list4 l1 hsz1
  obtain ⟨fuel1, hf1⟩ := h1
  obtain ⟨y1_0, y1_1, y1_2, y1_3, m1, hx1, hy1_0, hy1_1, hy1_2, hy1_3⟩ := trod_array4 Try.underlying30 cells9 hf1
  obtain ⟨a1_0, e1_0, _, w1_0⟩ := DataW.trod_string Try.underlying9 hy1_0
  simp only [List.cons.injEq, and_true] at e1_0
  subst e1_0
  obtain ⟨a1_1, e1_1, _, w1_1⟩ := DataW.trod_string Try.underlying9 hy1_1
  simp only [List.cons.injEq, and_true] at e1_1
  subst e1_1
  obtain ⟨a1_2, e1_2, _, w1_2⟩ := DataW.trod_string Try.underlying9 hy1_2
  simp only [List.cons.injEq, and_true] at e1_2
  subst e1_2
  obtain ⟨a1_3, e1_3, _, w1_3⟩ := DataW.trod_string Try.underlying9 hy1_3
  simp only [List.cons.injEq, and_true] at e1_3
  subst e1_3
  clear hx1 hy1_0 hy1_1 hy1_2 hy1_3 hf1 hsz1
  have k2 := h2
  have lt2 : ∀ x ∈ p2, x.block < W.heap.size := by obtain ⟨m, hm⟩ := k2; exact DataW.trod_lt m _ _ _ hm
  obtain ⟨cs2, rfl, hsz2, _⟩ : ∃ cs, v2 = .agg cs ∧ cs.size = Try.prog.cellsOf 32 ∧ Row.okWide Try.prog W .any base 32 cs := by
    have := hval 2 32 v2 rfl rfl
    simpa [Value.okWide, Try.underlying32] using this
  rw [cells32] at hsz2
  obtain ⟨l2⟩ := cs2
  obtain ⟨c2_0, c2_1, c2_2, c2_3, rfl⟩ := list4 l2 hsz2
  obtain ⟨fuel2, hf2⟩ := h2
  obtain ⟨y2_0, y2_1, y2_2, y2_3, m2, hx2, hy2_0, hy2_1, hy2_2, hy2_3⟩ := trod_array4 Try.underlying32 cells31 hf2
  obtain ⟨a2_0, e2_0, _, w2_0⟩ := DataW.trod_int Try.underlying31 hy2_0
  simp only [List.cons.injEq, and_true] at e2_0
  subst e2_0
  obtain ⟨a2_1, e2_1, _, w2_1⟩ := DataW.trod_int Try.underlying31 hy2_1
  simp only [List.cons.injEq, and_true] at e2_1
  subst e2_1
  obtain ⟨a2_2, e2_2, _, w2_2⟩ := DataW.trod_int Try.underlying31 hy2_2
  simp only [List.cons.injEq, and_true] at e2_2
  subst e2_2
  obtain ⟨a2_3, e2_3, _, w2_3⟩ := DataW.trod_int Try.underlying31 hy2_3
  simp only [List.cons.injEq, and_true] at e2_3
  subst e2_3
  clear hx2 hy2_0 hy2_1 hy2_2 hy2_3 hf2 hsz2
  have k3 := h3
  have lt3 : ∀ x ∈ p3, x.block < W.heap.size := by obtain ⟨m, hm⟩ := k3; exact DataW.trod_lt m _ _ _ hm
  obtain ⟨cs3, rfl, hsz3, _⟩ : ∃ cs, v3 = .agg cs ∧ cs.size = Try.prog.cellsOf 29 ∧ Row.okWide Try.prog W .any base 29 cs := by
    have := hval 3 29 v3 rfl rfl
    simpa [Value.okWide, Try.underlying29] using this
  rw [cells29] at hsz3
  obtain ⟨l3⟩ := cs3
  obtain ⟨c3_0, c3_1, c3_2, c3_3, rfl⟩ := list4 l3 hsz3
  obtain ⟨fuel3, hf3⟩ := h3
  obtain ⟨y3_0, y3_1, y3_2, y3_3, m3, hx3, hy3_0, hy3_1, hy3_2, hy3_3⟩ := trod_array4 Try.underlying29 cells5 hf3
  obtain ⟨a3_0, e3_0, _, w3_0⟩ := DataW.trod_int Try.underlying5 hy3_0
  simp only [List.cons.injEq, and_true] at e3_0
  subst e3_0
  obtain ⟨a3_1, e3_1, _, w3_1⟩ := DataW.trod_int Try.underlying5 hy3_1
  simp only [List.cons.injEq, and_true] at e3_1
  subst e3_1
  obtain ⟨a3_2, e3_2, _, w3_2⟩ := DataW.trod_int Try.underlying5 hy3_2
  simp only [List.cons.injEq, and_true] at e3_2
  subst e3_2
  obtain ⟨a3_3, e3_3, _, w3_3⟩ := DataW.trod_int Try.underlying5 hy3_3
  simp only [List.cons.injEq, and_true] at e3_3
  subst e3_3
  clear hx3 hy3_0 hy3_1 hy3_2 hy3_3 hf3 hsz3
  obtain ⟨a4, rfl, rfl, rfl⟩ := open_bool Try.underlying4 (hval 4 4 v4 rfl rfl) h4
  clear hA0 hval0
  refine (walk a0_0 a0_1 a0_2 a0_3 a1_0 a1_1 a1_2 a1_3 a2_0 a2_1 a2_2 a2_3 a3_0 a3_1 a3_2 a3_3 a4 W w0_0 w0_1 w0_2 w0_3 w1_0 w1_1 w1_2 w1_3 w2_0 w2_1 w2_2 w2_3 w3_0 w3_1 w3_2 w3_3).mono fun e W' ⟨he, bel⟩ => ?_
  subst he
  exact ⟨_, rfl, _, _, _, [], _, [], hW', trodAll_mk1 (shut_bool Try.underlying4 _), (trodAll_cons_mk (Below.trod laidOut (by kernel_rfl) (of_decide_eq_true (by kernel_rfl)) k0 bel lt0) (trodAll_cons_mk (Below.trod laidOut (by kernel_rfl) (of_decide_eq_true (by kernel_rfl)) k1 bel lt1) (trodAll_cons_mk (Below.trod laidOut (by kernel_rfl) (of_decide_eq_true (by kernel_rfl)) k2 bel lt2) (trodAll_cons_mk (Below.trod laidOut (by kernel_rfl) (of_decide_eq_true (by kernel_rfl)) k3 bel lt3) (trodAll_cons_mk (shut_bool Try.underlying4 _) trodAll_mk0))))), rfl, bel.frame _, fun h => by cases h⟩

theorem q0 : (Rows.fnCompactTokenQuadIsALosslessPrefixRow.wf (OpenSpec.ofChange Rows.fnCompactTokenQuadIsALosslessPrefixSpec)) = true := by kernel_rfl
theorem q3 : (Try.f7.params.all (Try.pinned.checked.prog.readableRec ·)) = true := by kernel_rfl
theorem q4 : (namedTie Try.pinned.checked.prog Rows.fnCompactTokenQuadIsALosslessPrefixRow.named Rows.fnCompactTokenQuadIsALosslessPrefixSpec.vars) = true := by kernel_rfl
theorem q5 : ((Rows.fnCompactTokenQuadIsALosslessPrefixRow.stops == [])) = true := by kernel_rfl
theorem q7 : ((Rows.fnCompactTokenQuadIsALosslessPrefixRow.knobs == [])) = true := by kernel_rfl
theorem q9 : ((Rows.fnCompactTokenQuadIsALosslessPrefixRow.inPlace == Try.pinned.checked.prog.inPlace 7)) = true := by kernel_rfl
theorem q10 : ((Rows.fnCompactTokenQuadIsALosslessPrefixRow.unfollowed == Try.pinned.checked.prog.unfollowed 7)) = true := by kernel_rfl
theorem q11 : ((Rows.fnCompactTokenQuadIsALosslessPrefixRow.recurses == Try.pinned.checked.prog.recurses 7)) = true := by kernel_rfl
theorem q12 : ((Rows.fnCompactTokenQuadIsALosslessPrefixRow.named == Try.pinned.checked.prog.varsNamed 7)) = true := by kernel_rfl
theorem q13 : ((Rows.fnCompactTokenQuadIsALosslessPrefixRow.maps == (Try.f7.params.toList ++ Rows.fnCompactTokenQuadIsALosslessPrefixSpec.plain.varTypes Try.pinned.checked.prog).any (Try.pinned.checked.prog.mapsRec ·))) = true := by kernel_rfl
theorem q14 : ((Rows.fnCompactTokenQuadIsALosslessPrefixRow.ifaces == (Try.f7.params.toList ++ Rows.fnCompactTokenQuadIsALosslessPrefixSpec.plain.varTypes Try.pinned.checked.prog).any (Try.pinned.checked.prog.ifacesRec ·))) = true := by kernel_rfl
theorem q15 : ((Rows.fnCompactTokenQuadIsALosslessPrefixRow.mapsOut == Try.pinned.checked.prog.mapsAmong Try.f7.resultTypes.toList)) = true := by kernel_rfl
theorem q16 : ((Rows.fnCompactTokenQuadIsALosslessPrefixRow.loops == (Try.f7.params.toList ++ Rows.fnCompactTokenQuadIsALosslessPrefixSpec.plain.varTypes Try.pinned.checked.prog).any (Try.pinned.checked.prog.loopsFrom ·))) = true := by kernel_rfl
theorem q17 : ((Rows.fnCompactTokenQuadIsALosslessPrefixRow.wideKeys == (Try.f7.params.toList ++ Rows.fnCompactTokenQuadIsALosslessPrefixSpec.plain.varTypes Try.pinned.checked.prog ++ Try.f7.resultTypes.toList).any (Try.pinned.checked.prog.wideKeysFrom ·))) = true := by kernel_rfl
theorem q18 : (Rows.fnCompactTokenQuadIsALosslessPrefixSpec.vars.all (Try.pinned.checked.prog.varReadable ·)) = true := by kernel_rfl
theorem q19 : (Try.f7.resultTypes.all (fun t => Try.pinned.checked.prog.readableRec t && decide (t < Try.pinned.checked.prog.types.size))) = true := by kernel_rfl
theorem q20 : ((Rows.fnCompactTokenQuadIsALosslessPrefixRow.ifacesOut == Try.f7.resultTypes.toList.any (Try.pinned.checked.prog.ifacesRec ·))) = true := by kernel_rfl
theorem q21 : ((Rows.fnCompactTokenQuadIsALosslessPrefixRow.loopsOut == Try.f7.resultTypes.toList.any (Try.pinned.checked.prog.loopsFrom ·))) = true := by kernel_rfl
theorem q22 : ((Rows.fnCompactTokenQuadIsALosslessPrefixRow.plainKeys == Try.pinned.checked.prog.plainKeys)) = true := by kernel_rfl
theorem q23 : (Rows.fnCompactTokenQuadIsALosslessPrefixRow.shortTexts.isNone) = true := by kernel_rfl
theorem q26 : ((Rows.fnCompactTokenQuadIsALosslessPrefixRow.lifted == Try.pinned.checked.prog.liftsFinal)) = true := by rw [g26]; kernel_rfl
theorem q27 : ((Try.pinned.checked.prog.make == some Rows.fnCompactTokenQuadIsALosslessPrefixRow.make)) = true := by rw [g27]; kernel_rfl
theorem q28 : ((Rows.fnCompactTokenQuadIsALosslessPrefixRow.kinds == (if Rows.fnCompactTokenQuadIsALosslessPrefixRow.domain.isEmpty then [] else Try.f7.params.toList.map fun t => match Try.pinned.checked.prog.underlying t with | some (.int k) => some k | _ => none))) = true := by kernel_rfl
theorem q29 : ((Rows.fnCompactTokenQuadIsALosslessPrefixRow.pinned == Rows.fnCompactTokenQuadIsALosslessPrefixRow.pinnedBy)) = true := by kernel_rfl
theorem q30 : ((Rows.fnCompactTokenQuadIsALosslessPrefixRow.veiled == (Try.f7.params.toList ++ Rows.fnCompactTokenQuadIsALosslessPrefixSpec.plain.varTypes Try.pinned.checked.prog ++ Try.f7.resultTypes.toList).any (Try.pinned.checked.prog.veiledRec ·))) = true := by kernel_rfl
theorem q31 : (Rows.fnCompactTokenQuadIsALosslessPrefixRow.veiledFits Try.pinned.checked.prog Try.f7.params.toList (Try.f7.params.toList ++ Rows.fnCompactTokenQuadIsALosslessPrefixSpec.plain.varTypes Try.pinned.checked.prog ++ Try.f7.resultTypes.toList)) = true := by kernel_rfl
set_option maxRecDepth 100000 in
theorem closed : joinedFacts Try.pinned.checked.prog 7 Try.f7 Rows.fnCompactTokenQuadIsALosslessPrefixSpec Rows.fnCompactTokenQuadIsALosslessPrefixRow = true :=
  (andI (andI (andI (andI (andI (andI (andI (andI (andI (andI (andI (andI (andI (andI (andI (andI (andI (andI (andI (andI (andI (andI (andI (andI (andI (andI (andI (andI (andI (andI (andI q0 g1) g2) q3) q4) q5) g6) q7) g8) q9) q10) q11) q12) q13) q14) q15) q16) q17) q18) q19) q20) q21) q22) q23) g24) g25) q26) q27) q28) q29) q30) q31)
theorem over : Rows.fnCompactTokenQuadIsALosslessPrefixRow.holds Try.pinned (OpenSpec.ofChange Rows.fnCompactTokenQuadIsALosslessPrefixSpec) :=
  OpenClaim.holds_of_wide 7 Try.f7 rfl rfl rfl rfl rfl rfl rfl ⟨rfl, rfl, rfl, rfl, rfl⟩ rfl rfl rfl rfl rfl (by kernel_rfl) Try.func7 closed
    (of_decide_eq_true (by kernel_rfl)) (by unfold Func.isWrapper; first | (rw [if_pos (by decide +kernel)]; kernel_rfl) | (rw [if_neg (by decide +kernel)]; exact ⟨rfl, rfl⟩))
    (fun os started H enc _ => lifted os started H enc)

theorem proved : Rows.FnCompactTokenQuadIsALosslessPrefixSaid := over
#print axioms proved
end Go.Proofs.Ytecdhjhobjagkaa.fnCompactTokenQuadIsALosslessPrefix
