/-
  Converting a value term to a token clears the whitespace and keeps the rest; no flag of the term is looked at. No conditions.
-/
import Derived.Test.YtgkphknholechaaIo
import Derived.WalkKit
import Derived.ProofKit
import Derived.OpenShut
import Derived.ShutString
import Derived.ChangeOld
import Derived.Below
import Derived.WalkLawsBesides
import Derived.Test.YtgkphknholechaaWc
namespace Go.Proofs.Ytgkphknholechaa.fnCalcValueIdempotentAndFreeOfFlags
open Go.ChangeShapes Go.WideShapes Go.ChangeAt Go.RowKit
open Go.ChangeMaps (open_string shut_string)
set_option linter.unusedVariables false

theorem own : ownKnob Try.prog.godebug = none := by kernel_rfl
theorem laidOut : laidOutB Try.prog = true := by kernel_rfl

theorem bytes9 (k : Int) (t : ByteArray) (l s u p : Int) (c : Bool) (ct : ByteArray) (i1 i2 : Bool) (x1 x2 : Int) (w : World) (ht : t.size ≤ maxLen) (hc : ct.size ≤ maxLen) :
    Calls Try.prog 9 #[.int .u8 k, .string t, .int .i32 l, .int .u8 s, .int .u16 u, .int .u32 p, .bool c, .string ct, .bool i1, .bool i2, .int .u8 x1, .int .u8 x2] w fun e w' => e = .returned (.bool (decide (t.size + ct.size ≤ 1048576))) ∧ w' = w := by
  have hm : maxLen = 9223372036854775807 := by decide
  rw [hm] at ht hc
  by_cases h : t.size + ct.size ≤ 1048576
  · rw [decide_eq_true h]
    go_enter Try.func9, Try.ntmps9
    go_wp2
    go_ret
    exact ⟨rfl, rfl⟩
  · rw [decide_eq_false h]
    by_cases h1 : t.size ≤ 1048576
    · by_cases h2 : ct.size ≤ 1048576
      · go_enter Try.func9, Try.ntmps9
        go_wp2
        go_ret
        exact ⟨rfl, rfl⟩
      · go_enter Try.func9, Try.ntmps9
        go_wp2
        go_ret
        exact ⟨rfl, rfl⟩
    · go_enter Try.func9, Try.ntmps9
      go_wp2
      go_ret
      exact ⟨rfl, rfl⟩

theorem al {w0 w : World} (h : Below w0.heap.size w0 w) (o : Obj) : Below w0.heap.size w0 (w.alloc o) := h.alloc h.size o
theorem eq29n (q : Option Addr) (w : World) : (Op.equalIn 9999 29 (.pointer q) (.pointer q)).run Try.prog w = .ok true w := eq29 9998 q w
attribute [local go_sem] eq29n
set_option maxRecDepth 20000 in
set_option maxHeartbeats 8000000 in
theorem walk (a0 : Int) (a1 : ByteArray) (a2 : Int) (a3 : Int) (a4 : Int) (a5 : Int) (a6 : Bool) (a7 : ByteArray) (a8 : Bool) (a9 : Bool) (a10 : Int) (a11 : Int) (w : World) (w0 : (Lit.int .u8 a0).wf = true) (w1 : a1.size ≤ maxLen) (w2 : (Lit.int .i32 a2).wf = true) (w3 : (Lit.int .u8 a3).wf = true) (w4 : (Lit.int .u16 a4).wf = true) (w5 : (Lit.int .u32 a5).wf = true) (w7 : a7.size ≤ maxLen) (w10 : (Lit.int .u8 a10).wf = true) (w11 : (Lit.int .u8 a11).wf = true) :
    Calls Try.prog 4 #[.int .u8 a0, .string a1, .int .i32 a2, .int .u8 a3, .int .u16 a4, .int .u32 a5, .bool a6, .string a7, .bool a8, .bool a9, .int .u8 a10, .int .u8 a11] w fun e w' => e = .returned (.bool true) ∧ Below w.heap.size w w' := by
  by_cases hs : a1.size + a7.size ≤ 1048576
  rotate_left
  · have hb : decide (a1.size + a7.size ≤ 1048576) = false := decide_eq_false hs
    go_enter Try.func4, Try.ntmps4
    go_wp2_with fail
    refine (bytes9 _ _ _ _ _ _ _ _ _ _ _ _ _ w1 w7).mono ?_
    rintro e w' ⟨rfl, rfl⟩
    rw [hb]
    go_wp2_with fail
    go_ret
    exact ⟨rfl, Below.refl _ _⟩
  have hb : decide (a1.size + a7.size ≤ 1048576) = true := decide_eq_true hs
  by_cases h1 : a1.size ≤ 65536
  rotate_left
  · go_enter Try.func4, Try.ntmps4
    go_wp2_with fail
    refine (bytes9 _ _ _ _ _ _ _ _ _ _ _ _ _ w1 w7).mono ?_
    rintro e w' ⟨rfl, rfl⟩
    rw [hb]
    go_wp2_with fail
    go_ret
    exact ⟨rfl, Below.refl _ _⟩
  by_cases h7 : a7.size ≤ 65536
  rotate_left
  · go_enter Try.func4, Try.ntmps4
    go_wp2_with fail
    refine (bytes9 _ _ _ _ _ _ _ _ _ _ _ _ _ w1 w7).mono ?_
    rintro e w' ⟨rfl, rfl⟩
    rw [hb]
    go_wp2_with fail
    go_ret
    exact ⟨rfl, Below.refl _ _⟩
  go_enter Try.func4, Try.ntmps4
  go_wp2_with fail
  refine (bytes9 _ _ _ _ _ _ _ _ _ _ _ _ _ w1 w7).mono ?_
  rintro e w' ⟨rfl, rfl⟩
  rw [hb]
  clear hb
  go_wp2_with fail
  refine (make10 _ _ _ _ _ _ _ _ _).mono ?_
  rintro e wm ⟨q, rfl, hbm⟩
  have HB := Lib.hid hbm
  clear hbm
  go_wp2_with fail
  refine (new12 _ _ _ _ _ _ _ _ _).mono ?_
  rintro e w1' ⟨rfl, rfl⟩
  go_wp2_with fail
  refine (conv11 _ q a1 a2 a5 a4 a0 a3 _ _ ?_ ?_ ?_ ?_ ?_ ?_ ?_ ?_).mono ?_
  any_goals (simp [go_sem]; done)
  rintro e w2' ⟨rfl, rfl⟩
  go_wp2_with fail
  refine (new12 _ _ _ _ _ _ _ _ _).mono ?_
  rintro e w1' ⟨rfl, rfl⟩
  go_wp2_with fail
  refine (conv11 _ q a1 a2 a5 a4 a0 0 _ _ ?_ ?_ ?_ ?_ ?_ ?_ ?_ ?_).mono ?_
  any_goals (simp [go_sem]; done)
  rintro e w2' ⟨rfl, rfl⟩
  go_wp2_with fail
  refine (new12 _ _ _ _ _ _ _ _ _).mono ?_
  rintro e w1' ⟨rfl, rfl⟩
  go_wp2_with fail
  refine (conv11 _ q a1 a2 a5 a4 a0 a3 _ _ ?_ ?_ ?_ ?_ ?_ ?_ ?_ ?_).mono ?_
  any_goals (simp [go_sem]; done)
  rintro e w2' ⟨rfl, rfl⟩
  go_wp2_with fail
  go_ret
  refine ⟨rfl, ?_⟩
  repeat with_reducible apply al
  exact HB.out

set_option maxRecDepth 100000 in
theorem lifted (os : Os) (started : os.Started) (H : Type) (enc : TypeId × Value → H) :
    ReturnsInHanded {} Try.checked os 4 .any (Rows.fnCalcValueIdempotentAndFreeOfFlagsSpec.pre6 enc Try.prog Try.f4 Rows.fnCalcValueIdempotentAndFreeOfFlagsRow.domain false) (Rows.fnCalcValueIdempotentAndFreeOfFlagsSpec.post enc Try.prog Try.f4 false true false false) := by
  refine returnsInHanded_of_change (C := Try.checked) own started (by kernel_rfl) Try.func4
    (ChangeSpec.witness6 (enc := enc) (C := Try.checked) false ⟨#[], #[.int .u8 0, .string ByteArray.empty, .int .i32 0, .int .u8 0, .int .u16 0, .int .u32 0, .bool false, .string ByteArray.empty, .bool false, .bool false, .int .u8 0, .int .u8 0], []⟩ 8 (by kernel_rfl) (by kernel_rfl) (by kernel_rfl) (by kernel_rfl)) ?_
  intro W base args ds gs before hval0 hW hcnd _
  have hval : ∀ (j : Nat) t v, Try.f4.params[j]? = some t → args[j]? = some v → Value.okWide Try.prog W .any base t v := hval0
  have hW' := hW
  obtain ⟨p, q, hA0, hV, rfl, hfz, hnd⟩ := hW
  have hA : DataW.TrodAll enc Try.prog W 0 (fun _ => true) true Try.f4.params.toList args.toList ds p := hA0
  rw [Try.params4] at hA hval
  obtain ⟨v0, vs0, d0, ds0, p0, q0, hargs, rfl, rfl, h0, r0⟩ := trodAll_cons hA
  obtain ⟨v1, vs1, d1, ds1, p1, q1, rfl, rfl, rfl, h1, r1⟩ := trodAll_cons r0
  obtain ⟨v2, vs2, d2, ds2, p2, q2, rfl, rfl, rfl, h2, r2⟩ := trodAll_cons r1
  obtain ⟨v3, vs3, d3, ds3, p3, q3, rfl, rfl, rfl, h3, r3⟩ := trodAll_cons r2
  obtain ⟨v4, vs4, d4, ds4, p4, q4, rfl, rfl, rfl, h4, r4⟩ := trodAll_cons r3
  obtain ⟨v5, vs5, d5, ds5, p5, q5, rfl, rfl, rfl, h5, r5⟩ := trodAll_cons r4
  obtain ⟨v6, vs6, d6, ds6, p6, q6, rfl, rfl, rfl, h6, r6⟩ := trodAll_cons r5
  obtain ⟨v7, vs7, d7, ds7, p7, q7, rfl, rfl, rfl, h7, r7⟩ := trodAll_cons r6
  obtain ⟨v8, vs8, d8, ds8, p8, q8, rfl, rfl, rfl, h8, r8⟩ := trodAll_cons r7
  obtain ⟨v9, vs9, d9, ds9, p9, q9, rfl, rfl, rfl, h9, r9⟩ := trodAll_cons r8
  obtain ⟨v10, vs10, d10, ds10, p10, q10, rfl, rfl, rfl, h10, r10⟩ := trodAll_cons r9
  obtain ⟨v11, vs11, d11, ds11, p11, q11, rfl, rfl, rfl, h11, r11⟩ := trodAll_cons r10
  obtain ⟨rfl, rfl, rfl⟩ := trodAll_nil r11
  obtain rfl : args = #[v0, v1, v2, v3, v4, v5, v6, v7, v8, v9, v10, v11] := by cases args; simp_all
  obtain ⟨rfl, rfl⟩ := trodVars_none hV
  obtain ⟨a0, rfl, rfl, rfl, w0⟩ := open_int Try.underlying5 (hval 0 5 v0 rfl rfl) h0
  obtain ⟨a1, rfl, rfl, rfl, w1⟩ := open_string Try.underlying9 (hval 1 9 v1 rfl rfl) h1
  obtain ⟨a2, rfl, rfl, rfl, w2⟩ := open_int Try.underlying21 (hval 2 21 v2 rfl rfl) h2
  obtain ⟨a3, rfl, rfl, rfl, w3⟩ := open_int Try.underlying5 (hval 3 5 v3 rfl rfl) h3
  obtain ⟨a4, rfl, rfl, rfl, w4⟩ := open_int Try.underlying26 (hval 4 26 v4 rfl rfl) h4
  obtain ⟨a5, rfl, rfl, rfl, w5⟩ := open_int Try.underlying27 (hval 5 27 v5 rfl rfl) h5
  obtain ⟨a6, rfl, rfl, rfl⟩ := open_bool Try.underlying4 (hval 6 4 v6 rfl rfl) h6
  obtain ⟨a7, rfl, rfl, rfl, w7⟩ := open_string Try.underlying9 (hval 7 9 v7 rfl rfl) h7
  obtain ⟨a8, rfl, rfl, rfl⟩ := open_bool Try.underlying4 (hval 8 4 v8 rfl rfl) h8
  obtain ⟨a9, rfl, rfl, rfl⟩ := open_bool Try.underlying4 (hval 9 4 v9 rfl rfl) h9
  obtain ⟨a10, rfl, rfl, rfl, w10⟩ := open_int Try.underlying5 (hval 10 5 v10 rfl rfl) h10
  obtain ⟨a11, rfl, rfl, rfl, w11⟩ := open_int Try.underlying5 (hval 11 5 v11 rfl rfl) h11
  clear hA0 hval0
  refine (walk a0 a1 a2 a3 a4 a5 a6 a7 a8 a9 a10 a11 W w0 w1 w2 w3 w4 w5 w7 w10 w11).mono fun e W' ⟨he, bel⟩ => ?_
  subst he
  exact ⟨_, rfl, _, _, _, [], _, [], hW', trodAll_mk1 (shut_bool Try.underlying4 _), (trodAll_cons_mk (shut_int Try.underlying5 w0) (trodAll_cons_mk (shut_string Try.underlying9 w1) (trodAll_cons_mk (shut_int Try.underlying21 w2) (trodAll_cons_mk (shut_int Try.underlying5 w3) (trodAll_cons_mk (shut_int Try.underlying26 w4) (trodAll_cons_mk (shut_int Try.underlying27 w5) (trodAll_cons_mk (shut_bool Try.underlying4 _) (trodAll_cons_mk (shut_string Try.underlying9 w7) (trodAll_cons_mk (shut_bool Try.underlying4 _) (trodAll_cons_mk (shut_bool Try.underlying4 _) (trodAll_cons_mk (shut_int Try.underlying5 w10) (trodAll_cons_mk (shut_int Try.underlying5 w11) trodAll_mk0)))))))))))), rfl, bel.frame _, fun h => by cases h⟩

theorem q0 : (Rows.fnCalcValueIdempotentAndFreeOfFlagsRow.wf (OpenSpec.ofChange Rows.fnCalcValueIdempotentAndFreeOfFlagsSpec)) = true := by kernel_rfl
theorem q3 : (Try.f4.params.all (Try.pinned.checked.prog.readableRec ·)) = true := by kernel_rfl
theorem q4 : (namedTie Try.pinned.checked.prog Rows.fnCalcValueIdempotentAndFreeOfFlagsRow.named Rows.fnCalcValueIdempotentAndFreeOfFlagsSpec.vars) = true := by kernel_rfl
theorem q5 : ((Rows.fnCalcValueIdempotentAndFreeOfFlagsRow.stops == [])) = true := by kernel_rfl
theorem q7 : ((Rows.fnCalcValueIdempotentAndFreeOfFlagsRow.knobs == [])) = true := by kernel_rfl
theorem q9 : ((Rows.fnCalcValueIdempotentAndFreeOfFlagsRow.inPlace == Try.pinned.checked.prog.inPlace 4)) = true := by kernel_rfl
theorem q10 : ((Rows.fnCalcValueIdempotentAndFreeOfFlagsRow.unfollowed == Try.pinned.checked.prog.unfollowed 4)) = true := by kernel_rfl
theorem q11 : ((Rows.fnCalcValueIdempotentAndFreeOfFlagsRow.recurses == Try.pinned.checked.prog.recurses 4)) = true := by kernel_rfl
theorem q12 : ((Rows.fnCalcValueIdempotentAndFreeOfFlagsRow.named == Try.pinned.checked.prog.varsNamed 4)) = true := by kernel_rfl
theorem q13 : ((Rows.fnCalcValueIdempotentAndFreeOfFlagsRow.maps == (Try.f4.params.toList ++ Rows.fnCalcValueIdempotentAndFreeOfFlagsSpec.plain.varTypes Try.pinned.checked.prog).any (Try.pinned.checked.prog.mapsRec ·))) = true := by kernel_rfl
theorem q14 : ((Rows.fnCalcValueIdempotentAndFreeOfFlagsRow.ifaces == (Try.f4.params.toList ++ Rows.fnCalcValueIdempotentAndFreeOfFlagsSpec.plain.varTypes Try.pinned.checked.prog).any (Try.pinned.checked.prog.ifacesRec ·))) = true := by kernel_rfl
theorem q15 : ((Rows.fnCalcValueIdempotentAndFreeOfFlagsRow.mapsOut == Try.pinned.checked.prog.mapsAmong Try.f4.resultTypes.toList)) = true := by kernel_rfl
theorem q16 : ((Rows.fnCalcValueIdempotentAndFreeOfFlagsRow.loops == (Try.f4.params.toList ++ Rows.fnCalcValueIdempotentAndFreeOfFlagsSpec.plain.varTypes Try.pinned.checked.prog).any (Try.pinned.checked.prog.loopsFrom ·))) = true := by kernel_rfl
theorem q17 : ((Rows.fnCalcValueIdempotentAndFreeOfFlagsRow.wideKeys == (Try.f4.params.toList ++ Rows.fnCalcValueIdempotentAndFreeOfFlagsSpec.plain.varTypes Try.pinned.checked.prog ++ Try.f4.resultTypes.toList).any (Try.pinned.checked.prog.wideKeysFrom ·))) = true := by kernel_rfl
theorem q18 : (Rows.fnCalcValueIdempotentAndFreeOfFlagsSpec.vars.all (Try.pinned.checked.prog.varReadable ·)) = true := by kernel_rfl
theorem q19 : (Try.f4.resultTypes.all (fun t => Try.pinned.checked.prog.readableRec t && decide (t < Try.pinned.checked.prog.types.size))) = true := by kernel_rfl
theorem q20 : ((Rows.fnCalcValueIdempotentAndFreeOfFlagsRow.ifacesOut == Try.f4.resultTypes.toList.any (Try.pinned.checked.prog.ifacesRec ·))) = true := by kernel_rfl
theorem q21 : ((Rows.fnCalcValueIdempotentAndFreeOfFlagsRow.loopsOut == Try.f4.resultTypes.toList.any (Try.pinned.checked.prog.loopsFrom ·))) = true := by kernel_rfl
theorem q22 : ((Rows.fnCalcValueIdempotentAndFreeOfFlagsRow.plainKeys == Try.pinned.checked.prog.plainKeys)) = true := by kernel_rfl
theorem q23 : (Rows.fnCalcValueIdempotentAndFreeOfFlagsRow.shortTexts.isNone) = true := by kernel_rfl
theorem q26 : ((Rows.fnCalcValueIdempotentAndFreeOfFlagsRow.lifted == Try.pinned.checked.prog.liftsFinal)) = true := by rw [g26]; kernel_rfl
theorem q27 : ((Try.pinned.checked.prog.make == some Rows.fnCalcValueIdempotentAndFreeOfFlagsRow.make)) = true := by rw [g27]; kernel_rfl
theorem q28 : ((Rows.fnCalcValueIdempotentAndFreeOfFlagsRow.kinds == (if Rows.fnCalcValueIdempotentAndFreeOfFlagsRow.domain.isEmpty then [] else Try.f4.params.toList.map fun t => match Try.pinned.checked.prog.underlying t with | some (.int k) => some k | _ => none))) = true := by kernel_rfl
theorem q29 : ((Rows.fnCalcValueIdempotentAndFreeOfFlagsRow.pinned == Rows.fnCalcValueIdempotentAndFreeOfFlagsRow.pinnedBy)) = true := by kernel_rfl
theorem q30 : ((Rows.fnCalcValueIdempotentAndFreeOfFlagsRow.veiled == (Try.f4.params.toList ++ Rows.fnCalcValueIdempotentAndFreeOfFlagsSpec.plain.varTypes Try.pinned.checked.prog ++ Try.f4.resultTypes.toList).any (Try.pinned.checked.prog.veiledRec ·))) = true := by kernel_rfl
theorem q31 : (Rows.fnCalcValueIdempotentAndFreeOfFlagsRow.veiledFits Try.pinned.checked.prog Try.f4.params.toList (Try.f4.params.toList ++ Rows.fnCalcValueIdempotentAndFreeOfFlagsSpec.plain.varTypes Try.pinned.checked.prog ++ Try.f4.resultTypes.toList)) = true := by kernel_rfl
set_option maxRecDepth 100000 in
theorem closed : joinedFacts Try.pinned.checked.prog 4 Try.f4 Rows.fnCalcValueIdempotentAndFreeOfFlagsSpec Rows.fnCalcValueIdempotentAndFreeOfFlagsRow = true :=
  (andI (andI (andI (andI (andI (andI (andI (andI (andI (andI (andI (andI (andI (andI (andI (andI (andI (andI (andI (andI (andI (andI (andI (andI (andI (andI (andI (andI (andI (andI (andI q0 g1) g2) q3) q4) q5) g6) q7) g8) q9) q10) q11) q12) q13) q14) q15) q16) q17) q18) q19) q20) q21) q22) q23) g24) g25) q26) q27) q28) q29) q30) q31)
theorem over : Rows.fnCalcValueIdempotentAndFreeOfFlagsRow.holds Try.pinned (OpenSpec.ofChange Rows.fnCalcValueIdempotentAndFreeOfFlagsSpec) :=
  OpenClaim.holds_of_wide 4 Try.f4 rfl rfl rfl rfl rfl rfl rfl ⟨rfl, rfl, rfl, rfl, rfl⟩ rfl rfl rfl rfl rfl (by kernel_rfl) Try.func4 closed
    (of_decide_eq_true (by kernel_rfl)) (by unfold Func.isWrapper; first | (rw [if_pos (by decide +kernel)]; kernel_rfl) | (rw [if_neg (by decide +kernel)]; exact ⟨rfl, rfl⟩))
    (fun os started H enc _ => lifted os started H enc)

theorem proved : Rows.FnCalcValueIdempotentAndFreeOfFlagsSaid := over
#print axioms proved
end Go.Proofs.Ytgkphknholechaa.fnCalcValueIdempotentAndFreeOfFlags
