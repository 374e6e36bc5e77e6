/-
  The top byte of a parsed hex text is the value of the first two of its last eight digits, padded with zeros. No conditions.
-/
import Derived.Test.YtnlohfbmknedhaaIo
import Derived.WalkKit
import Derived.ProofKit
import Derived.OpenShut
import Derived.ShutString
import Derived.ChangeOld
import Derived.Below
import Derived.WalkLawsBesides
import Derived.Test.YtnlohfbmknedhaaWa
namespace Go.Proofs.Ytnlohfbmknedhaa.fnHexRAgreesWithLeadingDigits
open Go.ChangeShapes Go.WideShapes Go.ChangeAt Go.RowKit
open Go.ChangeMaps (open_string shut_string)
set_option linter.unusedVariables false

theorem own : ownKnob Try.prog.godebug = none := by kernel_rfl
theorem laidOut : laidOutB Try.prog = true := by kernel_rfl

theorem bytes8 (s : ByteArray) (w : World) (hs : s.size ≤ maxLen) : Calls Try.prog 8 #[.string s] w fun e w' => e = .returned (.bool (decide (s.size ≤ 1048576))) ∧ w' = w := by
  unfold maxLen at hs
  by_cases h : s.size ≤ 1048576
  · rw [decide_eq_true h]
    go_enter Try.func8, Try.ntmps8
    go_wp2
    go_ret
    exact ⟨rfl, rfl⟩
  · rw [decide_eq_false h]
    go_enter Try.func8, Try.ntmps8
    go_wp2
    go_ret
    exact ⟨rfl, rfl⟩

theorem zz9_yes (s : ByteArray) (w : World) (ha : Hex.allHex s.data.toList) :
    Calls Try.prog 9 #[.string s] w fun e w' => e = .returned (.tuple #[.int .u32 ((Hex.F s.data.toList % 4294967296 : Nat) : Int), .bool true]) ∧ Below w.heap.size w w' := by
  have K := Lib.hid (parse_yes s w ha)
  clear ha
  go_enter Try.func9, Try.ntmps9
  go_wp2_with fail
  refine K.out.mono ?_
  rintro e w1 ⟨rfl, pos, rfl⟩
  clear K
  go_wp2_with fail
  go_ret2
  exact ⟨rfl, (Below.refl _ _).alloc (Nat.le_refl _) _⟩
theorem zz9_no (s : ByteArray) (w : World) (ha : ¬ Hex.allHex s.data.toList) :
    Calls Try.prog 9 #[.string s] w fun e w' => e = .returned (.tuple #[.int .u32 0, .bool false]) ∧ Below w.heap.size w w' := by
  have K := Lib.hid (parse_no s w ha)
  clear ha
  go_enter Try.func9, Try.ntmps9
  go_wp2_with fail
  refine K.out.mono ?_
  rintro e w1 ⟨rfl, pos, rfl⟩
  clear K
  go_wp2_with fail
  go_ret2
  exact ⟨rfl, (Below.refl _ _).alloc (Nat.le_refl _) _⟩

/-- a text whose digits have the value v, of at most eight digits -/
structure Pad (t : ByteArray) (v : Nat) : Prop where
  le : t.size ≤ 8
  hex : Hex.allHex t.data.toList
  val : Hex.F t.data.toList = v

theorem Pad.start {s : ByteArray} (h : Hex.allHex s.data.toList) (hs : ¬ 8 < s.size) : Pad s (Hex.F s.data.toList % 4294967296) :=
  ⟨by omega, h, (Hex.F_small _ (by simp; omega)).symm⟩
theorem Pad.cut {s : ByteArray} (h : Hex.allHex s.data.toList) (hs : 8 < s.size) : Pad (s.extract (s.size - 8) s.size) (Hex.F s.data.toList % 4294967296) := by
  have e : (s.extract (s.size - 8) s.size).data.toList = s.data.toList.drop (s.data.toList.length - 8) := by
    rw [ByteArray.data_extract, Array.toList_extract, List.extract_eq_take_drop]
    simp
    rw [List.take_of_length_le (by simp)]
  refine ⟨by simp [ByteArray.size_extract]; omega, ?_, ?_⟩
  · rw [e]; intro c hc; exact h c (List.mem_of_mem_drop hc)
  · rw [e]; exact Hex.F_drop _ (by simp; omega)
theorem Pad.zero {t : ByteArray} {v : Nat} (h : Pad t v) (hs : t.size < 8) : Pad (ByteArray.mk #[48] ++ t) v := by
  have e : (ByteArray.mk #[48] ++ t).data.toList = 48 :: t.data.toList := by simp [ByteArray.data_append]
  have h1 : (ByteArray.mk #[48] ++ t).size = t.size + 1 := by rw [ByteArray.size_append]; show 1 + t.size = _; omega
  refine ⟨by omega, ?_, ?_⟩
  · rw [e]; intro c hc
    rcases List.mem_cons.1 hc with rfl | h2
    · decide
    · exact h.hex c h2
  · rw [e, Hex.F_zero]; exact h.val
theorem size_zero (t : ByteArray) : (ByteArray.mk #[48] ++ t).size = t.size + 1 := by rw [ByteArray.size_append]; show 1 + t.size = _; omega
theorem Pad.top {t : ByteArray} {v : Nat} (h : Pad t v) (hs : t.size = 8) : Hex.allHex (t.extract 0 2).data.toList ∧ ((Hex.F (t.extract 0 2).data.toList % 4294967296 : Nat) : Int) = ((v : Nat) : Int) / 16777216 := by
  have e : (t.extract 0 2).data.toList = t.data.toList.take 2 := by
    rw [ByteArray.data_extract, Array.toList_extract, List.extract_eq_take_drop]
    simp
  rw [e]
  refine ⟨fun c hc => h.hex c (List.mem_of_mem_take hc), ?_⟩
  rw [Hex.F_small _ (by simp; omega), ← Hex.F_top _ (by simp; exact hs), h.val]
  simp

def strSize : Value → Nat
  | .string s => s.size
  | _ => 0

set_option maxRecDepth 20000 in
set_option maxHeartbeats 1000000 in
theorem walk (a0 : ByteArray) (w : World) (w0 : a0.size ≤ maxLen) :
    Calls Try.prog 3 #[.string a0] w fun e w' => e = .returned (.bool true) ∧ Below w.heap.size w w' := by
  have w0' := w0
  unfold maxLen at w0'
  by_cases hs : a0.size ≤ 1048576
  rotate_left
  · have hb : decide (a0.size ≤ 1048576) = false := decide_eq_false hs
    go_enter Try.func3, Try.ntmps3
    go_wp2_with fail
    refine (bytes8 _ _ w0).mono ?_
    rintro e w' ⟨rfl, rfl⟩
    rw [hb]
    go_wp2_with fail
    go_ret
    exact ⟨rfl, Below.refl _ _⟩
  have hb : decide (a0.size ≤ 1048576) = true := decide_eq_true hs
  by_cases ha : Hex.allHex a0.data.toList
  rotate_left
  · have K := Lib.hid (zz9_no a0 w ha)
    clear ha
    go_enter Try.func3, Try.ntmps3
    go_wp2_with fail
    refine (bytes8 _ _ w0).mono ?_
    rintro e w' ⟨rfl, hw⟩
    obtain rfl := hw.symm
    rw [hb]
    clear hb w0
    go_wp2_with fail
    refine K.out.mono ?_
    rintro e w1 ⟨rfl, hB⟩
    clear K
    go_wp2_with fail
    go_ret
    exact ⟨rfl, hB⟩
  have K := Lib.hid (zz9_yes a0 w ha)
  have HA := Lib.hid ha
  clear ha
  go_enter Try.func3, Try.ntmps3
  go_wp2_with fail
  refine (bytes8 _ _ w0).mono ?_
  rintro e w' ⟨rfl, hw⟩
  obtain rfl := hw.symm
  rw [hb]
  clear hb w0
  go_wp2_with fail
  refine K.out.mono ?_
  rintro e w1 ⟨rfl, hB⟩
  have HB := Lib.hid hB
  clear K hB
  have hv : 0 ≤ ((Hex.F a0.data.toList % 4294967296 : Nat) : Int) ∧ ((Hex.F a0.data.toList % 4294967296 : Nat) : Int) ≤ 4294967295 := by omega
  have P1 := Lib.hid (fun h => Pad.start HA.out h)
  have P2 := Lib.hid (fun h => Pad.cut HA.out h)
  clear HA
  generalize Hex.F a0.data.toList % 4294967296 = v at hv P1 P2 ⊢
  by_cases h8 : 8 < a0.size
  · have P := Lib.hid (P2.out h8)
    clear P1 P2
    go_wp2_with fail
    go_loop [5] (fun t => ∃ x : ByteArray, Hid (Pad x v) ∧ t = .string x) (fun t => 8 - strSize t)
    case atStart => exact ⟨_, P, rfl⟩
    case round =>
      obtain ⟨x, HP, rfl⟩ := hrel
      clear P
      have hle := HP.out.le
      by_cases hlt : x.size < 8
      · have HN := Lib.hid (HP.out.zero hlt)
        clear HP
        go_wp2_with fail
        go_round
        case rel => exact ⟨_, HN, rfl⟩
        case measure => simp only [strSize, size_zero]; omega
      · have ht := HP.out.top (by omega)
        have HT := Lib.hid ht.2
        have K2 := Lib.hid (zz9_yes (x.extract 0 2) w1 ht.1)
        clear ht HP
        go_wp2_with fail
        refine K2.out.mono ?_
        rintro e w2 ⟨rfl, hB2⟩
        have HB2 := Lib.hid hB2
        clear K2 hB2
        rw [HT.out]
        go_wp2_with (first | (go_at_call 34; refine (hexr34 _ _ hv.1 hv.2).mono ?_; rintro e w3 ⟨rfl, rfl⟩) | go_in)
        go_ret
        exact ⟨rfl, HB.out.trans (HB2.out.mono HB.out.size)⟩
  · have P := Lib.hid (P1.out h8)
    clear P1 P2
    go_wp2_with fail
    go_loop [5] (fun t => ∃ x : ByteArray, Hid (Pad x v) ∧ t = .string x) (fun t => 8 - strSize t)
    case atStart => exact ⟨_, P, rfl⟩
    case round =>
      obtain ⟨x, HP, rfl⟩ := hrel
      clear P
      have hle := HP.out.le
      by_cases hlt : x.size < 8
      · have HN := Lib.hid (HP.out.zero hlt)
        clear HP
        go_wp2_with fail
        go_round
        case rel => exact ⟨_, HN, rfl⟩
        case measure => simp only [strSize, size_zero]; omega
      · have ht := HP.out.top (by omega)
        have HT := Lib.hid ht.2
        have K2 := Lib.hid (zz9_yes (x.extract 0 2) w1 ht.1)
        clear ht HP
        go_wp2_with fail
        refine K2.out.mono ?_
        rintro e w2 ⟨rfl, hB2⟩
        have HB2 := Lib.hid hB2
        clear K2 hB2
        rw [HT.out]
        go_wp2_with (first | (go_at_call 34; refine (hexr34 _ _ hv.1 hv.2).mono ?_; rintro e w3 ⟨rfl, rfl⟩) | go_in)
        go_ret
        exact ⟨rfl, HB.out.trans (HB2.out.mono HB.out.size)⟩

set_option maxRecDepth 100000 in
theorem lifted (os : Os) (started : os.Started) (H : Type) (enc : TypeId × Value → H) :
    ReturnsInHanded {} Try.checked os 3 .any (Rows.fnHexRAgreesWithLeadingDigitsSpec.pre6 enc Try.prog Try.f3 Rows.fnHexRAgreesWithLeadingDigitsRow.domain false) (Rows.fnHexRAgreesWithLeadingDigitsSpec.post enc Try.prog Try.f3 false true false false) := by
  refine returnsInHanded_of_change (C := Try.checked) own started (by kernel_rfl) Try.func3
    (ChangeSpec.witness6 (enc := enc) (C := Try.checked) false ⟨#[], #[.string ByteArray.empty], []⟩ 8 (by kernel_rfl) (by kernel_rfl) (by kernel_rfl) (by kernel_rfl)) ?_
  intro W base args ds gs before hval0 hW hcnd _
  have hval : ∀ (j : Nat) t v, Try.f3.params[j]? = some t → args[j]? = some v → Value.okWide Try.prog W .any base t v := hval0
  have hW' := hW
  obtain ⟨p, q, hA0, hV, rfl, hfz, hnd⟩ := hW
  have hA : DataW.TrodAll enc Try.prog W 0 (fun _ => true) true Try.f3.params.toList args.toList ds p := hA0
  rw [Try.params3] at hA hval
  obtain ⟨v0, vs0, d0, ds0, p0, q0, hargs, rfl, rfl, h0, r0⟩ := trodAll_cons hA
  obtain ⟨rfl, rfl, rfl⟩ := trodAll_nil r0
  obtain rfl : args = #[v0] := by cases args; simp_all
  obtain ⟨rfl, rfl⟩ := trodVars_none hV
  obtain ⟨a0, rfl, rfl, rfl, w0⟩ := open_string Try.underlying9 (hval 0 9 v0 rfl rfl) h0
  clear hA0 hval0
  refine (walk a0 W w0).mono fun e W' ⟨he, bel⟩ => ?_
  subst he
  exact ⟨_, rfl, _, _, _, [], _, [], hW', trodAll_mk1 (shut_bool Try.underlying4 _), (trodAll_cons_mk (shut_string Try.underlying9 w0) trodAll_mk0), rfl, bel.frame _, fun h => by cases h⟩

theorem q0 : (Rows.fnHexRAgreesWithLeadingDigitsRow.wf (OpenSpec.ofChange Rows.fnHexRAgreesWithLeadingDigitsSpec)) = true := by kernel_rfl
theorem q3 : (Try.f3.params.all (Try.pinned.checked.prog.readableRec ·)) = true := by kernel_rfl
theorem q4 : (namedTie Try.pinned.checked.prog Rows.fnHexRAgreesWithLeadingDigitsRow.named Rows.fnHexRAgreesWithLeadingDigitsSpec.vars) = true := by kernel_rfl
theorem q5 : ((Rows.fnHexRAgreesWithLeadingDigitsRow.stops == [])) = true := by kernel_rfl
theorem q7 : ((Rows.fnHexRAgreesWithLeadingDigitsRow.knobs == [])) = true := by kernel_rfl
theorem q9 : ((Rows.fnHexRAgreesWithLeadingDigitsRow.inPlace == Try.pinned.checked.prog.inPlace 3)) = true := by kernel_rfl
theorem q10 : ((Rows.fnHexRAgreesWithLeadingDigitsRow.unfollowed == Try.pinned.checked.prog.unfollowed 3)) = true := by kernel_rfl
theorem q11 : ((Rows.fnHexRAgreesWithLeadingDigitsRow.recurses == Try.pinned.checked.prog.recurses 3)) = true := by kernel_rfl
theorem q12 : ((Rows.fnHexRAgreesWithLeadingDigitsRow.named == Try.pinned.checked.prog.varsNamed 3)) = true := by kernel_rfl
theorem q13 : ((Rows.fnHexRAgreesWithLeadingDigitsRow.maps == (Try.f3.params.toList ++ Rows.fnHexRAgreesWithLeadingDigitsSpec.plain.varTypes Try.pinned.checked.prog).any (Try.pinned.checked.prog.mapsRec ·))) = true := by kernel_rfl
theorem q14 : ((Rows.fnHexRAgreesWithLeadingDigitsRow.ifaces == (Try.f3.params.toList ++ Rows.fnHexRAgreesWithLeadingDigitsSpec.plain.varTypes Try.pinned.checked.prog).any (Try.pinned.checked.prog.ifacesRec ·))) = true := by kernel_rfl
theorem q15 : ((Rows.fnHexRAgreesWithLeadingDigitsRow.mapsOut == Try.pinned.checked.prog.mapsAmong Try.f3.resultTypes.toList)) = true := by kernel_rfl
theorem q16 : ((Rows.fnHexRAgreesWithLeadingDigitsRow.loops == (Try.f3.params.toList ++ Rows.fnHexRAgreesWithLeadingDigitsSpec.plain.varTypes Try.pinned.checked.prog).any (Try.pinned.checked.prog.loopsFrom ·))) = true := by kernel_rfl
theorem q17 : ((Rows.fnHexRAgreesWithLeadingDigitsRow.wideKeys == (Try.f3.params.toList ++ Rows.fnHexRAgreesWithLeadingDigitsSpec.plain.varTypes Try.pinned.checked.prog ++ Try.f3.resultTypes.toList).any (Try.pinned.checked.prog.wideKeysFrom ·))) = true := by kernel_rfl
theorem q18 : (Rows.fnHexRAgreesWithLeadingDigitsSpec.vars.all (Try.pinned.checked.prog.varReadable ·)) = true := by kernel_rfl
theorem q19 : (Try.f3.resultTypes.all (fun t => Try.pinned.checked.prog.readableRec t && decide (t < Try.pinned.checked.prog.types.size))) = true := by kernel_rfl
theorem q20 : ((Rows.fnHexRAgreesWithLeadingDigitsRow.ifacesOut == Try.f3.resultTypes.toList.any (Try.pinned.checked.prog.ifacesRec ·))) = true := by kernel_rfl
theorem q21 : ((Rows.fnHexRAgreesWithLeadingDigitsRow.loopsOut == Try.f3.resultTypes.toList.any (Try.pinned.checked.prog.loopsFrom ·))) = true := by kernel_rfl
theorem q22 : ((Rows.fnHexRAgreesWithLeadingDigitsRow.plainKeys == Try.pinned.checked.prog.plainKeys)) = true := by kernel_rfl
theorem q23 : (Rows.fnHexRAgreesWithLeadingDigitsRow.shortTexts.isNone) = true := by kernel_rfl
theorem q26 : ((Rows.fnHexRAgreesWithLeadingDigitsRow.lifted == Try.pinned.checked.prog.liftsFinal)) = true := by rw [g26]; kernel_rfl
theorem q27 : ((Try.pinned.checked.prog.make == some Rows.fnHexRAgreesWithLeadingDigitsRow.make)) = true := by rw [g27]; kernel_rfl
theorem q28 : ((Rows.fnHexRAgreesWithLeadingDigitsRow.kinds == (if Rows.fnHexRAgreesWithLeadingDigitsRow.domain.isEmpty then [] else Try.f3.params.toList.map fun t => match Try.pinned.checked.prog.underlying t with | some (.int k) => some k | _ => none))) = true := by kernel_rfl
theorem q29 : ((Rows.fnHexRAgreesWithLeadingDigitsRow.pinned == Rows.fnHexRAgreesWithLeadingDigitsRow.pinnedBy)) = true := by kernel_rfl
theorem q30 : ((Rows.fnHexRAgreesWithLeadingDigitsRow.veiled == (Try.f3.params.toList ++ Rows.fnHexRAgreesWithLeadingDigitsSpec.plain.varTypes Try.pinned.checked.prog ++ Try.f3.resultTypes.toList).any (Try.pinned.checked.prog.veiledRec ·))) = true := by kernel_rfl
theorem q31 : (Rows.fnHexRAgreesWithLeadingDigitsRow.veiledFits Try.pinned.checked.prog Try.f3.params.toList (Try.f3.params.toList ++ Rows.fnHexRAgreesWithLeadingDigitsSpec.plain.varTypes Try.pinned.checked.prog ++ Try.f3.resultTypes.toList)) = true := by kernel_rfl
set_option maxRecDepth 100000 in
theorem closed : joinedFacts Try.pinned.checked.prog 3 Try.f3 Rows.fnHexRAgreesWithLeadingDigitsSpec Rows.fnHexRAgreesWithLeadingDigitsRow = true :=
  (andI (andI (andI (andI (andI (andI (andI (andI (andI (andI (andI (andI (andI (andI (andI (andI (andI (andI (andI (andI (andI (andI (andI (andI (andI (andI (andI (andI (andI (andI (andI q0 g1) g2) q3) q4) q5) g6) q7) g8) q9) q10) q11) q12) q13) q14) q15) q16) q17) q18) q19) q20) q21) q22) q23) g24) g25) q26) q27) q28) q29) q30) q31)
theorem over : Rows.fnHexRAgreesWithLeadingDigitsRow.holds Try.pinned (OpenSpec.ofChange Rows.fnHexRAgreesWithLeadingDigitsSpec) :=
  OpenClaim.holds_of_wide 3 Try.f3 rfl rfl rfl rfl rfl rfl rfl ⟨rfl, rfl, rfl, rfl, rfl⟩ rfl rfl rfl rfl rfl (by kernel_rfl) Try.func3 closed
    (of_decide_eq_true (by kernel_rfl)) (by unfold Func.isWrapper; first | (rw [if_pos (by decide +kernel)]; kernel_rfl) | (rw [if_neg (by decide +kernel)]; exact ⟨rfl, rfl⟩))
    (fun os started H enc _ => lifted os started H enc)

theorem proved : Rows.FnHexRAgreesWithLeadingDigitsSaid := over
#print axioms proved
end Go.Proofs.Ytnlohfbmknedhaa.fnHexRAgreesWithLeadingDigits
