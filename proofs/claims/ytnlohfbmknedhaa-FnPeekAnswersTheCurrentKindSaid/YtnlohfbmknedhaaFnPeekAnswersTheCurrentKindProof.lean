/-
  For a valid token list, a cursor in it and any kind k: peek(k) is true exactly when k is the current token's kind, or the end of file past the last token; the cursor stays. For every input.
-/
import Derived.Test.YtnlohfbmknedhaaIo
import Derived.WalkKit
import Derived.ProofKit
import Derived.OpenShut
import Derived.ShutString
import Derived.ChangeOld
import Derived.Below
import Derived.WalkLawsBesides
import Derived.Test.YtnlohfbmknedhaaWd
namespace Go.Proofs.Ytnlohfbmknedhaa.fnPeekAnswersTheCurrentKind
open Go.ChangeShapes Go.WideShapes Go.ChangeAt Go.RowKit
open Go.ChangeMaps (open_string shut_string)
set_option linter.unusedVariables false

theorem own : ownKnob Try.prog.godebug = none := by kernel_rfl
theorem laidOut : laidOutB Try.prog = true := by kernel_rfl

set_option maxRecDepth 20000 in
set_option maxHeartbeats 4000000 in
theorem walk (a0 : ByteArray) (a1 : Option Addr) (len1 cap1 : Nat) (z1 : List Int) (a2 : Option Addr) (len2 cap2 : Nat) (z2 : List Int) (a3 : Option Addr) (len3 cap3 : Nat) (z3 : List Int) (a4 : Int) (a5 : Int) (w : World) (w0 : a0.size ≤ maxLen) (w1 : IsRow .u8 w a1 len1 cap1 z1) (w2 : IsRow .i32 w a2 len2 cap2 z2) (w3 : IsRow .i32 w a3 len3 cap3 z3) (w4 : (Lit.int .i64 a4).wf = true) (w5 : (Lit.int .u8 a5).wf = true) :
    Calls Try.prog 4 #[.string a0, .slice a1 len1 cap1, .slice a2 len2 cap2, .slice a3 len3 cap3, .int .i64 a4, .int .u8 a5] w fun e w' => e = .returned (.bool true) ∧ Below w.heap.size w w' := by
  obtain ⟨r1, m1⟩ := w1.row
  obtain ⟨r2, m2⟩ := w2.row
  obtain ⟨r3, m3⟩ := w3.row
  clear w1 w2 w3
  go_enter Try.func4, Try.ntmps4
  go_wp2_with fail
  refine (bytes11 a0 a1 a2 a3 len1 len2 len3 cap1 cap2 cap3 a4 a5 w w0 m1 m2 m3).mono ?_
  rintro e wx ⟨rfl, hw⟩
  obtain rfl := hw.symm
  by_cases hB : a0.size + len1 + len2 + len3 ≤ 1048576
  · rw [decide_eq_true hB]
    have R1 := Lib.hid r1
    have R2 := Lib.hid r2
    have R3 := Lib.hid r3
    clear r1 r2 r3
    by_cases hS : Small a0 len1 len2 len3
    · go_wp2_with fail
      refine (size12_yes a0 a1 a2 a3 len1 len2 len3 cap1 cap2 cap3 w hS).mono ?_
      rintro e wy ⟨rfl, hw⟩
      obtain rfl := hw.symm
      go_wp2_with fail
      refine (shape13 a0 a1 a2 a3 len1 len2 len3 cap1 cap2 cap3 z2 z3 w hS R2.out R3.out).mono ?_
      rintro e wd ⟨⟨b, nn, rfl, hwd, hP⟩⟩
      have hb0 : Below w.heap.size w wd := by rw [hwd]; exact below_drewN (Below.refl _ _) nn
      have HB0 := Lib.hid hb0
      clear hwd hb0
      cases b
      · clear hP
        go_wp2
        go_ret
        exact ⟨rfl, HB0.out⟩
      · obtain ⟨e2, e3, _⟩ := hP rfl
        clear hP
        subst e2 e3
        by_cases hneg : a4 < 0
        · go_wp2
          go_ret
          exact ⟨rfl, HB0.out⟩
        · obtain ⟨i, rfl⟩ := Int.eq_ofNat_of_zero_le (by omega : 0 ≤ a4)
          by_cases hgt : i ≤ len1
          · have hi := hgt
            go_wp2_with fail
            refine (tokens14 a1 a2 a3 len1 cap1 cap2 cap3 z1 z2 z3 wd (by omega) (R1.out.below (Nat.le_refl _) HB0.out) (R2.out.below (Nat.le_refl _) HB0.out) (R3.out.below (Nat.le_refl _) HB0.out)).mono ?_
            rintro e wt ⟨rfl, hT⟩
            have HT := Lib.hid hT
            clear hT
            go_wp2_with fail
            refine (new15 a0 len1 (tkOf z1 z2 z3) i wd wt HT.out (by omega) (by omega)).mono ?_
            rintro e wp ⟨rfl, hP, hbt⟩
            have hbp : Below w.heap.size w wp := (HB0.out.trans (HT.out.below.mono HB0.out.size)).trans (hbt.mono (by have := HB0.out.size; have := HT.out.size; omega))
            clear hbt HT
            by_cases hin : i < len1
            · obtain ⟨b1, o1, rfl, l1, q1⟩ := R1.out.cell (by omega)
              have c1 : wp.cell? ⟨b1, o1 + i, none⟩ = some (.int .u8 (z1.getD i 0)) := by rw [hbp.cell (p := ⟨b1, o1 + i, none⟩) l1]; exact q1 i hin
              have hc : (cur a0 len1 (tkOf z1 z2 z3) i).k = z1.getD i 0 := by simp [cur, hin, tkOf]
              clear q1 R1 R2 R3
              by_cases hk : a5 = z1.getD i 0
              · generalize z1.getD i 0 = K at *
                subst hk
                have Z : ∀ wx : World, Psr wx wt.heap.size a0 wd.heap.size len1 (tkOf z1 z2 z3) i → Calls Try.prog 16 #[.pointer (some ⟨wt.heap.size, 0, none⟩), .int .u8 a5] wx fun e w' => e = .returned (.bool true) ∧ Below wx.heap.size wx w' := by
                  intro wx h
                  have q := zpeek16 _ _ _ _ _ i a5 wx h hi
                  rw [hc] at q
                  simpa using q
                have HP := Lib.hid hP
                have HB := Lib.hid hbp
                clear hP hbp hc
                go_wp2_with fail
                refine (Z _ HP.out).mono ?_
                rintro e w2 ⟨rfl, hb2⟩
                have HP2 := Lib.hid (HP.out.call hb2)
                have HB2 := Lib.hid (HB.out.trans (hb2.mono (by have := HB.out.size; omega)))
                clear hb2 HP HB
                go_wp2_with fail
                refine (index17 _ _ _ _ _ _ _ HP2.out).mono ?_
                rintro e w3 ⟨rfl, hw3⟩
                obtain rfl := hw3.symm
                go_wp2_with fail
                refine (Z _ HP2.out).mono ?_
                rintro e w4 ⟨rfl, hb4⟩
                have HB4 := Lib.hid (HB2.out.trans (hb4.mono (by have := HB2.out.size; omega)))
                clear hb4 HP2 HB2 Z
                go_wp2
                go_ret
                exact ⟨rfl, HB4.out⟩
              · generalize z1.getD i 0 = K at *
                have Z : ∀ wx : World, Psr wx wt.heap.size a0 wd.heap.size len1 (tkOf z1 z2 z3) i → Calls Try.prog 16 #[.pointer (some ⟨wt.heap.size, 0, none⟩), .int .u8 a5] wx fun e w' => e = .returned (.bool false) ∧ Below wx.heap.size wx w' := by
                  intro wx h
                  have q := zpeek16 _ _ _ _ _ i a5 wx h hi
                  rw [hc] at q
                  simpa [hk] using q
                have HP := Lib.hid hP
                have HB := Lib.hid hbp
                clear hP hbp hc
                go_wp2_with fail
                refine (Z _ HP.out).mono ?_
                rintro e w2 ⟨rfl, hb2⟩
                have HP2 := Lib.hid (HP.out.call hb2)
                have HB2 := Lib.hid (HB.out.trans (hb2.mono (by have := HB.out.size; omega)))
                clear hb2 HP HB
                go_wp2_with fail
                refine (index17 _ _ _ _ _ _ _ HP2.out).mono ?_
                rintro e w3 ⟨rfl, hw3⟩
                obtain rfl := hw3.symm
                go_wp2_with fail
                refine (Z _ HP2.out).mono ?_
                rintro e w4 ⟨rfl, hb4⟩
                have HB4 := Lib.hid (HB2.out.trans (hb4.mono (by have := HB2.out.size; omega)))
                clear hb4 HP2 HB2 Z
                go_wp2
                go_ret
                exact ⟨rfl, HB4.out⟩
            · have hc : (cur a0 len1 (tkOf z1 z2 z3) i).k = 0 := by simp [cur, hin]
              clear R1 R2 R3
              by_cases hk : a5 = 0
              · subst hk
                have Z : ∀ wx : World, Psr wx wt.heap.size a0 wd.heap.size len1 (tkOf z1 z2 z3) i → Calls Try.prog 16 #[.pointer (some ⟨wt.heap.size, 0, none⟩), .int .u8 0] wx fun e w' => e = .returned (.bool true) ∧ Below wx.heap.size wx w' := by
                  intro wx h
                  have q := zpeek16 _ _ _ _ _ i 0 wx h hi
                  rw [hc] at q
                  simpa using q
                have HP := Lib.hid hP
                have HB := Lib.hid hbp
                clear hP hbp hc
                go_wp2_with fail
                refine (Z _ HP.out).mono ?_
                rintro e w2 ⟨rfl, hb2⟩
                have HP2 := Lib.hid (HP.out.call hb2)
                have HB2 := Lib.hid (HB.out.trans (hb2.mono (by have := HB.out.size; omega)))
                clear hb2 HP HB
                go_wp2_with fail
                refine (index17 _ _ _ _ _ _ _ HP2.out).mono ?_
                rintro e w3 ⟨rfl, hw3⟩
                obtain rfl := hw3.symm
                go_wp2_with fail
                refine (Z _ HP2.out).mono ?_
                rintro e w4 ⟨rfl, hb4⟩
                have HB4 := Lib.hid (HB2.out.trans (hb4.mono (by have := HB2.out.size; omega)))
                clear hb4 HP2 HB2 Z
                go_wp2
                go_ret
                exact ⟨rfl, HB4.out⟩
              ·
                have Z : ∀ wx : World, Psr wx wt.heap.size a0 wd.heap.size len1 (tkOf z1 z2 z3) i → Calls Try.prog 16 #[.pointer (some ⟨wt.heap.size, 0, none⟩), .int .u8 a5] wx fun e w' => e = .returned (.bool false) ∧ Below wx.heap.size wx w' := by
                  intro wx h
                  have q := zpeek16 _ _ _ _ _ i a5 wx h hi
                  rw [hc] at q
                  simpa [hk] using q
                have HP := Lib.hid hP
                have HB := Lib.hid hbp
                clear hP hbp hc
                go_wp2_with fail
                refine (Z _ HP.out).mono ?_
                rintro e w2 ⟨rfl, hb2⟩
                have HP2 := Lib.hid (HP.out.call hb2)
                have HB2 := Lib.hid (HB.out.trans (hb2.mono (by have := HB.out.size; omega)))
                clear hb2 HP HB
                go_wp2_with fail
                refine (index17 _ _ _ _ _ _ _ HP2.out).mono ?_
                rintro e w3 ⟨rfl, hw3⟩
                obtain rfl := hw3.symm
                go_wp2_with fail
                refine (Z _ HP2.out).mono ?_
                rintro e w4 ⟨rfl, hb4⟩
                have HB4 := Lib.hid (HB2.out.trans (hb4.mono (by have := HB2.out.size; omega)))
                clear hb4 HP2 HB2 Z
                go_wp2
                go_ret
                exact ⟨rfl, HB4.out⟩
          · go_wp2
            go_ret
            exact ⟨rfl, HB0.out⟩
    · go_wp2_with fail
      refine (size12_no a0 a1 a2 a3 len1 len2 len3 cap1 cap2 cap3 w hS hB).mono ?_
      rintro e wy ⟨rfl, hw⟩
      obtain rfl := hw.symm
      go_wp2
      go_ret
      exact ⟨rfl, Below.refl _ _⟩
  · rw [decide_eq_false hB]
    clear r1 r2 r3
    go_wp2
    go_ret
    exact ⟨rfl, Below.refl _ _⟩

set_option maxRecDepth 100000 in
theorem lifted (os : Os) (started : os.Started) (H : Type) (enc : TypeId × Value → H) :
    ReturnsInHanded {} Try.checked os 4 .any (Rows.fnPeekAnswersTheCurrentKindSpec.pre6 enc Try.prog Try.f4 Rows.fnPeekAnswersTheCurrentKindRow.domain false) (Rows.fnPeekAnswersTheCurrentKindSpec.post enc Try.prog Try.f4 false true false false) := by
  refine returnsInHanded_of_change (C := Try.checked) own started (by kernel_rfl) Try.func4
    (ChangeSpec.witness6 (enc := enc) (C := Try.checked) false ⟨#[], #[.string ByteArray.empty, .slice none 0 0, .slice none 0 0, .slice none 0 0, .int .i64 0, .int .u8 0], []⟩ 8 (by kernel_rfl) (by kernel_rfl) (by kernel_rfl) (by kernel_rfl)) ?_
  intro W base args ds gs before hval0 hW hcnd _
  have hval : ∀ (j : Nat) t v, Try.f4.params[j]? = some t → args[j]? = some v → Value.okWide Try.prog W .any base t v := hval0
  have hW' := hW
  obtain ⟨p, q, hA0, hV, rfl, hfz, hnd⟩ := hW
  have hA : DataW.TrodAll enc Try.prog W 0 (fun _ => true) true Try.f4.params.toList args.toList ds p := hA0
  rw [Try.params4] at hA hval
  obtain ⟨v0, vs0, d0, ds0, p0, q0, hargs, rfl, rfl, h0, r0⟩ := trodAll_cons hA
  obtain ⟨v1, vs1, d1, ds1, p1, q1, rfl, rfl, rfl, h1, r1⟩ := trodAll_cons r0
  obtain ⟨v2, vs2, d2, ds2, p2, q2, rfl, rfl, rfl, h2, r2⟩ := trodAll_cons r1
  obtain ⟨v3, vs3, d3, ds3, p3, q3, rfl, rfl, rfl, h3, r3⟩ := trodAll_cons r2
  obtain ⟨v4, vs4, d4, ds4, p4, q4, rfl, rfl, rfl, h4, r4⟩ := trodAll_cons r3
  obtain ⟨v5, vs5, d5, ds5, p5, q5, rfl, rfl, rfl, h5, r5⟩ := trodAll_cons r4
  obtain ⟨rfl, rfl, rfl⟩ := trodAll_nil r5
  obtain rfl : args = #[v0, v1, v2, v3, v4, v5] := by cases args; simp_all
  obtain ⟨rfl, rfl⟩ := trodVars_none hV
  obtain ⟨a0, rfl, rfl, rfl, w0⟩ := open_string Try.underlying9 (hval 0 9 v0 rfl rfl) h0
  obtain ⟨a1, len1, cap1, rfl⟩ := okWide_slice Try.underlying27 (hval 1 27 v1 rfl rfl)
  have k1 := h1
  have lt1 : ∀ x ∈ p1, x.block < W.heap.size := by obtain ⟨m, hm⟩ := k1; exact DataW.trod_lt m _ _ _ hm
  obtain ⟨z1, w1⟩ : ∃ zs, IsRow .u8 W a1 len1 cap1 zs := by
    obtain ⟨fuel, hf⟩ := h1
    rcases open_ints Try.underlying27 Try.underlying5 (by kernel_rfl) hf with ⟨hcs, _⟩ | ⟨x, l, c, zs, hcs, _, hl, hm, hz, _, hcell, hwz⟩
    · simp [Value.cells] at hcs
      obtain ⟨rfl, rfl, rfl⟩ := hcs
      exact ⟨[], .inl ⟨rfl, rfl, rfl, rfl⟩⟩
    · simp [Value.cells] at hcs
      obtain ⟨rfl, rfl, rfl⟩ := hcs
      exact ⟨zs, .inr ⟨_, rfl, hl, hm, by simpa using hz, hcell, hwz⟩⟩
  obtain ⟨a2, len2, cap2, rfl⟩ := okWide_slice Try.underlying28 (hval 2 28 v2 rfl rfl)
  have k2 := h2
  have lt2 : ∀ x ∈ p2, x.block < W.heap.size := by obtain ⟨m, hm⟩ := k2; exact DataW.trod_lt m _ _ _ hm
  obtain ⟨z2, w2⟩ : ∃ zs, IsRow .i32 W a2 len2 cap2 zs := by
    obtain ⟨fuel, hf⟩ := h2
    rcases open_ints Try.underlying28 Try.underlying21 (by kernel_rfl) hf with ⟨hcs, _⟩ | ⟨x, l, c, zs, hcs, _, hl, hm, hz, _, hcell, hwz⟩
    · simp [Value.cells] at hcs
      obtain ⟨rfl, rfl, rfl⟩ := hcs
      exact ⟨[], .inl ⟨rfl, rfl, rfl, rfl⟩⟩
    · simp [Value.cells] at hcs
      obtain ⟨rfl, rfl, rfl⟩ := hcs
      exact ⟨zs, .inr ⟨_, rfl, hl, hm, by simpa using hz, hcell, hwz⟩⟩
  obtain ⟨a3, len3, cap3, rfl⟩ := okWide_slice Try.underlying28 (hval 3 28 v3 rfl rfl)
  have k3 := h3
  have lt3 : ∀ x ∈ p3, x.block < W.heap.size := by obtain ⟨m, hm⟩ := k3; exact DataW.trod_lt m _ _ _ hm
  obtain ⟨z3, w3⟩ : ∃ zs, IsRow .i32 W a3 len3 cap3 zs := by
    obtain ⟨fuel, hf⟩ := h3
    rcases open_ints Try.underlying28 Try.underlying21 (by kernel_rfl) hf with ⟨hcs, _⟩ | ⟨x, l, c, zs, hcs, _, hl, hm, hz, _, hcell, hwz⟩
    · simp [Value.cells] at hcs
      obtain ⟨rfl, rfl, rfl⟩ := hcs
      exact ⟨[], .inl ⟨rfl, rfl, rfl, rfl⟩⟩
    · simp [Value.cells] at hcs
      obtain ⟨rfl, rfl, rfl⟩ := hcs
      exact ⟨zs, .inr ⟨_, rfl, hl, hm, by simpa using hz, hcell, hwz⟩⟩
  obtain ⟨a4, rfl, rfl, rfl, w4⟩ := open_int Try.underlying3 (hval 4 3 v4 rfl rfl) h4
  obtain ⟨a5, rfl, rfl, rfl, w5⟩ := open_int Try.underlying5 (hval 5 5 v5 rfl rfl) h5
  clear hA0 hval0
  refine (walk a0 a1 len1 cap1 z1 a2 len2 cap2 z2 a3 len3 cap3 z3 a4 a5 W w0 w1 w2 w3 w4 w5).mono fun e W' ⟨he, bel⟩ => ?_
  subst he
  exact ⟨_, rfl, _, _, _, [], _, [], hW', trodAll_mk1 (shut_bool Try.underlying4 _), (trodAll_cons_mk (shut_string Try.underlying9 w0) (trodAll_cons_mk (Below.trod laidOut (by kernel_rfl) (of_decide_eq_true (by kernel_rfl)) k1 bel lt1) (trodAll_cons_mk (Below.trod laidOut (by kernel_rfl) (of_decide_eq_true (by kernel_rfl)) k2 bel lt2) (trodAll_cons_mk (Below.trod laidOut (by kernel_rfl) (of_decide_eq_true (by kernel_rfl)) k3 bel lt3) (trodAll_cons_mk (shut_int Try.underlying3 w4) (trodAll_cons_mk (shut_int Try.underlying5 w5) trodAll_mk0)))))), rfl, bel.frame _, fun h => by cases h⟩

theorem q0 : (Rows.fnPeekAnswersTheCurrentKindRow.wf (OpenSpec.ofChange Rows.fnPeekAnswersTheCurrentKindSpec)) = true := by kernel_rfl
theorem q3 : (Try.f4.params.all (Try.pinned.checked.prog.readableRec ·)) = true := by kernel_rfl
theorem q4 : (namedTie Try.pinned.checked.prog Rows.fnPeekAnswersTheCurrentKindRow.named Rows.fnPeekAnswersTheCurrentKindSpec.vars) = true := by kernel_rfl
theorem q5 : ((Rows.fnPeekAnswersTheCurrentKindRow.stops == [])) = true := by kernel_rfl
theorem q7 : ((Rows.fnPeekAnswersTheCurrentKindRow.knobs == [])) = true := by kernel_rfl
theorem q9 : ((Rows.fnPeekAnswersTheCurrentKindRow.inPlace == Try.pinned.checked.prog.inPlace 4)) = true := by kernel_rfl
theorem q10 : ((Rows.fnPeekAnswersTheCurrentKindRow.unfollowed == Try.pinned.checked.prog.unfollowed 4)) = true := by kernel_rfl
theorem q11 : ((Rows.fnPeekAnswersTheCurrentKindRow.recurses == Try.pinned.checked.prog.recurses 4)) = true := by kernel_rfl
theorem q12 : ((Rows.fnPeekAnswersTheCurrentKindRow.named == Try.pinned.checked.prog.varsNamed 4)) = true := by kernel_rfl
theorem q13 : ((Rows.fnPeekAnswersTheCurrentKindRow.maps == (Try.f4.params.toList ++ Rows.fnPeekAnswersTheCurrentKindSpec.plain.varTypes Try.pinned.checked.prog).any (Try.pinned.checked.prog.mapsRec ·))) = true := by kernel_rfl
theorem q14 : ((Rows.fnPeekAnswersTheCurrentKindRow.ifaces == (Try.f4.params.toList ++ Rows.fnPeekAnswersTheCurrentKindSpec.plain.varTypes Try.pinned.checked.prog).any (Try.pinned.checked.prog.ifacesRec ·))) = true := by kernel_rfl
theorem q15 : ((Rows.fnPeekAnswersTheCurrentKindRow.mapsOut == Try.pinned.checked.prog.mapsAmong Try.f4.resultTypes.toList)) = true := by kernel_rfl
theorem q16 : ((Rows.fnPeekAnswersTheCurrentKindRow.loops == (Try.f4.params.toList ++ Rows.fnPeekAnswersTheCurrentKindSpec.plain.varTypes Try.pinned.checked.prog).any (Try.pinned.checked.prog.loopsFrom ·))) = true := by kernel_rfl
theorem q17 : ((Rows.fnPeekAnswersTheCurrentKindRow.wideKeys == (Try.f4.params.toList ++ Rows.fnPeekAnswersTheCurrentKindSpec.plain.varTypes Try.pinned.checked.prog ++ Try.f4.resultTypes.toList).any (Try.pinned.checked.prog.wideKeysFrom ·))) = true := by kernel_rfl
theorem q18 : (Rows.fnPeekAnswersTheCurrentKindSpec.vars.all (Try.pinned.checked.prog.varReadable ·)) = true := by kernel_rfl
theorem q19 : (Try.f4.resultTypes.all (fun t => Try.pinned.checked.prog.readableRec t && decide (t < Try.pinned.checked.prog.types.size))) = true := by kernel_rfl
theorem q20 : ((Rows.fnPeekAnswersTheCurrentKindRow.ifacesOut == Try.f4.resultTypes.toList.any (Try.pinned.checked.prog.ifacesRec ·))) = true := by kernel_rfl
theorem q21 : ((Rows.fnPeekAnswersTheCurrentKindRow.loopsOut == Try.f4.resultTypes.toList.any (Try.pinned.checked.prog.loopsFrom ·))) = true := by kernel_rfl
theorem q22 : ((Rows.fnPeekAnswersTheCurrentKindRow.plainKeys == Try.pinned.checked.prog.plainKeys)) = true := by kernel_rfl
theorem q23 : (Rows.fnPeekAnswersTheCurrentKindRow.shortTexts.isNone) = true := by kernel_rfl
theorem q26 : ((Rows.fnPeekAnswersTheCurrentKindRow.lifted == Try.pinned.checked.prog.liftsFinal)) = true := by rw [g26]; kernel_rfl
theorem q27 : ((Try.pinned.checked.prog.make == some Rows.fnPeekAnswersTheCurrentKindRow.make)) = true := by rw [g27]; kernel_rfl
theorem q28 : ((Rows.fnPeekAnswersTheCurrentKindRow.kinds == (if Rows.fnPeekAnswersTheCurrentKindRow.domain.isEmpty then [] else Try.f4.params.toList.map fun t => match Try.pinned.checked.prog.underlying t with | some (.int k) => some k | _ => none))) = true := by kernel_rfl
theorem q29 : ((Rows.fnPeekAnswersTheCurrentKindRow.pinned == Rows.fnPeekAnswersTheCurrentKindRow.pinnedBy)) = true := by kernel_rfl
theorem q30 : ((Rows.fnPeekAnswersTheCurrentKindRow.veiled == (Try.f4.params.toList ++ Rows.fnPeekAnswersTheCurrentKindSpec.plain.varTypes Try.pinned.checked.prog ++ Try.f4.resultTypes.toList).any (Try.pinned.checked.prog.veiledRec ·))) = true := by kernel_rfl
theorem q31 : (Rows.fnPeekAnswersTheCurrentKindRow.veiledFits Try.pinned.checked.prog Try.f4.params.toList (Try.f4.params.toList ++ Rows.fnPeekAnswersTheCurrentKindSpec.plain.varTypes Try.pinned.checked.prog ++ Try.f4.resultTypes.toList)) = true := by kernel_rfl
set_option maxRecDepth 100000 in
theorem closed : joinedFacts Try.pinned.checked.prog 4 Try.f4 Rows.fnPeekAnswersTheCurrentKindSpec Rows.fnPeekAnswersTheCurrentKindRow = true :=
  (andI (andI (andI (andI (andI (andI (andI (andI (andI (andI (andI (andI (andI (andI (andI (andI (andI (andI (andI (andI (andI (andI (andI (andI (andI (andI (andI (andI (andI (andI (andI q0 g1) g2) q3) q4) q5) g6) q7) g8) q9) q10) q11) q12) q13) q14) q15) q16) q17) q18) q19) q20) q21) q22) q23) g24) g25) q26) q27) q28) q29) q30) q31)
theorem over : Rows.fnPeekAnswersTheCurrentKindRow.holds Try.pinned (OpenSpec.ofChange Rows.fnPeekAnswersTheCurrentKindSpec) :=
  OpenClaim.holds_of_wide 4 Try.f4 rfl rfl rfl rfl rfl rfl rfl ⟨rfl, rfl, rfl, rfl, rfl⟩ rfl rfl rfl rfl rfl (by kernel_rfl) Try.func4 closed
    (of_decide_eq_true (by kernel_rfl)) (by unfold Func.isWrapper; first | (rw [if_pos (by decide +kernel)]; kernel_rfl) | (rw [if_neg (by decide +kernel)]; exact ⟨rfl, rfl⟩))
    (fun os started H enc _ => lifted os started H enc)

theorem proved : Rows.FnPeekAnswersTheCurrentKindSaid := over
#print axioms proved
end Go.Proofs.Ytnlohfbmknedhaa.fnPeekAnswersTheCurrentKind
