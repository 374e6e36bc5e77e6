/-
  The declaration context only demotes the leading ampersand's answer: proof of the law FnAnalyzeLeadingAmpersandDeclContextOnlyDemotes. No conditions.
-/
import Derived.Test.YtnlohfbmknedhaaIo
import Derived.WalkKit
import Derived.ProofKit
import Derived.OpenShut
import Derived.ShutString
import Derived.ChangeOld
import Derived.Below
import Derived.WalkLawsBesides
import Derived.Deep.Grids
import Derived.Test.YtnlohfbmknedhaaWq
namespace Go.Proofs.Ytnlohfbmknedhaa.fnAnalyzeLeadingAmpersandDeclContextOnlyDemotes
open Go.ChangeShapes Go.WideShapes Go.ChangeAt Go.RowKit
open Go.ChangeMaps (open_string shut_string)
set_option linter.unusedVariables false

theorem own : ownKnob Try.prog.godebug = none := by kernel_rfl
theorem laidOut : laidOutB Try.prog = true := by kernel_rfl

theorem ana_false (d : Nat → Cp) (n : Nat) : ana d n false = 0 ∨ ana d n false = 1 := by
  unfold ana
  split
  · split
    · exact .inl rfl
    · rw [if_pos (by simp)]; exact .inr rfl
  · exact .inl rfl
theorem ana_pair (d : Nat → Cp) (n : Nat) : ana d n true = ana d n false ∨ (ana d n false = 1 ∧ ana d n true = 2) := by
  unfold ana
  by_cases h : 1 < n ∧ sg (d 0) = true
  · rw [if_pos h, if_pos h]
    by_cases h2 : (d 1).b = 0 ∧ anyU d (n - 1) = true
    · rw [if_pos h2, if_pos h2]; exact .inl rfl
    · rw [if_neg h2, if_neg h2, if_pos (show (d 1).b ≠ 0 ∨ (d 1).ty = none ∨ false = false by simp)]
      by_cases h3 : (d 1).b ≠ 0 ∨ (d 1).ty = none ∨ true = false
      · rw [if_pos h3]; exact .inl rfl
      · rw [if_neg h3]; exact .inr ⟨rfl, rfl⟩
  · rw [if_neg h, if_neg h]; exact .inl rfl
theorem ana_some (d : Nat → Cp) (n : Nat) (h : ana d n true ≠ 0) : 1 < n ∧ sg (d 0) = true := by
  by_cases h2 : 1 < n ∧ sg (d 0) = true
  · exact h2
  · exfalso; apply h; unfold ana; rw [if_neg h2]

set_option maxRecDepth 20000 in
set_option maxHeartbeats 4000000 in
theorem walk (a0 : Option Addr) (len0 cap0 : Nat) (z0 : List Int) (a1 : Option Addr) (len1 cap1 : Nat) (z1 : List Int) (a2 : Option Addr) (len2 cap2 : Nat) (z2 : Nat → Bool) (a3 : Option Addr) (len3 cap3 : Nat) (z3 : List Int) (w : World) (w0 : IsRow .u8 w a0 len0 cap0 z0) (w1 : IsRow .u8 w a1 len1 cap1 z1) (w2 : IsBools w a2 len2 cap2 z2) (w3 : IsRow .u8 w a3 len3 cap3 z3) :
    Calls Try.prog 6 #[.slice a0 len0 cap0, .slice a1 len1 cap1, .slice a2 len2 cap2, .slice a3 len3 cap3] w fun e w' => e = .returned (.bool true) ∧ Below w.heap.size w w' := by
  obtain ⟨r0, m0⟩ := w0.row
  obtain ⟨r1, m1⟩ := w1.row
  obtain ⟨r2, m2⟩ := w2.row
  obtain ⟨r3, m3⟩ := w3.row
  clear w0 w1 w2 w3
  have R0 := Lib.hid r0
  have R1 := Lib.hid r1
  have R2 := Lib.hid r2
  have R3 := Lib.hid r3
  clear r0 r1 r2 r3
  go_enter Try.func6, Try.ntmps6
  go_wp2_with fail
  with_reducible refine (any25 a0 a1 a2 a3 len0 len1 len2 len3 cap0 cap1 cap2 cap3 w m0 m1 m2 m3).mono ?_
  rintro e wx ⟨⟨b, rfl⟩, hw⟩
  obtain rfl := hw.symm
  clear hw
  simp only [maxLen] at m0 m1 m2 m3
  cases b
  · go_wp2_with fail
    go_ret
    exact ⟨rfl, Below.refl _ _⟩
  by_cases g0 : len0 ≤ 4096
  case neg =>
    go_wp2_with fail
    go_ret
    exact ⟨rfl, Below.refl _ _⟩
  by_cases g1 : len1 ≤ 4096
  case neg =>
    go_wp2_with fail
    go_ret
    exact ⟨rfl, Below.refl _ _⟩
  by_cases g2 : len2 ≤ 4096
  case neg =>
    go_wp2_with fail
    go_ret
    exact ⟨rfl, Below.refl _ _⟩
  by_cases g3 : len3 ≤ 4096
  case neg =>
    go_wp2_with fail
    go_ret
    exact ⟨rfl, Below.refl _ _⟩
  go_wp2_with fail
  with_reducible refine (any26 a0 a2 a3 len0 len2 len3 cap0 cap2 cap3 z0 z3 z2 w g0 g2 g3 R0.out R2.out R3.out).mono ?_
  rintro e wx ⟨⟨b, rfl⟩, hw⟩
  obtain rfl := hw.symm
  clear hw
  cases b
  · go_wp2_with fail
    go_ret
    exact ⟨rfl, Below.refl _ _⟩
  go_wp2_with fail
  with_reducible refine (build27 a0 a1 a2 a3 len0 len1 len2 len3 cap0 cap1 cap2 cap3 z0 z1 z3 z2 w g0 g1 g2 g3 R0.out R1.out R2.out R3.out).mono ?_
  rintro e w5 ⟨rfl, ⟨d, hC⟩, hB⟩
  have hs5 : w.heap.size + 1 < w5.heap.size := hC.size
  obtain ⟨B, hBB⟩ : ∃ B, B = w.heap.size + 1 := ⟨_, rfl⟩
  rw [← hBB] at hC hs5 ⊢
  clear hBB R0 R1 R2 R3
  have HC := Lib.hid (hC.call ((Below.refl _ _).alloc (Nat.le_refl _) (.cells #[.slice (some ⟨B, 0, none⟩) len0 len0] 51)))
  have HB := Lib.hid (hB.alloc hB.size (.cells #[.slice (some ⟨B, 0, none⟩) len0 len0] 51))
  clear hC hB
  go_wp2_with fail
  with_reducible refine (zana28 B len0 d false _ g0 HC.out).mono ?_
  rintro e w6 ⟨rfl, hb6⟩
  have u6 : w6.cell? ⟨w5.heap.size, 0, none⟩ = some (.slice (some ⟨B, 0, none⟩) len0 len0) := by rw [hb6.cell (p := ⟨w5.heap.size, 0, none⟩) (by simp [go_sem])]; simp [go_sem]
  have hz6 : w5.heap.size < w6.heap.size := by have := hb6.size; simp [go_sem] at this; omega
  have HC6 := Lib.hid (HC.out.call hb6)
  have HB6 := Lib.hid (HB.out.trans (hb6.mono HB.out.size))
  clear hb6 HC HB
  go_wp2_with fail
  with_reducible refine (zana28 B len0 d true _ g0 HC6.out).mono ?_
  rintro e w7 ⟨rfl, hb7⟩
  have u7 : w7.cell? ⟨w5.heap.size, 0, none⟩ = some (.slice (some ⟨B, 0, none⟩) len0 len0) := by rw [hb7.cell (p := ⟨w5.heap.size, 0, none⟩) hz6]; exact u6
  have hC7 := HC6.out.call hb7
  have HB7 := Lib.hid (HB6.out.trans (hb7.mono HB6.out.size))
  have hz7 := hb7.size
  clear hb7 HC6 HB6 u6
  have P1 := ana_false d len0
  have P2 := ana_pair d len0
  have P3 := Lib.hid (ana_some d len0)
  by_cases hn : ana d len0 true = 0
  · have hf : ana d len0 false = 0 := by rcases P2 with h | ⟨h, h'⟩ <;> omega
    rw [hn, hf]
    clear P1 P2 P3 hn hf hC7
    go_wp2_with fail
    go_ret
    exact ⟨by first | rfl | simp, HB7.out⟩
  · obtain ⟨h1, hs⟩ := P3.out hn
    have hn2 : ¬ ((len0 : Int) < 2) := by omega
    have sg' : (d 0).nn = 1 ∧ (d 0).b = 0 ∧ (d 0).ty = none ∧ (d 0).sn = 0 := by simpa [sg] using hs
    obtain ⟨s1, s2, s3, s4⟩ := sg'
    have p0 : w7.cell? ⟨B, 0, none⟩ = some (.pointer none) := by have := hC7.c 0 0 (by omega) (by omega); simpa [Cp.at, s3] using this
    have p1 : w7.cell? ⟨B, 1, none⟩ = some (.slice (d 0).sa 0 0) := by have := hC7.c 0 1 (by omega) (by omega); simpa [Cp.at, s4] using this
    have p2 : w7.cell? ⟨B, 2, none⟩ = some (.slice (d 0).na 1 1) := by have := hC7.c 0 2 (by omega) (by omega); simpa [Cp.at, s1] using this
    have p3 : w7.cell? ⟨B, 3, none⟩ = some (.int .i32 0) := by have := hC7.c 0 3 (by omega) (by omega); simpa [Cp.at] using this
    have p4 : w7.cell? ⟨B, 4, none⟩ = some (.int .u8 0) := by have := hC7.c 0 4 (by omega) (by omega); simpa [Cp.at, s2] using this
    have p5 : w7.cell? ⟨B, 5, none⟩ = some (.bool false) := by have := hC7.c 0 5 (by omega) (by omega); simpa [Cp.at] using this
    have hcase : (ana d len0 false = 1 ∧ ana d len0 true = 1) ∨ (ana d len0 false = 1 ∧ ana d len0 true = 2) := by
      rcases P2 with h | h
      · rcases P1 with h1 | h1
        · omega
        · exact .inl ⟨h1, by omega⟩
      · exact .inr h
    clear P1 P2 P3 hn hC7 hs s1 s2 s3 s4
    generalize (d 0).sa = SA at *
    generalize (d 0).na = NA at *
    rcases hcase with ⟨e1, e2⟩ | ⟨e1, e2⟩
    all_goals
      rw [e1, e2]
      clear e1 e2
      go_wp2_with fail
      go_ret
      exact ⟨by first | rfl | simp, HB7.out.alloc HB7.out.size _⟩

set_option maxRecDepth 100000 in
theorem lifted (os : Os) (started : os.Started) (H : Type) (enc : TypeId × Value → H) :
    ReturnsInHanded {} Try.checked os 6 .any (Rows.fnAnalyzeLeadingAmpersandDeclContextOnlyDemotesSpec.pre6 enc Try.prog Try.f6 Rows.fnAnalyzeLeadingAmpersandDeclContextOnlyDemotesRow.domain false) (Rows.fnAnalyzeLeadingAmpersandDeclContextOnlyDemotesSpec.post enc Try.prog Try.f6 false true false false) := by
  refine returnsInHanded_of_change (C := Try.checked) own started (by kernel_rfl) Try.func6
    (ChangeSpec.witness6 (enc := enc) (C := Try.checked) false ⟨#[], #[.slice none 0 0, .slice none 0 0, .slice none 0 0, .slice none 0 0], []⟩ 8 (by kernel_rfl) (by kernel_rfl) (by kernel_rfl) (by kernel_rfl)) ?_
  intro W base args ds gs before hval0 hW hcnd _
  have hval : ∀ (j : Nat) t v, Try.f6.params[j]? = some t → args[j]? = some v → Value.okWide Try.prog W .any base t v := hval0
  have hW' := hW
  obtain ⟨p, q, hA0, hV, rfl, hfz, hnd⟩ := hW
  have hA : DataW.TrodAll enc Try.prog W 0 (fun _ => true) true Try.f6.params.toList args.toList ds p := hA0
  rw [Try.params6] at hA hval
  obtain ⟨v0, vs0, d0, ds0, p0, q0, hargs, rfl, rfl, h0, r0⟩ := trodAll_cons hA
  obtain ⟨v1, vs1, d1, ds1, p1, q1, rfl, rfl, rfl, h1, r1⟩ := trodAll_cons r0
  obtain ⟨v2, vs2, d2, ds2, p2, q2, rfl, rfl, rfl, h2, r2⟩ := trodAll_cons r1
  obtain ⟨v3, vs3, d3, ds3, p3, q3, rfl, rfl, rfl, h3, r3⟩ := trodAll_cons r2
  obtain ⟨rfl, rfl, rfl⟩ := trodAll_nil r3
  obtain rfl : args = #[v0, v1, v2, v3] := by cases args; simp_all
  obtain ⟨rfl, rfl⟩ := trodVars_none hV
  obtain ⟨a0, len0, cap0, rfl⟩ := okWide_slice Try.underlying27 (hval 0 27 v0 rfl rfl)
  have k0 := h0
  have lt0 : ∀ x ∈ p0, x.block < W.heap.size := by obtain ⟨m, hm⟩ := k0; exact DataW.trod_lt m _ _ _ hm
  obtain ⟨z0, w0⟩ : ∃ zs, IsRow .u8 W a0 len0 cap0 zs := by
    obtain ⟨fuel, hf⟩ := h0
    rcases open_ints Try.underlying27 Try.underlying5 (by kernel_rfl) hf with ⟨hcs, _⟩ | ⟨x, l, c, zs, hcs, _, hl, hm, hz, _, hcell, hwz⟩
    · simp [Value.cells] at hcs
      obtain ⟨rfl, rfl, rfl⟩ := hcs
      exact ⟨[], .inl ⟨rfl, rfl, rfl, rfl⟩⟩
    · simp [Value.cells] at hcs
      obtain ⟨rfl, rfl, rfl⟩ := hcs
      exact ⟨zs, .inr ⟨_, rfl, hl, hm, by simpa using hz, hcell, hwz⟩⟩
  obtain ⟨a1, len1, cap1, rfl⟩ := okWide_slice Try.underlying27 (hval 1 27 v1 rfl rfl)
  have k1 := h1
  have lt1 : ∀ x ∈ p1, x.block < W.heap.size := by obtain ⟨m, hm⟩ := k1; exact DataW.trod_lt m _ _ _ hm
  obtain ⟨z1, w1⟩ : ∃ zs, IsRow .u8 W a1 len1 cap1 zs := by
    obtain ⟨fuel, hf⟩ := h1
    rcases open_ints Try.underlying27 Try.underlying5 (by kernel_rfl) hf with ⟨hcs, _⟩ | ⟨x, l, c, zs, hcs, _, hl, hm, hz, _, hcell, hwz⟩
    · simp [Value.cells] at hcs
      obtain ⟨rfl, rfl, rfl⟩ := hcs
      exact ⟨[], .inl ⟨rfl, rfl, rfl, rfl⟩⟩
    · simp [Value.cells] at hcs
      obtain ⟨rfl, rfl, rfl⟩ := hcs
      exact ⟨zs, .inr ⟨_, rfl, hl, hm, by simpa using hz, hcell, hwz⟩⟩
  obtain ⟨a2, len2, cap2, rfl⟩ := okWide_slice Try.underlying46 (hval 2 46 v2 rfl rfl)
  have k2 := h2
  have lt2 : ∀ x ∈ p2, x.block < W.heap.size := by obtain ⟨m, hm⟩ := k2; exact DataW.trod_lt m _ _ _ hm
  obtain ⟨z2, w2⟩ : ∃ zs, IsBools W a2 len2 cap2 zs := by
    obtain ⟨fuel, hf⟩ := h2
    rcases Go.Deep.open_bools Try.underlying46 Try.underlying4 (by kernel_rfl) hf with ⟨hcs, _⟩ | ⟨x, l, c, zs, hcs, _, hl, hm, _, hcell⟩
    · simp [Value.cells] at hcs
      obtain ⟨rfl, rfl, rfl⟩ := hcs
      exact ⟨fun _ => false, .inl ⟨rfl, rfl, rfl⟩⟩
    · simp [Value.cells] at hcs
      obtain ⟨rfl, rfl, rfl⟩ := hcs
      exact ⟨zs, .inr ⟨_, rfl, hl, hm, hcell⟩⟩
  obtain ⟨a3, len3, cap3, rfl⟩ := okWide_slice Try.underlying27 (hval 3 27 v3 rfl rfl)
  have k3 := h3
  have lt3 : ∀ x ∈ p3, x.block < W.heap.size := by obtain ⟨m, hm⟩ := k3; exact DataW.trod_lt m _ _ _ hm
  obtain ⟨z3, w3⟩ : ∃ zs, IsRow .u8 W a3 len3 cap3 zs := by
    obtain ⟨fuel, hf⟩ := h3
    rcases open_ints Try.underlying27 Try.underlying5 (by kernel_rfl) hf with ⟨hcs, _⟩ | ⟨x, l, c, zs, hcs, _, hl, hm, hz, _, hcell, hwz⟩
    · simp [Value.cells] at hcs
      obtain ⟨rfl, rfl, rfl⟩ := hcs
      exact ⟨[], .inl ⟨rfl, rfl, rfl, rfl⟩⟩
    · simp [Value.cells] at hcs
      obtain ⟨rfl, rfl, rfl⟩ := hcs
      exact ⟨zs, .inr ⟨_, rfl, hl, hm, by simpa using hz, hcell, hwz⟩⟩
  clear hA0 hval0
  refine (walk a0 len0 cap0 z0 a1 len1 cap1 z1 a2 len2 cap2 z2 a3 len3 cap3 z3 W w0 w1 w2 w3).mono fun e W' ⟨he, bel⟩ => ?_
  subst he
  exact ⟨_, rfl, _, _, _, [], _, [], hW', trodAll_mk1 (shut_bool Try.underlying4 _), (trodAll_cons_mk (Below.trod laidOut (by kernel_rfl) (of_decide_eq_true (by kernel_rfl)) k0 bel lt0) (trodAll_cons_mk (Below.trod laidOut (by kernel_rfl) (of_decide_eq_true (by kernel_rfl)) k1 bel lt1) (trodAll_cons_mk (Below.trod laidOut (by kernel_rfl) (of_decide_eq_true (by kernel_rfl)) k2 bel lt2) (trodAll_cons_mk (Below.trod laidOut (by kernel_rfl) (of_decide_eq_true (by kernel_rfl)) k3 bel lt3) trodAll_mk0)))), rfl, bel.frame _, fun h => by cases h⟩

theorem q0 : (Rows.fnAnalyzeLeadingAmpersandDeclContextOnlyDemotesRow.wf (OpenSpec.ofChange Rows.fnAnalyzeLeadingAmpersandDeclContextOnlyDemotesSpec)) = true := by kernel_rfl
theorem q3 : (Try.f6.params.all (Try.pinned.checked.prog.readableRec ·)) = true := by kernel_rfl
theorem q4 : (namedTie Try.pinned.checked.prog Rows.fnAnalyzeLeadingAmpersandDeclContextOnlyDemotesRow.named Rows.fnAnalyzeLeadingAmpersandDeclContextOnlyDemotesSpec.vars) = true := by kernel_rfl
theorem q5 : ((Rows.fnAnalyzeLeadingAmpersandDeclContextOnlyDemotesRow.stops == [])) = true := by kernel_rfl
theorem q7 : ((Rows.fnAnalyzeLeadingAmpersandDeclContextOnlyDemotesRow.knobs == [])) = true := by kernel_rfl
theorem q9 : ((Rows.fnAnalyzeLeadingAmpersandDeclContextOnlyDemotesRow.inPlace == Try.pinned.checked.prog.inPlace 6)) = true := by kernel_rfl
theorem q10 : ((Rows.fnAnalyzeLeadingAmpersandDeclContextOnlyDemotesRow.unfollowed == Try.pinned.checked.prog.unfollowed 6)) = true := by kernel_rfl
theorem q11 : ((Rows.fnAnalyzeLeadingAmpersandDeclContextOnlyDemotesRow.recurses == Try.pinned.checked.prog.recurses 6)) = true := by kernel_rfl
theorem q12 : ((Rows.fnAnalyzeLeadingAmpersandDeclContextOnlyDemotesRow.named == Try.pinned.checked.prog.varsNamed 6)) = true := by kernel_rfl
theorem q13 : ((Rows.fnAnalyzeLeadingAmpersandDeclContextOnlyDemotesRow.maps == (Try.f6.params.toList ++ Rows.fnAnalyzeLeadingAmpersandDeclContextOnlyDemotesSpec.plain.varTypes Try.pinned.checked.prog).any (Try.pinned.checked.prog.mapsRec ·))) = true := by kernel_rfl
theorem q14 : ((Rows.fnAnalyzeLeadingAmpersandDeclContextOnlyDemotesRow.ifaces == (Try.f6.params.toList ++ Rows.fnAnalyzeLeadingAmpersandDeclContextOnlyDemotesSpec.plain.varTypes Try.pinned.checked.prog).any (Try.pinned.checked.prog.ifacesRec ·))) = true := by kernel_rfl
theorem q15 : ((Rows.fnAnalyzeLeadingAmpersandDeclContextOnlyDemotesRow.mapsOut == Try.pinned.checked.prog.mapsAmong Try.f6.resultTypes.toList)) = true := by kernel_rfl
theorem q16 : ((Rows.fnAnalyzeLeadingAmpersandDeclContextOnlyDemotesRow.loops == (Try.f6.params.toList ++ Rows.fnAnalyzeLeadingAmpersandDeclContextOnlyDemotesSpec.plain.varTypes Try.pinned.checked.prog).any (Try.pinned.checked.prog.loopsFrom ·))) = true := by kernel_rfl
theorem q17 : ((Rows.fnAnalyzeLeadingAmpersandDeclContextOnlyDemotesRow.wideKeys == (Try.f6.params.toList ++ Rows.fnAnalyzeLeadingAmpersandDeclContextOnlyDemotesSpec.plain.varTypes Try.pinned.checked.prog ++ Try.f6.resultTypes.toList).any (Try.pinned.checked.prog.wideKeysFrom ·))) = true := by kernel_rfl
theorem q18 : (Rows.fnAnalyzeLeadingAmpersandDeclContextOnlyDemotesSpec.vars.all (Try.pinned.checked.prog.varReadable ·)) = true := by kernel_rfl
theorem q19 : (Try.f6.resultTypes.all (fun t => Try.pinned.checked.prog.readableRec t && decide (t < Try.pinned.checked.prog.types.size))) = true := by kernel_rfl
theorem q20 : ((Rows.fnAnalyzeLeadingAmpersandDeclContextOnlyDemotesRow.ifacesOut == Try.f6.resultTypes.toList.any (Try.pinned.checked.prog.ifacesRec ·))) = true := by kernel_rfl
theorem q21 : ((Rows.fnAnalyzeLeadingAmpersandDeclContextOnlyDemotesRow.loopsOut == Try.f6.resultTypes.toList.any (Try.pinned.checked.prog.loopsFrom ·))) = true := by kernel_rfl
theorem q22 : ((Rows.fnAnalyzeLeadingAmpersandDeclContextOnlyDemotesRow.plainKeys == Try.pinned.checked.prog.plainKeys)) = true := by kernel_rfl
theorem q23 : (Rows.fnAnalyzeLeadingAmpersandDeclContextOnlyDemotesRow.shortTexts.isNone) = true := by kernel_rfl
theorem q26 : ((Rows.fnAnalyzeLeadingAmpersandDeclContextOnlyDemotesRow.lifted == Try.pinned.checked.prog.liftsFinal)) = true := by rw [g26]; kernel_rfl
theorem q27 : ((Try.pinned.checked.prog.make == some Rows.fnAnalyzeLeadingAmpersandDeclContextOnlyDemotesRow.make)) = true := by rw [g27]; kernel_rfl
theorem q28 : ((Rows.fnAnalyzeLeadingAmpersandDeclContextOnlyDemotesRow.kinds == (if Rows.fnAnalyzeLeadingAmpersandDeclContextOnlyDemotesRow.domain.isEmpty then [] else Try.f6.params.toList.map fun t => match Try.pinned.checked.prog.underlying t with | some (.int k) => some k | _ => none))) = true := by kernel_rfl
theorem q29 : ((Rows.fnAnalyzeLeadingAmpersandDeclContextOnlyDemotesRow.pinned == Rows.fnAnalyzeLeadingAmpersandDeclContextOnlyDemotesRow.pinnedBy)) = true := by kernel_rfl
theorem q30 : ((Rows.fnAnalyzeLeadingAmpersandDeclContextOnlyDemotesRow.veiled == (Try.f6.params.toList ++ Rows.fnAnalyzeLeadingAmpersandDeclContextOnlyDemotesSpec.plain.varTypes Try.pinned.checked.prog ++ Try.f6.resultTypes.toList).any (Try.pinned.checked.prog.veiledRec ·))) = true := by kernel_rfl
theorem q31 : (Rows.fnAnalyzeLeadingAmpersandDeclContextOnlyDemotesRow.veiledFits Try.pinned.checked.prog Try.f6.params.toList (Try.f6.params.toList ++ Rows.fnAnalyzeLeadingAmpersandDeclContextOnlyDemotesSpec.plain.varTypes Try.pinned.checked.prog ++ Try.f6.resultTypes.toList)) = true := by kernel_rfl
set_option maxRecDepth 100000 in
theorem closed : joinedFacts Try.pinned.checked.prog 6 Try.f6 Rows.fnAnalyzeLeadingAmpersandDeclContextOnlyDemotesSpec Rows.fnAnalyzeLeadingAmpersandDeclContextOnlyDemotesRow = true :=
  (andI (andI (andI (andI (andI (andI (andI (andI (andI (andI (andI (andI (andI (andI (andI (andI (andI (andI (andI (andI (andI (andI (andI (andI (andI (andI (andI (andI (andI (andI (andI q0 g1) g2) q3) q4) q5) g6) q7) g8) q9) q10) q11) q12) q13) q14) q15) q16) q17) q18) q19) q20) q21) q22) q23) g24) g25) q26) q27) q28) q29) q30) q31)
theorem over : Rows.fnAnalyzeLeadingAmpersandDeclContextOnlyDemotesRow.holds Try.pinned (OpenSpec.ofChange Rows.fnAnalyzeLeadingAmpersandDeclContextOnlyDemotesSpec) :=
  OpenClaim.holds_of_wide 6 Try.f6 rfl rfl rfl rfl rfl rfl rfl ⟨rfl, rfl, rfl, rfl, rfl⟩ rfl rfl rfl rfl rfl (by kernel_rfl) Try.func6 closed
    (of_decide_eq_true (by kernel_rfl)) (by unfold Func.isWrapper; first | (rw [if_pos (by decide +kernel)]; kernel_rfl) | (rw [if_neg (by decide +kernel)]; exact ⟨rfl, rfl⟩))
    (fun os started H enc _ => lifted os started H enc)

theorem proved : Rows.FnAnalyzeLeadingAmpersandDeclContextOnlyDemotesSaid := over
#print axioms proved
end Go.Proofs.Ytnlohfbmknedhaa.fnAnalyzeLeadingAmpersandDeclContextOnlyDemotes
