/-
  The greedy run of combinators: proof of the law FnParseCombinatorGreedyRun. No conditions.
-/
import Derived.Test.YtnlohfbmknedhaaIo
import Derived.WalkKit
import Derived.ProofKit
import Derived.OpenShut
import Derived.ShutString
import Derived.ChangeOld
import Derived.Below
import Derived.WalkLawsBesides
import Derived.Test.YtnlohfbmknedhaaWl
namespace Go.Proofs.Ytnlohfbmknedhaa.fnParseCombinatorGreedyRun
open Go.ChangeShapes Go.WideShapes Go.ChangeAt Go.RowKit
open Go.ChangeMaps (open_string shut_string)
set_option linter.unusedVariables false

theorem own : ownKnob Try.prog.godebug = none := by kernel_rfl
theorem laidOut : laidOutB Try.prog = true := by kernel_rfl

/-- the combinators from x on: k of them -/
def Run (z : List Int) (x k : Nat) : Prop := ∀ j, j < k → cb (z.getD (x + j) 0) ≠ 0
theorem Run.next {z : List Int} {x k : Nat} (h : Run z x k) (h0 : cb (z.getD (x + k) 0) ≠ 0) : Run z x (k + 1) := by
  intro i hi
  by_cases e : i = k
  · subst e; exact h0
  · exact h i (by omega)
structure C1 (w : World) (n x : Nat) (z : List Int) (run : Value) (wr : World) : Prop where
  ex : ∃ k : Nat, x + k ≤ n ∧ run = .int .i64 k ∧ wr = w ∧ Run z x k
def fC (z : List Int) (n : Nat) : Nat → Tk := tkOf z (lst n fun i => 3 * i + 1) (lst n fun _ => 1)
structure C2 (wc : World) (p : Nat) (s : ByteArray) (r n x run : Nat) (z : List Int) (i : Value) (wr : World) : Prop where
  ex : ∃ k j : Nat, k ≤ run + 1 ∧ i = .int .i64 k ∧ ((k ≤ run ∧ j = x + k) ∨ (k = run + 1 ∧ j = x + run)) ∧ Psr wr p s r n (fC z n) (j : Nat) ∧ Below wc.heap.size wc wr
theorem fC_s (z : List Int) (n x k : Nat) (h : x + k < n) : (fC z n (x + k)).s = 3 * ((x : Int) + k) + 1 := by
  show (lst n fun i => 3 * (i : Int) + 1).getD (x + k) 0 = _
  rw [lst_at _ _ _ h]; omega

set_option maxRecDepth 20000 in
set_option maxHeartbeats 3000000 in
theorem walk (a0 : Option Addr) (len0 cap0 : Nat) (z0 : List Int) (a1 : Int) (w : World) (w0 : IsRow .u8 w a0 len0 cap0 z0) (w1 : (Lit.int .i64 a1).wf = true) :
    Calls Try.prog 5 #[.slice a0 len0 cap0, .int .i64 a1] w fun e w' => e = .returned (.bool true) ∧ Below w.heap.size w w' := by
  obtain ⟨r0, m0⟩ := w0.row
  clear w0
  have R0 := Lib.hid r0
  clear r0
  go_enter Try.func5, Try.ntmps5
  go_wp2_with fail
  refine (bytes18 a0 len0 cap0 a1 w m0).mono ?_
  rintro e wx ⟨rfl, hw⟩
  obtain rfl := hw.symm
  by_cases hB : len0 ≤ 1048576
  case neg =>
    rw [decide_eq_false hB]
    go_wp2
    go_ret
    exact ⟨rfl, Below.refl _ _⟩
  rw [decide_eq_true hB]
  by_cases hL : len0 ≤ 65536
  case neg =>
    go_wp2
    go_ret
    exact ⟨rfl, Below.refl _ _⟩
  by_cases hi0 : a1 < 0
  case pos =>
    go_wp2
    go_ret
    exact ⟨rfl, Below.refl _ _⟩
  by_cases hi1 : a1 ≤ len0
  case neg =>
    go_wp2
    go_ret
    exact ⟨rfl, Below.refl _ _⟩
  obtain ⟨x, rfl⟩ := Int.eq_ofNat_of_zero_le (show 0 ≤ a1 by omega)
  have hx : x ≤ len0 := by omega
  clear hi0 hi1 w1
  go_wp2_with fail
  refine (copy19 a0 len0 cap0 z0 _ hB R0.out).mono ?_
  rintro e wc hcop
  obtain ⟨a', rfl, hrow, hbc⟩ := hcop.ex
  have RC := Lib.hid hrow
  have BC := Lib.hid hbc
  clear hcop hrow hbc R0
  go_wp2_with fail
  go_loopw [5] (fun run wr => C1 wc len0 x z0 run wr) (fun run _ => len0 - (intOf run).toNat)
  case atStart => exact ⟨0, by omega, rfl, rfl, fun j hj => by omega⟩
  case round =>
    obtain ⟨k, hk, rfl, hww, hN⟩ := hrel.ex
    clear hrel
    obtain rfl := hww.symm
    clear hww
    have HN := Lib.hid hN
    clear hN
    have stop : x + k = len0 ∨ (x + k < len0 ∧ cb (z0.getD (x + k) 0) = 0) ∨ (x + k < len0 ∧ cb (z0.getD (x + k) 0) ≠ 0) := by
      by_cases e : x + k = len0
      · exact .inl e
      · by_cases e2 : cb (z0.getD (x + k) 0) = 0
        · exact .inr (.inl ⟨by omega, e2⟩)
        · exact .inr (.inr ⟨by omega, e2⟩)
    rcases stop with stop | stop | ⟨hlt, hcb⟩
    case inr.inr =>
      obtain ⟨b1, o1, ha, l1, q1⟩ := RC.out.cell (by omega)
      have c1 := q1 (x + k) hlt
      have HX := Lib.hid (HN.out.next hcb)
      clear q1
      subst ha
      generalize z0.getD (x + k) 0 = X at *
      go_wp2_with (go_at_call 20; refine (comb20 _ _).mono ?_; rintro e w' ⟨rfl, hw'⟩; obtain rfl := hw'.symm)
      go_roundw
      case rel => exact ⟨k + 1, by omega, by go_num, rfl, HX.out⟩
      case measure => simp [intOf]; omega
    case' inl =>
      have HSt := Lib.hid (show cb (cur ⟨#[]⟩ len0 (fC z0 len0) (x + k)).k = 0 by rw [cur, if_neg (by omega)]; rfl)
      go_wp2_with fail
    case' inr.inl =>
      obtain ⟨hlt, hcb⟩ := stop
      have HSt := Lib.hid (show cb (cur ⟨#[]⟩ len0 (fC z0 len0) (x + k)).k = 0 by rw [cur, if_pos hlt]; exact hcb)
      obtain ⟨b1, o1, ha, l1, q1⟩ := RC.out.cell (by omega)
      have c1 := q1 (x + k) hlt
      clear q1
      subst ha
      have HCB := Lib.hid hcb
      clear hcb
      generalize z0.getD (x + k) 0 = X at *
      go_wp2_with (go_at_call 20; refine (comb20 _ _).mono ?_; rw [HCB.out]; rintro e w' ⟨rfl, hw'⟩; obtain rfl := hw'.symm)
      clear c1 HCB
    all_goals
      refine (pos21 len0 _ hL).mono ?_
      rintro e wq ⟨rfl, h1, h2, hbq⟩
      have R1 := Lib.hid h1
      have R2 := Lib.hid h2
      have RQ := Lib.hid (RC.out.below (Nat.le_refl _) hbq)
      have BQ := Lib.hid hbq
      have sq := hbq.size
      clear h1 h2 hbq
      go_wp2_with fail
      have hs0 : ByteArray.size ⟨#[]⟩ ≤ 1048576 := by decide
      with_reducible refine (new22 ⟨#[]⟩ _ _ _ len0 len0 len0 len0 z0 (lst len0 fun i => 3 * i + 1) (lst len0 fun _ => 1) x 0 false false _ hs0 hB RQ.out R1.out R2.out).mono ?_
      rintro e wp ⟨p, rfl, hp, hP, hbp⟩
      have H0 := Lib.hid (⟨⟨0, x, by omega, rfl, .inl ⟨by omega, rfl⟩, hP, BQ.out.trans (hbp.mono sq)⟩⟩ : C2 wc p ⟨#[]⟩ wq.heap.size len0 x k z0 (.int .i64 (0 : Nat)) wp)
      have hcp : wc.heap.size ≤ p := by omega
      clear hP hbp R1 R2 RQ BQ
      generalize wq.heap.size = q at *
      go_wp2_with fail
      go_loopw [9, 10, 11] (fun i _ _ wr => C2 wc p ⟨#[]⟩ q len0 x k z0 i wr) (fun i _ _ _ => k + 1 - (intOf i).toNat)
      case atStart => exact H0.out
      case round =>
        obtain ⟨m, j, hm, rfl, hj, hP, hbl⟩ := hrel.ex
        clear hrel H0
        have HP := Lib.hid hP
        have HB := Lib.hid hbl
        clear hP hbl
        by_cases hle : m ≤ k
        · obtain rfl : j = x + m := by omega
          clear hj
          by_cases hlt : m < k
          · have hcb := HN.out m hlt
            have hin : x + m < len0 := by omega
            go_wp2_with fail
            refine (zcomb23_yes p ⟨#[]⟩ q len0 (fC z0 len0) (x + m) wr HP.out hin hcb).mono ?_
            rw [fC_s z0 len0 x m hin]
            rintro e w2 ⟨rfl, hg⟩
            have hb2 := hg.kept _ _ hcp HB.out
            obtain ⟨b1, o1, ha, l1, q1⟩ := (RC.out.below (Nat.le_refl _) hb2).cell (by omega)
            have c1 := q1 (x + m) hin
            have HG := Lib.hid hg.psr
            have HB2 := Lib.hid hb2
            have hK : (fC z0 len0 (x + m)).k = z0.getD (x + m) 0 := rfl
            rw [hK]
            first | subst ha | (have ha' := Option.some.inj ha; injection ha' with e1 e2; subst e1; subst e2)
            clear q1 hg hb2 hcb HP HB hK
            generalize z0.getD (x + m) 0 = X at *
            go_wp2_with (go_at_call 20; refine (comb20 _ _).mono ?_; rintro e w' ⟨rfl, hw'⟩; obtain rfl := hw'.symm)
            go_roundw
            case rel => exact ⟨m + 1, x + m + 1, by omega, by go_num, .inl ⟨by omega, by omega⟩, HG.out, HB2.out⟩
            case measure => simp [intOf]; omega
          · obtain rfl : m = k := by omega
            go_wp2_with fail
            refine (zcomb23_no p ⟨#[]⟩ q len0 (fC z0 len0) (x + m) wr HP.out (by omega) HSt.out).mono ?_
            rintro e w2 ⟨rfl, hb2⟩
            have HG := Lib.hid (HP.out.call hb2)
            have HB2 := Lib.hid (HB.out.trans (hb2.mono HB.out.size))
            clear hb2 HP HB
            go_wp2_with fail
            go_roundw
            case rel => exact ⟨m + 1, x + m, by omega, by go_num, .inr ⟨by omega, by omega⟩, HG.out, HB2.out⟩
            case measure => first | (simp [intOf]; done) | (simp [intOf]; omega)
        · obtain rfl : m = k + 1 := by omega
          obtain rfl : j = x + k := by omega
          clear hj
          go_wp2_with fail
          refine (index24 _ _ _ _ _ _ _ HP.out).mono ?_
          rintro e w3 ⟨rfl, hw3⟩
          obtain rfl := hw3.symm
          have HBW := Lib.hid (BC.out.trans (HB.out.mono BC.out.size))
          clear HP HB BC RC
          go_wp2
          go_ret
          exact ⟨by first | rfl | (simp; done) | (simp; omega), HBW.out⟩

set_option maxRecDepth 100000 in
theorem lifted (os : Os) (started : os.Started) (H : Type) (enc : TypeId × Value → H) :
    ReturnsInHanded {} Try.checked os 5 .any (Rows.fnParseCombinatorGreedyRunSpec.pre6 enc Try.prog Try.f5 Rows.fnParseCombinatorGreedyRunRow.domain false) (Rows.fnParseCombinatorGreedyRunSpec.post enc Try.prog Try.f5 false true false false) := by
  refine returnsInHanded_of_change (C := Try.checked) own started (by kernel_rfl) Try.func5
    (ChangeSpec.witness6 (enc := enc) (C := Try.checked) false ⟨#[], #[.slice none 0 0, .int .i64 0], []⟩ 8 (by kernel_rfl) (by kernel_rfl) (by kernel_rfl) (by kernel_rfl)) ?_
  intro W base args ds gs before hval0 hW hcnd _
  have hval : ∀ (j : Nat) t v, Try.f5.params[j]? = some t → args[j]? = some v → Value.okWide Try.prog W .any base t v := hval0
  have hW' := hW
  obtain ⟨p, q, hA0, hV, rfl, hfz, hnd⟩ := hW
  have hA : DataW.TrodAll enc Try.prog W 0 (fun _ => true) true Try.f5.params.toList args.toList ds p := hA0
  rw [Try.params5] at hA hval
  obtain ⟨v0, vs0, d0, ds0, p0, q0, hargs, rfl, rfl, h0, r0⟩ := trodAll_cons hA
  obtain ⟨v1, vs1, d1, ds1, p1, q1, rfl, rfl, rfl, h1, r1⟩ := trodAll_cons r0
  obtain ⟨rfl, rfl, rfl⟩ := trodAll_nil r1
  obtain rfl : args = #[v0, v1] := by cases args; simp_all
  obtain ⟨rfl, rfl⟩ := trodVars_none hV
  obtain ⟨a0, len0, cap0, rfl⟩ := okWide_slice Try.underlying27 (hval 0 27 v0 rfl rfl)
  have k0 := h0
  have lt0 : ∀ x ∈ p0, x.block < W.heap.size := by obtain ⟨m, hm⟩ := k0; exact DataW.trod_lt m _ _ _ hm
  obtain ⟨z0, w0⟩ : ∃ zs, IsRow .u8 W a0 len0 cap0 zs := by
    obtain ⟨fuel, hf⟩ := h0
    rcases open_ints Try.underlying27 Try.underlying5 (by kernel_rfl) hf with ⟨hcs, _⟩ | ⟨x, l, c, zs, hcs, _, hl, hm, hz, _, hcell, hwz⟩
    · simp [Value.cells] at hcs
      obtain ⟨rfl, rfl, rfl⟩ := hcs
      exact ⟨[], .inl ⟨rfl, rfl, rfl, rfl⟩⟩
    · simp [Value.cells] at hcs
      obtain ⟨rfl, rfl, rfl⟩ := hcs
      exact ⟨zs, .inr ⟨_, rfl, hl, hm, by simpa using hz, hcell, hwz⟩⟩
  obtain ⟨a1, rfl, rfl, rfl, w1⟩ := open_int Try.underlying3 (hval 1 3 v1 rfl rfl) h1
  clear hA0 hval0
  refine (walk a0 len0 cap0 z0 a1 W w0 w1).mono fun e W' ⟨he, bel⟩ => ?_
  subst he
  exact ⟨_, rfl, _, _, _, [], _, [], hW', trodAll_mk1 (shut_bool Try.underlying4 _), (trodAll_cons_mk (Below.trod laidOut (by kernel_rfl) (of_decide_eq_true (by kernel_rfl)) k0 bel lt0) (trodAll_cons_mk (shut_int Try.underlying3 w1) trodAll_mk0)), rfl, bel.frame _, fun h => by cases h⟩

theorem q0 : (Rows.fnParseCombinatorGreedyRunRow.wf (OpenSpec.ofChange Rows.fnParseCombinatorGreedyRunSpec)) = true := by kernel_rfl
theorem q3 : (Try.f5.params.all (Try.pinned.checked.prog.readableRec ·)) = true := by kernel_rfl
theorem q4 : (namedTie Try.pinned.checked.prog Rows.fnParseCombinatorGreedyRunRow.named Rows.fnParseCombinatorGreedyRunSpec.vars) = true := by kernel_rfl
theorem q5 : ((Rows.fnParseCombinatorGreedyRunRow.stops == [])) = true := by kernel_rfl
theorem q7 : ((Rows.fnParseCombinatorGreedyRunRow.knobs == [])) = true := by kernel_rfl
theorem q9 : ((Rows.fnParseCombinatorGreedyRunRow.inPlace == Try.pinned.checked.prog.inPlace 5)) = true := by kernel_rfl
theorem q10 : ((Rows.fnParseCombinatorGreedyRunRow.unfollowed == Try.pinned.checked.prog.unfollowed 5)) = true := by kernel_rfl
theorem q11 : ((Rows.fnParseCombinatorGreedyRunRow.recurses == Try.pinned.checked.prog.recurses 5)) = true := by kernel_rfl
theorem q12 : ((Rows.fnParseCombinatorGreedyRunRow.named == Try.pinned.checked.prog.varsNamed 5)) = true := by kernel_rfl
theorem q13 : ((Rows.fnParseCombinatorGreedyRunRow.maps == (Try.f5.params.toList ++ Rows.fnParseCombinatorGreedyRunSpec.plain.varTypes Try.pinned.checked.prog).any (Try.pinned.checked.prog.mapsRec ·))) = true := by kernel_rfl
theorem q14 : ((Rows.fnParseCombinatorGreedyRunRow.ifaces == (Try.f5.params.toList ++ Rows.fnParseCombinatorGreedyRunSpec.plain.varTypes Try.pinned.checked.prog).any (Try.pinned.checked.prog.ifacesRec ·))) = true := by kernel_rfl
theorem q15 : ((Rows.fnParseCombinatorGreedyRunRow.mapsOut == Try.pinned.checked.prog.mapsAmong Try.f5.resultTypes.toList)) = true := by kernel_rfl
theorem q16 : ((Rows.fnParseCombinatorGreedyRunRow.loops == (Try.f5.params.toList ++ Rows.fnParseCombinatorGreedyRunSpec.plain.varTypes Try.pinned.checked.prog).any (Try.pinned.checked.prog.loopsFrom ·))) = true := by kernel_rfl
theorem q17 : ((Rows.fnParseCombinatorGreedyRunRow.wideKeys == (Try.f5.params.toList ++ Rows.fnParseCombinatorGreedyRunSpec.plain.varTypes Try.pinned.checked.prog ++ Try.f5.resultTypes.toList).any (Try.pinned.checked.prog.wideKeysFrom ·))) = true := by kernel_rfl
theorem q18 : (Rows.fnParseCombinatorGreedyRunSpec.vars.all (Try.pinned.checked.prog.varReadable ·)) = true := by kernel_rfl
theorem q19 : (Try.f5.resultTypes.all (fun t => Try.pinned.checked.prog.readableRec t && decide (t < Try.pinned.checked.prog.types.size))) = true := by kernel_rfl
theorem q20 : ((Rows.fnParseCombinatorGreedyRunRow.ifacesOut == Try.f5.resultTypes.toList.any (Try.pinned.checked.prog.ifacesRec ·))) = true := by kernel_rfl
theorem q21 : ((Rows.fnParseCombinatorGreedyRunRow.loopsOut == Try.f5.resultTypes.toList.any (Try.pinned.checked.prog.loopsFrom ·))) = true := by kernel_rfl
theorem q22 : ((Rows.fnParseCombinatorGreedyRunRow.plainKeys == Try.pinned.checked.prog.plainKeys)) = true := by kernel_rfl
theorem q23 : (Rows.fnParseCombinatorGreedyRunRow.shortTexts.isNone) = true := by kernel_rfl
theorem q26 : ((Rows.fnParseCombinatorGreedyRunRow.lifted == Try.pinned.checked.prog.liftsFinal)) = true := by rw [g26]; kernel_rfl
theorem q27 : ((Try.pinned.checked.prog.make == some Rows.fnParseCombinatorGreedyRunRow.make)) = true := by rw [g27]; kernel_rfl
theorem q28 : ((Rows.fnParseCombinatorGreedyRunRow.kinds == (if Rows.fnParseCombinatorGreedyRunRow.domain.isEmpty then [] else Try.f5.params.toList.map fun t => match Try.pinned.checked.prog.underlying t with | some (.int k) => some k | _ => none))) = true := by kernel_rfl
theorem q29 : ((Rows.fnParseCombinatorGreedyRunRow.pinned == Rows.fnParseCombinatorGreedyRunRow.pinnedBy)) = true := by kernel_rfl
theorem q30 : ((Rows.fnParseCombinatorGreedyRunRow.veiled == (Try.f5.params.toList ++ Rows.fnParseCombinatorGreedyRunSpec.plain.varTypes Try.pinned.checked.prog ++ Try.f5.resultTypes.toList).any (Try.pinned.checked.prog.veiledRec ·))) = true := by kernel_rfl
theorem q31 : (Rows.fnParseCombinatorGreedyRunRow.veiledFits Try.pinned.checked.prog Try.f5.params.toList (Try.f5.params.toList ++ Rows.fnParseCombinatorGreedyRunSpec.plain.varTypes Try.pinned.checked.prog ++ Try.f5.resultTypes.toList)) = true := by kernel_rfl
set_option maxRecDepth 100000 in
theorem closed : joinedFacts Try.pinned.checked.prog 5 Try.f5 Rows.fnParseCombinatorGreedyRunSpec Rows.fnParseCombinatorGreedyRunRow = true :=
  (andI (andI (andI (andI (andI (andI (andI (andI (andI (andI (andI (andI (andI (andI (andI (andI (andI (andI (andI (andI (andI (andI (andI (andI (andI (andI (andI (andI (andI (andI (andI q0 g1) g2) q3) q4) q5) g6) q7) g8) q9) q10) q11) q12) q13) q14) q15) q16) q17) q18) q19) q20) q21) q22) q23) g24) g25) q26) q27) q28) q29) q30) q31)
theorem over : Rows.fnParseCombinatorGreedyRunRow.holds Try.pinned (OpenSpec.ofChange Rows.fnParseCombinatorGreedyRunSpec) :=
  OpenClaim.holds_of_wide 5 Try.f5 rfl rfl rfl rfl rfl rfl rfl ⟨rfl, rfl, rfl, rfl, rfl⟩ rfl rfl rfl rfl rfl (by kernel_rfl) Try.func5 closed
    (of_decide_eq_true (by kernel_rfl)) (by unfold Func.isWrapper; first | (rw [if_pos (by decide +kernel)]; kernel_rfl) | (rw [if_neg (by decide +kernel)]; exact ⟨rfl, rfl⟩))
    (fun os started H enc _ => lifted os started H enc)

theorem proved : Rows.FnParseCombinatorGreedyRunSaid := over
#print axioms proved
end Go.Proofs.Ytnlohfbmknedhaa.fnParseCombinatorGreedyRun
