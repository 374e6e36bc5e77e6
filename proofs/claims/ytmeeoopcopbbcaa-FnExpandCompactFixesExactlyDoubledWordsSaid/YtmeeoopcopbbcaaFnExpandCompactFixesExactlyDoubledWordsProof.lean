/-
  For every 32-bit word w, expandHex(compactHex(w)) equals w exactly when each of its four bytes has two equal hex digits. No conditions.
-/
import Derived.Test.YtmeeoopcopbbcaaRows
import Derived.WalkKit
import Derived.ProofKit
import Derived.OpenShut
import Derived.LoopTactic
import Derived.Lib.Hide
import Derived.Test.YtmeeoopcopbbcaaWalksA
namespace Go.Proofs.Ytmeeoopcopbbcaa.fnExpandCompactFixesExactlyDoubledWords
open Go.ChangeShapes Go.WideShapes Go.ChangeAt Go.RowKit
set_option linter.unusedVariables false      -- a walk need not use every 'w<i>' (that an integer argument fits its kind)

theorem nib_int (v x : Int) (i : Nat) (w : World) (h0 : 0 ≤ v) (h1 : v ≤ 4294967295) (hi : i ≤ 8) (hx : x = i) :
    Calls Try.prog 9 #[.int .u32 v, .int .i64 x] w fun e w' => e = .returned (.int .u32 (nib v i)) ∧ w = w' := by
  subst hx; exact nib_any v i w h0 h1 hi

/-- the first k bytes (from the right) have two equal digits each -/
def dbl (v : Int) : Nat → Bool
  | 0 => true
  | k + 1 => dbl v k && nib v (2 * k) == nib v (2 * k + 1)
theorem dbl_eq (v : Int) (k : Nat) (h : nib v (2 * k) = nib v (2 * k + 1)) : dbl v (k + 1) = dbl v k := by simp [dbl, h]
theorem dbl_ne (v : Int) (k : Nat) (h : ¬ nib v (2 * k) = nib v (2 * k + 1)) : dbl v (k + 1) = false := by simp [dbl, h]
theorem compact_bd (v : Int) : 0 ≤ nib v 6 * 4096 + nib v 5 * 256 + nib v 2 * 16 + nib v 1 ∧ nib v 6 * 4096 + nib v 5 * 256 + nib v 2 * 16 + nib v 1 ≤ 4294967295 := by
  have := nib_bd v 6; have := nib_bd v 5; have := nib_bd v 2; have := nib_bd v 1; omega
theorem back_iff (v : Int) (h0 : 0 ≤ v) (h1 : v ≤ 4294967295) :
    (nib (nib v 6 * 4096 + nib v 5 * 256 + nib v 2 * 16 + nib v 1) 3 * 285212672 + nib (nib v 6 * 4096 + nib v 5 * 256 + nib v 2 * 16 + nib v 1) 2 * 1114112 + nib (nib v 6 * 4096 + nib v 5 * 256 + nib v 2 * 16 + nib v 1) 1 * 4352 + nib (nib v 6 * 4096 + nib v 5 * 256 + nib v 2 * 16 + nib v 1) 0 * 17 == v) = dbl v 4 := by
  have b0 := nib_bd v 0; have b1 := nib_bd v 1; have b2 := nib_bd v 2; have b3 := nib_bd v 3
  have b4 := nib_bd v 4; have b5 := nib_bd v 5; have b6 := nib_bd v 6; have b7 := nib_bd v 7
  have hv : v = nib v 7 * 268435456 + nib v 6 * 16777216 + nib v 5 * 1048576 + nib v 4 * 65536 + nib v 3 * 4096 + nib v 2 * 256 + nib v 1 * 16 + nib v 0 := by
    rw [nib0, nib1, nib2, nib3, nib4, nib5, nib6, nib7]; omega
  obtain ⟨c, hc⟩ : ∃ c, c = nib v 6 * 4096 + nib v 5 * 256 + nib v 2 * 16 + nib v 1 := ⟨_, rfl⟩
  rw [← hc, nib0 c, nib1 c, nib2 c, nib3 c]
  have c0 : c % 16 = nib v 1 := by omega
  have c1 : c / 16 % 16 = nib v 2 := by omega
  have c2 : c / 256 % 16 = nib v 5 := by omega
  have c3 : c / 4096 % 16 = nib v 6 := by clear hv; omega
  rw [c0, c1, c2, c3, Bool.eq_iff_iff]
  simp only [dbl, Bool.true_and, Bool.and_eq_true, beq_iff_eq, Nat.reduceMul, Nat.reduceAdd]
  clear c0 c1 c2 c3 hc
  omega

theorem own : ownKnob Try.prog.godebug = none := by kernel_rfl

/-! ### STEP 1: THE WALK: the Go text returns true. 'Grown w w'': the world has at most new blocks (Derived/RowKit3.lean). Part the cases AHEAD of 'go_enter' where a test parts the walk; take each callee by a contract of your own. -/
theorem walk (a0 : Int) (w0 : (Lit.int .u32 a0).wf = true) (w : World) :
    Calls Try.prog 6 #[.int .u32 a0] w fun e w' => e = .returned (.bool true) ∧ Grown w w' := by
  have hb := bounds_u32 w0
  go_enter Try.func6, Try.ntmps6
  go_wp2
  go_loop [3, 4] (fun d i => ∃ k : Nat, k ≤ 4 ∧ i = .int .i64 k ∧ d = .bool (dbl a0 k)) (fun _ i => 4 - (intOf i).toNat)
  case atStart => exact ⟨0, by omega, rfl, rfl⟩
  case round =>
    obtain ⟨k, hk, rfl, rfl⟩ := hrel
    by_cases hlt : k < 4
    · go_wp2_with fail
      refine (nib_int a0 _ (2 * k) _ hb.1 hb.2 (by omega) (by omega)).mono ?_
      rintro e w' ⟨rfl, rfl⟩
      go_wp2_with fail
      refine (nib_int a0 _ (2 * k + 1) _ hb.1 hb.2 (by omega) (by omega)).mono ?_
      rintro e w' ⟨rfl, rfl⟩
      by_cases hq : nib a0 (2 * k) = nib a0 (2 * k + 1)
      · have H := Lib.hid hq
        have hn : (nib a0 (2 * k) != nib a0 (2 * k + 1)) = false := by rw [hq]; simp
        clear hq
        go_wp2_with fail
        go_round
        case rel => exact ⟨k + 1, by omega, by go_num, by rw [dbl_eq _ _ H.out]⟩
        case measure => simp [intOf]; omega
      · have H := Lib.hid hq
        have hn : (nib a0 (2 * k) != nib a0 (2 * k + 1)) = true := by simp [hq]
        clear hq
        go_wp2_with fail
        go_round
        case rel => exact ⟨k + 1, by omega, by go_num, by rw [dbl_ne _ _ H.out]⟩
        case measure => simp [intOf]; omega
    · obtain rfl : k = 4 := by omega
      have cb := compact_bd a0
      go_wp2_with fail
      refine (compact_any a0 _ hb.1 hb.2).mono ?_
      rintro e w' ⟨rfl, rfl⟩
      go_wp2_with fail
      refine (expand_any _ _ cb.1 cb.2).mono ?_
      rintro e w' ⟨rfl, rfl⟩
      go_wp2_with fail
      go_ret
      exact ⟨ret_bool (by rw [back_iff a0 hb.1 hb.2]; simp), Grown.refl _⟩

/-! ### THE ROW's STEP: WRITTEN OUT: LEAVE IT -/
set_option maxRecDepth 100000 in
theorem lifted (os : Os) (started : os.Started) (H : Type) (enc : TypeId × Value → H) :
    ReturnsInHanded {} Try.checked os 6 .any (Rows.fnExpandCompactFixesExactlyDoubledWordsSpec.pre6 enc Try.prog Try.f6 Rows.fnExpandCompactFixesExactlyDoubledWordsRow.domain false) (Rows.fnExpandCompactFixesExactlyDoubledWordsSpec.post enc Try.prog Try.f6 false true false false) := by
  refine returnsInHanded_of_change (C := Try.checked) own started (by kernel_rfl) Try.func6
    (ChangeSpec.witness6 (enc := enc) (C := Try.checked) false ⟨#[], #[.int .u32 0], []⟩ 8 (by kernel_rfl) (by kernel_rfl) (by kernel_rfl) (by kernel_rfl)) ?_
  intro W base args ds gs before hval0 hW hcnd _
  have hval : ∀ (j : Nat) t v, Try.f6.params[j]? = some t → args[j]? = some v → Value.okWide Try.prog W .any base t v := hval0
  have hW' := hW
  obtain ⟨p, q, hA0, hV, rfl, hfz, hnd⟩ := hW
  have hA : DataW.TrodAll enc Try.prog W 0 (fun _ => true) true Try.f6.params.toList args.toList ds p := hA0
  rw [Try.params6] at hA hval
  obtain ⟨v0, vs0, d0, ds0, p0, q0, hargs, rfl, rfl, h0, r0⟩ := trodAll_cons hA
  obtain ⟨rfl, rfl, rfl⟩ := trodAll_nil r0
  obtain rfl : args = #[v0] := by cases args; simp_all
  obtain ⟨rfl, rfl⟩ := trodVars_none hV
  obtain ⟨a0, rfl, rfl, rfl, w0⟩ := open_int Try.underlying25 (hval 0 25 v0 rfl rfl) h0
  clear hA0 hval0
  simp only [List.append_nil] at hW'
  refine (walk a0 w0 W).mono fun e W' ⟨he, hg⟩ => ?_
  subst he
  exact ⟨_, rfl, post_of_same (pa := []) (pv := []) hW' (fun _ _ _ => (trodAll_cons_mk (shut_bool Try.underlying4 _) trodAll_mk0)) (fun sp _ => (trodAll_cons_mk (shut_int Try.underlying25 w0) trodAll_mk0)) (fun _ _ => rfl) rfl
    (hg.frame _) hg.2.1 (ok_one (by kernel_rfl) rfl (okWide_bool_mk Try.underlying4 _))⟩

theorem over : Rows.fnExpandCompactFixesExactlyDoubledWordsRow.holds Try.pinned (OpenSpec.ofChange Rows.fnExpandCompactFixesExactlyDoubledWordsSpec) :=
  OpenClaim.holds_of_wide 6 Try.f6 rfl rfl rfl rfl rfl rfl rfl ⟨rfl, rfl, rfl, rfl, rfl⟩ rfl rfl rfl rfl rfl (by kernel_rfl) Try.func6 (by kernel_rfl)
    (of_decide_eq_true (by kernel_rfl)) (by unfold Func.isWrapper; first | (rw [if_pos (by decide +kernel)]; kernel_rfl) | (rw [if_neg (by decide +kernel)]; exact ⟨rfl, rfl⟩))
    (fun os started H enc _ => lifted os started H enc)

/-- ████ THE STATEMENT ████ -/
theorem proved : Rows.FnExpandCompactFixesExactlyDoubledWordsSaid :=
  over
#print axioms proved
end Go.Proofs.Ytmeeoopcopbbcaa.fnExpandCompactFixesExactlyDoubledWords
