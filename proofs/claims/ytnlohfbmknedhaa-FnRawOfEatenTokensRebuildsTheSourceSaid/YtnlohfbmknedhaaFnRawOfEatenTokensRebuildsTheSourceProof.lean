/-
  Raw of the eaten tokens rebuilds the source: proof of the law FnRawOfEatenTokensRebuildsTheSource. No conditions.
-/
import Derived.Test.YtnlohfbmknedhaaIo
import Derived.WalkKit
import Derived.ProofKit
import Derived.OpenShut
import Derived.ShutString
import Derived.ChangeOld
import Derived.Below
import Derived.WalkLawsBesides
import Derived.Test.YtnlohfbmknedhaaWe
namespace Go.Proofs.Ytnlohfbmknedhaa.fnRawOfEatenTokensRebuildsTheSource
open Go.ChangeShapes Go.WideShapes Go.ChangeAt Go.RowKit
open Go.ChangeMaps (open_string shut_string)
set_option linter.unusedVariables false

theorem own : ownKnob Try.prog.godebug = none := by kernel_rfl
theorem laidOut : laidOutB Try.prog = true := by kernel_rfl

/-- the sum of the first k numbers -/
def pre (z : List Int) : Nat → Int
  | 0 => 0
  | k + 1 => pre z k + z.getD k 0
def NN (z : List Int) (k : Nat) : Prop := ∀ i, i < k → 0 ≤ z.getD i 0
theorem NN.next {z : List Int} {k : Nat} (h : NN z k) (h0 : 0 ≤ z.getD k 0) : NN z (k + 1) := by
  intro i hi
  by_cases e : i = k
  · subst e; exact h0
  · exact h i (by omega)
theorem pre_pos {z : List Int} {k : Nat} (h : NN z k) : 0 ≤ pre z k := by
  induction k with
  | zero => simp [pre]
  | succ k ih =>
    have h1 := ih (fun i hi => h i (by omega))
    have h2 := h k (by omega)
    simp only [pre]
    omega
theorem pre_mono {z : List Int} {n : Nat} (h : NN z n) (k : Nat) (hk : k ≤ n) : pre z k ≤ pre z n := by
  induction n with
  | zero => have : k = 0 := by omega
            subst this; exact Int.le_refl _
  | succ n ih =>
    by_cases e : k = n + 1
    · subst e; exact Int.le_refl _
    · have h1 := ih (fun i hi => h i (by omega)) (by omega)
      have h2 := h n (by omega)
      simp only [pre]
      omega
theorem pre_bd {z : List Int} {k : Nat} (h : ∀ i, i < k → z.getD i 0 ≤ 2147483647) : pre z k ≤ 2147483647 * k := by
  induction k with
  | zero => simp [pre]
  | succ k ih =>
    have h1 := ih (fun i hi => h i (by omega))
    have h2 := h k (by omega)
    simp only [pre]
    omega
def fR (z : List Int) (i : Nat) : Tk := ⟨pre z i, z.getD i 0, 29⟩

structure L1 (w : World) (n : Nat) (z : List Int) (sum j : Value) (wr : World) : Prop where
  ex : ∃ k : Nat, k ≤ n ∧ j = .int .i64 k ∧ sum = .int .i64 (pre z k) ∧ wr = w ∧ NN z k
structure L2 (w : World) (n : Nat) (z : List Int) (a j : Value) (wr : World) : Prop where
  ex : ∃ k : Nat, k ≤ n ∧ j = .int .i64 k ∧ a = .int .i32 (pre z k) ∧ TkS w n k (fR z) wr
structure L3 (w : World) (p : Nat) (s : ByteArray) (r n : Nat) (z : List Int) (pos j : Value) (wr : World) : Prop where
  ex : ∃ k : Nat, k ≤ n ∧ j = .int .i64 k ∧ pos = .int .i64 (pre z k) ∧ Psr wr p s r n (fR z) k ∧ Below w.heap.size w wr
structure L4 (w : World) (a b : Nat) (pos q : Value) (wr : World) : Prop where
  ex : ∃ m t : Nat, m ≤ b ∧ q = .int .i64 m ∧ pos = .int .i64 ((a + m : Nat) : Int) ∧ wr = w.drewN t

theorem cut_size (s : ByteArray) (a b : Nat) (h : a + b ≤ s.size) : (s.extract a (a + b)).size = b := by
  rw [ByteArray.size_extract]; omega
theorem cut_at (s : ByteArray) (a b m : Nat) (h : a + b ≤ s.size) (hm : m < b) (h1 : m < (s.extract a (a + b)).size) (h2 : a + m < s.size) : (s.extract a (a + b))[m]'h1 = s[a + m]'h2 := by
  first | (simp; done) | (rw [ByteArray.getElem_extract]) | (show (s.extract a (a + b)).data[m]'h1 = s.data[a + m]'h2; simp [ByteArray.data_extract])

theorem index_str (s : ByteArray) (m : Nat) (h : m < s.size) (w' : World) : (Instr.index 9 (.string s) (.int .i64 (m : Int))).run Try.prog w' = .ok (.int .u8 (s[m]'h).toNat) w' := by
  rw [run_index_string _ _ _ _ _ Try.underlying9, dif_pos ⟨by omega, by omega⟩]
  simp

attribute [local go_sem] make31 in
set_option maxRecDepth 20000 in
set_option maxHeartbeats 8000000 in
theorem walk (a0 : ByteArray) (a1 : Option Addr) (len1 cap1 : Nat) (z1 : List Int) (w : World) (w0 : a0.size ≤ maxLen) (w1 : IsRow .i32 w a1 len1 cap1 z1) :
    Calls Try.prog 7 #[.string a0, .slice a1 len1 cap1] w fun e w' => e = .returned (.bool true) ∧ Below w.heap.size w w' := by
  obtain ⟨r1, m1⟩ := w1.row
  clear w1
  have R1 := Lib.hid r1
  clear r1
  go_enter Try.func7, Try.ntmps7
  go_wp2_with fail
  refine (bytes29 a0 a1 len1 cap1 w w0 m1).mono ?_
  rintro e wx ⟨rfl, hw⟩
  obtain rfl := hw.symm
  by_cases hB : a0.size + len1 ≤ 1048576
  case neg =>
    rw [decide_eq_false hB]
    go_wp2
    go_ret
    exact ⟨rfl, Below.refl _ _⟩
  rw [decide_eq_true hB]
  by_cases hL : len1 ≤ 262144
  case neg =>
    go_wp2
    go_ret
    exact ⟨rfl, Below.refl _ _⟩
  by_cases hS : a0.size + 4 * len1 ≤ 1048576
  case neg =>
    have hS' : ¬ ((a0.size : Int) + 4 * len1 ≤ 1048576) := by omega
    go_wp2
    go_ret
    exact ⟨rfl, Below.refl _ _⟩
  have hS' : (a0.size : Int) + 4 * len1 ≤ 1048576 := by omega
  go_wp2_with fail
  go_loopw [5, 6] (fun su j wr => L1 w len1 z1 su j wr) (fun _ j _ => len1 - (intOf j).toNat)
  case atStart => exact ⟨0, by omega, rfl, rfl, rfl, fun i hi => by omega⟩
  case round =>
    obtain ⟨k, hk, rfl, rfl, hww, hN⟩ := hrel.ex
    clear hrel
    obtain rfl := hww.symm
    clear hww
    have hp0 := pre_pos hN
    have hp1 : pre z1 k ≤ 2147483647 * k := pre_bd (fun i hi => (wf_i32 (R1.out.wf i (by omega))).2)
    have HN := Lib.hid hN
    clear hN
    by_cases hlt : k < len1
    · obtain ⟨b1, o1, rfl, l1, q1⟩ := R1.out.cell (by omega)
      have c1 := q1 k hlt
      obtain ⟨x1, y1⟩ := wf_i32 (R1.out.wf k hlt)
      have HP := Lib.hid (show pre z1 (k + 1) = pre z1 k + z1.getD k 0 from rfl)
      have HX := Lib.hid (fun h => HN.out.next (z := z1) (k := k) h)
      clear q1
      generalize z1.getD k 0 = X at *
      generalize pre z1 k = S at *
      by_cases hX : X < 0
      · go_wp2
        go_ret
        exact ⟨rfl, Below.refl _ _⟩
      · go_wp2_with fail
        go_roundw
        case rel => exact ⟨k + 1, by omega, by go_num, by rw [HP.out], rfl, HX.out (by omega)⟩
        case measure => simp [intOf]; omega
    · have e : k = len1 := by omega
      subst e
      by_cases hE : pre z1 k = a0.size
      · have hn : k ≤ 1048576 := by omega
        have HE := Lib.hid hE
        have HA := Lib.hid (toksOf_start k (fR z1) w)
        rw [hE]
        clear hp0 hp1 hE
        go_wp2_with fail
        go_loopw [9, 10] (fun a j wr => L2 w k z1 a j wr) (fun _ j _ => k - (intOf j).toNat)
        case atStart => exact ⟨0, by omega, rfl, rfl, HA.out⟩
        case round =>
          obtain ⟨i, hi, rfl, rfl, hT⟩ := hrel.ex
          clear hrel HA
          have hp0 := pre_pos (z := z1) (k := i) (fun q hq => HN.out q (by omega))
          have hp1 : pre z1 i ≤ a0.size := by rw [← HE.out]; exact pre_mono HN.out i (by omega)
          by_cases hlt2 : i < k
          · obtain ⟨b1, o1, rfl, l1, q1⟩ := R1.out.cell (by omega)
            have c1 : wr.cell? ⟨b1, o1 + i, none⟩ = some (.int .i32 (z1.getD i 0)) := by rw [hT.below.cell (p := ⟨b1, o1 + i, none⟩) l1]; exact q1 i hlt2
            have hx0 := HN.out i hlt2
            have hx1 : pre z1 i + z1.getD i 0 ≤ a0.size := by rw [← HE.out]; exact pre_mono HN.out (i + 1) (by omega)
            have HP := Lib.hid (show pre z1 (i + 1) = pre z1 i + z1.getD i 0 from rfl)
            have hsz := hT.size
            have HT := Lib.hid hT
            have hx : ∀ wx, TkS w k i (fR z1) wx → TkS w k (i + 1) (fR z1) (put5 w.heap.size (i * 5) (.int .i32 (pre z1 i)) (.int .i32 (z1.getD i 0)) (.int .u16 0) (.int .u8 29) (.int .u8 0) wx) := fun wx h => h.next hlt2
            have HX := Lib.hid hx
            clear hx
            clear hT q1
            have hne : b1 ≠ w.heap.size := by omega
            generalize z1.getD i 0 = X at *
            generalize pre z1 i = S at *
            go_wp2_with fail
            refine (tok30 29 S X wr).mono ?_
            rintro e w2 ⟨rfl, hb⟩
            have h2 := HT.out.call hb
            have c2 : w2.cell? ⟨b1, o1 + i, none⟩ = some (.int .i32 X) := by rw [hb.cell (p := ⟨b1, o1 + i, none⟩) (by show b1 < _; omega)]; exact c1
            obtain ⟨v0, y0⟩ := h2.c (i * 5) (by omega)
            obtain ⟨v1, y1⟩ := h2.c (i * 5 + 1) (by omega)
            obtain ⟨v2, y2⟩ := h2.c (i * 5 + 2) (by omega)
            obtain ⟨v3, y3⟩ := h2.c (i * 5 + 3) (by omega)
            obtain ⟨v4, y4⟩ := h2.c (i * 5 + 4) (by omega)
            have zz := h2.z
            have HY := Lib.hid (HX.out w2 h2)
            clear HX h2 hb HT c1
            go_wp2_with fail
            go_roundw
            case rel => exact ⟨i + 1, by omega, by go_num, by rw [HP.out], HY.out⟩
            case measure => simp [intOf]; omega
          · have e2 : i = k := by omega
            subst e2
            have HT := Lib.hid hT
            clear hT
            go_wp2_with fail
            refine (new15 a0 i (fR z1) 0 w wr HT.out (by omega) (by omega)).mono ?_
            rintro e wp ⟨rfl, hP, hbt⟩
            have hle : w.heap.size ≤ wr.heap.size := by have := HT.out.size; omega
            have hbp : Below w.heap.size w wp := HT.out.below.trans (hbt.mono hle)
            clear HT hbt hp0 hp1
            generalize wr.heap.size = p at *
            have H0 := Lib.hid (⟨⟨0, by omega, rfl, rfl, hP, hbp⟩⟩ : L3 w p a0 w.heap.size i z1 (.int .i64 0) (.int .i64 0) wp)
            clear hP hbp
            go_wp2_with fail
            go_loopw [12, 13, 14, 15] (fun pos j _ _ wz => L3 w p a0 w.heap.size i z1 pos j wz) (fun _ j _ _ _ => i - (intOf j).toNat)
            case atStart => exact H0.out
            case round =>
              obtain ⟨k, hk2, rfl, rfl, hP, hbl⟩ := hrel.ex
              clear hrel H0
              have HP := Lib.hid hP
              have HB := Lib.hid hbl
              clear hP hbl
              obtain ⟨a, haa⟩ := Int.eq_ofNat_of_zero_le (pre_pos (z := z1) (k := k) (fun q hq => HN.out q (by omega)))
              have hcl : a ≤ a0.size := by have q := pre_mono HN.out k (by omega); rw [HE.out, haa] at q; omega
              by_cases hlt3 : k < i
              · obtain ⟨b, hbb⟩ := Int.eq_ofNat_of_zero_le (HN.out k hlt3)
                have HQ := Lib.hid (show pre z1 (k + 1) = ((a + b : Nat) : Int) by simp only [pre]; omega)
                have hab : a + b ≤ a0.size := by have q := pre_mono HN.out (k + 1) (by omega); rw [HE.out, HQ.out] at q; omega
                have hcur : cur a0 i (fR z1) k = ⟨a, b, 29⟩ := by rw [cur, if_pos hlt3, fR, haa, hbb]
                have HC := Lib.hid hcur
                rw [haa]
                clear haa hbb hcur
                go_wp2_with fail
                refine (zraw31 p a0 w.heap.size i (fR z1) k a b wr HP.out (by omega) (by rw [HC.out]) (by rw [HC.out]) hab).mono ?_
                rintro e w3 ⟨rfl, hb3⟩
                have HP3 := Lib.hid (HP.out.call hb3)
                have HB3 := Lib.hid (HB.out.trans (hb3.mono HB.out.size))
                clear hb3 HP HB
                obtain ⟨R, hR⟩ : ∃ R, R = a0.extract a (a + b) := ⟨_, rfl⟩
                rw [← hR]
                have hRs : R.size = b := by rw [hR]; exact cut_size _ _ _ hab
                have HR := Lib.hid (show ∀ m (hm : m < b), (R[m]'(by omega)) = a0[a + m]'(by omega) from fun m hm => by subst hR; exact cut_at _ _ _ _ hab hm _ _)
                clear hR
                go_wp2_with fail
                go_loopw [12, 15] (fun pos q wz => L4 w3 a b pos q wz) (fun _ q _ => b - (intOf q).toNat)
                case atStart => exact ⟨0, 0, by omega, rfl, rfl, rfl⟩
                case round =>
                  obtain ⟨m, t, hm, rfl, rfl, rfl⟩ := hrel.ex
                  clear hrel
                  by_cases hlt4 : m < b
                  · have ix1 : ∀ w' : World, (Instr.index 9 (.string R) (.int .i64 m)).run Try.prog w' = .ok (.int .u8 (a0[a + m]'(by omega)).toNat) w' := by
                      intro w'
                      rw [index_str R m (by omega), HR.out m hlt4]
                    have ix2 : ∀ w' : World, (Instr.index 9 (.string a0) (.int .i64 ((a + m : Nat) : Int))).run Try.prog w' = .ok (.int .u8 (a0[a + m]'(by omega)).toNat) w' := fun w' => index_str a0 (a + m) (by omega) w'
                    have gd1 : decide (a0.size ≤ a + m) = false := decide_eq_false (by omega)
                    have gd2 : decide ((a0.size : Int) ≤ ((a + m : Nat) : Int)) = false := decide_eq_false (by omega)
                    generalize (a0[a + m]'(by omega)).toNat = C at *
                    generalize hM : a + m = M at *
                    go_wp2_with fail
                    go_quiet (fail)
                    go_wp2_with fail
                    go_roundw
                    case rel => exact ⟨m + 1, _, by omega, by go_num, by rw [← Nat.add_assoc, hM]; go_num, by first | rfl | rw [World.drewN_drewN]⟩
                    case measure => simp [intOf]; omega
                  · have e4 : m = b := by omega
                    subst e4
                    go_wp2_with fail
                    refine (zeat32_yes p a0 w.heap.size i (fR z1) k 29 _ (HP3.out.drews t) hlt3 (by rw [HC.out])).mono ?_
                    rintro e w5 ⟨rfl, hg⟩
                    have HG := Lib.hid hg.psr
                    have HB5 := Lib.hid (hg.kept w.heap.size w hle (below_drewN HB3.out t))
                    clear hg
                    go_wp2_with fail
                    go_roundw
                    case rel => exact ⟨k + 1, by omega, by go_num, by rw [HQ.out, Int.natCast_add], HG.out, HB5.out⟩
                    case measure => simp [intOf]; omega
              · have e3 : k = i := by omega
                subst e3
                have hcur : cur a0 k (fR z1) k = ⟨a0.size, 0, 0⟩ := if_neg (by omega)
                have HC := Lib.hid hcur
                rw [HE.out]
                clear haa hcur
                go_wp2_with fail
                refine (index17 _ _ _ _ _ _ _ HP.out).mono ?_
                rintro e w3 ⟨rfl, hw3⟩
                obtain rfl := hw3.symm
                go_wp2_with fail
                refine (zraw31 p a0 w.heap.size k (fR z1) k a0.size 0 _ HP.out (by omega) (by rw [HC.out]) (by rw [HC.out]; rfl) (by omega)).mono ?_
                rintro e w3 ⟨rfl, hb3⟩
                have hem : a0.extract a0.size (a0.size + 0) = ⟨#[]⟩ := by
                  apply ByteArray.ext
                  apply Array.eq_empty_of_size_eq_zero
                  have := cut_size a0 a0.size 0 (by omega)
                  exact this
                rw [hem]
                have HP3 := Lib.hid (HP.out.call hb3)
                have HB3 := Lib.hid (HB.out.trans (hb3.mono HB.out.size))
                clear hb3 HP HB hem
                go_wp2_with fail
                refine (zeat32_no p a0 w.heap.size k (fR z1) k 29 _ HP3.out (by omega) (by rw [HC.out]; simp)).mono ?_
                rintro e w4 ⟨rfl, hb4⟩
                have HP4 := Lib.hid (HP3.out.call hb4)
                have HB4 := Lib.hid (HB3.out.trans (hb4.mono HB3.out.size))
                clear hb4 HP3 HB3
                go_wp2_with fail
                refine (index17 _ _ _ _ _ _ _ HP4.out).mono ?_
                rintro e w5 ⟨rfl, hw5⟩
                obtain rfl := hw5.symm
                go_wp2
                go_ret
                exact ⟨by first | rfl | simp, HB4.out⟩
      · generalize pre z1 k = S at *
        go_wp2
        go_ret
        exact ⟨rfl, Below.refl _ _⟩

set_option maxRecDepth 100000 in
theorem lifted (os : Os) (started : os.Started) (H : Type) (enc : TypeId × Value → H) :
    ReturnsInHanded {} Try.checked os 7 .any (Rows.fnRawOfEatenTokensRebuildsTheSourceSpec.pre6 enc Try.prog Try.f7 Rows.fnRawOfEatenTokensRebuildsTheSourceRow.domain false) (Rows.fnRawOfEatenTokensRebuildsTheSourceSpec.post enc Try.prog Try.f7 false true false false) := by
  refine returnsInHanded_of_change (C := Try.checked) own started (by kernel_rfl) Try.func7
    (ChangeSpec.witness6 (enc := enc) (C := Try.checked) false ⟨#[], #[.string ByteArray.empty, .slice none 0 0], []⟩ 8 (by kernel_rfl) (by kernel_rfl) (by kernel_rfl) (by kernel_rfl)) ?_
  intro W base args ds gs before hval0 hW hcnd _
  have hval : ∀ (j : Nat) t v, Try.f7.params[j]? = some t → args[j]? = some v → Value.okWide Try.prog W .any base t v := hval0
  have hW' := hW
  obtain ⟨p, q, hA0, hV, rfl, hfz, hnd⟩ := hW
  have hA : DataW.TrodAll enc Try.prog W 0 (fun _ => true) true Try.f7.params.toList args.toList ds p := hA0
  rw [Try.params7] at hA hval
  obtain ⟨v0, vs0, d0, ds0, p0, q0, hargs, rfl, rfl, h0, r0⟩ := trodAll_cons hA
  obtain ⟨v1, vs1, d1, ds1, p1, q1, rfl, rfl, rfl, h1, r1⟩ := trodAll_cons r0
  obtain ⟨rfl, rfl, rfl⟩ := trodAll_nil r1
  obtain rfl : args = #[v0, v1] := by cases args; simp_all
  obtain ⟨rfl, rfl⟩ := trodVars_none hV
  obtain ⟨a0, rfl, rfl, rfl, w0⟩ := open_string Try.underlying9 (hval 0 9 v0 rfl rfl) h0
  obtain ⟨a1, len1, cap1, rfl⟩ := okWide_slice Try.underlying28 (hval 1 28 v1 rfl rfl)
  have k1 := h1
  have lt1 : ∀ x ∈ p1, x.block < W.heap.size := by obtain ⟨m, hm⟩ := k1; exact DataW.trod_lt m _ _ _ hm
  obtain ⟨z1, w1⟩ : ∃ zs, IsRow .i32 W a1 len1 cap1 zs := by
    obtain ⟨fuel, hf⟩ := h1
    rcases open_ints Try.underlying28 Try.underlying21 (by kernel_rfl) hf with ⟨hcs, _⟩ | ⟨x, l, c, zs, hcs, _, hl, hm, hz, _, hcell, hwz⟩
    · simp [Value.cells] at hcs
      obtain ⟨rfl, rfl, rfl⟩ := hcs
      exact ⟨[], .inl ⟨rfl, rfl, rfl, rfl⟩⟩
    · simp [Value.cells] at hcs
      obtain ⟨rfl, rfl, rfl⟩ := hcs
      exact ⟨zs, .inr ⟨_, rfl, hl, hm, by simpa using hz, hcell, hwz⟩⟩
  clear hA0 hval0
  refine (walk a0 a1 len1 cap1 z1 W w0 w1).mono fun e W' ⟨he, bel⟩ => ?_
  subst he
  exact ⟨_, rfl, _, _, _, [], _, [], hW', trodAll_mk1 (shut_bool Try.underlying4 _), (trodAll_cons_mk (shut_string Try.underlying9 w0) (trodAll_cons_mk (Below.trod laidOut (by kernel_rfl) (of_decide_eq_true (by kernel_rfl)) k1 bel lt1) trodAll_mk0)), rfl, bel.frame _, fun h => by cases h⟩

theorem q0 : (Rows.fnRawOfEatenTokensRebuildsTheSourceRow.wf (OpenSpec.ofChange Rows.fnRawOfEatenTokensRebuildsTheSourceSpec)) = true := by kernel_rfl
theorem q3 : (Try.f7.params.all (Try.pinned.checked.prog.readableRec ·)) = true := by kernel_rfl
theorem q4 : (namedTie Try.pinned.checked.prog Rows.fnRawOfEatenTokensRebuildsTheSourceRow.named Rows.fnRawOfEatenTokensRebuildsTheSourceSpec.vars) = true := by kernel_rfl
theorem q5 : ((Rows.fnRawOfEatenTokensRebuildsTheSourceRow.stops == [])) = true := by kernel_rfl
theorem q7 : ((Rows.fnRawOfEatenTokensRebuildsTheSourceRow.knobs == [])) = true := by kernel_rfl
theorem q9 : ((Rows.fnRawOfEatenTokensRebuildsTheSourceRow.inPlace == Try.pinned.checked.prog.inPlace 7)) = true := by kernel_rfl
theorem q10 : ((Rows.fnRawOfEatenTokensRebuildsTheSourceRow.unfollowed == Try.pinned.checked.prog.unfollowed 7)) = true := by kernel_rfl
theorem q11 : ((Rows.fnRawOfEatenTokensRebuildsTheSourceRow.recurses == Try.pinned.checked.prog.recurses 7)) = true := by kernel_rfl
theorem q12 : ((Rows.fnRawOfEatenTokensRebuildsTheSourceRow.named == Try.pinned.checked.prog.varsNamed 7)) = true := by kernel_rfl
theorem q13 : ((Rows.fnRawOfEatenTokensRebuildsTheSourceRow.maps == (Try.f7.params.toList ++ Rows.fnRawOfEatenTokensRebuildsTheSourceSpec.plain.varTypes Try.pinned.checked.prog).any (Try.pinned.checked.prog.mapsRec ·))) = true := by kernel_rfl
theorem q14 : ((Rows.fnRawOfEatenTokensRebuildsTheSourceRow.ifaces == (Try.f7.params.toList ++ Rows.fnRawOfEatenTokensRebuildsTheSourceSpec.plain.varTypes Try.pinned.checked.prog).any (Try.pinned.checked.prog.ifacesRec ·))) = true := by kernel_rfl
theorem q15 : ((Rows.fnRawOfEatenTokensRebuildsTheSourceRow.mapsOut == Try.pinned.checked.prog.mapsAmong Try.f7.resultTypes.toList)) = true := by kernel_rfl
theorem q16 : ((Rows.fnRawOfEatenTokensRebuildsTheSourceRow.loops == (Try.f7.params.toList ++ Rows.fnRawOfEatenTokensRebuildsTheSourceSpec.plain.varTypes Try.pinned.checked.prog).any (Try.pinned.checked.prog.loopsFrom ·))) = true := by kernel_rfl
theorem q17 : ((Rows.fnRawOfEatenTokensRebuildsTheSourceRow.wideKeys == (Try.f7.params.toList ++ Rows.fnRawOfEatenTokensRebuildsTheSourceSpec.plain.varTypes Try.pinned.checked.prog ++ Try.f7.resultTypes.toList).any (Try.pinned.checked.prog.wideKeysFrom ·))) = true := by kernel_rfl
theorem q18 : (Rows.fnRawOfEatenTokensRebuildsTheSourceSpec.vars.all (Try.pinned.checked.prog.varReadable ·)) = true := by kernel_rfl
theorem q19 : (Try.f7.resultTypes.all (fun t => Try.pinned.checked.prog.readableRec t && decide (t < Try.pinned.checked.prog.types.size))) = true := by kernel_rfl
theorem q20 : ((Rows.fnRawOfEatenTokensRebuildsTheSourceRow.ifacesOut == Try.f7.resultTypes.toList.any (Try.pinned.checked.prog.ifacesRec ·))) = true := by kernel_rfl
theorem q21 : ((Rows.fnRawOfEatenTokensRebuildsTheSourceRow.loopsOut == Try.f7.resultTypes.toList.any (Try.pinned.checked.prog.loopsFrom ·))) = true := by kernel_rfl
theorem q22 : ((Rows.fnRawOfEatenTokensRebuildsTheSourceRow.plainKeys == Try.pinned.checked.prog.plainKeys)) = true := by kernel_rfl
theorem q23 : (Rows.fnRawOfEatenTokensRebuildsTheSourceRow.shortTexts.isNone) = true := by kernel_rfl
theorem q26 : ((Rows.fnRawOfEatenTokensRebuildsTheSourceRow.lifted == Try.pinned.checked.prog.liftsFinal)) = true := by rw [g26]; kernel_rfl
theorem q27 : ((Try.pinned.checked.prog.make == some Rows.fnRawOfEatenTokensRebuildsTheSourceRow.make)) = true := by rw [g27]; kernel_rfl
theorem q28 : ((Rows.fnRawOfEatenTokensRebuildsTheSourceRow.kinds == (if Rows.fnRawOfEatenTokensRebuildsTheSourceRow.domain.isEmpty then [] else Try.f7.params.toList.map fun t => match Try.pinned.checked.prog.underlying t with | some (.int k) => some k | _ => none))) = true := by kernel_rfl
theorem q29 : ((Rows.fnRawOfEatenTokensRebuildsTheSourceRow.pinned == Rows.fnRawOfEatenTokensRebuildsTheSourceRow.pinnedBy)) = true := by kernel_rfl
theorem q30 : ((Rows.fnRawOfEatenTokensRebuildsTheSourceRow.veiled == (Try.f7.params.toList ++ Rows.fnRawOfEatenTokensRebuildsTheSourceSpec.plain.varTypes Try.pinned.checked.prog ++ Try.f7.resultTypes.toList).any (Try.pinned.checked.prog.veiledRec ·))) = true := by kernel_rfl
theorem q31 : (Rows.fnRawOfEatenTokensRebuildsTheSourceRow.veiledFits Try.pinned.checked.prog Try.f7.params.toList (Try.f7.params.toList ++ Rows.fnRawOfEatenTokensRebuildsTheSourceSpec.plain.varTypes Try.pinned.checked.prog ++ Try.f7.resultTypes.toList)) = true := by kernel_rfl
set_option maxRecDepth 100000 in
theorem closed : joinedFacts Try.pinned.checked.prog 7 Try.f7 Rows.fnRawOfEatenTokensRebuildsTheSourceSpec Rows.fnRawOfEatenTokensRebuildsTheSourceRow = true :=
  (andI (andI (andI (andI (andI (andI (andI (andI (andI (andI (andI (andI (andI (andI (andI (andI (andI (andI (andI (andI (andI (andI (andI (andI (andI (andI (andI (andI (andI (andI (andI q0 g1) g2) q3) q4) q5) g6) q7) g8) q9) q10) q11) q12) q13) q14) q15) q16) q17) q18) q19) q20) q21) q22) q23) g24) g25) q26) q27) q28) q29) q30) q31)
theorem over : Rows.fnRawOfEatenTokensRebuildsTheSourceRow.holds Try.pinned (OpenSpec.ofChange Rows.fnRawOfEatenTokensRebuildsTheSourceSpec) :=
  OpenClaim.holds_of_wide 7 Try.f7 rfl rfl rfl rfl rfl rfl rfl ⟨rfl, rfl, rfl, rfl, rfl⟩ rfl rfl rfl rfl rfl (by kernel_rfl) Try.func7 closed
    (of_decide_eq_true (by kernel_rfl)) (by unfold Func.isWrapper; first | (rw [if_pos (by decide +kernel)]; kernel_rfl) | (rw [if_neg (by decide +kernel)]; exact ⟨rfl, rfl⟩))
    (fun os started H enc _ => lifted os started H enc)

theorem proved : Rows.FnRawOfEatenTokensRebuildsTheSourceSaid := over
#print axioms proved
end Go.Proofs.Ytnlohfbmknedhaa.fnRawOfEatenTokensRebuildsTheSource
