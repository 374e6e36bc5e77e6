/-
  strings.ContainsAny(s, "eE") answers and does not panic, whatever s is. Conditions: the text is no longer than a mebibyte.
-/
import Derived.Test.YtekkodagkgfkbaaFmtSc
import Derived.Lib.OthersKept
import Derived.Lib.TrimU
import Derived.WalkSmall
namespace Go.Proofs.YtekkodagkgfkbaaFmt
open Go.RowKit Go.Lib
abbrev eE : ByteArray := ⟨#[101, 69]⟩
theorem enc_cases (r : Nat) (h1 : 128 ≤ r) : ∃ b : ByteArray, Utf8.encode (r : Int) = b ∧ 2 ≤ b.size ∧ b.size ≤ 4 ∧ ∀ (h : 1 < b.size), 128 ≤ (b[1]'h).toNat := by
  refine ⟨_, rfl, ?_⟩
  unfold Utf8.encode
  have hc : 128 ≤ (if Utf8.valid (r : Int) then (r : Int).toNat else Utf8.runeError) := by
    split
    · omega
    · decide
  generalize (if Utf8.valid (r : Int) then (r : Int).toNat else Utf8.runeError) = c at *
  simp only
  have k1 : ¬ c < 128 := by omega
  simp only [k1, if_false]
  split
  · refine ⟨by simp [ByteArray.size], by simp [ByteArray.size], fun h => ?_⟩
    show 128 ≤ (UInt8.ofNat (128 + c % 64)).toNat
    rw [UInt8.toNat_ofNat']; omega
  · split
    · refine ⟨by simp [ByteArray.size], by simp [ByteArray.size], fun h => ?_⟩
      show 128 ≤ (UInt8.ofNat (128 + c / 64 % 64)).toNat
      rw [UInt8.toNat_ofNat']; omega
    · refine ⟨by simp [ByteArray.size], by simp [ByteArray.size], fun h => ?_⟩
      show 128 ≤ (UInt8.ofNat (128 + c / 4096 % 64)).toNat
      rw [UInt8.toNat_ofNat']; omega
theorem bdn {B : Nat} {w w' : World} (h : Below B w w') (n : Nat) : Below B w (w'.drewN n) := by
  induction n with
  | zero => exact h
  | succ n ih => exact ih.drew
theorem ib_nil (q : ByteArray) (hq : q.size = 0) (c : Int) (w : World) : Calls Tryf.prog 14 #[.string q, .int .u8 c] w fun e w' => e = .returned (.int .i64 (-1)) ∧ w' = w := by
  have := Tryf.strings_IndexByte q c w
  have hl : q.data.toList = [] := List.eq_nil_of_length_eq_zero (by rw [← Lib.size_eq]; exact hq)
  rw [hl] at this
  exact this
@[local go_sem] theorem wrap2 : IntKind.i64.wrap 2 = 2 := by decide
set_option maxHeartbeats 2000000 in
set_option maxRecDepth 100000 in
theorem ir28h (c : ByteArray) (hcE : c = eE) (r : Nat) (h1 : 128 ≤ r) (h2 : r ≤ 2147483647) (w : World) : Calls Tryf.prog 28 #[.string c, .int .i32 r] w fun e w' => e = .returned (.int .i64 (-1)) ∧ Below w.heap.size w w' := by
  obtain ⟨B, hB, hB2, hB4, hB1⟩ := enc_cases r h1
  have c2 : c.size = 2 := by rw [hcE]; rfl
  have c2I : (c.size : Int) = 2 := by omega
  have c1 : (c[1]'(by omega)).toNat = 69 := by subst hcE; rfl
  have z0 : ¬ ((r : Int) < 128) := by omega
  by_cases hE : r = 65533
  · subst hE
    subst hcE
    have n0 : ∀ ty, (Instr.next (.pointer (some ⟨w.heap.size, 0, none⟩)) true ty).run Tryf.prog (w.iter eE 0) = .ok (.tuple #[.bool true, .int .i64 0, .int .i32 101]) (w.iter eE 1) := by
      intro ty
      have := run_next_any (P := Tryf.prog) w eE 0 ty (by decide)
      rw [show Utf8.decode eE 0 = (101, 1) from by decide +kernel] at this
      exact this
    have n1 : ∀ ty, (Instr.next (.pointer (some ⟨w.heap.size, 0, none⟩)) true ty).run Tryf.prog (w.iter eE 1) = .ok (.tuple #[.bool true, .int .i64 1, .int .i32 69]) (w.iter eE 2) := by
      intro ty
      have := run_next_any (P := Tryf.prog) w eE 1 ty (by decide)
      rw [show Utf8.decode eE 1 = (69, 1) from by decide +kernel] at this
      exact this
    have n2 := fun ty => run_next_end (P := Tryf.prog) w eE 2 ty (by decide)
    have hBl : ∀ pos, Below w.heap.size w (w.iter eE pos) := fun pos => (Below.refl _ _).alloc (Nat.le_refl _) _
    have HB := hid hBl
    clear hBl hB hB2 hB4 hB1
    go_enter Tryf.func28, Tryf.ntmps28
    go_wp2_with fail
    go_rounds 3
    go_ret
    exact ⟨rfl, HB.out _⟩
  · clear hcE
    have z1 : ((r : Int) == 65533) = false := beq_eq_false_iff_ne.2 (by omega)
    have cV := hid (Tryf.utf8_ValidRune r)
    cases hv : Lib.validRune r with
    | false =>
      rw [hv] at cV
      go_enter Tryf.func28, Tryf.ntmps28
      go_wp2_with fail
      refine (cV.out _).mono ?_
      rintro e wx ⟨rfl, hw⟩
      obtain rfl := hw.symm
      go_wp2_with fail
      go_ret
      exact ⟨rfl, Below.refl _ _⟩
    | true =>
      rw [hv] at cV
      go_enter Tryf.func28, Tryf.ntmps28
      go_wp2_with fail
      refine (cV.out _).mono ?_
      rintro e wx ⟨rfl, hw⟩
      obtain rfl := hw.symm
      go_wp2_with fail
      go_step3
      by_cases hs2 : B.size = 2
      · have gB : (1 : Int) < (B.size : Int) := by omega
        have hlt : (1 : Int) < (c.size : Int) := by omega
        obtain ⟨x, hx⟩ : ∃ x : UInt8, B[1]'(by omega) = x := ⟨_, rfl⟩
        obtain ⟨y, hy⟩ : ∃ y : UInt8, c[1]'(by omega) = y := ⟨_, rfl⟩
        have hne : ((y.toNat : Int) != (x.toNat : Int)) = true := by
          have := hB1 (by omega)
          rw [hx] at this
          rw [hy] at c1
          rw [bne_iff_ne]; omega
        clear hB1 c1
        go_wp2_with fail
        refine wp_loop_rounds 1 ?_
        rw [rounds_succ]
        go_wp2_with fail
        go_step3
        go_wp2_with fail
        go_quiet (fail)
        go_wp2_with fail
        have HB1 := hid (bdn (Below.refl w.heap.size w) nq)
        generalize w.drewN nq = w1 at *
        go_quiet (first | (go_at_call 14; exact Calls.quiet_of_same (ib_nil _ (by simp) _ _)) | fail)
        go_wp2_with fail
        rw [Exit.noGoto_ret]
        go_wp2_with fail
        rw [Exit.noGoto_ret]
        go_ret
        exact ⟨rfl, bdn HB1.out _⟩
      · rcases (show B.size = 3 ∨ B.size = 4 by omega) with hs2 | hs2
        all_goals
          go_wp2_with fail
          refine wp_loop_rounds 1 ?_
          rw [rounds_succ]
          go_wp2_with fail
          rw [Exit.noGoto_ret]
          go_ret
          exact ⟨rfl, Below.refl _ _⟩

structure IntR (e : Ending) : Prop where
  ex : ∃ k : Int, e = .returned (.int .i64 k)
theorem ir28 (r : Nat) (h : r ≤ 2147483647) (w : World) : Calls Tryf.prog 28 #[.string eE, .int .i32 r] w fun e w' => IntR e ∧ Below w.heap.size w w' := by
  by_cases h1 : r < 128
  · exact (Tryf.strings_IndexRune_ascii eE (r : Int) w (by omega) (by omega)).mono fun e w' ⟨he, hw⟩ => ⟨⟨_, he⟩, hw ▸ Below.refl _ _⟩
  · exact (ir28h eE rfl r (by omega) h w).mono fun e w' ⟨he, hw⟩ => ⟨⟨_, he⟩, hw⟩
set_option maxHeartbeats 2000000 in
set_option maxRecDepth 100000 in
theorem ia20 (s : ByteArray) (hs : s.size ≤ 1048576) (w : World) : Calls Tryf.prog 20 #[.string s, .string eE] w fun e w' => IntR e ∧ Below w.heap.size w w' := by
  by_cases h8 : s.size ≤ 8
  · have h8z : decide ((8 : Int) < (s.size : Int)) = false := decide_eq_false (by omega)
    have c29 := hid (Tryf.strings_shouldUseASCIISet (s.size : Int))
    rw [h8z] at c29
    go_enter Tryf.func20, Tryf.ntmps20
    go_wp2_with fail
    refine (c29.out _).mono ?_
    rintro e wx ⟨rfl, hw⟩
    obtain rfl := hw.symm
    go_wp2_with fail
    go_loopg [9, 10] s.size (fun g _ _ wx => ∃ pos : Nat, wx.heap[w.heap.size]? = some (.stringIter s pos) ∧ Below w.heap.size w wx ∧ s.size ≤ pos + g)
    case atStart => exact ⟨0, World.iter_heap w s 0, (Below.refl _ w).alloc (Nat.le_refl _) _, by omega⟩
    case round =>
      obtain ⟨pos, hit, hbw, hfu⟩ := hrel
      have hsz : w.heap.size < wr.heap.size := (Array.getElem?_eq_some_iff.1 hit).1
      by_cases hp : pos < s.size
      · obtain ⟨g, rfl⟩ : ∃ g, gk = g + 1 := ⟨gk - 1, by omega⟩
        have hnx : ∀ ty, (Instr.next (.pointer (some ⟨w.heap.size, 0, none⟩)) true ty).run Tryf.prog wr = _ := fun ty => Lib.run_next_any_at wr w.heap.size s pos ty hit hp
        have hwd := Lib.width_pos s pos
        have hr1 := Go.decode_le s pos
        obtain ⟨R, hR⟩ : ∃ R, (Utf8.decode s pos).1 = R := ⟨_, rfl⟩
        obtain ⟨K, hK⟩ : ∃ K, (Utf8.decode s pos).2 = K := ⟨_, rfl⟩
        rw [hR, hK] at hnx
        rw [hR] at hr1
        rw [hK] at hwd
        have hit2 := Lib.iterAt_heap wr w.heap.size s pos (pos + K) hit
        have hbw2 := Lib.below_iterAt hbw (k := w.heap.size) (Nat.le_refl _) s (pos + K)
        obtain ⟨W, hWd⟩ : ∃ W, wr.iterAt w.heap.size s (pos + K) = W := ⟨_, rfl⟩
        rw [hWd] at hnx hit2 hbw2
        have cS := hid (ir28 R hr1 W)
        have hWs : w.heap.size < W.heap.size := (Array.getElem?_eq_some_iff.1 hit2).1
        have H2 := hid (And.intro hit2 hbw2)
        clear hit hbw hit2 hbw2 hWd hR hK
        go_wp2_with fail
        refine cS.out.mono ?_
        rintro e W' ⟨⟨k, rfl⟩, hb⟩
        have HB := hid hb
        clear hb
        go_wp2_with fail
        · go_ret
          exact ⟨⟨_, rfl⟩, H2.out.2.trans (HB.out.mono (by omega))⟩
        · go_roundg g
          case measure => omega
          case rel => exact ⟨pos + K, (HB.out.block w.heap.size hWs).trans H2.out.1, H2.out.2.trans (HB.out.mono (by omega)), by omega⟩
      · have hnx : ∀ ty, (Instr.next (.pointer (some ⟨w.heap.size, 0, none⟩)) true ty).run Tryf.prog wr = _ := fun ty => Lib.run_next_end_at wr w.heap.size s pos ty hit hp
        have HB := hid hbw
        clear hbw
        go_wp2_with fail
        go_ret
        exact ⟨⟨_, rfl⟩, HB.out⟩
  · refine (Tryf.strings_IndexAny_long (zero_of_info (P := Tryf.prog) (t := 70) (n := 256) (by kernel_rfl)).1 s eE w (by decide) (by omega) (by omega) (by decide) (fun j b h => by
      match j, h with
      | 0, h => cases h; decide
      | 1, h => cases h; decide)).mono ?_
    rintro e w' ⟨rfl, rfl⟩
    exact ⟨⟨_, rfl⟩, ((Below.refl _ _).alloc (Nat.le_refl _) _).alloc (by simp) _⟩
structure BoolR (e : Ending) : Prop where
  ex : ∃ b : Bool, e = .returned (.bool b)
set_option maxRecDepth 100000 in
theorem ca13 (s : ByteArray) (hs : s.size ≤ 1048576) (w : World) : Calls Tryf.prog 13 #[.string s, .string eE] w fun e w' => BoolR e ∧ Below w.heap.size w w' := by
  go_enter Tryf.func13, Tryf.ntmps13
  go_wp2_with fail
  refine (ia20 s hs _).mono ?_
  rintro e W' ⟨⟨k, rfl⟩, hb⟩
  have HB := hid hb
  clear hb
  go_wp2_with fail
  go_ret
  exact ⟨⟨_, rfl⟩, HB.out⟩
end Go.Proofs.YtekkodagkgfkbaaFmt
