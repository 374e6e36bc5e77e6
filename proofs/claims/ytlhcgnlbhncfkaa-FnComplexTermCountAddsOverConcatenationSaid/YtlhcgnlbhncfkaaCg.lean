/-
  The exported counters, the guards, and the walk of the law on the compound's term count. Conditions: the shape of the bytes.
-/
import Derived.Test.YtlhcgnlbhncfkaaCf
namespace Go.Proofs.Ytlhcgnlbhncfkaa
open Go.ChangeShapes Go.WideShapes Go.ChangeAt Go.RowKit

theorem zz22 (P : Nat → Prop) (d : Nat) (w : World) (sl : Value) (k : Nat) (h : CL d w P sl k) (hk : k ≤ 1048576) : Calls Try.prog 22 #[sl] w fun e w' => e = .returned (.int .i64 (k : Int)) ∧ Below w.heap.size w w' := by
  have H := Lib.hid (count31 P d w sl k h hk)
  clear h
  go_enter Try.func22, Try.ntmps22
  go_wp2_with fail
  refine H.out.mono ?_
  rintro e w' ⟨rfl, hb⟩
  have HB := Lib.hid hb
  clear hb
  go_wp2_with fail
  go_ret
  exact ⟨rfl, HB.out⟩
theorem zz11 (P : Nat → Prop) (d : Nat) (w : World) (s : Value) (k : Nat) (hk : k ≤ 1048576) (hr : RowOf 3 (SubE (CL d w P) w P) w P s k) :
    Calls Try.prog 11 #[.agg #[.pointer none, s, .slice none 0 0, .int .i32 0, .int .u8 0, .bool false]] w fun e w' => e = .returned (.int .i64 (k : Int)) ∧ Below w.heap.size w w' := by
  have hb := (Below.refl w.heap.size w).alloc (Nat.le_refl _) (.cells #[.pointer none, s, .slice none 0 0, .int .i32 0, .int .u8 0, .bool false] 33)
  have H := Lib.hid (count28 d P (count31 P d) _ s k hk (hr.keep (Keep.below P hb) fun c k => SubE.keep (Keep.below P hb) fun sl k => CL.keep (Keep.below P hb) d))
  have HB := Lib.hid hb
  obtain ⟨a, n, c, f, rfl, _, _, hks⟩ := hr
  clear hks
  clear hb
  go_enter Try.func11, Try.ntmps11
  go_wp2_with fail
  refine H.out.mono ?_
  rintro e w' ⟨rfl, hb2⟩
  have HB2 := Lib.hid (HB.out.trans (hb2.mono (by simp)))
  clear hb2
  go_wp2_with fail
  go_ret
  exact ⟨rfl, HB2.out⟩
theorem bytes8 (a : Option Addr) (n c : Nat) (w : World) : Calls Try.prog 8 #[.slice a n c] w fun e w' => (∃ b, e = .returned (.bool b) ∧ (b = true → n ≤ 1048576)) ∧ w' = w := by
  go_enter Try.func8, Try.ntmps8
  go_wp2_with fail
  all_goals (go_ret; first | exact ⟨⟨false, rfl, by simp⟩, rfl⟩ | exact ⟨⟨true, rfl, fun _ => by omega⟩, rfl⟩)
theorem bytes20 (a b : Option Addr) (n m c d : Nat) (w : World) : Calls Try.prog 20 #[.slice a n c, .slice b m d] w fun e w' => (∃ b, e = .returned (.bool b) ∧ (b = true → n ≤ 1048576 ∧ m ≤ 1048576)) ∧ w' = w := by
  go_enter Try.func20, Try.ntmps20
  go_wp2_with fail
  all_goals (go_ret; first | exact ⟨⟨false, rfl, by simp⟩, rfl⟩ | exact ⟨⟨true, rfl, fun _ => by omega⟩, rfl⟩)
/-- a cursor laid into a new block -/
theorem Cur.made (w : World) (s : Option Addr) (n c : Nat) : Cur (w.alloc (.cells #[.slice s n c, .int .i64 0] 37)) w.heap.size (.slice s n c) 0 := ⟨_, Go.heap_alloc_new _ _, rfl, rfl, rfl⟩
set_option maxRecDepth 20000 in
set_option maxHeartbeats 2000000 in
theorem walk3 (a0 : Option Addr) (len0 cap0 : Nat) (z0 : List Int) (w : World) (w0 : IsRow .u8 w a0 len0 cap0 z0) :
    Calls Try.prog 3 #[.slice a0 len0 cap0] w fun e w' => e = .returned (.bool true) ∧ Below w.heap.size w w' := by
  have W0 := Lib.hid w0
  clear w0
  go_enter Try.func3, Try.ntmps3
  go_wp2_with fail
  refine (bytes8 a0 len0 cap0 _).mono ?_
  rintro e wx ⟨⟨b, rfl, hb⟩, hw⟩
  obtain rfl := hw.symm
  clear hw
  cases b
  · go_wp2_with fail
    exact bodyPost_ret (v := .bool true) (by simp [results, Try.results3, go_sem]) rfl ⟨rfl, Below.refl _ _⟩
  clear hb
  rcases Nat.lt_or_ge 65536 len0 with g0 | g0
  · go_wp2_with fail
    exact bodyPost_ret (v := .bool true) (by simp [results, Try.results3, go_sem]) rfl ⟨rfl, Below.refl _ _⟩
  go_wp2_with fail
  refine (clone9 a0 len0 cap0 z0 _ (by omega) W0.out).mono ?_
  rintro e w1 ⟨⟨a1, c1, rfl, hr1⟩, hb1⟩
  obtain ⟨X, hX⟩ : ∃ X, X = w1.alloc (.cells #[.slice a1 len0 c1, .int .i64 0] 37) := ⟨_, rfl⟩
  have hbX : Below w1.heap.size w1 X := by rw [hX]; exact (Below.refl _ _).alloc (Nat.le_refl _) _
  have RX := Lib.hid (hr1.below (Nat.le_refl _) hbX)
  have CX := Lib.hid (show Cur X w1.heap.size (.slice a1 len0 c1) 0 from by rw [hX]; exact Cur.made _ _ _ _)
  have BX := Lib.hid (hb1.trans (hbX.mono hb1.size))
  have h1 := hb1.size
  clear hr1 hb1 hbX W0
  go_wp2_with fail
  rw [← hX]
  clear hX
  refine (top10 len0 g0 a1 c1 z0 X w1.heap.size RX.out CX.out).mono ?_
  rintro e w2 ⟨⟨s, rfl, hs⟩, hg⟩
  have R2 := Lib.hid (RX.out.cur CX.out hg)
  have HS := Lib.hid hs
  have B2 := Lib.hid (show Below w.heap.size w w2 from ⟨hg.os.trans BX.out.os, hg.tape.trans BX.out.tape, hg.output.trans BX.out.output, Nat.le_trans BX.out.size hg.size, fun k hk => (hg.block k (by have := BX.out.size; omega) (by intro e; injection e with e; omega)).trans (BX.out.block k hk)⟩)
  obtain ⟨a9, n9, c9, f9, e9, _⟩ := hs
  subst e9
  clear hg RX CX BX
  have hal := (Below.refl w2.heap.size w2).alloc (Nat.le_refl _) (.cells #[.pointer none, .slice a9 n9 c9, .slice none 0 0, .int .i32 0, .int .u8 0, .bool false] 33)
  have hsz2 := B2.out.size
  have HAL := Lib.hid hal
  clear hal
  go_wp2_with fail
  refine (zz11 (fun g => X.heap.size ≤ g) (len0 + 1) _ _ (toks z0 len0) (by have := toks_le z0 len0; omega) (RowOf.keep (Keep.below _ HAL.out) (fun c k => SubE.keep (Keep.below _ HAL.out) fun sl k => CL.keep (Keep.below _ HAL.out) _) HS.out)).mono ?_
  rintro e w3 ⟨rfl, hb3⟩
  have R3 := Lib.hid (R2.out.below (Nat.le_refl _) (HAL.out.trans (hb3.mono (by simp))))
  have B3 := Lib.hid (B2.out.trans ((HAL.out.trans (hb3.mono (by simp))).mono hsz2))
  clear hb3 R2 HS B2 HAL
  go_wp2_with fail
  refine (count12 a1 len0 c1 z0 _ (by omega) R3.out).mono ?_
  rintro e w4 ⟨rfl, hb4⟩
  have B4 := Lib.hid (B3.out.trans (hb4.mono B3.out.size))
  clear hb4 R3 B3
  go_wp2_with fail
  exact bodyPost_ret (v := .bool true) (by simp [results, Try.results3, go_sem]) rfl ⟨rfl, B4.out⟩
end Go.Proofs.Ytlhcgnlbhncfkaa
