/-
  The contracts of the leading-ampersand law's small helpers. Conditions: the shapes of the lists.
-/
import Derived.Test.YtnlohfbmknedhaaWg
namespace Go.Proofs.Ytnlohfbmknedhaa
open Go.ChangeShapes Go.WideShapes Go.ChangeAt Go.RowKit

/-- a slice of bools that came in -/
def IsBools (w : World) (a : Option Addr) (len cap : Nat) (zs : Nat → Bool) : Prop :=
  (a = none ∧ len = 0 ∧ cap = 0) ∨
  ∃ x, a = some x ∧ len ≤ cap ∧ cap ≤ maxLen ∧ ∀ i, i < cap → w.cell? (x.add i) = some (.bool (zs i))
structure RowB (w : World) (a : Option Addr) (n : Nat) (z : Nat → Bool) : Prop where
  cell : 0 < n → ∃ b off, a = some ⟨b, off, none⟩ ∧ b < w.heap.size ∧ ∀ i, i < n → w.cell? ⟨b, off + i, none⟩ = some (.bool (z i))
theorem IsBools.row {w : World} {a : Option Addr} {n c : Nat} {z : Nat → Bool} (h : IsBools w a n c z) : RowB w a n z ∧ n ≤ maxLen := by
  rcases h with ⟨rfl, rfl, rfl⟩ | ⟨x, rfl, hl, hm, hc⟩
  · exact ⟨⟨fun h => by omega⟩, by simp [maxLen]⟩
  · refine ⟨⟨fun h => ?_⟩, by omega⟩
    have h0 := hc 0 (by omega)
    obtain ⟨h1, h2⟩ := cell_lt h0
    obtain ⟨b, off, sp⟩ := x
    have h1' : b < w.heap.size := h1
    have h2' : sp = none := h2
    subst h2'
    refine ⟨b, off, rfl, h1', fun i hi => ?_⟩
    have q := hc i (by omega)
    by_cases e : i = 0
    · subst e; simpa [Addr.add] using q
    · simpa [Addr.add, e] using q
theorem RowB.below {w w' : World} {a : Option Addr} {n : Nat} {z : Nat → Bool} (h : RowB w a n z) {B : Nat} (hB : w.heap.size ≤ B) (hb : Below B w w') : RowB w' a n z := by
  refine ⟨fun hn => ?_⟩
  obtain ⟨b, off, e, hlt, hc⟩ := h.cell hn
  refine ⟨b, off, e, ?_, fun i hi => ?_⟩
  · have := hb.size
    omega
  · rw [hb.cell (p := ⟨b, off + i, none⟩) (by show b < B; omega)]; exact hc i hi

theorem wf_u8 {x : Int} (h : (Lit.int .u8 x).wf = true) : 0 ≤ x ∧ x ≤ 255 := by
  have hm : IntKind.u8.min = 0 := by decide
  have hM : IntKind.u8.max = 255 := by decide
  simp only [Lit.wf, Bool.and_eq_true, decide_eq_true_eq] at h
  omega

theorem nest37 (a : Option Addr) (n c : Nat) (z : List Int) (i : Nat) (w : World) (hn : n ≤ 4096) (h : Row .u8 w a n z) (hi : i < n) :
    Calls Try.prog 37 #[.slice a n c, .int .i64 i] w fun e w' => (∃ k : Nat, k ≤ 2 ∧ e = .returned (.int .i64 k)) ∧ w' = w := by
  obtain ⟨b, o, rfl, l, q⟩ := h.cell (by omega)
  have c1 := q i hi
  obtain ⟨x0, x1⟩ := wf_u8 (h.wf i hi)
  clear q h
  generalize z.getD i 0 = X at *
  go_enter Try.func37, Try.ntmps37
  go_wp2_with fail
  go_ret
  exact ⟨⟨(X % 3).toNat, by omega, by rw [Int.toNat_of_nonneg (by omega)]; rfl⟩, rfl⟩

/-- the type flag of compound i -/
def tyB (n : Nat) (z : Nat → Bool) (i : Nat) : Bool := decide (i < n) && z i
theorem type38 (a : Option Addr) (n c : Nat) (z : Nat → Bool) (i : Nat) (w : World) (hn : n ≤ 4096) (hi : i ≤ 4096) (h : RowB w a n z) :
    Calls Try.prog 38 #[.slice a n c, .int .i64 i] w fun e w' => e = .returned (.bool (tyB n z i)) ∧ w' = w := by
  by_cases g : i < n
  · obtain ⟨b, o, rfl, l, q⟩ := h.cell (by omega)
    have c1 := q i g
    have HT := Lib.hid (show tyB n z i = z i by simp [tyB, g])
    clear q h
    rw [HT.out]
    generalize z i = Z at *
    go_enter Try.func38, Try.ntmps38
    go_wp2_with fail
    go_ret
    exact ⟨rfl, rfl⟩
  · have HT := Lib.hid (show tyB n z i = false by simp [tyB, g])
    clear h
    rw [HT.out]
    go_enter Try.func38, Try.ntmps38
    go_wp2_with fail
    go_ret
    exact ⟨by first | rfl | simp, rfl⟩

theorem cls39 (a : Option Addr) (n c : Nat) (z : List Int) (i : Nat) (w : World) (hn : n ≤ 4096) (hi : i ≤ 4096) (h : Row .u8 w a n z) :
    Calls Try.prog 39 #[.slice a n c, .int .i64 i] w fun e w' => (∃ k : Nat, k ≤ 2 ∧ e = .returned (.int .i64 k)) ∧ w' = w := by
  by_cases g : i < n
  · obtain ⟨b, o, rfl, l, q⟩ := h.cell (by omega)
    have c1 := q i g
    obtain ⟨x0, x1⟩ := wf_u8 (h.wf i g)
    clear q h
    generalize z.getD i 0 = X at *
    go_enter Try.func39, Try.ntmps39
    go_wp2_with fail
    go_ret
    exact ⟨⟨(X % 3).toNat, by omega, by rw [Int.toNat_of_nonneg (by omega)]; rfl⟩, rfl⟩
  · clear h
    go_enter Try.func39, Try.ntmps39
    go_wp2_with fail
    go_ret
    exact ⟨⟨0, by omega, rfl⟩, rfl⟩

set_option maxHeartbeats 1000000 in
theorem comb40 (a : Option Addr) (n c : Nat) (z : List Int) (i : Nat) (w : World) (hn : n ≤ 4096) (hi : i ≤ 4096) (h : Row .u8 w a n z) :
    Calls Try.prog 40 #[.slice a n c, .int .i64 i] w fun e w' => (∃ k : Int, e = .returned (.int .u8 k)) ∧ w' = w := by
  by_cases g : i < n
  · obtain ⟨b, o, rfl, l, q⟩ := h.cell (by omega)
    have c1 := q i g
    obtain ⟨x0, x1⟩ := wf_u8 (h.wf i g)
    clear q h
    generalize z.getD i 0 = X at *
    have e4 : X % 4 = 0 ∨ X % 4 = 1 ∨ X % 4 = 2 ∨ X % 4 = 3 := by omega
    rcases e4 with e4 | e4 | e4 | e4
    all_goals
      go_enter Try.func40, Try.ntmps40
      go_wp2_with fail
      go_ret
      exact ⟨⟨_, rfl⟩, rfl⟩
  · clear h
    go_enter Try.func40, Try.ntmps40
    go_wp2_with fail
    go_ret
    exact ⟨⟨_, rfl⟩, rfl⟩

set_option maxRecDepth 20000 in
theorem class41 (w : World) :
    Calls Try.prog 41 #[] w fun e w' => (∃ ad, e = .returned (.agg #[.iface 132 (.pointer (some ad)), .int .i32 0, .int .i32 0])) ∧ Below w.heap.size w w' := by
  go_enter Try.func41, Try.ntmps41
  go_wp2_with fail
  refine bodyPost_ret (v := .agg #[.iface 132 (.pointer (some ⟨w.heap.size + 1, 0, none⟩)), .int .i32 0, .int .i32 0]) (by simp [results, Try.results41, go_sem]) rfl ⟨⟨_, rfl⟩, ?_⟩
  exact ((Below.refl _ _).alloc (Nat.le_refl _) _).alloc (by simp [go_sem]) _

theorem info62 : (Try.prog.info? 62).map (fun i => (i.zero, i.size, i.bytes)) = some (some (.agg #[.pointer none, .slice none 0 0, .slice none 0 0, .int .i32 0, .int .u8 0, .bool false]), 6, 72) := by kernel_rfl
theorem info125 : (Try.prog.info? 125).map (fun i => (i.zero, i.size, i.bytes)) = some (some (.agg #[.nilIface, .int .i32 0, .int .i32 0]), 3, 24) := by kernel_rfl
theorem info58 : (Try.prog.info? 58).map (fun i => (i.zero, i.size, i.bytes)) = some (some (.agg #[.int .i32 0]), 1, 4) := by kernel_rfl

set_option maxRecDepth 20000 in
set_option maxHeartbeats 1000000 in
theorem any25 (a0 a1 a2 a3 : Option Addr) (l0 l1 l2 l3 c0 c1 c2 c3 : Nat) (w : World) (h0 : l0 ≤ maxLen) (h1 : l1 ≤ maxLen) (h2 : l2 ≤ maxLen) (h3 : l3 ≤ maxLen) :
    Calls Try.prog 25 #[.slice a0 l0 c0, .slice a1 l1 c1, .slice a2 l2 c2, .slice a3 l3 c3] w fun e w' => (∃ b, e = .returned (.bool b)) ∧ w' = w := by
  simp only [maxLen] at h0 h1 h2 h3
  by_cases g0 : l0 ≤ 1048576
  case neg =>
    go_enter Try.func25, Try.ntmps25
    go_wp2_with fail
    go_ret
    exact ⟨⟨_, rfl⟩, rfl⟩
  by_cases g1 : l1 ≤ 1048576
  case neg =>
    go_enter Try.func25, Try.ntmps25
    go_wp2_with fail
    go_ret
    exact ⟨⟨_, rfl⟩, rfl⟩
  by_cases g2 : l0 + l1 ≤ 1048576
  case neg =>
    go_enter Try.func25, Try.ntmps25
    go_wp2_with fail
    go_ret
    exact ⟨⟨_, rfl⟩, rfl⟩
  by_cases g3 : l2 ≤ 1048576
  case neg =>
    go_enter Try.func25, Try.ntmps25
    go_wp2_with fail
    go_ret
    exact ⟨⟨_, rfl⟩, rfl⟩
  by_cases g4 : l0 + l1 + l2 ≤ 1048576
  case neg =>
    go_enter Try.func25, Try.ntmps25
    go_wp2_with fail
    go_ret
    exact ⟨⟨_, rfl⟩, rfl⟩
  by_cases g5 : l3 ≤ 1048576
  case neg =>
    go_enter Try.func25, Try.ntmps25
    go_wp2_with fail
    go_ret
    exact ⟨⟨_, rfl⟩, rfl⟩
  by_cases g6 : l0 + l1 + l2 + l3 ≤ 1048576
  all_goals
    go_enter Try.func25, Try.ntmps25
    go_wp2_with fail
    go_ret
    exact ⟨⟨_, rfl⟩, rfl⟩

structure LoopE (w : World) (n : Nat) (i : Value) (wr : World) : Prop where
  ex : ∃ k : Nat, k ≤ n ∧ i = .int .i64 k ∧ wr = w
set_option maxRecDepth 20000 in
set_option maxHeartbeats 2000000 in
theorem any26 (a0 a2 a3 : Option Addr) (n l2 l3 c0 c2 c3 : Nat) (z0 z3 : List Int) (z2 : Nat → Bool) (w : World) (hn : n ≤ 4096) (h2 : l2 ≤ 4096) (h3 : l3 ≤ 4096) (r0 : Row .u8 w a0 n z0) (r2 : RowB w a2 l2 z2) (r3 : Row .u8 w a3 l3 z3) :
    Calls Try.prog 26 #[.slice a0 n c0, .slice a2 l2 c2, .slice a3 l3 c3] w fun e w' => (∃ b, e = .returned (.bool b)) ∧ w' = w := by
  have R0 := Lib.hid r0
  have R2 := Lib.hid r2
  have R3 := Lib.hid r3
  clear r0 r2 r3
  go_enter Try.func26, Try.ntmps26
  go_wp2_with fail
  go_loopw [7] (fun i wr => LoopE w n i wr) (fun i _ => n - (intOf i).toNat)
  case atStart => exact ⟨0, by omega, rfl, rfl⟩
  case round =>
    obtain ⟨k, hk, rfl, hw⟩ := hrel.ex
    clear hrel
    obtain rfl := hw.symm
    clear hw
    by_cases hlt : k < n
    · go_wp2_with fail
      with_reducible refine (nest37 a0 n c0 z0 k _ hn R0.out hlt).mono ?_
      rintro e w2 ⟨⟨q, hq, rfl⟩, hw⟩
      obtain rfl := hw.symm
      clear hw
      by_cases hq0 : q = 0
      · subst hq0
        go_wp2_with fail
        with_reducible refine (type38 a2 l2 c2 z2 k _ h2 (by omega) R2.out).mono ?_
        generalize tyB l2 z2 k = T
        rintro e w2 ⟨rfl, hw⟩
        obtain rfl := hw.symm
        clear hw
        cases T
        · go_wp2_with fail
          with_reducible refine (cls39 a3 l3 c3 z3 k _ h3 (by omega) R3.out).mono ?_
          rintro e w2 ⟨⟨r, hr, rfl⟩, hw⟩
          obtain rfl := hw.symm
          clear hw
          by_cases hr0 : r = 0
          · subst hr0
            go_wp2_with fail
            go_ret
            exact ⟨⟨_, rfl⟩, rfl⟩
          · have hr1 : ((r : Int) == 0) = false := by simp; omega
            go_wp2_with fail
            go_roundw
            case rel => exact ⟨k + 1, by omega, by go_num, rfl⟩
            case measure => simp [intOf]; omega
        · go_wp2_with fail
          go_roundw
          case rel => exact ⟨k + 1, by omega, by go_num, rfl⟩
          case measure => simp [intOf]; omega
      · have hq1 : ((q : Int) == 0) = false := by simp; omega
        go_wp2_with fail
        go_roundw
        case rel => exact ⟨k + 1, by omega, by go_num, rfl⟩
        case measure => simp [intOf]; omega
    · go_wp2_with fail
      go_ret
      exact ⟨⟨_, rfl⟩, rfl⟩
end Go.Proofs.Ytnlohfbmknedhaa
