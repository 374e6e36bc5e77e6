/-
  The contracts of the quad laws' tests of length, and of equality but for whitespace. Conditions: strings of a real length.
-/
import Derived.Test.YtecdhjhobjagkaaWd
namespace Go.Proofs.Ytecdhjhobjagkaa
open Go.ChangeShapes Go.WideShapes Go.ChangeAt Go.RowKit

structure AnyB (w : World) (e : Ending) (w' : World) : Prop where
  ex : ∃ b, e = .returned (.bool b) ∧ Below w.heap.size w w'
abbrev W4 (x0 x1 x2 x3 : Tok) (w : World) : World :=
  (((w.alloc (.cells #[.int .u8 x0.k, .int .u8 x1.k, .int .u8 x2.k, .int .u8 x3.k] 29)).alloc
    (.cells #[.string x0.t, .string x1.t, .string x2.t, .string x3.t] 30)).alloc
    (.cells #[.int .u32 x0.p, .int .u32 x1.p, .int .u32 x2.p, .int .u32 x3.p] 32)).alloc
    (.cells #[.int .u8 x0.ws, .int .u8 x1.ws, .int .u8 x2.ws, .int .u8 x3.ws] 29)
theorem below_four (x0 x1 x2 x3 : Tok) (w : World) : Below w.heap.size w (W4 x0 x1 x2 x3 w) :=
  ((((Below.refl _ _).alloc (Nat.le_refl _) _).alloc (by simp [go_sem]) _).alloc (by simp [go_sem]; omega) _).alloc (by simp [go_sem]; omega) _
theorem W4_cell (x0 x1 x2 x3 : Tok) (w : World) (k : Nat) (hk : k < 4) : (W4 x0 x1 x2 x3 w).cell? ⟨w.heap.size + 1, k, none⟩ = some (.string (four x0 x1 x2 x3 k).t) := by
  have e : k = 0 ∨ k = 1 ∨ k = 2 ∨ k = 3 := by omega
  rcases e with rfl | rfl | rfl | rfl <;> simp [go_sem, four]
theorem four_size (x0 x1 x2 x3 : Tok) (z0 : x0.t.size ≤ maxLen) (z1 : x1.t.size ≤ maxLen) (z2 : x2.t.size ≤ maxLen) (z3 : x3.t.size ≤ maxLen) (k : Nat) (hk : k < 4) : (four x0 x1 x2 x3 k).t.size ≤ maxLen := by
  have e : k = 0 ∨ k = 1 ∨ k = 2 ∨ k = 3 := by omega
  rcases e with rfl | rfl | rfl | rfl <;> simp [four, *]
structure LoopB (W : World) (zn i : Value) (wr : World) : Prop where
  ex : ∃ (k : Nat) (n : Int), k ≤ 4 ∧ 0 ≤ n ∧ n ≤ 1048576 ∧ i = .int .i64 k ∧ zn = .int .i64 n ∧ wr = W

set_option maxRecDepth 20000 in
set_option maxHeartbeats 1000000 in
theorem any12 (x0 x1 x2 x3 : Tok) (m : Bool) (w : World) (z0 : x0.t.size ≤ maxLen) (z1 : x1.t.size ≤ maxLen) (z2 : x2.t.size ≤ maxLen) (z3 : x3.t.size ≤ maxLen) :
    Calls Try.prog 12 #[.agg #[.int .u8 x0.k, .int .u8 x1.k, .int .u8 x2.k, .int .u8 x3.k], .agg #[.string x0.t, .string x1.t, .string x2.t, .string x3.t], .agg #[.int .u32 x0.p, .int .u32 x1.p, .int .u32 x2.p, .int .u32 x3.p], .agg #[.int .u8 x0.ws, .int .u8 x1.ws, .int .u8 x2.ws, .int .u8 x3.ws], .bool m] w (AnyB w) := by
  have HB := Lib.hid (below_four x0 x1 x2 x3 w)
  have HC := Lib.hid (W4_cell x0 x1 x2 x3 w)
  have HZ := Lib.hid (four_size x0 x1 x2 x3 z0 z1 z2 z3)
  clear z0 z1 z2 z3
  go_enter Try.func12, Try.ntmps12
  go_wp2_with fail
  go_loopw [11, 12] (fun zn i wr => LoopB (W4 x0 x1 x2 x3 w) zn i wr) (fun _ i _ => 4 - (intOf i).toNat)
  case atStart => exact ⟨0, 0, by omega, by omega, by omega, rfl, rfl, rfl⟩
  case round =>
    obtain ⟨k, n, hk, h0, h1, rfl, rfl, hw⟩ := hrel.ex
    clear hrel
    by_cases hlt : k < 4
    · have cc := HC.out k hlt
      have cz := HZ.out k hlt
      rw [← hw] at cc
      have HBW := Lib.hid (hw ▸ HB.out : Below w.heap.size w wr)
      have HW := Lib.hid hw
      clear hw HB
      simp only [maxLen] at cz
      generalize (four x0 x1 x2 x3 k).t = T at *
      have b0 : (0 : Int) ≤ (k : Int) := by omega
      have b1 : (k : Int) < 4 := by omega
      by_cases g1 : T.size ≤ 1048576
      · by_cases g2 : n + T.size ≤ 1048576
        · go_wp2_with fail
          go_roundw
          case rel => exact ⟨k + 1, n + T.size, by omega, by omega, by omega, by go_num, by go_num, HW.out⟩
          case measure => first | (simp [intOf]; done) | (simp [intOf]; omega)
        · go_wp2_with fail
          go_ret
          exact ⟨false, rfl, HBW.out⟩
      · go_wp2_with fail
        go_ret
        exact ⟨false, rfl, HBW.out⟩
    · have HBW := Lib.hid (hw ▸ HB.out : Below w.heap.size w wr)
      clear hw HB
      go_wp2_with fail
      go_ret
      exact ⟨true, rfl, HBW.out⟩

set_option maxRecDepth 20000 in
set_option maxHeartbeats 1000000 in
theorem any22 (x0 x1 x2 x3 : Tok) (m : Bool) (w : World) (z0 : x0.t.size ≤ maxLen) (z1 : x1.t.size ≤ maxLen) (z2 : x2.t.size ≤ maxLen) (z3 : x3.t.size ≤ maxLen) :
    Calls Try.prog 22 #[.agg #[.int .u8 x0.k, .int .u8 x1.k, .int .u8 x2.k, .int .u8 x3.k], .agg #[.string x0.t, .string x1.t, .string x2.t, .string x3.t], .agg #[.int .u32 x0.p, .int .u32 x1.p, .int .u32 x2.p, .int .u32 x3.p], .agg #[.int .u8 x0.ws, .int .u8 x1.ws, .int .u8 x2.ws, .int .u8 x3.ws], .bool m] w (AnyB w) := by
  have HB := Lib.hid (below_four x0 x1 x2 x3 w)
  have HC := Lib.hid (W4_cell x0 x1 x2 x3 w)
  have HZ := Lib.hid (four_size x0 x1 x2 x3 z0 z1 z2 z3)
  clear z0 z1 z2 z3
  go_enter Try.func22, Try.ntmps22
  go_wp2_with fail
  go_loopw [11, 12] (fun zn i wr => LoopB (W4 x0 x1 x2 x3 w) zn i wr) (fun _ i _ => 4 - (intOf i).toNat)
  case atStart => exact ⟨0, 0, by omega, by omega, by omega, rfl, rfl, rfl⟩
  case round =>
    obtain ⟨k, n, hk, h0, h1, rfl, rfl, hw⟩ := hrel.ex
    clear hrel
    by_cases hlt : k < 4
    · have cc := HC.out k hlt
      have cz := HZ.out k hlt
      rw [← hw] at cc
      have HBW := Lib.hid (hw ▸ HB.out : Below w.heap.size w wr)
      have HW := Lib.hid hw
      clear hw HB
      simp only [maxLen] at cz
      generalize (four x0 x1 x2 x3 k).t = T at *
      have b0 : (0 : Int) ≤ (k : Int) := by omega
      have b1 : (k : Int) < 4 := by omega
      by_cases g1 : T.size ≤ 1048576
      · by_cases g2 : n + T.size ≤ 1048576
        · go_wp2_with fail
          go_roundw
          case rel => exact ⟨k + 1, n + T.size, by omega, by omega, by omega, by go_num, by go_num, HW.out⟩
          case measure => first | (simp [intOf]; done) | (simp [intOf]; omega)
        · go_wp2_with fail
          go_ret
          exact ⟨false, rfl, HBW.out⟩
      · go_wp2_with fail
        go_ret
        exact ⟨false, rfl, HBW.out⟩
    · have HBW := Lib.hid (hw ▸ HB.out : Below w.heap.size w wr)
      clear hw HB
      go_wp2_with fail
      go_ret
      exact ⟨true, rfl, HBW.out⟩


structure LoopT (W : World) (i : Value) (wr : World) : Prop where
  ex : ∃ (k : Nat), k ≤ 4 ∧ i = .int .i64 k ∧ wr = W
set_option maxRecDepth 20000 in
set_option maxHeartbeats 1000000 in
theorem any13 (x0 x1 x2 x3 : Tok) (w : World) (z0 : x0.t.size ≤ maxLen) (z1 : x1.t.size ≤ maxLen) (z2 : x2.t.size ≤ maxLen) (z3 : x3.t.size ≤ maxLen) :
    Calls Try.prog 13 #[.agg #[.string x0.t, .string x1.t, .string x2.t, .string x3.t]] w (AnyB w) := by
  have HB := Lib.hid ((Below.refl w.heap.size w).alloc (Nat.le_refl _) (.cells #[.string x0.t, .string x1.t, .string x2.t, .string x3.t] 30))
  have HC := Lib.hid (show ∀ k, k < 4 → (w.alloc (.cells #[.string x0.t, .string x1.t, .string x2.t, .string x3.t] 30)).cell? ⟨w.heap.size, k, none⟩ = some (.string (four x0 x1 x2 x3 k).t) by
    intro k hk
    have e : k = 0 ∨ k = 1 ∨ k = 2 ∨ k = 3 := by omega
    rcases e with rfl | rfl | rfl | rfl <;> simp [go_sem, four])
  have HZ := Lib.hid (four_size x0 x1 x2 x3 z0 z1 z2 z3)
  clear z0 z1 z2 z3
  go_enter Try.func13, Try.ntmps13
  go_wp2_with fail
  go_loopw [3] (fun i wr => LoopT (w.alloc (.cells #[.string x0.t, .string x1.t, .string x2.t, .string x3.t] 30)) i wr) (fun i _ => 4 - (intOf i).toNat)
  case atStart => exact ⟨0, by omega, rfl, rfl⟩
  case round =>
    obtain ⟨k, hk, rfl, hw⟩ := hrel.ex
    clear hrel
    by_cases hlt : k < 4
    · have cc := HC.out k hlt
      have cz := HZ.out k hlt
      rw [← hw] at cc
      have HBW := Lib.hid (hw ▸ HB.out : Below w.heap.size w wr)
      have HW := Lib.hid hw
      clear hw HB
      simp only [maxLen] at cz
      generalize (four x0 x1 x2 x3 k).t = T at *
      have b0 : (0 : Int) ≤ (k : Int) := by omega
      have b1 : (k : Int) < 4 := by omega
      by_cases g1 : T.size ≤ 65536
      · go_wp2_with fail
        go_roundw
        case rel => exact ⟨k + 1, by omega, by go_num, HW.out⟩
        case measure => first | (simp [intOf]; done) | (simp [intOf]; omega)
      · go_wp2_with fail
        go_ret
        exact ⟨true, rfl, HBW.out⟩
    · have HBW := Lib.hid (hw ▸ HB.out : Below w.heap.size w wr)
      clear hw HB
      go_wp2_with fail
      go_ret
      exact ⟨false, rfl, HBW.out⟩

set_option maxRecDepth 20000 in
set_option maxHeartbeats 1000000 in
theorem same23 (x y : Tok) (w : World) (h1 : x.k = y.k) (h2 : x.t = y.t) (h3 : x.s = y.s) (h4 : x.p = y.p) :
    Calls Try.prog 23 #[x.v, y.v] w fun e w' => e = .returned (.bool true) ∧ Below w.heap.size w w' := by
  obtain ⟨xt, xs, xp, xk, xw⟩ := x
  obtain ⟨yt, ys, yp, yk, yw⟩ := y
  simp only at h1 h2 h3 h4
  subst h1 h2 h3 h4
  simp only [Tok.v]
  go_enter Try.func23, Try.ntmps23
  go_wp2_with fail
  go_ret
  exact ⟨by first | rfl | simp, ((Below.refl _ _).alloc (Nat.le_refl _) _).alloc (by simp [go_sem]) _⟩

/-! the plain law: equality but for whitespace is an equivalence; the shorthand -/
theorem teq_iff (x y : Tok) : teq x y = true ↔ x.k = y.k ∧ x.t.toList = y.t.toList ∧ x.p = y.p := by simp [teq]
theorem teq_refl (x : Tok) : teq x x = true := by simp [teq]
theorem teq_symm {x y : Tok} (h : teq x y = true) : teq y x = true := by
  rw [teq_iff] at *
  exact ⟨h.1.symm, h.2.1.symm, h.2.2.symm⟩
theorem teq_trans {x y z : Tok} (h : teq x y = true) (k : teq y z = true) : teq x z = true := by
  rw [teq_iff] at *
  exact ⟨h.1.trans k.1, h.2.1.trans k.2.1, h.2.2.trans k.2.2⟩
/-- does out[index(j, i')] equal q[i'] for all i' < i? -/
def allU (x : Nat → Tok) (j : Nat) : Nat → Bool
  | 0 => true
  | i + 1 => allU x j i && teq (x (qix j i)) (x i)
theorem allU_at {x : Nat → Tok} {j i : Nat} (h : allU x j i = true) : ∀ k, k < i → teq (x (qix j k)) (x k) = true := by
  induction i with
  | zero => intro k hk; omega
  | succ i ih =>
    intro k hk
    simp only [allU, Bool.and_eq_true] at h
    by_cases e : k = i
    · subst e; exact h.2
    · exact ih h.1 k (by omega)
theorem allU_of {x : Nat → Tok} {j i : Nat} (h : ∀ k, k < i → teq (x (qix j k)) (x k) = true) : allU x j i = true := by
  induction i with
  | zero => rfl
  | succ i ih => simp only [allU, Bool.and_eq_true]; exact ⟨ih (fun k hk => h k (by omega)), h i (by omega)⟩
theorem shortest (x0 x1 x2 x3 : Tok) (j : Nat) (h1 : 1 ≤ j) (hj : j < qn x0 x1 x2 x3) : allU (four x0 x1 x2 x3) j 4 = false := by
  cases hA : allU (four x0 x1 x2 x3) j 4 with
  | false => rfl
  | true =>
    exfalso
    have a1 := allU_at hA 1 (by omega)
    have a2 := allU_at hA 2 (by omega)
    have a3 := allU_at hA 3 (by omega)
    unfold qn at hj
    by_cases e31 : teq x3 x1 = true
    · rw [if_pos e31] at hj
      by_cases e20 : teq x2 x0 = true
      · rw [if_pos e20] at hj
        by_cases e10 : teq x1 x0 = true
        · rw [if_pos e10] at hj; omega
        · rw [if_neg e10] at hj
          obtain rfl : j = 1 := by omega
          simp [qix, four] at a1
          exact e10 (teq_symm a1)
      · rw [if_neg e20] at hj
        have : j = 1 ∨ j = 2 := by omega
        rcases this with rfl | rfl <;> simp [qix, four] at a2 <;> exact e20 (teq_symm a2)
    · rw [if_neg e31] at hj
      have : j = 1 ∨ j = 2 ∨ j = 3 := by omega
      rcases this with rfl | rfl | rfl
      · simp [qix, four] at a1 a3
        exact e31 (teq_trans (teq_symm a3) a1)
      · simp [qix, four] at a3
        exact e31 (teq_symm a3)
      · simp [qix, four] at a3
        exact e31 (teq_symm a3)
theorem lossless (x0 x1 x2 x3 : Tok) : allU (four x0 x1 x2 x3) (qn x0 x1 x2 x3) 4 = true := by
  refine allU_of fun k hk => ?_
  have e : k = 0 ∨ k = 1 ∨ k = 2 ∨ k = 3 := by omega
  unfold qn
  by_cases e31 : teq x3 x1 = true
  · rw [if_pos e31]
    by_cases e20 : teq x2 x0 = true
    · rw [if_pos e20]
      by_cases e10 : teq x1 x0 = true
      · rw [if_pos e10]
        rcases e with rfl | rfl | rfl | rfl <;> simp [qix, four]
        · exact teq_refl _
        · exact teq_symm e10
        · exact teq_symm e20
        · exact teq_symm (teq_trans e31 e10)
      · rw [if_neg e10]
        rcases e with rfl | rfl | rfl | rfl <;> simp [qix, four]
        · exact teq_refl _
        · exact teq_refl _
        · exact teq_symm e20
        · exact teq_symm e31
    · rw [if_neg e20]
      rcases e with rfl | rfl | rfl | rfl <;> simp [qix, four]
      · exact teq_refl _
      · exact teq_refl _
      · exact teq_refl _
      · exact teq_symm e31
  · rw [if_neg e31]
    rcases e with rfl | rfl | rfl | rfl <;> simp [qix, four] <;> exact teq_refl _
theorem qn_bounds (x0 x1 x2 x3 : Tok) : 1 ≤ qn x0 x1 x2 x3 ∧ qn x0 x1 x2 x3 ≤ 4 := by
  unfold qn
  split
  · split
    · split <;> omega
    · omega
  · omega
theorem qix_lt (j i : Nat) (h : 1 ≤ j) : qix j i < j := by
  unfold qix
  split
  · omega
  · split
    · assumption
    · split <;> omega
theorem teq_wsd (m : Bool) (n k : Nat) (x : Nat → Tok) (i : Nat) (y : Tok) : teq (wsd m n k x i) y = teq (x i) y := by
  unfold wsd
  split <;> rfl
end Go.Proofs.Ytecdhjhobjagkaa
