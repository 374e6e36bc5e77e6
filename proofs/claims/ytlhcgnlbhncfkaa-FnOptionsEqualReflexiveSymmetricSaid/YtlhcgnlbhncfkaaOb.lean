/-
  The contracts of the prefix table's maker. Conditions: each theorem's own.
-/
import Derived.Test.YtlhcgnlbhncfkaaOa
import Derived.Deep.DeepCutAuto
import Derived.BigRegion
namespace Go.Proofs.Ytlhcgnlbhncfkaa
open Go.ChangeShapes Go.WideShapes Go.ChangeAt Go.RowKit
open Go.Maps (Keyed IsMap Tidy)

theorem min30 (n m : Nat) (w : World) (hn : n ≤ 2097152) (hm : m ≤ 2097152) : Calls Try.prog 30 #[.int .i64 n, .int .i64 m] w fun e w' => e = .returned (.int .i64 ((min n m : Nat) : Int)) ∧ w' = w := by
  rcases Nat.lt_or_ge n m with h | h
  · rw [Nat.min_eq_left (by omega)]
    go_enter Try.func30, Try.ntmps30
    go_wp2_with fail
    go_ret
    exact ⟨rfl, rfl⟩
  · rw [Nat.min_eq_right (by omega)]
    go_enter Try.func30, Try.ntmps30
    go_wp2_with fail
    go_ret
    exact ⟨rfl, rfl⟩

/-- the loop that fills the table -/
structure Lm (w0 : World) (n : Nat) (ks vs : List Int) (vi : Value) (w : World) : Prop where
  ex : ∃ i : Nat, i ≤ n ∧ vi = .int .i64 (i : Int) ∧ w.ownsMap Try.prog 127 (plainElem Try.prog 128) w0.heap.size i (pm ks vs i)
  below : Below w0.heap.size w0 w
attribute [local go_sem] make43
set_option maxRecDepth 20000 in
set_option maxHeartbeats 2000000 in
theorem map29 (a0 a1 : Option Addr) (n0 n1 c0 c1 : Nat) (z0 z1 : List Int) (w : World) (h0 : n0 ≤ 1048576) (h1 : n1 ≤ 1048576) (r0 : Row .u16 w a0 n0 z0) (r1 : Row .u8 w a1 n1 z1) :
    Calls Try.prog 29 #[.slice a0 n0 c0, .slice a1 n1 c1] w fun e w' => (∃ v, e = .returned v ∧ PMap w' v (pm z0 z1 (min n0 n1))) ∧ Below w.heap.size w w' := by
  obtain ⟨n, hn⟩ : ∃ n, n = min n0 n1 := ⟨_, rfl⟩
  have R0 := Lib.hid r0
  have R1 := Lib.hid r1
  clear r0 r1
  go_enter Try.func29, Try.ntmps29
  go_wp2_with fail
  refine (min30 n0 n1 _ (by omega) (by omega)).mono ?_
  rintro e wx ⟨rfl, hw⟩
  obtain rfl := hw.symm
  clear hw
  rw [← hn]
  by_cases h : n = 0
  · subst h
    go_wp2_with fail
    go_ret
    exact ⟨⟨_, rfl, .inl ⟨rfl, by rw [← hn]; rfl⟩⟩, Below.refl _ _⟩
  · have g1 : ((n : Int) == 0) = false := by simp; omega
    have g2 : ¬ (n : Int) = 0 := by omega
    have hn0 : n ≤ n0 := by omega
    have hn1 : n ≤ n1 := by omega
    have HL := Lib.hid (show Lm w n z0 z1 (.int .i64 0) (w.alloc (.map #[] 0)) from ⟨⟨0, by omega, rfl, World.ownsMap_made _ _ _ _⟩, (Below.refl _ _).alloc (Nat.le_refl _) _⟩)
    go_wp2_with fail
    go_loopw [7] (fun vi wr => Lm w n z0 z1 vi wr) (fun vi _ => n - (intOf vi).toNat)
    case atStart => exact HL.out
    case round =>
      obtain ⟨i, hi, rfl, hO⟩ := hrel.ex
      have HB := Lib.hid hrel.below
      have HO := Lib.hid hO
      clear hrel HL hO
      by_cases hlt : i < n
      · have r0 := R0.out.below (Nat.le_refl _) HB.out
        have r1 := R1.out.below (Nat.le_refl _) HB.out
        obtain ⟨b0, o0, rfl, l0, q0⟩ := r0.cell (by omega)
        obtain ⟨b1, o1, rfl, l1, q1⟩ := r1.cell (by omega)
        have x0 := q0 i (by omega)
        have x1 := q1 i (by omega)
        have y0 := r0.wf i (by omega)
        have y1 := r1.wf i (by omega)
        clear q0 q1 r0 r1
        obtain ⟨wn, hrun, hO2, hG2⟩ := HO.out.drew.update law127 Try.underlying43 (by unfold maxLen; omega) (Maps.keyOf_int_mk Try.underlying127 y0) (plainElem_int Try.underlying128 y1)
        have hb2 := HB.out.size
        have L2 := Lib.hid (show Lm w n z0 z1 (.int .i64 ((i + 1 : Nat) : Int)) wn from ⟨⟨i + 1, by omega, rfl, hO2⟩, HB.out.drew.trans ⟨hG2.os, hG2.tape, hG2.output, hG2.size, fun k hk => hG2.block k (show k < wr.heap.size by omega) (by intro e; injection e with e; omega)⟩⟩)
        clear hO2 hG2 HO
        generalize z0.getD i 0 = X at *
        generalize z1.getD i 0 = Y at *
        go_wp2_with fail
        go_region
        all_goals
          go_wp2_with fail
          go_roundw
          case rel => exact L2.out
          case measure => simp [intOf]; omega
      · have e : i = n := by omega
        subst e
        go_wp2_with fail
        go_ret
        exact ⟨⟨_, rfl, .inr ⟨_, i, rfl, by omega, by rw [← hn]; exact HO.out⟩⟩, HB.out⟩
end Go.Proofs.Ytlhcgnlbhncfkaa
