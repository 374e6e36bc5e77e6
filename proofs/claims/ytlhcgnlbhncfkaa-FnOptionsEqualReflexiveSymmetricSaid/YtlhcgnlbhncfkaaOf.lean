/-
  The contracts of the options laws' own helpers. Conditions: each theorem's own.
-/
import Derived.Test.YtlhcgnlbhncfkaaOe
namespace Go.Proofs.Ytlhcgnlbhncfkaa
open Go.ChangeShapes Go.WideShapes Go.ChangeAt Go.RowKit
open Go.Maps (Keyed IsMap Tidy)

theorem class16 (l : Int) (w : World) : Calls Try.prog 16 #[.int .u8 l] w fun e w' => e = .returned (.int .i64 (mode l)) ∧ w' = w := by
  by_cases h9 : l = 9
  · subst h9
    go_enter Try.func16, Try.ntmps16
    go_wp2_with fail
    go_ret
    exact ⟨rfl, rfl⟩
  by_cases h14 : l = 14
  · subst h14
    go_enter Try.func16, Try.ntmps16
    go_wp2_with fail
    go_ret
    exact ⟨rfl, rfl⟩
  · have g1 : (l == 9) = false := by simp [h9]
    have g2 : (l == 14) = false := by simp [h14]
    go_enter Try.func16, Try.ntmps16
    go_wp2_with fail
    go_ret
    exact ⟨by simp [mode, h9, h14], rfl⟩
theorem bytes13 (x0 x1 x2 x6 x7 x8 : Int) (ea eb : ByteArray) (a0 a1 b0 b1 : Option Addr) (n0 n1 m0 m1 c0 c1 d0 d1 : Nat) (w : World) (he : ea.size ≤ maxLen) (hf : eb.size ≤ maxLen) :
    Calls Try.prog 13 #[.int .u8 x0, .int .u8 x1, .int .u16 x2, .string ea, .slice a0 n0 c0, .slice a1 n1 c1, .int .u8 x6, .int .u8 x7, .int .u16 x8, .string eb, .slice b0 m0 d0, .slice b1 m1 d1] w fun e w' => (∃ b, e = .returned (.bool b) ∧ (b = true → ea.size ≤ 1048576 ∧ n0 ≤ 1048576 ∧ n1 ≤ 1048576 ∧ eb.size ≤ 1048576 ∧ m0 ≤ 1048576 ∧ m1 ≤ 1048576)) ∧ w' = w := by
  unfold maxLen at he hf
  go_enter Try.func13, Try.ntmps13
  go_wp2_with fail
  all_goals (go_ret; first | exact ⟨⟨false, rfl, by simp⟩, rfl⟩ | exact ⟨⟨true, rfl, fun _ => by omega⟩, rfl⟩)
theorem bytes19 (x0 x1 x2 x6 x7 x8 : Int) (ea eb : ByteArray) (a0 a1 b0 b1 : Option Addr) (n0 n1 m0 m1 c0 c1 d0 d1 : Nat) (w : World) (he : ea.size ≤ maxLen) (hf : eb.size ≤ maxLen) :
    Calls Try.prog 19 #[.int .u8 x0, .int .u8 x1, .int .u16 x2, .string ea, .slice a0 n0 c0, .slice a1 n1 c1, .int .u8 x6, .int .u8 x7, .int .u16 x8, .string eb, .slice b0 m0 d0, .slice b1 m1 d1] w fun e w' => (∃ b, e = .returned (.bool b) ∧ (b = true → ea.size ≤ 1048576 ∧ n0 ≤ 1048576 ∧ n1 ≤ 1048576 ∧ eb.size ≤ 1048576 ∧ m0 ≤ 1048576 ∧ m1 ≤ 1048576)) ∧ w' = w := by
  unfold maxLen at he hf
  go_enter Try.func19, Try.ntmps19
  go_wp2_with fail
  all_goals (go_ret; first | exact ⟨⟨false, rfl, by simp⟩, rfl⟩ | exact ⟨⟨true, rfl, fun _ => by omega⟩, rfl⟩)
/-- options laid into a new block -/
theorem OptAt.made (w : World) (p : Option Nat) (f1 f2 f3 : Bool) (ft : Int) (env : ByteArray) (m : Int) (cs : Array Value) (hcs : cs.size = 7) :
    OptAt (wrs w.heap.size (w.alloc (.cells cs 49)) 0 [.map p, .string env, .int .u16 ft, .bool f1, .bool f2, .bool f3, .int .u8 m]) w.heap.size p f1 f2 f3 ft env m ∧ Below w.heap.size w (wrs w.heap.size (w.alloc (.cells cs 49)) 0 [.map p, .string env, .int .u16 ft, .bool f1, .bool f2, .bool f3, .int .u8 m]) := by
  have hb : Below w.heap.size w (w.alloc (.cells cs 49)) := (Below.refl _ _).alloc (Nat.le_refl _) _
  have h := Go.heap_alloc_new w (.cells cs 49)
  have hB := wrs_below w.heap.size (w0 := w) (Nat.le_refl _) [.map p, .string env, .int .u16 ft, .bool f1, .bool f2, .bool f3, .int .u8 m] (w.alloc (.cells cs 49)) 0 hb
  have hR := wrs_read w.heap.size [.map p, .string env, .int .u16 ft, .bool f1, .bool f2, .bool f3, .int .u8 m] (w.alloc (.cells cs 49)) 0 (fun k _ hk => ⟨cs[k]'(by simp at hk; omega), by
    have hk : k < cs.size := by simp at hk; omega
    unfold World.cell?
    simp only [h]
    simp [hk]⟩)
  have sz : (wrs w.heap.size (w.alloc (.cells cs 49)) 0 [.map p, .string env, .int .u16 ft, .bool f1, .bool f2, .bool f3, .int .u8 m]).heap.size = w.heap.size + 1 := by simp [wrs]
  generalize wrs w.heap.size (w.alloc (.cells cs 49)) 0 [.map p, .string env, .int .u16 ft, .bool f1, .bool f2, .bool f3, .int .u8 m] = X at *
  exact ⟨⟨by omega, by simpa using hR 0 _ rfl, by simpa using hR 1 _ rfl, by simpa using hR 2 _ rfl, by simpa using hR 3 _ rfl, by simpa using hR 4 _ rfl, by simpa using hR 5 _ rfl, by simpa using hR 6 _ rfl⟩, hB⟩
/-- the loop of the tables' comparison -/
structure Ls (X : World) (n : Nat) (ks : List Int) (DA DB : Dt) (vi : Value) (w : World) : Prop where
  ex : ∃ i : Nat, i ≤ n ∧ vi = .int .i64 (i : Int) ∧ ∀ j, j < i → Maps.has DB (.int .u16 (ks.getD j 0)) = true ∧ ∀ z, DA.atKey (.int .u16 (ks.getD j 0)) z = DB.atKey (.int .u16 (ks.getD j 0)) z
  same : w = X
set_option maxRecDepth 20000 in
set_option maxHeartbeats 2000000 in
theorem same17a (a0 a1 b0 b1 : Option Addr) (n0 n1 m0 m1 c0 c1 d0 d1 : Nat) (z0 z1 y0 y1 : List Int) (w : World) (h0 : n0 ≤ 1048576) (h1 : n1 ≤ 1048576) (h2 : m0 ≤ 1048576) (h3 : m1 ≤ 1048576) (r0 : Row .u16 w a0 n0 z0) (r1 : Row .u8 w a1 n1 z1) (r2 : Row .u16 w b0 m0 y0) (r3 : Row .u8 w b1 m1 y1)
    (n : Nat) (hn : n = min n0 n1) (DA DB : Dt) (hDA : DA = pm z0 z1 n) (hDB : DB = pm y0 y1 (min m0 m1)) :
    Calls Try.prog 17 #[.slice a0 n0 c0, .slice a1 n1 c1, .slice b0 m0 d0, .slice b1 m1 d1] w fun e w' => (∃ r, e = .returned (.bool r) ∧ (r = true ↔ EqD DA DB)) ∧ Below w.heap.size w w' := by
  have R0 := Lib.hid r0
  have R1 := Lib.hid r1
  have R2 := Lib.hid r2
  have R3 := Lib.hid r3
  clear r0 r1 r2 r3
  have hEQ := Lib.hid (eq_iff z0 z1 n (pm y0 y1 (min m0 m1)))
  rw [← hDA, ← hDB] at hEQ
  have hasAll := Lib.hid (show ∀ i, i < n → Maps.has DA (.int .u16 (z0.getD i 0)) = true from fun i hi => by rw [hDA]; exact (pm_has z0 z1 n _).2 ⟨i, hi, rfl⟩)
  have M1 := Lib.hid (show ∀ w, Row .u16 w a0 n0 z0 → Row .u8 w a1 n1 z1 → Calls Try.prog 29 #[.slice a0 n0 c0, .slice a1 n1 c1] w fun e w' => (∃ v, e = .returned v ∧ PMap w' v DA) ∧ Below w.heap.size w w' from fun w g0 g1 => by rw [hDA, hn]; exact map29 a0 a1 n0 n1 c0 c1 z0 z1 w h0 h1 g0 g1)
  have M2 := Lib.hid (show ∀ w, Row .u16 w b0 m0 y0 → Row .u8 w b1 m1 y1 → Calls Try.prog 29 #[.slice b0 m0 d0, .slice b1 m1 d1] w fun e w' => (∃ v, e = .returned v ∧ PMap w' v DB) ∧ Below w.heap.size w w' from fun w g0 g1 => by rw [hDB]; exact map29 b0 b1 m0 m1 d0 d1 y0 y1 w h2 h3 g0 g1)
  clear hDA hDB
  go_enter Try.func17, Try.ntmps17
  go_wp2_with fail
  refine (M1.out _ R0.out R1.out).mono ?_
  rintro e w1 ⟨⟨va, rfl, hp1⟩, hb1⟩
  have P1 := Lib.hid hp1
  have B1 := Lib.hid hb1
  clear hp1 hb1
  go_wp2_with fail
  refine (M2.out _ (R2.out.below (Nat.le_refl _) B1.out) (R3.out.below (Nat.le_refl _) B1.out)).mono ?_
  rintro e X ⟨⟨vb, rfl, hp2⟩, hb2⟩
  have P2 := Lib.hid hp2
  have PA := Lib.hid (P1.out.below hb2)
  have BX := Lib.hid (B1.out.trans (hb2.mono B1.out.size))
  clear hp2 hb2
  have R0 := Lib.hid (R0.out.below (Nat.le_refl _) BX.out)
  have lenA := PA.out.len 3
  have lenB := P2.out.len 3
  have s1 := PA.out.size_le
  have s2 := P2.out.size_le
  clear R1 R2 R3 P1 B1 M1 M2
  obtain ⟨va', rfl⟩ := PA.out.shape
  obtain ⟨vb', rfl⟩ := P2.out.shape
  by_cases hss : Maps.size DA = Maps.size DB
  · have t1 : ((Maps.size DA : Int) != (Maps.size DB : Int)) = false := by simp [hss]
    have t2 : (Maps.size DA : Int) = (Maps.size DB : Int) := by omega
    have EQ := Lib.hid (hEQ.out hss)
    clear hEQ
    go_wp2_with fail
    refine (min30 n0 n1 _ (by omega) (by omega)).mono ?_
    rintro e wx ⟨rfl, hw⟩
    obtain rfl := hw.symm
    clear hw
    rw [← hn]
    have hn0 : n ≤ n0 := by omega
    have hnM : n ≤ 1048576 := by omega
    clear hn
    go_wp2_with fail
    go_loopw [12] (fun vi ws => Ls X n z0 DA DB vi ws) (fun vi _ => n - (intOf vi).toNat)
    case atStart => exact ⟨⟨0, by omega, rfl, fun j hj => by omega⟩, rfl⟩
    case round =>
      obtain ⟨i, hi, rfl, hg⟩ := hrel.ex
      have hw := hrel.same
      clear hrel
      obtain rfl := hw.symm
      clear hw
      have HG := Lib.hid hg
      clear hg
      by_cases hlt : i < n
      · obtain ⟨b, o, rfl, l, q⟩ := R0.out.cell (by omega)
        have x0 := q i (by omega)
        have wf := R0.out.wf i (by omega)
        clear q
        have nx := Lib.hid (fun (h : Maps.has DB (.int .u16 (z0.getD i 0)) = true ∧ ∀ z, DA.atKey (.int .u16 (z0.getD i 0)) z = DB.atKey (.int .u16 (z0.getD i 0)) z) => (show Ls X n z0 DA DB (.int .i64 ((i + 1 : Nat) : Int)) X from ⟨⟨i + 1, by omega, rfl, fun j hj => by
          by_cases e : j = i
          · rw [e]; exact h
          · exact HG.out j (by omega)⟩, rfl⟩))
        have no := Lib.hid (fun (h : ¬ (Maps.has DB (.int .u16 (z0.getD i 0)) = true ∧ ∀ z, DA.atKey (.int .u16 (z0.getD i 0)) z = DB.atKey (.int .u16 (z0.getD i 0)) z)) => (show ¬ EqD DA DB from fun e => h (EQ.out.1 e i hlt)))
        have hasA := Lib.hid (show Maps.has DA (.int .u16 (z0.getD i 0)) = true from hasAll.out i hlt)
        clear HG
        generalize z0.getD i 0 = x at *
        obtain ⟨c1, _, k1, t1⟩ := PA.out.look wf
        obtain ⟨c2, k2, _, t2⟩ := P2.out.look wf
        by_cases hh : Maps.has DB (.int .u16 x) = true
        · rw [hh] at k2
          by_cases hc : c1 = c2
          · subst hc
            have LN := Lib.hid (nx.out ⟨hh, fun z => by rw [Maps.atKey_indep hasA.out z (.lit (.int .u8 0)), t1, Maps.atKey_indep hh z (.lit (.int .u8 0)), t2]⟩)
            clear nx no t1 t2
            have t3 : (c1 != c1) = false := by simp
            go_wp2_with fail
            go_roundw
            case rel => exact LN.out
            case measure => simp [intOf]; omega
          · have t3 : (c1 != c2) = true := by simp [hc]
            have ne := Lib.hid (no.out (fun h => hc (by
              have h1 := h.2 (.lit (.int .u8 0))
              rw [t1, t2] at h1
              injection h1 with h1
              injection h1)))
            clear nx no t1 t2
            go_wp2_with fail
            go_ret
            exact ⟨⟨false, rfl, by simp only [Bool.false_eq_true, false_iff]; exact ne.out⟩, BX.out⟩
        · have hh2 : Maps.has DB (.int .u16 x) = false := by simpa using hh
          rw [hh2] at k2
          have ne := Lib.hid (no.out (fun h => hh h.1))
          clear nx no t1 t2
          go_wp2_with fail
          go_ret
          exact ⟨⟨false, rfl, by simp only [Bool.false_eq_true, false_iff]; exact ne.out⟩, BX.out⟩
      · have e : i = n := by omega
        subst e
        have yes := Lib.hid (EQ.out.2 HG.out)
        go_wp2_with fail
        go_ret
        exact ⟨⟨true, rfl, by simp only [true_iff]; exact yes.out⟩, BX.out⟩
  · have t1 : ((Maps.size DA : Int) != (Maps.size DB : Int)) = true := by simp; omega
    have t2 : ¬ (Maps.size DA : Int) = (Maps.size DB : Int) := by omega
    go_wp2_with fail
    go_ret
    exact ⟨⟨false, rfl, by simp only [Bool.false_eq_true, false_iff]; exact fun h => hss h.1⟩, BX.out⟩
theorem same17 (a0 a1 b0 b1 : Option Addr) (n0 n1 m0 m1 c0 c1 d0 d1 : Nat) (z0 z1 y0 y1 : List Int) (w : World) (h0 : n0 ≤ 1048576) (h1 : n1 ≤ 1048576) (h2 : m0 ≤ 1048576) (h3 : m1 ≤ 1048576) (r0 : Row .u16 w a0 n0 z0) (r1 : Row .u8 w a1 n1 z1) (r2 : Row .u16 w b0 m0 y0) (r3 : Row .u8 w b1 m1 y1) :
    Calls Try.prog 17 #[.slice a0 n0 c0, .slice a1 n1 c1, .slice b0 m0 d0, .slice b1 m1 d1] w fun e w' => (∃ r, e = .returned (.bool r) ∧ (r = true ↔ EqD (pm z0 z1 (min n0 n1)) (pm y0 y1 (min m0 m1)))) ∧ Below w.heap.size w w' :=
  same17a a0 a1 b0 b1 n0 n1 m0 m1 c0 c1 d0 d1 z0 z1 y0 y1 w h0 h1 h2 h3 r0 r1 r2 r3 _ rfl _ _ rfl rfl
end Go.Proofs.Ytlhcgnlbhncfkaa
