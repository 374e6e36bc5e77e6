/-
  The unfolding counted. Conditions: each theorem's own.
-/
import Derived.Test.YtjebnjjhdefejaaGreatFmtMa
namespace Go.Proofs.YtjebnjjhdefejaaGreatFmt
open Go.RowKit Go.Lib Go.ChangeMaps
structure UnR (w : World) (e : Ending) (w' : World) : Prop where
  ex : (∃ z, e = .returned (.int .i64 z)) ∧ Below w.heap.size w w'
structure Un1 (w : World) (n : Nat) (g : Nat) (v5 v6 : Value) (wx : World) : Prop where
  ex : ∃ (k : Nat) (z : Int) (darr : Array Value), k + g = n ∧ v6 = .int .i64 (k : Nat) ∧ v5 = .int .i64 z ∧ wx.heap[w.heap.size]? = some (.cells darr 3 (0, 0)) ∧ darr.size = n ∧ (∀ i, i < n → ∃ y, darr[i]? = some (.int .i64 y)) ∧ Below w.heap.size w wx
theorem Un1.next {w wx : World} {n k g : Nat} {darr : Array Value} (hk : k + (g + 1) = n) (h1 : wx.heap[w.heap.size]? = some (.cells darr 3 (0, 0))) (h2 : darr.size = n) (h3 : ∀ i, i < n → ∃ y, darr[i]? = some (.int .i64 y)) (hb : Below w.heap.size w wx) (z y : Int) : Un1 w n g (.int .i64 z) (.int .i64 ((k + 1 : Nat) : Int)) (wx.setCell ⟨w.heap.size, k, none⟩ (.int .i64 y)) := by
  refine ⟨k + 1, z, _, by omega, rfl, rfl, hset h1 k _, by simpa using h2, fun i hi => ?_, hb.setCell (p := ⟨w.heap.size, k, none⟩) (Nat.le_refl _) _⟩
  by_cases e : i = k
  · subst e
    exact ⟨y, by rw [Array.getElem?_setIfInBounds, if_pos rfl, if_pos (by omega)]⟩
  · rw [Array.getElem?_setIfInBounds, if_neg (by omega)]
    exact h3 i hi
set_option maxHeartbeats 16000000 in
set_option maxRecDepth 100000 in
theorem un8 (n : Nat) (par : Nat → Option Nat) (kd : Nat → Nat) (kb kc cb cc : Nat) (ra : Option Addr) (rl rc pb pc tb : Nat) (w : World) (hn : n ≤ 4096) (hT : TreeAt w n par kd kb cb ra rc pb) (hlt : ∀ k p, par k = some p → p < k) (ht : w.heap[tb]? = some (.cells (treeC n kb kc cb cc ra rl rc pb pc) 30 (0, 0))) :
    Calls Tryz.prog 8 #[.pointer (some ⟨tb, 0, none⟩)] w fun e w' => UnR w e w' := by
  obtain ⟨t0, _⟩ := hcell ht 0 _ rfl
  have htl := heap_lt ht
  obtain ⟨W1, hW1⟩ : ∃ X, X = w.alloc (mkO (.int .i64 0) (n * 1) 3) := ⟨_, rfl⟩
  have hb1 : Below w.heap.size w W1 := by rw [hW1]; exact (Below.refl _ _).alloc (Nat.le_refl _) _
  obtain ⟨darr, d1, d2, d3⟩ := made_cells (.int .i64 0) rfl n 3 w
  rw [← hW1] at d1
  have mk1 := mkSn 27 3 _ 1 8 Tryz.underlying27 info_I64 (by decide) n (by omega) w
  rw [← hW1] at mk1
  have H0 := hid (show Un1 w n n (.int .i64 0) (.int .i64 0) W1 from ⟨0, 0, darr, by omega, rfl, rfl, d1, d2, (fun i hi => ⟨0, d3 i hi⟩), hb1⟩)
  have HT := hid (And.intro hT (And.intro hlt ht))
  clear hT hlt ht hW1 hb1 d1 d2 d3
  go_enter Tryz.func8, Tryz.ntmps8
  go_upto_region 5 with fail
  clear mk1 t0
  go_loopg [5, 6] n (fun g v5 v6 wx => Un1 w n g v5 v6 wx)
  case atStart => exact H0.out
  case round =>
    obtain ⟨k, z, darr, hkg, rfl, rfl, q1, q2, q3, hb⟩ := hrel.ex
    clear hrel H0
    cases gk with
    | zero =>
      obtain rfl : k = n := by omega
      have hcd : ¬ (k : Int) < (k : Int) := by omega
      have HB := hid hb
      clear q1 q2 q3 hb hkg
      go_wp2_with fail
      exact bodyPost_ret (v := .int .i64 z) (by simp [results, Tryz.results8, go_sem]) rfl ⟨⟨z, rfl⟩, HB.out⟩
    | succ g =>
      have hc : (k : Int) < (n : Int) := by omega
      have hcn : k < n := by omega
      have e1 : IntKind.i64.wrap ((k : Int) + 1) = ((k + 1 : Nat) : Int) := by rw [IntKind.wrap_i64]; omega
      obtain ⟨hT, hlt, ht⟩ := HT.out
      have htr := (hb.block _ htl).trans ht
      obtain ⟨t3, _⟩ := hcell htr 3 _ rfl
      have htrl := heap_lt htr
      have hTr := hT.below (Nat.le_refl _) hb
      have p0 := hTr.par k hcn
      have hpl := hTr.lt.2.2
      obtain ⟨y, hy⟩ := q3 k hcn
      obtain ⟨s0, s0f⟩ := hcell q1 k _ hy
      have hsl := heap_lt q1
      have HQ := hid (And.intro q1 (And.intro q2 (And.intro q3 hb)))
      cases hp : par k with
      | none =>
        rw [hp, show parV none = (-1 : Int) from rfl] at p0
        have HS := hid (fun z' => Un1.next hkg q1 q2 q3 hb z' y)
        have hsame : ∀ z', Un1 w n g (.int .i64 z') (.int .i64 ((k + 1 : Nat) : Int)) wr := fun z' => ⟨k + 1, z', darr, by omega, rfl, rfl, q1, q2, q3, hb⟩
        have HSA := hid hsame
        clear hT hlt ht htr hTr hy q1 q2 q3 hb hp hsame
        go_wp2_with fail
        go_roundg g
        case measure => omega
        case rel => exact HSA.out _
      | some p =>
        have hpk := hlt k p hp
        rw [hp, show parV (some p) = (p : Int) from rfl] at p0
        have hg0 : (0 : Int) ≤ (p : Int) := by omega
        have hpn : (p : Int) < (n : Int) := by omega
        obtain ⟨y2, hy2⟩ := q3 p (by omega)
        obtain ⟨s2, _⟩ := hcell q1 p _ hy2
        have HS := hid (fun z' y' => Un1.next hkg q1 q2 q3 hb z' y')
        clear hT hlt ht htr hTr hy q1 q2 q3 hb hp hy2
        go_upto_region 9 with fail
        go_wp2_with fail
        go_roundg g
        case measure => omega
        case rel => exact HS.out _ _
end Go.Proofs.YtjebnjjhdefejaaGreatFmt
