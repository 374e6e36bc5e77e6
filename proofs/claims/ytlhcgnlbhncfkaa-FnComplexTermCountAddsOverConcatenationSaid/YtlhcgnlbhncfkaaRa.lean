/-
  The contracts of the dead-selectors law's makers of subclass selectors. Conditions: the shapes of the lists.
-/
import Derived.Test.YtlhcgnlbhncfkaaRows
import Derived.WalkKit
import Derived.ProofKit
import Derived.OpenShut
import Derived.WalkLawsBesides
import Derived.Lib.Hide
import Derived.Handy
import Derived.BigQuiet
import Derived.Deep.QuietTactic
import Derived.Deep.LoopGhost
import Derived.LoopTactic
import Derived.SliceStrings
namespace Go.Proofs.Ytlhcgnlbhncfkaa
open Go.ChangeShapes Go.WideShapes Go.ChangeAt Go.RowKit

/-- a slice of integers that came in -/
def IsRow (k : IntKind) (w : World) (a : Option Addr) (len cap : Nat) (zs : List Int) : Prop :=
  (a = none ∧ len = 0 ∧ cap = 0 ∧ zs = []) ∨
  ∃ x, a = some x ∧ len ≤ cap ∧ cap ≤ maxLen ∧ zs.length = cap ∧ (∀ i, i < zs.length → w.cell? (x.add i) = some (.int k (zs.getD i 0))) ∧ ∀ n ∈ zs, (Lit.int k n).wf = true

structure Row (k : IntKind) (w : World) (a : Option Addr) (n : Nat) (z : List Int) : Prop where
  cell : 0 < n → ∃ b off, a = some ⟨b, off, none⟩ ∧ b < w.heap.size ∧ ∀ i, i < n → w.cell? ⟨b, off + i, none⟩ = some (.int k (z.getD i 0))
  wf : ∀ i, i < n → (Lit.int k (z.getD i 0)).wf = true

theorem cell_lt {w : World} {a : Addr} {v : Value} (h : w.cell? a = some v) : a.block < w.heap.size ∧ a.spot = none := by
  unfold World.cell? at h
  cases hb : w.heap[a.block]? with
  | none => rw [hb] at h; cases h
  | some o =>
    have := (Array.getElem?_eq_some_iff.1 hb).1
    refine ⟨this, ?_⟩
    rw [hb] at h
    cases o with
    | cells c e f =>
      simp only at h
      cases hs : a.spot with
      | none => rfl
      | some x => rw [hs] at h; simp at h
    | _ => simp at h

theorem IsRow.row {k : IntKind} {w : World} {a : Option Addr} {n c : Nat} {z : List Int} (h : IsRow k w a n c z) : Row k w a n z ∧ n ≤ maxLen := by
  rcases h with ⟨rfl, rfl, rfl, rfl⟩ | ⟨x, rfl, hl, hm, hz, hc, hw⟩
  · exact ⟨⟨fun h => by omega, fun i h => by omega⟩, by simp [maxLen]⟩
  · refine ⟨⟨fun h => ?_, fun i hi => ?_⟩, by omega⟩
    · have h0 := hc 0 (by omega)
      obtain ⟨h1, h2⟩ := cell_lt h0
      obtain ⟨b, off, sp⟩ := x
      have h1' : b < w.heap.size := h1
      have h2' : sp = none := h2
      subst h2'
      refine ⟨b, off, rfl, h1', fun i hi => ?_⟩
      have q := hc i (by omega)
      by_cases e : i = 0
      · subst e; simpa [Addr.add] using q
      · simpa [Addr.add, e] using q
    · have : i < z.length := by omega
      rw [List.getD_eq_getElem?_getD, List.getElem?_eq_getElem this]
      exact hw _ (List.getElem_mem _)

theorem Row.below {k : IntKind} {w w' : World} {a : Option Addr} {n : Nat} {z : List Int} (h : Row k w a n z) {B : Nat} (hB : w.heap.size ≤ B) (hb : Below B w w') : Row k w' a n z := by
  refine ⟨fun hn => ?_, h.wf⟩
  obtain ⟨b, off, e, hlt, hc⟩ := h.cell hn
  refine ⟨b, off, e, ?_, fun i hi => ?_⟩
  · have := hb.size
    omega
  · rw [hb.cell (p := ⟨b, off + i, none⟩) (by show b < B; omega)]; exact hc i hi


theorem wf_u8 {x : Int} (h : (Lit.int .u8 x).wf = true) : 0 ≤ x ∧ x ≤ 255 := by
  have hm : IntKind.u8.min = 0 := by decide
  have hM : IntKind.u8.max = 255 := by decide
  simp only [Lit.wf, Bool.and_eq_true, decide_eq_true_eq] at h
  omega

theorem at34 (a : Option Addr) (n c : Nat) (z : List Int) (i : Nat) (w : World) (hn : n ≤ 65536) (hi : i ≤ 65536) (h : Row .u8 w a n z) :
    Calls Try.prog 34 #[.slice a n c, .int .i64 i] w fun e w' => (∃ k : Nat, k ≤ 255 ∧ e = .returned (.int .i64 k)) ∧ w' = w := by
  by_cases g : i < n
  · obtain ⟨b, o, rfl, l, q⟩ := h.cell (by omega)
    have c1 := q i g
    obtain ⟨x0, x1⟩ := wf_u8 (h.wf i g)
    clear q h
    generalize z.getD i 0 = X at *
    go_enter Try.func34, Try.ntmps34
    go_wp2_with fail
    go_ret
    exact ⟨⟨X.toNat, by omega, by rw [Int.toNat_of_nonneg (by omega)]; rfl⟩, rfl⟩
  · clear h
    go_enter Try.func34, Try.ntmps34
    go_wp2_with fail
    go_ret
    exact ⟨⟨0, by omega, rfl⟩, rfl⟩
theorem dead35 (a1 a2 : Option Addr) (n1 n2 c1 c2 : Nat) (z1 z2 : List Int) (i : Nat) (w : World) (h1 : n1 ≤ 65536) (h2 : n2 ≤ 65536) (hi : i ≤ 65536) (r1 : Row .u8 w a1 n1 z1) (r2 : Row .u8 w a2 n2 z2) :
    Calls Try.prog 35 #[.slice a1 n1 c1, .slice a2 n2 c2, .int .i64 i] w fun e w' => (∃ b, e = .returned (.bool b)) ∧ w' = w := by
  have R1 := Lib.hid r1
  have R2 := Lib.hid r2
  clear r1 r2
  go_enter Try.func35, Try.ntmps35
  go_wp2_with fail
  refine (at34 a1 n1 c1 z1 i _ h1 hi R1.out).mono ?_
  rintro e w1 ⟨⟨k, hk, rfl⟩, hw⟩
  obtain rfl := hw.symm
  clear hw
  by_cases g : k % 3 = 1
  · have g2 : ((k : Int) % 3 != 1) = false := by simp; omega
    have g3 : (k : Int) % 3 = 1 := by omega
    go_wp2_with fail
    refine (at34 a2 n2 c2 z2 i _ h2 hi R2.out).mono ?_
    rintro e w1 ⟨⟨q, hq, rfl⟩, hw⟩
    obtain rfl := hw.symm
    clear hw
    go_wp2_with fail
    all_goals
      go_ret
      exact ⟨⟨_, rfl⟩, rfl⟩
  · have g2 : ((k : Int) % 3 != 1) = true := by simp; omega
    have g3 : ¬ (k : Int) % 3 = 1 := by omega
    go_wp2_with fail
    go_ret
    exact ⟨⟨_, rfl⟩, rfl⟩
theorem key36 (a1 a2 : Option Addr) (n1 n2 c1 c2 : Nat) (z1 z2 : List Int) (i : Nat) (w : World) (h1 : n1 ≤ 65536) (h2 : n2 ≤ 65536) (hi : i ≤ 65536) (r1 : Row .u8 w a1 n1 z1) (r2 : Row .u8 w a2 n2 z2) :
    Calls Try.prog 36 #[.slice a1 n1 c1, .slice a2 n2 c2, .int .i64 i] w fun e w' => (∃ k : Int, e = .returned (.int .i64 k)) ∧ w' = w := by
  have R1 := Lib.hid r1
  have R2 := Lib.hid r2
  clear r1 r2
  go_enter Try.func36, Try.ntmps36
  go_wp2_with fail
  refine (at34 a1 n1 c1 z1 i _ h1 hi R1.out).mono ?_
  rintro e w1 ⟨⟨k, hk, rfl⟩, hw⟩
  obtain rfl := hw.symm
  clear hw
  by_cases g : k % 3 = 0
  · have g2 : ((k : Int) % 3 == 0) = true := by simp; omega
    have g3 : (k : Int) % 3 = 0 := by omega
    go_wp2_with fail
    go_ret
    exact ⟨⟨_, rfl⟩, rfl⟩
  · have g2 : ((k : Int) % 3 == 0) = false := by simp; omega
    have g3 : ¬ (k : Int) % 3 = 0 := by omega
    go_wp2_with fail
    refine (at34 a2 n2 c2 z2 i _ h2 hi R2.out).mono ?_
    rintro e w1 ⟨⟨q, hq, rfl⟩, hw⟩
    obtain rfl := hw.symm
    clear hw
    go_wp2_with fail
    go_ret
    exact ⟨⟨_, rfl⟩, rfl⟩

theorem heap_new2 (w : World) (o1 o2 : Obj) : ((w.alloc o1).alloc o2).heap[w.heap.size + 1]? = some o2 := by
  have := Go.heap_alloc_new (w.alloc o1) o2
  simpa using this
theorem plain38 (w : World) :
    Calls Try.prog 38 #[] w fun e w' => (∃ b, e = .returned (.agg #[.iface 135 (.pointer (some ⟨b, 0, none⟩)), .int .i32 0, .int .i32 0]) ∧ (∃ cs, w'.heap[b]? = some (.cells cs 138 (0, 0))) ∧ w.heap.size ≤ b) ∧ Below w.heap.size w w' := by
  go_enter Try.func38, Try.ntmps38
  go_wp2_with fail
  refine bodyPost_ret (v := .agg #[.iface 135 (.pointer (some ⟨w.heap.size + 1, 0, none⟩)), .int .i32 0, .int .i32 0]) (by simp [results, Try.results38, go_sem]) rfl ⟨⟨_, rfl, ⟨_, heap_new2 _ _ _⟩, by omega⟩, ?_⟩
  exact ((Below.refl _ _).alloc (Nat.le_refl _) _).alloc (by simp [go_sem]) _
/-- a subclass selector's value: its dynamic type, its box, and whether it is dead -/
def SubVal (w : World) (T : TypeId) (b : Nat) (f : Bool) : Prop :=
  (T = 135 ∧ f = false ∧ ∃ cs, w.heap[b]? = some (.cells cs 138 (0, 0)))
  ∨ (T = 139 ∧ ∃ s l c s1 s2 k, w.heap[b]? = some (.cells #[.slice s l c, .string s1, .string s2, .int .u8 k] 144 (0, 0)) ∧ f = (decide (l = 0) && (k == 2 || k == 9)))
theorem SubVal.lt {w : World} {T : TypeId} {b : Nat} {f : Bool} (h : SubVal w T b f) : b < w.heap.size := by
  rcases h with ⟨_, _, cs, h⟩ | ⟨_, s, l, c, s1, s2, k, h, _⟩ <;> exact (Array.getElem?_eq_some_iff.1 h).1
theorem SubVal.keep {w w' : World} {T : TypeId} {b : Nat} {f : Bool} (h : SubVal w T b f) (hc : w'.heap[b]? = w.heap[b]?) : SubVal w' T b f := by
  rcases h with ⟨e, hf, cs, h⟩ | ⟨e, s, l, c, s1, s2, k, h, hf⟩
  · exact .inl ⟨e, hf, cs, by rw [hc]; exact h⟩
  · exact .inr ⟨e, s, l, c, s1, s2, k, by rw [hc]; exact h, hf⟩
theorem SubVal.call {w w' : World} {T : TypeId} {b : Nat} {f : Bool} (h : SubVal w T b f) (hb : Below w.heap.size w w') : SubVal w' T b f := h.keep (hb.block b h.lt)
theorem SubVal.ne {w : World} {T : TypeId} {b g : Nat} {f : Bool} {cur : Array Value} {e : TypeId} {x : Nat × Nat} (h : SubVal w T b f) (hg : w.heap[g]? = some (.cells cur e x)) (h1 : e ≠ 138) (h2 : e ≠ 144) : b ≠ g := by
  intro e0
  subst e0
  rcases h with ⟨_, _, cs, h⟩ | ⟨_, s, l, c, s1, s2, k, h, _⟩
  · rw [hg] at h; injection h with h; injection h with _ h; exact h1 h
  · rw [hg] at h; injection h with h; injection h with _ h; exact h2 h
theorem heap_set_other (w : World) (a : Addr) (v : Value) (b : Nat) (h : b ≠ a.block) : (w.setCell a v).heap[b]? = w.heap[b]? := by
  unfold World.setCell
  simp only [Array.getElem?_modify]
  rw [if_neg (fun e => h e.symm)]
theorem pl39 (k : Int) (s : Option Addr) (l c : Nat) (w : World) :
    Calls Try.prog 39 #[.int .u8 k, .slice s l c] w fun e w' => (∃ b f, e = .returned (.agg #[.iface 139 (.pointer (some ⟨b, 0, none⟩)), .int .i32 0, .int .i32 0]) ∧ SubVal w' 139 b f ∧ w.heap.size ≤ b) ∧ Below w.heap.size w w' := by
  go_enter Try.func39, Try.ntmps39
  go_wp2_with fail
  refine bodyPost_ret (v := .agg #[.iface 139 (.pointer (some ⟨w.heap.size + 1, 0, none⟩)), .int .i32 0, .int .i32 0]) (by simp [results, Try.results39, go_sem]) rfl ⟨⟨_, _, rfl, .inr ⟨rfl, s, l, c, _, _, k, heap_new2 _ _ _, rfl⟩, by omega⟩, ?_⟩
  exact ((Below.refl _ _).alloc (Nat.le_refl _) _).alloc (by simp [go_sem]) _
set_option maxRecDepth 20000 in
set_option maxHeartbeats 2000000 in
theorem sub37 (a1 a2 : Option Addr) (n1 n2 c1 c2 : Nat) (z1 z2 : List Int) (i : Nat) (w : World) (h1 : n1 ≤ 65536) (h2 : n2 ≤ 65536) (hi : i ≤ 65536) (r1 : Row .u8 w a1 n1 z1) (r2 : Row .u8 w a2 n2 z2) :
    Calls Try.prog 37 #[.slice a1 n1 c1, .slice a2 n2 c2, .int .i64 i] w fun e w' => (∃ T b f, e = .returned (.agg #[.iface T (.pointer (some ⟨b, 0, none⟩)), .int .i32 0, .int .i32 0]) ∧ SubVal w' T b f) ∧ Below w.heap.size w w' := by
  obtain ⟨W, hW⟩ : ∃ W, W = w.alloc (.cells #[.nilIface, .int .i32 0, .int .i32 0] 72) := ⟨_, rfl⟩
  have hb : Below w.heap.size w W := by rw [hW]; exact (Below.refl _ _).alloc (Nat.le_refl _) _
  have hs : W.heap.size = w.heap.size + 1 := by rw [hW]; simp
  have hc : ∀ o, o < 3 → ∃ v, W.cell? ⟨w.heap.size, o, none⟩ = some v := by
    intro o ho
    have : o = 0 ∨ o = 1 ∨ o = 2 := by omega
    rcases this with rfl | rfl | rfl <;> exact ⟨_, by rw [hW]; simp [go_sem]; rfl⟩
  have hz : ∀ o, W.frozen? ⟨w.heap.size, o, none⟩ = false := by intro o; rw [hW]; simp [go_sem]
  have R1 := Lib.hid (r1.below (Nat.le_refl _) hb)
  have R2 := Lib.hid (r2.below (Nat.le_refl _) hb)
  have HB := Lib.hid hb
  have HC := Lib.hid hc
  have HZ := Lib.hid hz
  have HS := Lib.hid hs
  clear r1 r2 hb hc hz hs
  -- what is stored in the result's three cells
  have fin : ∀ (w1 : World) (T : TypeId) (b : Nat) (f : Bool), Below W.heap.size W w1 → SubVal w1 T b f → b ≠ w.heap.size →
      (∃ v0, w1.cell? ⟨w.heap.size, 0, none⟩ = some v0) ∧ (∃ v1, w1.cell? ⟨w.heap.size, 1, none⟩ = some v1) ∧ (∃ v2, w1.cell? ⟨w.heap.size, 2, none⟩ = some v2) ∧ (∀ o, w1.frozen? ⟨w.heap.size, o, none⟩ = false)
      ∧ ((((w1.setCell ⟨w.heap.size, 0, none⟩ (.iface T (.pointer (some ⟨b, 0, none⟩)))).setCell ⟨w.heap.size, 1, none⟩ (.int .i32 0)).setCell ⟨w.heap.size, 2, none⟩ (.int .i32 0)).cell? ⟨w.heap.size, 0, none⟩ = some (.iface T (.pointer (some ⟨b, 0, none⟩))) ∧ (((w1.setCell ⟨w.heap.size, 0, none⟩ (.iface T (.pointer (some ⟨b, 0, none⟩)))).setCell ⟨w.heap.size, 1, none⟩ (.int .i32 0)).setCell ⟨w.heap.size, 2, none⟩ (.int .i32 0)).cell? ⟨w.heap.size, 1, none⟩ = some (.int .i32 0) ∧ (((w1.setCell ⟨w.heap.size, 0, none⟩ (.iface T (.pointer (some ⟨b, 0, none⟩)))).setCell ⟨w.heap.size, 1, none⟩ (.int .i32 0)).setCell ⟨w.heap.size, 2, none⟩ (.int .i32 0)).cell? ⟨w.heap.size, 2, none⟩ = some (.int .i32 0))
      ∧ SubVal (((w1.setCell ⟨w.heap.size, 0, none⟩ (.iface T (.pointer (some ⟨b, 0, none⟩)))).setCell ⟨w.heap.size, 1, none⟩ (.int .i32 0)).setCell ⟨w.heap.size, 2, none⟩ (.int .i32 0)) T b f
      ∧ Below w.heap.size w (((w1.setCell ⟨w.heap.size, 0, none⟩ (.iface T (.pointer (some ⟨b, 0, none⟩)))).setCell ⟨w.heap.size, 1, none⟩ (.int .i32 0)).setCell ⟨w.heap.size, 2, none⟩ (.int .i32 0)) := by
    intro w1 T b f hb1 hv hne
    have hs := HS.out
    have cell : ∀ o, w1.cell? ⟨w.heap.size, o, none⟩ = W.cell? ⟨w.heap.size, o, none⟩ := fun o => hb1.cell (p := ⟨w.heap.size, o, none⟩) (by show w.heap.size < _; omega)
    refine ⟨by rw [cell]; exact HC.out 0 (by omega), by rw [cell]; exact HC.out 1 (by omega), by rw [cell]; exact HC.out 2 (by omega), fun o => by rw [hb1.frozen (p := ⟨w.heap.size, o, none⟩) (by show w.heap.size < _; omega)]; exact HZ.out o, ?_, ?_, ?_⟩
    · obtain ⟨v0, g0⟩ := HC.out 0 (by omega)
      obtain ⟨v1, g1⟩ := HC.out 1 (by omega)
      obtain ⟨v2, g2⟩ := HC.out 2 (by omega)
      rw [← cell] at g0 g1 g2
      refine ⟨?_, ?_, ?_⟩
      · rw [World.cell?_setCell_other _ _ _ _ (by simp), World.cell?_setCell_other _ _ _ _ (by simp)]
        exact World.cell?_setCell_same _ _ _ g0
      · rw [World.cell?_setCell_other _ _ _ _ (by simp)]
        exact World.cell?_setCell_same _ _ _ (by rw [World.cell?_setCell_other _ _ _ _ (by simp)]; exact g1)
      · exact World.cell?_setCell_same _ _ _ (by rw [World.cell?_setCell_other _ _ _ _ (by simp), World.cell?_setCell_other _ _ _ _ (by simp)]; exact g2)
    · refine hv.keep ?_
      rw [heap_set_other _ _ _ _ hne, heap_set_other _ _ _ _ hne, heap_set_other _ _ _ _ hne]
    · exact (((HB.out.trans (hb1.mono (by omega))).setCell (Nat.le_refl _) _).setCell (Nat.le_refl _) _).setCell (Nat.le_refl _) _
  have FIN := Lib.hid fin
  clear fin
  go_enter Try.func37, Try.ntmps37
  go_wp2_with fail
  rw [← hW]
  clear hW
  refine (at34 a1 n1 c1 z1 i _ h1 hi R1.out).mono ?_
  rintro e w1 ⟨⟨k, hk, rfl⟩, hw⟩
  obtain rfl := hw.symm
  clear hw
  go_wp2_with fail
  refine (at34 a2 n2 c2 z2 i _ h2 hi R2.out).mono ?_
  rintro e w1 ⟨⟨q, hq, rfl⟩, hw⟩
  obtain rfl := hw.symm
  clear hw
  have hbW : Below W.heap.size W W := Below.refl _ _
  by_cases g0 : k % 3 = 0
  · have g2 : ((k : Int) % 3 == 0) = true := by simp; omega
    have g3 : (k : Int) % 3 = 0 := by omega
    go_wp2_with fail
    refine (plain38 _).mono ?_
    rintro e w2 ⟨⟨b, rfl, hv, hge⟩, hb⟩
    have hsz := HS.out
    obtain ⟨⟨v0, x0⟩, ⟨v1, x1⟩, ⟨v2, x2⟩, hz, ⟨y0, y1, y2⟩, hv2, hB⟩ := FIN.out w2 135 b false hb (.inl ⟨rfl, rfl, hv⟩) (by omega)
    have HV := Lib.hid hv2
    have HBB := Lib.hid hB
    clear hv2 hB FIN HC HZ R1 R2
    go_wp2_with fail
    exact bodyPost_ret (v := .agg #[.iface 135 (.pointer (some ⟨b, 0, none⟩)), .int .i32 0, .int .i32 0]) (by simp [results, Try.results37, go_sem, y0, y1, y2]) rfl ⟨⟨_, _, _, rfl, HV.out⟩, HBB.out⟩
  have g0' : ((k : Int) % 3 == 0) = false := by simp; omega
  have g0'' : ¬ (k : Int) % 3 = 0 := by omega
  by_cases g1 : k % 3 = 1
  · have g2 : ((k : Int) % 3 == 1) = true := by simp; omega
    have g3 : (k : Int) % 3 = 1 := by omega
    go_wp2_with fail
    refine (pl39 _ _ _ _ _).mono ?_
    rintro e w2 ⟨⟨b, f, rfl, hv, hge⟩, hb⟩
    have hsz := HS.out
    obtain ⟨⟨v0, x0⟩, ⟨v1, x1⟩, ⟨v2, x2⟩, hz, ⟨y0, y1, y2⟩, hv2, hB⟩ := FIN.out w2 139 b f hb hv (by omega)
    have HV := Lib.hid hv2
    have HBB := Lib.hid hB
    clear hv2 hB FIN HC HZ R1 R2 hv
    go_wp2_with fail
    exact bodyPost_ret (v := .agg #[.iface 139 (.pointer (some ⟨b, 0, none⟩)), .int .i32 0, .int .i32 0]) (by simp [results, Try.results37, go_sem, y0, y1, y2]) rfl ⟨⟨_, _, _, rfl, HV.out⟩, HBB.out⟩
  have g1' : ((k : Int) % 3 == 1) = false := by simp; omega
  have g1'' : ¬ (k : Int) % 3 = 1 := by omega
  go_wp2_with fail
  refine (plain38 _).mono ?_
  rintro e w2 ⟨⟨b0, rfl, _⟩, hb⟩
  have HB2 := Lib.hid hb
  clear hb
  go_wp2_with fail
  refine (pl39 _ _ _ _ _).mono ?_
  rintro e w3 ⟨⟨b, f, rfl, hv, hge⟩, hb⟩
  have hsz := HS.out
  have hsz2 := HB2.out.size
  have hb3 : Below W.heap.size W w3 := (((HB2.out.alloc (by omega) _).alloc (by simp; omega) _).alloc (by simp; omega) _).trans (hb.mono (by simp; omega))
  simp at hge
  obtain ⟨⟨v0, x0⟩, ⟨v1, x1⟩, ⟨v2, x2⟩, hz, ⟨y0, y1, y2⟩, hv2, hB⟩ := FIN.out w3 139 b f hb3 hv (by omega)
  have HV := Lib.hid hv2
  have HBB := Lib.hid hB
  clear hv2 hB FIN HC HZ R1 R2 hv hb3 hb
  go_wp2_with fail
  exact bodyPost_ret (v := .agg #[.iface 139 (.pointer (some ⟨b, 0, none⟩)), .int .i32 0, .int .i32 0]) (by simp [results, Try.results37, go_sem, y0, y1, y2]) rfl ⟨⟨_, _, _, rfl, HV.out⟩, HBB.out⟩
end Go.Proofs.Ytlhcgnlbhncfkaa
