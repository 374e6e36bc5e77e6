/-
  Rows that came in, the copies of the three lists, the two counts of bytes. Conditions: the shapes of the lists.
-/
import Derived.Test.YtlpjejnfniiilaaDoorRows
import Derived.WalkKit
import Derived.ProofKit
import Derived.OpenShut
import Derived.LoopTactic
import Derived.RegionTactic
import Derived.Lib.Hide
import Derived.Below
import Derived.WalkSmall
import Derived.OwnWalk
import Derived.Laws.MakeOwn
import Derived.WalkSpells
import Derived.Deep.RegionHeld3
import Derived.Deep.QuietTactic
import Derived.BigQuiet
namespace Go.Proofs.YtlpjejnfniiilaaDoor
open Go.ChangeShapes Go.WideShapes Go.ChangeAt Go.RowKit

/-- a slice of integers that came in: nil, or a row of 'cap' cells, the numbers 'zs' (the first 'len' its elements) -/
def IsRow (k : IntKind) (w : World) (a : Option Addr) (len cap : Nat) (zs : List Int) : Prop :=
  (a = none ∧ len = 0 ∧ cap = 0 ∧ zs = []) ∨
  ∃ x, a = some x ∧ len ≤ cap ∧ cap ≤ maxLen ∧ zs.length = cap ∧ (∀ i, i < zs.length → w.cell? (x.add i) = some (.int k (zs.getD i 0))) ∧ ∀ n ∈ zs, (Lit.int k n).wf = true

/-- a slice of strings that came in -/
def IsStrs (w : World) (a : Option Addr) (len cap : Nat) (zs : List ByteArray) : Prop :=
  (a = none ∧ len = 0 ∧ cap = 0 ∧ zs = []) ∨
  ∃ x, a = some x ∧ len ≤ cap ∧ cap ≤ maxLen ∧ zs.length = cap ∧ (∀ i, i < zs.length → w.cell? (x.add i) = some (.string (zs.getD i ByteArray.empty))) ∧ ∀ s ∈ zs, s.size ≤ maxLen

/-- the row as the walks read it -/
structure Row (k : IntKind) (w : World) (a : Option Addr) (n : Nat) (z : List Int) : Prop where
  cell : 0 < n → ∃ b off, a = some ⟨b, off, none⟩ ∧ b < w.heap.size ∧ ∀ i, i < n → w.cell? ⟨b, off + i, none⟩ = some (.int k (z.getD i 0))
  wf : ∀ i, i < n → (Lit.int k (z.getD i 0)).wf = true
structure RowT (w : World) (a : Option Addr) (n : Nat) (z : List ByteArray) : Prop where
  cell : 0 < n → ∃ b off, a = some ⟨b, off, none⟩ ∧ b < w.heap.size ∧ ∀ i, i < n → w.cell? ⟨b, off + i, none⟩ = some (.string (z.getD i ByteArray.empty))
  wf : ∀ i, i < n → (z.getD i ByteArray.empty).size ≤ maxLen

theorem cell_lt {w : World} {a : Addr} {v : Value} (h : w.cell? a = some v) : a.block < w.heap.size ∧ a.spot = none := by
  unfold World.cell? at h
  cases hb : w.heap[a.block]? with
  | none => rw [hb] at h; cases h
  | some o =>
    have := (Array.getElem?_eq_some_iff.1 hb).1
    refine ⟨this, ?_⟩
    rw [hb] at h
    cases o with
    | cells c e f =>
      simp only at h
      cases hs : a.spot with
      | none => rfl
      | some x => rw [hs] at h; simp at h
    | _ => simp at h

theorem IsRow.row {k : IntKind} {w : World} {a : Option Addr} {n c : Nat} {z : List Int} (h : IsRow k w a n c z) : Row k w a n z ∧ n ≤ maxLen := by
  rcases h with ⟨rfl, rfl, rfl, rfl⟩ | ⟨x, rfl, hl, hm, hz, hc, hw⟩
  · exact ⟨⟨fun h => by omega, fun i h => by omega⟩, by simp [maxLen]⟩
  · refine ⟨⟨fun h => ?_, fun i hi => ?_⟩, by omega⟩
    · have h0 := hc 0 (by omega)
      obtain ⟨h1, h2⟩ := cell_lt h0
      obtain ⟨b, off, sp⟩ := x
      have h1' : b < w.heap.size := h1
      have h2' : sp = none := h2
      subst h2'
      refine ⟨b, off, rfl, h1', fun i hi => ?_⟩
      have q := hc i (by omega)
      by_cases e : i = 0
      · subst e; simpa [Addr.add] using q
      · simpa [Addr.add, e] using q
    · have : i < z.length := by omega
      rw [List.getD_eq_getElem?_getD, List.getElem?_eq_getElem this]
      exact hw _ (List.getElem_mem _)
theorem IsStrs.row {w : World} {a : Option Addr} {n c : Nat} {z : List ByteArray} (h : IsStrs w a n c z) : RowT w a n z ∧ n ≤ maxLen := by
  rcases h with ⟨rfl, rfl, rfl, rfl⟩ | ⟨x, rfl, hl, hm, hz, hc, hw⟩
  · exact ⟨⟨fun h => by omega, fun i h => by omega⟩, by simp [maxLen]⟩
  · refine ⟨⟨fun h => ?_, fun i hi => ?_⟩, by omega⟩
    · have h0 := hc 0 (by omega)
      obtain ⟨h1, h2⟩ := cell_lt h0
      obtain ⟨b, off, sp⟩ := x
      have h1' : b < w.heap.size := h1
      have h2' : sp = none := h2
      subst h2'
      refine ⟨b, off, rfl, h1', fun i hi => ?_⟩
      have q := hc i (by omega)
      by_cases e : i = 0
      · subst e; simpa [Addr.add] using q
      · simpa [Addr.add, e] using q
    · have : i < z.length := by omega
      rw [List.getD_eq_getElem?_getD, List.getElem?_eq_getElem this]
      exact hw _ (List.getElem_mem _)

theorem Row.below {k : IntKind} {w w' : World} {a : Option Addr} {n : Nat} {z : List Int} (h : Row k w a n z) {B : Nat} (hB : w.heap.size ≤ B) (hb : Below B w w') : Row k w' a n z := by
  refine ⟨fun hn => ?_, h.wf⟩
  obtain ⟨b, off, e, hlt, hc⟩ := h.cell hn
  refine ⟨b, off, e, ?_, fun i hi => ?_⟩
  · have := hb.size
    omega
  · rw [hb.cell (p := ⟨b, off + i, none⟩) (by show b < B; omega)]; exact hc i hi

theorem RowT.below {w w' : World} {a : Option Addr} {n : Nat} {z : List ByteArray} (h : RowT w a n z) {B : Nat} (hB : w.heap.size ≤ B) (hb : Below B w w') : RowT w' a n z := by
  refine ⟨fun hn => ?_, h.wf⟩
  obtain ⟨b, off, e, hlt, hc⟩ := h.cell hn
  refine ⟨b, off, e, ?_, fun i hi => ?_⟩
  · have := hb.size
    omega
  · rw [hb.cell (p := ⟨b, off + i, none⟩) (by show b < B; omega)]; exact hc i hi

theorem same_of {w : World} {a : Addr} {v : Value} (h : ∃ u, w.cell? a = some u) : (w.setCell a v).cell? a = some v := by
  obtain ⟨u, h⟩ := h
  exact World.cell?_setCell_same _ _ _ h

/-- a row of n cells in block B under way: the first k are laid -/
structure RwV (B n k : Nat) (g : Nat → Value) (w : World) : Prop where
  size : B < w.heap.size
  c : ∀ o, o < n → ∃ v, w.cell? ⟨B, o, none⟩ = some v
  t : ∀ i, i < k → w.cell? ⟨B, i, none⟩ = some (g i)
  z : ∀ o, w.frozen? ⟨B, o, none⟩ = false

theorem RwV.call {B n k : Nat} {g : Nat → Value} {w w' : World} (h : RwV B n k g w) (hb : Below w.heap.size w w') : RwV B n k g w' := by
  have hs := h.size
  have hz := hb.size
  refine ⟨by omega, fun o ho => ?_, fun i hi => ?_, fun o => ?_⟩
  · rw [hb.cell (p := ⟨B, o, none⟩) hs]; exact h.c o ho
  · rw [hb.cell (p := ⟨B, i, none⟩) hs]; exact h.t i hi
  · rw [hb.frozen (p := ⟨B, o, none⟩) hs]; exact h.z o

theorem RwV.next {B n k : Nat} {g : Nat → Value} {w : World} (h : RwV B n k g w) (hk : k < n) : RwV B n (k + 1) g (w.setCell ⟨B, k, none⟩ (g k)) := by
  refine ⟨by simpa [go_sem] using h.size, fun o ho => ?_, fun i hi => ?_, fun o => ?_⟩
  · by_cases e : o = k
    · subst e; exact ⟨_, same_of (h.c o ho)⟩
    · rw [World.cell?_setCell_other _ _ _ _ (by simp <;> omega)]; exact h.c o ho
  · by_cases e : i = k
    · subst e; exact same_of (h.c i hk)
    · rw [World.cell?_setCell_other _ _ _ _ (by simp <;> omega)]; exact h.t i (by omega)
  · rw [World.frozen?_setCell]; exact h.z o

theorem RwV.made {n : Nat} {g : Nat → Value} {w : World} (v : Value) (t : TypeId) : RwV w.heap.size n 0 g (w.alloc (.cells (madeCells #[v] (n * 1)) t)) := by
  refine ⟨by simp [go_sem], fun o ho => ?_, fun i hi => by omega, fun o => by simp [go_sem]⟩
  cases hc : (w.alloc (.cells (madeCells #[v] (n * 1)) t)).cell? ⟨w.heap.size, o, none⟩ with
  | some v => exact ⟨v, rfl⟩
  | none =>
    exfalso
    simp [go_sem, madeCells] at hc
    omega

theorem RwV.row {K : IntKind} {n B : Nat} {w : World} {z : List Int} (h : RwV B n n (fun i => .int K (z.getD i 0)) w) (hw : ∀ i, i < n → (Lit.int K (z.getD i 0)).wf = true) : Row K w (some ⟨B, 0, none⟩) n z :=
  ⟨fun _ => ⟨B, 0, rfl, h.size, fun i hi => by rw [Nat.zero_add]; exact h.t i hi⟩, hw⟩
theorem RwV.rowT {n B : Nat} {w : World} {z : List ByteArray} (h : RwV B n n (fun i => .string (z.getD i ByteArray.empty)) w) (hw : ∀ i, i < n → (z.getD i ByteArray.empty).size ≤ maxLen) : RowT w (some ⟨B, 0, none⟩) n z :=
  ⟨fun _ => ⟨B, 0, rfl, h.size, fun i hi => by rw [Nat.zero_add]; exact h.t i hi⟩, hw⟩


theorem info5 : (Tryd.prog.info? 5).map (fun i => (i.zero, i.size, i.bytes)) = some (some (.int .u8 0), 1, 1) := by kernel_rfl
def cellsOf5 (n : Nat) (w : World) : World := w.alloc (.cells (madeCells #[.int .u8 0] (n * 1)) 5)
theorem make22 (n : Nat) (hn : n ≤ 1048576) (w : World) : (Instr.makeSlice 22 (.int .i64 n) (.int .i64 n)).run Tryd.prog w = .ok (.slice (some ⟨w.heap.size, 0, none⟩) n n) (cellsOf5 n w) := by
  obtain ⟨i, hi, h0, h1, h2⟩ := info_parts info5
  have := run_make (P := Tryd.prog) w 22 5 i _ Tryd.underlying22 hi h0 .i64 .i64 n n (by omega) (by omega) (by rw [h2]; omega) (by omega)
  rw [h1] at this
  exact this
/-- a copy: the same row anew -/
structure Cop7 (w : World) (n : Nat) (z : List Int) (e : Ending) (w' : World) : Prop where
  ex : ∃ a', e = .returned (.slice a' n n) ∧ Row .u8 w' a' n z ∧ Below w.heap.size w w'
structure Lc7 (w : World) (n : Nat) (z : List Int) (i : Value) (wr : World) : Prop where
  ex : ∃ k, k ≤ n ∧ i = .int .i64 k ∧ RwV w.heap.size n k (fun i => .int .u8 (z.getD i 0)) wr ∧ Below w.heap.size w wr

attribute [local go_sem] make22 in
set_option maxRecDepth 20000 in
set_option maxHeartbeats 2000000 in
theorem copy7 (a : Option Addr) (n c : Nat) (z : List Int) (w : World) (hn : n ≤ 1048576) (h : Row .u8 w a n z) :
    Calls Tryd.prog 7 #[.slice a n c] w (Cop7 w n z) := by
  have H := Lib.hid h
  clear h
  cases a with
  | none =>
    have e : n = 0 := by
      by_cases g : n = 0
      · exact g
      · obtain ⟨b, o, q, _⟩ := H.out.cell (by omega)
        cases q
    subst e
    have HW := Lib.hid H.out
    clear H
    have hq := fun (w : World) => Lib.run_eql_slice_nil (P := Tryd.prog) w 22 5 none 0 c 0 0 Tryd.underlying22
    go_enter Tryd.func7, Tryd.ntmps7
    go_wp2
    go_ret
    exact ⟨none, rfl, HW.out, Below.refl _ _⟩
  | some x =>
    have HA := Lib.hid (RwV.made (n := n) (g := fun i => .int .u8 (z.getD i 0)) (w := w) (.int .u8 0) 5)
    have HB := Lib.hid ((Below.refl w.heap.size w).alloc (Nat.le_refl _) (.cells (madeCells #[.int .u8 0] (n * 1)) 5))
    have hq := fun (w : World) => Lib.run_eql_slice_nil (P := Tryd.prog) w 22 5 (some x) n c 0 0 Tryd.underlying22
    go_enter Tryd.func7, Tryd.ntmps7
    go_wp2_with fail
    clear hq
    go_loopw [4] (fun i wr => Lc7 w n z i wr) (fun i _ => n - (intOf i).toNat)
    case atStart => exact ⟨0, by omega, rfl, HA.out, HB.out⟩
    case round =>
      obtain ⟨k, hk, rfl, hR, hB⟩ := hrel.ex
      clear hrel HA HB
      by_cases hlt : k < n
      · obtain ⟨b, o, e, l, q⟩ := H.out.cell (by omega)
        obtain rfl := Option.some.inj e
        clear e
        have c1 : wr.cell? ⟨b, o + k, none⟩ = some (.int .u8 (z.getD k 0)) := by rw [hB.cell (p := ⟨b, o + k, none⟩) l]; exact q k hlt
        obtain ⟨v0, y0⟩ := hR.c k hlt
        have z0 := hR.z k
        have hx : RwV w.heap.size n (k + 1) (fun i => .int .u8 (z.getD i 0)) (wr.setCell ⟨w.heap.size, k, none⟩ (.int .u8 (z.getD k 0))) := hR.next hlt
        have HX := Lib.hid hx
        have HBB := Lib.hid (hB.setCell (p := ⟨w.heap.size, k, none⟩) (Nat.le_refl _) (.int .u8 (z.getD k 0)))
        clear hR hB q H hx
        generalize z.getD k 0 = X at *
        go_wp2_with fail
        go_roundw
        case rel => exact ⟨k + 1, by omega, by go_num, HX.out, HBB.out⟩
        case measure => simp [intOf]; omega
      · have e : k = n := by omega
        subst e
        have HR := Lib.hid (hR.row H.out.wf)
        have HBB := Lib.hid hB
        clear hR hB H
        go_wp2_with fail
        go_ret
        exact ⟨_, rfl, HR.out, HBB.out⟩


theorem info9 : (Tryd.prog.info? 9).map (fun i => (i.zero, i.size, i.bytes)) = some (some (.string ⟨#[]⟩), 1, 16) := by kernel_rfl
def cellsOf9 (n : Nat) (w : World) : World := w.alloc (.cells (madeCells #[.string ⟨#[]⟩] (n * 1)) 9)
theorem make23 (n : Nat) (hn : n ≤ 1048576) (w : World) : (Instr.makeSlice 23 (.int .i64 n) (.int .i64 n)).run Tryd.prog w = .ok (.slice (some ⟨w.heap.size, 0, none⟩) n n) (cellsOf9 n w) := by
  obtain ⟨i, hi, h0, h1, h2⟩ := info_parts info9
  have := run_make (P := Tryd.prog) w 23 9 i _ Tryd.underlying23 hi h0 .i64 .i64 n n (by omega) (by omega) (by rw [h2]; omega) (by omega)
  rw [h1] at this
  exact this
/-- a copy: the same row anew -/
structure Cop8 (w : World) (n : Nat) (z : List ByteArray) (e : Ending) (w' : World) : Prop where
  ex : ∃ a', e = .returned (.slice a' n n) ∧ RowT w' a' n z ∧ Below w.heap.size w w'
structure Lc8 (w : World) (n : Nat) (z : List ByteArray) (i : Value) (wr : World) : Prop where
  ex : ∃ k, k ≤ n ∧ i = .int .i64 k ∧ RwV w.heap.size n k (fun i => .string (z.getD i ByteArray.empty)) wr ∧ Below w.heap.size w wr

attribute [local go_sem] make23 in
set_option maxRecDepth 20000 in
set_option maxHeartbeats 2000000 in
theorem copy8 (a : Option Addr) (n c : Nat) (z : List ByteArray) (w : World) (hn : n ≤ 1048576) (h : RowT w a n z) :
    Calls Tryd.prog 8 #[.slice a n c] w (Cop8 w n z) := by
  have H := Lib.hid h
  clear h
  cases a with
  | none =>
    have e : n = 0 := by
      by_cases g : n = 0
      · exact g
      · obtain ⟨b, o, q, _⟩ := H.out.cell (by omega)
        cases q
    subst e
    have HW := Lib.hid H.out
    clear H
    have hq := fun (w : World) => Lib.run_eql_slice_nil (P := Tryd.prog) w 23 9 none 0 c 0 0 Tryd.underlying23
    go_enter Tryd.func8, Tryd.ntmps8
    go_wp2
    go_ret
    exact ⟨none, rfl, HW.out, Below.refl _ _⟩
  | some x =>
    have HA := Lib.hid (RwV.made (n := n) (g := fun i => .string (z.getD i ByteArray.empty)) (w := w) (.string ⟨#[]⟩) 9)
    have HB := Lib.hid ((Below.refl w.heap.size w).alloc (Nat.le_refl _) (.cells (madeCells #[.string ⟨#[]⟩] (n * 1)) 9))
    have hq := fun (w : World) => Lib.run_eql_slice_nil (P := Tryd.prog) w 23 9 (some x) n c 0 0 Tryd.underlying23
    go_enter Tryd.func8, Tryd.ntmps8
    go_wp2_with fail
    clear hq
    go_loopw [4] (fun i wr => Lc8 w n z i wr) (fun i _ => n - (intOf i).toNat)
    case atStart => exact ⟨0, by omega, rfl, HA.out, HB.out⟩
    case round =>
      obtain ⟨k, hk, rfl, hR, hB⟩ := hrel.ex
      clear hrel HA HB
      by_cases hlt : k < n
      · obtain ⟨b, o, e, l, q⟩ := H.out.cell (by omega)
        obtain rfl := Option.some.inj e
        clear e
        have c1 : wr.cell? ⟨b, o + k, none⟩ = some (.string (z.getD k ByteArray.empty)) := by rw [hB.cell (p := ⟨b, o + k, none⟩) l]; exact q k hlt
        obtain ⟨v0, y0⟩ := hR.c k hlt
        have z0 := hR.z k
        have hx : RwV w.heap.size n (k + 1) (fun i => .string (z.getD i ByteArray.empty)) (wr.setCell ⟨w.heap.size, k, none⟩ (.string (z.getD k ByteArray.empty))) := hR.next hlt
        have HX := Lib.hid hx
        have HBB := Lib.hid (hB.setCell (p := ⟨w.heap.size, k, none⟩) (Nat.le_refl _) (.string (z.getD k ByteArray.empty)))
        clear hR hB q H hx
        generalize z.getD k ByteArray.empty = X at *
        go_wp2_with fail
        go_roundw
        case rel => exact ⟨k + 1, by omega, by go_num, HX.out, HBB.out⟩
        case measure => simp [intOf]; omega
      · have e : k = n := by omega
        subst e
        have HR := Lib.hid (hR.rowT H.out.wf)
        have HBB := Lib.hid hB
        clear hR hB H
        go_wp2_with fail
        go_ret
        exact ⟨_, rfl, HR.out, HBB.out⟩


theorem info27 : (Tryd.prog.info? 27).map (fun i => (i.zero, i.size, i.bytes)) = some (some (.int .u16 0), 1, 2) := by kernel_rfl
def cellsOf27 (n : Nat) (w : World) : World := w.alloc (.cells (madeCells #[.int .u16 0] (n * 1)) 27)
theorem make24 (n : Nat) (hn : n ≤ 1048576) (w : World) : (Instr.makeSlice 24 (.int .i64 n) (.int .i64 n)).run Tryd.prog w = .ok (.slice (some ⟨w.heap.size, 0, none⟩) n n) (cellsOf27 n w) := by
  obtain ⟨i, hi, h0, h1, h2⟩ := info_parts info27
  have := run_make (P := Tryd.prog) w 24 27 i _ Tryd.underlying24 hi h0 .i64 .i64 n n (by omega) (by omega) (by rw [h2]; omega) (by omega)
  rw [h1] at this
  exact this
/-- a copy: the same row anew -/
structure Cop9 (w : World) (n : Nat) (z : List Int) (e : Ending) (w' : World) : Prop where
  ex : ∃ a', e = .returned (.slice a' n n) ∧ Row .u16 w' a' n z ∧ Below w.heap.size w w'
structure Lc9 (w : World) (n : Nat) (z : List Int) (i : Value) (wr : World) : Prop where
  ex : ∃ k, k ≤ n ∧ i = .int .i64 k ∧ RwV w.heap.size n k (fun i => .int .u16 (z.getD i 0)) wr ∧ Below w.heap.size w wr

attribute [local go_sem] make24 in
set_option maxRecDepth 20000 in
set_option maxHeartbeats 2000000 in
theorem copy9 (a : Option Addr) (n c : Nat) (z : List Int) (w : World) (hn : n ≤ 1048576) (h : Row .u16 w a n z) :
    Calls Tryd.prog 9 #[.slice a n c] w (Cop9 w n z) := by
  have H := Lib.hid h
  clear h
  cases a with
  | none =>
    have e : n = 0 := by
      by_cases g : n = 0
      · exact g
      · obtain ⟨b, o, q, _⟩ := H.out.cell (by omega)
        cases q
    subst e
    have HW := Lib.hid H.out
    clear H
    have hq := fun (w : World) => Lib.run_eql_slice_nil (P := Tryd.prog) w 24 27 none 0 c 0 0 Tryd.underlying24
    go_enter Tryd.func9, Tryd.ntmps9
    go_wp2
    go_ret
    exact ⟨none, rfl, HW.out, Below.refl _ _⟩
  | some x =>
    have HA := Lib.hid (RwV.made (n := n) (g := fun i => .int .u16 (z.getD i 0)) (w := w) (.int .u16 0) 27)
    have HB := Lib.hid ((Below.refl w.heap.size w).alloc (Nat.le_refl _) (.cells (madeCells #[.int .u16 0] (n * 1)) 27))
    have hq := fun (w : World) => Lib.run_eql_slice_nil (P := Tryd.prog) w 24 27 (some x) n c 0 0 Tryd.underlying24
    go_enter Tryd.func9, Tryd.ntmps9
    go_wp2_with fail
    clear hq
    go_loopw [4] (fun i wr => Lc9 w n z i wr) (fun i _ => n - (intOf i).toNat)
    case atStart => exact ⟨0, by omega, rfl, HA.out, HB.out⟩
    case round =>
      obtain ⟨k, hk, rfl, hR, hB⟩ := hrel.ex
      clear hrel HA HB
      by_cases hlt : k < n
      · obtain ⟨b, o, e, l, q⟩ := H.out.cell (by omega)
        obtain rfl := Option.some.inj e
        clear e
        have c1 : wr.cell? ⟨b, o + k, none⟩ = some (.int .u16 (z.getD k 0)) := by rw [hB.cell (p := ⟨b, o + k, none⟩) l]; exact q k hlt
        obtain ⟨v0, y0⟩ := hR.c k hlt
        have z0 := hR.z k
        have hx : RwV w.heap.size n (k + 1) (fun i => .int .u16 (z.getD i 0)) (wr.setCell ⟨w.heap.size, k, none⟩ (.int .u16 (z.getD k 0))) := hR.next hlt
        have HX := Lib.hid hx
        have HBB := Lib.hid (hB.setCell (p := ⟨w.heap.size, k, none⟩) (Nat.le_refl _) (.int .u16 (z.getD k 0)))
        clear hR hB q H hx
        generalize z.getD k 0 = X at *
        go_wp2_with fail
        go_roundw
        case rel => exact ⟨k + 1, by omega, by go_num, HX.out, HBB.out⟩
        case measure => simp [intOf]; omega
      · have e : k = n := by omega
        subst e
        have HR := Lib.hid (hR.row H.out.wf)
        have HBB := Lib.hid hB
        clear hR hB H
        go_wp2_with fail
        go_ret
        exact ⟨_, rfl, HR.out, HBB.out⟩

end Go.Proofs.YtlpjejnfniiilaaDoor
