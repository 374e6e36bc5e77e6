/-
  ZZrunComposesPragma: the parser made, the tokens made. Conditions: each theorem's own.
-/
import Derived.Test.YtgjoklbljmpkgaaFmtGi
import Derived.Laws.MakeOwn
namespace Go.Proofs.YtgjoklbljmpkgaaFmt
open Go.RowKit Go.Lib Go.ChangeMaps
open Go.Maps (Keyed IsMap)
@[local go_sem] theorem mk39 (w : World) : (Instr.makeMap 39 none).run Tryf.prog w = .ok (.map (some w.heap.size)) (w.alloc (.map #[] 0)) := run_makeMap 39 w
@[local go_sem] theorem mk40 (w : World) : (Instr.makeMap 40 none).run Tryf.prog w = .ok (.map (some w.heap.size)) (w.alloc (.map #[] 0)) := run_makeMap 40 w
theorem cellOf {w : World} {b o : Nat} {cs : Array Value} {t : TypeId} (h : w.heap[b]? = some (.cells cs t (0, 0))) : w.cell? ⟨b, o, none⟩ = cs[o]? := by
  unfold World.cell?
  rw [h]
  rfl
/-- what a make lays -/
def mkO (z : Value) (k : Nat) (e : TypeId) : Obj := .cells (madeCells z.cells k) e
theorem mkS (t e : TypeId) (z : Value) (sz b : Nat) (ht : Tryf.prog.underlying t = some (.slice e)) (hi : (Tryf.prog.info? e).map (fun i => (i.zero, i.size, i.bytes)) = some (some z, sz, b)) (hb : b ≤ 64) (n : Nat) (hn : n ≤ 2000000) (w : World) :
    (Instr.makeSlice t (.int .i64 (n : Int)) (.int .i64 (n : Int))).run Tryf.prog w = .ok (.slice (some ⟨w.heap.size, 0, none⟩) n n) (w.alloc (mkO z (n * sz) e)) := by
  obtain ⟨i, hi1, z0, z1, z2⟩ := info_parts hi
  have hb' : (i.bytes : Int) * (n : Int) ≤ 281474976710656 := by
    have h : i.bytes * n ≤ 64 * 2000000 := Nat.mul_le_mul (by omega) hn
    have h2 : ((i.bytes * n : Nat) : Int) ≤ 281474976710656 := by omega
    rwa [Int.natCast_mul] at h2
  have hr := run_make (P := Tryf.prog) w t e i z ht hi1 z0 .i64 .i64 n n (by omega) (Int.le_refl _) hb' (by omega)
  simp only [Int.toNat_natCast, z1] at hr
  exact hr
theorem mkO_own (base : Nat) (z : Value) (n sz : Nat) (e : TypeId) (w : World) (hb : base ≤ w.heap.size) (hn : n ≤ 2000000) : (w.alloc (mkO z (n * sz) e)).ownsRow base e sz (.slice (some ⟨w.heap.size, 0, none⟩) n n) n (madeCells z.cells (n * sz)).toList :=
  World.ownsRow_lit w _ n hb (by unfold maxLen; omega) (size_madeCells _ _)
theorem info84 : (Tryf.prog.info? 84).map (fun i => (i.zero, i.size, i.bytes)) = some (some (.agg #[.int .u32 0, .int .u32 0]), 2, 8) := by kernel_rfl
theorem info95 : (Tryf.prog.info? 95).map (fun i => (i.zero, i.size, i.bytes)) = some (some (.agg #[.pointer none, .string ⟨#[]⟩, .int .i32 0, .int .u32 0, .int .u16 0, .int .u8 0, .int .u8 0]), 7, 40) := by kernel_rfl
theorem info29 : (Tryf.prog.info? 29).map (fun i => (i.zero, i.size, i.bytes)) = some (some (.slice none 0 0), 1, 24) := by kernel_rfl
theorem info34 : (Tryf.prog.info? 34).map (fun i => (i.zero, i.size, i.bytes)) = some (some (.int .u32 0), 1, 4) := by kernel_rfl
theorem info9 : (Tryf.prog.info? 9).map (fun i => (i.zero, i.size, i.bytes)) = some (some (.string ⟨#[]⟩), 1, 16) := by kernel_rfl
theorem info4 : (Tryf.prog.info? 4).map (fun i => (i.zero, i.size, i.bytes)) = some (some (.bool false), 1, 1) := by kernel_rfl
abbrev resB : Obj := .cells #[.slice none 0 0, .slice none 0 0, .slice none 0 0, .slice none 0 0, .int .i64 0, .bool false] 31
abbrev mapB : Obj := .map #[] 0
abbrev parB (N : Nat) (ml : Bool) : Obj := .cells #[.nilFunc, .nilFunc, .nilFunc, .nilFunc, .int .i8 0, .map none, .string ⟨#[]⟩, .string ⟨#[]⟩, .string ⟨#[]⟩, .string ⟨#[]⟩, .string ⟨#[]⟩, .string ⟨#[]⟩, .string ⟨#[]⟩, .string ⟨#[]⟩, .int .u8 0, .int .u32 0, .slice none 0 0, .slice none 0 0, .slice none 0 0, .slice none 0 0, .slice none 0 0, .slice none 0 0, .map (some (N + 1)), .slice none 0 0, .map (some (N + 1 + 1)), .map (some (N + 1 + 1 + 1)), .map none, .string ⟨#[]⟩, .string ⟨#[]⟩, .string ⟨#[]⟩, .int .i32 0, .int .i32 0, .int .i32 0, .int .i32 0, .bool false, .bool false, .bool false, .slice none 0 0, .slice none 0 0, .slice none 0 0, .slice none 0 0, .int .i64 0, .int .i64 0, .int .i64 0, .int .i64 0, .int .i32 0, .map none, .string ⟨#[]⟩, .int .u16 0, .bool false, .bool false, .bool false, .int .u8 0, .bool false, .bool ml, .bool false] 81
abbrev compB : Obj := .cells #[.slice none 0 0, .slice none 0 0, .map none] 89
structure WordsAt (sa : Option Addr) (ws : List NM) (w : World) : Prop where
  ex : ∀ i (h : i < ws.length), ∃ g o, sa = some ⟨g, o, none⟩ ∧ g < w.heap.size ∧ w.cell? ⟨g, o + i, none⟩ = some (.string (ba ws[i]))
structure L1 (N PR pc : Nat) (w5 : World) (i : Nat) (wx : World) : Prop where
  sz : wx.heap.size = N + 6 + i
  os : wx.os = w5.os ∧ wx.tape = w5.tape ∧ wx.output = w5.output
  blk : ∀ g, g < N + 5 → g ≠ N + 1 → wx.heap[g]? = w5.heap[g]?
  own : ∃ xs, wx.ownsRow N 84 2 (.slice (some ⟨PR, 0, none⟩) pc pc) pc xs ∧ ∀ k, k < i → xs[k * 2]? = some (.int .u32 1) ∧ xs[k * 2 + 1]? = some (.int .u32 k)
  mp : ∃ D, wx.ownsMap Tryf.prog 84 ptrE (N + 1) i D ∧ CompX N i D
  co : ∀ k, k < i → wx.heap[N + 6 + k]? = some compB
theorem cells6 {w : World} {b : Nat} {x0 x1 x2 x3 x4 x5 : Value} {t : TypeId} (h : w.heap[b]? = some (.cells #[x0, x1, x2, x3, x4, x5] t (0, 0))) : w.cell? ⟨b, 0, none⟩ = some x0 ∧ w.cell? ⟨b, 1, none⟩ = some x1 ∧ w.cell? ⟨b, 2, none⟩ = some x2 ∧ w.cell? ⟨b, 3, none⟩ = some x3 ∧ w.cell? ⟨b, 4, none⟩ = some x4 ∧ w.cell? ⟨b, 5, none⟩ = some x5 ∧ ∀ o, w.frozen? ⟨b, o, none⟩ = false :=
  ⟨(cellOf h).trans rfl, (cellOf h).trans rfl, (cellOf h).trans rfl, (cellOf h).trans rfl, (cellOf h).trans rfl, (cellOf h).trans rfl, fun o => frozen_of_row w b o _ _ h⟩
structure L1I (N PR pc : Nat) (w5 : World) (g : Nat) (v : Value) (wx : World) : Prop where
  ex : ∃ i : Nat, i + g = pc ∧ v = .int .i64 i ∧ L1 N PR pc w5 i wx
theorem heap6 (w : World) (a b c d e f : Obj) : ((((((w.alloc a).alloc b).alloc c).alloc d).alloc e).alloc f).heap.size = w.heap.size + 6 ∧ Below w.heap.size w ((((((w.alloc a).alloc b).alloc c).alloc d).alloc e).alloc f) ∧
    (((((((w.alloc a).alloc b).alloc c).alloc d).alloc e).alloc f).heap[w.heap.size]? = some a ∧ ((((((w.alloc a).alloc b).alloc c).alloc d).alloc e).alloc f).heap[w.heap.size + 1]? = some b ∧ ((((((w.alloc a).alloc b).alloc c).alloc d).alloc e).alloc f).heap[w.heap.size + 2]? = some c ∧
    ((((((w.alloc a).alloc b).alloc c).alloc d).alloc e).alloc f).heap[w.heap.size + 3]? = some d ∧ ((((((w.alloc a).alloc b).alloc c).alloc d).alloc e).alloc f).heap[w.heap.size + 4]? = some e) := by
  have up : ∀ (W : World) (o : Obj) g v, g < W.heap.size → W.heap[g]? = v → (W.alloc o).heap[g]? = v := fun W o g v h1 h2 => ((World.grownBy_alloc W o none).block g h1 (by simp)).trans h2
  have new : ∀ (W : World) (o : Obj) g, g = W.heap.size → (W.alloc o).heap[g]? = some o := fun W o g h => h ▸ (MapKept.heap_alloc W o).1
  refine ⟨by simp, ?_, ?_, ?_, ?_, ?_, ?_⟩
  · exact ((((((Below.refl _ _).alloc (Nat.le_refl _) _).alloc (by simp) _).alloc (by simp; try omega) _).alloc (by simp; try omega) _).alloc (by simp; try omega) _).alloc (by simp; try omega) _
  · exact up _ _ _ _ (by simp; try omega) (up _ _ _ _ (by simp; try omega) (up _ _ _ _ (by simp; try omega) (up _ _ _ _ (by simp; try omega) (up _ _ _ _ (by simp) (new _ _ _ rfl)))))
  · exact up _ _ _ _ (by simp; try omega) (up _ _ _ _ (by simp; try omega) (up _ _ _ _ (by simp; try omega) (up _ _ _ _ (by simp) (new _ _ _ (by simp)))))
  · exact up _ _ _ _ (by simp; try omega) (up _ _ _ _ (by simp; try omega) (up _ _ _ _ (by simp) (new _ _ _ (by simp))))
  · exact up _ _ _ _ (by simp; try omega) (up _ _ _ _ (by simp) (new _ _ _ (by simp)))
  · exact up _ _ _ _ (by simp) (new _ _ _ (by simp))
theorem ownsMap_of {R : Value → Option (DataW Unit × List MemPlace)} {k : TypeId} {w : World} {b : Nat} (h : w.heap[b]? = some mapB) : w.ownsMap Tryf.prog k R b 0 (.map []) :=
  ⟨#[], 0, h, ⟨by simp, MapKept.stamped_empty 0, by simp⟩, Nat.le_refl _, rfl⟩
structure TokX (ws : List NM) (k : Nat) (xs : List Value) : Prop where
  ex : ∀ j, j < k → ∀ (h : j < ws.length), xs[j * 7]? = some (.pointer none) ∧ xs[j * 7 + 1]? = some (.string (ba ws[j])) ∧ xs[j * 7 + 2]? = some (.int .i32 0) ∧ xs[j * 7 + 3]? = some (.int .u32 0) ∧ xs[j * 7 + 4]? = some (.int .u16 0) ∧ xs[j * 7 + 5]? = some (.int .u8 29) ∧ xs[j * 7 + 6]? = some (.int .u8 0)
def set7 (xs : List Value) (b : Nat) (v0 v1 v2 v3 v4 v5 v6 : Value) : List Value := ((((((xs.set b v0).set (b + 1) v1).set (b + 2) v2).set (b + 3) v3).set (b + 4) v4).set (b + 5) v5).set (b + 6) v6
theorem set7_far (xs : List Value) (b q : Nat) (v0 v1 v2 v3 v4 v5 v6 : Value) (h : q < b ∨ b + 7 ≤ q) : (set7 xs b v0 v1 v2 v3 v4 v5 v6)[q]? = xs[q]? := by
  unfold set7
  rw [List.getElem?_set_ne (by omega), List.getElem?_set_ne (by omega), List.getElem?_set_ne (by omega), List.getElem?_set_ne (by omega), List.getElem?_set_ne (by omega), List.getElem?_set_ne (by omega), List.getElem?_set_ne (by omega)]
theorem set7_len (xs : List Value) (b : Nat) (v0 v1 v2 v3 v4 v5 v6 : Value) : (set7 xs b v0 v1 v2 v3 v4 v5 v6).length = xs.length := by simp [set7]
theorem set7_at (xs : List Value) (b : Nat) (v0 v1 v2 v3 v4 v5 v6 : Value) (h : b + 7 ≤ xs.length) : (set7 xs b v0 v1 v2 v3 v4 v5 v6)[b]? = some v0 ∧ (set7 xs b v0 v1 v2 v3 v4 v5 v6)[b + 1]? = some v1 ∧ (set7 xs b v0 v1 v2 v3 v4 v5 v6)[b + 2]? = some v2 ∧
    (set7 xs b v0 v1 v2 v3 v4 v5 v6)[b + 3]? = some v3 ∧ (set7 xs b v0 v1 v2 v3 v4 v5 v6)[b + 4]? = some v4 ∧ (set7 xs b v0 v1 v2 v3 v4 v5 v6)[b + 5]? = some v5 ∧ (set7 xs b v0 v1 v2 v3 v4 v5 v6)[b + 6]? = some v6 := by
  unfold set7
  refine ⟨?_, ?_, ?_, ?_, ?_, ?_, ?_⟩
  all_goals
    repeat rw [List.getElem?_set_ne (by omega)]
    rw [List.getElem?_set_self (by first | omega | (simp only [List.length_set]; omega))]
theorem own7 {w : World} {base g cap n : Nat} {xs : List Value} (h : w.ownsRow base 95 7 (.slice (some ⟨g, 0, none⟩) n cap) n xs) (b : Nat) (v0 v1 v2 v3 v4 v5 v6 : Value) :
    (((((((w.setCell ⟨g, b, none⟩ v0).setCell ⟨g, b + 1, none⟩ v1).setCell ⟨g, b + 2, none⟩ v2).setCell ⟨g, b + 3, none⟩ v3).setCell ⟨g, b + 4, none⟩ v4).setCell ⟨g, b + 5, none⟩ v5).setCell ⟨g, b + 6, none⟩ v6).ownsRow base 95 7 (.slice (some ⟨g, 0, none⟩) n cap) n (set7 xs b v0 v1 v2 v3 v4 v5 v6) :=
  ((((((((h.stored b v0).1).stored (b + 1) v1).1.stored (b + 2) v2).1.stored (b + 3) v3).1.stored (b + 4) v4).1.stored (b + 5) v5).1.stored (b + 6) v6).1
theorem far7 {w : World} {g b q : Nat} (hq : q ≠ g) (v0 v1 v2 v3 v4 v5 v6 : Value) :
    (((((((w.setCell ⟨g, b, none⟩ v0).setCell ⟨g, b + 1, none⟩ v1).setCell ⟨g, b + 2, none⟩ v2).setCell ⟨g, b + 3, none⟩ v3).setCell ⟨g, b + 4, none⟩ v4).setCell ⟨g, b + 5, none⟩ v5).setCell ⟨g, b + 6, none⟩ v6).heap[q]? = w.heap[q]? := by
  rw [heap_setCell_other _ _ _ _ (by simpa using hq), heap_setCell_other _ _ _ _ (by simpa using hq), heap_setCell_other _ _ _ _ (by simpa using hq), heap_setCell_other _ _ _ _ (by simpa using hq), heap_setCell_other _ _ _ _ (by simpa using hq), heap_setCell_other _ _ _ _ (by simpa using hq), heap_setCell_other _ _ _ _ (by simpa using hq)]
theorem mkPre {N pc : Nat} {ml : Bool} {w5 wa wc : World} (HL : L1 N (N + 5) pc w5 pc wa) (k2 : w5.heap[N + 2]? = some mapB) (k3 : w5.heap[N + 3]? = some mapB) (k4 : w5.heap[N + 4]? = some (parB N ml))
    (bk : ∀ g, g < N + 6 + pc → wc.heap[g]? = wa.heap[g]?) (sz : wc.heap.size = N + 6 + pc + 1) (h7 : 7 ≤ N) (hpc : pc ≤ 255) : Pre N pc ml wc := by
  have h4 : wc.heap[N + 4]? = some (parB N ml) := (bk _ (by omega)).trans ((HL.blk _ (by omega) (by omega)).trans k4)
  have h2 : wc.heap[N + 2]? = some mapB := (bk _ (by omega)).trans ((HL.blk _ (by omega) (by omega)).trans k2)
  have h3 : wc.heap[N + 3]? = some mapB := (bk _ (by omega)).trans ((HL.blk _ (by omega) (by omega)).trans k3)
  obtain ⟨ys, ho, hx⟩ := HL.own
  obtain ⟨D, hm, hD⟩ := HL.mp
  have hyl := ho.1
  refine ⟨h7, by omega, hpc, fun o => frozen_of_row wc (N + 4) o _ _ h4, (cellOf h4).trans rfl, (cellOf h4).trans rfl, (cellOf h4).trans rfl, (cellOf h4).trans rfl, (cellOf h4).trans rfl, (cellOf h4).trans rfl, (cellOf h4).trans rfl, ownsMap_of h2, ownsMap_of h3, ⟨pc, D, ?_, hD⟩, fun i hi => ?_, fun k hk => ?_⟩
  · obtain ⟨es, clock, hxx, F, hs, hDD⟩ := hm
    exact ⟨es, clock, by rw [bk _ (by omega)]; exact hxx, F, hs, hDD⟩
  · obtain ⟨e1, e2⟩ := hx i hi
    rw [World.cell?_of_block (a := ⟨N + 5, i * 2, none⟩) (bk (N + 5) (by omega)), World.cell?_of_block (a := ⟨N + 5, i * 2 + 1, none⟩) (bk (N + 5) (by omega)), ho.cellAt _ (by omega), ho.cellAt _ (by omega)]
    exact ⟨e1, e2⟩
  · have hb : wc.heap[N + 6 + k]? = some compB := (bk _ (by omega)).trans (HL.co k hk)
    exact ⟨(cellOf hb).trans rfl, frozen_of_row wc _ _ _ _ hb⟩
theorem os_set (w : World) (a : Addr) (u : Value) : (w.setCell a u).os = w.os ∧ (w.setCell a u).tape = w.tape ∧ (w.setCell a u).output = w.output := by
  refine ⟨?_, ?_, ?_⟩ <;> first | rfl | simp [go_sem] | (unfold World.setCell; split <;> rfl)
theorem os7 {w : World} {g b : Nat} (v0 v1 v2 v3 v4 v5 v6 : Value) {W : World} (h : w.os = W.os ∧ w.tape = W.tape ∧ w.output = W.output) :
    let w' := (((((((w.setCell ⟨g, b, none⟩ v0).setCell ⟨g, b + 1, none⟩ v1).setCell ⟨g, b + 2, none⟩ v2).setCell ⟨g, b + 3, none⟩ v3).setCell ⟨g, b + 4, none⟩ v4).setCell ⟨g, b + 5, none⟩ v5).setCell ⟨g, b + 6, none⟩ v6)
    w'.os = W.os ∧ w'.tape = W.tape ∧ w'.output = W.output := by
  intro w'
  have st : ∀ (x : World) (a : Addr) (u : Value), (x.os = W.os ∧ x.tape = W.tape ∧ x.output = W.output) → ((x.setCell a u).os = W.os ∧ (x.setCell a u).tape = W.tape ∧ (x.setCell a u).output = W.output) := by
    intro x a u hx
    obtain ⟨h1, h2, h3⟩ := os_set x a u
    exact ⟨h1.trans hx.1, h2.trans hx.2.1, h3.trans hx.2.2⟩
  exact st _ _ _ (st _ _ _ (st _ _ _ (st _ _ _ (st _ _ _ (st _ _ _ (st _ _ _ h))))))
theorem TokX.snoc {ws : List NM} {k : Nat} {xs : List Value} (h : TokX ws k xs) (hl : xs.length = ws.length * 7) (hk : k < ws.length) : TokX ws (k + 1) (set7 xs (k * 7) (.pointer none) (.string (ba ws[k])) (.int .i32 0) (.int .u32 0) (.int .u16 0) (.int .u8 29) (.int .u8 0)) := by
  constructor
  intro j hj hjl
  by_cases e : j = k
  · subst e
    exact set7_at xs (j * 7) _ _ _ _ _ _ _ (by omega)
  · have hjk : j < k := by omega
    rw [set7_far _ _ _ _ _ _ _ _ _ _ (by omega), set7_far _ _ _ _ _ _ _ _ _ _ (by omega), set7_far _ _ _ _ _ _ _ _ _ _ (by omega), set7_far _ _ _ _ _ _ _ _ _ _ (by omega), set7_far _ _ _ _ _ _ _ _ _ _ (by omega), set7_far _ _ _ _ _ _ _ _ _ _ (by omega), set7_far _ _ _ _ _ _ _ _ _ _ (by omega)]
    exact h.ex j hjk hjl
structure L2 (N TB : Nat) (ws : List NM) (w9 : World) (j : Nat) (wx : World) : Prop where
  sz : wx.heap.size = w9.heap.size
  os : wx.os = w9.os ∧ wx.tape = w9.tape ∧ wx.output = w9.output
  blk : ∀ g, g ≠ TB → wx.heap[g]? = w9.heap[g]?
  own : ∃ xs, wx.ownsRow N 95 7 (.slice (some ⟨TB, 0, none⟩) ws.length ws.length) ws.length xs ∧ TokX ws j xs
theorem mkToks {N TB n : Nat} {ws : List NM} {w9 wc : World} (h : L2 N TB ws w9 n wc) (hn : n = ws.length) (hlt : TB < wc.heap.size) : Toks TB ws wc := by
  subst hn
  obtain ⟨ys, ho, hx⟩ := h.own
  refine ⟨hlt, fun i hi => ?_⟩
  rw [ho.cellAt _ (by omega), ho.cellAt _ (by omega), ho.cellAt _ (by omega), ho.cellAt _ (by omega), ho.cellAt _ (by omega), ho.cellAt _ (by omega), ho.cellAt _ (by omega)]
  exact hx.ex i hi hi
structure L2I (N TB : Nat) (ws : List NM) (w9 : World) (g : Nat) (v : Value) (wx : World) : Prop where
  ex : ∃ j : Nat, j + g = ws.length ∧ v = .int .i64 j ∧ L2 N TB ws w9 j wx
structure HPostX (B pc : Nat) (ns : List NM) (fg ml : Bool) (w : World) (e : Ending) (w' : World) : Prop where
  ret : e = .returned (.tuple #[])
  os : w'.os = w.os ∧ w'.tape = w.tape ∧ w'.output = w.output
  size : w.heap.size ≤ w'.heap.size
  block : ∀ g, g < w.heap.size → g ≠ B + 2 → g ≠ B + 3 → g ≠ B + 4 → (∀ k, k < pc → g ≠ B + 6 + k) → w'.heap[g]? = w.heap[g]?
  ex : ∃ (base : Nat) (vS vL : Value) (xS xL : List Value) (rows : Nat → Value), w.heap.size ≤ base ∧ w'.cell? ⟨B + 4, 21, none⟩ = some vS ∧ w'.cell? ⟨B + 4, 22, none⟩ = some (.map (some (B + 1))) ∧ w'.cell? ⟨B + 4, 23, none⟩ = some vL ∧ w'.cell? ⟨B + 4, 54, none⟩ = some (.bool ml) ∧
    w'.ownsRow base 110 10 vS (dist (flat pc ns)).length xS ∧ SymX (ml && !fg) (flat pc ns) xS ∧ w'.ownsRow base 102 3 vL (if (ml && !fg) then (dist (flat pc ns)).length else 0) xL ∧ RowsX base B pc ns pc 0 vS vL rows w'
def H13 : Prop := ∀ (B pc : Nat) (ws ns : List NM) (fg ml : Bool) (w : World), Words ws ns fg → Toks (B + 6 + pc) ws w → Tabs w → (∀ n ∈ ws, n.length ≤ 1048576) → ws.length ≤ 100000 → Pre B pc ml w → ns.length ≤ 4096 →
    Calls Tryf.prog 13 #[.pointer (some ⟨B + 4, 0, none⟩), .agg #[.slice (some ⟨B + 5, 0, none⟩) pc pc, .int .i32 0, .int .i32 0, .int .i32 0, .int .i32 0], .slice (some ⟨B + 6 + pc, 0, none⟩) ws.length ws.length] w fun e w' => HPostX B pc ns fg ml w e w'
structure Src (N pc M : Nat) (ns : List NM) (m ml : Bool) (w : World) : Prop where
  pr : ∀ i, i < pc → w.cell? ⟨N + 5, i * 2, none⟩ = some (.int .u32 1) ∧ w.cell? ⟨N + 5, i * 2 + 1, none⟩ = some (.int .u32 i)
  mc : ∃ n D, w.ownsMap Tryf.prog 84 ptrE (N + 1) n D ∧ CompX N pc D
  c22 : w.cell? ⟨N + 4, 22, none⟩ = some (.map (some (N + 1)))
  c54 : w.cell? ⟨N + 4, 54, none⟩ = some (.bool ml)
  nm : ∀ k, k < pc → ∃ r cap, w.cell? ⟨N + 6 + k, 0, none⟩ = some (.slice r ns.length cap) ∧ ∀ q (h : q < ns.length), ∃ g, r = some ⟨g, 0, none⟩ ∧ g < M ∧ w.cell? ⟨g, q * 3 + 2, none⟩ = some (.int .u32 ((dist ns).idxOf ns[q] : Nat))
  sy : ∃ r cap, w.cell? ⟨N + 4, 21, none⟩ = some (.slice r (dist (flat pc ns)).length cap) ∧ ∀ i (h : i < (dist (flat pc ns)).length), ∃ g, r = some ⟨g, 0, none⟩ ∧ g < M ∧ w.cell? ⟨g, i * 10 + 1, none⟩ = some (.string (ba (dist (flat pc ns))[i])) ∧
    w.cell? ⟨g, i * 10 + 4, none⟩ = some (.int .u32 ((flat pc ns).count (dist (flat pc ns))[i] : Nat)) ∧ w.cell? ⟨g, i * 10 + 8, none⟩ = some (.int .u8 (if m then 26 else 25))
  lo : ∃ r cap, w.cell? ⟨N + 4, 23, none⟩ = some (.slice r (if m then (dist (flat pc ns)).length else 0) cap)
  lt : N + 6 + pc ≤ M
theorem Src.below {N pc M : Nat} {ns : List NM} {m ml : Bool} {w w' : World} (h : Src N pc M ns m ml w) (hb : ∀ g, g < M → w'.heap[g]? = w.heap[g]?) : Src N pc M ns m ml w' := by
  have hlt := h.lt
  have cl : ∀ g o, g < M → w'.cell? ⟨g, o, none⟩ = w.cell? ⟨g, o, none⟩ := fun g o hg => World.cell?_of_block (a := ⟨g, o, none⟩) (hb g hg)
  obtain ⟨nD, D, hm, hD⟩ := h.mc
  obtain ⟨r, cap, hs, hsy⟩ := h.sy
  obtain ⟨r2, cap2, hl⟩ := h.lo
  refine ⟨fun i hi => ?_, ⟨nD, D, ?_, hD⟩, (cl _ _ (by omega)).trans h.c22, (cl _ _ (by omega)).trans h.c54, fun k hk => ?_, ⟨r, cap, (cl _ _ (by omega)).trans hs, fun i hi => ?_⟩, ⟨r2, cap2, (cl _ _ (by omega)).trans hl⟩, hlt⟩
  · rw [cl _ _ (by omega), cl _ _ (by omega)]; exact h.pr i hi
  · obtain ⟨es, clock, hxx, F, hs, hDD⟩ := hm
    exact ⟨es, clock, by rw [hb _ (by omega)]; exact hxx, F, hs, hDD⟩
  · obtain ⟨r, cap, h1, h2⟩ := h.nm k hk
    refine ⟨r, cap, (cl _ _ (by omega)).trans h1, fun q hq => ?_⟩
    obtain ⟨g, e, hg, hc⟩ := h2 q hq
    exact ⟨g, e, hg, (cl _ _ hg).trans hc⟩
  · obtain ⟨g, e, hg, h1, h2, h3⟩ := hsy i hi
    exact ⟨g, e, hg, (cl _ _ hg).trans h1, (cl _ _ hg).trans h2, (cl _ _ hg).trans h3⟩
theorem slice_of {w : World} {base e size n : Nat} {v : Value} {xs : List Value} (h : w.ownsRow base e size v n xs) : ∃ r cap, v = .slice r n cap ∧ ∀ q, q < n * size → ∃ g, r = some ⟨g, 0, none⟩ ∧ g < w.heap.size ∧ w.cell? ⟨g, q, none⟩ = xs[q]? := by
  rcases h.2 with ⟨e0, h0⟩ | ⟨g, cap, cur, e0, hx⟩
  · exact ⟨none, 0, by rw [e0, h0], fun q hq => by rw [h0] at hq; omega⟩
  · subst e0
    exact ⟨_, cap, rfl, fun q hq => ⟨g, rfl, (h.lt g rfl).2, h.cellAt q hq⟩⟩
theorem mkSrc {N pc : Nat} {ns : List NM} {fg ml : Bool} {wc W3 : World} {nD : Nat} {D : DataW Unit} (hsz : wc.heap.size = N + 6 + pc + 1) (hsz3 : wc.heap.size ≤ W3.heap.size)
    (hblk : ∀ g, g < wc.heap.size → g ≠ N + 2 → g ≠ N + 3 → g ≠ N + 4 → (∀ k, k < pc → g ≠ N + 6 + k) → W3.heap[g]? = wc.heap[g]?)
    (hpr : ∀ i, i < pc → wc.cell? ⟨N + 5, i * 2, none⟩ = some (.int .u32 1) ∧ wc.cell? ⟨N + 5, i * 2 + 1, none⟩ = some (.int .u32 i)) (hm : wc.ownsMap Tryf.prog 84 ptrE (N + 1) nD D) (hD : CompX N pc D)
    (hex : ∃ (base : Nat) (vS vL : Value) (xS xL : List Value) (rows : Nat → Value), wc.heap.size ≤ base ∧ W3.cell? ⟨N + 4, 21, none⟩ = some vS ∧ W3.cell? ⟨N + 4, 22, none⟩ = some (.map (some (N + 1))) ∧ W3.cell? ⟨N + 4, 23, none⟩ = some vL ∧ W3.cell? ⟨N + 4, 54, none⟩ = some (.bool ml) ∧
    W3.ownsRow base 110 10 vS (dist (flat pc ns)).length xS ∧ SymX (ml && !fg) (flat pc ns) xS ∧ W3.ownsRow base 102 3 vL (if (ml && !fg) then (dist (flat pc ns)).length else 0) xL ∧ RowsX base N pc ns pc 0 vS vL rows W3) :
    Src N pc W3.heap.size ns (ml && !fg) ml W3 := by
  obtain ⟨base, vS, vL, xS, xL, rows, hb, h21, h22, h23, h54, oS, hS, oL, hR⟩ := hex
  obtain ⟨r1, cap1, rfl, e1⟩ := slice_of oS
  obtain ⟨r2, cap2, rfl, e2⟩ := slice_of oL
  have hb5 : W3.heap[N + 5]? = wc.heap[N + 5]? := hblk _ (by omega) (by omega) (by omega) (by omega) (fun k hk => by omega)
  refine ⟨fun i hi => ?_, ⟨nD, D, ?_, hD⟩, h22, h54, fun k hk => ?_, ⟨r1, cap1, h21, fun i hi => ?_⟩, ⟨r2, cap2, h23⟩, by omega⟩
  · rw [World.cell?_of_block (a := ⟨N + 5, i * 2, none⟩) hb5, World.cell?_of_block (a := ⟨N + 5, i * 2 + 1, none⟩) hb5]
    exact hpr i hi
  · obtain ⟨es, clock, hxx, F, hs, hDD⟩ := hm
    exact ⟨es, clock, by rw [hblk (N + 1) (by omega) (by omega) (by omega) (by omega) (fun k hk => by omega)]; exact hxx, F, hs, hDD⟩
  · obtain ⟨xs, ho, hx⟩ := hR.own k hk
    have hcn : cnt ns pc 0 k = ns.length := by unfold cnt; rw [if_pos hk]
    rw [hcn] at ho hx
    obtain ⟨r, cap, hrv, e⟩ := slice_of ho
    refine ⟨r, cap, by rw [← hrv]; exact (hR.cell k hk).1, fun q hq => ?_⟩
    obtain ⟨g, hg, hgl, hc⟩ := e (q * 3 + 2) (by omega)
    exact ⟨g, hg, hgl, hc.trans (hx.ex q hq hq)⟩
  · obtain ⟨x1, x2, x3⟩ := hS.ex i hi
    obtain ⟨g, hg, hgl, hc1⟩ := e1 (i * 10 + 1) (by omega)
    obtain ⟨g', hg', _, hc2⟩ := e1 (i * 10 + 4) (by omega)
    obtain ⟨g'', hg'', _, hc3⟩ := e1 (i * 10 + 8) (by omega)
    rw [hg] at hg' hg''
    simp at hg' hg''
    subst hg' hg''
    exact ⟨g, hg, hgl, hc1.trans x1, hc2.trans x2, hc3.trans x3⟩
def RowV (M : Nat) (ns : List NM) (v : Option Value) (w : World) : Prop := ∃ g, v = some (.slice (some ⟨g, 0, none⟩) ns.length ns.length) ∧ M + 1 < g ∧ g < w.heap.size ∧ ∀ q (h : q < ns.length), w.cell? ⟨g, q, none⟩ = some (.int .u32 ((dist ns).idxOf ns[q] : Nat))
abbrev resP (M pc : Nat) : Obj := .cells #[.slice (some ⟨M + 1, 0, none⟩) pc pc, .slice none 0 0, .slice none 0 0, .slice none 0 0, .int .i64 0, .bool false] 31
structure R3 (N pc M : Nat) (ns : List NM) (m ml : Bool) (W3 : World) (i : Nat) (wx : World) : Prop where
  src : Src N pc M ns m ml wx
  bel : Below M W3 wx
  sz : M + 1 < wx.heap.size
  res : wx.heap[M]? = some (resP M pc)
  own : ∃ xs, wx.ownsRow M 29 1 (.slice (some ⟨M + 1, 0, none⟩) pc pc) pc xs ∧ ∀ k, k < i → RowV M ns xs[k]? wx
structure R3I (N pc M : Nat) (ns : List NM) (m ml : Bool) (W3 : World) (g : Nat) (v : Value) (wx : World) : Prop where
  ex : ∃ i : Nat, i + g = pc ∧ v = .int .i64 i ∧ R3 N pc M ns m ml W3 i wx
structure R4 (G M : Nat) (ns : List NM) (wg : World) (k : Nat) (wx : World) : Prop where
  sz : wx.heap.size = wg.heap.size
  os : wx.os = wg.os ∧ wx.tape = wg.tape ∧ wx.output = wg.output
  blk : ∀ g, g ≠ G → wx.heap[g]? = wg.heap[g]?
  own : ∃ ys, wx.ownsRow M 34 1 (.slice (some ⟨G, 0, none⟩) ns.length ns.length) ns.length ys ∧ ∀ q (h : q < ns.length), q < k → ys[q]? = some (.int .u32 ((dist ns).idxOf ns[q] : Nat))
structure R4I (G M : Nat) (ns : List NM) (wg : World) (g : Nat) (v : Value) (wx : World) : Prop where
  ex : ∃ k : Nat, k + g = ns.length ∧ v = .int .i64 k ∧ R4 G M ns wg k wx
theorem R3.drew {N pc M i : Nat} {ns : List NM} {m ml : Bool} {W3 wx : World} (h : R3 N pc M ns m ml W3 i wx) : R3 N pc M ns m ml W3 i wx.drew := by
  obtain ⟨xs, ho, hx⟩ := h.own
  exact ⟨h.src.below (fun _ _ => rfl), h.bel.drew, h.sz, h.res, xs, ho.drew, fun k hk => hx k hk⟩
theorem R4.step {G M k : Nat} {ns : List NM} {wg wx : World} (h : R4 G M ns wg k wx) (hk : k < ns.length) : R4 G M ns wg (k + 1) (wx.setCell ⟨G, k, none⟩ (.int .u32 ((dist ns).idxOf ns[k] : Nat))) := by
  obtain ⟨ys, ho, hy⟩ := h.own
  have hyl := ho.1
  obtain ⟨o1, o2, o3⟩ := os_set wx ⟨G, k, none⟩ (.int .u32 ((dist ns).idxOf ns[k] : Nat))
  refine ⟨by simp only [World.size_setCell]; exact h.sz, ⟨o1.trans h.os.1, o2.trans h.os.2.1, o3.trans h.os.2.2⟩, fun g hg => (heap_setCell_other _ _ _ _ (by simpa using hg)).trans (h.blk g hg), _, (ho.stored k _).1, fun q hq hqk => ?_⟩
  by_cases e : q = k
  · subst e
    exact List.getElem?_set_self (by omega)
  · rw [List.getElem?_set_ne (by omega)]
    exact hy q hq (by omega)
abbrev resQ (M pc G n : Nat) : Obj := .cells #[.slice (some ⟨M + 1, 0, none⟩) pc pc, .slice (some ⟨G, 0, none⟩) n n, .slice (some ⟨G + 1, 0, none⟩) n n, .slice (some ⟨G + 1 + 1, 0, none⟩) n n, .int .i64 0, .bool false] 31
structure R5 (M G n : Nat) (L : List NM) (m : Bool) (w5 : World) (j : Nat) (wx : World) : Prop where
  sz : wx.heap.size = w5.heap.size
  os : wx.os = w5.os ∧ wx.tape = w5.tape ∧ wx.output = w5.output
  blk : ∀ g, g ≠ G → g ≠ G + 1 → g ≠ G + 1 + 1 → wx.heap[g]? = w5.heap[g]?
  o1 : ∃ xs, wx.ownsRow M 9 1 (.slice (some ⟨G, 0, none⟩) n n) n xs ∧ ∀ i (h : i < (dist L).length), i < j → xs[i]? = some (.string (ba (dist L)[i]))
  o2 : ∃ xs, wx.ownsRow M 4 1 (.slice (some ⟨G + 1, 0, none⟩) n n) n xs ∧ ∀ i, i < n → i < j → xs[i]? = some (.bool m)
  o3 : ∃ xs, wx.ownsRow M 34 1 (.slice (some ⟨G + 1 + 1, 0, none⟩) n n) n xs ∧ ∀ i (h : i < (dist L).length), i < j → xs[i]? = some (.int .u32 (L.count (dist L)[i] : Nat))
structure R5W (N pc M G n : Nat) (ns : List NM) (m ml : Bool) (wc w5 : World) : Prop where
  r5 : R5 M G n (flat pc ns) m w5 0 w5
  src : Src N pc M ns m ml w5
  res : w5.heap[M]? = some (resQ M pc G n)
  sz : w5.heap.size = G + 3
  bel : ∀ g, g < G → g ≠ M → w5.heap[g]? = wc.heap[g]?
  os : w5.os = wc.os ∧ w5.tape = wc.tape ∧ w5.output = wc.output
theorem mkR5W {N pc M n : Nat} {ns : List NM} {m ml : Bool} {W3 wc : World} (hR : R3 N pc M ns m ml W3 pc wc) (hn2 : n ≤ 2000000) :
    R5W N pc M wc.heap.size n ns m ml wc ((((((wc.setCell ⟨M, 1, none⟩ (.slice (some ⟨wc.heap.size, 0, none⟩) n n)).setCell ⟨M, 2, none⟩ (.slice (some ⟨wc.heap.size + 1, 0, none⟩) n n)).setCell ⟨M, 3, none⟩ (.slice (some ⟨wc.heap.size + 1 + 1, 0, none⟩) n n)).alloc (mkO (.string ⟨#[]⟩) n 9)).alloc (mkO (.bool false) n 4)).alloc (mkO (.int .u32 0) n 34)) := by
  have hsz := hR.sz
  have hres := heap_setCell_same _ M 3 _ _ (.slice (some ⟨wc.heap.size + 1 + 1, 0, none⟩) n n) (heap_setCell_same _ M 2 _ _ (.slice (some ⟨wc.heap.size + 1, 0, none⟩) n n) (heap_setCell_same _ M 1 _ _ (.slice (some ⟨wc.heap.size, 0, none⟩) n n) hR.res))
  have hfar : ∀ g, g ≠ M → (((wc.setCell ⟨M, 1, none⟩ (.slice (some ⟨wc.heap.size, 0, none⟩) n n)).setCell ⟨M, 2, none⟩ (.slice (some ⟨wc.heap.size + 1, 0, none⟩) n n)).setCell ⟨M, 3, none⟩ (.slice (some ⟨wc.heap.size + 1 + 1, 0, none⟩) n n)).heap[g]? = wc.heap[g]? := fun g hg => by
    rw [heap_setCell_other _ _ _ _ (by simpa using hg), heap_setCell_other _ _ _ _ (by simpa using hg), heap_setCell_other _ _ _ _ (by simpa using hg)]
  have hqs : (((wc.setCell ⟨M, 1, none⟩ (.slice (some ⟨wc.heap.size, 0, none⟩) n n)).setCell ⟨M, 2, none⟩ (.slice (some ⟨wc.heap.size + 1, 0, none⟩) n n)).setCell ⟨M, 3, none⟩ (.slice (some ⟨wc.heap.size + 1 + 1, 0, none⟩) n n)).heap.size = wc.heap.size := by simp
  have hos : (((wc.setCell ⟨M, 1, none⟩ (.slice (some ⟨wc.heap.size, 0, none⟩) n n)).setCell ⟨M, 2, none⟩ (.slice (some ⟨wc.heap.size + 1, 0, none⟩) n n)).setCell ⟨M, 3, none⟩ (.slice (some ⟨wc.heap.size + 1 + 1, 0, none⟩) n n)).os = wc.os ∧ (((wc.setCell ⟨M, 1, none⟩ (.slice (some ⟨wc.heap.size, 0, none⟩) n n)).setCell ⟨M, 2, none⟩ (.slice (some ⟨wc.heap.size + 1, 0, none⟩) n n)).setCell ⟨M, 3, none⟩ (.slice (some ⟨wc.heap.size + 1 + 1, 0, none⟩) n n)).tape = wc.tape ∧ (((wc.setCell ⟨M, 1, none⟩ (.slice (some ⟨wc.heap.size, 0, none⟩) n n)).setCell ⟨M, 2, none⟩ (.slice (some ⟨wc.heap.size + 1, 0, none⟩) n n)).setCell ⟨M, 3, none⟩ (.slice (some ⟨wc.heap.size + 1 + 1, 0, none⟩) n n)).output = wc.output := by
    have st : ∀ (x : World) (a : Addr) (u : Value), (x.os = wc.os ∧ x.tape = wc.tape ∧ x.output = wc.output) → ((x.setCell a u).os = wc.os ∧ (x.setCell a u).tape = wc.tape ∧ (x.setCell a u).output = wc.output) := by
      intro x a u hx
      obtain ⟨o1, o2, o3⟩ := os_set x a u
      exact ⟨o1.trans hx.1, o2.trans hx.2.1, o3.trans hx.2.2⟩
    exact st _ _ _ (st _ _ _ (st _ _ _ ⟨rfl, rfl, rfl⟩))
  generalize ((wc.setCell ⟨M, 1, none⟩ (.slice (some ⟨wc.heap.size, 0, none⟩) n n)).setCell ⟨M, 2, none⟩ (.slice (some ⟨wc.heap.size + 1, 0, none⟩) n n)).setCell ⟨M, 3, none⟩ (.slice (some ⟨wc.heap.size + 1 + 1, 0, none⟩) n n) = Wq at *
  have up : ∀ g, g < wc.heap.size → (((Wq.alloc (mkO (.string ⟨#[]⟩) n 9)).alloc (mkO (.bool false) n 4)).alloc (mkO (.int .u32 0) n 34)).heap[g]? = Wq.heap[g]? := fun g hg => by
    rw [(World.grownBy_alloc _ _ none).block g (by simp; omega) (by simp), (World.grownBy_alloc _ _ none).block g (by simp; omega) (by simp), (World.grownBy_alloc _ _ none).block g (by omega) (by simp)]
  have o1 := mkO_own M (.string ⟨#[]⟩) n 1 9 Wq (by omega) hn2
  have o2 := mkO_own M (.bool false) n 1 4 (Wq.alloc (mkO (.string ⟨#[]⟩) n 9)) (by simp; omega) hn2
  have o3 := mkO_own M (.int .u32 0) n 1 34 ((Wq.alloc (mkO (.string ⟨#[]⟩) n 9)).alloc (mkO (.bool false) n 4)) (by simp; omega) hn2
  rw [Nat.mul_one] at o1 o2 o3
  simp only [World.size_alloc, hqs] at o1 o2 o3
  refine ⟨⟨rfl, ⟨rfl, rfl, rfl⟩, fun _ _ _ _ => rfl, ⟨_, (o1.alloc _).alloc _, fun i _ h => by omega⟩, ⟨_, o2.alloc _, fun i _ h => by omega⟩, ⟨_, o3, fun i _ h => by omega⟩⟩, ?_, ?_, by simp [hqs], fun g h1 h2 => (up g h1).trans (hfar g h2), hos⟩
  · exact hR.src.below (fun g hg => (up g (by omega)).trans (hfar g (by omega)))
  · exact (up M (by omega)).trans hres
structure R5I (M G n : Nat) (L : List NM) (m : Bool) (w5 : World) (g : Nat) (v : Value) (wx : World) : Prop where
  ex : ∃ j : Nat, j + g = n ∧ v = .int .i64 j ∧ R5 M G n L m w5 j wx
theorem R5.step {M G n j : Nat} {L : List NM} {m : Bool} {w5 wx : World} (h : R5 M G n L m w5 j wx) (hn : (dist L).length = n) (hj : j < (dist L).length) :
    R5 M G n L m w5 (j + 1) ((((wx.setCell ⟨G, j, none⟩ (.string (ba (dist L)[j]))).drew.setCell ⟨G + 1, j, none⟩ (.bool m)).drew.setCell ⟨G + 1 + 1, j, none⟩ (.int .u32 (L.count (dist L)[j] : Nat))).drew) := by
  obtain ⟨x1, h1, e1⟩ := h.o1
  obtain ⟨x2, h2, e2⟩ := h.o2
  obtain ⟨x3, h3, e3⟩ := h.o3
  have l1 := h1.1
  have l2 := h2.1
  have l3 := h3.1
  have st : ∀ (x : World) (a : Addr) (u : Value), (x.os = w5.os ∧ x.tape = w5.tape ∧ x.output = w5.output) → ((x.setCell a u).drew.os = w5.os ∧ (x.setCell a u).drew.tape = w5.tape ∧ (x.setCell a u).drew.output = w5.output) := by
    intro x a u hx
    obtain ⟨o1, o2, o3⟩ := os_set x a u
    exact ⟨o1.trans hx.1, o2.trans hx.2.1, o3.trans hx.2.2⟩
  refine ⟨?_, st _ _ _ (st _ _ _ (st _ _ _ h.os)), fun g n1 n2 n3 => ?_, ⟨x1.set j (.string (ba (dist L)[j])), ?_, fun i hi hij => ?_⟩, ⟨x2.set j (.bool m), ?_, fun i hi hij => ?_⟩, ⟨x3.set j (.int .u32 (L.count (dist L)[j] : Nat)), ?_, fun i hi hij => ?_⟩⟩
  · simp only [World.size_drew, World.size_setCell]; exact h.sz
  · show (World.setCell _ _ _).heap[g]? = _
    rw [heap_setCell_other _ _ _ _ (by simpa using n3)]
    show (World.setCell _ _ _).heap[g]? = _
    rw [heap_setCell_other _ _ _ _ (by simpa using n2)]
    show (World.setCell _ _ _).heap[g]? = _
    rw [heap_setCell_other _ _ _ _ (by simpa using n1)]
    exact h.blk g n1 n2 n3
  · refine (ownsRow_setCell_other ((ownsRow_setCell_other ((h1.stored j _).1.drew) (by simp [Value.ownBlock]) _).drew) ?_ _).drew
    simp [Value.ownBlock]
    omega
  · by_cases e : i = j
    · subst e; exact List.getElem?_set_self (by omega)
    · rw [List.getElem?_set_ne (by omega)]; exact e1 i hi (by omega)
  · refine (ownsRow_setCell_other (((ownsRow_setCell_other h2 (by simp [Value.ownBlock]) _).drew.stored j _).1.drew) ?_ _).drew
    simp [Value.ownBlock]
  · by_cases e : i = j
    · subst e; exact List.getElem?_set_self (by omega)
    · rw [List.getElem?_set_ne (by omega)]; exact e2 i hi (by omega)
  · refine (((ownsRow_setCell_other ((ownsRow_setCell_other h3 ?_ _).drew) ?_ _).drew).stored j _).1.drew
    · simp [Value.ownBlock]; omega
    · simp [Value.ownBlock]
  · by_cases e : i = j
    · subst e; exact List.getElem?_set_self (by omega)
    · rw [List.getElem?_set_ne (by omega)]; exact e3 i hi (by omega)
/-- a row is filled and laid -/
theorem R3.step {N pc M G i : Nat} {ns : List NM} {m ml : Bool} {W3 wr wg wx : World} (h : R3 N pc M ns m ml W3 i wr) (hi : i < pc) (hG : G = wr.heap.size) (hg : wr.grownBy wg none) (hsg : wg.heap.size = wr.heap.size + 1) (h4 : R4 G M ns wg ns.length wx) :
    R3 N pc M ns m ml W3 (i + 1) (wx.setCell ⟨M + 1, i, none⟩ (.slice (some ⟨G, 0, none⟩) ns.length ns.length)) := by
  subst hG
  have hsz := h.sz
  have bk : ∀ g, g < wr.heap.size → g ≠ M + 1 → (wx.setCell ⟨M + 1, i, none⟩ (.slice (some ⟨wr.heap.size, 0, none⟩) ns.length ns.length)).heap[g]? = wr.heap[g]? := fun g h1 h2 => by
    rw [heap_setCell_other _ _ _ _ (by simpa using h2), h4.blk g (by omega), hg.block g h1 (by simp)]
  have bx : ∀ g, g < wr.heap.size → wx.heap[g]? = wr.heap[g]? := fun g h1 => by
    rw [h4.blk g (by omega), hg.block g h1 (by simp)]
  obtain ⟨xs, ho, hx⟩ := h.own
  obtain ⟨ys, hoy, hy⟩ := h4.own
  have hxl := ho.1
  have hox : wx.ownsRow M 29 1 (.slice (some ⟨M + 1, 0, none⟩) pc pc) pc xs := by
    obtain ⟨h1, h2⟩ := ho
    refine ⟨h1, ?_⟩
    rcases h2 with h2 | ⟨g, cap, cur, e, hxx⟩
    · exact Or.inl h2
    · simp only [Value.slice.injEq, Option.some.injEq, Addr.mk.injEq, and_true, true_and] at e
      obtain ⟨rfl, rfl⟩ := e
      exact Or.inr ⟨M + 1, pc, cur, rfl, hxx.1, by rw [bx _ (by omega)]; exact hxx.2.1, hxx.2.2⟩
  refine ⟨h.src.below (fun g hg' => bk g (by omega) (by omega)), ?_, ?_, ?_, ⟨_, (hox.stored i _).1, fun k hk => ?_⟩⟩
  · obtain ⟨o1, o2, o3⟩ := os_set wx ⟨M + 1, i, none⟩ (.slice (some ⟨wr.heap.size, 0, none⟩) ns.length ns.length)
    refine ⟨o1.trans (h4.os.1.trans (hg.os.trans h.bel.os)), o2.trans (h4.os.2.1.trans (hg.tape.trans h.bel.tape)), o3.trans (h4.os.2.2.trans (hg.output.trans h.bel.output)), ?_, fun g hg' => (bk g (by omega) (by omega)).trans (h.bel.block g hg')⟩
    simp only [World.size_setCell, h4.sz]
    have := h.bel.size
    omega
  · simp only [World.size_setCell, h4.sz]; omega
  · exact (bk M (by omega) (by omega)).trans h.res
  · by_cases e : k = i
    · subst e
      refine ⟨wr.heap.size, List.getElem?_set_self (by omega), hsz, by simp only [World.size_setCell, h4.sz]; omega, fun q hq => ?_⟩
      rw [cell_set_far (by simp; omega), hoy.cellAt _ (by omega)]
      exact hy q hq hq
    · obtain ⟨g, e1, e2, e3, e4⟩ := hx k (by omega)
      refine ⟨g, by rw [List.getElem?_set_ne (by omega)]; exact e1, e2, by simp only [World.size_setCell, h4.sz]; omega, fun q hq => ?_⟩
      rw [World.cell?_of_block (a := ⟨g, q, none⟩) (bk g e3 (by omega))]
      exact e4 q hq
structure ZR (pc : Nat) (ns : List NM) (m ml : Bool) (w : World) (e : Ending) (w' : World) : Prop where
  bel : Below w.heap.size w w'
  ex : ∃ P S1 S2 S3 : Nat, e = .returned (.agg #[.slice (some ⟨P, 0, none⟩) pc pc, .slice (some ⟨S1, 0, none⟩) (dist (flat pc ns)).length (dist (flat pc ns)).length, .slice (some ⟨S2, 0, none⟩) (dist (flat pc ns)).length (dist (flat pc ns)).length, .slice (some ⟨S3, 0, none⟩) (dist (flat pc ns)).length (dist (flat pc ns)).length, .int .i64 ((if m then (dist (flat pc ns)).length else 0 : Nat) : Int), .bool ml]) ∧
    P < w'.heap.size ∧ S1 < w'.heap.size ∧ S2 < w'.heap.size ∧ S3 < w'.heap.size ∧
    (∀ k, k < pc → ∃ g, w'.cell? ⟨P, k, none⟩ = some (.slice (some ⟨g, 0, none⟩) ns.length ns.length) ∧ g < w'.heap.size ∧ ∀ q (h : q < ns.length), w'.cell? ⟨g, q, none⟩ = some (.int .u32 ((dist ns).idxOf ns[q] : Nat))) ∧
    (∀ i (h : i < (dist (flat pc ns)).length), w'.cell? ⟨S1, i, none⟩ = some (.string (ba (dist (flat pc ns))[i])) ∧ w'.cell? ⟨S2, i, none⟩ = some (.bool m) ∧ w'.cell? ⟨S3, i, none⟩ = some (.int .u32 ((flat pc ns).count (dist (flat pc ns))[i] : Nat)))
/-- the last world: two cells of the scratch, six of the result -/
def lastW (M N : Nat) (v4 v5 u0 u1 u2 u3 u4 u5 : Value) (w : World) : World := (((((((w.setCell ⟨M, 4, none⟩ v4).setCell ⟨M, 5, none⟩ v5).setCell ⟨N, 0, none⟩ u0).setCell ⟨N, 1, none⟩ u1).setCell ⟨N, 2, none⟩ u2).setCell ⟨N, 3, none⟩ u3).setCell ⟨N, 4, none⟩ u4).setCell ⟨N, 5, none⟩ u5
theorem lastW_far (M N : Nat) (v4 v5 u0 u1 u2 u3 u4 u5 : Value) (w : World) (g : Nat) (h1 : g ≠ M) (h2 : g ≠ N) : (lastW M N v4 v5 u0 u1 u2 u3 u4 u5 w).heap[g]? = w.heap[g]? := by
  unfold lastW
  rw [heap_setCell_other _ _ _ _ (by simpa using h2), heap_setCell_other _ _ _ _ (by simpa using h2), heap_setCell_other _ _ _ _ (by simpa using h2), heap_setCell_other _ _ _ _ (by simpa using h2), heap_setCell_other _ _ _ _ (by simpa using h2), heap_setCell_other _ _ _ _ (by simpa using h2), heap_setCell_other _ _ _ _ (by simpa using h1), heap_setCell_other _ _ _ _ (by simpa using h1)]
theorem lastW_size (M N : Nat) (v4 v5 u0 u1 u2 u3 u4 u5 : Value) (w : World) : (lastW M N v4 v5 u0 u1 u2 u3 u4 u5 w).heap.size = w.heap.size := by simp [lastW]
theorem lastW_os (M N : Nat) (v4 v5 u0 u1 u2 u3 u4 u5 : Value) (w : World) : (lastW M N v4 v5 u0 u1 u2 u3 u4 u5 w).os = w.os ∧ (lastW M N v4 v5 u0 u1 u2 u3 u4 u5 w).tape = w.tape ∧ (lastW M N v4 v5 u0 u1 u2 u3 u4 u5 w).output = w.output := by
  have st : ∀ (x : World) (a : Addr) (u : Value), (x.os = w.os ∧ x.tape = w.tape ∧ x.output = w.output) → ((x.setCell a u).os = w.os ∧ (x.setCell a u).tape = w.tape ∧ (x.setCell a u).output = w.output) := by
    intro x a u hx
    obtain ⟨o1, o2, o3⟩ := os_set x a u
    exact ⟨o1.trans hx.1, o2.trans hx.2.1, o3.trans hx.2.2⟩
  exact st _ _ _ (st _ _ _ (st _ _ _ (st _ _ _ (st _ _ _ (st _ _ _ (st _ _ _ (st _ _ _ ⟨rfl, rfl, rfl⟩)))))))
theorem lastW_N (M N : Nat) (v4 v5 u0 u1 u2 u3 u4 u5 : Value) (w : World) (hMN : N ≠ M) {x0 x1 x2 x3 x4 x5 : Value} {t : TypeId} (h : w.heap[N]? = some (.cells #[x0, x1, x2, x3, x4, x5] t (0, 0))) : (lastW M N v4 v5 u0 u1 u2 u3 u4 u5 w).heap[N]? = some (.cells #[u0, u1, u2, u3, u4, u5] t (0, 0)) := by
  have h0 : ((w.setCell ⟨M, 4, none⟩ v4).setCell ⟨M, 5, none⟩ v5).heap[N]? = some (.cells #[x0, x1, x2, x3, x4, x5] t (0, 0)) := by
    rw [heap_setCell_other _ _ _ _ (by simpa using hMN), heap_setCell_other _ _ _ _ (by simpa using hMN)]
    exact h
  exact heap_setCell_same _ N 5 _ _ u5 (heap_setCell_same _ N 4 _ _ u4 (heap_setCell_same _ N 3 _ _ u3 (heap_setCell_same _ N 2 _ _ u2 (heap_setCell_same _ N 1 _ _ u1 (heap_setCell_same _ N 0 _ _ u0 h0)))))
set_option maxHeartbeats 20000000 in
set_option maxRecDepth 100000 in
theorem zz9 (h13 : H13) (sa : Option Addr) (cap pc : Nat) (ml fg : Bool) (ws ns : List NM) (w : World) (hpc : pc ≤ 255) (hW : WordsAt sa ws w) (hn : ws.length ≤ 4098) (hw : Words ws ns fg) (hws : ∀ n ∈ ws, n.length ≤ 1048576) (hn4 : ns.length ≤ 4096) (hT : Tabs w) (h7 : 7 ≤ w.heap.size) : Calls Tryf.prog 9 #[.slice sa ws.length cap, .int .i64 pc, .bool ml] w fun e w' => ZR pc ns (ml && !fg) ml w e w' := by
  have HH13 := hid h13
  have HWW := hid hw
  have HWS := hid hws
  have HT := hid hT
  clear h13 hw hws hT
  have m82 := mkS 82 84 _ 2 8 Tryf.underlying82 info84 (by decide) pc (by omega)
  have HWA := hid hW
  clear hW
  go_enter Tryf.func9, Tryf.ntmps9
  go_upto_block 0 with fail
  obtain ⟨hs5, hb5, k0, k1, k2, k3, k4⟩ := heap6 w resB mapB mapB mapB (parB w.heap.size ml) (mkO (.agg #[.int .u32 0, .int .u32 0]) (pc * 2) 84)
  have ho5 := mkO_own w.heap.size (.agg #[.int .u32 0, .int .u32 0]) pc 2 84 (((((w.alloc resB).alloc mapB).alloc mapB).alloc mapB).alloc (parB w.heap.size ml)) (by simp; omega) (by omega)
  have hsz4 : (((((w.alloc resB).alloc mapB).alloc mapB).alloc mapB).alloc (parB w.heap.size ml)).heap.size = w.heap.size + 1 + 1 + 1 + 1 + 1 := by simp
  rw [hsz4] at ho5
  clear hsz4 m82
  generalize (((((w.alloc resB).alloc mapB).alloc mapB).alloc mapB).alloc (parB w.heap.size ml)).alloc (mkO (.agg #[.int .u32 0, .int .u32 0]) (pc * 2) 84) = w5 at *
  generalize hPR : w.heap.size + 1 + 1 + 1 + 1 + 1 = PR at *
  generalize hPB : w.heap.size + 1 + 1 + 1 + 1 = PB at *
  have hL0 : L1 w.heap.size PR pc w5 0 w5 := by
    refine ⟨by omega, ⟨rfl, rfl, rfl⟩, fun _ _ _ => rfl, ⟨_, ho5, fun k hk => by omega⟩, ⟨.map [], ?_, CompX.zero _⟩, fun k hk => by omega⟩
    exact ownsMap_of k1
  have q22 : ∀ wx : World, wx.heap[PB]? = w5.heap[PB]? → wx.cell? ⟨PB, 22, none⟩ = some (.map (some (w.heap.size + 1))) := by
    intro wx hx
    rw [World.cell?_of_block (a := ⟨PB, 22, none⟩) hx]
    exact (cellOf (o := 22) k4).trans rfl
  have HL0 := hid hL0
  have HQ := hid q22
  have HK := hid (And.intro k0 (And.intro k2 (And.intro k3 k4)))
  have HB5 := hid hb5
  clear hL0 q22 k0 k1 k2 k3 k4 hb5 ho5
  go_cut [] (fun wx => L1 w.heap.size PR pc w5 pc wx)
  case first =>
    rename_i J KK hJ hKK
    go_wp2_with fail
    go_loopg [9] pc (fun g v9 wx => L1I w.heap.size PR pc w5 g v9 wx)
    case atStart => exact ⟨0, by omega, by first | rfl | simp, HL0.out⟩
    case round =>
      obtain ⟨i, hig, rfl, hL⟩ := hrel.ex
      clear hrel
      cases gk with
      | zero =>
        obtain rfl : i = pc := by omega
        have hcmp : ¬ ((i : Int) < (i : Int)) := by omega
        go_wp2_with fail
        refine Met.intro (hJ _ _ ?_)
        repeat apply Exists.intro
        exact ⟨hL, rfl⟩
      | succ gi =>
        have hi : i < pc := by omega
        have hcmp : (i : Int) < (pc : Int) := by omega
        obtain ⟨xs, ho, hx⟩ := hL.own
        obtain ⟨D, hm, hD⟩ := hL.mp
        have hxl := ho.1
        have c0 : wr.cell? ⟨PR, i * 2, none⟩ = some (xs[i * 2]'(by omega)) := by rw [ho.cellAt _ (by omega)]; exact List.getElem?_eq_getElem (by omega)
        have c1 : wr.cell? ⟨PR, i * 2 + 1, none⟩ = some (xs[i * 2 + 1]'(by omega)) := by rw [ho.cellAt _ (by omega)]; exact List.getElem?_eq_getElem (by omega)
        have f0 : wr.frozen? ⟨PR, i * 2, none⟩ = false := ho.frozenAt _
        have f1 : wr.frozen? ⟨PR, i * 2 + 1, none⟩ = false := ho.frozenAt _
        generalize xs[i * 2]'(by omega) = x0 at c0
        generalize xs[i * 2 + 1]'(by omega) = x1 at c1
        have hcv : IntKind.u32.wrap (i : Int) = i := by rw [IntKind.wrap_u32]; omega
        go_upto_region 7 with fail
        have h1 := ho.stored (i * 2) (.int .u32 1)
        have h2 := h1.1.stored (i * 2 + 1) (.int .u32 i)
        have hsz6 : ((wr.setCell ⟨PR, i * 2, none⟩ (.int .u32 1)).setCell ⟨PR, i * 2 + 1, none⟩ (.int .u32 i)).heap.size = w.heap.size + 6 + i := by simp [hL.sz]
        have hx6 : ∀ k, k < i + 1 → ((xs.set (i * 2) (.int .u32 1)).set (i * 2 + 1) (.int .u32 i))[k * 2]? = some (.int .u32 1) ∧ ((xs.set (i * 2) (.int .u32 1)).set (i * 2 + 1) (.int .u32 i))[k * 2 + 1]? = some (.int .u32 k) := by
          intro k hk
          by_cases e : k = i
          · subst e
            rw [List.getElem?_set_ne (by omega), List.getElem?_set_self (by omega), List.getElem?_set_self (by simp; omega)]
            exact ⟨rfl, rfl⟩
          · rw [List.getElem?_set_ne (by omega), List.getElem?_set_ne (by omega), List.getElem?_set_ne (by omega), List.getElem?_set_ne (by omega)]
            exact hx k (by omega)
        have far : ∀ g, g ≠ PR → ((wr.setCell ⟨PR, i * 2, none⟩ (.int .u32 1)).setCell ⟨PR, i * 2 + 1, none⟩ (.int .u32 i)).heap[g]? = wr.heap[g]? := fun g hg => by
          rw [heap_setCell_other _ _ _ _ (by simpa using hg), heap_setCell_other _ _ _ _ (by simpa using hg)]
        have hm6 : ((wr.setCell ⟨PR, i * 2, none⟩ (.int .u32 1)).setCell ⟨PR, i * 2 + 1, none⟩ (.int .u32 i)).ownsMap Tryf.prog 84 ptrE (w.heap.size + 1) i D := (hm.setCell (a := ⟨PR, i * 2, none⟩) (by simp; omega) _).setCell (a := ⟨PR, i * 2 + 1, none⟩) (by simp; omega) _
        have os6 : ((wr.setCell ⟨PR, i * 2, none⟩ (.int .u32 1)).setCell ⟨PR, i * 2 + 1, none⟩ (.int .u32 i)).os = w5.os ∧ ((wr.setCell ⟨PR, i * 2, none⟩ (.int .u32 1)).setCell ⟨PR, i * 2 + 1, none⟩ (.int .u32 i)).tape = w5.tape ∧ ((wr.setCell ⟨PR, i * 2, none⟩ (.int .u32 1)).setCell ⟨PR, i * 2 + 1, none⟩ (.int .u32 i)).output = w5.output :=
          ⟨(h2.2.os.trans h1.2.os).trans hL.os.1, (h2.2.tape.trans h1.2.tape).trans hL.os.2.1, (h2.2.output.trans h1.2.output).trans hL.os.2.2⟩
        have blk6 : ∀ g, g < w.heap.size + 5 → g ≠ w.heap.size + 1 → ((wr.setCell ⟨PR, i * 2, none⟩ (.int .u32 1)).setCell ⟨PR, i * 2 + 1, none⟩ (.int .u32 i)).heap[g]? = w5.heap[g]? := fun g e1 e2 => (far g (by omega)).trans (hL.blk g e1 e2)
        have co6 : ∀ k, k < i → ((wr.setCell ⟨PR, i * 2, none⟩ (.int .u32 1)).setCell ⟨PR, i * 2 + 1, none⟩ (.int .u32 i)).heap[w.heap.size + 6 + k]? = some compB := fun k hk => (far _ (by omega)).trans (hL.co k hk)
        have ho6 := h2.1
        clear c0 c1 f0 f1 h1 h2 far hx ho hm hL
        generalize (wr.setCell ⟨PR, i * 2, none⟩ (.int .u32 1)).setCell ⟨PR, i * 2 + 1, none⟩ (.int .u32 i) = W6 at *
        generalize (xs.set (i * 2) (.int .u32 1)).set (i * 2 + 1) (.int .u32 i) = ys at *
        have hyl := ho6.1
        have c0 : W6.cell? ⟨PR, i * 2, none⟩ = some (.int .u32 1) := by rw [ho6.cellAt _ (by omega)]; exact (hx6 i (by omega)).1
        have c1 : W6.cell? ⟨PR, i * 2 + 1, none⟩ = some (.int .u32 i) := by rw [ho6.cellAt _ (by omega)]; exact (hx6 i (by omega)).2
        have c22 := HQ.out W6 (blk6 PB (by omega) (by omega))
        have hPBl : PB < W6.heap.size := by omega
        have hPRl : PR < W6.heap.size := by omega
        obtain ⟨w8, hr8, hm8, ht8⟩ := ((hm6.alloc compB).drew).store keyed84 Tryf.underlying39 (by unfold maxLen; omega) (kl_key i (by omega)) (ptrE_mk W6.heap.size)
        have hg8 := ht8.grown
        have hs8 : w8.heap.size = w.heap.size + 6 + i + 1 := by
          obtain ⟨_, _, _, _, _, e⟩ := ht8
          rw [e]
          simp [setBlock, hsz6]
        have hL8 : L1 w.heap.size PR pc w5 (i + 1) w8 := by
          have hb8 : ∀ g, g < W6.heap.size → g ≠ w.heap.size + 1 → w8.heap[g]? = W6.heap[g]? := fun g e1 e2 => (hg8.block g (by simp; omega) (by simpa using e2)).trans ((World.grownBy_alloc W6 compB none).block g e1 (by simp))
          refine ⟨?_, ⟨hg8.os.trans os6.1, hg8.tape.trans os6.2.1, hg8.output.trans os6.2.2⟩, fun g e1 e2 => (hb8 g (by omega) e2).trans (blk6 g e1 e2), ⟨ys, ?_, hx6⟩, ⟨_, hm8, ?_⟩, fun k hk => ?_⟩
          · omega
          · refine (((ho6.alloc compB).drew).kept hg8 (Or.inr ?_))
            simp [Value.ownBlock]
            omega
          · have := hD.snoc (by omega)
            rwa [hsz6]
          · by_cases e : k = i
            · subst e
              rw [hg8.block _ (by simp [hsz6]) (by simp; omega)]
              have := (MapKept.heap_alloc W6 compB).1
              rw [hsz6] at this
              exact this
            · exact (hb8 _ (by omega) (by omega)).trans (co6 k (by omega))
        have HR8 := hid hr8
        have HL8 := hid hL8
        clear hsz6 hm8 hg8 ht8 hs8 hL8 hx6 hm6 os6 blk6 co6 ho6 hyl hr8
        have hr9 := HR8.out
        have hw1 : IntKind.i64.wrap ((i : Int) + 1) = ((i + 1 : Nat) : Int) := by rw [IntKind.wrap_i64]; omega
        go_region
        clear hr9 c0 c1 c22
        go_wp2_with fail
        go_roundg gi
        case measure => omega
        case rel => exact ⟨i + 1, by omega, by simp, HL8.out⟩
  case rest =>
    generalize wc = wa at *
    have HL := hid hcut
    clear hcut HL0
    have m90 := mkS 90 95 _ 7 40 Tryf.underlying90 info95 (by decide) ws.length (by omega)
    go_upto_block 2 with fail
    have hTBs := HL.out.sz
    have ho9 := mkO_own w.heap.size (.agg #[.pointer none, .string ⟨#[]⟩, .int .i32 0, .int .u32 0, .int .u16 0, .int .u8 0, .int .u8 0]) ws.length 7 95 wa (by omega) (by omega)
    have hb9 : ∀ g, g < wa.heap.size → (wa.alloc (mkO (.agg #[.pointer none, .string ⟨#[]⟩, .int .i32 0, .int .u32 0, .int .u16 0, .int .u8 0, .int .u8 0]) (ws.length * 7) 95)).heap[g]? = wa.heap[g]? := fun g hg => (World.grownBy_alloc wa _ none).block g hg (by simp)
    have hs9 : (wa.alloc (mkO (.agg #[.pointer none, .string ⟨#[]⟩, .int .i32 0, .int .u32 0, .int .u16 0, .int .u8 0, .int .u8 0]) (ws.length * 7) 95)).heap.size = wa.heap.size + 1 := by simp
    have hos9 : (wa.alloc (mkO (.agg #[.pointer none, .string ⟨#[]⟩, .int .i32 0, .int .u32 0, .int .u16 0, .int .u8 0, .int .u8 0]) (ws.length * 7) 95)).os = wa.os ∧ (wa.alloc (mkO (.agg #[.pointer none, .string ⟨#[]⟩, .int .i32 0, .int .u32 0, .int .u16 0, .int .u8 0, .int .u8 0]) (ws.length * 7) 95)).tape = wa.tape ∧ (wa.alloc (mkO (.agg #[.pointer none, .string ⟨#[]⟩, .int .i32 0, .int .u32 0, .int .u16 0, .int .u8 0, .int .u8 0]) (ws.length * 7) 95)).output = wa.output := ⟨rfl, rfl, rfl⟩
    generalize wa.alloc (mkO (.agg #[.pointer none, .string ⟨#[]⟩, .int .i32 0, .int .u32 0, .int .u16 0, .int .u8 0, .int .u8 0]) (ws.length * 7) 95) = w9 at *
    generalize hTB : wa.heap.size = TB at *
    clear m90
    have hbr : ∀ g, g < w.heap.size → w9.heap[g]? = w.heap[g]? := fun g hg => ((hb9 g (by omega)).trans (HL.out.blk g (by omega) (by omega))).trans (HB5.out.block g hg)
    have HTB := hid (show TB = w.heap.size + 6 + pc by omega)
    have hTBg : w.heap.size + 6 ≤ TB := by omega
    have HS9 := hid hs9
    have HL9 := hid (show L2 w.heap.size TB ws w9 0 w9 from ⟨rfl, ⟨rfl, rfl, rfl⟩, fun _ _ => rfl, _, ho9, ⟨fun j hj => by omega⟩⟩)
    have HBR := hid hbr
    have HB9 := hid hb9
    have HO9 := hid hos9
    clear ho9 hbr hb9 hos9 hTBs hs9 hTB
    go_cut [] (fun wx => L2 w.heap.size TB ws w9 ws.length wx)
    case first =>
      rename_i J KK hJ hKK
      go_wp2_with fail
      go_loopg [11] ws.length (fun g v11 wx => L2I w.heap.size TB ws w9 g v11 wx)
      case atStart => exact ⟨0, by omega, by first | rfl | simp, HL9.out⟩
      case round =>
        obtain ⟨j, hjg, rfl, hL2⟩ := hrel.ex
        clear hrel
        cases gk with
        | zero =>
          have hje : j = ws.length := by omega
          have hcmp : ¬ ((j : Int) < (ws.length : Int)) := by omega
          have HZ := hid (show L2 w.heap.size TB ws w9 ws.length wr from hje ▸ hL2)
          clear hjg hje hL2
          go_wp2_with fail
          refine Met.intro (hJ _ _ ?_)
          repeat apply Exists.intro
          exact ⟨HZ.out, rfl⟩
        | succ gi =>
          have hj : j < ws.length := by omega
          have hcmp : (j : Int) < (ws.length : Int) := by omega
          obtain ⟨xs, ho, hx⟩ := hL2.own
          have hxl := ho.1
          obtain ⟨g, o, rfl, hgl, hgc⟩ := HWA.out.ex j hj
          have q0 : wr.cell? ⟨g, o + j, none⟩ = some (.string (ba ws[j])) := (World.cell?_of_block (a := ⟨g, o + j, none⟩) ((hL2.blk g (by omega)).trans (HBR.out g hgl))).trans hgc
          have cl : ∀ t, t < 7 → ∃ x, wr.cell? ⟨TB, j * 7 + t, none⟩ = some x := fun t ht => ⟨_, by rw [ho.cellAt _ (by omega)]; exact List.getElem?_eq_getElem (by omega)⟩
          obtain ⟨x0, c0⟩ := cl 0 (by omega)
          obtain ⟨x1, c1⟩ := cl 1 (by omega)
          obtain ⟨x2, c2⟩ := cl 2 (by omega)
          obtain ⟨x3, c3⟩ := cl 3 (by omega)
          obtain ⟨x4, c4⟩ := cl 4 (by omega)
          obtain ⟨x5, c5⟩ := cl 5 (by omega)
          obtain ⟨x6, c6⟩ := cl 6 (by omega)
          rw [Nat.add_zero] at c0
          have fz : ∀ o, wr.frozen? ⟨TB, o, none⟩ = false := fun o => ho.frozenAt o
          have hX' := hx.snoc hxl hj
          obtain ⟨nm, hnm⟩ : ∃ nm, ws[j] = nm := ⟨_, rfl⟩
          rw [hnm] at q0 hX'
          have hLn : L2 w.heap.size TB ws w9 (j + 1) (((((((wr.setCell ⟨TB, j * 7, none⟩ (.pointer none)).setCell ⟨TB, j * 7 + 1, none⟩ (.string (ba nm))).setCell ⟨TB, j * 7 + 2, none⟩ (.int .i32 0)).setCell ⟨TB, j * 7 + 3, none⟩ (.int .u32 0)).setCell ⟨TB, j * 7 + 4, none⟩ (.int .u16 0)).setCell ⟨TB, j * 7 + 5, none⟩ (.int .u8 29)).setCell ⟨TB, j * 7 + 6, none⟩ (.int .u8 0)) := by
            refine ⟨?_, ?_, fun q hq => (far7 hq _ _ _ _ _ _ _).trans (hL2.blk q hq), _, own7 ho _ _ _ _ _ _ _ _, hX'⟩
            · simp only [World.size_setCell]; exact hL2.sz
            · exact os7 _ _ _ _ _ _ _ hL2.os
          have HLN := hid hLn
          clear hL2 ho hx cl hX' hnm hLn hgc
          have hw1 : IntKind.i64.wrap ((j : Int) + 1) = ((j + 1 : Nat) : Int) := by rw [IntKind.wrap_i64]; omega
          go_wp2_with fail
          go_roundg gi
          case measure => omega
          case rel => exact ⟨j + 1, by omega, by simp, HLN.out⟩
    case rest =>
      have HL2 := hid hcut
      clear hcut HL9
      go_upto_region 13 with fail
      obtain rfl : PR = w.heap.size + 5 := by omega
      obtain rfl : PB = w.heap.size + 4 := by omega
      obtain rfl : TB = w.heap.size + 6 + pc := HTB.out
      obtain ⟨k0, k2, k3, k4⟩ := HK.out
      have hsz := HL2.out.sz.trans HS9.out
      have bkW : ∀ g, g < w.heap.size + 6 + pc → wc.heap[g]? = wa.heap[g]? := fun g hg => (HL2.out.blk g (by omega)).trans (HB9.out g (by omega))
      have hPre := mkPre (ml := ml) HL.out k2 k3 k4 bkW hsz h7 hpc
      have hTk := mkToks HL2.out rfl (by omega)
      have hBw : Below w.heap.size w wc := by
        refine ⟨(HL2.out.os.1.trans HO9.out.1).trans (HL.out.os.1.trans HB5.out.os), (HL2.out.os.2.1.trans HO9.out.2.1).trans (HL.out.os.2.1.trans HB5.out.tape), (HL2.out.os.2.2.trans HO9.out.2.2).trans (HL.out.os.2.2.trans HB5.out.output), by omega, fun g hg => (HL2.out.blk g (by omega)).trans (HBR.out g hg)⟩
      have hTb := HT.out.below hBw
      have hN0 : wc.heap[w.heap.size]? = some resB := (bkW _ (by omega)).trans ((HL.out.blk _ (by omega) (by omega)).trans k0)
      have hPr := hPre.pr
      obtain ⟨nD, D, hmD, hD⟩ := hPre.mc
      have C13 := hid (HH13.out w.heap.size pc ws ns fg ml wc HWW.out hTk hTb HWS.out (by omega) hPre hn4)
      have HBW := hid hBw
      have HN0 := hid hN0
      have HPR := hid hPr
      have HMD := hid hmD
      have HD := hid hD
      clear hPre hTk hTb k0 k2 k3 k4 HL HL2 HO9 HBR HB9 HS9 HK HQ hBw hN0 hPr hmD hD bkW HTB hTBg HB5 hs5
      go_wp2_with fail
      refine C13.out.mono ?_
      rintro e W3 ⟨rfl, hos, hsz3, hblk, hex⟩
      have HSR := hid (mkSrc hsz hsz3 hblk HPR.out HMD.out HD.out hex)
      have hBw3 : Below w.heap.size w W3 := by
        refine ⟨hos.1.trans HBW.out.os, hos.2.1.trans HBW.out.tape, hos.2.2.trans HBW.out.output, Nat.le_trans HBW.out.size hsz3, fun g hg => (hblk g (by omega) (by omega) (by omega) (by omega) (fun k hk => by omega)).trans (HBW.out.block g hg)⟩
      have hN3 : W3.heap[w.heap.size]? = some resB := (hblk _ (by omega) (by omega) (by omega) (by omega) (fun k hk => by omega)).trans HN0.out
      have HB3 := hid hBw3
      have HN3 := hid hN3
      have hM : w.heap.size + 6 + pc < W3.heap.size := by omega
      clear hex hblk hos hsz hsz3 HPR HMD HD HBW HN0 hBw3 hN3 C13 hPB hPR
      have m27 := mkS 27 29 _ 1 24 Tryf.underlying27 info29 (by decide) pc (by omega)
      go_upto_block 4 with fail
      have hM0 : R3 w.heap.size pc W3.heap.size ns (ml && !fg) ml W3 0 ((W3.alloc (resP W3.heap.size pc)).alloc (mkO (.slice none 0 0) pc 29)) := by
        have b1 : ∀ g, g < W3.heap.size + 1 → ((W3.alloc (resP W3.heap.size pc)).alloc (mkO (.slice none 0 0) pc 29)).heap[g]? = (W3.alloc (resP W3.heap.size pc)).heap[g]? := fun g hg => (World.grownBy_alloc _ _ none).block g (by simp; omega) (by simp)
        have b2 : ∀ g, g < W3.heap.size → (W3.alloc (resP W3.heap.size pc)).heap[g]? = W3.heap[g]? := fun g hg => (World.grownBy_alloc _ _ none).block g hg (by simp)
        refine ⟨HSR.out.below (fun g hg => (b1 g (by omega)).trans (b2 g hg)), ((Below.refl _ _).alloc (Nat.le_refl _) _).alloc (by simp) _, by simp, (b1 _ (by omega)).trans (MapKept.heap_alloc W3 _).1, ?_⟩
        have := mkO_own W3.heap.size (.slice none 0 0) pc 1 29 (W3.alloc (resP W3.heap.size pc)) (by simp) (by omega)
        rw [Nat.mul_one] at this
        simp only [World.size_alloc] at this
        exact ⟨_, this, fun k hk => by omega⟩
      generalize ((W3.alloc (resP W3.heap.size pc)).alloc (mkO (.slice none 0 0) pc 29)) = W4 at *
      generalize W3.heap.size = M at *
      have HM0 := hid hM0
      clear hM0 m27 HSR
      have m29 := mkS 29 34 _ 1 4 Tryf.underlying29 info34 (by decide) ns.length (by omega)
      have M29 := hid m29
      clear m29
      go_cut [] (fun wx => R3 w.heap.size pc M ns (ml && !fg) ml W3 pc wx)
      case first =>
        rename_i J KK hJ hKK
        go_wp2_with fail
        go_loopg [13] pc (fun g v13 wx => R3I w.heap.size pc M ns (ml && !fg) ml W3 g v13 wx)
        case atStart => exact ⟨0, by omega, by first | rfl | simp, HM0.out⟩
        case round =>
          obtain ⟨i, hig, rfl, hR⟩ := hrel.ex
          clear hrel
          cases gk with
          | zero =>
            obtain rfl : i = pc := by omega
            have hcmp : ¬ ((i : Int) < (i : Int)) := by omega
            have HZ := hid hR
            clear hR hig
            go_wp2_with fail
            refine Met.intro (hJ _ _ ?_)
            repeat apply Exists.intro
            exact ⟨HZ.out, rfl⟩
          | succ go =>
            have hi : i < pc := by omega
            have hcmp : (i : Int) < (pc : Int) := by omega
            obtain ⟨q0, q1⟩ := hR.src.pr i hi
            have q22 := hR.src.c22
            obtain ⟨nD, D, hmD, hD⟩ := hR.src.mc
            have lk := hid (look39 (w := wr.drew) hmD.drew hD i hi hpc)
            have HR := hid hR
            clear hR hmD hD
            go_upto_region 19 with fail
            have lk2 := lk.out
            go_region
            clear lk lk2 q0 q1 q22
            have HRd := hid HR.out.drew
            clear HR
            generalize wr.drew = wd at *
            obtain ⟨r, cap5, c5, hcells⟩ := HRd.out.src.nm i hi
            have HCL := hid hcells
            have m29 := M29.out
            clear hcells
            go_wp2_with fail
            have hgr := World.grownBy_alloc wd (mkO (.int .u32 0) (ns.length * 1) 34) none
            have hsg : (wd.alloc (mkO (.int .u32 0) (ns.length * 1) 34)).heap.size = wd.heap.size + 1 := by simp
            have hog := mkO_own M (.int .u32 0) ns.length 1 34 wd (by have := HRd.out.sz; omega) (by omega)
            rw [Nat.mul_one] at hgr hsg hog
            clear m29
            generalize wd.alloc (mkO (.int .u32 0) ns.length 34) = wg at *
            generalize hG : wd.heap.size = G at *
            have H40 := hid (show R4 G M ns wg 0 wg from ⟨rfl, ⟨rfl, rfl, rfl⟩, fun _ _ => rfl, _, hog, fun q hq hq0 => by omega⟩)
            have HGR := hid hgr
            have HSG := hid hsg
            have HG := hid hG
            have hNG : w.heap.size + 6 + i ≠ G := by have := HRd.out.sz; have := HRd.out.src.lt; omega
            have hMG : M ≠ G ∧ M + 1 ≠ G := by have := HRd.out.sz; omega
            clear hog hgr hsg hG
            go_loopg [16] ns.length (fun g v16 wx => R4I G M ns wg g v16 wx)
            case atStart => exact ⟨0, by omega, by first | rfl | simp, H40.out⟩
            case round =>
              obtain ⟨k, hkg, rfl, hR4⟩ := hrel.ex
              clear hrel H40
              have c5r : wr.cell? ⟨w.heap.size + 6 + i, 0, none⟩ = some (.slice r ns.length cap5) := by
                rw [World.cell?_of_block (a := ⟨w.heap.size + 6 + i, 0, none⟩) ((hR4.blk _ hNG).trans (HGR.out.block _ (by have := HG.out; have := HRd.out.sz; have := HRd.out.src.lt; omega) (by simp)))]
                exact c5
              have bkd : ∀ g, g < wd.heap.size → wr.heap[g]? = wd.heap[g]? := fun g hg => (hR4.blk g (by have := HG.out; omega)).trans (HGR.out.block g hg (by simp))
              cases gk with
              | zero =>
                have hke : k = ns.length := by omega
                have hcj : ¬ ((k : Int) < (ns.length : Int)) := by omega
                have hsd := HRd.out.sz
                have cM : wr.cell? ⟨M, 0, none⟩ = some (.slice (some ⟨M + 1, 0, none⟩) pc pc) := by
                  rw [World.cell?_of_block (a := ⟨M, 0, none⟩) (bkd M (by omega))]
                  exact (cellOf HRd.out.res).trans rfl
                obtain ⟨xs, hox, hxx⟩ := HRd.out.own
                have hxl := hox.1
                have cP : ∃ x, wr.cell? ⟨M + 1, i, none⟩ = some x := ⟨xs[i]'(by omega), by
                  rw [World.cell?_of_block (a := ⟨M + 1, i, none⟩) (bkd (M + 1) (by omega)), hox.cellAt _ (by omega)]
                  exact List.getElem?_eq_getElem (by omega)⟩
                obtain ⟨x, cP⟩ := cP
                have fP : wr.frozen? ⟨M + 1, i, none⟩ = false := by
                  rw [World.frozen?_of_block (a := ⟨M + 1, i, none⟩) (bkd (M + 1) (by omega))]
                  exact hox.frozenAt _
                have HS := hid (R3.step HRd.out hi HG.out.symm HGR.out (by rw [HG.out]; exact HSG.out) (hke ▸ hR4))
                have hw1 : IntKind.i64.wrap ((i : Int) + 1) = ((i + 1 : Nat) : Int) := by rw [IntKind.wrap_i64]; omega
                clear hkg hke hR4 bkd hox hxx hxl hsd
                go_wp2_with fail
                go_roundg go
                case measure => omega
                case rel => exact ⟨i + 1, by omega, by simp, HS.out⟩
              | succ gi =>
                have hk : k < ns.length := by omega
                have hcj : (k : Int) < (ns.length : Int) := by omega
                obtain ⟨g, rfl, hgM, hgc⟩ := HCL.out k hk
                have hsd := HRd.out.sz
                have q3 : wr.cell? ⟨g, k * 3 + 2, none⟩ = some (.int .u32 ((dist ns).idxOf ns[k] : Nat)) := (World.cell?_of_block (a := ⟨g, k * 3 + 2, none⟩) (bkd g (by omega))).trans hgc
                obtain ⟨ys, hoy, hyy⟩ := hR4.own
                have hyl := hoy.1
                have cG : ∃ x, wr.cell? ⟨G, k, none⟩ = some x := ⟨ys[k]'(by omega), by
                  rw [hoy.cellAt _ (by omega)]
                  exact List.getElem?_eq_getElem (by omega)⟩
                obtain ⟨x, cG⟩ := cG
                have fG : wr.frozen? ⟨G, k, none⟩ = false := hoy.frozenAt _
                have HS := hid (hR4.step hk)
                have hw1 : IntKind.i64.wrap ((k : Int) + 1) = ((k + 1 : Nat) : Int) := by rw [IntKind.wrap_i64]; omega
                clear hR4 bkd hoy hyy hyl hsd hgc
                obtain ⟨I, hI⟩ : ∃ I, ((dist ns).idxOf ns[k] : Nat) = I := ⟨_, rfl⟩
                rw [hI] at q3 HS
                clear hI
                go_wp2_with fail
                go_roundg gi
                case measure => omega
                case rel => exact ⟨k + 1, by omega, by simp, HS.out⟩
      case rest =>
        have HR := hid hcut
        clear hcut HM0 M29
        obtain ⟨rs, caps, c21, hsy⟩ := HR.out.src.sy
        have hnn := dist_len (flat pc ns)
        have hfl := flat_length pc ns
        have hpn : pc * ns.length ≤ 255 * 4096 := Nat.mul_le_mul hpc hn4
        obtain ⟨n, hne⟩ : ∃ n, (dist (flat pc ns)).length = n := ⟨_, rfl⟩
        have hn2 : n ≤ 2000000 := by omega
        have m22 := mkS 22 9 _ 1 16 Tryf.underlying22 info9 (by decide) n hn2
        have m28 := mkS 28 4 _ 1 1 Tryf.underlying28 info4 (by decide) n hn2
        have m29 := mkS 29 34 _ 1 4 Tryf.underlying29 info34 (by decide) n hn2
        rw [hne] at c21
        have hMs := HR.out.sz
        have hr0 := HR.out.res
        obtain ⟨a0, a1, a2, a3, a4, a5, a6⟩ := cells6 hr0
        have hp4 : w.heap.size + 4 < wc.heap.size := by omega
        have hMl : M < wc.heap.size := by omega
        have hM4 : w.heap.size + 4 ≠ M := by omega
        have hMl1 : M < wc.heap.size + 1 := by omega
        have hMl2 : M < wc.heap.size + 1 + 1 := by omega
        have hMl3 : M < wc.heap.size + 1 + 1 + 1 := by omega
        have hp41 : w.heap.size + 4 < wc.heap.size + 1 := by omega
        have hp42 : w.heap.size + 4 < wc.heap.size + 1 + 1 := by omega
        go_upto_block 8 with fail
        clear m22 m28 m29 a0 a1 a2 a3 a4 a5 a6
        have hW5 : R5W w.heap.size pc M wc.heap.size n ns (ml && !fg) ml wc ((((((wc.setCell ⟨M, 1, none⟩ (.slice (some ⟨wc.heap.size, 0, none⟩) n n)).setCell ⟨M, 2, none⟩ (.slice (some ⟨wc.heap.size + 1, 0, none⟩) n n)).setCell ⟨M, 3, none⟩ (.slice (some ⟨wc.heap.size + 1 + 1, 0, none⟩) n n)).alloc (mkO (.string ⟨#[]⟩) n 9)).alloc (mkO (.bool false) n 4)).alloc (mkO (.int .u32 0) n 34)) := mkR5W HR.out hn2
        generalize (((((wc.setCell ⟨M, 1, none⟩ (.slice (some ⟨wc.heap.size, 0, none⟩) n n)).setCell ⟨M, 2, none⟩ (.slice (some ⟨wc.heap.size + 1, 0, none⟩) n n)).setCell ⟨M, 3, none⟩ (.slice (some ⟨wc.heap.size + 1 + 1, 0, none⟩) n n)).alloc (mkO (.string ⟨#[]⟩) n 9)).alloc (mkO (.bool false) n 4)).alloc (mkO (.int .u32 0) n 34) = w5' at *
        have hGM : M + 1 < wc.heap.size := hMs
        have hBel : Below M W3 wc := HR.out.bel
        have hNM := HR.out.src.lt
        obtain ⟨xsP, hoP, hxP⟩ := HR.out.own
        have HXP := hid (And.intro hoP hxP)
        have HBL := hid hBel
        have HW5 := hid hW5
        generalize hGG : wc.heap.size = G at *
        generalize wc = wp at *
        generalize hmm : (ml && !fg) = m at *
        clear hoP hxP hBel hW5 hr0 HR hMs hp4 hMl hMl1 hMl2 hMl3 hp41 hp42
        go_cut [] (fun wx => R5 M G n (flat pc ns) m w5' n wx)
        case first =>
          rename_i J KK hJ hKK
          go_wp2_with fail
          go_loopg [17] n (fun g v17 wx => R5I M G n (flat pc ns) m w5' g v17 wx)
          case atStart => exact ⟨0, by omega, by first | rfl | simp, HW5.out.r5⟩
          case round =>
            obtain ⟨j, hjg, rfl, h5⟩ := hrel.ex
            clear hrel
            have bk : ∀ g, g < G → wr.heap[g]? = w5'.heap[g]? := fun g hg => h5.blk g (by omega) (by omega) (by omega)
            have c21r : wr.cell? ⟨w.heap.size + 4, 21, none⟩ = some (.slice rs n caps) := by
              obtain ⟨r', cap', e1, _⟩ := HW5.out.src.sy
              rw [World.cell?_of_block (a := ⟨w.heap.size + 4, 21, none⟩) ((bk (w.heap.size + 4) (by omega)).trans (HW5.out.bel (w.heap.size + 4) (by omega) (by omega)))]
              exact c21
            cases gk with
            | zero =>
              have hje : j = n := by omega
              have hcmp : ¬ ((j : Int) < (n : Int)) := by omega
              have HZ := hid (show R5 M G n (flat pc ns) m w5' n wr from hje ▸ h5)
              clear hjg hje h5 bk
              go_wp2_with fail
              refine Met.intro (hJ _ _ ?_)
              repeat apply Exists.intro
              exact ⟨HZ.out, rfl⟩
            | succ gi =>
              have hj : j < (dist (flat pc ns)).length := by omega
              have hcmp : (j : Int) < (n : Int) := by omega
              obtain ⟨a0, a1, a2, a3, a4, a5, a6⟩ := cells6 ((bk M (by omega)).trans HW5.out.res)
              obtain ⟨g, rfl, hgM, s1, s2, s3⟩ := hsy j hj
              have bg : wr.heap[g]? = wp.heap[g]? := (bk g (by omega)).trans (HW5.out.bel g (by omega) (by omega))
              have t1 : wr.cell? ⟨g, j * 10 + 1, none⟩ = some (.string (ba (dist (flat pc ns))[j])) := (World.cell?_of_block (a := ⟨g, j * 10 + 1, none⟩) bg).trans s1
              have t2 : wr.cell? ⟨g, j * 10 + 4, none⟩ = some (.int .u32 ((flat pc ns).count (dist (flat pc ns))[j] : Nat)) := (World.cell?_of_block (a := ⟨g, j * 10 + 4, none⟩) bg).trans s2
              have t3 : wr.cell? ⟨g, j * 10 + 8, none⟩ = some (.int .u8 (if m then 26 else 25)) := (World.cell?_of_block (a := ⟨g, j * 10 + 8, none⟩) bg).trans s3
              obtain ⟨x1, o1, e1⟩ := h5.o1
              obtain ⟨x2, o2, e2⟩ := h5.o2
              obtain ⟨x3, o3, e3⟩ := h5.o3
              have ex1 : ∃ x, wr.cell? ⟨G, j, none⟩ = some x := ⟨x1[j]'(by have := o1.1; omega), by rw [o1.cellAt _ (by omega)]; exact List.getElem?_eq_getElem _⟩
              have ex2 : ∃ x, wr.cell? ⟨G + 1, j, none⟩ = some x := ⟨x2[j]'(by have := o2.1; omega), by rw [o2.cellAt _ (by omega)]; exact List.getElem?_eq_getElem _⟩
              have ex3 : ∃ x, wr.cell? ⟨G + 1 + 1, j, none⟩ = some x := ⟨x3[j]'(by have := o3.1; omega), by rw [o3.cellAt _ (by omega)]; exact List.getElem?_eq_getElem _⟩
              obtain ⟨y1, ex1⟩ := ex1
              obtain ⟨y2, ex2⟩ := ex2
              obtain ⟨y3, ex3⟩ := ex3
              have f1 : wr.frozen? ⟨G, j, none⟩ = false := o1.frozenAt _
              have f2 : wr.frozen? ⟨G + 1, j, none⟩ = false := o2.frozenAt _
              have f3 : wr.frozen? ⟨G + 1 + 1, j, none⟩ = false := o3.frozenAt _
              have HS := hid (h5.step hne hj)
              have n1 : M ≠ G := by omega
              have n2 : M ≠ G + 1 := by omega
              have n3 : w.heap.size + 4 ≠ G := by omega
              have n4 : w.heap.size + 4 ≠ G + 1 := by omega
              have n5 : g ≠ G := by omega
              have n6 : g ≠ G + 1 := by omega
              have hjn : j < n := by omega
              have hkd : ((if m = true then (26 : Int) else 25) == 26) = m := by cases m <;> rfl
              generalize (if m = true then (26 : Int) else 25) = kd at *
              obtain ⟨nm, hnm⟩ : ∃ nm, (dist (flat pc ns))[j] = nm := ⟨_, rfl⟩
              rw [hnm] at t1 t2 HS
              obtain ⟨ct, hct⟩ : ∃ ct, (flat pc ns).count nm = ct := ⟨_, rfl⟩
              rw [hct] at t2 HS
              have hw1 : IntKind.i64.wrap ((j : Int) + 1) = ((j + 1 : Nat) : Int) := by rw [IntKind.wrap_i64]; omega
              clear hnm hct h5 bk bg o1 o2 o3 e1 e2 e3 s1 s2 s3 a0 a4 a5
              go_wp2_with fail
              go_region
              go_wp2_with fail
              go_region
              go_wp2_with fail
              go_region
              go_wp2_with fail
              go_roundg gi
              case measure => omega
              case rel => exact ⟨j + 1, by omega, by simp, HS.out⟩
        case rest =>
          have h5 := hcut
          have bk : ∀ g, g < G → wc.heap[g]? = w5'.heap[g]? := fun g hg => h5.blk g (by omega) (by omega) (by omega)
          obtain ⟨a0, a1, a2, a3, a4, a5, a6⟩ := cells6 ((bk M (by omega)).trans HW5.out.res)
          obtain ⟨r2, cap2, hlo⟩ := HW5.out.src.lo
          have b4 := bk (w.heap.size + 4) (by omega)
          have c23 : wc.cell? ⟨w.heap.size + 4, 23, none⟩ = some (.slice r2 (if m then (dist (flat pc ns)).length else 0) cap2) := (World.cell?_of_block (a := ⟨w.heap.size + 4, 23, none⟩) b4).trans hlo
          have c54 : wc.cell? ⟨w.heap.size + 4, 54, none⟩ = some (.bool ml) := (World.cell?_of_block (a := ⟨w.heap.size + 4, 54, none⟩) b4).trans HW5.out.src.c54
          have hN : wc.heap[w.heap.size]? = some resB := (bk w.heap.size (by omega)).trans ((HW5.out.bel w.heap.size (by omega) (by omega)).trans ((HBL.out.block w.heap.size (by omega)).trans HN3.out))
          obtain ⟨n0, n1, n2, n3, n4, n5, n6⟩ := cells6 hN
          have hNM' : w.heap.size ≠ M := by omega
          obtain ⟨nl, hnl⟩ : ∃ nl, (if m then (dist (flat pc ns)).length else 0) = nl := ⟨_, rfl⟩
          rw [hnl] at c23
          have hZ : ZR pc ns m ml w (.returned (.agg #[.slice (some ⟨M + 1, 0, none⟩) pc pc, .slice (some ⟨G, 0, none⟩) n n, .slice (some ⟨G + 1, 0, none⟩) n n, .slice (some ⟨G + 1 + 1, 0, none⟩) n n, .int .i64 (nl : Int), .bool ml])) (lastW M w.heap.size (.int .i64 (nl : Int)) (.bool ml) (.slice (some ⟨M + 1, 0, none⟩) pc pc) (.slice (some ⟨G, 0, none⟩) n n) (.slice (some ⟨G + 1, 0, none⟩) n n) (.slice (some ⟨G + 1 + 1, 0, none⟩) n n) (.int .i64 (nl : Int)) (.bool ml) wc) := by
            have fw := lastW_far M w.heap.size (.int .i64 (nl : Int)) (.bool ml) (.slice (some ⟨M + 1, 0, none⟩) pc pc) (.slice (some ⟨G, 0, none⟩) n n) (.slice (some ⟨G + 1, 0, none⟩) n n) (.slice (some ⟨G + 1 + 1, 0, none⟩) n n) (.int .i64 (nl : Int)) (.bool ml) wc
            have sw := lastW_size M w.heap.size (.int .i64 (nl : Int)) (.bool ml) (.slice (some ⟨M + 1, 0, none⟩) pc pc) (.slice (some ⟨G, 0, none⟩) n n) (.slice (some ⟨G + 1, 0, none⟩) n n) (.slice (some ⟨G + 1 + 1, 0, none⟩) n n) (.int .i64 (nl : Int)) (.bool ml) wc
            have ow := lastW_os M w.heap.size (.int .i64 (nl : Int)) (.bool ml) (.slice (some ⟨M + 1, 0, none⟩) pc pc) (.slice (some ⟨G, 0, none⟩) n n) (.slice (some ⟨G + 1, 0, none⟩) n n) (.slice (some ⟨G + 1 + 1, 0, none⟩) n n) (.int .i64 (nl : Int)) (.bool ml) wc
            generalize lastW M w.heap.size (.int .i64 (nl : Int)) (.bool ml) (.slice (some ⟨M + 1, 0, none⟩) pc pc) (.slice (some ⟨G, 0, none⟩) n n) (.slice (some ⟨G + 1, 0, none⟩) n n) (.slice (some ⟨G + 1 + 1, 0, none⟩) n n) (.int .i64 (nl : Int)) (.bool ml) wc = Wl at *
            have hs5 : Wl.heap.size = G + 3 := by rw [sw, h5.sz]; exact HW5.out.sz
            obtain ⟨x1, o1, e1⟩ := h5.o1
            obtain ⟨x2, o2, e2⟩ := h5.o2
            obtain ⟨x3, o3, e3⟩ := h5.o3
            obtain ⟨oP, hxP⟩ := HXP.out
            refine ⟨⟨?_, ?_, ?_, ?_, fun g hg => ?_⟩, M + 1, G, G + 1, G + 1 + 1, ?_, by omega, by omega, by omega, by omega, fun k hk => ?_, fun i hi => ⟨?_, ?_, ?_⟩⟩
            · exact ow.1.trans (h5.os.1.trans (HW5.out.os.1.trans (HBL.out.os.trans HB3.out.os)))
            · exact ow.2.1.trans (h5.os.2.1.trans (HW5.out.os.2.1.trans (HBL.out.tape.trans HB3.out.tape)))
            · exact ow.2.2.trans (h5.os.2.2.trans (HW5.out.os.2.2.trans (HBL.out.output.trans HB3.out.output)))
            · omega
            · rw [fw g (by omega) (by omega), bk g (by omega), HW5.out.bel g (by omega) (by omega), HBL.out.block g (by omega)]
              exact HB3.out.block g hg
            · rw [hnl, hne]
            · obtain ⟨g, e, hg1, hg2, hg3⟩ := hxP k hk
              have hlP := oP.1
              have bM1 : Wl.heap[M + 1]? = wp.heap[M + 1]? := (fw (M + 1) (by omega) (by omega)).trans ((bk (M + 1) (by omega)).trans (HW5.out.bel (M + 1) (by omega) (by omega)))
              refine ⟨g, ?_, by omega, fun q hq => ?_⟩
              · rw [World.cell?_of_block (a := ⟨M + 1, k, none⟩) bM1, oP.cellAt _ (by omega)]
                exact e
              · rw [World.cell?_of_block (a := ⟨g, q, none⟩) ((fw g (by omega) (by omega)).trans ((bk g (by omega)).trans (HW5.out.bel g (by omega) (by omega))))]
                exact hg3 q hq
            · rw [World.cell?_of_block (a := ⟨G, i, none⟩) (fw G (by omega) (by omega)), o1.cellAt _ (by omega)]
              exact e1 i hi (by omega)
            · rw [World.cell?_of_block (a := ⟨G + 1, i, none⟩) (fw (G + 1) (by omega) (by omega)), o2.cellAt _ (by omega)]
              exact e2 i (by omega) (by omega)
            · rw [World.cell?_of_block (a := ⟨G + 1 + 1, i, none⟩) (fw (G + 1 + 1) (by omega) (by omega)), o3.cellAt _ (by omega)]
              exact e3 i hi (by omega)
          have HZ := hid hZ
          clear hZ h5 bk hcut hlo hnl
          go_wp2_with fail
          exact bodyPost_ret (v := .agg #[.slice (some ⟨M + 1, 0, none⟩) pc pc, .slice (some ⟨G, 0, none⟩) n n, .slice (some ⟨G + 1, 0, none⟩) n n, .slice (some ⟨G + 1 + 1, 0, none⟩) n n, .int .i64 (nl : Int), .bool ml]) (by simp [results, Tryf.results9, go_sem, n0, n1, n2, n3, n4, n5]) rfl (by rw [hmm]; exact HZ.out)
end Go.Proofs.YtgjoklbljmpkgaaFmt
