/-
  handleComposesPragma. Conditions: the parser and the tokens stand as Pre says.
-/
import Derived.Test.YtgjoklbljmpkgaaFmtGk
import Derived.Deep.LoopGhost
import Derived.Deep.CutBlock
namespace Go.Proofs.YtgjoklbljmpkgaaFmt
open Go.RowKit Go.Lib Go.ChangeMaps
open Go.Maps (Keyed IsMap)
abbrev tFrom : ByteArray := ⟨#[102, 114, 111, 109]⟩
abbrev tGlobal : ByteArray := ⟨#[103, 108, 111, 98, 97, 108]⟩
theorem good_from : ∀ j, j < tFrom.size → Good (tFrom.get! j).toNat := by unfold Good; decide
theorem good_global : ∀ j, j < tGlobal.size → Good (tGlobal.get! j).toNat := by unfold Good; decide
/-- how the words are taken: ns the names, fg: does 'from global' stand behind them? -/
structure Words (ws ns : List NM) (fg : Bool) : Prop where
  le : ns.length ≤ ws.length
  at' : ∀ i (h : i < ns.length), ws[i]'(by omega) = ns[i]
  no : ∀ i (h : i < ns.length), i + 2 = ws.length → ¬ Fit (ba ns[i]) tFrom
  fin : (ws.length = ns.length ∧ fg = false) ∨ (ws.length = ns.length + 2 ∧ fg = true ∧ (∀ (h : ns.length < ws.length) w, Calls Tryf.prog 14 #[.string (ba ws[ns.length]), .string tFrom] w fun e w' => e = .returned (.bool true) ∧ w' = w) ∧
    (∀ (h : ns.length + 1 < ws.length) w, Calls Tryf.prog 14 #[.string (ba ws[ns.length + 1]), .string tGlobal] w fun e w' => e = .returned (.bool true) ∧ w' = w))
structure Toks (tb : Nat) (ws : List NM) (w : World) : Prop where
  lt : tb < w.heap.size
  c : ∀ i (h : i < ws.length), w.cell? ⟨tb, i * 7, none⟩ = some (.pointer none) ∧ w.cell? ⟨tb, i * 7 + 1, none⟩ = some (.string (ba ws[i])) ∧ w.cell? ⟨tb, i * 7 + 2, none⟩ = some (.int .i32 0) ∧ w.cell? ⟨tb, i * 7 + 3, none⟩ = some (.int .u32 0) ∧
    w.cell? ⟨tb, i * 7 + 4, none⟩ = some (.int .u16 0) ∧ w.cell? ⟨tb, i * 7 + 5, none⟩ = some (.int .u8 29) ∧ w.cell? ⟨tb, i * 7 + 6, none⟩ = some (.int .u8 0)
theorem Toks.below {tb : Nat} {ws : List NM} {w w' : World} (h : Toks tb ws w) (hb : Below w.heap.size w w') : Toks tb ws w' := by
  have e : ∀ o, w'.cell? ⟨tb, o, none⟩ = w.cell? ⟨tb, o, none⟩ := fun o => hb.cell (p := ⟨tb, o, none⟩) h.lt
  refine ⟨Nat.lt_of_lt_of_le h.lt hb.size, fun i hi => ?_⟩
  simp only [e]
  exact h.c i hi
/-- the row of the names -/
structure NameX (ns : List NM) (k : Nat) (xs : List Value) : Prop where
  ex : ∀ j, j < k → ∀ (h : j < ns.length), xs[j * 2]? = some (.int .i32 0) ∧ xs[j * 2 + 1]? = some (.string (ba ns[j]))
theorem NameX.snoc {ns : List NM} {k : Nat} {xs : List Value} (h : NameX ns k xs) (hl : xs.length = k * 2) (hk : k < ns.length) : NameX ns (k + 1) (xs ++ [.int .i32 0, .string (ba ns[k])]) := by
  constructor
  intro j hj hjl
  by_cases e : j < k
  · obtain ⟨h1, h2⟩ := h.ex j e hjl
    exact ⟨by rw [List.getElem?_append_left (by omega)]; exact h1, by rw [List.getElem?_append_left (by omega)]; exact h2⟩
  · obtain rfl : j = k := by omega
    refine ⟨?_, ?_⟩
    · rw [List.getElem?_append_right (by omega), hl, show j * 2 - j * 2 = 0 by omega]; rfl
    · rw [List.getElem?_append_right (by omega), hl, show j * 2 + 1 - j * 2 = 1 by omega]; rfl
structure NameI (w : World) (ns : List NM) (k : Nat) (v6 : Value) (wx : World) : Prop where
  ex : ∃ xs, wx.ownsRow w.heap.size 121 2 v6 k xs ∧ NameX ns k xs ∧ Below w.heap.size w wx
structure NameE (w : World) (ns : List NM) (fg : Bool) (v6 v7 : Value) (wx : World) : Prop where
  ex : NameI w ns ns.length v6 wx ∧ v7 = .bool fg
theorem below_grown {B : Nat} {w w' : World} (h : Below B w w') (hB : w.heap.size ≤ B) (row : Option Nat) : w.grownBy w' row := ⟨h.os, h.tape, h.output, h.size, fun k hk _ => h.block k (by omega)⟩
theorem grown_below {B : Nat} {w w' : World} {row : Option Nat} (h : w.grownBy w' row) (hr : ∀ g, row = some g → B ≤ g) (hB : B ≤ w.heap.size) : Below B w w' :=
  ⟨h.os, h.tape, h.output, h.size, fun k hk => h.block k (by omega) (fun e => by have := hr k e.symm; omega)⟩
theorem info121 : (Tryf.prog.info? 121).map (fun i => (i.zero, i.size, i.bytes)) = some (some (.agg #[.int .i32 0, .string ⟨#[]⟩]), 2, 24) := by kernel_rfl
structure SymQ (c : PC) (ns : List NM) (i j : Nat) (nm : NM) (vS vL : Value) (w : World) (e : Ending) (w' : World) : Prop where
  ex : ∃ vS' vL', e = .returned (.agg #[.int .i32 0, .int .u32 0, .int .u32 ((dist ns).idxOf nm : Nat)]) ∧ PS c (part i (j + 1) ns) vS' vL' w' ∧ Fr (Ex c vS vL) w.heap.size w w' ∧ New w vS vS' ∧ New w vL vL'
theorem symQ (c : PC) (B pc : Nat) (hA : Apart c B pc) (ns : List NM) (i j : Nat) (hj : j < ns.length) (hi : i < pc) (hpc : pc ≤ 255) (hn : ns.length ≤ 4096) (hnm : (ns[j]).length ≤ 1048576) (vS vL : Value) (w : World) (h : PS c (part i j ns) vS vL w)
    (hi1 : w.cell? ⟨1, 0, none⟩ = some (.int .u32 4294967295) ∧ w.cell? ⟨1, 1, none⟩ = some (.int .u32 4294967295)) :
    Calls Tryf.prog 20 #[.pointer (some ⟨c.pb, 0, none⟩), .agg #[.int .i32 0], .string (ba ns[j])] w fun e w' => SymQ c ns i j ns[j] vS vL w e w' := by
  have hl := part_len i j ns
  have hl2 : (i + 1) * ns.length ≤ 255 * 4096 := Nat.mul_le_mul (by omega) hn
  have hb := hA.base
  have hg := hA.gl
  have hm := hA.mb7
  have hp := hA.pb
  refine (sym20 c (part i j ns) vS vL ns[j] w h hi1 ⟨by omega, by omega, by omega⟩ hnm (by omega)).mono ?_
  rintro e w' ⟨vS', vL', rfl, h1, h2, h3, h4⟩
  have hs := part_succ i j ns hj
  rw [← hs] at h1
  refine ⟨vS', vL', ?_, h1, h2, h3, h4⟩
  rw [← hs, part_idx i (j + 1) ns ns[j] (by rw [hs]; simp)]
structure Pre (B pc : Nat) (ml : Bool) (w : World) : Prop where
  gl : 7 ≤ B
  sz : B + 6 + pc < w.heap.size
  hpc : pc ≤ 255
  fr : ∀ o, w.frozen? ⟨B + 4, o, none⟩ = false
  c15 : w.cell? ⟨B + 4, 15, none⟩ = some (.int .u32 0)
  c21 : w.cell? ⟨B + 4, 21, none⟩ = some (.slice none 0 0)
  c22 : w.cell? ⟨B + 4, 22, none⟩ = some (.map (some (B + 1)))
  c23 : w.cell? ⟨B + 4, 23, none⟩ = some (.slice none 0 0)
  c24 : w.cell? ⟨B + 4, 24, none⟩ = some (.map (some (B + 2)))
  c25 : w.cell? ⟨B + 4, 25, none⟩ = some (.map (some (B + 3)))
  c54 : w.cell? ⟨B + 4, 54, none⟩ = some (.bool ml)
  m24 : w.ownsMap Tryf.prog 9 locE (B + 2) 0 (.map [])
  m25 : w.ownsMap Tryf.prog 9 locE (B + 3) 0 (.map [])
  mc : ∃ n D, w.ownsMap Tryf.prog 84 ptrE (B + 1) n D ∧ CompX B pc D
  pr : ∀ i, i < pc → w.cell? ⟨B + 5, i * 2, none⟩ = some (.int .u32 1) ∧ w.cell? ⟨B + 5, i * 2 + 1, none⟩ = some (.int .u32 i)
  co : ∀ k, k < pc → w.cell? ⟨B + 6 + k, 0, none⟩ = some (.slice none 0 0) ∧ w.frozen? ⟨B + 6 + k, 0, none⟩ = false
theorem Pre.below {B pc : Nat} {ml : Bool} {w w' : World} (h : Pre B pc ml w) (hb : Below w.heap.size w w') : Pre B pc ml w' := by
  have hs := h.sz
  have cl : ∀ b o, b < w.heap.size → w'.cell? ⟨b, o, none⟩ = w.cell? ⟨b, o, none⟩ := fun b o hb' => World.cell?_of_block (a := ⟨b, o, none⟩) (hb.block b hb')
  have fz : ∀ b o, b < w.heap.size → w'.frozen? ⟨b, o, none⟩ = w.frozen? ⟨b, o, none⟩ := fun b o hb' => World.frozen?_of_block (a := ⟨b, o, none⟩) (hb.block b hb')
  have gr := below_grown hb (Nat.le_refl _) none
  obtain ⟨n, D, hm, hD⟩ := h.mc
  refine ⟨h.gl, Nat.lt_of_lt_of_le h.sz hb.size, h.hpc, fun o => by rw [fz _ _ (by omega)]; exact h.fr o, by rw [cl _ _ (by omega)]; exact h.c15, by rw [cl _ _ (by omega)]; exact h.c21, by rw [cl _ _ (by omega)]; exact h.c22, by rw [cl _ _ (by omega)]; exact h.c23, by rw [cl _ _ (by omega)]; exact h.c24, by rw [cl _ _ (by omega)]; exact h.c25, by rw [cl _ _ (by omega)]; exact h.c54,
    h.m24.kept gr (by simp), h.m25.kept gr (by simp), ⟨n, D, hm.kept gr (by simp), hD⟩, fun i hi => ?_, fun k hk => ?_⟩
  · rw [cl _ _ (by omega), cl _ _ (by omega)]; exact h.pr i hi
  · rw [cl _ _ (by omega), fz _ _ (by omega)]; exact h.co k hk
def mkc (B : Nat) (m : Bool) (base : Nat) (h : B + 6 ≤ base) : PC := { pb := B + 4, lb := B + 2, gb := B + 3, base := base, m := m, cm := B + 1, hpl := by omega, hpg := by omega, hlg := by omega, hp := by omega, hl := by omega, hg := by omega }
theorem mkc_apart (B pc : Nat) (m : Bool) (base : Nat) (h : B + 6 ≤ base) (h2 : B + 6 + pc ≤ base) (h7 : 7 ≤ B) : Apart (mkc B m base h) B pc := by
  refine ⟨rfl, ?_, h2, h7, ?_⟩
  · unfold PC.mb mkc; dsimp only; split <;> omega
  · unfold PC.mb mkc; dsimp only; split <;> omega
noncomputable def modeW (B : Nat) (fg : Bool) (w : World) : World := if fg then w.setCell ⟨B + 4, 54, none⟩ (.bool false) else w
theorem modeW_size (B : Nat) (fg : Bool) (w : World) : (modeW B fg w).heap.size = w.heap.size := by unfold modeW; split <;> simp
theorem modeW_block (B : Nat) (fg : Bool) (w : World) (g : Nat) (h : g ≠ B + 4) : (modeW B fg w).heap[g]? = w.heap[g]? := by
  unfold modeW
  split
  · exact heap_setCell_other w ⟨B + 4, 54, none⟩ g _ h
  · rfl
theorem nilX : SymX true [] [] ∧ SymX false [] [] := ⟨⟨fun i hi => by simp [dist_nil] at hi⟩, ⟨fun i hi => by simp [dist_nil] at hi⟩⟩
theorem nilM : MapX [] (.map [] : DataW Unit) := ⟨Maps.isMap_empty, fun n => by simp [Maps.has], fun n hn => by simp at hn⟩
theorem PSinit {B pc : Nat} {ml fg : Bool} {w : World} (h : Pre B pc ml w) (hb : B + 6 ≤ w.heap.size) : PS (mkc B (ml && !fg) w.heap.size hb) [] (.slice none 0 0) (.slice none 0 0) (modeW B fg w) := by
  have hsz := modeW_size B fg w
  have cl : ∀ o, o ≠ 54 → (modeW B fg w).cell? ⟨B + 4, o, none⟩ = w.cell? ⟨B + 4, o, none⟩ := by
    intro o ho
    unfold modeW
    split
    · exact cell_set_off ho
    · rfl
  have fz : ∀ o, (modeW B fg w).frozen? ⟨B + 4, o, none⟩ = w.frozen? ⟨B + 4, o, none⟩ := by
    intro o
    unfold modeW
    split
    · exact frozen_set _
    · rfl
  have c54 : (modeW B fg w).cell? ⟨B + 4, 54, none⟩ = some (.bool (ml && !fg)) := by
    unfold modeW
    cases fg with
    | true => simp only [if_true, Bool.not_true, Bool.and_false]; exact cell_set_same h.c54
    | false => simp only [Bool.false_eq_true, if_false, Bool.not_false, Bool.and_true]; exact h.c54
  refine ⟨[], [], .map [], ⟨by rw [hsz]; exact Nat.le_refl _, fun o => (fz o).trans (h.fr o), (cl 15 (by decide)).trans h.c15, (cl 21 (by decide)).trans h.c21, (cl 22 (by decide)).trans h.c22, (cl 23 (by decide)).trans h.c23, (cl 24 (by decide)).trans h.c24, (cl 25 (by decide)).trans h.c25, c54,
    World.ownsRow_nil _ _ _ _, ?_, Or.inl rfl, ?_⟩, ?_, nilM⟩
  · have : (if (mkc B (ml && !fg) w.heap.size hb).m then (dist []).length else 0) = 0 := by split <;> rfl
    rw [this]
    exact World.ownsRow_nil _ _ _ _
  · have hm : ∀ b, b ≠ B + 4 → w.ownsMap Tryf.prog 9 locE b 0 (.map []) → (modeW B fg w).ownsMap Tryf.prog 9 locE b 0 (.map []) := by
      intro b hne hm
      obtain ⟨es, clock, hx, F, hs, hD⟩ := hm
      exact ⟨es, clock, by rw [modeW_block B fg w b hne]; exact hx, F, hs, hD⟩
    show (modeW B fg w).ownsMap Tryf.prog 9 locE (PC.mb _) 0 (.map [])
    unfold PC.mb mkc
    dsimp only
    split
    · exact hm _ (by omega) h.m24
    · exact hm _ (by omega) h.m25
  · cases (mkc B (ml && !fg) w.heap.size hb).m
    · exact nilX.2
    · exact nilX.1
theorem RowsInit {B pc : Nat} {ml fg : Bool} {w : World} (h : Pre B pc ml w) (ns : List NM) : RowsX w.heap.size B pc ns 0 0 (.slice none 0 0) (.slice none 0 0) (fun _ => .slice none 0 0) (modeW B fg w) := by
  have hs := h.sz
  refine ⟨fun k hk => ?_, fun k hk => ⟨[], ?_, ⟨fun q hq => ?_⟩⟩, fun _ _ => Or.inl rfl, fun _ _ => Or.inl rfl, fun _ _ _ _ _ => Or.inl rfl⟩
  · rw [World.cell?_of_block (a := ⟨B + 6 + k, 0, none⟩) (modeW_block B fg w (B + 6 + k) (by omega)), World.frozen?_of_block (a := ⟨B + 6 + k, 0, none⟩) (modeW_block B fg w (B + 6 + k) (by omega))]
    exact h.co k hk
  · have : cnt ns 0 0 k = 0 := by unfold cnt; rw [if_neg (by omega)]; split <;> rfl
    rw [this]
    exact World.ownsRow_nil _ _ _ _
  · have : cnt ns 0 0 k = 0 := by unfold cnt; rw [if_neg (by omega)]; split <;> rfl
    omega
theorem LI.next {c : PC} {B pc : Nat} {ns : List NM} {i : Nat} {w2 w : World} (h : LI c B pc ns i ns.length w2 w) : LI c B pc ns (i + 1) 0 w2 w := by
  obtain ⟨vS, vL, rows, h1, h2, h3⟩ := h.ex
  have e : ∀ k, cnt ns (i + 1) 0 k = cnt ns i ns.length k := by
    intro k
    unfold cnt
    by_cases h1 : k < i
    · rw [if_pos (by omega), if_pos h1]
    · by_cases h2 : k = i
      · rw [if_pos (by omega), if_neg h1, if_pos h2]
      · rw [if_neg (by omega), if_neg h1, if_neg h2]
        split <;> rfl
  refine ⟨vS, vL, rows, ?_, ⟨h2.cell, fun k hk => ?_, h2.neS, h2.neL, h2.neR⟩, h3⟩
  · rw [part_zero, ← part_full]; exact h1
  · rw [e]; exact h2.own k hk
theorem LI.drew {c : PC} {B pc : Nat} {ns : List NM} {i j : Nat} {w2 w : World} (h : LI c B pc ns i j w2 w) : LI c B pc ns i j w2 w.drew := by
  obtain ⟨vS, vL, rows, h1, h2, h3⟩ := h.ex
  exact ⟨vS, vL, rows, h1.drew, h2.drew, h3.drew⟩
end Go.Proofs.YtgjoklbljmpkgaaFmt
