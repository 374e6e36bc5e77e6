/-
  symbolForName, walked: a name that has been seen, a name that is new. Conditions: the parser's symbols stand as PS says.
-/
import Derived.Test.YtgjoklbljmpkgaaFmtGe
namespace Go.Proofs.YtgjoklbljmpkgaaFmt
open Go.RowKit Go.Lib Go.ChangeMaps
open Go.Maps (Keyed IsMap)
abbrev entB (i : Nat) : Obj := .cells #[.int .i32 0, .int .u32 0, .int .u32 i] 102
theorem cells3 {w : World} {b : Nat} {x y z : Value} {t : TypeId} (h : w.heap[b]? = some (.cells #[x, y, z] t (0, 0))) : w.cell? ⟨b, 0, none⟩ = some x ∧ w.cell? ⟨b, 1, none⟩ = some y ∧ w.cell? ⟨b, 2, none⟩ = some z ∧ ∀ o, w.frozen? ⟨b, o, none⟩ = false := by
  refine ⟨?_, ?_, ?_, fun o => frozen_of_row w b o _ _ h⟩ <;> (unfold World.cell?; simp [h])
theorem heap3 (w : World) (a b c : Obj) : ((((w.alloc a).alloc b).alloc c).heap[w.heap.size]? = some a ∧ (((w.alloc a).alloc b).alloc c).heap[w.heap.size + 1]? = some b) ∧ (((w.alloc a).alloc b).alloc c).heap[w.heap.size + 1 + 1]? = some c := by
  refine ⟨⟨?_, ?_⟩, ?_⟩
  · rw [(World.grownBy_alloc ((w.alloc a).alloc b) c none).block _ (by simp; omega) (by simp), (World.grownBy_alloc (w.alloc a) b none).block _ (by simp) (by simp)]
    exact (MapKept.heap_alloc w a).1
  · rw [(World.grownBy_alloc ((w.alloc a).alloc b) c none).block _ (by simp) (by simp)]
    have := (MapKept.heap_alloc (w.alloc a) b).1
    simpa using this
  · have := (MapKept.heap_alloc ((w.alloc a).alloc b) c).1
    simpa using this
abbrev locB : Obj := .cells #[.int .i32 0] 71
abbrev zeroB : Obj := .cells #[.int .i32 0, .int .u32 0, .int .u32 0] 102
set_option maxHeartbeats 2000000 in
set_option maxRecDepth 100000 in
theorem sym_hit (c : PC) (l : List NM) (vS vL : Value) (nm : NM) (w : World) (h : PS c l vS vL w) (hnm : nm.length ≤ 1048576) (hlen : l.length < 1048576) (hm : nm ∈ l) :
    Calls Tryf.prog 20 #[.pointer (some ⟨c.pb, 0, none⟩), .agg #[.int .i32 0], .string (ba nm)] w fun e w' => SymR c l nm vS vL w e w' := by
  obtain ⟨xS, xL, D, hP, hX, hM⟩ := h.ex
  have hI := idx_lt l nm hm
  have hlast : (dist (l ++ [nm])).idxOf nm = (dist l).idxOf nm := idx_stable l [nm] nm hm
  have hd : dist (l ++ [nm]) = dist l := by rw [dist_snoc, if_pos ((mem_dist l nm).2 hm)]
  have hat : (dist l)[(dist l).idxOf nm] = nm := List.getElem_idxOf hI
  obtain ⟨h1, h2, h3⟩ := hX.ex _ hI
  rw [hat] at h2
  have hcnt := count_le l nm
  have hdl := dist_len l
  have HX := hid (hX.hit nm hm)
  have HM := hid (hM.hit nm hm)
  obtain ⟨g, cap, rfl⟩ : ∃ g cap, vS = .slice (some ⟨g, 0, none⟩) (dist l).length cap := by
    rcases hP.oS.2 with ⟨_, h0⟩ | ⟨g, cap, _, e, _⟩
    · omega
    · exact ⟨g, cap, e⟩
  obtain ⟨i, hrun, hi⟩ := look40 ((hP.alloc locB).alloc zeroB) hM nm hnm
  rw [show decide (nm ∈ l) = true from decide_eq_true hm] at hrun
  obtain rfl := hi hm
  have hgl := (hP.oS.lt g rfl).2
  have hgb := (hP.oS.lt g rfl).1
  have hplt : c.pb < w.heap.size := Nat.lt_of_lt_of_le c.hp hP.sz
  have hpg : c.pb ≠ g := by have := c.hp; omega
  have q54 := hP.c54
  have q24 := hP.c24
  have q25 := hP.c25
  have q21 := hP.c21
  have hcell : w.cell? ⟨g, (dist l).idxOf nm * 10 + 4, none⟩ = some (.int .u32 (l.count nm : Nat)) := by
    rw [hP.oS.cellAt _ (by omega)]; exact h2
  have hfr : w.frozen? ⟨g, (dist l).idxOf nm * 10 + 4, none⟩ = false := hP.oS.frozenAt _
  have hw1 : IntKind.u32.wrap ((l.count nm : Int) + 1) = ((l.count nm + 1 : Nat) : Int) := by rw [IntKind.wrap_u32]; omega
  have HP := hid hP
  have hPL := hid hP.oL
  have hbs := hP.sz
  have hmb : c.mb = if c.m then c.lb else c.gb := rfl
  clear hP hX hM h h1 h2 h3 hi hat
  generalize hII : (dist l).idxOf nm = I at *
  generalize hCC : l.count nm = C at *
  generalize hNN : (dist l).length = n at *
  clear hII hCC hlen hnm hcnt hdl
  cases hmm : c.m with
  | true =>
    rw [hmm] at q54 hmb
    simp only [if_true] at hmb
    rw [hmb] at hrun
    clear hmm hmb q25
    go_enter Tryf.func20, Tryf.ntmps20
    go_wp2_with fail
    have P3 := ((HP.out.alloc locB).alloc zeroB).alloc (entB I)
    obtain ⟨⟨_, r0⟩, e0⟩ := heap3 w locB zeroB (entB I)
    have s3 : (((w.alloc locB).alloc zeroB).alloc (entB I)).heap.size = w.heap.size + 3 := by simp [go_sem]
    have F3 := hid ((((Fr.refl (Ex c (.slice (some ⟨g, 0, none⟩) n cap) vL) w.heap.size w).alloc (Nat.le_refl _) locB).alloc (Nat.le_refl _) zeroB).alloc (Nat.le_refl _) (entB I))
    generalize (((w.alloc locB).alloc zeroB).alloc (entB I)) = W3 at *
    obtain ⟨a0, a1, a2, a3⟩ := cells3 e0
    have p21 := P3.c21
    have z21 := P3.drew.c21
    have hc3 : W3.cell? ⟨g, I * 10 + 4, none⟩ = some (.int .u32 C) := by
      rw [P3.oS.cellAt _ (by omega), ← HP.out.oS.cellAt _ (by omega)]; exact hcell
    have hf3 : W3.frozen? ⟨g, I * 10 + 4, none⟩ = false := P3.oS.frozenAt _
    have P4 := hid (P3.symSet (I * 10 + 4) (.int .u32 (C + 1 : Nat)))
    clear P3 hcell hfr q21 q24 q54 hrun HP
    go_region
    clear p21 z21 hc3 hf3 a0 a1 a2 a3
    have P5 := hid P4.out.drew
    have F5 := hid ((F3.out.set ⟨g, I * 10 + 4, none⟩ (.int .u32 (C + 1 : Nat)) (Or.inl (Or.inr (Or.inr (Or.inl rfl))))).drew)
    have r5 : (W3.setCell ⟨g, I * 10 + 4, none⟩ (.int .u32 (C + 1 : Nat))).drew.heap[w.heap.size + 1]? = some zeroB := (heap_setCell_other W3 ⟨g, I * 10 + 4, none⟩ (w.heap.size + 1) _ (by simp; omega)).trans r0
    have e5 : (W3.setCell ⟨g, I * 10 + 4, none⟩ (.int .u32 (C + 1 : Nat))).drew.heap[w.heap.size + 1 + 1]? = some (entB I) := (heap_setCell_other W3 ⟨g, I * 10 + 4, none⟩ (w.heap.size + 1 + 1) _ (by simp; omega)).trans e0
    clear P4 F3 r0 e0
    rw [show ((C : Int) + 1) = ((C + 1 : Nat) : Int) from by omega]
    generalize (W3.setCell ⟨g, I * 10 + 4, none⟩ (.int .u32 (C + 1 : Nat))).drew = W5 at *
    obtain ⟨a0, a1, a2, a3⟩ := cells3 e5
    obtain ⟨b0, b1, b2, b3⟩ := cells3 r5
    clear e5
    go_wp2_with fail
    have hLlt : ∀ gg, vL.ownBlock = some gg → gg < w.heap.size := fun gg hg => (hPL.out.lt gg hg).2
    have nL : vL.ownBlock ≠ some (w.heap.size + 1) := fun e => by have := hLlt _ e; omega
    have nS : (Value.slice (some ⟨g, 0, none⟩) n cap).ownBlock ≠ some (w.heap.size + 1) := fun e => by simp [Value.ownBlock] at e; omega
    have hb1 : c.base ≤ w.heap.size + 1 := by have := hbs; omega
    have P8 := hid (((P5.out.other (a := ⟨w.heap.size + 1, 0, none⟩) hb1 nS nL (.int .i32 0)).other (a := ⟨w.heap.size + 1, 1, none⟩) hb1 nS nL (.int .u32 0)).other (a := ⟨w.heap.size + 1, 2, none⟩) hb1 nS nL (.int .u32 I))
    have F8 := hid (((F5.out.set ⟨w.heap.size + 1, 0, none⟩ (.int .i32 0) (Or.inr (by simp))).set ⟨w.heap.size + 1, 1, none⟩ (.int .u32 0) (Or.inr (by simp))).set ⟨w.heap.size + 1, 2, none⟩ (.int .u32 I) (Or.inr (by simp)))
    have PSf : PS c (l ++ [nm]) (.slice (some ⟨g, 0, none⟩) n cap) vL (((W5.setCell ⟨w.heap.size + 1, 0, none⟩ (.int .i32 0)).setCell ⟨w.heap.size + 1, 1, none⟩ (.int .u32 0)).setCell ⟨w.heap.size + 1, 2, none⟩ (.int .u32 I)) :=
      ⟨_, xL, D, by rw [hd, hNN]; exact P8.out, HX.out, HM.out⟩
    refine bodyPost_ret (v := .agg #[.int .i32 0, .int .u32 0, .int .u32 I]) (by simp [results, Tryf.results20, go_sem, b0, b1, b2]) rfl ?_
    exact ⟨_, vL, by rw [hlast], PSf, F8.out, Or.inl rfl, Or.inl rfl⟩
  | false =>
    rw [hmm] at q54 hmb
    simp only [Bool.false_eq_true, if_false] at hmb
    rw [hmb] at hrun
    clear hmm hmb q24
    go_enter Tryf.func20, Tryf.ntmps20
    go_wp2_with fail
    have P3 := ((HP.out.alloc locB).alloc zeroB).alloc (entB I)
    obtain ⟨⟨_, r0⟩, e0⟩ := heap3 w locB zeroB (entB I)
    have s3 : (((w.alloc locB).alloc zeroB).alloc (entB I)).heap.size = w.heap.size + 3 := by simp [go_sem]
    have F3 := hid ((((Fr.refl (Ex c (.slice (some ⟨g, 0, none⟩) n cap) vL) w.heap.size w).alloc (Nat.le_refl _) locB).alloc (Nat.le_refl _) zeroB).alloc (Nat.le_refl _) (entB I))
    generalize (((w.alloc locB).alloc zeroB).alloc (entB I)) = W3 at *
    obtain ⟨a0, a1, a2, a3⟩ := cells3 e0
    have p21 := P3.c21
    have z21 := P3.drew.c21
    have hc3 : W3.cell? ⟨g, I * 10 + 4, none⟩ = some (.int .u32 C) := by
      rw [P3.oS.cellAt _ (by omega), ← HP.out.oS.cellAt _ (by omega)]; exact hcell
    have hf3 : W3.frozen? ⟨g, I * 10 + 4, none⟩ = false := P3.oS.frozenAt _
    have P4 := hid (P3.symSet (I * 10 + 4) (.int .u32 (C + 1 : Nat)))
    clear P3 hcell hfr q21 q25 q54 hrun HP
    go_region
    clear p21 z21 hc3 hf3 a0 a1 a2 a3
    have P5 := hid P4.out.drew
    have F5 := hid ((F3.out.set ⟨g, I * 10 + 4, none⟩ (.int .u32 (C + 1 : Nat)) (Or.inl (Or.inr (Or.inr (Or.inl rfl))))).drew)
    have r5 : (W3.setCell ⟨g, I * 10 + 4, none⟩ (.int .u32 (C + 1 : Nat))).drew.heap[w.heap.size + 1]? = some zeroB := (heap_setCell_other W3 ⟨g, I * 10 + 4, none⟩ (w.heap.size + 1) _ (by simp; omega)).trans r0
    have e5 : (W3.setCell ⟨g, I * 10 + 4, none⟩ (.int .u32 (C + 1 : Nat))).drew.heap[w.heap.size + 1 + 1]? = some (entB I) := (heap_setCell_other W3 ⟨g, I * 10 + 4, none⟩ (w.heap.size + 1 + 1) _ (by simp; omega)).trans e0
    clear P4 F3 r0 e0
    rw [show ((C : Int) + 1) = ((C + 1 : Nat) : Int) from by omega]
    generalize (W3.setCell ⟨g, I * 10 + 4, none⟩ (.int .u32 (C + 1 : Nat))).drew = W5 at *
    obtain ⟨a0, a1, a2, a3⟩ := cells3 e5
    obtain ⟨b0, b1, b2, b3⟩ := cells3 r5
    clear e5
    go_wp2_with fail
    have hLlt : ∀ gg, vL.ownBlock = some gg → gg < w.heap.size := fun gg hg => (hPL.out.lt gg hg).2
    have nL : vL.ownBlock ≠ some (w.heap.size + 1) := fun e => by have := hLlt _ e; omega
    have nS : (Value.slice (some ⟨g, 0, none⟩) n cap).ownBlock ≠ some (w.heap.size + 1) := fun e => by simp [Value.ownBlock] at e; omega
    have hb1 : c.base ≤ w.heap.size + 1 := by have := hbs; omega
    have P8 := hid (((P5.out.other (a := ⟨w.heap.size + 1, 0, none⟩) hb1 nS nL (.int .i32 0)).other (a := ⟨w.heap.size + 1, 1, none⟩) hb1 nS nL (.int .u32 0)).other (a := ⟨w.heap.size + 1, 2, none⟩) hb1 nS nL (.int .u32 I))
    have F8 := hid (((F5.out.set ⟨w.heap.size + 1, 0, none⟩ (.int .i32 0) (Or.inr (by simp))).set ⟨w.heap.size + 1, 1, none⟩ (.int .u32 0) (Or.inr (by simp))).set ⟨w.heap.size + 1, 2, none⟩ (.int .u32 I) (Or.inr (by simp)))
    have PSf : PS c (l ++ [nm]) (.slice (some ⟨g, 0, none⟩) n cap) vL (((W5.setCell ⟨w.heap.size + 1, 0, none⟩ (.int .i32 0)).setCell ⟨w.heap.size + 1, 1, none⟩ (.int .u32 0)).setCell ⟨w.heap.size + 1, 2, none⟩ (.int .u32 I)) :=
      ⟨_, xL, D, by rw [hd, hNN]; exact P8.out, HX.out, HM.out⟩
    refine bodyPost_ret (v := .agg #[.int .i32 0, .int .u32 0, .int .u32 I]) (by simp [results, Tryf.results20, go_sem, b0, b1, b2]) rfl ?_
    exact ⟨_, vL, by rw [hlast], PSf, F8.out, Or.inl rfl, Or.inl rfl⟩
end Go.Proofs.YtgjoklbljmpkgaaFmt
