/-
  An at-rule lowered with a context. Conditions: each theorem's own.
-/
import Derived.Test.YtllafdcijpdopaaGreatFmtPk
import Derived.Test.YtllafdcijpdopaaGreatFmtPl
import Derived.Test.YtllafdcijpdopaaGreatFmtPm
import Derived.Test.YtllafdcijpdopaaGreatFmtPn
namespace Go.Proofs.YtllafdcijpdopaaGreatFmt
open Go.RowKit Go.Lib
theorem four_alloc (w : World) (o1 o2 o3 o4 : Obj) : Below w.heap.size w ((((w.alloc o1).alloc o2).alloc o3).alloc o4) ∧ ((((w.alloc o1).alloc o2).alloc o3).alloc o4).heap.size = w.heap.size + 4 ∧ ((((w.alloc o1).alloc o2).alloc o3).alloc o4).heap[w.heap.size]? = some o1 ∧ ((((w.alloc o1).alloc o2).alloc o3).alloc o4).heap[w.heap.size + 1]? = some o2 ∧ ((((w.alloc o1).alloc o2).alloc o3).alloc o4).heap[w.heap.size + 1 + 1 + 1]? = some o4 := by
  have s1 : (w.alloc o1).heap.size = w.heap.size + 1 := by simp
  have s2 : ((w.alloc o1).alloc o2).heap.size = w.heap.size + 2 := by simp
  have s3 : (((w.alloc o1).alloc o2).alloc o3).heap.size = w.heap.size + 3 := by simp
  have s4 : ((((w.alloc o1).alloc o2).alloc o3).alloc o4).heap.size = w.heap.size + 4 := by simp
  have b1 : Below w.heap.size w (w.alloc o1) := (Below.refl _ _).alloc (Nat.le_refl _) _
  have b2 := b1.alloc (by omega) o2
  have b3 := b2.alloc (by omega) o3
  have b4 := b3.alloc (by omega) o4
  refine ⟨b4, s4, ?_, ?_, ?_⟩
  · rw [Below.heap_alloc _ _ _ (by omega), Below.heap_alloc _ _ _ (by omega), Below.heap_alloc _ _ _ (by omega)]
    exact heap_alloc_new w o1
  · rw [Below.heap_alloc _ _ _ (by omega), Below.heap_alloc _ _ _ (by omega)]
    have := heap_alloc_new (w.alloc o1) o2
    rw [s1] at this
    exact this
  · have := heap_alloc_new (((w.alloc o1).alloc o2).alloc o3) o4
    rw [s3] at this
    exact this
/-- what stands when the at-rule has been appended -/
structure L5 (T TD : TypeId) (dc : Value → Array Value) (D : Nat) (sels low : Value) (Bl m : Nat) (xl : List Value) (w : World) (kv : Value) (E : List (Nat × Obj)) (low' : Value) (w5 : World) : Prop where
  fr : ∀ g, g < w.heap.size → g ≠ D → some g ≠ low.ownBlock → w5.heap[g]? = w.heap[g]?
  os : w5.os = w.os ∧ w5.tape = w.tape ∧ w5.output = w.output
  sz : w.heap.size + 4 ≤ w5.heap.size
  d : w5.heap[D]? = some (.cells (dc kv) TD (0, 0))
  own : w5.ownsRow Bl 30 2 low' (m + 1) (xl ++ [.iface T (.pointer (some ⟨D, 0, none⟩)), .int .i32 0])
  ex : ∀ p ∈ E, w.heap.size + 4 ≤ p.1 ∧ w5.heap[p.1]? = some p.2
section
variable {T TD : TypeId} {dc : Value → Array Value} {D : Nat} {sels low : Value} {Bl m : Nat} {xl : List Value} {w : World} {kv : Value} {E : List (Nat × Obj)} {low' : Value} {w5 w6 : World}
theorem L5.below (h : L5 T TD dc D sels low Bl m xl w kv E low' w5) (hbb : Below w5.heap.size w5 w6) : L5 T TD dc D sels low Bl m xl w kv E low' w6 := by
  have hsz := h.sz
  have hos : w6.os = w5.os ∧ w6.tape = w5.tape ∧ w6.output = w5.output := ⟨hbb.os, hbb.tape, hbb.output⟩
  have hs := hbb.size
  have hb := hbb.block
  exact ⟨fun g hg h1 h2 => (hb g (by omega)).trans (h.fr g hg h1 h2), ⟨hos.1.trans h.os.1, hos.2.1.trans h.os.2.1, hos.2.2.trans h.os.2.2⟩, by omega, (hb _ (heap_lt h.d)).trans h.d, own_heap h.own (fun g hg => hb g (h.own.lt g hg).2), fun p hp => ⟨(h.ex p hp).1, (hb _ (heap_lt (h.ex p hp).2)).trans (h.ex p hp).2⟩⟩
theorem Fin.l5 {o1 o2 o3 o4 : Obj} (hDw : D < w.heap.size) (hl : ∀ g, low.ownBlock = some g → g < w.heap.size) (h : Fin T TD dc D (w.heap.size + 1 + 1 + 1) sels low Bl m xl ((((w.alloc o1).alloc o2).alloc o3).alloc o4) kv E w5) :
    ∃ low', w5.heap[w.heap.size + 1 + 1 + 1]? = some (.cells #[sels, sels, low'] 109 (0, 0)) ∧ w5.heap[w.heap.size + 1]? = some o2 ∧ L5 T TD dc D sels low Bl m xl w kv E low' w5 := by
  obtain ⟨b, s, _, e2, _⟩ := four_alloc w o1 o2 o3 o4
  obtain ⟨low', hc, ho⟩ := h.c
  have hf := h.fr
  have hsz := h.sz
  have hex := h.ex
  have hos := h.os
  rw [s] at hf hsz hex
  refine ⟨low', hc, ?_, ⟨fun g hg h1 h2 => (hf g (by omega) h1 (by omega) h2).trans (b.block g hg), ⟨hos.1.trans b.os, hos.2.1.trans b.tape, hos.2.2.trans b.output⟩, by omega, h.d, ho, fun p hp => ⟨by have := (hex p hp).1; omega, (hex p hp).2⟩⟩⟩
  rw [hf _ (by omega) (by omega) (by omega) (fun e => by have := hl _ e.symm; omega)]
  exact e2
end
/-- what ZZLowerWithContext gives -/
structure R11s (T TD : TypeId) (dc : Value → Array Value) (D : Nat) (sels low rules : Value) (Bl m : Nat) (xl : List Value) (w : World) (e : Ending) (w' : World) : Prop where
  ex : ∃ low' S, e = .returned (.tuple #[.agg #[.nilIface, .int .i32 0], low']) ∧ L5 T TD dc D sels low Bl m xl w (.slice (some ⟨S + 1, 0, none⟩) 1 1) [(S, .cells #[sels, rules, .int .i32 0] 115), (S + 1, .cells #[.iface 112 (.pointer (some ⟨S, 0, none⟩)), .int .i32 0] 30)] low' w'
structure R11z (T TD : TypeId) (dc : Value → Array Value) (D : Nat) (sels low : Value) (Bl m : Nat) (xl : List Value) (w : World) (e : Ending) (w' : World) : Prop where
  ex : ∃ low', e = .returned (.tuple #[.agg #[.nilIface, .int .i32 0], low']) ∧ L5 T TD dc D sels low Bl m xl w (.slice none 0 0) [] low' w'
theorem end11 {w5 : World} {N : Nat} (x y : Value) (hN : w5.heap[N]? = some (.cells #[x, y] 30 (0, 0))) (o : Obj) : Below w5.heap.size w5 (((w5.setCell ⟨N, 0, none⟩ x).setCell ⟨N, 1, none⟩ y).alloc o).drew := by
  have h0 := (hcell hN 0 x rfl).1
  have h1 : (w5.setCell ⟨N, 0, none⟩ x).cell? ⟨N, 1, none⟩ = some y := (cellLow (set_same h0 N) 1).trans (hcell hN 1 y rfl).1
  exact ((set_same_below (set_same_below (Below.refl _ _) h0) h1).alloc (by simp [World.setCell]) o).drew
set_option maxHeartbeats 8000000 in
set_option maxRecDepth 100000 in
theorem low11m (B n Bl m : Nat) (hn : n ≤ 4096) (hm : m ≤ 4096) (h0 : 0 < n) (D : Nat) (q : Value) (rules low : Value) (sa : Option Addr) (sn sc : Nat) (xl : List Value) (w : World)
    (hD : w.heap[D]? = some (.cells ((fun rv => #[q, rv, .int .i32 0]) rules) 53 (0, 0))) (hr : DecO B n rules w) (hl : w.ownsRow Bl 30 2 low m xl) (hBl : Bl ≤ w.heap.size) :
    Calls Tryz.prog 11 #[.agg #[.iface 50 (.pointer (some ⟨D, 0, none⟩)), .int .i32 0], .slice sa sn sc, .slice sa sn sc, low] w fun e w' => R11s 50 53 (fun rv => #[q, rv, .int .i32 0]) D (.slice sa sn sc) low rules Bl m xl w e w' := by
  have hDl := heap_lt hD
  obtain ⟨la, lc, rfl⟩ : ∃ la lc, low = .slice la m lc := by
    rcases hl.2 with ⟨e, h0⟩ | ⟨g, cap, cur, e, _⟩
    · exact ⟨none, 0, by rw [e, h0]⟩
    · exact ⟨_, cap, e⟩
  have hll : ∀ g, (Value.slice la m lc).ownBlock = some g → g < w.heap.size := fun g e => (hl.lt g e).2
  have HD := hid hD
  have HR := hid hr
  have HL := hid hl
  have HLL := hid hll
  clear hD hr hl hll
  go_enter Tryz.func11, Tryz.ntmps11
  go_wp2_with fail
  refine (low20m B n Bl m hn hm h0 _ D (w.heap.size + 1 + 1 + 1) q rules (.slice la m lc) sa sn sc xl _ ?ga ?gb ?gc ?gd ?ge ?gf).mono ?_
  case ga => exact ((four_alloc w _ _ _ _).1.block D hDl).trans HD.out
  case gb => exact (four_alloc w _ _ _ _).2.2.2.2
  case gc => omega
  case gd => exact HR.out.below (four_alloc w _ _ _ _).1
  case ge => exact own_below HL.out (four_alloc w _ _ _ _).1
  case gf => rw [(four_alloc w _ _ _ _).2.1]; omega
  rintro e w5 hF0
  obtain ⟨S, rfl, hF⟩ := hF0.ex
  obtain ⟨low', hctx, hres, h5⟩ := hF.l5 hDl HLL.out
  obtain ⟨la', lc', rfl⟩ : ∃ la' lc', low' = .slice la' (m + 1) lc' := by
    rcases h5.own.2 with ⟨e, h0⟩ | ⟨g, cap, cur, e, _⟩
    · omega
    · exact ⟨_, cap, e⟩
  have H5 := hid h5
  clear hF hF0 h5
  obtain ⟨x2, _⟩ : w5.cell? ⟨w.heap.size + 1 + 1 + 1, 2, none⟩ = some (.slice la' (m + 1) lc') ∧ w5.frozen? ⟨w.heap.size + 1 + 1 + 1, 2, none⟩ = false := hcell hctx 2 _ rfl
  obtain ⟨n0, nf0⟩ : w5.cell? ⟨w.heap.size + 1, 0, none⟩ = some .nilIface ∧ w5.frozen? ⟨w.heap.size + 1, 0, none⟩ = false := hcell hres 0 _ rfl
  obtain ⟨n1, nf1⟩ : w5.cell? ⟨w.heap.size + 1, 1, none⟩ = some (.int .i32 0) ∧ w5.frozen? ⟨w.heap.size + 1, 1, none⟩ = false := hcell hres 1 _ rfl
  have hx := heap_lt hctx
  have hy := heap_lt hres
  have HE := hid (end11 .nilIface (.int .i32 0) hres (.cells #[.nilIface, .int .i32 0] 30))
  have Z0 : (((w5.setCell ⟨w.heap.size + 1, 0, none⟩ .nilIface).setCell ⟨w.heap.size + 1, 1, none⟩ (.int .i32 0)).alloc (.cells #[.nilIface, .int .i32 0] 30)).cell? ⟨w.heap.size + 1, 0, none⟩ = some .nilIface := (cellLow (HE.out.block _ hy) 0).trans n0
  have Z1 : (((w5.setCell ⟨w.heap.size + 1, 0, none⟩ .nilIface).setCell ⟨w.heap.size + 1, 1, none⟩ (.int .i32 0)).alloc (.cells #[.nilIface, .int .i32 0] 30)).cell? ⟨w.heap.size + 1, 1, none⟩ = some (.int .i32 0) := (cellLow (HE.out.block _ hy) 1).trans n1
  have HZ0 := hid Z0
  have HZ1 := hid Z1
  clear hctx hres Z0 Z1
  go_wp2_with fail
  go_region
  go_wp2_with fail
  exact bodyPost_ret (v := .tuple #[.agg #[.nilIface, .int .i32 0], .slice la' (m + 1) lc']) (by simp [results, Tryz.results11, go_sem, HZ0.out, HZ1.out]) rfl ⟨_, S, rfl, H5.out.below HE.out⟩

set_option maxHeartbeats 8000000 in
set_option maxRecDepth 100000 in
theorem low11mz (B n Bl m : Nat) (hn : n ≤ 4096) (h0 : ¬ 0 < n) (D : Nat) (q : Value) (rules low : Value) (sa : Option Addr) (sn sc : Nat) (xl : List Value) (w : World)
    (hD : w.heap[D]? = some (.cells ((fun rv => #[q, rv, .int .i32 0]) rules) 53 (0, 0))) (hr : DecO B n rules w) (hl : w.ownsRow Bl 30 2 low m xl) :
    Calls Tryz.prog 11 #[.agg #[.iface 50 (.pointer (some ⟨D, 0, none⟩)), .int .i32 0], .slice sa sn sc, .slice sa sn sc, low] w fun e w' => e = .returned (.tuple #[.agg #[.nilIface, .int .i32 0], low]) ∧ Below w.heap.size w w' := by
  have hDl := heap_lt hD
  obtain ⟨la, lc, rfl⟩ : ∃ la lc, low = .slice la m lc := by
    rcases hl.2 with ⟨e, h0⟩ | ⟨g, cap, cur, e, _⟩
    · exact ⟨none, 0, by rw [e, h0]⟩
    · exact ⟨_, cap, e⟩
  have hll : ∀ g, (Value.slice la m lc).ownBlock = some g → g < w.heap.size := fun g e => (hl.lt g e).2
  have HD := hid hD
  have HR := hid hr
  have HL := hid hl
  have HLL := hid hll
  clear hD hr hl hll
  go_enter Tryz.func11, Tryz.ntmps11
  go_wp2_with fail
  refine (low20mz B n Bl m hn h0 _ D (w.heap.size + 1 + 1 + 1) q rules (.slice la m lc) sa sn sc xl _ ?ga ?gb ?gc ?gd ?ge).mono ?_
  case ga => exact ((four_alloc w _ _ _ _).1.block D hDl).trans HD.out
  case gb => exact (four_alloc w _ _ _ _).2.2.2.2
  case gc => omega
  case gd => exact HR.out.below (four_alloc w _ _ _ _).1
  case ge => exact own_below HL.out (four_alloc w _ _ _ _).1
  rintro e w5 ⟨rfl, hb5⟩
  have hres : w5.heap[w.heap.size + 1]? = some (.cells #[.nilIface, .int .i32 0] 30 (0, 0)) := (hb5.block _ (by rw [(four_alloc w _ _ _ _).2.1]; omega)).trans (four_alloc w _ _ _ _).2.2.2.1
  have hctx : w5.heap[w.heap.size + 1 + 1 + 1]? = some (.cells #[.slice sa sn sc, .slice sa sn sc, .slice la m lc] 109 (0, 0)) := (hb5.block _ (by rw [(four_alloc w _ _ _ _).2.1]; omega)).trans (four_alloc w _ _ _ _).2.2.2.2
  have hB := (four_alloc w _ _ _ _).1.trans (hb5.mono (by rw [(four_alloc w _ _ _ _).2.1]; omega))
  have HB := hid hB
  clear hb5 hB
  obtain ⟨x2, _⟩ : w5.cell? ⟨w.heap.size + 1 + 1 + 1, 2, none⟩ = some (.slice la m lc) ∧ w5.frozen? ⟨w.heap.size + 1 + 1 + 1, 2, none⟩ = false := hcell hctx 2 _ rfl
  obtain ⟨n0, nf0⟩ : w5.cell? ⟨w.heap.size + 1, 0, none⟩ = some .nilIface ∧ w5.frozen? ⟨w.heap.size + 1, 0, none⟩ = false := hcell hres 0 _ rfl
  obtain ⟨n1, nf1⟩ : w5.cell? ⟨w.heap.size + 1, 1, none⟩ = some (.int .i32 0) ∧ w5.frozen? ⟨w.heap.size + 1, 1, none⟩ = false := hcell hres 1 _ rfl
  have hx := heap_lt hctx
  have hy := heap_lt hres
  have HE := hid (end11 .nilIface (.int .i32 0) hres (.cells #[.nilIface, .int .i32 0] 30))
  have Z0 : (((w5.setCell ⟨w.heap.size + 1, 0, none⟩ .nilIface).setCell ⟨w.heap.size + 1, 1, none⟩ (.int .i32 0)).alloc (.cells #[.nilIface, .int .i32 0] 30)).cell? ⟨w.heap.size + 1, 0, none⟩ = some .nilIface := (cellLow (HE.out.block _ hy) 0).trans n0
  have Z1 : (((w5.setCell ⟨w.heap.size + 1, 0, none⟩ .nilIface).setCell ⟨w.heap.size + 1, 1, none⟩ (.int .i32 0)).alloc (.cells #[.nilIface, .int .i32 0] 30)).cell? ⟨w.heap.size + 1, 1, none⟩ = some (.int .i32 0) := (cellLow (HE.out.block _ hy) 1).trans n1
  have HZ0 := hid Z0
  have HZ1 := hid Z1
  clear hctx hres Z0 Z1
  go_wp2_with fail
  go_region
  go_wp2_with fail
  exact bodyPost_ret (v := .tuple #[.agg #[.nilIface, .int .i32 0], .slice la m lc]) (by simp [results, Tryz.results11, go_sem, HZ0.out, HZ1.out]) rfl ⟨rfl, HB.out.trans (HE.out.mono HB.out.size)⟩

set_option maxHeartbeats 8000000 in
set_option maxRecDepth 100000 in
theorem low11k (B n Bl m : Nat) (hn : n ≤ 4096) (hm : m ≤ 4096) (h0 : 0 < n) (D : Nat) (q q2 : Value) (rules low : Value) (sa : Option Addr) (sn sc : Nat) (xl : List Value) (w : World)
    (hD : w.heap[D]? = some (.cells ((fun rv => #[q, q2, rv, .int .i32 0]) rules) 62 (0, 0))) (hr : DecO B n rules w) (hl : w.ownsRow Bl 30 2 low m xl) (hBl : Bl ≤ w.heap.size) :
    Calls Tryz.prog 11 #[.agg #[.iface 59 (.pointer (some ⟨D, 0, none⟩)), .int .i32 0], .slice sa sn sc, .slice sa sn sc, low] w fun e w' => R11s 59 62 (fun rv => #[q, q2, rv, .int .i32 0]) D (.slice sa sn sc) low rules Bl m xl w e w' := by
  have hDl := heap_lt hD
  obtain ⟨la, lc, rfl⟩ : ∃ la lc, low = .slice la m lc := by
    rcases hl.2 with ⟨e, h0⟩ | ⟨g, cap, cur, e, _⟩
    · exact ⟨none, 0, by rw [e, h0]⟩
    · exact ⟨_, cap, e⟩
  have hll : ∀ g, (Value.slice la m lc).ownBlock = some g → g < w.heap.size := fun g e => (hl.lt g e).2
  have HD := hid hD
  have HR := hid hr
  have HL := hid hl
  have HLL := hid hll
  clear hD hr hl hll
  go_enter Tryz.func11, Tryz.ntmps11
  go_wp2_with fail
  refine (low20k B n Bl m hn hm h0 _ D (w.heap.size + 1 + 1 + 1) q q2 rules (.slice la m lc) sa sn sc xl _ ?ga ?gb ?gc ?gd ?ge ?gf).mono ?_
  case ga => exact ((four_alloc w _ _ _ _).1.block D hDl).trans HD.out
  case gb => exact (four_alloc w _ _ _ _).2.2.2.2
  case gc => omega
  case gd => exact HR.out.below (four_alloc w _ _ _ _).1
  case ge => exact own_below HL.out (four_alloc w _ _ _ _).1
  case gf => rw [(four_alloc w _ _ _ _).2.1]; omega
  rintro e w5 hF0
  obtain ⟨S, rfl, hF⟩ := hF0.ex
  obtain ⟨low', hctx, hres, h5⟩ := hF.l5 hDl HLL.out
  obtain ⟨la', lc', rfl⟩ : ∃ la' lc', low' = .slice la' (m + 1) lc' := by
    rcases h5.own.2 with ⟨e, h0⟩ | ⟨g, cap, cur, e, _⟩
    · omega
    · exact ⟨_, cap, e⟩
  have H5 := hid h5
  clear hF hF0 h5
  obtain ⟨x2, _⟩ : w5.cell? ⟨w.heap.size + 1 + 1 + 1, 2, none⟩ = some (.slice la' (m + 1) lc') ∧ w5.frozen? ⟨w.heap.size + 1 + 1 + 1, 2, none⟩ = false := hcell hctx 2 _ rfl
  obtain ⟨n0, nf0⟩ : w5.cell? ⟨w.heap.size + 1, 0, none⟩ = some .nilIface ∧ w5.frozen? ⟨w.heap.size + 1, 0, none⟩ = false := hcell hres 0 _ rfl
  obtain ⟨n1, nf1⟩ : w5.cell? ⟨w.heap.size + 1, 1, none⟩ = some (.int .i32 0) ∧ w5.frozen? ⟨w.heap.size + 1, 1, none⟩ = false := hcell hres 1 _ rfl
  have hx := heap_lt hctx
  have hy := heap_lt hres
  have HE := hid (end11 .nilIface (.int .i32 0) hres (.cells #[.nilIface, .int .i32 0] 30))
  have Z0 : (((w5.setCell ⟨w.heap.size + 1, 0, none⟩ .nilIface).setCell ⟨w.heap.size + 1, 1, none⟩ (.int .i32 0)).alloc (.cells #[.nilIface, .int .i32 0] 30)).cell? ⟨w.heap.size + 1, 0, none⟩ = some .nilIface := (cellLow (HE.out.block _ hy) 0).trans n0
  have Z1 : (((w5.setCell ⟨w.heap.size + 1, 0, none⟩ .nilIface).setCell ⟨w.heap.size + 1, 1, none⟩ (.int .i32 0)).alloc (.cells #[.nilIface, .int .i32 0] 30)).cell? ⟨w.heap.size + 1, 1, none⟩ = some (.int .i32 0) := (cellLow (HE.out.block _ hy) 1).trans n1
  have HZ0 := hid Z0
  have HZ1 := hid Z1
  clear hctx hres Z0 Z1
  go_wp2_with fail
  go_region
  go_wp2_with fail
  exact bodyPost_ret (v := .tuple #[.agg #[.nilIface, .int .i32 0], .slice la' (m + 1) lc']) (by simp [results, Tryz.results11, go_sem, HZ0.out, HZ1.out]) rfl ⟨_, S, rfl, H5.out.below HE.out⟩

set_option maxHeartbeats 8000000 in
set_option maxRecDepth 100000 in
theorem low11kz (B n Bl m : Nat) (hn : n ≤ 4096) (h0 : ¬ 0 < n) (D : Nat) (q q2 : Value) (rules low : Value) (sa : Option Addr) (sn sc : Nat) (xl : List Value) (w : World)
    (hD : w.heap[D]? = some (.cells ((fun rv => #[q, q2, rv, .int .i32 0]) rules) 62 (0, 0))) (hr : DecO B n rules w) (hl : w.ownsRow Bl 30 2 low m xl) :
    Calls Tryz.prog 11 #[.agg #[.iface 59 (.pointer (some ⟨D, 0, none⟩)), .int .i32 0], .slice sa sn sc, .slice sa sn sc, low] w fun e w' => e = .returned (.tuple #[.agg #[.nilIface, .int .i32 0], low]) ∧ Below w.heap.size w w' := by
  have hDl := heap_lt hD
  obtain ⟨la, lc, rfl⟩ : ∃ la lc, low = .slice la m lc := by
    rcases hl.2 with ⟨e, h0⟩ | ⟨g, cap, cur, e, _⟩
    · exact ⟨none, 0, by rw [e, h0]⟩
    · exact ⟨_, cap, e⟩
  have hll : ∀ g, (Value.slice la m lc).ownBlock = some g → g < w.heap.size := fun g e => (hl.lt g e).2
  have HD := hid hD
  have HR := hid hr
  have HL := hid hl
  have HLL := hid hll
  clear hD hr hl hll
  go_enter Tryz.func11, Tryz.ntmps11
  go_wp2_with fail
  refine (low20kz B n Bl m hn h0 _ D (w.heap.size + 1 + 1 + 1) q q2 rules (.slice la m lc) sa sn sc xl _ ?ga ?gb ?gc ?gd ?ge).mono ?_
  case ga => exact ((four_alloc w _ _ _ _).1.block D hDl).trans HD.out
  case gb => exact (four_alloc w _ _ _ _).2.2.2.2
  case gc => omega
  case gd => exact HR.out.below (four_alloc w _ _ _ _).1
  case ge => exact own_below HL.out (four_alloc w _ _ _ _).1
  rintro e w5 ⟨rfl, hb5⟩
  have hres : w5.heap[w.heap.size + 1]? = some (.cells #[.nilIface, .int .i32 0] 30 (0, 0)) := (hb5.block _ (by rw [(four_alloc w _ _ _ _).2.1]; omega)).trans (four_alloc w _ _ _ _).2.2.2.1
  have hctx : w5.heap[w.heap.size + 1 + 1 + 1]? = some (.cells #[.slice sa sn sc, .slice sa sn sc, .slice la m lc] 109 (0, 0)) := (hb5.block _ (by rw [(four_alloc w _ _ _ _).2.1]; omega)).trans (four_alloc w _ _ _ _).2.2.2.2
  have hB := (four_alloc w _ _ _ _).1.trans (hb5.mono (by rw [(four_alloc w _ _ _ _).2.1]; omega))
  have HB := hid hB
  clear hb5 hB
  obtain ⟨x2, _⟩ : w5.cell? ⟨w.heap.size + 1 + 1 + 1, 2, none⟩ = some (.slice la m lc) ∧ w5.frozen? ⟨w.heap.size + 1 + 1 + 1, 2, none⟩ = false := hcell hctx 2 _ rfl
  obtain ⟨n0, nf0⟩ : w5.cell? ⟨w.heap.size + 1, 0, none⟩ = some .nilIface ∧ w5.frozen? ⟨w.heap.size + 1, 0, none⟩ = false := hcell hres 0 _ rfl
  obtain ⟨n1, nf1⟩ : w5.cell? ⟨w.heap.size + 1, 1, none⟩ = some (.int .i32 0) ∧ w5.frozen? ⟨w.heap.size + 1, 1, none⟩ = false := hcell hres 1 _ rfl
  have hx := heap_lt hctx
  have hy := heap_lt hres
  have HE := hid (end11 .nilIface (.int .i32 0) hres (.cells #[.nilIface, .int .i32 0] 30))
  have Z0 : (((w5.setCell ⟨w.heap.size + 1, 0, none⟩ .nilIface).setCell ⟨w.heap.size + 1, 1, none⟩ (.int .i32 0)).alloc (.cells #[.nilIface, .int .i32 0] 30)).cell? ⟨w.heap.size + 1, 0, none⟩ = some .nilIface := (cellLow (HE.out.block _ hy) 0).trans n0
  have Z1 : (((w5.setCell ⟨w.heap.size + 1, 0, none⟩ .nilIface).setCell ⟨w.heap.size + 1, 1, none⟩ (.int .i32 0)).alloc (.cells #[.nilIface, .int .i32 0] 30)).cell? ⟨w.heap.size + 1, 1, none⟩ = some (.int .i32 0) := (cellLow (HE.out.block _ hy) 1).trans n1
  have HZ0 := hid Z0
  have HZ1 := hid Z1
  clear hctx hres Z0 Z1
  go_wp2_with fail
  go_region
  go_wp2_with fail
  exact bodyPost_ret (v := .tuple #[.agg #[.nilIface, .int .i32 0], .slice la m lc]) (by simp [results, Tryz.results11, go_sem, HZ0.out, HZ1.out]) rfl ⟨rfl, HB.out.trans (HE.out.mono HB.out.size)⟩

set_option maxHeartbeats 8000000 in
set_option maxRecDepth 100000 in
theorem low11l (B n Bl m : Nat) (hn : n ≤ 4096) (hm : m ≤ 4096) (h0 : 0 < n) (D : Nat) (q : Value) (rules low : Value) (sa : Option Addr) (sn sc : Nat) (xl : List Value) (w : World)
    (hD : w.heap[D]? = some (.cells ((fun rv => #[q, rv, .int .i32 0]) rules) 58 (0, 0))) (hr : DecO B n rules w) (hl : w.ownsRow Bl 30 2 low m xl) (hBl : Bl ≤ w.heap.size) :
    Calls Tryz.prog 11 #[.agg #[.iface 55 (.pointer (some ⟨D, 0, none⟩)), .int .i32 0], .slice sa sn sc, .slice sa sn sc, low] w fun e w' => R11s 55 58 (fun rv => #[q, rv, .int .i32 0]) D (.slice sa sn sc) low rules Bl m xl w e w' := by
  have hDl := heap_lt hD
  obtain ⟨la, lc, rfl⟩ : ∃ la lc, low = .slice la m lc := by
    rcases hl.2 with ⟨e, h0⟩ | ⟨g, cap, cur, e, _⟩
    · exact ⟨none, 0, by rw [e, h0]⟩
    · exact ⟨_, cap, e⟩
  have hll : ∀ g, (Value.slice la m lc).ownBlock = some g → g < w.heap.size := fun g e => (hl.lt g e).2
  have HD := hid hD
  have HR := hid hr
  have HL := hid hl
  have HLL := hid hll
  clear hD hr hl hll
  go_enter Tryz.func11, Tryz.ntmps11
  go_wp2_with fail
  refine (low20l B n Bl m hn hm h0 _ D (w.heap.size + 1 + 1 + 1) q rules (.slice la m lc) sa sn sc xl _ ?ga ?gb ?gc ?gd ?ge ?gf).mono ?_
  case ga => exact ((four_alloc w _ _ _ _).1.block D hDl).trans HD.out
  case gb => exact (four_alloc w _ _ _ _).2.2.2.2
  case gc => omega
  case gd => exact HR.out.below (four_alloc w _ _ _ _).1
  case ge => exact own_below HL.out (four_alloc w _ _ _ _).1
  case gf => rw [(four_alloc w _ _ _ _).2.1]; omega
  rintro e w5 hF0
  obtain ⟨S, rfl, hF⟩ := hF0.ex
  obtain ⟨low', hctx, hres, h5⟩ := hF.l5 hDl HLL.out
  obtain ⟨la', lc', rfl⟩ : ∃ la' lc', low' = .slice la' (m + 1) lc' := by
    rcases h5.own.2 with ⟨e, h0⟩ | ⟨g, cap, cur, e, _⟩
    · omega
    · exact ⟨_, cap, e⟩
  have H5 := hid h5
  clear hF hF0 h5
  obtain ⟨x2, _⟩ : w5.cell? ⟨w.heap.size + 1 + 1 + 1, 2, none⟩ = some (.slice la' (m + 1) lc') ∧ w5.frozen? ⟨w.heap.size + 1 + 1 + 1, 2, none⟩ = false := hcell hctx 2 _ rfl
  obtain ⟨n0, nf0⟩ : w5.cell? ⟨w.heap.size + 1, 0, none⟩ = some .nilIface ∧ w5.frozen? ⟨w.heap.size + 1, 0, none⟩ = false := hcell hres 0 _ rfl
  obtain ⟨n1, nf1⟩ : w5.cell? ⟨w.heap.size + 1, 1, none⟩ = some (.int .i32 0) ∧ w5.frozen? ⟨w.heap.size + 1, 1, none⟩ = false := hcell hres 1 _ rfl
  have hx := heap_lt hctx
  have hy := heap_lt hres
  have HE := hid (end11 .nilIface (.int .i32 0) hres (.cells #[.nilIface, .int .i32 0] 30))
  have Z0 : (((w5.setCell ⟨w.heap.size + 1, 0, none⟩ .nilIface).setCell ⟨w.heap.size + 1, 1, none⟩ (.int .i32 0)).alloc (.cells #[.nilIface, .int .i32 0] 30)).cell? ⟨w.heap.size + 1, 0, none⟩ = some .nilIface := (cellLow (HE.out.block _ hy) 0).trans n0
  have Z1 : (((w5.setCell ⟨w.heap.size + 1, 0, none⟩ .nilIface).setCell ⟨w.heap.size + 1, 1, none⟩ (.int .i32 0)).alloc (.cells #[.nilIface, .int .i32 0] 30)).cell? ⟨w.heap.size + 1, 1, none⟩ = some (.int .i32 0) := (cellLow (HE.out.block _ hy) 1).trans n1
  have HZ0 := hid Z0
  have HZ1 := hid Z1
  clear hctx hres Z0 Z1
  go_wp2_with fail
  go_region
  go_wp2_with fail
  exact bodyPost_ret (v := .tuple #[.agg #[.nilIface, .int .i32 0], .slice la' (m + 1) lc']) (by simp [results, Tryz.results11, go_sem, HZ0.out, HZ1.out]) rfl ⟨_, S, rfl, H5.out.below HE.out⟩

set_option maxHeartbeats 8000000 in
set_option maxRecDepth 100000 in
theorem low11lz (B n Bl m : Nat) (hn : n ≤ 4096) (hm : m ≤ 4096) (h0 : ¬ 0 < n) (D : Nat) (q : Value) (rules low : Value) (sa : Option Addr) (sn sc : Nat) (xl : List Value) (w : World)
    (hD : w.heap[D]? = some (.cells ((fun rv => #[q, rv, .int .i32 0]) rules) 58 (0, 0))) (hr : DecO B n rules w) (hl : w.ownsRow Bl 30 2 low m xl) (hBl : Bl ≤ w.heap.size) :
    Calls Tryz.prog 11 #[.agg #[.iface 55 (.pointer (some ⟨D, 0, none⟩)), .int .i32 0], .slice sa sn sc, .slice sa sn sc, low] w fun e w' => R11z 55 58 (fun rv => #[q, rv, .int .i32 0]) D (.slice sa sn sc) low Bl m xl w e w' := by
  have hDl := heap_lt hD
  obtain ⟨la, lc, rfl⟩ : ∃ la lc, low = .slice la m lc := by
    rcases hl.2 with ⟨e, h0⟩ | ⟨g, cap, cur, e, _⟩
    · exact ⟨none, 0, by rw [e, h0]⟩
    · exact ⟨_, cap, e⟩
  have hll : ∀ g, (Value.slice la m lc).ownBlock = some g → g < w.heap.size := fun g e => (hl.lt g e).2
  have HD := hid hD
  have HR := hid hr
  have HL := hid hl
  have HLL := hid hll
  clear hD hr hl hll
  go_enter Tryz.func11, Tryz.ntmps11
  go_wp2_with fail
  refine (low20lz B n Bl m hn hm h0 _ D (w.heap.size + 1 + 1 + 1) q rules (.slice la m lc) sa sn sc xl _ ?ga ?gb ?gc ?gd ?ge ?gf).mono ?_
  case ga => exact ((four_alloc w _ _ _ _).1.block D hDl).trans HD.out
  case gb => exact (four_alloc w _ _ _ _).2.2.2.2
  case gc => omega
  case gd => exact HR.out.below (four_alloc w _ _ _ _).1
  case ge => exact own_below HL.out (four_alloc w _ _ _ _).1
  case gf => rw [(four_alloc w _ _ _ _).2.1]; omega
  rintro e w5 hF0
  obtain ⟨rfl, hF⟩ := hF0.ex
  obtain ⟨low', hctx, hres, h5⟩ := hF.l5 hDl HLL.out
  obtain ⟨la', lc', rfl⟩ : ∃ la' lc', low' = .slice la' (m + 1) lc' := by
    rcases h5.own.2 with ⟨e, h0⟩ | ⟨g, cap, cur, e, _⟩
    · omega
    · exact ⟨_, cap, e⟩
  have H5 := hid h5
  clear hF hF0 h5
  obtain ⟨x2, _⟩ : w5.cell? ⟨w.heap.size + 1 + 1 + 1, 2, none⟩ = some (.slice la' (m + 1) lc') ∧ w5.frozen? ⟨w.heap.size + 1 + 1 + 1, 2, none⟩ = false := hcell hctx 2 _ rfl
  obtain ⟨n0, nf0⟩ : w5.cell? ⟨w.heap.size + 1, 0, none⟩ = some .nilIface ∧ w5.frozen? ⟨w.heap.size + 1, 0, none⟩ = false := hcell hres 0 _ rfl
  obtain ⟨n1, nf1⟩ : w5.cell? ⟨w.heap.size + 1, 1, none⟩ = some (.int .i32 0) ∧ w5.frozen? ⟨w.heap.size + 1, 1, none⟩ = false := hcell hres 1 _ rfl
  have hx := heap_lt hctx
  have hy := heap_lt hres
  have HE := hid (end11 .nilIface (.int .i32 0) hres (.cells #[.nilIface, .int .i32 0] 30))
  have Z0 : (((w5.setCell ⟨w.heap.size + 1, 0, none⟩ .nilIface).setCell ⟨w.heap.size + 1, 1, none⟩ (.int .i32 0)).alloc (.cells #[.nilIface, .int .i32 0] 30)).cell? ⟨w.heap.size + 1, 0, none⟩ = some .nilIface := (cellLow (HE.out.block _ hy) 0).trans n0
  have Z1 : (((w5.setCell ⟨w.heap.size + 1, 0, none⟩ .nilIface).setCell ⟨w.heap.size + 1, 1, none⟩ (.int .i32 0)).alloc (.cells #[.nilIface, .int .i32 0] 30)).cell? ⟨w.heap.size + 1, 1, none⟩ = some (.int .i32 0) := (cellLow (HE.out.block _ hy) 1).trans n1
  have HZ0 := hid Z0
  have HZ1 := hid Z1
  clear hctx hres Z0 Z1
  go_wp2_with fail
  go_region
  go_wp2_with fail
  exact bodyPost_ret (v := .tuple #[.agg #[.nilIface, .int .i32 0], .slice la' (m + 1) lc']) (by simp [results, Tryz.results11, go_sem, HZ0.out, HZ1.out]) rfl ⟨_, rfl, H5.out.below HE.out⟩
end Go.Proofs.YtllafdcijpdopaaGreatFmt
