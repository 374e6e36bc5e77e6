/-
  What the law's checks read. Conditions: each theorem's own.
-/
import Derived.Test.YtllafdcijpdopaaGreatFmtPo
namespace Go.Proofs.YtllafdcijpdopaaGreatFmt
open Go.RowKit Go.Lib
theorem cxs_amps {w : World} {v : Value} {xs : List CxM} (h : CxsAt w v xs) : ∀ x ∈ xs, ∀ c ∈ x, c.amps ≤ 255 := by
  intro x hx c hc
  obtain ⟨i, hi, rfl⟩ := List.mem_iff_getElem.1 hx
  obtain ⟨a, cc, e, hxx⟩ := h.ex
  obtain ⟨g, o, s, _, _, _, hs⟩ := hxx i hi
  obtain ⟨a', c', e', hx'⟩ := hs.ex
  obtain ⟨j, hj, rfl⟩ := List.mem_iff_getElem.1 hc
  obtain ⟨g', o', _, _, hcm⟩ := hx' j hj
  obtain ⟨_, _, _, _, _, _, q⟩ := hcm.ex
  exact q
structure W6 (T TD : TypeId) (dc : Value → Array Value) (D N9 n : Nat) (rules v6 : Value) (xs : List CxM) (B Bp Bq : Nat) (w wx : World) : Prop where
  bel : Below w.heap.size w wx
  n9 : wx.heap[N9]? = some (.cells #[.iface T (.pointer (some ⟨D, 0, none⟩)), .int .i32 0] 30 (0, 0))
  d : wx.heap[D]? = some (.cells (dc rules) TD (0, 0))
  lo : w.heap.size ≤ D ∧ w.heap.size ≤ Bq
  dec : DecO B n rules wx
  par : RowL CxT wx (fun g => Bp ≤ g ∧ g < Bq) v6 xs
  bp : D < Bp ∧ Bp ≤ Bq ∧ Bq ≤ wx.heap.size
  rl : ∀ g, rules.ownBlock = some g → g < Bp ∧ g ≠ D
section
variable {T TD : TypeId} {dc : Value → Array Value} {D N9 n : Nat} {rules v6 : Value} {xs : List CxM} {B Bp Bq : Nat} {w wx w' : World}
theorem W6.below (h : W6 T TD dc D N9 n rules v6 xs B Bp Bq w wx) (hb : Below wx.heap.size wx w') : W6 T TD dc D N9 n rules v6 xs B Bp Bq w w' :=
  ⟨h.bel.trans (hb.mono h.bel.size), (hb.block _ (heap_lt h.n9)).trans h.n9, (hb.block _ (heap_lt h.d)).trans h.d, h.lo, h.dec.below hb, h.par.below hb, ⟨h.bp.1, h.bp.2.1, Nat.le_trans h.bp.2.2 hb.size⟩, h.rl⟩
/-- what the law's checks read -/
structure RC (T TD : TypeId) (dc : Value → Array Value) (D n m : Nat) (rules v6 : Value) (xs : List CxM) (w : World) (kv : Value) (E : List (Nat × Obj)) (low' : Value) (wx : World) : Prop where
  bel : Below w.heap.size w wx
  d : wx.heap[D]? = some (.cells (dc kv) TD (0, 0))
  dec : DecL n rules wx
  par : RowL CxT wx (fun _ => True) v6 xs
  low : ∃ A c, low' = .slice (some ⟨A, 0, none⟩) (m + 1) c ∧ m + 1 ≤ c ∧ A < wx.heap.size ∧ (∀ i, i < m → ∃ b, wx.cell? ⟨A, i * 2, none⟩ = some (.iface 113 (.pointer (some ⟨b, 0, none⟩))) ∧ wx.cell? ⟨A, i * 2 + 1, none⟩ = some (.int .i32 0)) ∧ wx.cell? ⟨A, m * 2, none⟩ = some (.iface T (.pointer (some ⟨D, 0, none⟩))) ∧ wx.cell? ⟨A, m * 2 + 1, none⟩ = some (.int .i32 0)
  ex : ∀ p ∈ E, wx.heap[p.1]? = some p.2
theorem RC.below {m : Nat} {kv low' : Value} {E : List (Nat × Obj)} (h : RC T TD dc D n m rules v6 xs w kv E low' wx) (hb : Below wx.heap.size wx w') : RC T TD dc D n m rules v6 xs w kv E low' w' := by
  obtain ⟨A, c, e, hc, hA, h1, h2, h3⟩ := h.low
  have k : ∀ o, w'.cell? ⟨A, o, none⟩ = wx.cell? ⟨A, o, none⟩ := fun o => cellLow (hb.block A hA) o
  refine ⟨h.bel.trans (hb.mono h.bel.size), (hb.block _ (heap_lt h.d)).trans h.d, h.dec.below hb, h.par.below hb, ⟨A, c, e, hc, Nat.lt_of_lt_of_le hA hb.size, fun i hi => ?_, by rw [k]; exact h2, by rw [k]; exact h3⟩, fun p hp => (hb.block _ (heap_lt (h.ex p hp))).trans (h.ex p hp)⟩
  obtain ⟨b, q1, q2⟩ := h1 i hi
  exact ⟨b, by rw [k]; exact q1, by rw [k]; exact q2⟩
theorem RC.mk' {m Bl : Nat} {sels low kv low' : Value} {E : List (Nat × Obj)} {xl : List Value} {w8 : World} (hW : W6 T TD dc D N9 n rules v6 xs B Bp Bq w wx) (hol : wx.ownsRow Bl 30 2 low m xl) (hBl : Bq ≤ Bl) (hxl : ∀ i, i < m → (∃ b, xl[i * 2]? = some (.iface 113 (.pointer (some ⟨b, 0, none⟩)))) ∧ xl[i * 2 + 1]? = some (.int .i32 0))
    (h5 : L5 T TD dc D sels low Bl m xl wx kv E low' w8) : RC T TD dc D n m rules v6 xs w kv E low' w8 := by
  have hlo := hW.lo
  have hbp := hW.bp
  have hsz := h5.sz
  have hbs := hW.bel.size
  have lowge : ∀ g, low.ownBlock = some g → Bl ≤ g := fun g e => (hol.lt g e).1
  have same : ∀ g, g < Bq → g ≠ D → w8.heap[g]? = wx.heap[g]? := fun g h1 h2 => h5.fr g (by omega) h2 (fun e => by have := lowge g e.symm; omega)
  have hDL := hW.dec.decl
  refine ⟨⟨h5.os.1.trans hW.bel.os, h5.os.2.1.trans hW.bel.tape, h5.os.2.2.trans hW.bel.output, by omega, fun k hk => (same k (by omega) (by omega)).trans (hW.bel.block k hk)⟩, h5.d, ?_, ?_, ?_, fun p hp => (h5.ex p hp).2⟩
  · refine (hW.dec.keep fun g hg => ?_).decl
    have := hW.rl g hg
    exact same g (by omega) this.2
  · exact hW.par.keep ⟨by omega, fun g hp _ => same g hp.2 (by omega), fun _ _ _ => trivial⟩
  · have ho := h5.own
    have hlx := hol.1
    have ho2 := ho.2
    rcases ho2 with ⟨_, h0⟩ | ⟨A, c, cur, rfl, _, hh, hc, _⟩
    · omega
    · refine ⟨A, c, rfl, hc, heap_lt hh, fun i hi => ?_, ?_, ?_⟩
      · obtain ⟨⟨b, q1⟩, q2⟩ := hxl i hi
        refine ⟨b, ?_, ?_⟩
        · rw [World.ownsRow.cellAt ho (i * 2) (by omega), List.getElem?_append_left (by omega)]; exact q1
        · rw [World.ownsRow.cellAt ho (i * 2 + 1) (by omega), List.getElem?_append_left (by omega)]; exact q2
      · rw [World.ownsRow.cellAt ho (m * 2) (by omega), List.getElem?_append_right (by omega), hlx, Nat.sub_self]
        rfl
      · rw [World.ownsRow.cellAt ho (m * 2 + 1) (by omega), List.getElem?_append_right (by omega), hlx, show m * 2 + 1 - m * 2 = 1 by omega]
        rfl
end
/-- the parts of what stands behind the call -/
structure R14 (X : Value → World → Prop) (v11 v12 : Value) (wx : World) : Prop where
  ex : ∃ A, v11 = .pointer (some ⟨A, 0, none⟩) ∧ A < wx.heap.size ∧ wx.cell? ⟨A, 0, none⟩ = some .nilIface ∧ wx.cell? ⟨A, 1, none⟩ = some (.int .i32 0) ∧ X v12 wx
abbrev z30 : Obj := .cells #[.nilIface, .int .i32 0] 30
theorem below_z {X w7 : World} (hb : Below X.heap.size X w7) : ∀ N : Nat, X.heap[N]? = some (.cells #[.nilIface, .int .i32 0] 30 (0, 0)) → w7.heap[N]? = some (.cells #[.nilIface, .int .i32 0] 30 (0, 0)) := fun N h => (hb.block N (heap_lt h)).trans h
theorem l5_z {T TD : TypeId} {dc : Value → Array Value} {D : Nat} {sels low : Value} {Bl m : Nat} {xl : List Value} {X : World} {kv : Value} {E : List (Nat × Obj)} {low' : Value} {w8 : World} (h : L5 T TD dc D sels low Bl m xl X kv E low' w8) : ∀ N : Nat, N ≠ D → some N ≠ low.ownBlock → X.heap[N]? = some (.cells #[.nilIface, .int .i32 0] 30 (0, 0)) → w8.heap[N]? = some (.cells #[.nilIface, .int .i32 0] 30 (0, 0)) := fun N h1 h2 h3 => (h.fr N (heap_lt h3) h1 h2).trans h3
theorem r14_1 {X : Value → World → Prop} {w8 : World} {A : Nat} {low' : Value} (y : w8.heap[A]? = some (.cells #[.nilIface, .int .i32 0] 30 (0, 0))) (hX : ∀ w', Below w8.heap.size w8 w' → X low' w') : R14 X (.pointer (some ⟨A, 0, none⟩)) low' ((w8.setCell ⟨A, 0, none⟩ .nilIface).setCell ⟨A, 1, none⟩ (.int .i32 0)) := by
  have h0 := (hcell y 0 _ rfl).1
  have h1 : (w8.setCell ⟨A, 0, none⟩ .nilIface).cell? ⟨A, 1, none⟩ = some (.int .i32 0) := (cellLow (set_same h0 A) 1).trans (hcell y 1 _ rfl).1
  have hb := set_same_below (set_same_below (Below.refl w8.heap.size w8) h0) h1
  have hA := heap_lt y
  refine ⟨A, rfl, Nat.lt_of_lt_of_le hA hb.size, (cellLow (hb.block A hA) 0).trans h0, (cellLow (hb.block A hA) 1).trans (hcell y 1 _ rfl).1, hX _ hb⟩
theorem r14_2 {X : Value → World → Prop} {w8 : World} {low' : Value} (hX : ∀ w', Below w8.heap.size w8 w' → X low' w') : R14 X (.pointer (some ⟨w8.heap.size, 0, none⟩)) low' (w8.alloc (.cells #[.nilIface, .int .i32 0] 30)) := by
  have y := heap_alloc_new w8 (.cells #[.nilIface, .int .i32 0] 30)
  exact ⟨_, rfl, by simp, (hcell y 0 _ rfl).1, (hcell y 1 _ rfl).1, hX _ ((Below.refl _ _).alloc (Nat.le_refl _) _)⟩
theorem RC.pre {T TD : TypeId} {dc : Value → Array Value} {D n m : Nat} {rules v6 : Value} {xs : List CxM} {w wx : World} {kv : Value} {E : List (Nat × Obj)} {Al c : Nat} (h : RC T TD dc D n m rules v6 xs w kv E (.slice (some ⟨Al, 0, none⟩) (m + 1) c) wx) : DecL m (.slice (some ⟨Al, 0, none⟩) m c) wx ∧ Al < wx.heap.size ∧ wx.cell? ⟨Al, m * 2, none⟩ = some (.iface T (.pointer (some ⟨D, 0, none⟩))) ∧ wx.cell? ⟨Al, m * 2 + 1, none⟩ = some (.int .i32 0) := by
  obtain ⟨A, c', e, _, hA, h1, h2, h3⟩ := h.low
  cases e
  refine ⟨⟨_, _, rfl, fun i hi => ?_⟩, hA, h2, h3⟩
  obtain ⟨b, q1, q2⟩ := h1 i hi
  exact ⟨Al, b, rfl, hA, q1, q2⟩
theorem bel_alloc {w w2 : World} {o : Obj} (h : Below (w.alloc o).heap.size (w.alloc o) w2) : Below w.heap.size w w2 ∧ w2.heap[w.heap.size]? = some o ∧ w.heap.size < w2.heap.size := by
  have y := (h.block w.heap.size (by simp)).trans (heap_alloc_new w o)
  exact ⟨((Below.refl _ _).alloc (Nat.le_refl _) o).trans (h.mono (by simp)), y, heap_lt y⟩
end Go.Proofs.YtllafdcijpdopaaGreatFmt
