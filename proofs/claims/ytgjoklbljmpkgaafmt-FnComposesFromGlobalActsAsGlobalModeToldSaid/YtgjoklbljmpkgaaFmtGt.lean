/-
  The two laws: what stands in the world between the calls. Conditions: each theorem's own.
-/
import Derived.Test.YtgjoklbljmpkgaaFmtGv
namespace Go.Proofs.YtgjoklbljmpkgaaFmt
open Go.RowKit Go.Lib Go.ChangeMaps
structure FR (ws : List NM) (w : World) (v : Value) (wx : World) : Prop where
  ex : ∃ b : Bool, v = .bool b ∧ Below w.heap.size w wx ∧ (b = false → ∀ i (h : i < ws.length), i + 2 = ws.length → ¬ Fit (ba ws[i]) tFrom)
structure FA (sb : Option Addr) (ws : List NM) (pc : Nat) (m g : Bool) (M P S1 S2 S3 : Nat) (w wx : World) : Prop where
  bel : Below w.heap.size w wx
  nm : NamesAt sb ws.length ws wx
  lt : M < wx.heap.size ∧ P < wx.heap.size ∧ S1 < wx.heap.size ∧ S2 < wx.heap.size ∧ S3 < wx.heap.size
  c : wx.heap[M]? = some (.cells #[.slice (some ⟨P, 0, none⟩) pc pc, .slice (some ⟨S1, 0, none⟩) (dist (flat pc ws)).length (dist (flat pc ws)).length, .slice (some ⟨S2, 0, none⟩) (dist (flat pc ws)).length (dist (flat pc ws)).length, .slice (some ⟨S3, 0, none⟩) (dist (flat pc ws)).length (dist (flat pc ws)).length, .int .i64 ((if m then (dist (flat pc ws)).length else 0 : Nat) : Int), .bool g] 31)
  rows : ∀ k, k < pc → ∃ q, wx.cell? ⟨P, k, none⟩ = some (.slice (some ⟨q, 0, none⟩) ws.length ws.length) ∧ q < wx.heap.size ∧ ∀ j (h : j < ws.length), wx.cell? ⟨q, j, none⟩ = some (.int .u32 ((dist ws).idxOf ws[j] : Nat))
  syms : ∀ i (h : i < (dist (flat pc ws)).length), wx.cell? ⟨S1, i, none⟩ = some (.string (ba (dist (flat pc ws))[i])) ∧ wx.cell? ⟨S2, i, none⟩ = some (.bool m) ∧ wx.cell? ⟨S3, i, none⟩ = some (.int .u32 ((flat pc ws).count (dist (flat pc ws))[i] : Nat))
theorem cellLow {w w' : World} {g : Nat} (h : w'.heap[g]? = w.heap[g]?) (o : Nat) : w'.cell? ⟨g, o, none⟩ = w.cell? ⟨g, o, none⟩ := World.cell?_of_block (a := ⟨g, o, none⟩) h
theorem FA.low {sb : Option Addr} {ws : List NM} {pc : Nat} {m g : Bool} {M P S1 S2 S3 : Nat} {w wx w' : World} (h : FA sb ws pc m g M P S1 S2 S3 w wx) (hos : w'.os = wx.os ∧ w'.tape = wx.tape ∧ w'.output = wx.output) (hs : wx.heap.size ≤ w'.heap.size) (hb : ∀ q, q < wx.heap.size → w'.heap[q]? = wx.heap[q]?) : FA sb ws pc m g M P S1 S2 S3 w w' := by
  obtain ⟨l0, l1, l2, l3, l4⟩ := h.lt
  have hbs := h.bel.size
  refine ⟨⟨hos.1.trans h.bel.os, hos.2.1.trans h.bel.tape, hos.2.2.trans h.bel.output, by omega, fun q hq => (hb q (by omega)).trans (h.bel.block q hq)⟩, ⟨h.nm.len, fun i hi => ?_, h.nm.wf⟩, ⟨by omega, by omega, by omega, by omega, by omega⟩, (hb _ l0).trans h.c, fun k hk => ?_, fun i hi => ?_⟩
  · obtain ⟨q, o, e, e2, e3⟩ := h.nm.cell i hi
    exact ⟨q, o, e, by omega, (cellLow (hb q e2) _).trans e3⟩
  · obtain ⟨q, e1, e2, e3⟩ := h.rows k hk
    exact ⟨q, (cellLow (hb P l1) _).trans e1, by omega, fun j hj => (cellLow (hb q e2) _).trans (e3 j hj)⟩
  · obtain ⟨e1, e2, e3⟩ := h.syms i hi
    exact ⟨(cellLow (hb S1 l2) _).trans e1, (cellLow (hb S2 l3) _).trans e2, (cellLow (hb S3 l4) _).trans e3⟩
structure CS (ws : List NM) (pc : Nat) (g : Bool) (M MI P S1 S2 S3 : Nat) (sb sD sC : Option Addr) (w wx : World) : Prop where
  fa : FA sb ws pc g g M P S1 S2 S3 w wx
  mi : MI < wx.heap.size
  dn : ∀ i (h : i < (dist ws).length), ∃ q, sD = some ⟨q, 0, none⟩ ∧ q < wx.heap.size ∧ wx.cell? ⟨q, i, none⟩ = some (.string (ba (dist ws)[i]))
  dc : ∀ i (h : i < (dist ws).length), ∃ q, sC = some ⟨q, 0, none⟩ ∧ q < wx.heap.size ∧ wx.cell? ⟨q, i, none⟩ = some (.int .u32 (ws.count (dist ws)[i] : Nat))
  ix : ∀ i (h : i < ws.length), wx.cell? ⟨MI, i, none⟩ = some (.int .i64 ((dist ws).idxOf ws[i] : Nat))
theorem CS.drew {ws : List NM} {pc : Nat} {g : Bool} {M MI P S1 S2 S3 : Nat} {sb sD sC : Option Addr} {w wx : World} (h : CS ws pc g M MI P S1 S2 S3 sb sD sC w wx) : CS ws pc g M MI P S1 S2 S3 sb sD sC w wx.drew :=
  ⟨h.fa.low ⟨rfl, rfl, rfl⟩ (Nat.le_refl _) (fun _ _ => rfl), h.mi, h.dn, h.dc, h.ix⟩
theorem NamesAt.below' {sa : Option Addr} {n : Nat} {ws : List NM} {w w' : World} (h : NamesAt sa n ws w) (hb : Below w.heap.size w w') : NamesAt sa n ws w' :=
  ⟨h.len, fun i hi => by
    obtain ⟨q, o, e, e2, e3⟩ := h.cell i hi
    exact ⟨q, o, e, Nat.lt_of_lt_of_le e2 hb.size, (cellLow (hb.block q e2) _).trans e3⟩, h.wf⟩
theorem NamesAt.words {sa : Option Addr} {n : Nat} {ws : List NM} {w : World} (h : NamesAt sa n ws w) : WordsAt sa ws w := ⟨h.cell⟩
theorem info3 : (Tryf.prog.info? 3).map (fun i => (i.zero, i.size, i.bytes)) = some (some (.int .i64 0), 1, 8) := by kernel_rfl
abbrev resA (pc D P S1 S2 S3 V : Nat) (g : Bool) : Obj := .cells #[.slice (some ⟨P, 0, none⟩) pc pc, .slice (some ⟨S1, 0, none⟩) D D, .slice (some ⟨S2, 0, none⟩) D D, .slice (some ⟨S3, 0, none⟩) D D, .int .i64 (V : Int), .bool g] 31
theorem mkFA {sb : Option Addr} {ws : List NM} {pc : Nat} {m g : Bool} {P S1 S2 S3 V : Nat} {w w2 w3 : World} (hb2 : Below w.heap.size w w2) (hN : NamesAt sb ws.length ws w2) (hb4 : Below w2.heap.size w2 w3) (l1 : P < w3.heap.size) (l2 : S1 < w3.heap.size) (l3 : S2 < w3.heap.size) (l4 : S3 < w3.heap.size)
    (hr : ∀ k, k < pc → ∃ q, w3.cell? ⟨P, k, none⟩ = some (.slice (some ⟨q, 0, none⟩) ws.length ws.length) ∧ q < w3.heap.size ∧ ∀ j (h : j < ws.length), w3.cell? ⟨q, j, none⟩ = some (.int .u32 ((dist ws).idxOf ws[j] : Nat)))
    (hs : ∀ i (h : i < (dist (flat pc ws)).length), w3.cell? ⟨S1, i, none⟩ = some (.string (ba (dist (flat pc ws))[i])) ∧ w3.cell? ⟨S2, i, none⟩ = some (.bool m) ∧ w3.cell? ⟨S3, i, none⟩ = some (.int .u32 ((flat pc ws).count (dist (flat pc ws))[i] : Nat)))
    (hV : (if m then (dist (flat pc ws)).length else 0 : Nat) = V) : FA sb ws pc m g w3.heap.size P S1 S2 S3 w (w3.alloc (resA pc (dist (flat pc ws)).length P S1 S2 S3 V g)) := by
  subst hV
  have hb : Below w3.heap.size w3 (w3.alloc (resA pc (dist (flat pc ws)).length P S1 S2 S3 (if m then (dist (flat pc ws)).length else 0) g)) := (Below.refl _ _).alloc (Nat.le_refl _) _
  have cl : ∀ q o, q < w3.heap.size → (w3.alloc (resA pc (dist (flat pc ws)).length P S1 S2 S3 (if m then (dist (flat pc ws)).length else 0) g)).cell? ⟨q, o, none⟩ = w3.cell? ⟨q, o, none⟩ := fun q o hq => cellLow (hb.block q hq) o
  have hb23 := hb2.trans (hb4.mono hb2.size)
  refine ⟨hb23.trans (hb.mono hb23.size), (hN.below' hb4).below' hb, ?_, (MapKept.heap_alloc w3 _).1, fun k hk => ?_, fun i hi => ?_⟩
  · simp only [World.size_alloc]
    omega
  · obtain ⟨q, e1, e2, e3⟩ := hr k hk
    exact ⟨q, (cl _ _ l1).trans e1, by simp only [World.size_alloc]; omega, fun j hj => (cl _ _ e2).trans (e3 j hj)⟩
  · obtain ⟨e1, e2, e3⟩ := hs i hi
    exact ⟨(cl _ _ l2).trans e1, (cl _ _ l3).trans e2, (cl _ _ l4).trans e3⟩
theorem mkDI0 (ws : List NM) (w4 : World) (h : ws.length ≤ 4096) : DI ws w4.heap.size (w4.alloc (mkO (.int .i64 0) ws.length 3)) 0 (.slice none 0 0) (.slice none 0 0) (w4.alloc (mkO (.int .i64 0) ws.length 3)) := by
  have := mkO_own w4.heap.size (.int .i64 0) ws.length 1 3 w4 (Nat.le_refl _) (by omega)
  rw [Nat.mul_one] at this
  refine ⟨by simp, ⟨rfl, rfl, rfl⟩, fun _ _ => rfl, Or.inl rfl, ⟨[], [], ?_, ?_, ⟨?_, ?_⟩⟩, ⟨_, this, fun i hi h => by omega⟩⟩
  · exact World.ownsRow_nil _ _ _ _
  · exact World.ownsRow_nil _ _ _ _
  · intro i hi; simp [dist_nil] at hi
  · intro i hi; simp [dist_nil] at hi
theorem DI.shapes {ws : List NM} {MI : Nat} {w9 : World} {k : Nat} {vD vC : Value} {wx : World} (h : DI ws MI w9 k vD vC wx) : ∃ sD cD sC cC, vD = .slice sD (dist (ws.take k)).length cD ∧ vC = .slice sC (dist (ws.take k)).length cC := by
  obtain ⟨xD, xC, h1, h2, h3⟩ := h.ex
  have sh : ∀ {e : TypeId} {v : Value} {n : Nat} {xs : List Value} {b : Nat}, wx.ownsRow b e 1 v n xs → ∃ s c, v = .slice s n c := by
    intro e v n xs b ho
    rcases ho.2 with ⟨e, h0⟩ | ⟨g, cap, _, e, _⟩
    · exact ⟨none, 0, by rw [e, h0]⟩
    · exact ⟨_, cap, e⟩
  obtain ⟨sD, cD, e1⟩ := sh h1
  obtain ⟨sC, cC, e2⟩ := sh h2
  exact ⟨sD, cD, sC, cC, e1, e2⟩
theorem DI.cellD {ws : List NM} {MI : Nat} {w9 : World} {k : Nat} {sD : Option Addr} {n cD : Nat} {vC : Value} {wx : World} (h : DI ws MI w9 k (.slice sD n cD) vC wx) {j : Nat} (hj : j < (dist (ws.take k)).length) : ∃ q, sD = some ⟨q, 0, none⟩ ∧ q < wx.heap.size ∧ wx.cell? ⟨q, j, none⟩ = some (.string (ba (dist (ws.take k))[j])) := by
  obtain ⟨xD, xC, h1, h2, h3⟩ := h.ex
  have hl := h1.1
  have h1' := h1.2
  rcases h1' with ⟨e, h0⟩ | ⟨g, cap, _, e, _⟩
  · omega
  · cases e
    exact ⟨g, rfl, (h1.lt g rfl).2, (h1.cellAt _ (by omega)).trans (h3.d j hj)⟩
theorem DI.cellC {ws : List NM} {MI : Nat} {w9 : World} {k : Nat} {sC : Option Addr} {n cC : Nat} {vD : Value} {wx : World} (h : DI ws MI w9 k vD (.slice sC n cC) wx) {j : Nat} (hj : j < (dist (ws.take k)).length) : ∃ q, sC = some ⟨q, 0, none⟩ ∧ q < wx.heap.size ∧ wx.cell? ⟨q, j, none⟩ = some (.int .u32 ((ws.take k).count (dist (ws.take k))[j] : Nat)) := by
  obtain ⟨xD, xC, h1, h2, h3⟩ := h.ex
  have hl := h2.1
  have h2' := h2.2
  rcases h2' with ⟨e, h0⟩ | ⟨g, cap, _, e, _⟩
  · omega
  · cases e
    exact ⟨g, rfl, (h2.lt g rfl).2, (h2.cellAt _ (by omega)).trans (h3.c j hj)⟩
structure D1I (ws : List NM) (MI : Nat) (w9 : World) (g : Nat) (v9 v10 v12 : Value) (wx : World) : Prop where
  ex : ∃ i : Nat, i + g = ws.length ∧ v12 = .int .i64 i ∧ DI ws MI w9 i v9 v10 wx
structure D2I (ws : List NM) (nm : NM) (MI : Nat) (w9 : World) (i : Nat) (v9 v10 : Value) (g : Nat) (v13 : Value) (wx : World) : Prop where
  ex : ∃ j : Nat, j + g = (dist (ws.take i)).length ∧ v13 = .int .i64 j ∧ j ≤ (dist (ws.take i)).idxOf nm ∧ DI ws MI w9 i v9 v10 wx
structure D2E (ws : List NM) (nm : NM) (MI : Nat) (w9 : World) (i : Nat) (v9 v10 v13 : Value) (wx : World) : Prop where
  ex : v13 = .int .i64 ((dist ws).idxOf nm : Nat) ∧ DI ws MI w9 i v9 v10 wx
theorem ba_inj {a b : NM} (h : ba a = ba b) : a = b := by
  have := congrArg (fun x => x.data.toList) h
  simpa [ba_list] using this
theorem DI.drewN {ws : List NM} {MI : Nat} {w9 : World} {k : Nat} {vD vC : Value} {wx : World} (h : DI ws MI w9 k vD vC wx) (q : Nat) : DI ws MI w9 k vD vC (wx.drewN q) := ⟨h.sz, h.os, h.low, h.ne, h.ex, h.ix⟩
theorem CS.drewN {ws : List NM} {pc : Nat} {g : Bool} {M MI P S1 S2 S3 : Nat} {sb sD sC : Option Addr} {w wx : World} (h : CS ws pc g M MI P S1 S2 S3 sb sD sC w wx) (q : Nat) : CS ws pc g M MI P S1 S2 S3 sb sD sC w (wx.drewN q) :=
  ⟨h.fa.low ⟨rfl, rfl, rfl⟩ (Nat.le_refl _) (fun _ _ => rfl), h.mi, h.dn, h.dc, h.ix⟩
theorem ba_ne {a b : NM} (h : ¬ a = b) : ((ba a).toList == (ba b).toList) = false :=
  beq_eq_false_iff_ne.2 (fun e => h (by rw [Lib.toList_data, Lib.toList_data, ba_list, ba_list] at e; exact e))
theorem idx_next {l : List NM} {nm : NM} {j : Nat} (hj : j < l.length) (h : j ≤ l.idxOf nm) (e : ¬ l[j] = nm) : j + 1 ≤ l.idxOf nm := by
  by_cases h2 : l.idxOf nm = j
  · exfalso
    subst h2
    exact e (List.getElem_idxOf hj)
  · omega
theorem idx_here {l : List NM} {nm : NM} {j : Nat} (hj : j < l.length) (h : j ≤ l.idxOf nm) (e : l[j] = nm) : l.idxOf nm = j := by
  have h1 : l.idxOf nm ≤ j := by
    have hm : nm ∈ l := e ▸ List.getElem_mem hj
    by_cases h2 : j < l.idxOf nm
    · exfalso
      have := List.not_of_lt_findIdx (p := (· == nm)) (xs := l) (i := j) h2
      simp [e] at this
    · omega
  omega
theorem DM.facts {ws : List NM} {MI : Nat} {w9 : World} {k : Nat} {vD vC : Value} {wx : World} (hk : k < ws.length) (h : DM ws MI w9 k vD vC wx) : ∃ gC cC, vC = .slice (some ⟨gC, 0, none⟩) (dist (ws.take (k + 1))).length cC ∧ gC < wx.heap.size ∧ (dist ws).idxOf ws[k] < (dist (ws.take (k + 1))).length ∧
    wx.cell? ⟨gC, (dist ws).idxOf ws[k], none⟩ = some (.int .u32 ((ws.take k).count ws[k] : Nat)) ∧ wx.frozen? ⟨gC, (dist ws).idxOf ws[k], none⟩ = false ∧ (∃ x, wx.cell? ⟨MI, k, none⟩ = some x) ∧ wx.frozen? ⟨MI, k, none⟩ = false ∧ gC ≠ MI := by
  obtain ⟨xD, xC, h1, h2, h3, h4⟩ := h.ex
  obtain ⟨xI, h5, h6⟩ := h.ix
  have hl := h2.1
  have hl5 := h5.1
  have hmem : ws[k] ∈ ws.take (k + 1) := List.mem_take_iff_getElem.2 ⟨k, by omega, rfl⟩
  have hix : (dist ws).idxOf ws[k] = (dist (ws.take (k + 1))).idxOf ws[k] := (take_idx hk).symm
  have hI := idx_lt _ _ hmem
  have hat : (dist (ws.take (k + 1)))[(dist (ws.take (k + 1))).idxOf ws[k]] = ws[k] := List.getElem_idxOf hI
  have h2' := h2.2
  rcases h2' with ⟨e, h0⟩ | ⟨g, cap, _, e, _⟩
  · omega
  · subst e
    have hgg := h2.lt g rfl
    refine ⟨g, cap, rfl, hgg.2, by omega, ?_, h2.frozenAt _, ⟨_, (h5.cellAt _ (by omega)).trans (List.getElem?_eq_getElem (by omega))⟩, h5.frozenAt _, by omega⟩
    rw [hix, h2.cellAt _ (by omega), h4 _ hI, hat]
theorem idx_all {ws : List NM} {i : Nat} (hi : i < ws.length) : (dist (ws.take i)).idxOf ws[i] = (dist ws).idxOf ws[i] := by
  rw [← take_idx hi, List.take_succ_eq_append_getElem hi, dist_snoc]
  split
  · rfl
  · rename_i h
    rw [List.idxOf_append, if_neg h, List.idxOf_eq_length h]
    simp
theorem mkCS {ws : List NM} {pc : Nat} {g : Bool} {M P S1 S2 S3 : Nat} {sb sD sC : Option Addr} {n1 n2 cD cC : Nat} {w w9 wx : World}
    (hL : ∀ wx : World, (wx.os = w9.os ∧ wx.tape = w9.tape ∧ wx.output = w9.output) → M + 1 < wx.heap.size → (∀ q, q < M + 1 → wx.heap[q]? = w9.heap[q]?) → FA sb ws pc g g M P S1 S2 S3 w wx)
    (h : DI ws (M + 1) w9 ws.length (.slice sD n1 cD) (.slice sC n2 cC) wx) : CS ws pc g M (M + 1) P S1 S2 S3 sb sD sC w wx := by
  have hl : ws.take ws.length = ws := List.take_length
  refine ⟨hL wx h.os h.sz h.low, h.sz, fun i hi => ?_, fun i hi => ?_, fun i hi => ?_⟩
  · have q := h.cellD (j := i) (by rw [hl]; exact hi)
    simpa only [hl] using q
  · have q := h.cellC (j := i) (by rw [hl]; exact hi)
    simpa only [hl] using q
  · obtain ⟨xI, h5, h6⟩ := h.ix
    have hl5 := h5.1
    rw [h5.cellAt _ (by omega)]
    exact h6 i hi hi
structure KD (D : Nat) (w0 : World) (v : Value) (wx : World) : Prop where
  ex : v = .int .i64 (D : Nat) ∧ wx = w0
theorem dist_flat' (pc : Nat) (ws : List NM) : (pc = 0 ∧ (dist (flat pc ws)).length = 0) ∨ (pc ≠ 0 ∧ dist (flat pc ws) = dist ws) := by
  cases pc with
  | zero => exact Or.inl ⟨rfl, by simp [flat_zero, dist_nil]⟩
  | succ k => exact Or.inr ⟨by omega, dist_flat k ws⟩
structure C3I (ws : List NM) (pc : Nat) (g : Bool) (M MI P S1 S2 S3 : Nat) (sb sD sC : Option Addr) (w : World) (D : Nat) (gk : Nat) (v16 : Value) (wx : World) : Prop where
  ex : ∃ j : Nat, j + gk = D ∧ v16 = .int .i64 j ∧ CS ws pc g M MI P S1 S2 S3 sb sD sC w wx
structure RW (ws : List NM) (q : Nat) (wx : World) : Prop where
  lt : q < wx.heap.size
  c : ∀ j (h : j < ws.length), wx.cell? ⟨q, j, none⟩ = some (.int .u32 ((dist ws).idxOf ws[j] : Nat))
theorem RW.drewN {ws : List NM} {q : Nat} {wx : World} (h : RW ws q wx) (k : Nat) : RW ws q (wx.drewN k) := ⟨h.lt, h.c⟩
structure C5I (ws : List NM) (pc : Nat) (g : Bool) (M MI P S1 S2 S3 : Nat) (sb sD sC : Option Addr) (w : World) (q : Nat) (gk : Nat) (v19 : Value) (wx : World) : Prop where
  ex : ∃ k : Nat, k + gk = ws.length ∧ v19 = .int .i64 k ∧ CS ws pc g M MI P S1 S2 S3 sb sD sC w wx ∧ RW ws q wx
theorem CS.cells {ws : List NM} {pc : Nat} {g : Bool} {M MI P S1 S2 S3 : Nat} {sb sD sC : Option Addr} {w wx : World} (h : CS ws pc g M MI P S1 S2 S3 sb sD sC w wx) (hp : dist (flat pc ws) = dist ws) (j : Nat) (hj : j < (dist (flat pc ws)).length) :
    ∃ q1 q2 nm cn, sD = some ⟨q1, 0, none⟩ ∧ sC = some ⟨q2, 0, none⟩ ∧ S1 < wx.heap.size ∧ S2 < wx.heap.size ∧ S3 < wx.heap.size ∧ q1 < wx.heap.size ∧ q2 < wx.heap.size ∧ cn ≤ ws.length ∧
      wx.cell? ⟨S1, j, none⟩ = some (.string (ba nm)) ∧ wx.cell? ⟨S2, j, none⟩ = some (.bool g) ∧ wx.cell? ⟨S3, j, none⟩ = some (.int .u32 (pc * cn : Nat)) ∧ wx.cell? ⟨q1, j, none⟩ = some (.string (ba nm)) ∧ wx.cell? ⟨q2, j, none⟩ = some (.int .u32 (cn : Nat)) := by
  obtain ⟨e1, e2, e3⟩ := h.fa.syms j hj
  have hj' : j < (dist ws).length := by rw [← hp]; exact hj
  obtain ⟨q1, a1, a2, a3⟩ := h.dn j hj'
  obtain ⟨q2, b1, b2, b3⟩ := h.dc j hj'
  have hx : (dist (flat pc ws))[j] = (dist ws)[j] := by simp only [hp]
  rw [hx] at e1 e3
  rw [flat_count] at e3
  obtain ⟨l0, l1, l2, l3, l4⟩ := h.fa.lt
  exact ⟨q1, q2, _, _, a1, b1, l2, l3, l4, a2, b2, count_le _ _, e1, e2, e3, a3, b3⟩
theorem DI.shapesF {ws : List NM} {MI : Nat} {w9 : World} {vD vC : Value} {wx : World} (h : DI ws MI w9 ws.length vD vC wx) : ∃ sD cD sC cC, vD = .slice sD (dist ws).length cD ∧ vC = .slice sC (dist ws).length cC := by
  obtain ⟨sD, cD, sC, cC, h1, h2⟩ := h.shapes
  rw [List.take_length] at h1 h2
  exact ⟨sD, cD, sC, cC, h1, h2⟩
theorem six {w : World} {M : Nat} {a b c d e f : Value} {t : TypeId} (h : w.heap[M]? = some (.cells #[a, b, c, d, e, f] t)) :
    w.cell? ⟨M, 0, none⟩ = some a ∧ w.cell? ⟨M, 1, none⟩ = some b ∧ w.cell? ⟨M, 2, none⟩ = some c ∧ w.cell? ⟨M, 3, none⟩ = some d ∧ w.cell? ⟨M, 4, none⟩ = some e ∧ w.cell? ⟨M, 5, none⟩ = some f := by
  simp [World.cell?, h]
end Go.Proofs.YtgjoklbljmpkgaaFmt
