/-
  The loop of the first law that finds the distinct names: what stands in the world, step by step. Conditions: each theorem's own.
-/
import Derived.Test.YtgjoklbljmpkgaaFmtGr
namespace Go.Proofs.YtgjoklbljmpkgaaFmt
open Go.RowKit Go.Lib Go.ChangeMaps
structure DD (l : List NM) (xD xC : List Value) : Prop where
  d : ∀ i (h : i < (dist l).length), xD[i]? = some (.string (ba (dist l)[i]))
  c : ∀ i (h : i < (dist l).length), xC[i]? = some (.int .u32 (l.count (dist l)[i] : Nat))
theorem DD.hit {l : List NM} {xD xC : List Value} (h : DD l xD xC) (hl : xC.length = (dist l).length) (nm : NM) (hm : nm ∈ l) : DD (l ++ [nm]) xD (xC.set ((dist l).idxOf nm) (.int .u32 (l.count nm + 1 : Nat))) := by
  have hd : dist (l ++ [nm]) = dist l := by rw [dist_snoc, if_pos ((mem_dist l nm).2 hm)]
  have hI := idx_lt l nm hm
  have hat : (dist l)[(dist l).idxOf nm] = nm := List.getElem_idxOf hI
  constructor
  · rw [hd]; exact h.d
  · rw [hd]
    intro i hi
    by_cases e : i = (dist l).idxOf nm
    · subst e
      rw [List.getElem?_set_self (by omega), hat]
      simp
    · rw [List.getElem?_set_ne (by omega), h.c i hi, List.count_append]
      have hne : (dist l)[i] ≠ nm := fun e2 => e (by rw [← e2]; exact ((nodup_dist l).idxOf_getElem i hi).symm)
      rw [List.count_cons_of_ne (Ne.symm hne)]
      simp
theorem DD.miss {l : List NM} {xD xC : List Value} (h : DD l xD xC) (hD : xD.length = (dist l).length) (hC : xC.length = (dist l).length) (nm : NM) (hm : nm ∉ l) :
    DD (l ++ [nm]) (xD ++ [Value.string (ba nm)]) ((xC ++ [Value.int .u32 0]).set (dist l).length (.int .u32 1)) := by
  have hd : dist (l ++ [nm]) = dist l ++ [nm] := by rw [dist_snoc, if_neg (fun e => hm ((mem_dist l nm).1 e))]
  constructor
  · rw [hd]
    intro i hi
    by_cases e : i < (dist l).length
    · rw [List.getElem?_append_left (by omega), List.getElem_append_left e]
      exact h.d i e
    · have e2 : i = (dist l).length := by simp at hi; omega
      subst e2
      rw [List.getElem?_append_right (by omega), hD]
      simp
  · rw [hd]
    intro i hi
    by_cases e : i < (dist l).length
    · rw [List.getElem?_set_ne (by omega), List.getElem?_append_left (by omega), List.getElem_append_left e, h.c i e, List.count_append]
      have hne : (dist l)[i] ≠ nm := fun e2 => hm ((mem_dist l nm).1 (e2 ▸ List.getElem_mem e))
      rw [List.count_cons_of_ne (Ne.symm hne)]
      simp
    · have e2 : i = (dist l).length := by simp at hi; omega
      subst e2
      rw [List.getElem?_set_self (by simp; omega), List.count_append]
      have : l.count nm = 0 := List.count_eq_zero.2 hm
      simp [this]
structure DI (ws : List NM) (MI : Nat) (w9 : World) (k : Nat) (vD vC : Value) (wx : World) : Prop where
  sz : MI < wx.heap.size
  os : wx.os = w9.os ∧ wx.tape = w9.tape ∧ wx.output = w9.output
  low : ∀ g, g < MI → wx.heap[g]? = w9.heap[g]?
  ne : NeB vD vC
  ex : ∃ xD xC, wx.ownsRow (MI + 1) 9 1 vD (dist (ws.take k)).length xD ∧ wx.ownsRow (MI + 1) 34 1 vC (dist (ws.take k)).length xC ∧ DD (ws.take k) xD xC
  ix : ∃ xI, wx.ownsRow MI 3 1 (.slice (some ⟨MI, 0, none⟩) ws.length ws.length) ws.length xI ∧ ∀ i (h : i < ws.length), i < k → xI[i]? = some (.int .i64 ((dist ws).idxOf ws[i] : Nat))
theorem DI.drew {ws : List NM} {MI : Nat} {w9 : World} {k : Nat} {vD vC : Value} {wx : World} (h : DI ws MI w9 k vD vC wx) : DI ws MI w9 k vD vC wx.drew := by
  obtain ⟨xD, xC, h1, h2, h3⟩ := h.ex
  obtain ⟨xI, h4, h5⟩ := h.ix
  exact ⟨h.sz, h.os, h.low, h.ne, ⟨xD, xC, h1.drew, h2.drew, h3⟩, ⟨xI, h4.drew, h5⟩⟩
theorem take_idx {ws : List NM} {k : Nat} (hk : k < ws.length) : (dist (ws.take (k + 1))).idxOf ws[k] = (dist ws).idxOf ws[k] := by
  have := part_idx 0 (k + 1) ws ws[k] (by unfold part; rw [flat_zero, List.nil_append]; exact List.mem_take_iff_getElem.2 ⟨k, by omega, rfl⟩)
  unfold part at this
  rwa [flat_zero, List.nil_append] at this
/-- the index is laid -/
theorem DI.index {ws : List NM} {MI : Nat} {w9 : World} {k : Nat} {vD vC : Value} {wx : World} (hk : k < ws.length) (hsz : MI < wx.heap.size) (hos : wx.os = w9.os ∧ wx.tape = w9.tape ∧ wx.output = w9.output) (hlow : ∀ g, g < MI → wx.heap[g]? = w9.heap[g]?)
    (hne : NeB vD vC) (hex : ∃ xD xC, wx.ownsRow (MI + 1) 9 1 vD (dist (ws.take (k + 1))).length xD ∧ wx.ownsRow (MI + 1) 34 1 vC (dist (ws.take (k + 1))).length xC ∧ DD (ws.take (k + 1)) xD xC)
    (hix : ∃ xI, wx.ownsRow MI 3 1 (.slice (some ⟨MI, 0, none⟩) ws.length ws.length) ws.length xI ∧ ∀ i (h : i < ws.length), i < k → xI[i]? = some (.int .i64 ((dist ws).idxOf ws[i] : Nat))) :
    DI ws MI w9 (k + 1) vD vC (wx.setCell ⟨MI, k, none⟩ (.int .i64 ((dist ws).idxOf ws[k] : Nat))) := by
  obtain ⟨xD, xC, h1, h2, h3⟩ := hex
  obtain ⟨xI, h4, h5⟩ := hix
  have hl := h4.1
  obtain ⟨o1, o2, o3⟩ := os_set wx ⟨MI, k, none⟩ (.int .i64 ((dist ws).idxOf ws[k] : Nat))
  refine ⟨by simp only [World.size_setCell]; exact hsz, ⟨o1.trans hos.1, o2.trans hos.2.1, o3.trans hos.2.2⟩, fun g hg => (heap_setCell_other _ _ _ _ (by simp; omega)).trans (hlow g hg), hne, ⟨xD, xC, ownsRow_setCell_below h1 (by simp) _, ownsRow_setCell_below h2 (by simp) _, h3⟩, ⟨_, (h4.stored k _).1, fun i hi hik => ?_⟩⟩
  by_cases e : i = k
  · subst e; exact List.getElem?_set_self (by omega)
  · rw [List.getElem?_set_ne (by omega)]; exact h5 i hi (by omega)
/-- a name that has been seen -/
theorem DI.hit {ws : List NM} {MI : Nat} {w9 : World} {k gC cC : Nat} {vD : Value} {wx : World} (hk : k < ws.length) (hm : ws[k] ∈ ws.take k)
    (h : DI ws MI w9 k vD (.slice (some ⟨gC, 0, none⟩) (dist (ws.take k)).length cC) wx) :
    DI ws MI w9 (k + 1) vD (.slice (some ⟨gC, 0, none⟩) (dist (ws.take (k + 1))).length cC) ((wx.setCell ⟨gC, (dist ws).idxOf ws[k], none⟩ (.int .u32 ((ws.take k).count ws[k] + 1 : Nat))).setCell ⟨MI, k, none⟩ (.int .i64 ((dist ws).idxOf ws[k] : Nat))) := by
  have ht : ws.take (k + 1) = ws.take k ++ [ws[k]] := List.take_succ_eq_append_getElem hk
  have hd : dist (ws.take (k + 1)) = dist (ws.take k) := by rw [ht, dist_snoc, if_pos ((mem_dist _ _).2 hm)]
  have hix : (dist ws).idxOf ws[k] = (dist (ws.take k)).idxOf ws[k] := by rw [← take_idx hk, hd]
  obtain ⟨xD, xC, h1, h2, h3⟩ := h.ex
  obtain ⟨xI, h4, h5⟩ := h.ix
  have hlC := h2.1
  have hgC := h2.lt gC rfl
  have hneD : vD.ownBlock ≠ some gC := by
    rcases h.ne with e | e
    · rw [e]; simp
    · exact e
  obtain ⟨o1, o2, o3⟩ := os_set wx ⟨gC, (dist ws).idxOf ws[k], none⟩ (.int .u32 ((ws.take k).count ws[k] + 1 : Nat))
  refine DI.index hk (by simp only [World.size_setCell]; exact h.sz) ⟨o1.trans h.os.1, o2.trans h.os.2.1, o3.trans h.os.2.2⟩ (fun g hg => (heap_setCell_other _ _ _ _ (by simp; omega)).trans (h.low g hg)) ?_ ⟨xD, xC.set ((dist ws).idxOf ws[k]) (.int .u32 ((ws.take k).count ws[k] + 1 : Nat)), ?_, ?_, ?_⟩ ⟨xI, ownsRow_setCell_other h4 (by simp [Value.ownBlock]; omega) _, h5⟩
  · rw [hd]; exact h.ne
  · rw [hd]; exact ownsRow_setCell_other h1 hneD _
  · rw [hd]; exact (h2.stored _ _).1
  · rw [ht, hix]
    exact h3.hit (by omega) _ hm
end Go.Proofs.YtgjoklbljmpkgaaFmt
