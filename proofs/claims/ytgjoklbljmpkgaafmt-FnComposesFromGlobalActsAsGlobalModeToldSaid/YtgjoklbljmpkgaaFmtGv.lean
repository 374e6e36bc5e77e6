/-
  The loop of the first law that finds the distinct names: the state between the appends and the stores. Conditions: each theorem's own.
-/
import Derived.Test.YtgjoklbljmpkgaaFmtGu
namespace Go.Proofs.YtgjoklbljmpkgaaFmt
open Go.RowKit Go.Lib Go.ChangeMaps
structure DM (ws : List NM) (MI : Nat) (w9 : World) (k : Nat) (vD vC : Value) (wx : World) : Prop where
  sz : MI < wx.heap.size
  os : wx.os = w9.os ∧ wx.tape = w9.tape ∧ wx.output = w9.output
  low : ∀ g, g < MI → wx.heap[g]? = w9.heap[g]?
  ne : NeB vD vC
  ex : ∃ xD xC, wx.ownsRow (MI + 1) 9 1 vD (dist (ws.take (k + 1))).length xD ∧ wx.ownsRow (MI + 1) 34 1 vC (dist (ws.take (k + 1))).length xC ∧
    (∀ i (h : i < (dist (ws.take (k + 1))).length), xD[i]? = some (.string (ba (dist (ws.take (k + 1)))[i]))) ∧ ∀ i (h : i < (dist (ws.take (k + 1))).length), xC[i]? = some (.int .u32 ((ws.take k).count (dist (ws.take (k + 1)))[i] : Nat))
  ix : ∃ xI, wx.ownsRow MI 3 1 (.slice (some ⟨MI, 0, none⟩) ws.length ws.length) ws.length xI ∧ ∀ i (h : i < ws.length), i < k → xI[i]? = some (.int .i64 ((dist ws).idxOf ws[i] : Nat))
theorem DI.toHit {ws : List NM} {MI : Nat} {w9 : World} {k : Nat} {vD vC : Value} {wx : World} (hk : k < ws.length) (hm : ws[k] ∈ ws.take k) (h : DI ws MI w9 k vD vC wx) : DM ws MI w9 k vD vC wx := by
  have ht : ws.take (k + 1) = ws.take k ++ [ws[k]] := List.take_succ_eq_append_getElem hk
  have hd : dist (ws.take (k + 1)) = dist (ws.take k) := by rw [ht, dist_snoc, if_pos ((mem_dist _ _).2 hm)]
  obtain ⟨xD, xC, h1, h2, h3⟩ := h.ex
  refine ⟨h.sz, h.os, h.low, h.ne, ⟨xD, xC, ?_, ?_, ?_, ?_⟩, h.ix⟩
  · rw [hd]; exact h1
  · rw [hd]; exact h2
  · rw [hd]; exact h3.d
  · rw [hd]; exact h3.c
theorem DM.store {ws : List NM} {MI : Nat} {w9 : World} {k gC cC : Nat} {vD : Value} {wx : World} (hk : k < ws.length) (h : DM ws MI w9 k vD (.slice (some ⟨gC, 0, none⟩) (dist (ws.take (k + 1))).length cC) wx) :
    DI ws MI w9 (k + 1) vD (.slice (some ⟨gC, 0, none⟩) (dist (ws.take (k + 1))).length cC) ((wx.setCell ⟨gC, (dist ws).idxOf ws[k], none⟩ (.int .u32 ((ws.take k).count ws[k] + 1 : Nat))).setCell ⟨MI, k, none⟩ (.int .i64 ((dist ws).idxOf ws[k] : Nat))) := by
  have ht : ws.take (k + 1) = ws.take k ++ [ws[k]] := List.take_succ_eq_append_getElem hk
  have hix : (dist ws).idxOf ws[k] = (dist (ws.take (k + 1))).idxOf ws[k] := (take_idx hk).symm
  have hmem : ws[k] ∈ ws.take (k + 1) := List.mem_take_iff_getElem.2 ⟨k, by omega, rfl⟩
  have hI := idx_lt _ _ hmem
  have hat : (dist (ws.take (k + 1)))[(dist (ws.take (k + 1))).idxOf ws[k]] = ws[k] := List.getElem_idxOf hI
  obtain ⟨xD, xC, h1, h2, h3, h3'⟩ := h.ex
  obtain ⟨xI, h4, h5⟩ := h.ix
  have hlC := h2.1
  have hgC := h2.lt gC rfl
  have hneD : vD.ownBlock ≠ some gC := by
    rcases h.ne with e | e
    · rw [e]; simp
    · exact e
  obtain ⟨o1, o2, o3⟩ := os_set wx ⟨gC, (dist ws).idxOf ws[k], none⟩ (.int .u32 ((ws.take k).count ws[k] + 1 : Nat))
  refine DI.index hk (by simp only [World.size_setCell]; exact h.sz) ⟨o1.trans h.os.1, o2.trans h.os.2.1, o3.trans h.os.2.2⟩ (fun g hg => (heap_setCell_other _ _ _ _ (by simp; omega)).trans (h.low g hg)) h.ne ⟨xD, xC.set ((dist ws).idxOf ws[k]) (.int .u32 ((ws.take k).count ws[k] + 1 : Nat)), ownsRow_setCell_other h1 hneD _, (h2.stored _ _).1, ⟨h3, ?_⟩⟩ ⟨xI, ownsRow_setCell_other h4 (by simp [Value.ownBlock]; omega) _, h5⟩
  intro i hi
  rw [hix]
  by_cases e : i = (dist (ws.take (k + 1))).idxOf ws[k]
  · subst e
    rw [List.getElem?_set_self (by omega), hat]
    have q : (ws.take (k + 1)).count ws[k] = (ws.take k).count ws[k] + 1 := by
      rw [ht, List.count_append]
      simp
    rw [q]
  · have hne : (dist (ws.take (k + 1)))[i] ≠ ws[k] := fun e2 => e (by rw [← e2]; exact ((nodup_dist _).idxOf_getElem i hi).symm)
    rw [List.getElem?_set_ne (by omega), h3' i hi]
    have : (ws.take (k + 1)).count (dist (ws.take (k + 1)))[i] = (ws.take k).count (dist (ws.take (k + 1)))[i] := by
      have q : ∀ x, x ≠ ws[k] → (ws.take (k + 1)).count x = (ws.take k).count x := fun x hx => by
        rw [ht, List.count_append, List.count_cons_of_ne (Ne.symm hx)]
        simp
      exact q _ hne
    rw [this]
theorem DI.miss {ws : List NM} {MI : Nat} {w9 : World} {k : Nat} {vD vC : Value} {wx : World} (hk : k < ws.length) (hw : ws.length ≤ 4096) (hm : ws[k] ∉ ws.take k) (h : DI ws MI w9 k vD vC wx) :
    ∃ g1 c1 w1 g2 c2 w2, (Builtin.append_ #[22, 22] 22 #[vD, .slice (some ⟨wx.heap.size, 0, none⟩) 1 1]).run Tryf.prog (wx.alloc (.cells #[.string (ba ws[k])] 9)) = .ok (.slice (some ⟨g1, 0, none⟩) ((dist (ws.take k)).length + 1) c1) w1 ∧
      (Builtin.append_ #[29, 29] 29 #[vC, .slice (some ⟨w1.heap.size, 0, none⟩) 1 1]).run Tryf.prog (w1.alloc (.cells #[.int .u32 0] 34)) = .ok (.slice (some ⟨g2, 0, none⟩) ((dist (ws.take k)).length + 1) c2) w2 ∧
      DM ws MI w9 k (.slice (some ⟨g1, 0, none⟩) ((dist (ws.take k)).length + 1) c1) (.slice (some ⟨g2, 0, none⟩) ((dist (ws.take k)).length + 1) c2) w2 := by
  have ht : ws.take (k + 1) = ws.take k ++ [ws[k]] := List.take_succ_eq_append_getElem hk
  have hd : dist (ws.take (k + 1)) = dist (ws.take k) ++ [ws[k]] := by rw [ht, dist_snoc, if_neg (fun e => hm ((mem_dist _ _).1 e))]
  have hn : (dist (ws.take k)).length ≤ 4096 := Nat.le_trans (dist_len _) (by rw [List.length_take]; omega)
  obtain ⟨xD, xC, h1, h2, h3⟩ := h.ex
  obtain ⟨xI, h4, h5⟩ := h.ix
  have hlD := h1.1
  have hlC := h2.1
  have hsz := h.sz
  obtain ⟨g1, c1, w1, a1, o1, r1, t1⟩ := appN (w := wx) (MI + 1) 22 9 _ 1 16 [.string (ba ws[k])] xD _ vD Tryf.underlying22 info9 rfl (by decide) (by decide) h1 rfl (by intro u hu; simp at hu; rcases hu with rfl; rfl) (by omega) (by omega)
  have s1 : wx.heap.size + 1 ≤ w1.heap.size := by have := r1.size; simp at this; omega
  have h2' : w1.ownsRow (MI + 1) 34 1 vC (dist (ws.take k)).length xC := (h2.alloc _).kept r1 (NeB.symm h.ne)
  have h4' : w1.ownsRow MI 3 1 (.slice (some ⟨MI, 0, none⟩) ws.length ws.length) ws.length xI := (h4.alloc _).kept r1 (Or.inr (fun e => by have := (h1.lt MI e.symm).1; omega))
  obtain ⟨g2, c2, w2, a2, o2, r2, t2⟩ := appN (w := w1) (MI + 1) 29 34 _ 1 4 [.int .u32 0] xC _ vC Tryf.underlying29 info34 rfl (by decide) (by decide) h2' rfl (by intro u hu; simp at hu; rcases hu with rfl; rfl) (by omega) (by omega)
  have s2 : w1.heap.size + 1 ≤ w2.heap.size := by have := r2.size; simp at this; omega
  have ne1 : (Value.slice (some ⟨g1, 0, none⟩) ((dist (ws.take k)).length + 1) c1).ownBlock ≠ vC.ownBlock := by
    intro e
    rcases t1 with t | t
    · rcases h.ne with e2 | e2
      · rw [t, e2] at e
        rw [e2] at t
        simp [Value.ownBlock] at t
      · exact e2 (t.symm.trans e)
    · have := (h2.lt _ (e.symm.trans t)).2
      rw [World.size_alloc] at this
      omega
  have o1' := (o1.alloc (.cells #[.int .u32 0] 34)).kept r2 (Or.inr ne1)
  have h4'' := (h4'.alloc (.cells #[.int .u32 0] 34)).kept r2 (Or.inr (fun e => by have := (h2'.lt MI e.symm).1; omega))
  refine ⟨g1, c1, w1, g2, c2, w2, a1, a2, by omega, ?_, ?_, ?_, ⟨xD ++ [.string (ba ws[k])], xC ++ [.int .u32 0], ?_, ?_, ?_, ?_⟩, ⟨xI, h4'', h5⟩⟩
  · exact ⟨(r2.os.trans r1.os).trans h.os.1, (r2.tape.trans r1.tape).trans h.os.2.1, (r2.output.trans r1.output).trans h.os.2.2⟩
  · intro g hg
    rw [r2.block g (by simp; omega) (fun e => by have := (h2'.lt g e.symm).1; omega), (World.grownBy_alloc w1 _ none).block g (by omega) (by simp), r1.block g (by simp; omega) (fun e => by have := (h1.lt g e.symm).1; omega), (World.grownBy_alloc wx _ none).block g (by omega) (by simp)]
    exact h.low g hg
  · right
    rcases t2 with t | t
    · rw [t]; exact ne1
    · rw [t]
      intro e
      have := (o1.lt _ e).2
      rw [World.size_alloc] at this
      omega
  · rw [hd, List.length_append]; exact o1'
  · rw [hd, List.length_append]; exact o2
  · rw [hd]
    intro i hi
    by_cases e : i < (dist (ws.take k)).length
    · rw [List.getElem?_append_left (by omega), List.getElem_append_left e]
      exact h3.d i e
    · have e2 : i = (dist (ws.take k)).length := by simp at hi; omega
      subst e2
      rw [List.getElem?_append_right (by omega), hlD]
      simp
  · rw [hd]
    intro i hi
    by_cases e : i < (dist (ws.take k)).length
    · rw [List.getElem?_append_left (by omega), List.getElem_append_left e]
      exact h3.c i e
    · have e2 : i = (dist (ws.take k)).length := by simp at hi; omega
      subst e2
      rw [List.getElem?_append_right (by omega), hlC]
      have : (ws.take k).count ws[k] = 0 := List.count_eq_zero.2 hm
      simp [this]
end Go.Proofs.YtgjoklbljmpkgaaFmt
