/-
  What the lowering of an at-rule keeps in the world. Conditions: each theorem's own.
-/
import Derived.Test.YtllafdcijpdopaaGreatFmtPi
namespace Go.Proofs.YtllafdcijpdopaaGreatFmt
open Go.RowKit Go.Lib
/-- what lowering an at-rule keeps in the world until it is appended -/
structure St (T TD : TypeId) (dc : Value → Array Value) (D C : Nat) (sels low : Value) (w : World) (rv lv : Value) (E : List (Nat × Obj)) (wx : World) : Prop where
  fr : ∀ g, g < w.heap.size → g ≠ D → g ≠ C → wx.heap[g]? = w.heap[g]?
  os : wx.os = w.os ∧ wx.tape = w.tape ∧ wx.output = w.output
  sz : w.heap.size + 4 ≤ wx.heap.size
  b0 : wx.heap[w.heap.size]? = some (.cells #[.iface T (.pointer (some ⟨D, 0, none⟩)), .int .i32 0] 30 (0, 0))
  b1 : wx.heap[w.heap.size + 1]? = some (.cells #[.pointer (some ⟨C, 0, none⟩)] 111 (0, 0))
  b2 : wx.heap[w.heap.size + 2]? = some (.cells #[.nilIface, .int .i32 0] 30 (0, 0))
  b3 : wx.heap[w.heap.size + 3]? = some (.cells #[sels, sels, lv] 109 (0, 0))
  d : wx.heap[D]? = some (.cells (dc rv) TD (0, 0))
  c : wx.heap[C]? = some (.cells #[sels, sels, low] 109 (0, 0))
  ex : ∀ p ∈ E, w.heap.size + 4 ≤ p.1 ∧ wx.heap[p.1]? = some p.2
section
variable {T TD : TypeId} {dc : Value → Array Value} {D C : Nat} {sels low : Value} {w : World} {rv lv : Value} {E : List (Nat × Obj)} {wx w' : World}
theorem St.below (h : St T TD dc D C sels low w rv lv E wx) (hb : Below wx.heap.size wx w') : St T TD dc D C sels low w rv lv E w' := by
  have hs := h.sz
  have hs' := hb.size
  exact ⟨fun g hg h1 h2 => (hb.block g (by omega)).trans (h.fr g hg h1 h2), ⟨hb.os.trans h.os.1, hb.tape.trans h.os.2.1, hb.output.trans h.os.2.2⟩, by omega, (hb.block _ (by omega)).trans h.b0, (hb.block _ (by omega)).trans h.b1, (hb.block _ (by omega)).trans h.b2, (hb.block _ (by omega)).trans h.b3, (hb.block _ (heap_lt h.d)).trans h.d, (hb.block _ (heap_lt h.c)).trans h.c, fun p hp => ⟨(h.ex p hp).1, (hb.block _ (heap_lt (h.ex p hp).2)).trans (h.ex p hp).2⟩⟩
theorem St.setD (hDw : D < w.heap.size) (hDC : D ≠ C) {f : Nat} (hd2 : ∀ r r', (dc r).setIfInBounds f r' = dc r') (h : St T TD dc D C sels low w rv lv E wx) (rv' : Value) : St T TD dc D C sels low w rv' lv E (wx.setCell ⟨D, f, none⟩ rv') := by
  have o : ∀ g, g ≠ D → (wx.setCell ⟨D, f, none⟩ rv').heap[g]? = wx.heap[g]? := fun g hg => hother _ _ _ hg
  refine ⟨fun g hg h1 h2 => (o g h1).trans (h.fr g hg h1 h2), h.os, by have := h.sz; simpa [World.setCell] using this, (o _ (by omega)).trans h.b0, (o _ (by omega)).trans h.b1, (o _ (by omega)).trans h.b2, (o _ (by omega)).trans h.b3, ?_, (o _ (Ne.symm hDC)).trans h.c, fun p hp => ⟨(h.ex p hp).1, (o _ (by have := (h.ex p hp).1; omega)).trans (h.ex p hp).2⟩⟩
  rw [← hd2 rv rv']
  exact hset h.d f rv'
theorem St.set3 (hDw : D < w.heap.size) (hCw : C < w.heap.size) (h : St T TD dc D C sels low w rv lv E wx) (lv' : Value) : St T TD dc D C sels low w rv lv' E (wx.setCell ⟨w.heap.size + 3, 2, none⟩ lv') := by
  have o : ∀ g, g ≠ w.heap.size + 3 → (wx.setCell ⟨w.heap.size + 3, 2, none⟩ lv').heap[g]? = wx.heap[g]? := fun g hg => hother _ _ _ hg
  refine ⟨fun g hg h1 h2 => (o g (by omega)).trans (h.fr g hg h1 h2), h.os, by have := h.sz; simpa [World.setCell] using this, (o _ (by omega)).trans h.b0, (o _ (by omega)).trans h.b1, (o _ (by omega)).trans h.b2, ?_, (o _ (by omega)).trans h.d, (o _ (by omega)).trans h.c, fun p hp => ⟨(h.ex p hp).1, (o _ (by have := (h.ex p hp).1; omega)).trans (h.ex p hp).2⟩⟩
  have := hset h.b3 2 lv'
  simpa using this
theorem St.more (h : St T TD dc D C sels low w rv lv E wx) {E' : List (Nat × Obj)} (he : ∀ p ∈ E', w.heap.size + 4 ≤ p.1 ∧ wx.heap[p.1]? = some p.2) : St T TD dc D C sels low w rv lv E' wx :=
  ⟨h.fr, h.os, h.sz, h.b0, h.b1, h.b2, h.b3, h.d, h.c, he⟩
theorem St.dec {B n : Nat} {v : Value} (h : St T TD dc D C sels low w rv lv E wx) (hT : TD ≠ 30) (hDC : w.heap[D]? = some (.cells (dc v) TD (0, 0))) (hC : w.heap[C]? = some (.cells #[sels, sels, low] 109 (0, 0))) (hd : DecO B n v w) : DecO B n v wx := by
  refine hd.keep fun g hg => ?_
  obtain ⟨xs, ho, _⟩ := hd.ex
  have hl := (ho.lt g hg).2
  have ht : ∃ cur, w.heap[g]? = some (.cells cur 30 (0, 0)) := by
    rcases ho.2 with ⟨rfl, _⟩ | ⟨g', cap, cur, rfl, _, hh, _⟩
    · simp [Value.ownBlock] at hg
    · simp [Value.ownBlock] at hg
      subst hg
      exact ⟨cur, hh⟩
  obtain ⟨cur, ht⟩ := ht
  refine h.fr g hl ?_ ?_
  · rintro rfl
    rw [ht] at hDC
    injection hDC with q
    injection q with _ q
    exact hT q.symm
  · rintro rfl
    rw [ht] at hC
    injection hC with q
    injection q with _ q
    exact absurd q (by decide)
theorem own_type {base n : Nat} {v : Value} {xs : List Value} (ho : w.ownsRow base 30 2 v n xs) {g : Nat} (hg : v.ownBlock = some g) : ∃ cur, w.heap[g]? = some (.cells cur 30 (0, 0)) := by
  rcases ho.2 with ⟨rfl, _⟩ | ⟨g', cap, cur, rfl, _, hh, _⟩
  · simp [Value.ownBlock] at hg
  · simp [Value.ownBlock] at hg
    subst hg
    exact ⟨cur, hh⟩
theorem St.ownR {Bl m : Nat} {v : Value} {xl : List Value} (h : St T TD dc D C sels low w rv lv E wx) (hT : TD ≠ 30) (hD0 : ∃ arr, w.heap[D]? = some (.cells arr TD (0, 0))) (hC0 : ∃ arr, w.heap[C]? = some (.cells arr 109 (0, 0))) (ho : w.ownsRow Bl 30 2 v m xl) :
    wx.ownsRow Bl 30 2 v m xl ∧ ∀ g, v.ownBlock = some g → wx.heap[g]? = w.heap[g]? ∧ g ≠ D ∧ g ≠ C ∧ g < w.heap.size := by
  have k : ∀ g, v.ownBlock = some g → wx.heap[g]? = w.heap[g]? ∧ g ≠ D ∧ g ≠ C ∧ g < w.heap.size := fun g hg => by
    have hl := (ho.lt g hg).2
    obtain ⟨cur, ht⟩ := own_type ho hg
    have nD : g ≠ D := by
      rintro rfl
      obtain ⟨arr, hD⟩ := hD0
      rw [ht] at hD
      injection hD with q
      injection q with _ q
      exact hT q.symm
    have nC : g ≠ C := by
      rintro rfl
      obtain ⟨arr, hC⟩ := hC0
      rw [ht] at hC
      injection hC with q
      injection q with _ q
      exact absurd q (by decide)
    exact ⟨h.fr g hl nD nC, nD, nC, hl⟩
  exact ⟨own_heap ho fun g hg => (k g hg).1, k⟩
theorem St.same (h : St T TD dc D C sels low w rv lv E wx) (hD : w.heap[D]? = some (.cells (dc rv) TD (0, 0))) (hC : w.heap[C]? = some (.cells #[sels, sels, low] 109 (0, 0))) : Below w.heap.size w wx := by
  refine ⟨h.os.1, h.os.2.1, h.os.2.2, by have := h.sz; omega, fun g hg => ?_⟩
  by_cases e : g = D
  · rw [e, h.d, hD]
  · by_cases e2 : g = C
    · rw [e2, h.c, hC]
    · exact h.fr g hg e e2
/-- what the lowering of an at-rule leaves -/
structure Fin (T TD : TypeId) (dc : Value → Array Value) (D C : Nat) (sels low : Value) (Bl m : Nat) (xl : List Value) (w : World) (kv : Value) (E : List (Nat × Obj)) (w' : World) : Prop where
  fr : ∀ g, g < w.heap.size → g ≠ D → g ≠ C → some g ≠ low.ownBlock → w'.heap[g]? = w.heap[g]?
  os : w'.os = w.os ∧ w'.tape = w.tape ∧ w'.output = w.output
  sz : w.heap.size + 4 ≤ w'.heap.size
  d : w'.heap[D]? = some (.cells (dc kv) TD (0, 0))
  c : ∃ low', w'.heap[C]? = some (.cells #[sels, sels, low'] 109 (0, 0)) ∧ w'.ownsRow Bl 30 2 low' (m + 1) (xl ++ [.iface T (.pointer (some ⟨D, 0, none⟩)), .int .i32 0])
  ex : ∀ p ∈ E, w.heap.size + 4 ≤ p.1 ∧ w'.heap[p.1]? = some p.2
theorem St.fin {Bl m : Nat} {xl : List Value} {o : Obj} {w9 : World} {low' : Value} (hDw : D < w.heap.size) (hCw : C < w.heap.size) (hDC : D ≠ C) (hT : TD ≠ 30) (hD0 : ∃ arr, w.heap[D]? = some (.cells arr TD (0, 0))) (hC0 : ∃ arr, w.heap[C]? = some (.cells arr 109 (0, 0))) (hl : w.ownsRow Bl 30 2 low m xl)
    (h : St T TD dc D C sels low w rv lv E wx) (hg : (wx.drew.alloc o).grownBy w9 low.ownBlock) (ho : w9.ownsRow Bl 30 2 low' (m + 1) (xl ++ [.iface T (.pointer (some ⟨D, 0, none⟩)), .int .i32 0])) (hat : low'.ownBlock = low.ownBlock ∨ low'.ownBlock = some (wx.drew.alloc o).heap.size) (u v : Value) :
    Fin T TD dc D C sels low Bl m xl w rv E (((w9.setCell ⟨C, 2, none⟩ low').setCell ⟨w.heap.size + 2, 0, none⟩ u).setCell ⟨w.heap.size + 2, 1, none⟩ v) := by
  have hs := h.sz
  have hz : (wx.drew.alloc o).heap.size = wx.heap.size + 1 := by simp
  have hs9 := hg.size
  have nD : some D ≠ low.ownBlock := fun e => by
    obtain ⟨cur, q⟩ := own_type hl e.symm
    obtain ⟨arr, hD⟩ := hD0
    rw [hD] at q
    injection q with q
    injection q with _ q
    exact hT q
  have nC : some C ≠ low.ownBlock := fun e => by
    obtain ⟨cur, q⟩ := own_type hl e.symm
    obtain ⟨arr, hC⟩ := hC0
    rw [hC] at q
    injection q with q
    injection q with _ q
    exact absurd q (by decide)
  have hlow : ∀ g, low.ownBlock = some g → g < w.heap.size := fun g e => (hl.lt g e).2
  have k9 : ∀ g, g < wx.heap.size → some g ≠ low.ownBlock → w9.heap[g]? = wx.heap[g]? := fun g hgl hne => by
    rw [hg.block g (by omega) hne]
    exact Below.heap_alloc wx o g hgl
  have big : ∀ g, w.heap.size ≤ g → g < wx.heap.size → w9.heap[g]? = wx.heap[g]? := fun g h1 h2 => k9 g h2 (fun e => by have := hlow g e.symm; omega)
  have oth : ∀ g, g ≠ C → g ≠ w.heap.size + 2 → (((w9.setCell ⟨C, 2, none⟩ low').setCell ⟨w.heap.size + 2, 0, none⟩ u).setCell ⟨w.heap.size + 2, 1, none⟩ v).heap[g]? = w9.heap[g]? := fun g h1 h2 => by
    rw [hother _ _ _ h2, hother _ _ _ h2, hother _ _ _ h1]
  have hDx := heap_lt h.d
  have hCx := heap_lt h.c
  refine ⟨fun g hgl h1 h2 h3 => ?_, ⟨hg.os.trans h.os.1, hg.tape.trans h.os.2.1, hg.output.trans h.os.2.2⟩, by simp [World.setCell]; omega, ?_, ⟨low', ?_, ?_⟩, fun p hp => ⟨(h.ex p hp).1, ?_⟩⟩
  · rw [oth g h2 (by omega), k9 g (by omega) h3]; exact h.fr g hgl h1 h2
  · rw [oth D hDC (by omega), k9 D hDx nD]; exact h.d
  · rw [hother _ _ _ (by omega), hother _ _ _ (by omega)]
    have := hset ((k9 C hCx nC).trans h.c) 2 low'
    simpa using this
  · refine own_heap ho fun g hgo => oth g ?_ ?_
    · rintro rfl
      obtain ⟨cur, q⟩ := own_type ho hgo
      rw [k9 g hCx nC, h.c] at q
      injection q with q
      injection q with _ q
      exact absurd q (by decide)
    · rintro rfl
      rcases hat with e | e
      · rw [e] at hgo
        have := hlow _ hgo
        omega
      · rw [e] at hgo
        injection hgo with hgo
        omega
  · have h1 := (h.ex p hp).1
    have h2 := (h.ex p hp).2
    rw [oth p.1 (by omega) (by omega), big p.1 (by omega) (heap_lt h2)]
    exact h2
end
theorem appNil (g c : Nat) (w : World) : (Builtin.append_ #[32, 32] 32 #[.slice (some ⟨g, 0, none⟩) 1 1, .slice none 0 c]).run Tryz.prog w = .ok (.slice (some ⟨g, 0, none⟩) 1 1) w := by
  obtain ⟨i, hi1, z0, z1, z2⟩ := info_parts info30
  simp [Builtin.append_, run_underlying Tryz.underlying32, sizeOf, typeInfo, hi1, Builtin.lenOf, Builtin.firstCells, storeCells]
structure S34 (N : Nat) (X : World → Prop) (v : Value) (wx : World) : Prop where
  ex : v = .pointer (some ⟨N, 0, none⟩) ∧ X wx
end Go.Proofs.YtllafdcijpdopaaGreatFmt
