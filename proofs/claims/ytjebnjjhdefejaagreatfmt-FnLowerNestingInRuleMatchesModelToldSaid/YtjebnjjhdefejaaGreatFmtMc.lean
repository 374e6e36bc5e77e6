/-
  The tree of numbers under way. Conditions: each theorem's own.
-/
import Derived.Test.YtjebnjjhdefejaaGreatFmtMb
namespace Go.Proofs.YtjebnjjhdefejaaGreatFmt
open Go.RowKit Go.Lib Go.ChangeMaps
structure ShR (n : Nat) (par : Nat → Option Nat) (kd : Nat → Nat) (w : World) (e : Ending) (w' : World) : Prop where
  ex : ∃ kb kc cb cc ra rc pb pc, e = .returned (.agg (treeC n kb kc cb cc ra (ofP par n none).length rc pb pc)) ∧ TreeAt w' n par kd kb cb ra rc pb ∧ Below w.heap.size w w'
/-- the parents under way -/
structure ShD (w : World) (n : Nat) (par : Nat → Option Nat) (k : Nat) (V : Option Nat → Value) (wx : World) : Prop where
  rows : RowsP wx (w.heap.size + 1 + 1 + 1) n k par V
  kids : ∃ arr, wx.heap[w.heap.size + 1]? = some (.cells arr 27 (0, 0)) ∧ arr.size = n ∧ ∀ j, j < n → arr[j]? = some (V (some j))
  pars : ∃ parr, wx.heap[w.heap.size + 1 + 1]? = some (.cells parr 3 (0, 0)) ∧ parr.size = n ∧ ∀ i, i < k → parr[i]? = some (.int .i64 (parV (par i)))
  res : wx.heap[w.heap.size]? = some (.cells #[.slice none 0 0, .slice none 0 0, .slice none 0 0, .slice none 0 0] 30 (0, 0))
  bel : Below w.heap.size w wx
structure Sh1 (w : World) (n : Nat) (par : Nat → Option Nat) (g : Nat) (v10 v11 : Value) (wx : World) : Prop where
  ex : ∃ k V, k + g = n ∧ v11 = .int .i64 (k : Nat) ∧ v10 = V none ∧ ShD w n par k V wx
structure ShV (z : Int) (wr : World) (v : Value) (wx : World) : Prop where
  ex : v = .int .i64 z ∧ wx = wr
/-- the parent stored -/
theorem ShD.par {w : World} {n : Nat} {par : Nat → Option Nat} {k : Nat} {V : Option Nat → Value} {wx : World} (h : ShD w n par k V wx) (hk : k < n) : ∃ parr, (wx.setCell ⟨w.heap.size + 1 + 1, k, none⟩ (.int .i64 (parV (par k)))).heap[w.heap.size + 1 + 1]? = some (.cells parr 3 (0, 0)) ∧ parr.size = n ∧ ∀ i, i < k + 1 → parr[i]? = some (.int .i64 (parV (par i))) := by
  obtain ⟨parr, h1, h2, h3⟩ := h.pars
  refine ⟨_, hset h1 k _, by simpa using h2, fun i hi => ?_⟩
  by_cases e : i = k
  · subst e
    rw [Array.getElem?_setIfInBounds, if_pos rfl, if_pos (by omega)]
  · rw [Array.getElem?_setIfInBounds, if_neg (by omega)]
    exact h3 i (by omega)
theorem ShD.own {w : World} {n : Nat} {par : Nat → Option Nat} {k : Nat} {V : Option Nat → Value} {wx : World} (h : ShD w n par k V wx) (hk : k < n) (hn : n ≤ 4096) (hp : ∀ p, par k = some p → p < n) :
    let W5 := wx.setCell ⟨w.heap.size + 1 + 1, k, none⟩ (.int .i64 (parV (par k)))
    ∃ v' w', (Builtin.append_ #[27, 27] 27 #[V (par k), .slice (some ⟨W5.heap.size, 0, none⟩) 1 1]).run Tryz.prog (W5.alloc (.cells #[.int .i64 (k : Int)] 3)) = .ok v' w' ∧ W5.grownBy w' (V (par k)).ownBlock ∧
      RowsP w' (w.heap.size + 1 + 1 + 1) n (k + 1) par (fun o => if o = par k then v' else V o) ∧ ∃ a c, v' = .slice a ((ofP par k (par k)).length + 1) c := by
  intro W5
  obtain ⟨parr, h1, _⟩ := h.par hk
  have hb := heap_lt h1
  exact RowsP.step (h.rows.keep (fun g hg _ => hother _ _ _ (by omega))) (show _ ≤ (wx.setCell ⟨w.heap.size + 1 + 1, k, none⟩ (.int .i64 (parV (par k)))).heap.size by omega) (by omega) hp
/-- a child of p -/
theorem ShD.toKid {w : World} {n : Nat} {par : Nat → Option Nat} {k : Nat} {V : Option Nat → Value} {wx w' : World} {v' : Value} {p : Nat} (h : ShD w n par k V wx) (hk : k < n) (hp : par k = some p) (hpn : p < n)
    (hg : (wx.setCell ⟨w.heap.size + 1 + 1, k, none⟩ (.int .i64 (parV (par k)))).grownBy w' (V (par k)).ownBlock) (hr : RowsP w' (w.heap.size + 1 + 1 + 1) n (k + 1) par (fun o => if o = par k then v' else V o)) :
    ShD w n par (k + 1) (fun o => if o = par k then v' else V o) (w'.setCell ⟨w.heap.size + 1, p, none⟩ v') := by
  obtain ⟨parr, q1, q2, q3⟩ := h.par hk
  obtain ⟨arr, a1, a2, a3⟩ := h.kids
  have hz : (wx.setCell ⟨w.heap.size + 1 + 1, k, none⟩ (.int .i64 (parV (par k)))).heap.size = wx.heap.size := by simp [World.setCell]
  have hge : ∀ g, (V (par k)).ownBlock = some g → w.heap.size + 1 + 1 + 1 ≤ g := (h.rows.own (par k) (by rw [hp]; intro q e; injection e with e; omega)).2
  have k5 : ∀ g, g ≤ w.heap.size + 1 + 1 → g < wx.heap.size → w'.heap[g]? = (wx.setCell ⟨w.heap.size + 1 + 1, k, none⟩ (.int .i64 (parV (par k)))).heap[g]? := fun g h1 h2 => hg.block g (by omega) (fun e => by have := hge g e.symm; omega)
  have hpl : w.heap.size + 1 + 1 < wx.heap.size := by have := heap_lt q1; omega
  have o5 := os_set wx ⟨w.heap.size + 1 + 1, k, none⟩ (.int .i64 (parV (par k)))
  have o6 := os_set w' ⟨w.heap.size + 1, p, none⟩ v'
  have hbs := h.bel.size
  have hgs := hg.size
  refine ⟨hr.keep (fun g hg _ => hother _ _ _ (by omega)), ⟨_, hset ((k5 _ (by omega) (by omega)).trans ((hother _ _ _ (by omega)).trans a1)) p v', by simpa using a2, fun j hj => ?_⟩, ⟨parr, (hother _ _ _ (by omega)).trans ((k5 _ (Nat.le_refl _) hpl).trans q1), q2, q3⟩, (hother _ _ _ (by omega)).trans ((k5 _ (by omega) (by omega)).trans ((hother _ _ _ (by omega)).trans h.res)), ⟨o6.1.trans (hg.os.trans (o5.1.trans h.bel.os)), o6.2.1.trans (hg.tape.trans (o5.2.1.trans h.bel.tape)), o6.2.2.trans (hg.output.trans (o5.2.2.trans h.bel.output)), by simp [World.setCell] at hgs ⊢; omega, fun g hgl => (hother _ _ _ (by omega)).trans ((k5 g (by omega) (by omega)).trans ((hother _ _ _ (by omega)).trans (h.bel.block g hgl)))⟩⟩
  by_cases e : j = p
  · subst e
    rw [Array.getElem?_setIfInBounds, if_pos rfl, if_pos (by omega)]
    simp [hp]
  · rw [Array.getElem?_setIfInBounds, if_neg (by omega), a3 j hj]
    simp [hp, e]
/-- a root -/
theorem ShD.toRoot {w : World} {n : Nat} {par : Nat → Option Nat} {k : Nat} {V : Option Nat → Value} {wx w' : World} {v' : Value} (h : ShD w n par k V wx) (hk : k < n) (hp : par k = none)
    (hg : (wx.setCell ⟨w.heap.size + 1 + 1, k, none⟩ (.int .i64 (parV (par k)))).grownBy w' (V (par k)).ownBlock) (hr : RowsP w' (w.heap.size + 1 + 1 + 1) n (k + 1) par (fun o => if o = par k then v' else V o)) :
    ShD w n par (k + 1) (fun o => if o = par k then v' else V o) w' := by
  obtain ⟨parr, q1, q2, q3⟩ := h.par hk
  obtain ⟨arr, a1, a2, a3⟩ := h.kids
  have hz : (wx.setCell ⟨w.heap.size + 1 + 1, k, none⟩ (.int .i64 (parV (par k)))).heap.size = wx.heap.size := by simp [World.setCell]
  have hge : ∀ g, (V (par k)).ownBlock = some g → w.heap.size + 1 + 1 + 1 ≤ g := (h.rows.own (par k) (by rw [hp]; intro q e; cases e)).2
  have k5 : ∀ g, g ≤ w.heap.size + 1 + 1 → g < wx.heap.size → w'.heap[g]? = (wx.setCell ⟨w.heap.size + 1 + 1, k, none⟩ (.int .i64 (parV (par k)))).heap[g]? := fun g h1 h2 => hg.block g (by omega) (fun e => by have := hge g e.symm; omega)
  have hpl : w.heap.size + 1 + 1 < wx.heap.size := by have := heap_lt q1; omega
  have o5 := os_set wx ⟨w.heap.size + 1 + 1, k, none⟩ (.int .i64 (parV (par k)))
  have hbs := h.bel.size
  have hgs := hg.size
  refine ⟨hr, ⟨arr, (k5 _ (by omega) (by omega)).trans ((hother _ _ _ (by omega)).trans a1), a2, fun j hj => by rw [a3 j hj]; simp [hp]⟩, ⟨parr, (k5 _ (Nat.le_refl _) hpl).trans q1, q2, q3⟩, (k5 _ (by omega) (by omega)).trans ((hother _ _ _ (by omega)).trans h.res), ⟨hg.os.trans (o5.1.trans h.bel.os), hg.tape.trans (o5.2.1.trans h.bel.tape), hg.output.trans (o5.2.2.trans h.bel.output), by omega, fun g hgl => (k5 g (by omega) (by omega)).trans ((hother _ _ _ (by omega)).trans (h.bel.block g hgl))⟩⟩
/-- the kinds under way, in the block made at W -/
structure Sh2 (W : World) (n : Nat) (kd : Nat → Nat) (g : Nat) (v15 : Value) (wx : World) : Prop where
  ex : ∃ k karr, k + g = n ∧ v15 = .int .i64 (k : Nat) ∧ wx.heap[W.heap.size]? = some (.cells karr 3 (0, 0)) ∧ karr.size = n ∧ (∀ i, i < k → karr[i]? = some (.int .i64 (kd i : Nat))) ∧ Below W.heap.size W wx
theorem Sh2.next {W wx : World} {n : Nat} {kd : Nat → Nat} {k g : Nat} {karr : Array Value} (hk : k + (g + 1) = n) (h1 : wx.heap[W.heap.size]? = some (.cells karr 3 (0, 0))) (h2 : karr.size = n) (h3 : ∀ i, i < k → karr[i]? = some (.int .i64 (kd i : Nat))) (hb : Below W.heap.size W wx) {z : Int} (hz : (kd k : Int) = z) : Sh2 W n kd g (.int .i64 ((k + 1 : Nat) : Int)) (wx.setCell ⟨W.heap.size, k, none⟩ (.int .i64 z)) := by
  refine ⟨k + 1, _, by omega, rfl, hset h1 k _, by simpa using h2, fun i hi => ?_, hb.setCell (p := ⟨W.heap.size, k, none⟩) (Nat.le_refl _) _⟩
  by_cases e : i = k
  · subst e
    rw [Array.getElem?_setIfInBounds, if_pos rfl, if_pos (by omega), ← hz]
  · rw [Array.getElem?_setIfInBounds, if_neg (by omega)]
    exact h3 i (by omega)
/-- the tree stands -/
theorem ShD.tree {w wr wx WF : World} {n : Nat} {par : Nat → Option Nat} {kd : Nat → Nat} {V : Option Nat → Value} {karr : Array Value} (h : ShD w n par n V wr) (hb : Below wr.heap.size wr wx) (h1 : wx.heap[wr.heap.size]? = some (.cells karr 3 (0, 0))) (h3 : ∀ i, i < n → karr[i]? = some (.int .i64 (kd i : Nat)))
    (hF : ∀ g, g ≠ w.heap.size → WF.heap[g]? = wx.heap[g]?) (hz : WF.heap.size = wx.heap.size) (ho : WF.os = wx.os ∧ WF.tape = wx.tape ∧ WF.output = wx.output) {ra : Option Addr} {rc : Nat} (hV : V none = .slice ra (ofP par n none).length rc) :
    TreeAt WF n par kd wr.heap.size (w.heap.size + 1) ra rc (w.heap.size + 1 + 1) ∧ Below w.heap.size w WF := by
  obtain ⟨arr, a1, a2, a3⟩ := h.kids
  obtain ⟨parr, p1, p2, p3⟩ := h.pars
  have hbs := h.bel.size
  have hws := hb.size
  have hpl := heap_lt p1
  have k : ∀ g, g ≠ w.heap.size → g < wr.heap.size → WF.heap[g]? = wr.heap[g]? := fun g q1 q2 => (hF g q1).trans (hb.block g q2)
  have hr := h.rows.keep (w' := WF) (fun g q1 q2 => k g (by omega) q2)
  have hkl := heap_lt h1
  refine ⟨⟨fun i hi => (hcell ((hF _ (by omega)).trans h1) i _ (h3 i hi)).1, fun i hi => ?_, ?_, fun i hi => (hcell ((k _ (by omega) hpl).trans p1) i _ (p3 i hi)).1, by omega, by omega, by omega⟩, ⟨ho.1.trans (hb.os.trans h.bel.os), ho.2.1.trans (hb.tape.trans h.bel.tape), ho.2.2.trans (hb.output.trans h.bel.output), by omega, fun g q => (k g (by omega) (by omega)).trans (h.bel.block g q)⟩⟩
  · obtain ⟨a, c, e, _⟩ := own_shape (hr.own (some i) (fun p q => by injection q with q; omega)).1
    have hro := row_ints (hr.own (some i) (fun p q => by injection q with q; omega)).1
    rw [e] at hro
    exact ⟨a, c, (hcell ((k _ (by omega) (by omega)).trans a1) i _ ((a3 i hi).trans (by rw [e]))).1, hro⟩
  · have hro := row_ints (hr.own none (fun p q => by cases q)).1
    rw [hV] at hro
    exact hro
theorem wf_u8 {x : Int} (h : (Lit.int .u8 x).wf = true) : 0 ≤ x ∧ x ≤ 255 := by
  have hm : IntKind.u8.min = 0 := by decide
  have hM : IntKind.u8.max = 255 := by decide
  simp only [Lit.wf, Bool.and_eq_true, decide_eq_true_eq] at h
  omega
theorem wf_u16 {x : Int} (h : (Lit.int .u16 x).wf = true) : 0 ≤ x ∧ x ≤ 65535 := by
  have hm : IntKind.u16.min = 0 := by decide
  have hM : IntKind.u16.max = 65535 := by decide
  simp only [Lit.wf, Bool.and_eq_true, decide_eq_true_eq] at h
  omega
end Go.Proofs.YtjebnjjhdefejaaGreatFmt
