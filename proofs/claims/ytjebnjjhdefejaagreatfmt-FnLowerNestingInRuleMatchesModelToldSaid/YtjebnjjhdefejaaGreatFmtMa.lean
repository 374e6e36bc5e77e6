/-
  The tree of numbers. Conditions: each theorem's own.
-/
import Derived.Test.YtjebnjjhdefejaaGreatFmtLh
namespace Go.Proofs.YtjebnjjhdefejaaGreatFmt
open Go.RowKit Go.Lib Go.ChangeMaps
/-- the number that names the parent -/
def pvF (z : List Int) (m i : Nat) : Nat := if i < m then (z.getD i 0).toNat else 0
/-- the parent: of a forest (true), or of one tree -/
def parF (f : Bool) (z : List Int) (m i : Nat) : Option Nat :=
  if f then (if pvF z m i % (i + 1) = i then none else some (pvF z m i % (i + 1))) else if 0 < i then some (pvF z m i % i) else none
theorem parF_lt {f : Bool} {z : List Int} {m i p : Nat} (h : parF f z m i = some p) : p < i := by
  unfold parF at h
  split at h
  · split at h
    · cases h
    · injection h with h
      have := Nat.mod_lt (pvF z m i) (show 0 < i + 1 by omega)
      omega
  · split at h
    · injection h with h
      have := Nat.mod_lt (pvF z m i) (show 0 < i by omega)
      omega
    · cases h
/-- those below k whose parent is o -/
def ofP (par : Nat → Option Nat) (k : Nat) (o : Option Nat) : List Nat := (List.range k).filter fun i => par i == o
theorem ofP_succ (par : Nat → Option Nat) (k : Nat) (o : Option Nat) : ofP par (k + 1) o = if par k = o then ofP par k o ++ [k] else ofP par k o := by
  unfold ofP
  rw [List.range_succ, List.filter_append]
  by_cases h : par k = o
  · rw [if_pos h]; simp [h]
  · rw [if_neg h]; simp [h]
theorem mem_ofP {par : Nat → Option Nat} {k : Nat} {o : Option Nat} {i : Nat} : i ∈ ofP par k o ↔ i < k ∧ par i = o := by
  unfold ofP
  rw [List.mem_filter, List.mem_range]
  simp
theorem ofP_len (par : Nat → Option Nat) (k : Nat) (o : Option Nat) : (ofP par k o).length ≤ k := by
  have := List.length_filter_le (fun i => par i == o) (List.range k)
  unfold ofP
  simpa using this
def kdF (par : Nat → Option Nat) (n : Nat) (z : List Int) (i : Nat) : Nat := if (z.getD i 0).toNat % 3 = 0 ∧ 0 < (ofP par n (some i)).length then 1 else (z.getD i 0).toNat % 3
def parV : Option Nat → Int
  | none => -1
  | some p => (p : Int)
abbrev ints (l : List Nat) : List Int := l.map fun (x : Nat) => (x : Int)
abbrev valsI (l : List Nat) : List Value := l.map fun (x : Nat) => Value.int .i64 (x : Int)
/-- the tree of numbers -/
structure TreeAt (w : World) (n : Nat) (par : Nat → Option Nat) (kd : Nat → Nat) (kb cb : Nat) (ra : Option Addr) (rc pb : Nat) : Prop where
  kind : ∀ i, i < n → w.cell? ⟨kb, i, none⟩ = some (.int .i64 (kd i : Nat))
  kids : ∀ i, i < n → ∃ a c, w.cell? ⟨cb, i, none⟩ = some (.slice a (ofP par n (some i)).length c) ∧ RowL IntT w (fun _ => True) (.slice a (ofP par n (some i)).length c) (ints (ofP par n (some i)))
  roots : RowL IntT w (fun _ => True) (.slice ra (ofP par n none).length rc) (ints (ofP par n none))
  par : ∀ i, i < n → w.cell? ⟨pb, i, none⟩ = some (.int .i64 (parV (par i)))
  lt : kb < w.heap.size ∧ cb < w.heap.size ∧ pb < w.heap.size
theorem TreeAt.below {w w' : World} {n : Nat} {par : Nat → Option Nat} {kd : Nat → Nat} {kb cb : Nat} {ra : Option Addr} {rc pb : Nat} (h : TreeAt w n par kd kb cb ra rc pb) {B : Nat} (hB : w.heap.size ≤ B) (hb : Below B w w') : TreeAt w' n par kd kb cb ra rc pb := by
  have hb' : Below w.heap.size w w' := hb.mono hB
  obtain ⟨l1, l2, l3⟩ := h.lt
  have hs := hb.size
  refine ⟨fun i hi => (cellLow (hb'.block _ l1) _).trans (h.kind i hi), fun i hi => ?_, h.roots.below hb', fun i hi => (cellLow (hb'.block _ l3) _).trans (h.par i hi), by omega, by omega, by omega⟩
  obtain ⟨a, c, e, hr⟩ := h.kids i hi
  exact ⟨a, c, (cellLow (hb'.block _ l2) _).trans e, hr.below hb'⟩
abbrev treeC (n kb kc cb cc : Nat) (ra : Option Addr) (rl rc pb pc : Nat) : Array Value := #[.slice (some ⟨kb, 0, none⟩) n kc, .slice (some ⟨cb, 0, none⟩) n cc, .slice ra rl rc, .slice (some ⟨pb, 0, none⟩) n pc]
/-- make, with a length -/
theorem mkSn (t e : TypeId) (z : Value) (sz b : Nat) (ht : Tryz.prog.underlying t = some (.slice e)) (hi : (Tryz.prog.info? e).map (fun i => (i.zero, i.size, i.bytes)) = some (some z, sz, b)) (hb : b ≤ 128) (n : Nat) (hn : n ≤ 2000000) (w : World) :
    (Instr.makeSlice t (.int .i64 (n : Int)) (.int .i64 (n : Int))).run Tryz.prog w = .ok (.slice (some ⟨w.heap.size, 0, none⟩) n n) (w.alloc (mkO z (n * sz) e)) := by
  obtain ⟨i, hi1, z0, z1, z2⟩ := info_parts hi
  have hb' : (i.bytes : Int) * (n : Int) ≤ 281474976710656 := by
    have h : i.bytes * n ≤ 128 * 2000000 := Nat.mul_le_mul (by omega) hn
    have h2 : ((i.bytes * n : Nat) : Int) ≤ 281474976710656 := by omega
    rwa [Int.natCast_mul] at h2
  have hr := run_make (P := Tryz.prog) w t e i z ht hi1 z0 .i64 .i64 n n (by omega) (by omega) hb' (by omega)
  simp only [Int.toNat_natCast, z1] at hr
  exact hr
theorem made_cells (z : Value) (hz : z.cells = #[z]) (n : Nat) (e : TypeId) (w : World) : ∃ arr : Array Value, (w.alloc (mkO z (n * 1) e)).heap[w.heap.size]? = some (.cells arr e (0, 0)) ∧ arr.size = n ∧ ∀ i, i < n → arr[i]? = some z := by
  refine ⟨madeCells z.cells (n * 1), heap_alloc_new _ _, by rw [size_madeCells]; omega, fun i hi => ?_⟩
  have h := toList_madeCells_one z (n * 1)
  rw [hz, ← Array.getElem?_toList, h, List.getElem?_replicate, if_pos (by omega)]
theorem info_I64 : (Tryz.prog.info? 3).map (fun i => (i.zero, i.size, i.bytes)) = some (some (.int .i64 0), 1, 8) := by kernel_rfl
theorem info_INTS : (Tryz.prog.info? 27).map (fun i => (i.zero, i.size, i.bytes)) = some (some (.slice none 0 0), 1, 24) := by kernel_rfl
/-- rows of numbers, one for each parent -/
structure RowsP (w : World) (B n k : Nat) (par : Nat → Option Nat) (V : Option Nat → Value) : Prop where
  own : ∀ o, (∀ p, o = some p → p < n) → w.ownsRow 0 3 1 (V o) (ofP par k o).length (valsI (ofP par k o)) ∧ ∀ g, (V o).ownBlock = some g → B ≤ g
  dis : ∀ o o', (∀ p, o = some p → p < n) → (∀ p, o' = some p → p < n) → o ≠ o' → ∀ g, (V o).ownBlock = some g → (V o').ownBlock ≠ some g
theorem RowsP.start (w : World) (B n : Nat) (par : Nat → Option Nat) : RowsP w B n 0 par (fun _ => .slice none 0 0) :=
  ⟨fun _ _ => ⟨World.ownsRow_nil _ _ _ _, fun g hg => by cases hg⟩, fun _ _ _ _ _ g hg => by cases hg⟩
theorem RowsP.keep {w w' : World} {B n k : Nat} {par : Nat → Option Nat} {V : Option Nat → Value} (h : RowsP w B n k par V) (hb : ∀ g, B ≤ g → g < w.heap.size → w'.heap[g]? = w.heap[g]?) : RowsP w' B n k par V :=
  ⟨fun o ho => ⟨own_keep (h.own o ho).1 (fun g hg => hb g ((h.own o ho).2 g hg) ((h.own o ho).1.lt g hg).2), (h.own o ho).2⟩, h.dis⟩
theorem oneI (l : List Nat) : ∀ u ∈ valsI l, u.oneCell' = true := fun u hu => by
  obtain ⟨x, _, rfl⟩ := List.mem_map.1 hu
  rfl
/-- one number more, at its parent's row -/
theorem RowsP.step {w : World} {B n k : Nat} {par : Nat → Option Nat} {V : Option Nat → Value} (h : RowsP w B n k par V) (hB : B ≤ w.heap.size) (hn : k ≤ 1000000) (ho : ∀ p, par k = some p → p < n) :
    ∃ v' w', (Builtin.append_ #[27, 27] 27 #[V (par k), .slice (some ⟨w.heap.size, 0, none⟩) 1 1]).run Tryz.prog (w.alloc (.cells #[.int .i64 (k : Int)] 3)) = .ok v' w' ∧ w.grownBy w' (V (par k)).ownBlock ∧
      RowsP w' B n (k + 1) par (fun o => if o = par k then v' else V o) ∧ ∃ a c, v' = .slice a ((ofP par k (par k)).length + 1) c := by
  obtain ⟨hown, hge⟩ := h.own (par k) ho
  have hl := ofP_len par k (par k)
  obtain ⟨v', w', ha, ho', hg, hat⟩ := own_app1 27 3 _ 1 8 Tryz.underlying27 info_I64 rfl (by decide) (by decide) w (V (par k)) _ _ hown [.int .i64 (k : Int)] rfl (by simp [Value.oneCell']) (by omega)
  obtain ⟨a, c, e, _⟩ := own_shape ho'
  refine ⟨v', w', ha, hg, ⟨fun o hoo => ?_, fun o o' h1 h2 h3 g hg1 hg2 => ?_⟩, a, c, e⟩
  · have hk : ∀ o, o ≠ par k → (∀ p, o = some p → p < n) → w'.ownsRow 0 3 1 (V o) (ofP par k o).length (valsI (ofP par k o)) := fun o hne hoo => own_keep (h.own o hoo).1 (fun g hg1 => hg.block g ((h.own o hoo).1.lt g hg1).2 (fun e => h.dis o (par k) hoo ho hne g hg1 e.symm))
    by_cases hoe : o = par k
    · subst hoe
      simp only [if_pos]
      rw [ofP_succ, if_pos rfl]
      refine ⟨?_, fun g hg1 => ?_⟩
      · have e2 : valsI (ofP par k (par k) ++ [k]) = valsI (ofP par k (par k)) ++ [.int .i64 (k : Int)] := by simp
        rw [e2, List.length_append]
        exact ho'
      · rcases hat with q | ⟨g', q, hq⟩
        · exact hge g (q ▸ hg1)
        · rw [q] at hg1; have := Option.some.inj hg1; omega
    · simp only [if_neg hoe]
      rw [ofP_succ, if_neg (fun q => hoe q.symm)]
      exact ⟨hk o hoe hoo, (h.own o hoo).2⟩
  · have fresh : ∀ o, o ≠ par k → (∀ p, o = some p → p < n) → ∀ g, v'.ownBlock = some g → (V o).ownBlock ≠ some g := fun o hne hoo g q1 q2 => by
      rcases hat with q | ⟨g', q, hq⟩
      · exact h.dis (par k) o ho hoo (Ne.symm hne) g (q ▸ q1) q2
      · rw [q] at q1
        have := Option.some.inj q1
        have := ((h.own o hoo).1.lt g q2).2
        omega
    by_cases e1 : o = par k
    · have e2 : o' ≠ par k := fun q => h3 (e1.trans q.symm)
      simp only [if_pos e1] at hg1
      simp only [if_neg e2] at hg2
      exact fresh o' e2 h2 g hg1 hg2
    · simp only [if_neg e1] at hg1
      by_cases e2 : o' = par k
      · simp only [if_pos e2] at hg2
        exact fresh o e1 h1 g hg2 hg1
      · simp only [if_neg e2] at hg2
        exact h.dis o o' h1 h2 h3 g hg1 hg2
/-- a row of numbers done -/
theorem row_ints {w : World} {v : Value} {l : List Nat} (h : w.ownsRow 0 3 1 v l.length (valsI l)) : RowL IntT w (fun _ => True) v (ints l) := by
  have h2 := h.2
  rcases h2 with ⟨e, h0⟩ | ⟨g, cap, cur, e, _⟩
  · subst e
    have : l = [] := List.length_eq_zero_iff.1 h0
    subst this
    exact RowL.nil _ _ _ _
  · subst e
    refine ⟨_, cap, by simp, fun i hi => ⟨g, rfl, trivial, (h.lt g rfl).2, ?_⟩⟩
    have hi' : i < l.length := by simpa using hi
    have q := World.ownsRow.cellAt h (i * 1 + 0) (by omega)
    show w.cell? ⟨g, i * 1 + 0, none⟩ = _
    rw [q]
    simp [hi']
end Go.Proofs.YtjebnjjhdefejaaGreatFmt
