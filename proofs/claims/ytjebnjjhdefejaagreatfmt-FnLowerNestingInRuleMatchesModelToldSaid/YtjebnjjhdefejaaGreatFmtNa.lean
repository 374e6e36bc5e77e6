/-
  Rows of rules of the model. Conditions: each theorem's own.
-/
import Derived.Test.YtjebnjjhdefejaaGreatFmtSa
import Derived.Test.YtjebnjjhdefejaaGreatFmtMi
namespace Go.Proofs.YtjebnjjhdefejaaGreatFmt
open Go.RowKit Go.Lib Go.ChangeMaps
/-- a rule of the model as it stands in memory, by its depth -/
def MdE : Nat → Elt Tr 3
  | 0 => ⟨fun _ _ _ _ => False, fun _ _ _ h => h.elim, fun _ h => h.elim⟩
  | d + 1 =>
    { E := fun w P c t => c 0 = some (.int .i32 t.loc) ∧ c 1 = some (.int .i64 (t.kind : Nat)) ∧ t.kids.length ≤ 1000000 ∧ ∃ v, c 2 = some v ∧ RowL (MdE d) w P v t.kids
      keep := by
        rintro w w' P P' h c m ⟨e0, e1, e2, v, e3, hr⟩
        exact ⟨e0, e1, e2, v, e3, hr.keep h⟩
      loc := by
        rintro w P c c' m h ⟨e0, e1, e2, v, e3, hr⟩
        exact ⟨by rw [← h 0 (by omega)]; exact e0, by rw [← h 1 (by omega)]; exact e1, e2, v, by rw [← h 2 (by omega)]; exact e3, hr⟩ }
theorem MdE_succ : ∀ (d : Nat) (w : World) (P : Nat → Prop) (c : Cells) (t : Tr), (MdE d).E w P c t → (MdE (d + 1)).E w P c t
  | 0, _, _, _, _, h => h.elim
  | d + 1, w, P, c, t, h => by
    obtain ⟨e0, e1, e2, v, e3, hr⟩ := h
    exact ⟨e0, e1, e2, v, e3, hr.mono fun c m => MdE_succ d w P c m⟩
theorem MdE_le {d d' : Nat} (h : d ≤ d') (w : World) (P : Nat → Prop) (c : Cells) (t : Tr) (hE : (MdE d).E w P c t) : (MdE d').E w P c t := by
  obtain ⟨k, rfl⟩ : ∃ k, d' = d + k := ⟨d' - d, by omega⟩
  clear h
  induction k with
  | zero => exact hE
  | succ k ih => exact MdE_succ _ _ _ _ _ ih
/-- a rule of the model, whatever its depth -/
def MdX : Elt Tr 3 where
  E w P c t := ∃ d, (MdE d).E w P c t
  keep := by
    rintro w w' P P' h c m ⟨d, hE⟩
    exact ⟨d, (MdE d).keep h hE⟩
  loc := by
    rintro w P c c' m h ⟨d, hE⟩
    exact ⟨d, (MdE d).loc h hE⟩
theorem mdX_row {w : World} {P : Nat → Prop} {sl : Value} {ms : List Tr} (h : RowL MdX w P sl ms) : ∃ D, RowL (MdE D) w P sl ms := by
  obtain ⟨a, c, e, hx⟩ := h
  have hD : ∀ k, ∃ D, ∀ i (hi : i < ms.length), i < k → ∃ g, a = some ⟨g, 0, none⟩ ∧ P g ∧ g < w.heap.size ∧ (MdE D).E w P (fun t => w.cell? ⟨g, i * 3 + t, none⟩) ms[i] := fun k => by
    induction k with
    | zero => exact ⟨0, fun i _ h => by omega⟩
    | succ k ih =>
      obtain ⟨D, ih⟩ := ih
      by_cases hk : k < ms.length
      · obtain ⟨g, h1, h2, h3, d, h4⟩ := hx k hk
        refine ⟨D + d, fun i hi hik => ?_⟩
        by_cases e : i = k
        · subst e
          exact ⟨g, h1, h2, h3, MdE_le (by omega) _ _ _ _ h4⟩
        · obtain ⟨g, h1, h2, h3, h4⟩ := ih i hi (by omega)
          exact ⟨g, h1, h2, h3, MdE_le (by omega) _ _ _ _ h4⟩
      · exact ⟨D, fun i hi hik => ih i hi (by omega)⟩
  obtain ⟨D, h⟩ := hD ms.length
  exact ⟨D, a, c, e, fun i hi => h i hi hi⟩
theorem mdX_mk {w : World} {P : Nat → Prop} {v : Value} {kids : List Tr} {l : Int} {k : Nat} (hr : RowL MdX w P v kids) (hl : kids.length ≤ 1000000) : MdX.E w P (fun j => [.int .i32 l, .int .i64 (k : Nat), v][j]?) (.mk l k kids) := by
  obtain ⟨D, hr⟩ := mdX_row hr
  exact ⟨D + 1, rfl, rfl, hl, v, rfl, hr⟩
theorem info_MRULE : (Tryz.prog.info? 97).map (fun i => (i.zero, i.size, i.bytes)) = some (some (.agg #[.int .i32 0, .int .i64 0, .slice none 0 0]), 3, 40) := by kernel_rfl
/-- a row of rules of the model that the run owns -/
structure OutD (w : World) (v : Value) (n : Nat) (out : List Tr) (P : Nat → Prop) : Prop where
  len : out.length = n
  own : ∃ xs, w.ownsRow 0 97 3 v n xs ∧ (∀ u ∈ xs, u.oneCell' = true) ∧ ∀ i (h : i < out.length), MdX.E w P (fun t => xs[i * 3 + t]?) out[i]
  sP : ∀ g, P g → g < w.heap.size ∧ some g ≠ v.ownBlock
theorem OutD.shape {w : World} {v : Value} {n : Nat} {out : List Tr} {P : Nat → Prop} (h : OutD w v n out P) : ∃ a c, v = .slice a n c ∧ n ≤ c := by
  obtain ⟨xs, ho, _⟩ := h.own
  exact own_shape ho
theorem OutD.ownlt {w : World} {v : Value} {n : Nat} {out : List Tr} {P : Nat → Prop} (h : OutD w v n out P) {g : Nat} (hg : v.ownBlock = some g) : g < w.heap.size := by
  obtain ⟨xs, ho, _⟩ := h.own
  exact (ho.lt g hg).2
theorem OutD.keep {w w' : World} {v : Value} {n : Nat} {out : List Tr} {P : Nat → Prop} (h : OutD w v n out P) (hs : w.heap.size ≤ w'.heap.size) (hb : ∀ g, P g ∨ v.ownBlock = some g → w'.heap[g]? = w.heap[g]?) : OutD w' v n out P := by
  obtain ⟨xs, ho, h1, h2⟩ := h.own
  exact ⟨h.len, ⟨xs, own_keep ho (fun g hg => hb g (Or.inr hg)), h1, fun i hi => MdX.keep ⟨hs, fun g hg _ => hb g (Or.inl hg), fun g hg _ => hg⟩ (h2 i hi)⟩, fun g hg => ⟨Nat.lt_of_lt_of_le (h.sP g hg).1 hs, (h.sP g hg).2⟩⟩
theorem OutD.below {w w' : World} {v : Value} {n : Nat} {out : List Tr} {P : Nat → Prop} (h : OutD w v n out P) (hb : Below w.heap.size w w') : OutD w' v n out P :=
  h.keep hb.size (fun g hg => hb.block g (hg.elim (fun q => (h.sP g q).1) (fun q => h.ownlt q)))
theorem OutD.grown {w w' : World} {v : Value} {n : Nat} {out : List Tr} {P : Nat → Prop} {r : Option Nat} (h : OutD w v n out P) (hb : w.grownBy w' r) (hr : ∀ g, P g ∨ v.ownBlock = some g → some g ≠ r) : OutD w' v n out P :=
  h.keep hb.size (fun g hg => hb.block g (hg.elim (fun q => (h.sP g q).1) (fun q => h.ownlt q)) (hr g hg))
theorem OutD.nil (w : World) : OutD w (.slice none 0 0) 0 [] (fun _ => False) :=
  ⟨rfl, ⟨[], World.ownsRow_nil _ _ _ _, fun u hu => (by cases hu), fun i hi => by cases hi⟩, fun _ h => h.elim⟩
/-- the row as a slice -/
theorem OutD.row {w : World} {v : Value} {n : Nat} {out : List Tr} {P : Nat → Prop} (h : OutD w v n out P) : RowL MdX w (fun g => P g ∨ v.ownBlock = some g) v out := by
  obtain ⟨xs, ho, _, hE⟩ := h.own
  have hlen := h.len
  clear h
  subst hlen
  rcases ho.2 with ⟨e, h0⟩ | ⟨g, cap, cur, e, _⟩
  · subst e
    have : out = [] := List.length_eq_zero_iff.1 h0
    subst this
    exact RowL.nil _ _ _ _
  · subst e
    refine ⟨_, cap, rfl, fun i hi => ⟨g, rfl, Or.inr rfl, (ho.lt g rfl).2, ?_⟩⟩
    refine MdX.loc (fun t ht => (World.ownsRow.cellAt ho (i * 3 + t) (by have := ho.1; omega)).symm) (MdX.keep (P' := fun g' => P g' ∨ (Value.slice (some ⟨g, 0, none⟩) out.length cap).ownBlock = some g') ⟨Nat.le_refl _, fun _ _ _ => rfl, fun g hg _ => Or.inl hg⟩ (hE i hi))
/-- one rule of the model more -/
theorem app_oneD {w : World} {v kv : Value} {n : Nat} {out kids : List Tr} {P P2 : Nat → Prop} (hv : OutD w v n out P) (l : Int) (k : Nat) (h1 : kv.oneCell' = true) (hr : RowL MdX w P2 kv kids) (hkl : kids.length ≤ 1000000) (hP2 : ∀ g, P2 g → g < w.heap.size ∧ some g ≠ v.ownBlock) (hn : n + 1 ≤ 2000000) :
    ∃ v' w', (Builtin.append_ #[46, 46] 46 #[v, .slice (some ⟨w.heap.size, 0, none⟩) 1 1]).run Tryz.prog (w.alloc (.cells #[.int .i32 l, .int .i64 (k : Nat), kv] 97)) = .ok v' w' ∧ OutD w' v' (n + 1) (out ++ [.mk l k kids]) (fun g => P g ∨ P2 g) ∧ w.grownBy w' v.ownBlock ∧ (v'.ownBlock = v.ownBlock ∨ ∃ g, v'.ownBlock = some g ∧ w.heap.size ≤ g) := by
  obtain ⟨xs, ho, h2, hE⟩ := hv.own
  have hlen := hv.len
  have hsP := hv.sP
  clear hv
  subst hlen
  obtain ⟨v', w', q1, q2, q3, q4⟩ := own_app1 46 97 _ 3 40 Tryz.underlying46 info_MRULE rfl (by decide) (by decide) w v out.length xs ho [.int .i32 l, .int .i64 (k : Nat), kv] rfl (fun u hu => by
    simp at hu
    rcases hu with rfl | rfl | rfl
    · rfl
    · rfl
    · exact h1) hn
  have hx : xs.length = out.length * 3 := ho.1
  have hs := q3.size
  refine ⟨v', w', q1, ⟨by simp, ⟨_, q2, fun u hu => ?_, fun i hi => ?_⟩, fun g hg => ?_⟩, q3, q4⟩
  · rcases List.mem_append.1 hu with hu | hu
    · exact h2 u hu
    · simp at hu
      rcases hu with rfl | rfl | rfl
      · rfl
      · rfl
      · exact h1
  · by_cases hi2 : i < out.length
    · rw [List.getElem_append_left hi2]
      exact MdX.loc (fun t ht => by rw [List.getElem?_append_left (by omega)]) (MdX.keep ⟨hs, fun g hg hl => q3.block g hl (hsP g hg).2, fun g hg _ => Or.inl hg⟩ (hE i hi2))
    · have hi3 : i = out.length := by simp at hi; omega
      subst hi3
      rw [show (out ++ [Tr.mk l k kids])[out.length] = .mk l k kids by simp]
      refine MdX.loc (fun t ht => ?_) (mdX_mk (l := l) (k := k) (P := fun g => P g ∨ P2 g) (hr.keep ⟨hs, fun g hg hl => q3.block g hl (hP2 g hg).2, fun g hg _ => Or.inr hg⟩) hkl)
      show [Value.int .i32 l, .int .i64 (k : Nat), kv][t]? = (xs ++ _)[out.length * 3 + t]?
      rw [List.getElem?_append_right (by omega), hx]
      have e : out.length * 3 + t - out.length * 3 = t := by omega
      rw [e]
  · have hg' : g < w.heap.size ∧ some g ≠ v.ownBlock := hg.elim (hsP g) (hP2 g)
    refine ⟨by omega, fun e => ?_⟩
    rcases q4 with h | ⟨g', h, hq⟩
    · exact hg'.2 (e.trans h)
    · rw [h] at e; have := Option.some.inj e; omega
/-- one row of rules of the model put behind another -/
theorem app_twoD {w : World} {v s : Value} {n k : Nat} {out out2 : List Tr} {P P2 : Nat → Prop} (hv : OutD w v n out P) (hs : OutD w s k out2 P2) (hd : ∀ g, P2 g → some g ≠ v.ownBlock) (hn : n + k ≤ 2000000) :
    ∃ v' w', (Builtin.append_ #[46, 46] 46 #[v, s]).run Tryz.prog w = .ok v' w' ∧ OutD w' v' (n + k) (out ++ out2) (fun g => P g ∨ P2 g) ∧ w.grownBy w' v.ownBlock ∧ (v'.ownBlock = v.ownBlock ∨ ∃ g, v'.ownBlock = some g ∧ w.heap.size ≤ g) := by
  obtain ⟨xs, ho, h1, hE⟩ := hv.own
  have hsP2 := hs.sP
  have hk := hs.len
  obtain ⟨ys, hq, h2, hE2⟩ := hs.own
  have hlen := hv.len
  have hsP := hv.sP
  clear hv hs
  subst hlen
  subst hk
  obtain ⟨hl, hc⟩ := hq
  rcases hc with ⟨e, h0⟩ | ⟨g, cap, cur, e, hb, hh, hc, hm, hsz, htk⟩
  · subst e
    have h00 : out2 = [] := List.length_eq_zero_iff.1 h0
    subst h00
    obtain ⟨a1, c1, rfl, hc1⟩ := own_shape ho
    exact ⟨_, w, app_none 46 97 _ 3 40 Tryz.underlying46 info_MRULE a1 _ c1 hc1 w, ⟨by simp, ⟨xs, ho, h1, fun i hi => by
      have hi' : i < out.length := by simpa using hi
      have e2 : (out ++ [])[i] = out[i] := by simp
      rw [e2]; exact MdX.keep ⟨Nat.le_refl _, fun _ _ _ => rfl, fun g hg _ => Or.inl hg⟩ (hE i hi')⟩, fun g hg => hg.elim (hsP g) (fun h => ⟨(hsP2 g h).1, hd g h⟩)⟩, ⟨rfl, rfl, rfl, Nat.le_refl _, fun _ _ _ => rfl⟩, Or.inl rfl⟩
  · subst e
    obtain ⟨v', w', q1, q2, q3, q4⟩ := own_app 46 97 _ 3 40 Tryz.underlying46 info_MRULE rfl (by decide) (by decide) w v out.length xs ho ⟨g, 0, none⟩ out2.length cap ys hl (fun j u hj => by
      have hj' : j < ys.length := (List.getElem?_eq_some_iff.1 hj).1
      rw [add0]
      refine (hcell hh j u ?_).1
      rw [← htk, List.getElem?_take, if_pos (by omega), Array.getElem?_toList] at hj
      exact hj) h2 hn
    have hx : xs.length = out.length * 3 := ho.1
    have hs := q3.size
    refine ⟨v', w', q1, ⟨by simp, ⟨_, q2, fun u hu => ?_, fun i hi => ?_⟩, fun g hg => ?_⟩, q3, q4.imp id fun h => ⟨_, h, Nat.le_refl _⟩⟩
    · rcases List.mem_append.1 hu with hu | hu
      · exact h1 u hu
      · exact h2 u hu
    · by_cases hi2 : i < out.length
      · rw [List.getElem_append_left hi2]
        exact MdX.loc (fun t ht => by rw [List.getElem?_append_left (by omega)]) (MdX.keep ⟨hs, fun g hg hl => q3.block g hl (hsP g hg).2, fun g hg _ => Or.inl hg⟩ (hE i hi2))
      · have hi3 : i - out.length < out2.length := by simp at hi; omega
        rw [List.getElem_append_right (by omega)]
        refine MdX.loc (fun t ht => ?_) (MdX.keep ⟨hs, fun g hg hl => q3.block g hl (hd g hg), fun g hg _ => Or.inr hg⟩ (hE2 (i - out.length) hi3))
        show ys[(i - out.length) * 3 + t]? = (xs ++ ys)[i * 3 + t]?
        rw [List.getElem?_append_right (by omega), hx]
        have e : i * 3 + t - out.length * 3 = (i - out.length) * 3 + t := by omega
        rw [e]
    · have hg' : g < w.heap.size ∧ some g ≠ v.ownBlock := hg.elim (hsP g) (fun h => ⟨(hsP2 g h).1, hd g h⟩)
      refine ⟨by omega, fun e => ?_⟩
      rcases q4 with h | h
      · exact hg'.2 (e.trans h)
      · rw [h] at e; have := Option.some.inj e; omega
theorem one_ownD {l : Int} {k : Nat} {kv : Value} {w : World} {kids : List Tr} {P : Nat → Prop} (h1 : kv.oneCell' = true) (hr : RowL MdX w P kv kids) (hkl : kids.length ≤ 1000000) (hP : ∀ g, P g → g < w.heap.size) : OutD (w.alloc (.cells #[.int .i32 l, .int .i64 (k : Nat), kv] 97)) (.slice (some ⟨w.heap.size, 0, none⟩) 1 1) 1 [.mk l k kids] P := by
  have hb : Below w.heap.size w (w.alloc (.cells #[.int .i32 l, .int .i64 (k : Nat), kv] 97)) := (Below.refl _ _).alloc (Nat.le_refl _) _
  refine ⟨rfl, ⟨[.int .i32 l, .int .i64 (k : Nat), kv], ⟨rfl, Or.inr ⟨w.heap.size, 1, _, rfl, Nat.zero_le _, heap_alloc_new _ _, Nat.le_refl _, by decide, rfl, rfl⟩⟩, fun u hu => ?_, fun i hi => ?_⟩, fun g hg => ⟨by have := hP g hg; simp; omega, fun e => ?_⟩⟩
  · simp at hu
    rcases hu with rfl | rfl | rfl
    · rfl
    · rfl
    · exact h1
  · have hi0 : i = 0 := by simp at hi; omega
    subst hi0
    exact MdX.loc (fun t _ => by rw [Nat.zero_mul, Nat.zero_add]) (mdX_mk (hr.below hb) hkl)
  · have h1 := hP g hg
    have h2 : g = w.heap.size := Option.some.inj e
    omega
theorem lowM_len : ∀ (d : Nat) (b : Bool) (t : Tr), (lowM d b t).length ≤ cntT d t
  | 0, _, _ => Nat.le_refl _
  | d + 1, b, .mk loc k kids => by
    have hf : ∀ ts : List Tr, (ts.flatMap (lowM d true)).length ≤ cntTL d ts := fun ts => by
      induction ts with
      | nil => exact Nat.le_refl _
      | cons t ts ih =>
        have := lowM_len d true t
        rw [cntTL_cons]
        simp only [List.flatMap_cons, List.length_append]
        omega
    have h := hf kids
    show _ ≤ 1 + cntTL d kids
    unfold lowM
    by_cases h0 : k = 0
    · rw [if_pos h0]; cases b <;> simp
    · rw [if_neg h0]
      by_cases h1 : k = 1
      · rw [if_pos h1, List.length_append]
        have hx : (if keptM kids = [] then [] else [Tr.mk loc 1 (keptM kids)]).length ≤ 1 := by split <;> simp
        omega
      · rw [if_neg h1]
        have hx : ∀ (q : Prop) [Decidable q] (x : Tr), (if q then [] else [x]).length ≤ 1 := fun q _ x => by split <;> simp
        cases b
        · simp
        · rw [if_pos rfl]
          refine Nat.le_trans (hx _ _) (by omega)
theorem flat_len (d : Nat) (b : Bool) (ts : List Tr) : (ts.flatMap (lowM d b)).length ≤ cntTL d ts := by
  induction ts with
  | nil => exact Nat.le_refl _
  | cons t ts ih =>
    have := lowM_len d b t
    rw [cntTL_cons]
    simp only [List.flatMap_cons, List.length_append]
    omega
end Go.Proofs.YtjebnjjhdefejaaGreatFmt
