/-
  Rows of lowered rules. Conditions: each theorem's own.
-/
import Derived.Test.YtjebnjjhdefejaaGreatFmtLq
import Derived.Test.YtjebnjjhdefejaaGreatFmtLp
namespace Go.Proofs.YtjebnjjhdefejaaGreatFmt
open Go.RowKit Go.Lib Go.ChangeMaps
theorem RowL.mono {α : Type} {sz : Nat} {T T' : Elt α sz} {w : World} {P : Nat → Prop} {sl : Value} {ms : List α} (h : RowL T w P sl ms) (hT : ∀ c m, T.E w P c m → T'.E w P c m) : RowL T' w P sl ms := by
  obtain ⟨a, c, e, hx⟩ := h
  refine ⟨a, c, e, fun i hi => ?_⟩
  obtain ⟨g, h1, h2, h3, h4⟩ := hx i hi
  exact ⟨g, h1, h2, h3, hT _ _ h4⟩
theorem OutE_succ : ∀ (d : Nat) (w : World) (P : Nat → Prop) (c : Cells) (t : Tr), (OutE d).E w P c t → (OutE (d + 1)).E w P c t
  | 0, _, _, _, _, h => h.elim
  | d + 1, w, P, c, t, h => by
    obtain ⟨e1, q | ⟨k, b, s, rs, x, e0, hp, hb, hh, hr⟩ | ⟨k, b, rs, arr, e0, hp, hb, hh, ha, hr⟩⟩ := h
    · exact ⟨e1, Or.inl q⟩
    · exact ⟨e1, Or.inr (Or.inl ⟨k, b, s, rs, x, e0, hp, hb, hh, hr.mono fun c m => OutE_succ d w P c m⟩)⟩
    · exact ⟨e1, Or.inr (Or.inr ⟨k, b, rs, arr, e0, hp, hb, hh, ha, hr.mono fun c m => OutE_succ d w P c m⟩)⟩
theorem OutE_le {d d' : Nat} (h : d ≤ d') (w : World) (P : Nat → Prop) (c : Cells) (t : Tr) (hE : (OutE d).E w P c t) : (OutE d').E w P c t := by
  obtain ⟨k, rfl⟩ : ∃ k, d' = d + k := ⟨d' - d, by omega⟩
  clear h
  induction k with
  | zero => exact hE
  | succ k ih => exact OutE_succ _ _ _ _ _ ih
/-- a lowered rule, whatever its depth -/
def OutX : Elt Tr 2 where
  E w P c t := ∃ d, (OutE d).E w P c t
  keep := by
    rintro w w' P P' h c m ⟨d, hE⟩
    exact ⟨d, (OutE d).keep h hE⟩
  loc := by
    rintro w P c c' m h ⟨d, hE⟩
    exact ⟨d, (OutE d).loc h hE⟩
theorem outX_row {w : World} {P : Nat → Prop} {sl : Value} {ms : List Tr} (h : RowL OutX w P sl ms) : ∃ D, RowL (OutE D) w P sl ms := by
  obtain ⟨a, c, e, hx⟩ := h
  have hD : ∀ k, ∃ D, ∀ i (hi : i < ms.length), i < k → ∃ g, a = some ⟨g, 0, none⟩ ∧ P g ∧ g < w.heap.size ∧ (OutE D).E w P (fun t => w.cell? ⟨g, i * 2 + t, none⟩) ms[i] := fun k => by
    induction k with
    | zero => exact ⟨0, fun i _ h => by omega⟩
    | succ k ih =>
      obtain ⟨D, ih⟩ := ih
      by_cases hk : k < ms.length
      · obtain ⟨g, h1, h2, h3, d, h4⟩ := hx k hk
        refine ⟨D + d, fun i hi hik => ?_⟩
        by_cases e : i = k
        · subst e
          exact ⟨g, h1, h2, h3, OutE_le (by omega) _ _ _ _ h4⟩
        · obtain ⟨g, h1, h2, h3, h4⟩ := ih i hi (by omega)
          exact ⟨g, h1, h2, h3, OutE_le (by omega) _ _ _ _ h4⟩
      · exact ⟨D, fun i hi hik => ih i hi (by omega)⟩
  obtain ⟨D, h⟩ := hD ms.length
  exact ⟨D, a, c, e, fun i hi => h i hi hi⟩
/-- a rule in a row of lowered ones: done, or (kind 3 + its block) not yet -/
def RuX : Elt Tr 2 where
  E w P c t := (3 ≤ t.kind ∧ c 0 = some (.iface 110 (.pointer (some ⟨t.kind - 3, 0, none⟩))) ∧ c 1 = some (.int .i32 t.loc)) ∨ (t.kind ≤ 2 ∧ OutX.E w P c t)
  keep := by
    rintro w w' P P' h c m (q | ⟨k, q⟩)
    · exact Or.inl q
    · exact Or.inr ⟨k, OutX.keep h q⟩
  loc := by
    rintro w P c c' m h (⟨k, e0, e1⟩ | ⟨k, q⟩)
    · exact Or.inl ⟨k, by rw [← h 0 (by omega)]; exact e0, by rw [← h 1 (by omega)]; exact e1⟩
    · exact Or.inr ⟨k, OutX.loc h q⟩
/-- a row of lowered rules that the run owns -/
def OwnS (w : World) (lw : Value) (out : List Tr) (P : Nat → Prop) : Prop := ∃ xs, w.ownsRow 0 39 2 lw out.length xs ∧ (∀ u ∈ xs, u.oneCell' = true) ∧ ∀ i (h : i < out.length), RuX.E w P (fun t => xs[i * 2 + t]?) out[i]
structure OutS (w : World) (lw : Value) (n : Nat) (out : List Tr) (P : Nat → Prop) : Prop where
  len : out.length = n
  own : OwnS w lw out P
  sP : ∀ g, P g → g < w.heap.size ∧ some g ≠ lw.ownBlock
theorem OutS.ru {w : World} {lw : Value} {n : Nat} {out : List Tr} {P : Nat → Prop} (h : OutS w lw n out P) : OwnRu w lw n := by
  obtain ⟨xs, ho, h1, _⟩ := h.own
  rw [h.len] at ho
  exact ⟨xs, ho, h1⟩
theorem OutS.ownlt {w : World} {lw : Value} {n : Nat} {out : List Tr} {P : Nat → Prop} (h : OutS w lw n out P) {g : Nat} (hg : lw.ownBlock = some g) : g < w.heap.size := by
  obtain ⟨xs, ho, _⟩ := h.own
  exact (ho.lt g hg).2
theorem OutS.keep {w w' : World} {lw : Value} {n : Nat} {out : List Tr} {P : Nat → Prop} (h : OutS w lw n out P) (hs : w.heap.size ≤ w'.heap.size) (hb : ∀ g, P g ∨ lw.ownBlock = some g → w'.heap[g]? = w.heap[g]?) : OutS w' lw n out P := by
  obtain ⟨xs, ho, h1, h2⟩ := h.own
  exact ⟨h.len, ⟨xs, own_keep ho (fun g hg => hb g (Or.inr hg)), h1, fun i hi => RuX.keep ⟨hs, fun g hg _ => hb g (Or.inl hg), fun g hg _ => hg⟩ (h2 i hi)⟩, fun g hg => ⟨Nat.lt_of_lt_of_le (h.sP g hg).1 hs, (h.sP g hg).2⟩⟩
theorem OutS.frame {w w' : World} {lw : Value} {n : Nat} {out : List Tr} {P M : Nat → Prop} (h : OutS w lw n out P) (hF : FrM M w w') (hM : ∀ g, P g ∨ lw.ownBlock = some g → ¬ M g) : OutS w' lw n out P :=
  h.keep hF.size (fun g hg => hF.block g (hg.elim (fun q => (h.sP g q).1) (fun q => h.ownlt q)) (hM g hg))
theorem OutS.below {w w' : World} {lw : Value} {n : Nat} {out : List Tr} {P : Nat → Prop} (h : OutS w lw n out P) (hb : Below w.heap.size w w') : OutS w' lw n out P :=
  h.keep hb.size (fun g hg => hb.block g (hg.elim (fun q => (h.sP g q).1) (fun q => h.ownlt q)))
theorem OutS.sub {w : World} {lw : Value} {n : Nat} {out : List Tr} {P P' : Nat → Prop} (h : OutS w lw n out P) (hP : ∀ g, P g → P' g) (hs : ∀ g, P' g → g < w.heap.size ∧ some g ≠ lw.ownBlock) : OutS w lw n out P' := by
  obtain ⟨xs, ho, h1, h2⟩ := h.own
  exact ⟨h.len, ⟨xs, ho, h1, fun i hi => RuX.keep ⟨Nat.le_refl _, fun _ _ _ => rfl, fun g hg _ => hP g hg⟩ (h2 i hi)⟩, hs⟩
theorem OutS.nil (w : World) : OutS w (.slice none 0 0) 0 [] (fun _ => False) :=
  ⟨rfl, ⟨[], World.ownsRow_nil _ _ _ _, fun u hu => (by cases hu), fun i hi => by cases hi⟩, fun _ h => h.elim⟩
/-- the row as a slice: all done -/
theorem OutS.row {w : World} {lw : Value} {n : Nat} {out : List Tr} {P : Nat → Prop} (h : OutS w lw n out P) (hk : ∀ t ∈ out, t.kind ≤ 2) : RowL OutX w (fun g => P g ∨ lw.ownBlock = some g) lw out := by
  obtain ⟨xs, ho, _, h2⟩ := h.own
  have hE : ∀ i (hi : i < out.length), OutX.E w P (fun t => xs[i * 2 + t]?) out[i] := fun i hi => by
    rcases h2 i hi with ⟨q, _⟩ | ⟨_, q⟩
    · have := hk _ (List.getElem_mem hi); omega
    · exact q
  rcases ho.2 with ⟨e, h0⟩ | ⟨g, cap, cur, e, _⟩
  · subst e
    have : out = [] := List.length_eq_zero_iff.1 h0
    subst this
    exact RowL.nil _ _ _ _
  · subst e
    refine ⟨_, cap, rfl, fun i hi => ⟨g, rfl, Or.inr rfl, (ho.lt g rfl).2, ?_⟩⟩
    refine OutX.loc (fun t ht => (World.ownsRow.cellAt ho (i * 2 + t) (by have := ho.1; omega)).symm) (OutX.keep (P' := fun g' => P g' ∨ (Value.slice (some ⟨g, 0, none⟩) out.length cap).ownBlock = some g') ⟨Nat.le_refl _, fun _ _ _ => rfl, fun g hg _ => Or.inl hg⟩ (hE i hi))
/-- one row of lowered rules put behind another -/
theorem app_twoS {w : World} {v : Value} {n k c : Nat} {a : Option Addr} {out out2 : List Tr} {P : Nat → Prop} (hv : OutS w v n out P) (hs : OwnS w (.slice a k c) out2 P) (hk : out2.length = k) (hn : n + k ≤ 2000000) :
    ∃ v' w', (Builtin.append_ #[43, 43] 43 #[v, .slice a k c]).run Tryz.prog w = .ok v' w' ∧ OwnS w' v' (out ++ out2) P ∧ w.grownBy w' v.ownBlock ∧ (v'.ownBlock = v.ownBlock ∨ ∃ g, v'.ownBlock = some g ∧ w.heap.size ≤ g) := by
  obtain ⟨xs, ho, h1, hE⟩ := hv.own
  obtain ⟨ys, hq, h2, hE2⟩ := hs
  have hlen := hv.len
  have hsP := hv.sP
  clear hv
  subst hlen
  subst hk
  obtain ⟨hl, hc⟩ := hq
  rcases hc with ⟨e, h0⟩ | ⟨g, cap, cur, e, hb, hh, hc, hm, hsz, htk⟩
  · injection e with ea ek ec
    subst ea
    have h00 : out2 = [] := List.length_eq_zero_iff.1 h0
    subst h00
    subst ec
    obtain ⟨a1, c1, rfl, hc1⟩ := own_shape ho
    exact ⟨_, w, app_none 43 39 _ 2 24 Tryz.underlying43 info_RULE a1 _ c1 hc1 w, ⟨xs, by rw [List.append_nil]; exact ho, h1, fun i hi => by
      have hi' : i < out.length := by simpa using hi
      have e2 : (out ++ [])[i] = out[i] := by simp
      rw [e2]; exact hE i hi'⟩, ⟨rfl, rfl, rfl, Nat.le_refl _, fun _ _ _ => rfl⟩, Or.inl rfl⟩
  · injection e with ea ek ec
    subst ea
    subst ec
    obtain ⟨v', w', q1, q2, q3, q4⟩ := own_app 43 39 _ 2 24 Tryz.underlying43 info_RULE rfl (by decide) (by decide) w v out.length xs ho ⟨g, 0, none⟩ out2.length c ys hl (fun j u hj => by
      have hj' : j < ys.length := (List.getElem?_eq_some_iff.1 hj).1
      rw [add0]
      refine (hcell hh j u ?_).1
      rw [← htk, List.getElem?_take, if_pos (by omega), Array.getElem?_toList] at hj
      exact hj) h2 hn
    have hx : xs.length = out.length * 2 := ho.1
    have kp : Keep w w' P P := ⟨q3.size, fun g hg hl => q3.block g hl (hsP g hg).2, fun g hg _ => hg⟩
    refine ⟨v', w', q1, ⟨_, by rw [List.length_append]; exact q2, fun u hu => ?_, fun i hi => ?_⟩, q3, q4.imp id fun h => ⟨_, h, Nat.le_refl _⟩⟩
    · rcases List.mem_append.1 hu with hu | hu
      · exact h1 u hu
      · exact h2 u hu
    · by_cases hi2 : i < out.length
      · rw [List.getElem_append_left hi2]
        exact RuX.loc (fun t ht => by rw [List.getElem?_append_left (by omega)]) (RuX.keep kp (hE i hi2))
      · have hi3 : i - out.length < out2.length := by simp at hi; omega
        rw [List.getElem_append_right (by omega)]
        refine RuX.loc (fun t ht => ?_) (RuX.keep kp (hE2 (i - out.length) hi3))
        show ys[(i - out.length) * 2 + t]? = (xs ++ ys)[i * 2 + t]?
        rw [List.getElem?_append_right (by omega), hx]
        have e : i * 2 + t - out.length * 2 = (i - out.length) * 2 + t := by omega
        rw [e]
theorem one_ownS {u v : Value} {W : World} {g : Nat} {t : Tr} {P : Nat → Prop} (h : W.heap[g]? = some (.cells #[u, v] 39 (0, 0))) (h1 : u.oneCell' = true) (h2 : v.oneCell' = true) (hE : RuX.E W P (fun j => [u, v][j]?) t) : OwnS W (.slice (some ⟨g, 0, none⟩) 1 1) [t] P :=
  ⟨[u, v], ⟨rfl, Or.inr ⟨g, 1, _, rfl, Nat.zero_le _, h, Nat.le_refl _, by decide, rfl, rfl⟩⟩, fun x hx => by simp at hx; rcases hx with rfl | rfl <;> assumption, fun i hi => by
    have hi0 : i = 0 := by simp at hi; omega
    subst hi0
    exact RuX.loc (fun t _ => by rw [Nat.zero_mul, Nat.zero_add]) hE⟩
end Go.Proofs.YtjebnjjhdefejaaGreatFmt
