/-
  An at-rule lowered, with what it leaves: the rows. Conditions: each theorem's own.
-/
import Derived.Test.YtjebnjjhdefejaaGreatFmtSf
namespace Go.Proofs.YtjebnjjhdefejaaGreatFmt
open Go.RowKit Go.Lib Go.ChangeMaps
theorem lowM_kind : ∀ (d : Nat) (b : Bool) (u t : Tr), t ∈ lowM d b u → t.kind ≤ 2
  | 0, _, _, _, h => by simp [lowM] at h
  | d + 1, b, .mk loc k kids, t, h => by
    have hf : ∀ (c : Bool), t ∈ kids.flatMap (lowM d c) → t.kind ≤ 2 := fun c h => by
      obtain ⟨u, _, h⟩ := List.mem_flatMap.1 h
      exact lowM_kind d c u t h
    have hs : t ∈ (if keptM kids = [] then ([] : List Tr) else [.mk loc 1 (keptM kids)]) → t.kind ≤ 2 := fun h => by
      split at h
      · cases h
      · simp at h
        rw [h]
        show 1 ≤ 2
        omega
    unfold lowM at h
    split at h
    · split at h
      · cases h
      · simp at h
        rw [h]
        exact Nat.zero_le _
    · split at h
      · rcases List.mem_append.1 h with h | h
        · exact hs h
        · exact hf true h
      · generalize ((if keptM kids = [] then ([] : List Tr) else [.mk loc 1 (keptM kids)]) ++ kids.flatMap (lowM d true)) = X at h
        split at h
        · split at h
          · cases h
          · simp only [List.mem_singleton] at h
            rw [h]
            exact Nat.le_refl _
        · simp only [List.mem_singleton] at h
          rw [h]
          exact Nat.le_refl _
/-- the style rule put before what the children leave -/
theorem appS7 {W6 A2 : World} {ak : Option Addr} {nk ck K cap rb : Nat} {pw : Value} {l : Int} {flat kids : List Tr} {P5 : Nat → Prop} {arr5 : Array Value} (hb2 : Below W6.heap.size W6 A2) (hz : A2.heap.size = W6.heap.size + 2) (hs : A2.heap[W6.heap.size]? = some (.cells #[pw, .slice (some ⟨rb, 0, none⟩) K cap, .int .i32 0] 114 (0, 0))) (hr : A2.heap[W6.heap.size + 1]? = some (.cells #[.iface 110 (.pointer (some ⟨W6.heap.size, 0, none⟩)), .int .i32 l] 39 (0, 0)))
    (h6S : OutS W6 (.slice ak nk ck) nk flat P5) (hrb : W6.heap[rb]? = some (.cells arr5 39 (0, 0))) (hk : Kept arr5 kids) (hK : (keptM kids).length = K) (hn : 1 + nk ≤ 2000000) :
    ∃ v7 w7, (Builtin.append_ #[43, 43] 43 #[.slice (some ⟨W6.heap.size + 1, 0, none⟩) 1 1, .slice ak nk ck]).run Tryz.prog A2 = .ok v7 w7 ∧ OutS w7 v7 (1 + nk) (.mk l 1 (keptM kids) :: flat) (fun g => P5 g ∨ g = rb ∨ g = W6.heap.size) ∧ A2.grownBy w7 (some (W6.heap.size + 1)) ∧ ∀ g, v7.ownBlock = some g → W6.heap.size < g := by
  have hrl := heap_lt hrb
  have hsz := hb2.size
  have hPQ : ∀ g, (P5 g ∨ g = rb ∨ g = W6.heap.size) → g < A2.heap.size ∧ some g ≠ (Value.slice (some ⟨W6.heap.size + 1, 0, none⟩) 1 1).ownBlock := fun g hg => by
    have hlt : g ≤ W6.heap.size := by
      rcases hg with hg | rfl | rfl
      · exact Nat.le_of_lt (h6S.sP g hg).1
      · omega
      · omega
    exact ⟨by omega, fun e => by have : g = W6.heap.size + 1 := Option.some.inj e; omega⟩
  have hrb2 := (hb2.block _ hrl).trans hrb
  have hone : OwnS A2 (.slice (some ⟨W6.heap.size + 1, 0, none⟩) 1 1) [.mk l 1 (keptM kids)] (fun g => P5 g ∨ g = rb ∨ g = W6.heap.size) := one_ownS hr rfl rfl (Or.inr ⟨show 1 ≤ 2 by omega, 2, rfl, Or.inr (Or.inl ⟨rfl, W6.heap.size, _, _, _, rfl, Or.inr (Or.inr rfl), heap_lt hs, hs, by
    have h := kept_row (P := fun g => P5 g ∨ g = rb ∨ g = W6.heap.size) (cap := cap) hrb2 hk (Or.inr (Or.inl rfl))
    rw [hK] at h
    exact h⟩)⟩)
  have hA := h6S.below hb2
  have hsub : OwnS A2 (.slice ak nk ck) flat (fun g => P5 g ∨ g = rb ∨ g = W6.heap.size) := by
    obtain ⟨xs, ho, h1, h2⟩ := hA.own
    exact ⟨xs, ho, h1, fun i hi => RuX.keep (Keep.weak A2 fun g hg _ => Or.inl hg) (h2 i hi)⟩
  obtain ⟨v7, w7, q1, q2, q3, q4⟩ := app_twoS (w := A2) (n := 1) ⟨rfl, hone, hPQ⟩ hsub h6S.len hn
  have hat : ∀ g, v7.ownBlock = some g → W6.heap.size < g := fun g hg => by
    rcases q4 with e | ⟨g', e, hq⟩
    · rw [e] at hg
      have : W6.heap.size + 1 = g := Option.some.inj hg
      omega
    · rw [e] at hg
      have := Option.some.inj hg
      omega
  have hs3 := q3.size
  refine ⟨v7, w7, q1, ⟨by have := h6S.len; simp; omega, q2, fun g hg => ⟨by have := (hPQ g hg).1; omega, fun e => ?_⟩⟩, q3, hat⟩
  have h1 := hat g e.symm
  rcases hg with hg | rfl | rfl
  · have := (h6S.sP g hg).1; omega
  · omega
  · omega
/-- the at-rule put behind the context's rules -/
theorem appS9 {W8 WA : World} {b n n7 : Nat} {lw ch : Value} {l : Int} {lst out : List Tr} {P P7 : Nat → Prop} {arr : Array Value} (hb8 : Below W8.heap.size W8 WA) (hnew : WA.heap[W8.heap.size]? = some (.cells #[.iface 115 (.pointer (some ⟨b, 0, none⟩)), .int .i32 l] 39 (0, 0))) (h8S : OutS W8 ch n7 lst P7) (h8O : OutS W8 lw n out P) (hlk : ∀ t ∈ lst, t.kind ≤ 2) (hb : W8.heap[b]? = some (.cells arr 117 (0, 0))) (ha : arr[2]? = some ch)
    (hd : ∀ g, P7 g ∨ ch.ownBlock = some g ∨ g = b → some g ≠ lw.ownBlock) (hn : n + 1 ≤ 2000000) :
    ∃ v9 w9, (Builtin.append_ #[43, 43] 43 #[lw, .slice (some ⟨W8.heap.size, 0, none⟩) 1 1]).run Tryz.prog WA = .ok v9 w9 ∧ OutS w9 v9 (n + 1) (out ++ [.mk l 2 lst]) (fun g => P g ∨ P7 g ∨ ch.ownBlock = some g ∨ g = b) ∧ WA.grownBy w9 lw.ownBlock ∧ (v9.ownBlock = lw.ownBlock ∨ ∃ g, v9.ownBlock = some g ∧ WA.heap.size ≤ g) := by
  have hs8 := hb8.size
  have hPP : ∀ g, (P g ∨ P7 g ∨ ch.ownBlock = some g ∨ g = b) → g < W8.heap.size ∧ some g ≠ lw.ownBlock := fun g hg => by
    rcases hg with hg | hg
    · exact h8O.sP g hg
    · refine ⟨?_, hd g hg⟩
      rcases hg with hg | hg | rfl
      · exact (h8S.sP g hg).1
      · exact h8S.ownlt hg
      · exact heap_lt hb
  obtain ⟨D, hrow⟩ := outX_row ((h8S.below hb8).row hlk)
  have hrow2 : RowL (OutE D) WA (fun g => P g ∨ P7 g ∨ ch.ownBlock = some g ∨ g = b) ch lst := hrow.keep (Keep.weak WA fun g hg _ => by
    rcases hg with h | h
    · exact Or.inr (Or.inl h)
    · exact Or.inr (Or.inr (Or.inl h)))
  have hbA := (hb8.block _ (heap_lt hb)).trans hb
  have hone : OwnS WA (.slice (some ⟨W8.heap.size, 0, none⟩) 1 1) [.mk l 2 lst] (fun g => P g ∨ P7 g ∨ ch.ownBlock = some g ∨ g = b) := one_ownS hnew rfl rfl (Or.inr ⟨Nat.le_refl _, D + 1, rfl, Or.inr (Or.inr ⟨rfl, b, ch, arr, rfl, Or.inr (Or.inr (Or.inr rfl)), heap_lt hbA, hbA, ha, hrow2⟩)⟩)
  have hv := (h8O.below hb8).sub (P' := fun g => P g ∨ P7 g ∨ ch.ownBlock = some g ∨ g = b) (fun g hg => Or.inl hg) (fun g hg => ⟨by have := (hPP g hg).1; omega, (hPP g hg).2⟩)
  obtain ⟨v9, w9, q1, q2, q3, q4⟩ := app_twoS (w := WA) (k := 1) hv hone rfl hn
  refine ⟨v9, w9, q1, ⟨by have := h8O.len; simp; omega, q2, fun g hg => ⟨by have := (hPP g hg).1; have := q3.size; omega, fun e => ?_⟩⟩, q3, q4⟩
  rcases q4 with h | ⟨g', h, hq⟩
  · exact (hPP g hg).2 (e.trans h)
  · rw [h] at e
    have := Option.some.inj e
    have := (hPP g hg).1
    omega
structure KatRS (d : Nat) (kids : List Tr) (l : Int) (lo hi cb : Nat) (pw pn lw : Value) (n : Nat) (S : Nat → Prop) (m pb : Nat) (out : List Tr) (P : Nat → Prop) (w : World) (e : Ending) (w' : World) : Prop where
  ex : ∃ lw' n' P', e = .returned (.agg #[.nilIface, .int .i32 0]) ∧ n ≤ n' ∧ n' ≤ n + (1 + cntTL d kids) ∧ CtxOK w' cb pw pn lw' n' S m pb ∧ FrM (Mod lo hi cb lw) w w' ∧ OwnG w lw lw' ∧ OutS w' lw' n' (out ++ lowM (d + 1) true (.mk l 2 kids)) P' ∧ ∀ g, P' g → P g ∨ (lo ≤ g ∧ g < hi) ∨ w.heap.size ≤ g
theorem lowM_at (d : Nat) (loc : Int) (kids : List Tr) : lowM (d + 1) true (.mk loc 2 kids) = (if (if keptM kids = [] then [] else [.mk loc 1 (keptM kids)]) ++ kids.flatMap (lowM d true) = [] then [] else [.mk loc 2 ((if keptM kids = [] then [] else [.mk loc 1 (keptM kids)]) ++ kids.flatMap (lowM d true))]) := by
  simp [lowM]
end Go.Proofs.YtjebnjjhdefejaaGreatFmt
