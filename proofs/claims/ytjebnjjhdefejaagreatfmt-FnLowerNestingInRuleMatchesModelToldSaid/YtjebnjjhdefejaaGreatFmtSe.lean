/-
  A style rule lowered, with what it leaves: what it asks and answers. Conditions: each theorem's own.
-/
import Derived.Test.YtjebnjjhdefejaaGreatFmtSd
namespace Go.Proofs.YtjebnjjhdefejaaGreatFmt
open Go.RowKit Go.Lib Go.ChangeMaps
structure LowRS (d : Nat) (kids : List Tr) (lo hi b sb : Nat) (lw : Value) (n : Nat) (loc : Int) (out : List Tr) (P : Nat → Prop) (w : World) (e : Ending) (w' : World) : Prop where
  ex : ∃ lw' n' P', e = .returned lw' ∧ n ≤ n' ∧ n' ≤ n + (1 + cntTL d kids) ∧ FrM (fun g => (lo ≤ g ∧ g < hi) ∨ g = b ∨ g = sb ∨ lw.ownBlock = some g) w w' ∧ OwnG w lw lw' ∧ OutS w' lw' n' (out ++ lowM (d + 1) true (.mk loc 1 kids)) P' ∧ ∀ g, P' g → P g ∨ (lo ≤ g ∧ g < hi) ∨ g = b ∨ w.heap.size ≤ g
def PLowS (d : Nat) : Prop := ∀ (kids : List Tr) (w : World) (lo hi b sb sc m : Nat) (x rs u : Value) (S : Nat → Prop) (lw : Value) (n pb : Nat) (loc : Int) (out : List Tr) (P : Nat → Prop), LowH d kids w lo hi b sb sc m x rs u S lw n pb → OutS w lw n out P → (∀ g, P g → (g < lo ∨ hi ≤ g) ∧ g ≠ b ∧ g ≠ sb) →
  Calls Tryz.prog 19 #[.pointer (some ⟨pb, 0, none⟩), .agg #[.iface 110 (.pointer (some ⟨b, 0, none⟩)), .int .i32 loc], lw] w fun e w' => LowRS d kids lo hi b sb lw n loc out P w e w'
theorem OutS.snocx {wr w2 : World} {lw v2 : Value} {n : Nat} {out : List Tr} {P : Nat → Prop} {t : Tr} {xs news : List Value} (hl : out.length = n) (hE : ∀ i (h : i < out.length), RuX.E wr P (fun t => xs[i * 2 + t]?) out[i]) (hx : xs.length = n * 2) (ho : w2.ownsRow 0 39 2 v2 (n + 1) (xs ++ news)) (h1 : ∀ u ∈ xs ++ news, u.oneCell' = true) (hg : wr.grownBy w2 lw.ownBlock) (hP : ∀ g, P g → g < wr.heap.size ∧ some g ≠ lw.ownBlock) (hat : v2.ownBlock = lw.ownBlock ∨ ∃ g, v2.ownBlock = some g ∧ wr.heap.size ≤ g) (hn : RuX.E w2 P (fun j => news[j]?) t) : OutS w2 v2 (n + 1) (out ++ [t]) P := by
  have hl2 : (out ++ [t]).length = n + 1 := by simp [hl]
  have kp : Keep wr w2 P P := ⟨hg.size, fun g hp hl => hg.block g hl (hP g hp).2, fun g hp _ => hp⟩
  refine ⟨hl2, ⟨_, by rw [hl2]; exact ho, h1, fun i hi => ?_⟩, fun g hp => ⟨Nat.lt_of_lt_of_le (hP g hp).1 hg.size, fun e => ?_⟩⟩
  · by_cases e : i < out.length
    · rw [List.getElem_append_left e]
      exact RuX.loc (fun u hu => by rw [List.getElem?_append_left (by omega)]) (RuX.keep kp (hE i e))
    · have e2 : i = out.length := by rw [hl2] at hi; omega
      subst e2
      have e3 : (out ++ [t])[out.length] = t := by simp
      rw [e3]
      refine RuX.loc (fun u hu => ?_) hn
      show news[u]? = (xs ++ news)[out.length * 2 + u]?
      rw [List.getElem?_append_right (by omega), hx, hl, Nat.add_sub_cancel_left]
  · rcases hat with q | ⟨g', q, hq⟩
    · exact (hP g hp).2 (e.trans q)
    · rw [q] at e
      have := Option.some.inj e
      have := (hP g hp).1
      omega
theorem OutS.replace {w : World} {lw : Value} {n : Nat} {l1 l2 : List Tr} {t t' : Tr} {P P' : Nat → Prop} (h : OutS w lw n (l1 ++ t :: l2) P) (hP : ∀ g, P g → P' g) (hs : ∀ g, P' g → g < w.heap.size ∧ some g ≠ lw.ownBlock) (hE : ∀ c, RuX.E w P' c t → RuX.E w P' c t') : OutS w lw n (l1 ++ t' :: l2) P' := by
  have h' := h.sub hP hs
  obtain ⟨xs, ho, h1, h2⟩ := h'.own
  have hlen : (l1 ++ t' :: l2).length = (l1 ++ t :: l2).length := by simp
  refine ⟨hlen.trans h'.len, ⟨xs, by rw [hlen]; exact ho, h1, fun i hi => ?_⟩, hs⟩
  have hq := h2 i (by rw [← hlen]; exact hi)
  by_cases e : i = l1.length
  · subst e
    have e1 : (l1 ++ t :: l2)[l1.length]'(by simp) = t := by simp
    have e2 : (l1 ++ t' :: l2)[l1.length]'(by simp) = t' := by simp
    rw [e2]
    rw [e1] at hq
    exact hE _ hq
  · have e1 : (l1 ++ t' :: l2)[i] = (l1 ++ t :: l2)[i]'(by rw [← hlen]; exact hi) := by
      by_cases e2 : i < l1.length
      · rw [List.getElem_append_left e2, List.getElem_append_left e2]
      · rw [List.getElem_append_right (by omega), List.getElem_append_right (by omega)]
        obtain ⟨j, hj⟩ : ∃ j, i - l1.length = j + 1 := ⟨i - l1.length - 1, by omega⟩
        simp only [hj, List.getElem_cons_succ]
    rw [e1]
    exact hq
theorem keptM_mem {ts : List Tr} {t : Tr} (h : t ∈ keptM ts) : t.kind = 0 ∧ t.kids = [] := by
  unfold keptM at h
  obtain ⟨u, _, rfl⟩ := List.mem_map.1 h
  exact ⟨rfl, rfl⟩
/-- the remaining declarations as a row -/
theorem kept_row {w : World} {P : Nat → Prop} {rb cap : Nat} {arr : Array Value} {ts : List Tr} (h : w.heap[rb]? = some (.cells arr 39 (0, 0))) (hk : Kept arr ts) (hP : P rb) : RowL (OutE 1) w P (.slice (some ⟨rb, 0, none⟩) (keptM ts).length cap) (keptM ts) := by
  refine ⟨_, cap, rfl, fun i hi => ⟨rb, rfl, hP, heap_lt h, ?_⟩⟩
  obtain ⟨b, h1, h2⟩ := hk i hi
  obtain ⟨k1, k2⟩ := keptM_mem (List.getElem_mem hi)
  exact ⟨(hcell h _ _ h2).1, Or.inl ⟨k1, k2, b, (hcell h _ _ h1).1⟩⟩
theorem lowM_style (d : Nat) (b : Bool) (loc : Int) (kids : List Tr) : lowM (d + 1) b (.mk loc 1 kids) = (if keptM kids = [] then [] else [.mk loc 1 (keptM kids)]) ++ kids.flatMap (lowM d true) := by
  simp [lowM]
end Go.Proofs.YtjebnjjhdefejaaGreatFmt
