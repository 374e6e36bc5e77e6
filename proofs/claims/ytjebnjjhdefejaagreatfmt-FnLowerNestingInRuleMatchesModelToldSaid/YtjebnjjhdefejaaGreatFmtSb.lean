/-
  A rule taken out of a row of lowered rules. Conditions: each theorem's own.
-/
import Derived.Test.YtjebnjjhdefejaaGreatFmtSa
namespace Go.Proofs.YtjebnjjhdefejaaGreatFmt
open Go.RowKit Go.Lib Go.ChangeMaps
/-- a rule taken out of a row of rules: copy(rules[n:], rules[n+1:]) -/
theorem copy_drop2 (a3 : Option Addr) (n n3 c3 : Nat) (W : World) (ty : TypeId) (xs : List Value) (h0 : W.ownsRow 0 39 2 (.slice a3 n3 c3) n3 xs) (h1 : ∀ u ∈ xs, u.oneCell' = true) (hn : n + 1 ≤ n3) :
    ∃ g k Wk, a3 = some ⟨g, 0, none⟩ ∧ (Builtin.copy_ #[43, 43] ty #[.slice (if c3 = n then a3 else a3.map (·.add (n * 2))) (n3 - n) (c3 - n), .slice (if c3 = n + 1 then a3 else a3.map (·.add ((n + 1) * 2))) (n3 - (n + 1)) (c3 - (n + 1))]).run Tryz.prog W = .ok (goInt k) Wk ∧
      (∃ ys, Wk.ownsRow 0 39 2 (.slice a3 (n3 - 1) c3) (n3 - 1) ys ∧ (∀ u ∈ ys, u.oneCell' = true) ∧ ∀ j, j < (n3 - 1) * 2 → ys[j]? = if j < n * 2 then xs[j]? else xs[j + 2]?) ∧ Wk.heap.size = W.heap.size ∧ (∀ q, q ≠ g → Wk.heap[q]? = W.heap[q]?) ∧ Wk.os = W.os ∧ Wk.tape = W.tape ∧ Wk.output = W.output := by
  obtain ⟨hl, h2⟩ := h0
  rcases h2 with ⟨_, h0⟩ | ⟨g, cap, cur, hv, hb, hh, hc, hm, hsz, htk⟩
  · omega
  · injection hv with ha _ hcc
    subst ha
    subst hcc
    have hxs : ∀ j, j < n3 * 2 → xs[j]? = cur[j]? := fun j hj => by
      rw [← htk, List.getElem?_take, if_pos hj, Array.getElem?_toList]
    obtain ⟨cs, hcs⟩ : ∃ cs, cs = xs.drop ((n + 1) * 2) := ⟨_, rfl⟩
    have hcl : cs.length = (n3 - (n + 1)) * 2 := by rw [hcs, List.length_drop]; omega
    have hcat : ∀ j, cs[j]? = xs[(n + 1) * 2 + j]? := fun j => by rw [hcs, List.getElem?_drop]
    have hmem : ∀ v ∈ cs, v ∈ xs := fun v hv => by rw [hcs] at hv; exact List.mem_of_mem_drop hv
    have hcur : ∀ j, j < c3 * 2 → ∃ v, cur[j]? = some v := fun j hj => ⟨_, Array.getElem?_eq_getElem (by omega)⟩
    obtain ⟨arr, k1, k2, k3, k4⟩ := heap_setCells cs (n * 2) W cur hh
    have hrun : (Builtin.copy_ #[43, 43] ty #[.slice (if c3 = n then some ⟨g, 0, none⟩ else (some (⟨g, 0, none⟩ : Addr)).map (·.add (n * 2))) (n3 - n) (c3 - n), .slice (if c3 = n + 1 then some ⟨g, 0, none⟩ else (some (⟨g, 0, none⟩ : Addr)).map (·.add ((n + 1) * 2))) (n3 - (n + 1)) (c3 - (n + 1))]).run Tryz.prog W = .ok (goInt (n3 - (n + 1) : Nat)) (W.setCells g (n * 2) cs) := by
      rw [if_neg (by omega), Option.map_some, add0]
      have hcc : ∀ j, j < cs.length → ∃ v, W.cell? ⟨g, n * 2 + j, none⟩ = some v ∧ W.frozen? ⟨g, n * 2 + j, none⟩ = false := fun j hj => by
        obtain ⟨v, hv⟩ := hcur (n * 2 + j) (by omega)
        exact ⟨v, hcell hh _ v hv⟩
      by_cases e : c3 = n + 1
      · rw [if_pos e]
        have h0 : cs = [] := List.length_eq_zero_iff.1 (by omega)
        exact run_copy2 W 43 43 ty 39 g (n * 2) (n3 - n) (c3 - n) ⟨g, 0, none⟩ (n3 - (n + 1)) (c3 - (n + 1)) (n3 - (n + 1)) cs Tryz.underlying43 (by kernel_rfl) (Nat.min_eq_left (by omega)) hcl (fun j v hj => by rw [h0] at hj; simp at hj) (fun j hj => by obtain ⟨v, hv, _⟩ := hcc j hj; rw [hv]; rfl) (fun j hj => (hcc j hj).choose_spec.2) (fun v hv => h1 v (hmem v hv))
      · rw [if_neg e, Option.map_some, add0]
        exact run_copy2 W 43 43 ty 39 g (n * 2) (n3 - n) (c3 - n) ⟨g, (n + 1) * 2, none⟩ (n3 - (n + 1)) (c3 - (n + 1)) (n3 - (n + 1)) cs Tryz.underlying43 (by kernel_rfl) (Nat.min_eq_left (by omega)) hcl (fun j v hj => by
          rw [addO]
          have hj' : j < cs.length := (List.getElem?_eq_some_iff.1 hj).1
          rw [hcat, hxs _ (by omega)] at hj
          exact (hcell hh _ v hj).1) (fun j hj => by obtain ⟨v, hv, _⟩ := hcc j hj; rw [hv]; rfl) (fun j hj => (hcc j hj).choose_spec.2) (fun v hv => h1 v (hmem v hv))
    refine ⟨g, _, _, rfl, hrun, ⟨arr.toList.take ((n3 - 1) * 2), ⟨?_, Or.inr ⟨g, c3, arr, rfl, hb, k1, by omega, hm, by omega, rfl⟩⟩, fun u hu => ?_, fun j hj => ?_⟩, size_setCells' _ _ _, fun q hq => other_setCells hq _ _ _, (os_setCells _ _ _).1, (os_setCells _ _ _).2.1, (os_setCells _ _ _).2.2⟩
    · rw [List.length_take, Array.length_toList]; omega
    · obtain ⟨j, hj, rfl⟩ := List.getElem_of_mem hu
      have hj2 : j < (n3 - 1) * 2 := by rw [List.length_take] at hj; omega
      have hat : arr[j]? = some (arr.toList.take ((n3 - 1) * 2))[j] := by
        rw [← List.getElem?_eq_getElem hj, List.getElem?_take, if_pos hj2, Array.getElem?_toList]
      by_cases e : j < n * 2
      · rw [k4 j e, ← hxs j (by omega)] at hat
        exact h1 _ (List.mem_of_getElem? hat)
      · have hq := k3 (j - n * 2) (by omega) (by omega)
        have hq2 : arr[j]? = some cs[j - n * 2] := (congrArg (fun x => arr[x]?) (show j = n * 2 + (j - n * 2) by omega)).trans hq
        have hq3 := Option.some.inj (hat.symm.trans hq2)
        exact (congrArg Value.oneCell' hq3).trans (h1 _ (hmem _ (List.getElem_mem _)))
    · rw [List.getElem?_take, if_pos hj, Array.getElem?_toList]
      by_cases e : j < n * 2
      · rw [k4 j e, if_pos e, hxs j (by omega)]
      · rw [if_neg e]
        have hq := k3 (j - n * 2) (by omega) (by omega)
        have hq2 : arr[j]? = some cs[j - n * 2] := (congrArg (fun x => arr[x]?) (show j = n * 2 + (j - n * 2) by omega)).trans hq
        rw [hq2, ← List.getElem?_eq_getElem, hcat]
        have e2 : (n + 1) * 2 + (j - n * 2) = j + 2 := by omega
        rw [e2]
/-- a rule taken out of a row of lowered rules -/
theorem copy_dropS (a3 : Option Addr) (n n3 c3 : Nat) (W : World) (ty : TypeId) (l1 l2 : List Tr) (t : Tr) (P : Nat → Prop) (h : OutS W (.slice a3 n3 c3) n3 (l1 ++ t :: l2) P) (hn : l1.length = n) :
    ∃ g k Wk, a3 = some ⟨g, 0, none⟩ ∧ (Builtin.copy_ #[43, 43] ty #[.slice (if c3 = n then a3 else a3.map (·.add (n * 2))) (n3 - n) (c3 - n), .slice (if c3 = n + 1 then a3 else a3.map (·.add ((n + 1) * 2))) (n3 - (n + 1)) (c3 - (n + 1))]).run Tryz.prog W = .ok (goInt k) Wk ∧
      OutS Wk (.slice a3 (n3 - 1) c3) (n3 - 1) (l1 ++ l2) P ∧ Wk.heap.size = W.heap.size ∧ (∀ q, q ≠ g → Wk.heap[q]? = W.heap[q]?) ∧ Wk.os = W.os ∧ Wk.tape = W.tape ∧ Wk.output = W.output := by
  obtain ⟨xs, ho, h1, hE⟩ := h.own
  have hlen := h.len
  have hl3 : l1.length + l2.length + 1 = n3 := by simp at hlen; omega
  rw [hlen] at ho
  obtain ⟨g, k, Wk, ha, hr, ⟨ys, hy, hy1, hy2⟩, hz, hb, hos⟩ := copy_drop2 a3 n n3 c3 W ty xs ho h1 (by omega)
  have hne : ∀ q, P q → q ≠ g := fun q hq e => (h.sP q hq).2 (by rw [ha, e]; rfl)
  have hl4 : (l1 ++ l2).length = n3 - 1 := by rw [List.length_append]; omega
  refine ⟨g, k, Wk, ha, hr, ⟨hl4, ⟨ys, by rw [hl4]; exact hy, hy1, fun i hi => ?_⟩, fun q hq => ⟨by rw [hz]; exact (h.sP q hq).1, fun e => (h.sP q hq).2 (by rw [e]; cases a3 <;> rfl)⟩⟩, hz, hb, hos⟩
  have kp : Keep W Wk P P := ⟨by omega, fun q hq _ => hb q (hne q hq), fun q hq _ => hq⟩
  by_cases e : i < n
  · have e2 : (l1 ++ l2)[i] = (l1 ++ t :: l2)[i]'(by simp; omega) := by
      rw [List.getElem_append_left (by omega), List.getElem_append_left (by omega)]
    rw [e2]
    refine RuX.loc (fun u hu => ?_) (RuX.keep kp (hE i (by simp; omega)))
    show xs[i * 2 + u]? = ys[i * 2 + u]?
    rw [hy2 _ (by omega), if_pos (by omega)]
  · have e2 : (l1 ++ l2)[i] = (l1 ++ t :: l2)[i + 1]'(by simp at hi ⊢; omega) := by
      rw [List.getElem_append_right (by omega), List.getElem_append_right (by omega)]
      have e3 : i + 1 - l1.length = (i - l1.length) + 1 := by omega
      simp only [e3, List.getElem_cons_succ]
    rw [e2]
    refine RuX.loc (fun u hu => ?_) (RuX.keep kp (hE (i + 1) (by simp at hi ⊢; omega)))
    show xs[(i + 1) * 2 + u]? = ys[i * 2 + u]?
    rw [hy2 _ (by omega), if_neg (by omega)]
    have e4 : i * 2 + u + 2 = (i + 1) * 2 + u := by omega
    rw [e4]
end Go.Proofs.YtjebnjjhdefejaaGreatFmt
