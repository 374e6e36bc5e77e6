/-
  The rules of a tree counted. Conditions: each theorem's own.
-/
import Derived.Test.YtjebnjjhdefejaaGreatFmtMi
namespace Go.Proofs.YtjebnjjhdefejaaGreatFmt
open Go.RowKit Go.Lib Go.ChangeMaps
theorem cnt_indep (par : Nat → Option Nat) (kd : Nat → Nat) (n : Nat) (hlt : ∀ k p, par k = some p → p < k) : ∀ (d d' i : Nat), i < n → n ≤ i + d → n ≤ i + d' → cntT d (treeM par kd n d i) = cntT d' (treeM par kd n d' i)
  | 0, _, i, h, h1, _ => by omega
  | _ + 1, 0, i, h, _, h2 => by omega
  | d + 1, d' + 1, i, h, h1, h2 => by
    show 1 + (((ofP par n (some i)).map (treeM par kd n d)).map (cntT d)).sum = 1 + (((ofP par n (some i)).map (treeM par kd n d')).map (cntT d')).sum
    rw [List.map_map, List.map_map]
    congr 2
    apply List.map_congr_left
    intro k hk
    obtain ⟨hkn, hkp⟩ := mem_ofP.1 hk
    have := hlt k i hkp
    exact cnt_indep par kd n hlt d d' k hkn (by omega) (by omega)
theorem sum_filter {f : Nat → Nat} {p : Nat → Bool} : ∀ (l : List Nat), ((l.filter p).map f).sum = (l.map fun j => if p j then f j else 0).sum
  | [] => rfl
  | a :: l => by
    have ih := sum_filter (f := f) (p := p) l
    rw [List.filter_cons]
    cases h : p a
    · simp [h, ih]
    · simp [h, ih]
theorem sum_add' {f g : Nat → Nat} : ∀ (l : List Nat), (l.map fun j => f j + g j).sum = (l.map f).sum + (l.map g).sum
  | [] => rfl
  | a :: l => by
    have ih := sum_add' (f := f) (g := g) l
    simp only [List.map_cons, List.sum_cons, ih]
    omega
theorem sum_one {f : Nat → Nat} (k : Nat) : ∀ n, ((List.range n).map fun j => if j = k then f j else 0).sum = if k < n then f k else 0
  | 0 => by simp
  | n + 1 => by
    rw [List.range_succ, List.map_append, List.sum_append, sum_one k n]
    simp only [List.map_cons, List.map_nil, List.sum_cons, List.sum_nil]
    by_cases h : n = k
    · subst h
      simp
    · by_cases h2 : k < n
      · rw [if_pos h2, if_neg h, if_pos (by omega)]
        rfl
      · have h3 : ¬ k < n + 1 := by omega
        rw [if_neg h2, if_neg h, if_neg h3]
        omega
/-- those from k on whose parent lies below k -/
def offB (par : Nat → Option Nat) (k j : Nat) : Bool := decide (k ≤ j) && (match par j with | none => true | some p => decide (p < k))
theorem off_sum (par : Nat → Option Nat) (kd : Nat → Nat) (n : Nat) (hlt : ∀ k p, par k = some p → p < k) : ∀ (m k : Nat), k + m = n → ((List.range n).map fun j => if offB par k j then cntT n (treeM par kd n n j) else 0).sum = m
  | 0, k, h => by
    have : ∀ j ∈ List.range n, (if offB par k j then cntT n (treeM par kd n n j) else 0) = 0 := fun j hj => by
      have hj' := List.mem_range.1 hj
      have : offB par k j = false := by
        unfold offB
        rw [decide_eq_false (by omega)]
        rfl
      rw [this]
      rfl
    rw [List.map_congr_left this]
    clear this
    induction (List.range n) with
    | nil => rfl
    | cons a l ih => rw [List.map_cons, List.sum_cons, ih]
  | m + 1, k, h => by
    have ih := off_sum par kd n hlt m (k + 1) (by omega)
    have hk : k < n := by omega
    obtain ⟨n', hn'⟩ : ∃ n', n = n' + 1 := ⟨n - 1, by omega⟩
    have e1 : ∀ j ∈ List.range n, (if offB par k j then cntT n (treeM par kd n n j) else 0) = (if j = k then cntT n (treeM par kd n n j) else 0) + (if (offB par k j && decide (k < j)) then cntT n (treeM par kd n n j) else 0) := fun j _ => by
      by_cases hj : j = k
      · subst hj
        have : offB par j j = true := by
          unfold offB
          rw [decide_eq_true (Nat.le_refl _)]
          cases hp : par j with
          | none => rfl
          | some p => simp [hlt j p hp]
        simp [this]
      · rw [if_neg hj, Nat.zero_add]
        congr 1
        by_cases hb : offB par k j = true
        · have : k < j := by
            unfold offB at hb
            simp at hb
            omega
          simp [hb, this]
        · simp [hb]
    have e2 : ∀ j ∈ List.range n, (if offB par (k + 1) j then cntT n (treeM par kd n n j) else 0) = (if (par j == some k) then cntT n (treeM par kd n n j) else 0) + (if (offB par k j && decide (k < j)) then cntT n (treeM par kd n n j) else 0) := fun j _ => by
      unfold offB
      cases hp : par j with
      | none =>
        by_cases hj : k < j
        · have h1 : k + 1 ≤ j := hj
          have h2 : k ≤ j := by omega
          simp [h1, h2, hj]
        · have h1 : ¬ k + 1 ≤ j := hj
          simp [h1, hj]
      | some p =>
        have hpj := hlt j p hp
        by_cases hpk : p = k
        · subst hpk
          have h1 : p + 1 ≤ j := hpj
          simp [h1]
        · by_cases h2 : p < k
          · by_cases hj : k < j
            · have h1 : k + 1 ≤ j := hj
              have h3 : p < k + 1 := by omega
              have h4 : k ≤ j := by omega
              simp [h1, h2, h3, h4, hj, hpk]
            · have h1 : ¬ k + 1 ≤ j := hj
              simp [h1, hj, hpk]
          · have h3 : ¬ p < k + 1 := by omega
            simp [h2, h3, hpk]
    rw [List.map_congr_left e1, sum_add', sum_one, if_pos hk]
    rw [List.map_congr_left e2, sum_add'] at ih
    have e3 : cntT n (treeM par kd n n k) = 1 + ((List.range n).map fun j => if (par j == some k) then cntT n (treeM par kd n n j) else 0).sum := by
      rw [← sum_filter]
      show _ = 1 + ((ofP par n (some k)).map fun j => cntT n (treeM par kd n n j)).sum
      have e4 : cntT n (treeM par kd n n k) = cntT (n' + 1) (treeM par kd n (n' + 1) k) := cnt_indep par kd n hlt n (n' + 1) k hk (by omega) (by omega)
      rw [e4]
      show 1 + (((ofP par n (some k)).map (treeM par kd n n')).map (cntT n')).sum = _
      rw [List.map_map]
      congr 2
      apply List.map_congr_left
      intro j hj
      obtain ⟨hjn, hjp⟩ := mem_ofP.1 hj
      have := hlt j k hjp
      exact cnt_indep par kd n hlt n' n j hjn (by omega) (by omega)
    omega
/-- the forest holds n rules -/
theorem cnt_forest (par : Nat → Option Nat) (kd : Nat → Nat) (n : Nat) (hlt : ∀ k p, par k = some p → p < k) : cntTL n ((ofP par n none).map (treeM par kd n n)) = n := by
  have h := off_sum par kd n hlt n 0 (by omega)
  unfold cntTL
  rw [List.map_map]
  show ((ofP par n none).map fun j => cntT n (treeM par kd n n j)).sum = n
  unfold ofP
  rw [sum_filter]
  refine Eq.trans ?_ h
  congr 1
  apply List.map_congr_left
  intro j _
  have : offB par 0 j = (par j == none) := by
    unfold offB
    cases par j <;> simp
  rw [this]
end Go.Proofs.YtjebnjjhdefejaaGreatFmt
