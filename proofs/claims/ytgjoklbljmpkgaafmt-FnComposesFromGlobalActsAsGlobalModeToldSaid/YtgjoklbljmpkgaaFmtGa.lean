/-
  The distinct names of a list in the order of their first appearance: what is counted and found there. Conditions: none.
-/
import Derived.WalkKit
namespace Go.Proofs.YtgjoklbljmpkgaaFmt
abbrev NM := List UInt8
def ba (l : NM) : ByteArray := ⟨l.toArray⟩
theorem ba_list (l : NM) : (ba l).data.toList = l := by simp [ba]
theorem ba_of (s : ByteArray) : ba s.data.toList = s := by simp [ba]

def dstep (D : List NM) (n : NM) : List NM := if n ∈ D then D else D ++ [n]
def dist (l : List NM) : List NM := l.foldl dstep []
theorem dist_nil : dist [] = [] := rfl
theorem dist_snoc (l : List NM) (n : NM) : dist (l ++ [n]) = if n ∈ dist l then dist l else dist l ++ [n] := by
  unfold dist
  rw [List.foldl_append]
  rfl
theorem snoc_ind {P : List NM → Prop} (h0 : P []) (h1 : ∀ l n, P l → P (l ++ [n])) (l : List NM) : P l := by
  have : ∀ k, P (l.take k) := by
    intro k
    induction k with
    | zero => simpa using h0
    | succ k ih =>
      by_cases hk : k < l.length
      · rw [List.take_succ_eq_append_getElem hk]
        exact h1 _ _ ih
      · rw [List.take_of_length_le (by omega)]
        rw [List.take_of_length_le (by omega)] at ih
        exact ih
  simpa using this l.length
theorem mem_dist (l : List NM) : ∀ n, n ∈ dist l ↔ n ∈ l := by
  refine snoc_ind (P := fun l => ∀ n, n ∈ dist l ↔ n ∈ l) (by intro n; rw [dist_nil]) (fun l m ih n => ?_) l
  rw [dist_snoc, List.mem_append, List.mem_singleton]
  split
  · rename_i h
    rw [ih n]
    refine ⟨Or.inl, fun h2 => ?_⟩
    rcases h2 with h2 | rfl
    · exact h2
    · exact (ih n).1 h
  · rw [List.mem_append, ih n, List.mem_singleton]
theorem nodup_dist (l : List NM) : (dist l).Nodup := by
  refine snoc_ind (P := fun l => (dist l).Nodup) (by rw [dist_nil]; exact List.nodup_nil) (fun l m ih => ?_) l
  rw [dist_snoc]
  split
  · exact ih
  · rename_i h
    rw [List.nodup_append]
    refine ⟨ih, by simp, fun a ha b hb => ?_⟩
    rw [List.mem_singleton] at hb
    subst hb
    intro e
    subst e
    exact h ha
theorem dist_prefix (l : List NM) (m : List NM) : ∃ r, dist (l ++ m) = dist l ++ r := by
  refine snoc_ind (P := fun m => ∃ r, dist (l ++ m) = dist l ++ r) ⟨[], by simp⟩ (fun m n ih => ?_) m
  obtain ⟨r, hr⟩ := ih
  rw [← List.append_assoc, dist_snoc, hr]
  split
  · exact ⟨r, rfl⟩
  · exact ⟨r ++ [n], by simp⟩
theorem dist_again (l : List NM) (m : List NM) (h : ∀ n ∈ m, n ∈ l) : dist (l ++ m) = dist l := by
  refine snoc_ind (P := fun m => (∀ n ∈ m, n ∈ l) → dist (l ++ m) = dist l) (by simp) (fun m n ih h => ?_) m h
  have h1 := ih (fun x hx => h x (by simp [hx]))
  rw [← List.append_assoc, dist_snoc, h1, if_pos ((mem_dist l n).2 (h n (by simp)))]
theorem idx_stable (l m : List NM) (n : NM) (h : n ∈ l) : (dist (l ++ m)).idxOf n = (dist l).idxOf n := by
  obtain ⟨r, hr⟩ := dist_prefix l m
  rw [hr, List.idxOf_append, if_pos ((mem_dist l n).2 h)]
theorem idx_lt (l : List NM) (n : NM) (h : n ∈ l) : (dist l).idxOf n < (dist l).length := List.idxOf_lt_length_iff.2 ((mem_dist l n).2 h)
theorem dist_len (l : List NM) : (dist l).length ≤ l.length := by
  refine snoc_ind (P := fun l => (dist l).length ≤ l.length) (by simp [dist_nil]) (fun l n ih => ?_) l
  rw [dist_snoc]
  split
  · simp; omega
  · simp; exact ih
def flat (k : Nat) (ns : List NM) : List NM := (List.replicate k ns).flatten
theorem flat_zero (ns : List NM) : flat 0 ns = [] := rfl
theorem flat_succ (k : Nat) (ns : List NM) : flat (k + 1) ns = flat k ns ++ ns := by
  unfold flat
  rw [List.replicate_succ', List.flatten_append]
  simp
theorem mem_flat {k : Nat} {ns : List NM} {n : NM} (h : n ∈ flat k ns) : n ∈ ns := by
  induction k with
  | zero => simp [flat] at h
  | succ k ih =>
    rw [flat_succ, List.mem_append] at h
    rcases h with h | h
    · exact ih h
    · exact h
theorem flat_count (k : Nat) (ns : List NM) (n : NM) : (flat k ns).count n = k * ns.count n := by
  induction k with
  | zero => simp [flat]
  | succ k ih => rw [flat_succ, List.count_append, ih, Nat.add_mul]; omega
theorem flat_length (k : Nat) (ns : List NM) : (flat k ns).length = k * ns.length := by
  induction k with
  | zero => simp [flat]
  | succ k ih => rw [flat_succ, List.length_append, ih, Nat.add_mul]; omega
theorem dist_flat (k : Nat) (ns : List NM) : dist (flat (k + 1) ns) = dist ns := by
  induction k with
  | zero => simp [flat_succ, flat_zero]
  | succ k ih =>
    rw [flat_succ, dist_again _ _ (fun n hn => by rw [flat_succ]; simp [hn]), ih]
/-- the list that stands while the k-th copy is done up to j -/
def part (i j : Nat) (ns : List NM) : List NM := flat i ns ++ ns.take j
theorem part_zero (i : Nat) (ns : List NM) : part i 0 ns = flat i ns := by simp [part]
theorem part_full (i : Nat) (ns : List NM) : part i ns.length ns = flat (i + 1) ns := by simp [part, flat_succ]
theorem part_succ (i j : Nat) (ns : List NM) (h : j < ns.length) : part i (j + 1) ns = part i j ns ++ [ns[j]] := by
  unfold part
  rw [List.take_succ_eq_append_getElem h, List.append_assoc]
theorem part_len (i j : Nat) (ns : List NM) : (part i j ns).length ≤ (i + 1) * ns.length := by
  unfold part
  rw [List.length_append, flat_length, List.length_take, Nat.add_mul]
  omega
theorem count_le (l : List NM) (n : NM) : l.count n ≤ l.length := List.count_le_length
/-- where a name of ns stands is the same in every part that has seen it -/
theorem part_idx (i j : Nat) (ns : List NM) (n : NM) (h : n ∈ part i j ns) : (dist (part i j ns)).idxOf n = (dist ns).idxOf n := by
  by_cases hi : i = 0
  · subst hi
    unfold part at h ⊢
    rw [flat_zero, List.nil_append] at h ⊢
    have := idx_stable (ns.take j) (ns.drop j) n h
    rw [List.take_append_drop] at this
    exact this.symm
  · obtain ⟨k, rfl⟩ : ∃ k, i = k + 1 := ⟨i - 1, by omega⟩
    unfold part
    rw [dist_again _ _ (fun m hm => by rw [flat_succ, List.mem_append]; exact Or.inr (List.mem_of_mem_take hm)), dist_flat]
end Go.Proofs.YtgjoklbljmpkgaaFmt
