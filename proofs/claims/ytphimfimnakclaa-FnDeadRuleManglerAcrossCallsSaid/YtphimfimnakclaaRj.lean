/-
  The plain law: what is kept is what the removal leaves. Conditions: each theorem's own.
-/
import Derived.Test.YtphimfimnakclaaRg
namespace Go.Proofs.Ytphimfimnakclaa
open Go.RowKit Go.Lib Go.ChangeMaps
open Go.Maps (Keyed IsMap)
/-- a prefix that tells itself -/
def Tells {α : Type} (f : α → List Int) : Prop := ∀ x y s t, f x ++ s = f y ++ t → x = y ∧ s = t
theorem tells_flat {α : Type} {f : α → List Int} (h : Tells f) : ∀ (l l' : List α) (s t : List Int), l.length = l'.length → l.flatMap f ++ s = l'.flatMap f ++ t → l = l' ∧ s = t
  | [], [], s, t, _, e => ⟨rfl, e⟩
  | x :: l, y :: l', s, t, hl, e => by
    rw [List.flatMap_cons, List.flatMap_cons, List.append_assoc, List.append_assoc] at e
    obtain ⟨rfl, e2⟩ := h x y _ _ e
    obtain ⟨rfl, e3⟩ := tells_flat h l l' s t (by simpa using hl) e2
    exact ⟨rfl, e3⟩
  | [], _ :: _, _, _, hl, _ => by simp at hl
  | _ :: _, [], _, _, hl, _ => by simp at hl
theorem tells_len {α : Type} {f : α → List Int} (h : Tells f) : Tells fun l : List α => (l.length : Int) :: l.flatMap f := by
  intro x y s t e
  simp only [List.cons_append, List.cons.injEq] at e
  exact tells_flat h x y s t (by omega) e.2
theorem tells_nat : Tells fun k : Nat => [(k : Int)] := by
  intro x y s t e
  simp only [List.cons_append, List.nil_append, List.cons.injEq] at e
  exact ⟨by omega, e.2⟩
theorem keyR_inj {r r' : Rl} (h : keyR r = keyR r') : r = r' := by
  have e : ∀ r, keyR r = (fun l : Rl => (l.length : Int) :: l.flatMap fun cx : List (List Nat) => (cx.length : Int) :: cx.flatMap fun m : List Nat => (m.length : Int) :: m.flatMap fun k : Nat => [(k : Int)]) r := fun r => by
    have e1 : ∀ m : List Nat, ints m = m.flatMap fun k : Nat => [(k : Int)] := fun m => by
      induction m with
      | nil => rfl
      | cons a l ih =>
        rw [List.flatMap_cons, ← ih]
        rfl
    have e2 : keyC = fun m : List Nat => (m.length : Int) :: m.flatMap fun k : Nat => [(k : Int)] := by
      funext m
      show (m.length : Int) :: ints m = _
      rw [e1]
    have e3 : keyX = fun cx : List (List Nat) => (cx.length : Int) :: cx.flatMap fun m : List Nat => (m.length : Int) :: m.flatMap fun k : Nat => [(k : Int)] := by
      funext cx
      show (cx.length : Int) :: cx.flatMap keyC = _
      rw [e2]
    show (r.length : Int) :: r.flatMap keyX = _
    rw [e3]
  rw [e, e] at h
  exact (tells_len (tells_len (tells_len tells_nat)) r r' [] [] (by simpa using h)).1
abbrev KD := List Int × Bool
/-- the model of what is kept, from place k on -/
def keptR (seen : List (List Int)) : Nat → List KD → List Int
  | _, [] => []
  | k, p :: l => if p.2 = false ∧ ¬ (∃ q ∈ l, q.2 = false ∧ q.1 = p.1) ∧ ¬ p.1 ∈ seen then (k : Int) :: keptR seen (k + 1) l else keptR seen (k + 1) l
def locdF (k : Nat) (rs : List Rl) : List (Int × Rl) := rs.mapIdx fun i r => (((k + i : Nat) : Int), r)
theorem locdF_zero (rs : List Rl) : locdF 0 rs = locd rs := by simp [locdF, locd]
theorem locdF_cons (k : Nat) (r : Rl) (rs : List Rl) : locdF k (r :: rs) = ((k : Int), r) :: locdF (k + 1) rs := by
  unfold locdF
  rw [List.mapIdx_cons]
  congr 1
  congr 1
  funext i r
  rw [show k + (i + 1) = k + 1 + i by omega]
abbrev kds (rs : List Rl) : List KD := rs.map fun r => (keyR r, deadR r)
theorem run_seen (E : List Rl) : ∀ (rs : List Rl) (k : Nat) (r : Rl), r ∈ (runR (locdF k rs) E).2 ↔ r ∈ E ∨ (r ∈ rs ∧ deadR r = false)
  | [], k, r => by simp [runR, locdF]
  | x :: rs, k, r => by
    have ih := run_seen E rs (k + 1)
    have e : runR (locdF k (x :: rs)) E = stepR ((k : Int), x) (runR (locdF (k + 1) rs) E) := by rw [locdF_cons]; rfl
    rw [e]
    generalize runR (locdF (k + 1) rs) E = s at *
    unfold stepR
    split
    · rename_i hc
      rw [ih]
      constructor
      · rintro (h | ⟨h1, h2⟩)
        · exact Or.inl h
        · exact Or.inr ⟨List.mem_cons_of_mem _ h1, h2⟩
      · rintro (h | ⟨h1, h2⟩)
        · exact Or.inl h
        · rcases List.mem_cons.1 h1 with rfl | h1
          · rcases hc with h | h
            · rw [h2] at h; cases h
            · exact (ih r).1 h
          · exact Or.inr ⟨h1, h2⟩
    · rename_i hc
      have hl : deadR x = false := by
        cases h : deadR x
        · rfl
        · exact absurd (Or.inl h) hc
      show r ∈ x :: s.2 ↔ _
      rw [List.mem_cons, ih, List.mem_cons]
      constructor
      · rintro (rfl | h | ⟨h1, h2⟩)
        · exact Or.inr ⟨Or.inl rfl, hl⟩
        · exact Or.inl h
        · exact Or.inr ⟨Or.inr h1, h2⟩
      · rintro (h | ⟨h1 | h1, h2⟩)
        · exact Or.inr (Or.inl h)
        · exact Or.inl h1
        · exact Or.inr (Or.inr ⟨h1, h2⟩)
theorem kept_run (E : List Rl) : ∀ (rs : List Rl) (k : Nat), keptR (E.map keyR) k (kds rs) = (runR (locdF k rs) E).1.map Prod.fst
  | [], k => rfl
  | x :: rs, k => by
    have ih := kept_run E rs (k + 1)
    have hs := run_seen E rs (k + 1) x
    have e : runR (locdF k (x :: rs)) E = stepR ((k : Int), x) (runR (locdF (k + 1) rs) E) := by rw [locdF_cons]; rfl
    rw [e]
    have e2 : kds (x :: rs) = (keyR x, deadR x) :: kds rs := rfl
    rw [e2]
    unfold keptR
    rw [ih]
    generalize runR (locdF (k + 1) rs) E = s at *
    have h1 : (∃ q ∈ kds rs, q.2 = false ∧ q.1 = keyR x) ↔ (x ∈ rs ∧ deadR x = false) := by
      constructor
      · rintro ⟨q, hq, h1, h2⟩
        obtain ⟨y, hy, rfl⟩ := List.mem_map.1 hq
        obtain rfl := keyR_inj h2
        exact ⟨hy, h1⟩
      · rintro ⟨h1, h2⟩
        exact ⟨_, List.mem_map.2 ⟨x, h1, rfl⟩, h2, rfl⟩
    have h2 : keyR x ∈ E.map keyR ↔ x ∈ E := by
      constructor
      · intro h
        obtain ⟨y, hy, e⟩ := List.mem_map.1 h
        rw [← keyR_inj e]
        exact hy
      · exact fun h => List.mem_map.2 ⟨x, h, rfl⟩
    unfold stepR
    by_cases hd : deadR x = true
    · rw [if_neg (fun h => by rw [hd] at h; cases h.1), if_pos (Or.inl hd)]
    · have hdf : deadR x = false := by simpa using hd
      by_cases hm : x ∈ s.2
      · rw [if_pos (Or.inr hm), if_neg]
        rintro ⟨_, c1, c2⟩
        rcases hs.1 hm with h | h
        · exact c2 (h2.2 h)
        · exact c1 (h1.2 h)
      · rw [if_neg (show ¬ (deadR x = true ∨ x ∈ s.2) from fun h => h.elim hd hm), if_pos]
        · rfl
        · exact ⟨hdf, fun h => hm (hs.2 (Or.inr (h1.1 h))), fun h => hm (hs.2 (Or.inl (h2.1 h)))⟩
theorem kept_lt (seen : List (List Int)) : ∀ (l : List KD) (k : Nat), ∀ x ∈ keptR seen k l, (k : Int) ≤ x ∧ x < (k + l.length : Nat)
  | [], k, x, h => by cases h
  | p :: l, k, x, h => by
    unfold keptR at h
    have ih := kept_lt seen l (k + 1) x
    split at h
    · rcases List.mem_cons.1 h with rfl | h
      · simp; omega
      · have := ih h
        simp at this ⊢
        omega
    · have := ih h
      simp at this ⊢
      omega
/-- the keys of what is kept from the first list are the keys of what has been seen -/
theorem seen_keys (rs : List Rl) : ((runR (locd rs) []).1.map Prod.fst).map (fun i => keyR (rs.getD i.toNat [])) = (runR (locd rs) []).2.map keyR := by
  have h := run_keeps (locd rs)
  rw [h.1, List.map_map, List.map_map]
  refine List.map_congr_left (fun x hx => ?_)
  have hm := h.2.2.2.subset hx
  obtain ⟨i, hi, rfl⟩ := List.getElem_of_mem hm
  simp [locd] at hi ⊢
  rw [List.getElem?_eq_getElem hi]
  exact ⟨rfl, rfl⟩
end Go.Proofs.Ytphimfimnakclaa
