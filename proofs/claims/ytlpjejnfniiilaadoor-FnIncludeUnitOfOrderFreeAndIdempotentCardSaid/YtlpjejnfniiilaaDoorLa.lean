/-
  The plain law of the unit tracker: folding classes of tokens gives the same verdict in either order, and a second fold changes nothing. No program in sight.
-/
namespace Go.Proofs.YtlpjejnfniiilaaDoor

/-- what a token does to a tracker -/
inductive Cls where
  | keep : Cls
  | unit : ByteArray → Cls
  | mix : Cls

/-- a tracker: the unit and the status (0 safe, 1 one unit, 2 mixed) -/
structure Trk where
  u : ByteArray
  s : Nat

def Trk.inc (t : Trk) : Cls → Trk
  | .keep => t
  | .unit d => if t.s = 0 then ⟨d, 1⟩ else if t.s = 1 ∧ t.u = d then t else ⟨t.u, 2⟩
  | .mix => ⟨t.u, 2⟩

def Trk.fold (t : Trk) (l : List Cls) : Trk := l.foldl Trk.inc t

theorem Trk.fold_cons (t : Trk) (c : Cls) (l : List Cls) : t.fold (c :: l) = (t.inc c).fold l := rfl
theorem Trk.fold_nil (t : Trk) : t.fold [] = t := rfl

theorem Trk.fold2 (u : ByteArray) (l : List Cls) : (Trk.mk u 2).fold l = ⟨u, 2⟩ := by
  induction l with
  | nil => rfl
  | cons c l ih =>
    rw [Trk.fold_cons]
    have : (Trk.mk u 2).inc c = ⟨u, 2⟩ := by cases c <;> simp [Trk.inc]
    rw [this, ih]

def Fits (d : ByteArray) (c : Cls) : Prop := c = .keep ∨ c = .unit d

theorem Trk.fold1_fits (d : ByteArray) (l : List Cls) (h : ∀ c ∈ l, Fits d c) : (Trk.mk d 1).fold l = ⟨d, 1⟩ := by
  induction l with
  | nil => rfl
  | cons c l ih =>
    rw [Trk.fold_cons]
    have : (Trk.mk d 1).inc c = ⟨d, 1⟩ := by rcases h c (.head _) with rfl | rfl <;> simp [Trk.inc]
    rw [this]; exact ih fun c hc => h c (.tail _ hc)

theorem Trk.fold1_not (d : ByteArray) (l : List Cls) (h : ¬ ∀ c ∈ l, Fits d c) : (Trk.mk d 1).fold l = ⟨d, 2⟩ := by
  induction l with
  | nil => exact absurd (fun c hc => by cases hc) h
  | cons c l ih =>
    rw [Trk.fold_cons]
    by_cases hf : Fits d c
    · have : (Trk.mk d 1).inc c = ⟨d, 1⟩ := by rcases hf with rfl | rfl <;> simp [Trk.inc]
      rw [this]
      refine ih fun ha => h fun c' hc' => ?_
      rcases List.mem_cons.1 hc' with rfl | hc'
      · exact hf
      · exact ha _ hc'
    · have : (Trk.mk d 1).inc c = ⟨d, 2⟩ := by
        cases c with
        | keep => exact absurd (Or.inl rfl) hf
        | mix => rfl
        | unit e =>
          have : ¬ d = e := fun e' => hf (Or.inr (by rw [e']))
          simp [Trk.inc, this]
      rw [this, Trk.fold2]

theorem Trk.fold0_keep (e : ByteArray) (l : List Cls) (h : ∀ c ∈ l, c = .keep) : (Trk.mk e 0).fold l = ⟨e, 0⟩ := by
  induction l with
  | nil => rfl
  | cons c l ih =>
    rw [Trk.fold_cons, h c (.head _)]
    exact ih fun c hc => h c (.tail _ hc)

/-- a single unit -/
theorem Trk.fold0_one (e d : ByteArray) (l : List Cls) (h : ∀ c ∈ l, Fits d c) (hm : Cls.unit d ∈ l) : (Trk.mk e 0).fold l = ⟨d, 1⟩ := by
  induction l with
  | nil => cases hm
  | cons c l ih =>
    rw [Trk.fold_cons]
    rcases h c (.head _) with rfl | rfl
    · refine ih (fun c hc => h c (.tail _ hc)) ?_
      rcases List.mem_cons.1 hm with hm | hm
      · cases hm
      · exact hm
    · have : (Trk.mk e 0).inc (.unit d) = ⟨d, 1⟩ := by simp [Trk.inc]
      rw [this]; exact Trk.fold1_fits d l fun c hc => h c (.tail _ hc)

/-- neither -/
theorem Trk.fold0_two (e : ByteArray) (l : List Cls) (h0 : ¬ ∀ c ∈ l, c = Cls.keep) (h1 : ∀ d, Cls.unit d ∈ l → ¬ ∀ c ∈ l, Fits d c) : ((Trk.mk e 0).fold l).s = 2 := by
  induction l with
  | nil => exact absurd (fun c hc => by cases hc) h0
  | cons c l ih =>
    rw [Trk.fold_cons]
    cases c with
    | mix => show ((Trk.mk e 2).fold l).s = 2; rw [Trk.fold2]
    | keep =>
      refine ih ?_ ?_
      · intro h; exact h0 fun c hc => by
          rcases List.mem_cons.1 hc with rfl | hc
          · rfl
          · exact h _ hc
      · intro d hd ha; exact h1 d (.tail _ hd) fun c hc => by
          rcases List.mem_cons.1 hc with rfl | hc
          · exact Or.inl rfl
          · exact ha _ hc
    | unit d =>
      have : (Trk.mk e 0).inc (.unit d) = ⟨d, 1⟩ := by simp [Trk.inc]
      rw [this, Trk.fold1_not]
      intro ha
      exact h1 d (.head _) fun c hc => by
        rcases List.mem_cons.1 hc with rfl | hc
        · exact Or.inr rfl
        · exact ha _ hc

theorem Trk.law (e : ByteArray) (l r : List Cls) (hr : ∀ c, c ∈ r ↔ c ∈ l) :
    ((Trk.mk e 0).fold l).s = ((Trk.mk e 0).fold r).s ∧ (((Trk.mk e 0).fold l).s = 1 → ((Trk.mk e 0).fold l).u = ((Trk.mk e 0).fold r).u) ∧
    ((Trk.mk e 0).fold l).fold l = (Trk.mk e 0).fold l := by
  by_cases h0 : ∀ c ∈ l, c = Cls.keep
  · rw [Trk.fold0_keep e l h0, Trk.fold0_keep e r (fun c hc => h0 c ((hr c).1 hc))]
    exact ⟨rfl, fun _ => rfl, Trk.fold0_keep e l h0⟩
  · by_cases h1 : ∃ d, Cls.unit d ∈ l ∧ ∀ c ∈ l, Fits d c
    · obtain ⟨d, hm, ha⟩ := h1
      rw [Trk.fold0_one e d l ha hm, Trk.fold0_one e d r (fun c hc => ha c ((hr c).1 hc)) ((hr _).2 hm)]
      exact ⟨rfl, fun _ => rfl, Trk.fold1_fits d l ha⟩
    · have hl : ((Trk.mk e 0).fold l).s = 2 := Trk.fold0_two e l h0 fun d hd ha => h1 ⟨d, hd, ha⟩
      have hR : ((Trk.mk e 0).fold r).s = 2 := Trk.fold0_two e r (fun h => h0 fun c hc => h c ((hr c).2 hc)) fun d hd ha => h1 ⟨d, (hr _).1 hd, fun c hc => ha c ((hr c).2 hc)⟩
      refine ⟨by rw [hl, hR], fun h => absurd (hl.symm.trans h) (by decide), ?_⟩
      generalize (Trk.mk e 0).fold l = t at hl
      obtain ⟨u, s⟩ := t
      obtain rfl : s = 2 := hl
      exact Trk.fold2 u l
end Go.Proofs.YtlpjejnfniiilaaDoor
