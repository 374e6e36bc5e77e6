/-
  Rows of elements in the world, and rows under way beside rows of integers. Conditions: each theorem's own.
-/
import Derived.WalkKit
import Derived.OwnWalk
import Derived.Laws.OwnMore
import Derived.Maps.AppendAt
import Derived.Below
import Derived.Lib.Hide
import Derived.Laws.Rows
namespace Go.Proofs.Ytphimfimnakclaa
open Go.RowKit
abbrev NM := List UInt8
abbrev Cells := Nat → Option Value
structure Keep (w w' : World) (P P' : Nat → Prop) : Prop where
  size : w.heap.size ≤ w'.heap.size
  block : ∀ g, P g → g < w.heap.size → w'.heap[g]? = w.heap[g]?
  sub : ∀ g, P g → g < w.heap.size → P' g
theorem Keep.cell {w w' : World} {P P' : Nat → Prop} (h : Keep w w' P P') {g : Nat} (hp : P g) (hg : g < w.heap.size) (o : Nat) : w'.cell? ⟨g, o, none⟩ = w.cell? ⟨g, o, none⟩ :=
  World.cell?_of_block (a := ⟨g, o, none⟩) (h.block g hp hg)
theorem Keep.below {w w' : World} (P : Nat → Prop) (h : Below w.heap.size w w') : Keep w w' P P := ⟨h.size, fun g _ hg => h.block g hg, fun _ hp _ => hp⟩
theorem Keep.weak (w : World) {P P' : Nat → Prop} (h : ∀ g, P g → g < w.heap.size → P' g) : Keep w w P P' := ⟨Nat.le_refl _, fun _ _ _ => rfl, h⟩
/-- what one element of sz cells says -/
structure Elt (α : Type) (sz : Nat) where
  E : World → (Nat → Prop) → Cells → α → Prop
  keep : ∀ {w w' : World} {P P' : Nat → Prop}, Keep w w' P P' → ∀ {c : Cells} {m : α}, E w P c m → E w' P' c m
  loc : ∀ {w : World} {P : Nat → Prop} {c c' : Cells} {m : α}, (∀ t, t < sz → c t = c' t) → E w P c m → E w P c' m
variable {α : Type} {sz : Nat}
/-- a slice of elements -/
def RowL (T : Elt α sz) (w : World) (P : Nat → Prop) (sl : Value) (ms : List α) : Prop :=
  ∃ a c, sl = .slice a ms.length c ∧ ∀ i (h : i < ms.length), ∃ g, a = some ⟨g, 0, none⟩ ∧ P g ∧ g < w.heap.size ∧ T.E w P (fun t => w.cell? ⟨g, i * sz + t, none⟩) ms[i]
theorem RowL.keep {T : Elt α sz} {w w' : World} {P P' : Nat → Prop} (h : Keep w w' P P') {sl : Value} {ms : List α} (hr : RowL T w P sl ms) : RowL T w' P' sl ms := by
  obtain ⟨a, c, e, hx⟩ := hr
  refine ⟨a, c, e, fun i hi => ?_⟩
  obtain ⟨g, ea, hp, hg, hE⟩ := hx i hi
  refine ⟨g, ea, h.sub g hp hg, Nat.lt_of_lt_of_le hg h.size, ?_⟩
  have e2 : (fun t => w'.cell? ⟨g, i * sz + t, none⟩) = fun t => w.cell? ⟨g, i * sz + t, none⟩ := by funext t; exact h.cell hp hg _
  rw [e2]
  exact T.keep h hE
theorem RowL.below {T : Elt α sz} {w w' : World} {P : Nat → Prop} (h : Below w.heap.size w w') {sl : Value} {ms : List α} (hr : RowL T w P sl ms) : RowL T w' P sl ms := hr.keep (Keep.below P h)
theorem RowL.nil (T : Elt α sz) (w : World) (P : Nat → Prop) (c : Nat) : RowL T w P (.slice none 0 c) [] := ⟨none, c, rfl, fun i hi => by simp at hi⟩
theorem mul_lt_len {sz i n t : Nat} (hi : i < n) (ht : t < sz) : i * sz + t < n * sz := by
  have h1 : (i + 1) * sz ≤ n * sz := Nat.mul_le_mul_right _ hi
  rw [Nat.add_mul] at h1
  omega
theorem cellLow {w w' : World} {g : Nat} (h : w'.heap[g]? = w.heap[g]?) (o : Nat) : w'.cell? ⟨g, o, none⟩ = w.cell? ⟨g, o, none⟩ := World.cell?_of_block (a := ⟨g, o, none⟩) h
theorem hset {w : World} {b : Nat} {arr : Array Value} {e : TypeId} {fz : Nat × Nat} (h : w.heap[b]? = some (.cells arr e fz)) (o : Nat) (v : Value) : (w.setCell ⟨b, o, none⟩ v).heap[b]? = some (.cells (arr.setIfInBounds o v) e fz) := by
  simp [World.setCell, Array.getElem?_modify, h]
theorem hother (w : World) {b g : Nat} (o : Nat) (v : Value) (h : g ≠ b) : (w.setCell ⟨b, o, none⟩ v).heap[g]? = w.heap[g]? := Below.heap_setCell _ _ _ _ h
theorem hcell {w : World} {b : Nat} {arr : Array Value} {e : TypeId} (h : w.heap[b]? = some (.cells arr e (0, 0))) (o : Nat) (v : Value) (hv : arr[o]? = some v) : w.cell? ⟨b, o, none⟩ = some v ∧ w.frozen? ⟨b, o, none⟩ = false := by
  constructor
  · simp [World.cell?, h, hv]
  · simp [World.frozen?, h]
theorem heap_lt {w : World} {b : Nat} {o : Obj} (h : w.heap[b]? = some o) : b < w.heap.size := (Array.getElem?_eq_some_iff.1 h).1
theorem set_same {w : World} {b o : Nat} {v : Value} (h : w.cell? ⟨b, o, none⟩ = some v) (g : Nat) : (w.setCell ⟨b, o, none⟩ v).heap[g]? = w.heap[g]? := by
  by_cases e : g = b
  · subst e
    unfold World.cell? at h
    cases hb : w.heap[g]? with
    | none => rw [hb] at h; cases h
    | some x =>
      rw [hb] at h
      cases x with
      | cells arr e fz =>
        simp only at h
        rw [hset hb, Option.some.injEq, Obj.cells.injEq]
        refine ⟨?_, rfl, rfl⟩
        obtain ⟨hlt, hv⟩ := Array.getElem?_eq_some_iff.1 h
        apply Array.ext
        · simp
        · intro i h1 h2
          rw [Array.getElem_setIfInBounds]
          split
          · rename_i q; subst q; exact hv.symm
          · rfl
      | _ => simp at h
  · exact hother _ _ _ e
theorem set_same_below {w0 w : World} {b o : Nat} {v : Value} {N : Nat} (hb : Below N w0 w) (h : w.cell? ⟨b, o, none⟩ = some v) : Below N w0 (w.setCell ⟨b, o, none⟩ v) :=
  ⟨hb.os, hb.tape, hb.output, by have := hb.size; simpa [World.setCell] using this, fun k hk => (set_same h k).trans (hb.block k hk)⟩
/-- no row of integers -/
def NT (w : World) (g : Nat) : Prop := ∀ cur fz, w.heap[g]? ≠ some (.cells cur 3 fz)
theorem NT.of {w w' : World} {g : Nat} (h : NT w g) (e : w'.heap[g]? = w.heap[g]?) : NT w' g := fun cur fz q => h cur fz (e.symm.trans q)
/-- the blocks that the row under way does not lie in -/
def Fr (B : Nat) (v : Value) (w : World) (g : Nat) : Prop := B ≤ g ∧ some g ≠ v.ownBlock ∧ NT w g
/-- a row under way from block B on -/
structure BO {α : Type} {sz : Nat} (T : Elt α sz) (e : TypeId) (B : Nat) (v : Value) (ms : List α) (w : World) : Prop where
  le : B ≤ w.heap.size
  own : ∃ xs, w.ownsRow B e sz v ms.length xs ∧ ∀ i (h : i < ms.length), T.E w (Fr B v w) (fun t => xs[i * sz + t]?) ms[i]
section
variable {α : Type} {sz : Nat} {T : Elt α sz} {e : TypeId} {B : Nat} {v : Value} {ms : List α} {w w' : World}
theorem own_type {base sz n : Nat} {e : TypeId} {v : Value} {xs : List Value} (ho : w.ownsRow base e sz v n xs) {g : Nat} (hg : v.ownBlock = some g) : ∃ cur, w.heap[g]? = some (.cells cur e (0, 0)) := by
  rcases ho.2 with ⟨rfl, _⟩ | ⟨g', cap, cur, rfl, _, hh, _⟩
  · simp [Value.ownBlock] at hg
  · simp [Value.ownBlock] at hg
    subst hg
    exact ⟨cur, hh⟩
theorem own_heap {base e sz n : Nat} {v : Value} {xs : List Value} (h : w.ownsRow base e sz v n xs) (hb : ∀ g, v.ownBlock = some g → w'.heap[g]? = w.heap[g]?) : w'.ownsRow base e sz v n xs := by
  obtain ⟨h1, h2⟩ := h
  refine ⟨h1, ?_⟩
  rcases h2 with h2 | ⟨g, cap, cur, rfl, hx⟩
  · exact Or.inl h2
  · exact Or.inr ⟨g, cap, cur, rfl, hx.1, by rw [hb g rfl]; exact hx.2.1, hx.2.2⟩
theorem BO.nil (T : Elt α sz) (e : TypeId) (B : Nat) (w : World) (h : B ≤ w.heap.size) : BO T e B (.slice none 0 0) [] w := ⟨h, [], World.ownsRow_nil _ _ _ _, fun i hi => by simp at hi⟩
theorem BO.shape (h : BO T e B v ms w) : ∃ a c, v = .slice a ms.length c ∧ ms.length ≤ c := by
  obtain ⟨xs, ho, hx⟩ := h.own
  have ho2 := ho.2
  rcases ho2 with ⟨hv, h0⟩ | ⟨g, cap, cur, hv, hb, hh, hc, _⟩
  · exact ⟨none, 0, by rw [hv, h0], by omega⟩
  · exact ⟨_, cap, hv, hc⟩
theorem BO.ge (h : BO T e B v ms w) : ∀ g, v.ownBlock = some g → B ≤ g ∧ g < w.heap.size := by
  obtain ⟨xs, ho, _⟩ := h.own
  exact fun g hg => ho.lt g hg
theorem BO.typ (h : BO T e B v ms w) : ∀ g, v.ownBlock = some g → ∃ cur, w.heap[g]? = some (.cells cur e (0, 0)) := by
  obtain ⟨xs, ho, _⟩ := h.own
  exact fun g hg => own_type ho hg
/-- kept where its own block and the blocks that are no rows of integers are kept -/
theorem BO.keepO (h : BO T e B v ms w) (hs : w.heap.size ≤ w'.heap.size) (ho : ∀ g, v.ownBlock = some g → w'.heap[g]? = w.heap[g]?) (hb : ∀ g, B ≤ g → g < w.heap.size → NT w g → w'.heap[g]? = w.heap[g]?) : BO T e B v ms w' := by
  obtain ⟨xs, how, hx⟩ := h.own
  exact ⟨Nat.le_trans h.le hs, xs, own_heap how ho, fun i hi => T.keep ⟨hs, fun g hp hg => hb g hp.1 hg hp.2.2, fun g hp hg => ⟨hp.1, hp.2.1, hp.2.2.of (hb g hp.1 hg hp.2.2)⟩⟩ (hx i hi)⟩
theorem BO.below (h : BO T e B v ms w) (hb : Below w.heap.size w w') : BO T e B v ms w' := h.keepO hb.size (fun g hg => hb.block g (h.ge g hg).2) fun g _ hg _ => hb.block g hg
theorem BO.set (h : BO T e B v ms w) {O o : Nat} (hO : O < B) (u : Value) : BO T e B v ms (w.setCell ⟨O, o, none⟩ u) :=
  h.keepO (by simp [World.setCell]) (fun g hg => hother _ _ _ (by have := h.ge g hg; omega)) fun g hg _ _ => hother _ _ _ (by omega)
theorem BO.done (h : BO T e B v ms w) (he : e ≠ 3) : RowL T w (fun g => B ≤ g ∧ NT w g) v ms := by
  obtain ⟨xs, ho, hx⟩ := h.own
  have kp : Keep w w (Fr B v w) (fun g => B ≤ g ∧ NT w g) := Keep.weak w fun g hg _ => ⟨hg.1, hg.2.2⟩
  have ht := h.typ
  have ho2 := ho.2
  rcases ho2 with ⟨hv, h0⟩ | ⟨g, cap, cur, hv, hb, hh, _⟩
  · subst hv
    refine ⟨none, 0, by rw [h0], fun i hi => by omega⟩
  · subst hv
    refine ⟨_, cap, rfl, fun i hi => ⟨g, rfl, ⟨hb, fun c fz q => ?_⟩, heap_lt hh, ?_⟩⟩
    · rw [hh] at q
      injection q with q
      injection q with _ q
      exact he q
    · refine T.loc (fun t ht => ?_) (T.keep kp (hx i hi))
      exact (World.ownsRow.cellAt ho (i * sz + t) (mul_lt_len hi ht)).symm
theorem BO.fresh (h : BO T e B v ms w) : ∀ g, w.heap.size ≤ g → B ≤ g ∧ some g ≠ v.ownBlock := fun g hg => by
  have := h.le
  exact ⟨by omega, fun q => by have := h.ge g q.symm; omega⟩
/-- one element more -/
theorem BO.snoc {v' : Value} {m : α} {news : List Value} {o : Obj} (h : BO T e B v ms w) (hn : T.E w (Fr B v w) (fun t => news[t]?) m)
    (hg : (w.alloc o).grownBy w' v.ownBlock) (hat : v'.ownBlock = v.ownBlock ∨ v'.ownBlock = some (w.alloc o).heap.size)
    (ho : ∀ xs, w.ownsRow B e sz v ms.length xs → w'.ownsRow B e sz v' (ms.length + 1) (xs ++ news)) : BO T e B v' (ms ++ [m]) w' := by
  obtain ⟨xs, how, hx⟩ := h.own
  have hle := h.le
  have hz : (w.alloc o).heap.size = w.heap.size + 1 := by simp
  have hs' := hg.size
  have blk : ∀ g, g < w.heap.size → some g ≠ v.ownBlock → w'.heap[g]? = w.heap[g]? := fun g h1 h2 => (hg.block g (by omega) h2).trans (Below.heap_alloc _ _ _ h1)
  have kp : Keep w w' (Fr B v w) (Fr B v' w') := ⟨by omega, fun g hp hl => blk g hl hp.2.1, fun g hp hl => ⟨hp.1, by
    rcases hat with q | q
    · rw [q]; exact hp.2.1
    · rw [q]; intro e2; injection e2 with e2; omega, hp.2.2.of (blk g hl hp.2.1)⟩⟩
  refine ⟨by omega, xs ++ news, ?_, fun i hi => ?_⟩
  · rw [List.length_append]
    exact ho xs how
  · have hlen := how.1
    by_cases e2 : i < ms.length
    · rw [List.getElem_append_left e2]
      refine T.loc (fun t ht => ?_) (T.keep kp (hx i e2))
      show xs[i * sz + t]? = (xs ++ news)[i * sz + t]?
      rw [List.getElem?_append_left]
      rw [hlen]
      exact mul_lt_len e2 ht
    · have e3 : i = ms.length := by simp at hi; omega
      subst e3
      rw [show (ms ++ [m])[ms.length] = m by simp]
      refine T.loc (fun t ht => ?_) (T.keep kp hn)
      show news[t]? = (xs ++ news)[ms.length * sz + t]?
      rw [List.getElem?_append_right (by omega), hlen, show ms.length * sz + t - ms.length * sz = t by omega]
end
end Go.Proofs.Ytphimfimnakclaa
