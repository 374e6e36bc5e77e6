/-
  Rows of elements in the world, and rows under way. Conditions: each theorem's own.
-/
import Derived.WalkKit
import Derived.OwnWalk
import Derived.Laws.OwnMore
import Derived.Maps.AppendAt
import Derived.Below
import Derived.Lib.Hide
namespace Go.Proofs.YtllafdcijpdopaaGreatFmt
open Go.RowKit
abbrev NM := List UInt8
def ba (l : NM) : ByteArray := ⟨l.toArray⟩
theorem ba_list (l : NM) : (ba l).data.toList = l := by simp [ba]
theorem ba_of (s : ByteArray) : ba s.data.toList = s := by simp [ba]
theorem ba_size (l : NM) : (ba l).size = l.length := by simp [ba, ByteArray.size]
abbrev Cells := Nat → Option Value
structure Keep (w w' : World) (P P' : Nat → Prop) : Prop where
  size : w.heap.size ≤ w'.heap.size
  block : ∀ g, P g → g < w.heap.size → w'.heap[g]? = w.heap[g]?
  sub : ∀ g, P g → g < w.heap.size → P' g
theorem Keep.cell {w w' : World} {P P' : Nat → Prop} (h : Keep w w' P P') {g : Nat} (hp : P g) (hg : g < w.heap.size) (o : Nat) : w'.cell? ⟨g, o, none⟩ = w.cell? ⟨g, o, none⟩ :=
  World.cell?_of_block (a := ⟨g, o, none⟩) (h.block g hp hg)
theorem Keep.below {w w' : World} (P : Nat → Prop) (h : Below w.heap.size w w') : Keep w w' P P := ⟨h.size, fun g _ hg => h.block g hg, fun _ hp _ => hp⟩
theorem Keep.weak (w : World) {P P' : Nat → Prop} (h : ∀ g, P g → g < w.heap.size → P' g) : Keep w w P P' := ⟨Nat.le_refl _, fun _ _ _ => rfl, h⟩
/-- what one element of sz cells says -/
structure Elt (α : Type) (sz : Nat) where
  E : World → (Nat → Prop) → Cells → α → Prop
  keep : ∀ {w w' : World} {P P' : Nat → Prop}, Keep w w' P P' → ∀ {c : Cells} {m : α}, E w P c m → E w' P' c m
  loc : ∀ {w : World} {P : Nat → Prop} {c c' : Cells} {m : α}, (∀ t, t < sz → c t = c' t) → E w P c m → E w P c' m
variable {α : Type} {sz : Nat}
/-- a slice of elements -/
def RowL (T : Elt α sz) (w : World) (P : Nat → Prop) (sl : Value) (ms : List α) : Prop :=
  ∃ a c, sl = .slice a ms.length c ∧ ∀ i (h : i < ms.length), ∃ g, a = some ⟨g, 0, none⟩ ∧ P g ∧ g < w.heap.size ∧ T.E w P (fun t => w.cell? ⟨g, i * sz + t, none⟩) ms[i]
theorem RowL.keep {T : Elt α sz} {w w' : World} {P P' : Nat → Prop} (h : Keep w w' P P') {sl : Value} {ms : List α} (hr : RowL T w P sl ms) : RowL T w' P' sl ms := by
  obtain ⟨a, c, e, hx⟩ := hr
  refine ⟨a, c, e, fun i hi => ?_⟩
  obtain ⟨g, ea, hp, hg, hE⟩ := hx i hi
  refine ⟨g, ea, h.sub g hp hg, Nat.lt_of_lt_of_le hg h.size, ?_⟩
  have e2 : (fun t => w'.cell? ⟨g, i * sz + t, none⟩) = fun t => w.cell? ⟨g, i * sz + t, none⟩ := by funext t; exact h.cell hp hg _
  rw [e2]
  exact T.keep h hE
theorem RowL.below {T : Elt α sz} {w w' : World} {P : Nat → Prop} (h : Below w.heap.size w w') {sl : Value} {ms : List α} (hr : RowL T w P sl ms) : RowL T w' P sl ms := hr.keep (Keep.below P h)
theorem RowL.nil (T : Elt α sz) (w : World) (P : Nat → Prop) : RowL T w P (.slice none 0 0) [] := ⟨none, 0, rfl, fun i hi => by simp at hi⟩
theorem mul_lt_len {sz i n t : Nat} (hi : i < n) (ht : t < sz) : i * sz + t < n * sz := by
  have h1 : (i + 1) * sz ≤ n * sz := Nat.mul_le_mul_right _ hi
  rw [Nat.add_mul] at h1
  omega
/-- the blocks that the row under way does not lie in -/
def Fr (B : Nat) (v : Value) (g : Nat) : Prop := B ≤ g ∧ some g ≠ v.ownBlock
/-- a row under way -/
structure BR (T : Elt α sz) (e : TypeId) (w0 : World) (v : Value) (ms : List α) (w : World) : Prop where
  bel : Below w0.heap.size w0 w
  own : ∃ xs, w.ownsRow w0.heap.size e sz v ms.length xs ∧ ∀ i (h : i < ms.length), T.E w (Fr w0.heap.size v) (fun t => xs[i * sz + t]?) ms[i]
theorem own_below {w w' : World} {base e sz n : Nat} {v : Value} {xs : List Value} (h : w.ownsRow base e sz v n xs) (hb : Below w.heap.size w w') : w'.ownsRow base e sz v n xs := by
  refine h.kept (row := none) ⟨hb.os, hb.tape, hb.output, hb.size, fun k hk _ => hb.block k hk⟩ ?_
  by_cases e : v.ownBlock = none
  · exact Or.inl e
  · exact Or.inr e
theorem BR.nil (T : Elt α sz) (e : TypeId) (w : World) : BR T e w (.slice none 0 0) [] w := ⟨Below.refl _ _, [], World.ownsRow_nil _ _ _ _, fun i hi => by simp at hi⟩
theorem BR.below {T : Elt α sz} {e : TypeId} {w0 : World} {v : Value} {ms : List α} {w w' : World} (h : BR T e w0 v ms w) (hb : Below w.heap.size w w') : BR T e w0 v ms w' := by
  obtain ⟨xs, ho, hx⟩ := h.own
  exact ⟨h.bel.trans (hb.mono h.bel.size), xs, own_below ho hb, fun i hi => T.keep (Keep.below _ hb) (hx i hi)⟩
theorem BR.fresh {T : Elt α sz} {e : TypeId} {w0 : World} {v : Value} {ms : List α} {w : World} (h : BR T e w0 v ms w) : ∀ g, w.heap.size ≤ g → Fr w0.heap.size v g := fun g hg => by
  obtain ⟨xs, ho, _⟩ := h.own
  have := h.bel.size
  refine ⟨by omega, fun e => ?_⟩
  have := (ho.lt g e.symm).2
  omega
theorem BR.done {T : Elt α sz} {e : TypeId} {w0 : World} {v : Value} {ms : List α} {w : World} (h : BR T e w0 v ms w) : RowL T w (fun g => w0.heap.size ≤ g) v ms := by
  obtain ⟨xs, ho, hx⟩ := h.own
  have kp : Keep w w (Fr w0.heap.size v) (fun g => w0.heap.size ≤ g) := Keep.weak w fun g hg _ => hg.1
  have ho2 := ho.2
  rcases ho2 with ⟨hv, h0⟩ | ⟨g, cap, cur, hv, hb, hh, _⟩
  · subst hv
    refine ⟨none, 0, by rw [h0], fun i hi => by omega⟩
  · subst hv
    refine ⟨_, cap, rfl, fun i hi => ⟨g, rfl, hb, (Array.getElem?_eq_some_iff.1 hh).1, ?_⟩⟩
    refine T.loc (fun t ht => ?_) (T.keep kp (hx i hi))
    exact (World.ownsRow.cellAt ho (i * sz + t) (mul_lt_len hi ht)).symm
theorem BR.shape {T : Elt α sz} {e : TypeId} {w0 : World} {v : Value} {ms : List α} {w : World} (h : BR T e w0 v ms w) : ∃ a c, v = .slice a ms.length c := by
  obtain ⟨xs, ho, hx⟩ := h.own
  have ho2 := ho.2
  rcases ho2 with ⟨hv, h0⟩ | ⟨g, cap, cur, hv, hb, hh, _⟩
  · exact ⟨none, 0, by rw [hv, h0]⟩
  · exact ⟨_, cap, hv⟩
/-- one element more -/
theorem BR.snoc {T : Elt α sz} {e : TypeId} {w0 : World} {v v' : Value} {ms : List α} {m : α} {w w1 w' : World} {news : List Value} (h : BR T e w0 v ms w) (hn : T.E w (Fr w0.heap.size v) (fun t => news[t]?) m)
    (h1 : Below w.heap.size w w1) (hg : w1.grownBy w' v.ownBlock) (hat : v'.ownBlock = v.ownBlock ∨ v'.ownBlock = some w1.heap.size)
    (ho : ∀ xs, w.ownsRow w0.heap.size e sz v ms.length xs → w'.ownsRow w0.heap.size e sz v' (ms.length + 1) (xs ++ news)) : BR T e w0 v' (ms ++ [m]) w' := by
  obtain ⟨xs, how, hx⟩ := h.own
  have hs1 := h1.size
  have kp : Keep w w' (Fr w0.heap.size v) (Fr w0.heap.size v') := ⟨Nat.le_trans h1.size hg.size, fun g hp hl => (hg.block g (by omega) hp.2).trans (h1.block g hl), fun g hp hl => ⟨hp.1, by
    rcases hat with e | e
    · rw [e]; exact hp.2
    · rw [e]; intro e2; injection e2 with e2; omega⟩⟩
  have hb := h.bel
  have hbs := hb.size
  refine ⟨⟨hg.os.trans (h1.os.trans hb.os), hg.tape.trans (h1.tape.trans hb.tape), hg.output.trans (h1.output.trans hb.output), by have := hg.size; omega, fun k hk => ?_⟩, xs ++ news, ?_, fun i hi => ?_⟩
  · rw [hg.block k (by omega) (fun e2 => by have := (how.lt k e2.symm).1; omega), h1.block k (by omega)]
    exact hb.block k hk
  · rw [List.length_append]
    exact ho xs how
  · have hlen := how.1
    by_cases e2 : i < ms.length
    · rw [List.getElem_append_left e2]
      refine T.loc (fun t ht => ?_) (T.keep kp (hx i e2))
      show xs[i * sz + t]? = (xs ++ news)[i * sz + t]?
      rw [List.getElem?_append_left]
      rw [hlen]
      exact mul_lt_len e2 ht
    · have e3 : i = ms.length := by simp at hi; omega
      subst e3
      rw [show (ms ++ [m])[ms.length] = m by simp]
      refine T.loc (fun t ht => ?_) (T.keep kp hn)
      show news[t]? = (xs ++ news)[ms.length * sz + t]?
      rw [List.getElem?_append_right (by omega), hlen, show ms.length * sz + t - ms.length * sz = t by omega]
theorem cellLow {w w' : World} {g : Nat} (h : w'.heap[g]? = w.heap[g]?) (o : Nat) : w'.cell? ⟨g, o, none⟩ = w.cell? ⟨g, o, none⟩ := World.cell?_of_block (a := ⟨g, o, none⟩) h
end Go.Proofs.YtllafdcijpdopaaGreatFmt
