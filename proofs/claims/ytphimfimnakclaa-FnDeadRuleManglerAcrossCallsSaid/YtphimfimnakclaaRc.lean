/-
  The rules' row, and all that stands in a round. Conditions: each theorem's own.
-/
import Derived.Test.YtphimfimnakclaaRb
namespace Go.Proofs.Ytphimfimnakclaa
open Go.RowKit Go.Lib Go.ChangeMaps
open Go.Maps (Keyed IsMap)
/-- a rule in its two cells -/
def RuAt (D : Nat → Prop) (w : World) (c : Cells) (x : Int × Rl) : Prop := ∃ b, c 0 = some (ifc 63 b) ∧ c 1 = some (.int .i32 x.1) ∧ Dat D w b x.2 ∧ Good x.2
theorem RuAt.keep {D : Nat → Prop} {w w' : World} {c : Cells} {x : Int × Rl} (h : RuAt D w c x) (hs : w.heap.size ≤ w'.heap.size) (hb : ∀ g, D g → g < w.heap.size → w'.heap[g]? = w.heap[g]?) : RuAt D w' c x := by
  obtain ⟨b, c0, c1, hd, hg⟩ := h
  exact ⟨b, c0, c1, hd.keep hs hb, hg⟩
theorem RuAt.loc {D : Nat → Prop} {w : World} {c c' : Cells} {x : Int × Rl} (h : RuAt D w c x) (h0 : c' 0 = c 0) (h1 : c' 1 = c 1) : RuAt D w c' x := by
  obtain ⟨b, c0, c1, hd⟩ := h
  exact ⟨b, h0.trans c0, h1.trans c1, hd⟩
/-- the rules' row: the first i as they came, the last ones as they stay -/
structure Rul (D : Nat → Prop) (Rb n : Nat) (ms : List (Int × Rl)) (i : Nat) (out : List (Int × Rl)) (w : World) : Prop where
  len : ms.length = n
  ol : i + out.length ≤ n
  nD : ¬ D Rb
  ex : 0 < n → ∃ arr, w.heap[Rb]? = some (.cells arr 47 (0, 0)) ∧ n * 2 ≤ arr.size ∧ (∀ j (_ : j < ms.length), j < i → RuAt D w (fun t => arr[j * 2 + t]?) ms[j]) ∧ (∀ j (_ : j < out.length), RuAt D w (fun t => arr[(n - out.length + j) * 2 + t]?) out[j])
section
variable {D : Nat → Prop} {Rb n i : Nat} {ms out : List (Int × Rl)} {w w' : World}
theorem Rul.keep (h : Rul D Rb n ms i out w) (hs : w.heap.size ≤ w'.heap.size) (hr : 0 < n → w'.heap[Rb]? = w.heap[Rb]?) (hb : ∀ g, D g → g < w.heap.size → w'.heap[g]? = w.heap[g]?) : Rul D Rb n ms i out w' := by
  refine ⟨h.len, h.ol, h.nD, fun hn => ?_⟩
  obtain ⟨arr, h1, h2, h3, h4⟩ := h.ex hn
  exact ⟨arr, (hr hn).trans h1, h2, fun j hj hi => (h3 j hj hi).keep hs hb, fun j hj => (h4 j hj).keep hs hb⟩
theorem Rul.rlt (h : Rul D Rb n ms i out w) (hn : 0 < n) : Rb < w.heap.size := by
  obtain ⟨arr, h1, _⟩ := h.ex hn
  exact heap_lt h1
theorem Rul.below (h : Rul D Rb n ms i out w) (hb : Below w.heap.size w w') : Rul D Rb n ms i out w' := h.keep hb.size (fun hn => hb.block _ (h.rlt hn)) (fun g _ hg => hb.block g hg)
theorem Rul.skip (h : Rul D Rb n ms (i + 1) out w) : Rul D Rb n ms i out w := by
  refine ⟨h.len, by have := h.ol; omega, h.nD, fun hn => ?_⟩
  obtain ⟨arr, h1, h2, h3, h4⟩ := h.ex hn
  exact ⟨arr, h1, h2, fun j hj hi => h3 j hj (by omega), h4⟩
/-- the rule at hand -/
theorem Rul.at' (h : Rul D Rb n ms (i + 1) out w) (hi : i < ms.length) : ∃ b, w.cell? ⟨Rb, i * 2, none⟩ = some (ifc 63 b) ∧ w.cell? ⟨Rb, i * 2 + 1, none⟩ = some (.int .i32 ms[i].1) ∧ Dat D w b ms[i].2 ∧ Good ms[i].2 := by
  obtain ⟨arr, h1, h2, h3, h4⟩ := h.ex (by have := h.ol; omega)
  obtain ⟨b, c0, c1, hd, hg⟩ := h3 i hi (by omega)
  exact ⟨b, (hcell h1 _ _ c0).1, (hcell h1 _ _ c1).1, hd, hg⟩
/-- the cell that is to be written -/
theorem Rul.spot (h : Rul D Rb n ms i out w) {j : Nat} (hj : j < n * 2) : ∃ v, w.cell? ⟨Rb, j, none⟩ = some v ∧ w.frozen? ⟨Rb, j, none⟩ = false := by
  obtain ⟨arr, h1, h2, h3, h4⟩ := h.ex (by omega)
  have : j < arr.size := by omega
  exact ⟨arr[j], hcell h1 j _ (Array.getElem?_eq_getElem this)⟩
/-- a rule stays -/
theorem Rul.store (h : Rul D Rb n ms (i + 1) out w) {x : Int × Rl} {b s : Nat} (hx : Dat D w b x.2) (hg : Good x.2) (hs : s + out.length + 1 = n) : Rul D Rb n ms i (x :: out) ((w.setCell ⟨Rb, s * 2, none⟩ (ifc 63 b)).setCell ⟨Rb, s * 2 + 1, none⟩ (.int .i32 x.1)) := by
  have hol := h.ol
  obtain ⟨arr, h1, h2, h3, h4⟩ := h.ex (by omega)
  have k1 := hset (hset h1 (s * 2) (ifc 63 b)) (s * 2 + 1) (.int .i32 x.1)
  have o : ∀ g, g ≠ Rb → ((w.setCell ⟨Rb, s * 2, none⟩ (ifc 63 b)).setCell ⟨Rb, s * 2 + 1, none⟩ (.int .i32 x.1)).heap[g]? = w.heap[g]? := fun g hg => (hother _ _ _ hg).trans (hother _ _ _ hg)
  have sz : ((w.setCell ⟨Rb, s * 2, none⟩ (ifc 63 b)).setCell ⟨Rb, s * 2 + 1, none⟩ (.int .i32 x.1)).heap.size = w.heap.size := by simp [World.setCell]
  generalize (w.setCell ⟨Rb, s * 2, none⟩ (ifc 63 b)).setCell ⟨Rb, s * 2 + 1, none⟩ (.int .i32 x.1) = W at *
  have hD : ∀ g, D g → g < w.heap.size → W.heap[g]? = w.heap[g]? := fun g hg _ => o g (fun e => h.nD (e ▸ hg))
  have ne : ∀ j, j ≠ s * 2 → j ≠ s * 2 + 1 → ((arr.setIfInBounds (s * 2) (ifc 63 b)).setIfInBounds (s * 2 + 1) (.int .i32 x.1))[j]? = arr[j]? := fun j h1 h2 => by
    rw [Array.getElem?_setIfInBounds_ne (by omega), Array.getElem?_setIfInBounds_ne (by omega)]
  have e0 : ((arr.setIfInBounds (s * 2) (ifc 63 b)).setIfInBounds (s * 2 + 1) (.int .i32 x.1))[s * 2]? = some (ifc 63 b) := by
    rw [Array.getElem?_setIfInBounds_ne (by omega), Array.getElem?_setIfInBounds_self_of_lt (by omega)]
  have e1 : ((arr.setIfInBounds (s * 2) (ifc 63 b)).setIfInBounds (s * 2 + 1) (.int .i32 x.1))[s * 2 + 1]? = some (.int .i32 x.1) := by
    rw [Array.getElem?_setIfInBounds_self_of_lt (by simp; omega)]
  refine ⟨h.len, by simp; omega, h.nD, fun _ => ⟨_, k1, by simpa using h2, fun j hj hi => ?_, fun j hj => ?_⟩⟩
  · refine ((h3 j hj (by omega)).loc ?_ ?_).keep (by omega) hD
    · exact ne _ (by omega) (by omega)
    · exact ne _ (by omega) (by omega)
  · cases j with
    | zero =>
      have e : n - (x :: out).length + 0 = s := by simp; omega
      rw [e]
      exact ⟨b, e0, e1, hx.keep (by omega) hD, hg⟩
    | succ j =>
      have hj' : j < out.length := by simpa using hj
      have e : n - (x :: out).length + (j + 1) = n - out.length + j := by simp; omega
      rw [e]
      refine ((h4 j hj').loc ?_ ?_).keep (by omega) hD
      · exact ne _ (by omega) (by omega)
      · exact ne _ (by omega) (by omega)
end
/-- nothing below B but X has turned -/
structure FrX (X B : Nat) (w w' : World) : Prop where
  os : w'.os = w.os
  tape : w'.tape = w.tape
  output : w'.output = w.output
  size : w.heap.size ≤ w'.heap.size
  block : ∀ g, g < B → g ≠ X → w'.heap[g]? = w.heap[g]?
theorem FrX.refl (X B : Nat) (w : World) : FrX X B w w := ⟨rfl, rfl, rfl, Nat.le_refl _, fun _ _ _ => rfl⟩
theorem FrX.trans {X B : Nat} {a b c : World} (h : FrX X B a b) (k : FrX X B b c) : FrX X B a c :=
  ⟨k.os.trans h.os, k.tape.trans h.tape, k.output.trans h.output, Nat.le_trans h.size k.size, fun g h1 h2 => (k.block g h1 h2).trans (h.block g h1 h2)⟩
theorem FrX.of {X B C : Nat} {a b : World} (h : Below C a b) (hB : B ≤ C) : FrX X B a b := ⟨h.os, h.tape, h.output, h.size, fun g hg _ => h.block g (by omega)⟩
theorem FrX.set {X B : Nat} (w : World) {b o : Nat} (v : Value) (h : b = X ∨ B ≤ b) : FrX X B w (w.setCell ⟨b, o, none⟩ v) :=
  ⟨(os_set _ _ _).1, (os_set _ _ _).2.1, (os_set _ _ _).2.2, by simp [World.setCell], fun g hg hx => hother _ _ _ (by omega)⟩
/-- the model: the rules from the back, what stays and what has been seen -/
def stepR (x : Int × Rl) (s : List (Int × Rl) × List Rl) : List (Int × Rl) × List Rl := if deadR x.2 = true ∨ x.2 ∈ s.2 then s else (x :: s.1, x.2 :: s.2)
def runR (ms : List (Int × Rl)) (E : List Rl) : List (Int × Rl) × List Rl := ms.foldr stepR ([], E)
theorem runR_drop (ms : List (Int × Rl)) (E : List Rl) (i : Nat) (h : i < ms.length) : runR (ms.drop i) E = stepR ms[i] (runR (ms.drop (i + 1)) E) := by
  unfold runR
  rw [List.drop_eq_getElem_cons h, List.foldr_cons]
/-- all that stands in a round -/
structure Inv9 (D : Nat → Prop) (B rb Rb n : Nat) (ms : List (Int × Rl)) (E0 : List Rl) (nc : Nat) (w0 : World) (i : Nat) (out : List (Int × Rl)) (E : List Rl) (G : Gh) (w : World) : Prop where
  rem : Rem D B rb E G w
  rul : Rul D Rb n ms i out w
  fr : FrX Rb B w0 w
  run : (out, E) = runR (ms.drop i) E0
  nc' : G.cs.length = nc
  el : E.length + i ≤ E0.length + n
  rB : 0 < n → Rb < B
section
variable {D : Nat → Prop} {B rb Rb n nc i : Nat} {ms out : List (Int × Rl)} {E0 E : List Rl} {G : Gh} {w0 w w' : World}
theorem Inv9.below (h : Inv9 D B rb Rb n ms E0 nc w0 i out E G w) (hb : Below w.heap.size w w') : Inv9 D B rb Rb n ms E0 nc w0 i out E G w' :=
  ⟨h.rem.below hb, h.rul.below hb, h.fr.trans (FrX.of hb h.rem.Ble), h.run, h.nc', h.el, h.rB⟩
theorem Inv9.setRb (h : Inv9 D B rb Rb n ms E0 nc w0 i out E G w) {k : Nat} (hk : 2 ≤ k) (v : Value) : Inv9 D B rb Rb n ms E0 nc w0 i out E G (w.setCell ⟨rb, k, none⟩ v) :=
  ⟨h.rem.setRb hk v, h.rul.keep (by simp [World.setCell]) (fun hn => hother _ _ _ (by have := h.rB hn; have := h.rem.rge; omega)) (fun g hg _ => hother _ _ _ (by have := h.rem.dlt g hg; have := h.rem.rge; omega)), h.fr.trans (FrX.set _ _ (Or.inr h.rem.rge)), h.run, h.nc', h.el, h.rB⟩
end
structure Mk8 (w : World) (e : Ending) (w' : World) : Prop where
  ex : e = .returned (.agg #[.map (some (w.heap.size + 2)), .slice none 0 0, .slice none 0 0, .slice none 0 0, .slice none 0 0, .int .u32 0, .int .u32 0]) ∧ w'.heap[w.heap.size + 2]? = some (.map #[] 0) ∧ Below w.heap.size w w'
end Go.Proofs.Ytphimfimnakclaa
