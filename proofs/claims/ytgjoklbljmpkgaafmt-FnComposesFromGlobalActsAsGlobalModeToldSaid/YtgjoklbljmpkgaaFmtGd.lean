/-
  The parser's symbols in the world: the symbol row, the local row, the scope map and two scratch blocks, and how they stand each step. Conditions: each theorem's own.
-/
import Derived.Test.YtgjoklbljmpkgaaFmtGa
import Derived.Test.YtgjoklbljmpkgaaFmtGc
import Derived.Maps.AppendAt
import Derived.Maps.OwnSet
import Derived.Laws.OwnMore
import Derived.OneCell
namespace Go.Proofs.YtgjoklbljmpkgaaFmt
open Go.RowKit Go.Lib Go.ChangeMaps
open Go.Maps (Keyed IsMap)

/-- how an element of a scope map reads -/
noncomputable def locE (v : Value) : Option (DataW Unit × List MemPlace) :=
  open Classical in if h : ∃ i : Int, v = .agg #[.int .i32 0, .int .u32 0, .int .u32 i] then some (.lit (.int .u32 (Classical.choose h)), []) else none
theorem locE_mk (i : Int) : locE (.agg #[.int .i32 0, .int .u32 0, .int .u32 i]) = some (.lit (.int .u32 i), []) := by
  have h : ∃ j : Int, (.agg #[.int .i32 0, .int .u32 0, .int .u32 i] : Value) = .agg #[.int .i32 0, .int .u32 0, .int .u32 j] := ⟨i, rfl⟩
  have e : ∀ j : Int, (.agg #[.int .i32 0, .int .u32 0, .int .u32 i] : Value) = .agg #[.int .i32 0, .int .u32 0, .int .u32 j] → j = i := by
    intro j hj
    simp at hj
    exact hj.symm
  unfold locE
  rw [dif_pos h, e _ (Classical.choose_spec h)]
theorem locE_inv {v : Value} {z : DataW Unit × List MemPlace} (h : locE v = some z) : ∃ i, v = .agg #[.int .i32 0, .int .u32 0, .int .u32 i] ∧ z = (.lit (.int .u32 i), []) := by
  unfold locE at h
  split at h
  · rename_i hx
    cases h
    exact ⟨_, Classical.choose_spec hx, rfl⟩
  · cases h

structure PC where
  pb : Nat
  lb : Nat
  gb : Nat
  base : Nat
  m : Bool
  cm : Nat
  hpl : pb ≠ lb
  hpg : pb ≠ gb
  hlg : lb ≠ gb
  hp : pb < base
  hl : lb < base
  hg : gb < base
def PC.mb (c : PC) : Nat := if c.m then c.lb else c.gb
theorem PC.mb_lt (c : PC) : c.mb < c.base := by unfold PC.mb; split; exact c.hl; exact c.hg
theorem PC.mb_ne (c : PC) : c.pb ≠ c.mb := by unfold PC.mb; split; exact c.hpl; exact c.hpg

structure PW (c : PC) (vS : Value) (nS : Nat) (xS : List Value) (vL : Value) (nL : Nat) (xL : List Value) (nM : Nat) (D : DataW Unit) (w : World) : Prop where
  sz : c.base ≤ w.heap.size
  fr : ∀ o, w.frozen? ⟨c.pb, o, none⟩ = false
  c15 : w.cell? ⟨c.pb, 15, none⟩ = some (.int .u32 0)
  c21 : w.cell? ⟨c.pb, 21, none⟩ = some vS
  c22 : w.cell? ⟨c.pb, 22, none⟩ = some (.map (some c.cm))
  c23 : w.cell? ⟨c.pb, 23, none⟩ = some vL
  c24 : w.cell? ⟨c.pb, 24, none⟩ = some (.map (some c.lb))
  c25 : w.cell? ⟨c.pb, 25, none⟩ = some (.map (some c.gb))
  c54 : w.cell? ⟨c.pb, 54, none⟩ = some (.bool c.m)
  oS : w.ownsRow c.base 110 10 vS nS xS
  oL : w.ownsRow c.base 102 3 vL nL xL
  ne : vS.ownBlock = none ∨ vS.ownBlock ≠ vL.ownBlock
  mp : w.ownsMap Tryf.prog 9 locE c.mb nM D
theorem ne_none {a : Option Nat} {b : Option Nat} (h : a = none ∨ a ≠ b) : b = none ∨ b ≠ a := by
  rcases h with h | h
  · by_cases hb : b = none
    · exact Or.inl hb
    · exact Or.inr (by rw [h]; exact hb)
  · exact Or.inr (Ne.symm h)
variable {c : PC} {vS vL : Value} {nS nL nM : Nat} {xS xL : List Value} {D : DataW Unit} {w w' : World}
/-- every block of the parser's stands -/
theorem PW.kept (h : PW c vS nS xS vL nL xL nM D w) (hsz : w.heap.size ≤ w'.heap.size)
    (hb : ∀ g, (g < c.base ∨ vS.ownBlock = some g ∨ vL.ownBlock = some g) → g < w.heap.size → w'.heap[g]? = w.heap[g]?) : PW c vS nS xS vL nL xL nM D w' := by
  have hp := hb c.pb (Or.inl c.hp) (Nat.lt_of_lt_of_le c.hp h.sz)
  have cl : ∀ o, w'.cell? ⟨c.pb, o, none⟩ = w.cell? ⟨c.pb, o, none⟩ := fun o => World.cell?_of_block (a := ⟨c.pb, o, none⟩) hp
  have ow : ∀ {e size v n xs}, w.ownsRow c.base e size v n xs → (∀ g, v.ownBlock = some g → w'.heap[g]? = w.heap[g]?) → w'.ownsRow c.base e size v n xs := by
    intro e size v n xs ho hk
    obtain ⟨h1, h2⟩ := ho
    refine ⟨h1, ?_⟩
    rcases h2 with h2 | ⟨g, cap, cur, rfl, hx⟩
    · exact Or.inl h2
    · exact Or.inr ⟨g, cap, cur, rfl, hx.1, by rw [hk g rfl]; exact hx.2.1, hx.2.2⟩
  refine ⟨Nat.le_trans h.sz hsz, fun o => by rw [World.frozen?_of_block (a := ⟨c.pb, o, none⟩) hp]; exact h.fr o, by rw [cl]; exact h.c15, by rw [cl]; exact h.c21, by rw [cl]; exact h.c22, by rw [cl]; exact h.c23, by rw [cl]; exact h.c24, by rw [cl]; exact h.c25, by rw [cl]; exact h.c54,
    ow h.oS (fun g hg => hb g (Or.inr (Or.inl hg)) (h.oS.lt g hg).2), ow h.oL (fun g hg => hb g (Or.inr (Or.inr hg)) (h.oL.lt g hg).2), h.ne, ?_⟩
  obtain ⟨es, clock, hx, F, hs, hD⟩ := h.mp
  exact ⟨es, clock, by rw [hb _ (Or.inl c.mb_lt) (Nat.lt_of_lt_of_le c.mb_lt h.sz)]; exact hx, F, hs, hD⟩
theorem PW.alloc (h : PW c vS nS xS vL nL xL nM D w) (o : Obj) : PW c vS nS xS vL nL xL nM D (w.alloc o) := by
  refine h.kept (by simp) (fun g _ hg => ?_)
  have := (World.grownBy_alloc w o none).block g hg (by simp)
  exact this
theorem PW.drew (h : PW c vS nS xS vL nL xL nM D w) : PW c vS nS xS vL nL xL nM D w.drew := h.kept (by simp) (fun g _ _ => rfl)
theorem PW.drewN (h : PW c vS nS xS vL nL xL nM D w) (n : Nat) : PW c vS nS xS vL nL xL nM D (w.drewN n) := by
  induction n with
  | zero => exact h
  | succ n ih => exact ih.drew
/-- a store into another block -/
theorem PW.other (h : PW c vS nS xS vL nL xL nM D w) {a : Addr} (hb : c.base ≤ a.block) (h1 : vS.ownBlock ≠ some a.block) (h2 : vL.ownBlock ≠ some a.block) (u : Value) : PW c vS nS xS vL nL xL nM D (w.setCell a u) := by
  refine h.kept (by simp) (fun g hg _ => ?_)
  refine heap_setCell_other w a g u (fun e => ?_)
  rcases hg with hg | hg | hg
  · omega
  · rw [e] at hg; exact h1 hg
  · rw [e] at hg; exact h2 hg
/-- a store into the parser's own cells: the symbols' slice -/
theorem cell_set_same {w : World} {b o : Nat} {u v : Value} (h : w.cell? ⟨b, o, none⟩ = some v) : (w.setCell ⟨b, o, none⟩ u).cell? ⟨b, o, none⟩ = some u := by
  have hl : w.cell? ⟨b, o, none⟩ ≠ none := by rw [h]; simp
  first | exact World.cell?_setCell_same hl | (simp [go_sem, h])
theorem cell_set_off {w : World} {b o o' : Nat} {u : Value} (h : o' ≠ o) : (w.setCell ⟨b, o, none⟩ u).cell? ⟨b, o', none⟩ = w.cell? ⟨b, o', none⟩ := by
  first | exact World.cell?_setCell_off h | (simp [go_sem])
theorem cell_set_far {w : World} {a : Addr} {b o : Nat} {u : Value} (h : b ≠ a.block) : (w.setCell a u).cell? ⟨b, o, none⟩ = w.cell? ⟨b, o, none⟩ :=
  World.cell?_of_block (a := ⟨b, o, none⟩) (heap_setCell_other w a b u h)
theorem frozen_set {w : World} {a : Addr} {u : Value} (b : Addr) : (w.setCell a u).frozen? b = w.frozen? b := by
  simp [go_sem]
theorem own_ne {w : World} {base e size n g : Nat} {v : Value} {xs : List Value} (h : w.ownsRow base e size v n xs) (hg : g < base) : some g ≠ v.ownBlock := by
  intro e
  have := (h.lt g e.symm).1
  omega
theorem PW.symTo (h : PW c vS nS xS vL nL xL nM D w) {w1 : World} {v' : Value} {n' : Nat} {xs' : List Value} (hg : w.grownBy w1 vS.ownBlock) (ho : w1.ownsRow c.base 110 10 v' n' xs') (hat : v'.ownBlock = vS.ownBlock ∨ v'.ownBlock = some w.heap.size) :
    PW c v' n' xs' vL nL xL nM D (w1.setCell ⟨c.pb, 21, none⟩ v') := by
  have hpS := own_ne h.oS c.hp
  have hplt := Nat.lt_of_lt_of_le c.hp h.sz
  have hp := hg.block c.pb hplt hpS
  have cl : ∀ o, w1.cell? ⟨c.pb, o, none⟩ = w.cell? ⟨c.pb, o, none⟩ := fun o => World.cell?_of_block (a := ⟨c.pb, o, none⟩) hp
  have hoL := h.oL.kept hg (ne_none h.ne)
  refine ⟨by simp; exact Nat.le_trans h.sz hg.size, fun o => by rw [frozen_set, World.frozen?_of_block (a := ⟨c.pb, o, none⟩) hp]; exact h.fr o,
    by rw [cell_set_off (by decide), cl]; exact h.c15, cell_set_same ((cl 21).trans h.c21), by rw [cell_set_off (by decide), cl]; exact h.c22, by rw [cell_set_off (by decide), cl]; exact h.c23, by rw [cell_set_off (by decide), cl]; exact h.c24, by rw [cell_set_off (by decide), cl]; exact h.c25, by rw [cell_set_off (by decide), cl]; exact h.c54,
    ownsRow_setCell_below ho c.hp _, ownsRow_setCell_below hoL c.hp _, ?_, ?_⟩
  · rcases hat with e | e
    · rw [e]; exact h.ne
    · refine Or.inr (fun e2 => ?_)
      rw [e] at e2
      have := (h.oL.lt _ e2.symm).2
      omega
  · exact (h.mp.kept hg (own_ne h.oS c.mb_lt)).setCell (a := ⟨c.pb, 21, none⟩) (Ne.symm c.mb_ne) _
theorem PW.locTo (h : PW c vS nS xS vL nL xL nM D w) {w1 : World} {v' : Value} {n' : Nat} {xs' : List Value} (hg : w.grownBy w1 vL.ownBlock) (ho : w1.ownsRow c.base 102 3 v' n' xs') (hat : v'.ownBlock = vL.ownBlock ∨ v'.ownBlock = some w.heap.size) :
    PW c vS nS xS v' n' xs' nM D (w1.setCell ⟨c.pb, 23, none⟩ v') := by
  have hpS := own_ne h.oL c.hp
  have hplt := Nat.lt_of_lt_of_le c.hp h.sz
  have hp := hg.block c.pb hplt hpS
  have cl : ∀ o, w1.cell? ⟨c.pb, o, none⟩ = w.cell? ⟨c.pb, o, none⟩ := fun o => World.cell?_of_block (a := ⟨c.pb, o, none⟩) hp
  have hoS := h.oS.kept hg h.ne
  refine ⟨by simp; exact Nat.le_trans h.sz hg.size, fun o => by rw [frozen_set, World.frozen?_of_block (a := ⟨c.pb, o, none⟩) hp]; exact h.fr o,
    by rw [cell_set_off (by decide), cl]; exact h.c15, by rw [cell_set_off (by decide), cl]; exact h.c21, by rw [cell_set_off (by decide), cl]; exact h.c22, cell_set_same ((cl 23).trans h.c23), by rw [cell_set_off (by decide), cl]; exact h.c24, by rw [cell_set_off (by decide), cl]; exact h.c25, by rw [cell_set_off (by decide), cl]; exact h.c54,
    ownsRow_setCell_below hoS c.hp _, ownsRow_setCell_below ho c.hp _, ?_, ?_⟩
  · rcases hat with e | e
    · rw [e]; exact h.ne
    · refine ne_none (Or.inr (fun e2 => ?_))
      rw [e] at e2
      have := (h.oS.lt _ e2.symm).2
      omega
  · exact (h.mp.kept hg (own_ne h.oL c.mb_lt)).setCell (a := ⟨c.pb, 23, none⟩) (Ne.symm c.mb_ne) _
theorem PW.put (h : PW c vS nS xS vL nL xL nM D w) {w1 : World} {n' : Nat} {D' : DataW Unit} (hg : w.grownBy w1 (some c.mb)) (hm : w1.ownsMap Tryf.prog 9 locE c.mb n' D') : PW c vS nS xS vL nL xL n' D' w1 := by
  have hplt := Nat.lt_of_lt_of_le c.hp h.sz
  have hp := hg.block c.pb hplt (by simp; exact c.mb_ne)
  have cl : ∀ o, w1.cell? ⟨c.pb, o, none⟩ = w.cell? ⟨c.pb, o, none⟩ := fun o => World.cell?_of_block (a := ⟨c.pb, o, none⟩) hp
  refine ⟨Nat.le_trans h.sz hg.size, fun o => by rw [World.frozen?_of_block (a := ⟨c.pb, o, none⟩) hp]; exact h.fr o,
    by rw [cl]; exact h.c15, by rw [cl]; exact h.c21, by rw [cl]; exact h.c22, by rw [cl]; exact h.c23, by rw [cl]; exact h.c24, by rw [cl]; exact h.c25, by rw [cl]; exact h.c54,
    h.oS.kept hg (Or.inr (Ne.symm (own_ne h.oS c.mb_lt))), h.oL.kept hg (Or.inr (Ne.symm (own_ne h.oL c.mb_lt))), h.ne, hm⟩
theorem PW.symSet {g n cap : Nat} (h : PW c (.slice (some ⟨g, 0, none⟩) n cap) n xS vL nL xL nM D w) (j : Nat) (u : Value) :
    PW c (.slice (some ⟨g, 0, none⟩) n cap) n (xS.set j u) vL nL xL nM D (w.setCell ⟨g, j, none⟩ u) := by
  obtain ⟨h1, h2⟩ := h.oS.stored j u
  have hgb := (h.oS.lt g rfl).1
  have hpg : c.pb ≠ g := by have := c.hp; omega
  have cl : ∀ o, (w.setCell ⟨g, j, none⟩ u).cell? ⟨c.pb, o, none⟩ = w.cell? ⟨c.pb, o, none⟩ := fun o => cell_set_far hpg
  have hne : vL.ownBlock ≠ some g := by
    rcases h.ne with e | e
    · simp [Value.ownBlock] at e
    · exact fun e2 => e (by rw [e2]; rfl)
  refine ⟨by simp; exact h.sz, fun o => by rw [frozen_set]; exact h.fr o,
    by rw [cl]; exact h.c15, by rw [cl]; exact h.c21, by rw [cl]; exact h.c22, by rw [cl]; exact h.c23, by rw [cl]; exact h.c24, by rw [cl]; exact h.c25, by rw [cl]; exact h.c54,
    h1, ownsRow_setCell_other h.oL hne u, h.ne, h.mp.setCell (a := ⟨g, j, none⟩) (by have := c.mb_lt; show c.mb ≠ g; omega) _⟩
end Go.Proofs.YtgjoklbljmpkgaaFmt
