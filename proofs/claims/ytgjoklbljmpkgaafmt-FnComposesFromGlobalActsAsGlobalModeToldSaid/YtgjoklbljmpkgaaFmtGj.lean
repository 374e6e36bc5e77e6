/-
  What handleComposesPragma keeps while it goes over the parents: the rows of the references. Conditions: each theorem's own.
-/
import Derived.Test.YtgjoklbljmpkgaaFmtGh
namespace Go.Proofs.YtgjoklbljmpkgaaFmt
open Go.RowKit Go.Lib Go.ChangeMaps
open Go.Maps (Keyed IsMap)
theorem PW.kept2 {c : PC} {vS vL : Value} {nS nL nM : Nat} {xS xL : List Value} {D : DataW Unit} {w w' : World} (h : PW c vS nS xS vL nL xL nM D w) (hsz : w.heap.size ≤ w'.heap.size)
    (hb : ∀ g, (g = c.pb ∨ g = c.mb ∨ vS.ownBlock = some g ∨ vL.ownBlock = some g) → g < w.heap.size → w'.heap[g]? = w.heap[g]?) : PW c vS nS xS vL nL xL nM D w' := by
  have hp := hb c.pb (Or.inl rfl) (Nat.lt_of_lt_of_le c.hp h.sz)
  have cl : ∀ o, w'.cell? ⟨c.pb, o, none⟩ = w.cell? ⟨c.pb, o, none⟩ := fun o => World.cell?_of_block (a := ⟨c.pb, o, none⟩) hp
  have ow : ∀ {e size v n xs}, w.ownsRow c.base e size v n xs → (∀ g, v.ownBlock = some g → w'.heap[g]? = w.heap[g]?) → w'.ownsRow c.base e size v n xs := by
    intro e size v n xs ho hk
    obtain ⟨h1, h2⟩ := ho
    refine ⟨h1, ?_⟩
    rcases h2 with h2 | ⟨g, cap, cur, rfl, hx⟩
    · exact Or.inl h2
    · exact Or.inr ⟨g, cap, cur, rfl, hx.1, by rw [hk g rfl]; exact hx.2.1, hx.2.2⟩
  refine ⟨Nat.le_trans h.sz hsz, fun o => by rw [World.frozen?_of_block (a := ⟨c.pb, o, none⟩) hp]; exact h.fr o, by rw [cl]; exact h.c15, by rw [cl]; exact h.c21, by rw [cl]; exact h.c22, by rw [cl]; exact h.c23, by rw [cl]; exact h.c24, by rw [cl]; exact h.c25, by rw [cl]; exact h.c54,
    ow h.oS (fun g hg => hb g (Or.inr (Or.inr (Or.inl hg))) (h.oS.lt g hg).2), ow h.oL (fun g hg => hb g (Or.inr (Or.inr (Or.inr hg))) (h.oL.lt g hg).2), h.ne, ?_⟩
  obtain ⟨es, clock, hx, F, hs, hD⟩ := h.mp
  exact ⟨es, clock, by rw [hb _ (Or.inr (Or.inl rfl)) (Nat.lt_of_lt_of_le c.mb_lt h.sz)]; exact hx, F, hs, hD⟩
theorem PS.kept2 {c : PC} {l : List NM} {vS vL : Value} {w w' : World} (h : PS c l vS vL w) (hsz : w.heap.size ≤ w'.heap.size)
    (hb : ∀ g, (g = c.pb ∨ g = c.mb ∨ vS.ownBlock = some g ∨ vL.ownBlock = some g) → g < w.heap.size → w'.heap[g]? = w.heap[g]?) : PS c l vS vL w' := by
  obtain ⟨xS, xL, D, hP, hX, hM⟩ := h.ex
  exact ⟨xS, xL, D, hP.kept2 hsz hb, hX, hM⟩
theorem PS.sz {c : PC} {l : List NM} {vS vL : Value} {w : World} (h : PS c l vS vL w) : c.base ≤ w.heap.size := by
  obtain ⟨xS, xL, D, hP, hX, hM⟩ := h.ex
  exact hP.sz
theorem PS.ltS {c : PC} {l : List NM} {vS vL : Value} {w : World} (h : PS c l vS vL w) : ∀ g, vS.ownBlock = some g → c.base ≤ g ∧ g < w.heap.size := by
  obtain ⟨xS, xL, D, hP, hX, hM⟩ := h.ex
  exact hP.oS.lt
theorem PS.ltL {c : PC} {l : List NM} {vS vL : Value} {w : World} (h : PS c l vS vL w) : ∀ g, vL.ownBlock = some g → c.base ≤ g ∧ g < w.heap.size := by
  obtain ⟨xS, xL, D, hP, hX, hM⟩ := h.ex
  exact hP.oL.lt
theorem PS.drew {c : PC} {l : List NM} {vS vL : Value} {w : World} (h : PS c l vS vL w) : PS c l vS vL w.drew := h.kept2 (by simp) (fun g _ _ => rfl)
theorem PS.alloc {c : PC} {l : List NM} {vS vL : Value} {w : World} (h : PS c l vS vL w) (o : Obj) : PS c l vS vL (w.alloc o) :=
  h.kept2 (by simp) (fun g _ hg => (World.grownBy_alloc w o none).block g hg (by simp))
/-- the cells of a row of references -/
structure IdxX (ns : List NM) (k : Nat) (xs : List Value) : Prop where
  ex : ∀ q, q < k → ∀ (h : q < ns.length), xs[q * 3 + 2]? = some (.int .u32 ((dist ns).idxOf ns[q] : Nat))
theorem IdxX.snoc {ns : List NM} {k : Nat} {xs : List Value} (h : IdxX ns k xs) (hl : xs.length = k * 3) (hk : k < ns.length) : IdxX ns (k + 1) (xs ++ [.int .i32 0, .int .u32 0, .int .u32 ((dist ns).idxOf ns[k] : Nat)]) := by
  constructor
  intro j hj hjl
  by_cases e : j < k
  · rw [List.getElem?_append_left (by omega)]; exact h.ex j e hjl
  · obtain rfl : j = k := by omega
    rw [List.getElem?_append_right (by omega), hl, show j * 3 + 2 - j * 3 = 2 by omega]; rfl
def cnt (ns : List NM) (i j k : Nat) : Nat := if k < i then ns.length else if k = i then j else 0
def NeB (a b : Value) : Prop := a.ownBlock = none ∨ a.ownBlock ≠ b.ownBlock
theorem NeB.symm {a b : Value} (h : NeB a b) : NeB b a := ne_none h
/-- the rows of the parents' references -/
structure RowsX (base B pc : Nat) (ns : List NM) (i j : Nat) (vS vL : Value) (rows : Nat → Value) (w : World) : Prop where
  cell : ∀ k, k < pc → w.cell? ⟨B + 6 + k, 0, none⟩ = some (rows k) ∧ w.frozen? ⟨B + 6 + k, 0, none⟩ = false
  own : ∀ k, k < pc → ∃ xs, w.ownsRow base 102 3 (rows k) (cnt ns i j k) xs ∧ IdxX ns (cnt ns i j k) xs
  neS : ∀ k, k < pc → NeB (rows k) vS
  neL : ∀ k, k < pc → NeB (rows k) vL
  neR : ∀ k k', k < pc → k' < pc → k ≠ k' → NeB (rows k) (rows k')
theorem RowsX.lt {base B pc : Nat} {ns : List NM} {i j : Nat} {vS vL : Value} {rows : Nat → Value} {w : World} (h : RowsX base B pc ns i j vS vL rows w) {k : Nat} (hk : k < pc) : ∀ g, (rows k).ownBlock = some g → base ≤ g ∧ g < w.heap.size := by
  obtain ⟨xs, ho, _⟩ := h.own k hk
  exact ho.lt
/-- the rows stand where their blocks stand -/
theorem RowsX.kept {base B pc : Nat} {ns : List NM} {i j : Nat} {vS vL vS' vL' : Value} {rows : Nat → Value} {w w' : World} (h : RowsX base B pc ns i j vS vL rows w)
    (hc : ∀ k, k < pc → w'.heap[B + 6 + k]? = w.heap[B + 6 + k]?) (hr : ∀ k, k < pc → ∀ g, (rows k).ownBlock = some g → w'.heap[g]? = w.heap[g]?)
    (hS : ∀ k, k < pc → NeB (rows k) vS') (hL : ∀ k, k < pc → NeB (rows k) vL') : RowsX base B pc ns i j vS' vL' rows w' := by
  refine ⟨fun k hk => ?_, fun k hk => ?_, hS, hL, h.neR⟩
  · rw [World.cell?_of_block (a := ⟨B + 6 + k, 0, none⟩) (hc k hk), World.frozen?_of_block (a := ⟨B + 6 + k, 0, none⟩) (hc k hk)]
    exact h.cell k hk
  · obtain ⟨xs, ho, hx⟩ := h.own k hk
    refine ⟨xs, ?_, hx⟩
    obtain ⟨h1, h2⟩ := ho
    refine ⟨h1, ?_⟩
    rcases h2 with h2 | ⟨g, cap, cur, e, hx⟩
    · exact Or.inl h2
    · exact Or.inr ⟨g, cap, cur, e, hx.1, by rw [hr k hk g (by rw [e]; rfl)]; exact hx.2.1, hx.2.2⟩
def EE (c : PC) (B pc : Nat) (g : Nat) : Prop := g = c.pb ∨ g = c.mb ∨ ∃ k, k < pc ∧ g = B + 6 + k
structure LI (c : PC) (B pc : Nat) (ns : List NM) (i j : Nat) (w2 w : World) : Prop where
  ex : ∃ vS vL rows, PS c (part i j ns) vS vL w ∧ RowsX c.base B pc ns i j vS vL rows w ∧ Fr (EE c B pc) w2.heap.size w2 w
/-- numbers that stand apart -/
structure Apart (c : PC) (B pc : Nat) : Prop where
  pb : c.pb = B + 4
  mb : c.mb < B + 6
  base : B + 6 + pc ≤ c.base
  gl : 7 ≤ B
  mb7 : 7 ≤ c.mb
theorem RowsX.alloc {base B pc : Nat} {ns : List NM} {i j : Nat} {vS vL : Value} {rows : Nat → Value} {w : World} (h : RowsX base B pc ns i j vS vL rows w) (hB : B + 6 + pc ≤ w.heap.size) (o : Obj) : RowsX base B pc ns i j vS vL rows (w.alloc o) :=
  h.kept (fun k hk => (World.grownBy_alloc w o none).block _ (by omega) (by simp)) (fun k hk g hg => (World.grownBy_alloc w o none).block g (h.lt hk g hg).2 (by simp)) h.neS h.neL
theorem RowsX.drew {base B pc : Nat} {ns : List NM} {i j : Nat} {vS vL : Value} {rows : Nat → Value} {w : World} (h : RowsX base B pc ns i j vS vL rows w) : RowsX base B pc ns i j vS vL rows w.drew :=
  h.kept (fun _ _ => rfl) (fun _ _ _ _ => rfl) h.neS h.neL
theorem LI.alloc {c : PC} {B pc : Nat} {ns : List NM} {i j : Nat} {w2 w : World} (h : LI c B pc ns i j w2 w) (hA : Apart c B pc) (hw2 : c.base ≤ w2.heap.size) (hw : w2.heap.size ≤ w.heap.size) (o : Obj) : LI c B pc ns i j w2 (w.alloc o) := by
  obtain ⟨vS, vL, rows, h1, h2, h3⟩ := h.ex
  have := hA.base
  exact ⟨vS, vL, rows, h1.alloc o, h2.alloc (by omega) o, h3.alloc (Nat.le_refl _) o⟩
/-- behind a symbol's call -/
theorem RowsX.sym {c : PC} {B pc : Nat} {ns : List NM} {i j : Nat} {vS vL vS' vL' : Value} {rows : Nat → Value} {w w' : World} (h : RowsX c.base B pc ns i j vS vL rows w) (hA : Apart c B pc) (hsz : c.base ≤ w.heap.size)
    (hFr : Fr (Ex c vS vL) w.heap.size w w') (hlS : ∀ g, vS.ownBlock = some g → c.base ≤ g) (hlL : ∀ g, vL.ownBlock = some g → c.base ≤ g) (hS : New w vS vS') (hL : New w vL vL') : RowsX c.base B pc ns i j vS' vL' rows w' := by
  have hb := hA.base
  have hp := hA.pb
  have hm := hA.mb
  have nw : ∀ {v v' : Value}, New w v v' → ∀ k, k < pc → NeB (rows k) v → NeB (rows k) v' := by
    intro v v' hN k hk hne
    rcases hN with e | ⟨g, e, hg⟩
    · unfold NeB; rw [e]; exact hne
    · by_cases e2 : (rows k).ownBlock = none
      · exact Or.inl e2
      · refine Or.inr (fun e3 => ?_)
        rw [e] at e3
        have := (h.lt hk g e3).2
        omega
  refine h.kept (fun k hk => ?_) (fun k hk g hg => ?_) (fun k hk => nw hS k hk (h.neS k hk)) (fun k hk => nw hL k hk (h.neL k hk))
  · refine hFr.block _ (by omega) ?_
    rintro (e | e | e | e)
    · omega
    · omega
    · have := hlS _ e; omega
    · have := hlL _ e; omega
  · have hlt := h.lt hk g hg
    refine hFr.block g hlt.2 ?_
    rintro (e | e | e | e)
    · have := c.hp; omega
    · have := c.mb_lt; omega
    · rcases h.neS k hk with e2 | e2
      · rw [e2] at hg; cases hg
      · exact e2 (by rw [hg, e])
    · rcases h.neL k hk with e2 | e2
      · rw [e2] at hg; cases hg
      · exact e2 (by rw [hg, e])
theorem Fr.sym {c : PC} {B pc : Nat} {vS vL : Value} {w2 w w' : World} (h : Fr (EE c B pc) w2.heap.size w2 w) (hw2 : w2.heap.size ≤ c.base) (hFr : Fr (Ex c vS vL) w.heap.size w w') (hlS : ∀ g, vS.ownBlock = some g → c.base ≤ g) (hlL : ∀ g, vL.ownBlock = some g → c.base ≤ g) : Fr (EE c B pc) w2.heap.size w2 w' := by
  refine h.trans ⟨hFr.os, hFr.tape, hFr.output, hFr.size, fun g hg hn => hFr.block g (by have := h.size; omega) ?_⟩
  rintro (e | e | e | e)
  · exact hn (Or.inl e)
  · exact hn (Or.inr (Or.inl e))
  · have := hlS _ e; omega
  · have := hlL _ e; omega
/-- behind the append to the i-th parent's row and its store -/
theorem LI.app {c : PC} {B pc : Nat} {ns : List NM} {i j : Nat} {vS vL : Value} {rows : Nat → Value} {w2 w w' w3 : World} {v' : Value} {xs : List Value} {o : Obj} (hA : Apart c B pc) (hw2 : w2.heap.size = c.base) (hi : i < pc) 
    (hP : PS c (part i (j + 1) ns) vS vL w) (hR : RowsX c.base B pc ns i j vS vL rows w) (hF : Fr (EE c B pc) w2.heap.size w2 w)
    (ho : w3.ownsRow c.base 102 3 v' (j + 1) xs) (hx : IdxX ns (j + 1) xs) (hw' : w' = w.alloc o) (hg : w'.grownBy w3 (rows i).ownBlock) (hat : v'.ownBlock = (rows i).ownBlock ∨ v'.ownBlock = some w'.heap.size) :
    LI c B pc ns i (j + 1) w2 (w3.setCell ⟨B + 6 + i, 0, none⟩ v') := by
  subst hw'
  have hb := hA.base
  have hp := hA.pb
  have hm := hA.mb
  have hsz := hP.sz
  have hRa := hR.alloc (by omega) o
  have hPa := hP.alloc o
  have hsa : (w.alloc o).heap.size = w.heap.size + 1 := by simp
  have rlt : ∀ g, (rows i).ownBlock = some g → c.base ≤ g ∧ g < w.heap.size := hR.lt hi
  have far : ∀ g, g < (w.alloc o).heap.size → some g ≠ (rows i).ownBlock → g ≠ B + 6 + i → (w3.setCell ⟨B + 6 + i, 0, none⟩ v').heap[g]? = (w.alloc o).heap[g]? := by
    intro g h1 h2 h3
    rw [heap_setCell_other _ _ _ _ (by simpa using h3)]
    exact hg.block g h1 h2
  have hPf : PS c (part i (j + 1) ns) vS vL (w3.setCell ⟨B + 6 + i, 0, none⟩ v') := by
    refine hPa.kept2 (by simp only [World.size_setCell]; exact hg.size) (fun g hgg hlt => far g hlt ?_ ?_)
    · rcases hgg with e | e | e | e
      · intro e2; have := (rlt g e2.symm).1; have := c.hp; omega
      · intro e2; have := (rlt g e2.symm).1; have := c.mb_lt; omega
      · intro e2
        rcases hR.neS i hi with e3 | e3
        · rw [e3] at e2; cases e2
        · exact e3 (by rw [← e2, e])
      · intro e2
        rcases hR.neL i hi with e3 | e3
        · rw [e3] at e2; cases e2
        · exact e3 (by rw [← e2, e])
    · rcases hgg with e | e | e | e
      · omega
      · omega
      · have := (hP.ltS g e).1; omega
      · have := (hP.ltL g e).1; omega
  have nw : ∀ {v : Value}, NeB (rows i) v → (∀ g, v.ownBlock = some g → g < (w.alloc o).heap.size) → NeB v' v := by
    intro v hne hlt
    rcases hat with e | e
    · unfold NeB; rw [e]; exact hne
    · refine Or.inr (fun e2 => ?_)
      rw [e] at e2
      have := hlt _ e2.symm
      omega
  refine ⟨vS, vL, fun k => if k = i then v' else rows k, hPf, ⟨fun k hk => ?_, fun k hk => ?_, fun k hk => ?_, fun k hk => ?_, fun k k' hk hk' hne => ?_⟩, ?_⟩
  · by_cases e : k = i
    · subst e
      simp only [if_true]
      have hcl := hRa.cell k hk
      have hbk := hg.block (B + 6 + k) (by omega) (fun e2 => by have := (rlt _ e2.symm).1; omega)
      refine ⟨cell_set_same (v := rows k) ?_, ?_⟩
      · rw [World.cell?_of_block (a := ⟨B + 6 + k, 0, none⟩) hbk]; exact hcl.1
      · rw [frozen_set, World.frozen?_of_block (a := ⟨B + 6 + k, 0, none⟩) hbk]; exact hcl.2
    · simp only [e, if_false]
      have hbk := far (B + 6 + k) (by omega) (fun e2 => by have := (rlt _ e2.symm).1; omega) (by omega)
      rw [World.cell?_of_block (a := ⟨B + 6 + k, 0, none⟩) hbk, World.frozen?_of_block (a := ⟨B + 6 + k, 0, none⟩) hbk]
      exact hRa.cell k hk
  · by_cases e : k = i
    · subst e
      simp only [if_true]
      have hcn : cnt ns k (j + 1) k = j + 1 := by unfold cnt; rw [if_neg (by omega), if_pos rfl]
      rw [hcn]
      exact ⟨xs, ownsRow_setCell_below ho (show B + 6 + k < c.base by omega) _, hx⟩
    · simp only [e, if_false]
      have hcn : cnt ns i (j + 1) k = cnt ns i j k := by unfold cnt; simp only [e, if_false]
      rw [hcn]
      obtain ⟨ys, hoy, hy⟩ := hRa.own k hk
      refine ⟨ys, ?_, hy⟩
      have hne := hR.neR k i hk hi e
      refine ownsRow_setCell_below (hoy.kept hg ?_) (show B + 6 + i < c.base by omega) _
      exact hne
  · by_cases e : k = i
    · simp only [e, if_true]
      exact nw (hR.neS i hi) (fun g hg => by have := (hP.ltS g hg).2; omega)
    · simp only [e, if_false]; exact hR.neS k hk
  · by_cases e : k = i
    · simp only [e, if_true]
      exact nw (hR.neL i hi) (fun g hg => by have := (hP.ltL g hg).2; omega)
    · simp only [e, if_false]; exact hR.neL k hk
  · by_cases e : k = i
    · have e' : k' ≠ i := by omega
      simp only [e, e', if_true, if_false]
      exact nw (hR.neR i k' hi hk' (by omega)) (fun g hg => by have := (hR.lt hk' g hg).2; omega)
    · simp only [e, if_false]
      by_cases e' : k' = i
      · simp only [e', if_true]
        exact (nw (hR.neR i k hi hk (by omega)) (fun g hg => by have := (hR.lt hk g hg).2; omega)).symm
      · simp only [e', if_false]; exact hR.neR k k' hk hk' hne
  · exact ((hF.alloc (Nat.le_refl _) o).grown (Nat.le_refl _) hg (fun g hg2 => Or.inr (by have := (rlt g hg2).1; omega))).set ⟨B + 6 + i, 0, none⟩ v' (Or.inl (Or.inr (Or.inr ⟨i, hi, rfl⟩)))
end Go.Proofs.YtgjoklbljmpkgaaFmt
