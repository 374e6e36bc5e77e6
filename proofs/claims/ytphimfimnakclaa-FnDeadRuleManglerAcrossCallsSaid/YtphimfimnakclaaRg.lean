/-
  Copy of rules; the plain law: a second removal drops nothing. Conditions: each theorem's own.
-/
import Derived.Test.YtphimfimnakclaaRf
import Derived.Laws.IdiomCopy
namespace Go.Proofs.Ytphimfimnakclaa
open Go.RowKit Go.Lib Go.ChangeMaps
open Go.Maps (Keyed IsMap)
/-- copy of elements of two cells -/
theorem run_copy2 {P : Program} (w : World) (dT sT ty elem : TypeId) (b o dLen dCap : Nat) (a : Addr) (sLen sCap k : Nat) (cs : List Value)
    (hu : P.underlying dT = some (.slice elem)) (hs : (P.info? elem).map (·.size) = some 2) (hk : Nat.min sLen dLen = k) (hn : cs.length = k * 2)
    (hsrc : ∀ j v, cs[j]? = some v → w.cell? (a.add j) = some v) (hc : ∀ j, j < cs.length → (w.cell? ⟨b, o + j, none⟩).isSome = true) (hf : ∀ j, j < cs.length → w.frozen? ⟨b, o + j, none⟩ = false) (h1 : ∀ v ∈ cs, v.oneCell' = true) :
    (Builtin.copy_ #[dT, sT] ty #[.slice (some ⟨b, o, none⟩) dLen dCap, .slice (some a) sLen sCap]).run P w = .ok (goInt k) (w.setCells b o cs) := by
  have hl := run_loadCells_list (P := P) w a cs hsrc
  have hst := run_storeCells_cells (P := P) b o cs 0 w (by simpa using hc) (by simpa using hf) h1
  cases hq : P.info? elem with
  | none => simp [hq] at hs
  | some i =>
    have hi : i.size = 2 := by simpa [hq] using hs
    simp [Builtin.copy_, run_underlying hu, Builtin.lenOf, Builtin.firstCells, sizeOf, typeInfo, hq, hi, hk, ← hn, hl, hst]
theorem run_copy0 {P : Program} (w : World) (dT sT ty elem : TypeId) (b : Option Addr) (dCap : Nat) (a : Option Addr) (sCap : Nat)
    (hu : P.underlying dT = some (.slice elem)) (hs : (P.info? elem).isSome = true) :
    (Builtin.copy_ #[dT, sT] ty #[.slice b 0 dCap, .slice a 0 sCap]).run P w = .ok (goInt 0) w := by
  cases hq : P.info? elem with
  | none => simp [hq] at hs
  | some i =>
    have hl : ∀ x, (loadCells x 0).run P w = .ok #[] w := fun x => run_loadCells_list (P := P) w x [] (fun j v h => by simp at h)
    have hst : ∀ x : Addr, (storeCells x []).run P w = .ok () w := fun x => rfl
    cases a <;> cases b <;> simp [Builtin.copy_, run_underlying hu, Builtin.lenOf, Builtin.firstCells, sizeOf, typeInfo, hq, hl, hst]
theorem list_copy {P : Program} {ops : Array Oper} {rest : List Oper} {o : Oper} {a : Act} {w : World} {Q : Exit → Act → World → Prop} (hgd : o.guard = none) (s x : Operand) (t t2 : TypeId)
    (ho : o.op = .call { callee := .builtin .copy, args := #[s, x], argTypes := #[t, t2] })
    (v xv v' : Value) (w' : World) (hs : a.eval s = v) (hx : a.eval x = xv) (hrun : (Builtin.copy_ #[t, t2] o.type #[v, xv]).run P w = .ok v' w') (h : wpList P ops Q rest (a.put o.dst v') w') :
    wpList P ops Q (o :: rest) a w := by
  refine wpList_plain hgd fun K hK => ?_
  unfold Oper.wp execOp
  simp only [ho, resolve, invoke, builtin, Sem.run_bind, Sem.run_pure, Result.andThen_ok, List.map_toArray, List.map_cons, List.map_nil, hs, hx, hrun]
  exact hK _ _ h
theorem heap_setCells {b : Nat} {e : TypeId} {fz : Nat × Nat} : ∀ (vs : List Value) (o : Nat) (w : World) (arr : Array Value), w.heap[b]? = some (.cells arr e fz) → ∃ arr' : Array Value, (w.setCells b o vs).heap[b]? = some (.cells arr' e fz) ∧ arr'.size = arr.size ∧ (∀ j (_ : j < vs.length), o + vs.length ≤ arr.size → arr'[o + j]? = some vs[j]) ∧ ∀ j, j < o → arr'[j]? = arr[j]?
  | [], o, w, arr, h => ⟨arr, h, rfl, fun j hj => by simp at hj, fun _ _ => rfl⟩
  | v :: vs, o, w, arr, h => by
    obtain ⟨arr', h1, h2, h3, h4⟩ := heap_setCells vs (o + 1) (w.setCell ⟨b, o, none⟩ v) _ (hset h o v)
    refine ⟨arr', h1, by rw [h2]; simp, fun j hj hl => ?_, fun j hj => ?_⟩
    · cases j with
      | zero =>
        rw [Nat.add_zero, h4 o (by omega), Array.getElem?_setIfInBounds_self_of_lt (by simp at hl; omega)]
        rfl
      | succ j =>
        have := h3 j (by simpa using hj) (by simp at hl ⊢; omega)
        rw [show o + (j + 1) = o + 1 + j by omega, this]
        rfl
    · rw [h4 j (by omega), Array.getElem?_setIfInBounds_ne (by omega)]
theorem other_setCells {b g : Nat} (hne : g ≠ b) : ∀ (vs : List Value) (o : Nat) (w : World), (w.setCells b o vs).heap[g]? = w.heap[g]?
  | [], _, _ => rfl
  | v :: vs, o, w => (other_setCells hne vs (o + 1) _).trans (hother w o v hne)
theorem size_setCells' {b : Nat} : ∀ (vs : List Value) (o : Nat) (w : World), (w.setCells b o vs).heap.size = w.heap.size
  | [], _, _ => rfl
  | v :: vs, o, w => (size_setCells' vs (o + 1) _).trans (by simp [World.setCell])
theorem os_setCells {b : Nat} : ∀ (vs : List Value) (o : Nat) (w : World), (w.setCells b o vs).os = w.os ∧ (w.setCells b o vs).tape = w.tape ∧ (w.setCells b o vs).output = w.output
  | [], _, _ => ⟨rfl, rfl, rfl⟩
  | v :: vs, o, w => by
    have h1 := os_setCells (b := b) vs (o + 1) (w.setCell ⟨b, o, none⟩ v)
    have h2 := os_set w ⟨b, o, none⟩ v
    exact ⟨h1.1.trans h2.1, h1.2.1.trans h2.2.1, h1.2.2.trans h2.2.2⟩
theorem run_keeps : ∀ (ms : List (Int × Rl)), (runR ms []).2 = (runR ms []).1.map Prod.snd ∧ ((runR ms []).1.map Prod.snd).Nodup ∧ (∀ x ∈ (runR ms []).1, deadR x.2 = false) ∧ (runR ms []).1.Sublist ms
  | [] => ⟨rfl, List.nodup_nil, (fun x hx => by cases hx), List.Sublist.refl _⟩
  | x :: ms => by
    obtain ⟨h1, h2, h3, h4⟩ := run_keeps ms
    have e : runR (x :: ms) [] = stepR x (runR ms []) := rfl
    rw [e]
    generalize runR ms [] = s at *
    unfold stepR
    split
    · exact ⟨h1, h2, h3, h4.cons x⟩
    · rename_i hc
      have hc1 : deadR x.2 = false := by
        cases h : deadR x.2
        · rfl
        · exact absurd (Or.inl h) hc
      have hc2 : ¬ x.2 ∈ s.2 := fun h => hc (Or.inr h)
      refine ⟨by simp [h1], ?_, ?_, h4.cons_cons x⟩
      · show (x.2 :: s.1.map Prod.snd).Nodup
        rw [List.nodup_cons, ← h1]
        exact ⟨hc2, by rw [h1]; exact h2⟩
      · intro y hy
        rcases List.mem_cons.1 hy with rfl | hy
        · exact hc1
        · exact h3 y hy
theorem run_again : ∀ (out : List (Int × Rl)), (out.map Prod.snd).Nodup → (∀ x ∈ out, deadR x.2 = false) → runR out [] = (out, out.map Prod.snd)
  | [], _, _ => rfl
  | x :: out, h1, h2 => by
    rw [List.map_cons, List.nodup_cons] at h1
    have ih := run_again out h1.2 (fun y hy => h2 y (List.mem_cons_of_mem _ hy))
    have e : runR (x :: out) [] = stepR x (runR out []) := rfl
    rw [e, ih]
    unfold stepR
    rw [if_neg]
    · rfl
    · rintro (h | h)
      · rw [h2 x List.mem_cons_self] at h; cases h
      · exact h1.1 h
/-- the second run drops nothing -/
theorem run_idem (ms : List (Int × Rl)) : (runR (runR ms []).1 []).1 = (runR ms []).1 := by
  obtain ⟨_, h2, h3, _⟩ := run_keeps ms
  rw [run_again _ h2 h3]
theorem locd_rise (rs : List Rl) : ((locd rs).map Prod.fst).Pairwise (· < ·) := by
  rw [List.pairwise_iff_getElem]
  intro i j hi hj hij
  simp [locd] at hi hj ⊢
  omega
theorem out_rise (rs : List Rl) {i j : Nat} (hj : j < ((runR (locd rs) []).1.map Prod.fst).length) (hij : i < j) : ((runR (locd rs) []).1.map Prod.fst)[i] < ((runR (locd rs) []).1.map Prod.fst)[j] := by
  have h := ((run_keeps (locd rs)).2.2.2.map Prod.fst)
  have := (locd_rise rs).sublist h
  rw [List.pairwise_iff_getElem] at this
  exact this i j (by omega) hj hij
end Go.Proofs.Ytphimfimnakclaa
