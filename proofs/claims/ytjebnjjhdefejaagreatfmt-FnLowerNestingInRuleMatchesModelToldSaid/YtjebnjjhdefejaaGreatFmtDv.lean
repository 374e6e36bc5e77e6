/-
  A law for a region that draws its order, by stages. No conditions of the program. Conditions: each theorem's own.
-/
import Derived.Test.YtjebnjjhdefejaaGreatFmtDu
namespace Go.Proofs.YtjebnjjhdefejaaGreatFmt
open Go
section
variable {P : Program} {ops : Array Oper} {Q : Exit → Act → World → Prop}
/-- A REGION THAT DRAWS ITS ORDER, BY STAGES: what its calls leave is a parameter that each operation may turn; R says what stands when the operations of L have run. -/
theorem wp_region_st {π : Type} (l : π → List (Option Tmp × Value)) (p0 : π) (R : π → (Nat → Bool) → World → Prop) (n : Nat) {id : Nat} {A0 : Act} {w : World} (hm : P.follows .mixedOrders = true) (hdag : Dag ops = true) (hn : A0.tmps.size = n) (hok : okR ops n = true) (h0 : R p0 (fun _ => false) w.drew) (hl : ∀ p, (List.range ops.size).map (dstOf ops) = (l p).map (·.1))
    (hop : ∀ p (L : Nat → Bool) i o (a : Act) (w : World), ops[i]? = some o → L i = false → (∀ c, (edgesOf ops i).contains c = true → L c = true) → (∀ b c, L b = true → (edgesOf ops b).contains c = true → L c = true) → R p L w → (∀ c k, (edgesOf ops i).contains c = true → dstOf ops c = some k → a.eval (.tmp k) = ((l p).getD c (none, undef)).2) → (∀ k, writer ops k = none → a.eval (.tmp k) = A0.eval (.tmp k)) →
      ∀ K : Act → World → Prop, (∀ p' w', R p' (fun x => x == i || L x) w' → (∀ x, L x = true → ((l p).getD x (none, undef)).2 = ((l p').getD x (none, undef)).2) → K (a.put o.dst ((l p').getD i (none, undef)).2) w') → if Region.wanted o (yielded ops a.tmps) = true then Oper.wp P o a w K Q else K (a.put o.dst undef) w)
    (hend : ∀ p (L : Nat → Bool) w, (∀ i, i < ops.size → L i = true) → R p L w → Q .normal ((l p).foldl (fun a p => a.put p.1 p.2) A0) w) : (Code.region id ops true).wp P Q A0 w := by
  subst hn
  have ok : ∀ i, i < ops.size → (∀ d, dstOf ops i = some d → writer ops d = some i ∧ d < A0.tmps.size) := fun i hi' d hd => by
    have h1 := List.all_eq_true.1 hok i (List.mem_range.2 hi')
    rw [hd] at h1
    simp only [Bool.and_eq_true, beq_iff_eq, decide_eq_true_iff] at h1
    exact h1
  have dd : ∀ i d, dstOf ops i = some d → writer ops d = some i ∧ d < A0.tmps.size := fun i d hd => by
    have hi' : i < ops.size := by
      unfold dstOf at hd
      cases ho : ops[i]? with
      | none => rw [ho] at hd; cases hd
      | some o => exact (Array.getElem?_eq_some_iff.1 ho).1
    exact ok i hi' d hd
  let val : π → Nat → Value := fun p i => ((l p).getD i (none, undef)).2
  refine wp_region_inv (fun listed a w' => ∃ p, Slots ops (val p) A0 (fun x => listed.getD x false) a ∧ DC ops (fun x => listed.getD x false) ∧ R p (fun x => listed.getD x false) w') hm hdag ?_ ?_ ?_
  · have hf : ∀ x, (Array.replicate ops.size false).getD x false = false := fun x => by
      rw [Array.getD_eq_getD_getElem?, Array.getElem?_replicate]
      split <;> rfl
    have hff : (fun x => (Array.replicate ops.size false).getD x false) = fun _ => false := by funext x; exact hf x
    refine ⟨p0, ⟨rfl, rfl, fun _ _ => rfl, fun k i _ => by rw [if_neg (by simp [hf])]⟩, fun b hb => ?_, by rw [hff]; exact h0⟩
    have hb2 : (Array.replicate ops.size false).getD b false = true := hb
    rw [hf b] at hb2
    cases hb2
  · intro listed a w' i hs hi' hI
    obtain ⟨p, hS, hD, hR⟩ := hI
    obtain ⟨hf, o, ho, hdep⟩ := mem_ready.1 hi'
    have hil : i < ops.size := (Array.getElem?_eq_some_iff.1 ho).1
    have hils : i < listed.size := by omega
    have hff : listed.getD i false = false := by
      rw [Array.getD_eq_getD_getElem?, Array.getElem?_eq_getElem hils] at hf ⊢
      exact hf
    have o1 := ok i hil
    have hed : ∀ c ∈ edgesOf ops i, listed.getD c false = true := fun c hc => by
      unfold edgesOf at hc
      rw [ho] at hc
      simp only [Option.map_some, Option.getD_some, List.mem_map, List.mem_filter] at hc
      obtain ⟨e, ⟨he, hb⟩, rfl⟩ := hc
      exact hdep e (by simpa using he) hb
    have hset : (fun x => (listed.setIfInBounds i true).getD x false) = fun x => x == i || listed.getD x false := by
      funext x
      rw [Array.getD_eq_getD_getElem?]
      by_cases e : x = i
      · subst e
        rw [Array.getElem?_setIfInBounds_self_of_lt hils]
        simp
      · rw [Array.getElem?_setIfInBounds_ne (by omega), ← Array.getD_eq_getD_getElem?]
        simp [e]
    have hd1 : dstOf ops i = o.dst := by simp [dstOf, ho]
    refine wpOp_step ho fun K hK => ?_
    refine hop p (fun x => listed.getD x false) i o a w' ho hff (fun c hc => hed c (by simpa using hc)) (fun b c hb hc => hD b hb c (by simpa using hc)) hR ?_ ?_ K (fun p2 w2 hR2 hv => hK _ _ ?_)
    · intro c k hc hk
      have hc' : c ∈ edgesOf ops i := by simpa using hc
      have := hS.inn k c (dd c k hk).1
      rw [if_pos (hed c hc')] at this
      exact this
    · intro k hk
      exact hS.out k hk
    · refine ⟨p2, ?_, ?_, ?_⟩
      · rw [hset, ← hd1]
        exact (hS.turn fun x _ hx => hv x hx).put i o1
      · rw [hset]
        intro b hb c hc
        by_cases e : b = i
        · subst e
          show (c == b || listed.getD c false) = true
          rw [hed c hc]
          simp
        · have hb2 : listed.getD b false = true := by simpa [e] using hb
          have h3 : listed.getD c false = true := hD b hb2 c hc
          show (c == i || listed.getD c false) = true
          rw [h3]
          simp
      · rw [hset]
        exact hR2
  · intro listed a w' hs hall hI
    obtain ⟨p, hS, hD, hR⟩ := hI
    have hL : ∀ i, i < ops.size → listed.getD i false = true := fun i hi' => by
      rw [Array.getD_eq_getD_getElem?, hall i hi']
      rfl
    have hlen : ops.size = (l p).length := by simpa using congrArg List.length (hl p)
    have e2 : putAll ops (val p) ops.size A0 = (l p).foldl (fun a p => a.put p.1 p.2) A0 := by
      have e : (List.range ops.size).map (fun i => (dstOf ops i, ((l p).getD i (none, undef)).2)) = l p := by
        apply List.ext_getElem
        · simp [hlen]
        · intro i h1 h2
          have h3 : i < ops.size := by simpa using h1
          have h4 : ((List.range ops.size).map (dstOf ops))[i]'(by simpa using h3) = ((l p).map (·.1))[i]'(by simpa using h2) := by simp only [hl p]
          simp only [List.getElem_map, List.getElem_range] at h4 ⊢
          rw [h4]
          simp [List.getD_eq_getElem?_getD, h2]
      conv => rhs; rw [← e]
      rw [List.foldl_map]
      rfl
    have e1 : a = putAll ops (val p) ops.size A0 := hS.same (slots_all dd ops.size) fun i hi' => by rw [hL i hi']; simp [hi']
    rw [e1, e2]
    exact hend p (fun x => listed.getD x false) w' hL hR
end
end Go.Proofs.YtjebnjjhdefejaaGreatFmt
