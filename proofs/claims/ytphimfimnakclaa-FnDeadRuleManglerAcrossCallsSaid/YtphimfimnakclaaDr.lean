/-
  A law for a region that draws its order, over worlds of one kind. No conditions of the program. Conditions: each theorem's own.
-/
import Derived.Test.YtphimfimnakclaaDt
namespace Go.Proofs.Ytphimfimnakclaa
open Go
section
variable {P : Program} {ops : Array Oper} {Q : Exit → Act → World → Prop}
theorem tmp_bool {a : Act} {s : Tmp} {b : Bool} (h : a.eval (.tmp s) = .bool b) : a.tmps[s]? = some (.bool b) := by
  have h2 : a.tmps.getD s undef = .bool b := h
  rw [Array.getD_eq_getD_getElem?] at h2
  cases e : a.tmps[s]? with
  | none => rw [e] at h2; cases h2
  | some v => rw [e] at h2; exact congrArg some h2
def okR (ops : Array Oper) (n : Nat) : Bool :=
  (List.range ops.size).all fun i => (match dstOf ops i with | some d => writer ops d == some i && decide (d < n) | none => true)
/-- A REGION WHOSE VALUES DO NOT HANG ON THE ORDER, over worlds of one kind: each operation yields its value at each world of R and leads to a world of R. -/
theorem wp_region_rel (l : List (Option Tmp × Value)) (R : World → Prop) (n : Nat) {id : Nat} {A0 : Act} {w : World} (hm : P.follows .mixedOrders = true) (hdag : Dag ops = true) (hn : A0.tmps.size = n) (hok : okR ops n = true) (h0 : R w.drew) (hl : (List.range ops.size).map (dstOf ops) = l.map (·.1))
    (hop : ∀ i o (a : Act) (w : World), ops[i]? = some o → R w → (∀ c k, (edgesOf ops i).contains c = true → dstOf ops c = some k → a.eval (.tmp k) = (l.getD c (none, undef)).2) → (∀ k, writer ops k = none → a.eval (.tmp k) = A0.eval (.tmp k)) →
      ∀ K : Act → World → Prop, (∀ w', R w' → K (a.put o.dst (l.getD i (none, undef)).2) w') → if Region.wanted o (yielded ops a.tmps) = true then Oper.wp P o a w K Q else K (a.put o.dst undef) w)
    (hend : ∀ w, R w → Q .normal (l.foldl (fun a p => a.put p.1 p.2) A0) w) : (Code.region id ops true).wp P Q A0 w := by
  subst hn
  have ok : ∀ i, i < ops.size → (∀ d, dstOf ops i = some d → writer ops d = some i ∧ d < A0.tmps.size) := fun i hi' d hd => by
    have h1 := List.all_eq_true.1 hok i (List.mem_range.2 hi')
    rw [hd] at h1
    simp only [Bool.and_eq_true, beq_iff_eq, decide_eq_true_iff] at h1
    exact h1
  have dd : ∀ i d, dstOf ops i = some d → writer ops d = some i ∧ d < A0.tmps.size := fun i d hd => by
    have hi' : i < ops.size := by
      unfold dstOf at hd
      cases ho : ops[i]? with
      | none => rw [ho] at hd; cases hd
      | some o => exact (Array.getElem?_eq_some_iff.1 ho).1
    exact ok i hi' d hd
  let val : Nat → Value := fun i => (l.getD i (none, undef)).2
  have hlen : ops.size = l.length := by simpa using congrArg List.length hl
  have e2 : putAll ops val ops.size A0 = l.foldl (fun a p => a.put p.1 p.2) A0 := by
    have e : (List.range ops.size).map (fun i => (dstOf ops i, (l.getD i (none, undef)).2)) = l := by
      apply List.ext_getElem
      · simp [hlen]
      · intro i h1 h2
        have h3 : i < ops.size := by simpa using h1
        have h4 : ((List.range ops.size).map (dstOf ops))[i]'(by simpa using h3) = (l.map (·.1))[i]'(by simpa using h2) := by simp only [hl]
        simp only [List.getElem_map, List.getElem_range] at h4 ⊢
        rw [h4]
        simp [List.getD_eq_getElem?_getD, h2]
    conv => rhs; rw [← e]
    rw [List.foldl_map]
    rfl
  refine wp_region_inv (fun listed a w' => Slots ops val A0 (fun x => listed.getD x false) a ∧ DC ops (fun x => listed.getD x false) ∧ R w') hm hdag ?_ ?_ ?_
  · have hf : ∀ x, (Array.replicate ops.size false).getD x false = false := fun x => by
      rw [Array.getD_eq_getD_getElem?, Array.getElem?_replicate]
      split <;> rfl
    refine ⟨⟨rfl, rfl, fun _ _ => rfl, fun k i _ => by rw [if_neg (by simp [hf])]⟩, fun b hb => ?_, h0⟩
    have hb2 : (Array.replicate ops.size false).getD b false = true := hb
    rw [hf b] at hb2
    cases hb2
  · intro listed a w' i hs hi' hI
    obtain ⟨hS, hD, hR⟩ := hI
    obtain ⟨hf, o, ho, hdep⟩ := mem_ready.1 hi'
    have hil : i < ops.size := (Array.getElem?_eq_some_iff.1 ho).1
    have hils : i < listed.size := by omega
    have o1 := ok i hil
    have hed : ∀ c ∈ edgesOf ops i, listed.getD c false = true := fun c hc => by
      unfold edgesOf at hc
      rw [ho] at hc
      simp only [Option.map_some, Option.getD_some, List.mem_map, List.mem_filter] at hc
      obtain ⟨e, ⟨he, hb⟩, rfl⟩ := hc
      exact hdep e (by simpa using he) hb
    have hset : (fun x => (listed.setIfInBounds i true).getD x false) = fun x => x == i || listed.getD x false := by
      funext x
      rw [Array.getD_eq_getD_getElem?]
      by_cases e : x = i
      · subst e
        rw [Array.getElem?_setIfInBounds_self_of_lt hils]
        simp
      · rw [Array.getElem?_setIfInBounds_ne (by omega), ← Array.getD_eq_getD_getElem?]
        simp [e]
    have hd1 : dstOf ops i = o.dst := by simp [dstOf, ho]
    refine wpOp_step ho fun K hK => ?_
    refine hop i o a w' ho hR ?_ ?_ K (fun w2 hR2 => hK _ _ ?_)
    · intro c k hc hk
      have hc' : c ∈ edgesOf ops i := by simpa using hc
      have := hS.inn k c (dd c k hk).1
      rw [if_pos (hed c hc')] at this
      exact this
    · intro k hk
      exact hS.out k hk
    · refine ⟨?_, ?_, hR2⟩
      · rw [hset, ← hd1]
        exact hS.put i o1
      · rw [hset]
        intro b hb c hc
        by_cases e : b = i
        · subst e
          show (c == b || listed.getD c false) = true
          rw [hed c hc]
          simp
        · have hb2 : listed.getD b false = true := by simpa [e] using hb
          have h3 : listed.getD c false = true := hD b hb2 c hc
          show (c == i || listed.getD c false) = true
          rw [h3]
          simp
  · intro listed a w' hs hall hI
    obtain ⟨hS, hD, hR⟩ := hI
    have hL : ∀ i, i < ops.size → listed.getD i false = true := fun i hi' => by
      rw [Array.getD_eq_getD_getElem?, hall i hi']
      rfl
    have e1 : a = putAll ops val ops.size A0 := hS.same (slots_all dd ops.size) fun i hi' => by rw [hL i hi']; simp [hi']
    rw [e1, e2]
    exact hend w' hR
end
end Go.Proofs.Ytphimfimnakclaa
