/-
  The law for a region that draws its order by an invariant, again: an operation may wait for a later one where that edge does not bind. No conditions of the program.
-/
import Derived.Test.YthhoalfilmlhaaaHa
namespace Go.Proofs.Ythhoalfilmlhaaa
open Go

section
variable {P : Program} {ops : Array Oper} {Q : Exit → Act → World → Prop} {md : Region.Mode}
/-- each operation waits for earlier ones alone -/
def DagB (md : Region.Mode) (ops : Array Oper) : Bool := (List.range ops.size).all fun i => ((ops[i]?).map (·.after.all fun e => !Region.binds md e || decide (e.on < i))).getD true
theorem all_listedB (hd : DagB md ops = true) {listed : Array Bool} (hs : listed.size = ops.size) (h : Region.ready md ops listed = []) : ∀ i, i < ops.size → listed[i]? = some true := by
  intro i
  induction i using Nat.strongRecOn with
  | ind i ih =>
    intro hi
    refine Decidable.byContradiction fun hn => ?_
    have hi' : i < listed.size := by omega
    have hf : listed[i]? = some false := by
      rw [Array.getElem?_eq_getElem hi'] at hn ⊢
      cases hb : listed[i]
      · rfl
      · rw [hb] at hn; simp at hn
    have hm : i ∈ Region.ready md ops listed := by
      unfold Region.ready
      rw [List.mem_filter]
      refine ⟨List.mem_range.2 hi, ?_⟩
      have hget : listed.getD i true = false := by simp [hf]
      rw [hget]
      have hd' := List.all_eq_true.1 hd i (List.mem_range.2 hi)
      rw [Array.getElem?_eq_getElem hi] at hd' ⊢
      simp only [Option.map_some, Option.getD_some, Bool.not_false, Bool.true_and] at hd' ⊢
      rw [Array.all_eq_true] at hd' ⊢
      intro j hj
      have hlt := hd' j hj
      rw [Bool.or_eq_true, decide_eq_true_iff] at hlt
      rcases hlt with hlt | hlt
      · rw [hlt]; rfl
      · have := ih _ hlt (by omega)
        simp [this]
    rw [h] at hm
    cases hm
theorem wpAny_invB (I : Array Bool → Act → World → Prop) (hd : DagB md ops = true)
    (hstep : ∀ (listed : Array Bool) (a : Act) (w : World) (i : Nat), listed.size = ops.size → i ∈ Region.ready md ops listed → I listed a w → wpOp P ops Q i (I (listed.setIfInBounds i true)) a w)
    (hend : ∀ (listed : Array Bool) (a : Act) (w : World), listed.size = ops.size → (∀ i, i < ops.size → listed[i]? = some true) → I listed a w → Q .normal a w) :
    ∀ (fuel : Nat) (listed : Array Bool) (a : Act) (w : World), listed.size = ops.size → cnt listed.toList ≤ fuel → I listed a w → wpAny P md ops Q fuel listed a w
  | 0, listed, a, w, hs, hc, hI => by
    have hall : ∀ i, i < ops.size → listed[i]? = some true := fun i hi => by
      have hi' : i < listed.size := by omega
      rw [Array.getElem?_eq_getElem hi']
      have := cnt_zero _ (Nat.le_zero.1 hc) listed[i] (by simp)
      rw [this]
    refine ⟨?_, hend listed a w hs hall hI⟩
    unfold Region.ready
    rw [List.filter_eq_nil_iff]
    intro i hi
    have := hall i (List.mem_range.1 hi)
    simp [this]
  | fuel + 1, listed, a, w, hs, hc, hI => by
    refine ⟨fun h => hend listed a w hs (all_listedB hd hs h) hI, fun i hi => ?_⟩
    have hf : listed.toList[i]? = some false := by
      have h1 := hi
      unfold Region.ready at h1
      rw [List.mem_filter, Bool.and_eq_true] at h1
      have hlt : i < listed.size := by have := List.mem_range.1 h1.1; omega
      have h2 := h1.2.1
      have e : listed.getD i true = listed[i] := by simp [hlt]
      rw [e] at h2
      rw [Array.getElem?_toList, Array.getElem?_eq_getElem hlt]
      cases hb : listed[i]
      · rfl
      · rw [hb] at h2; simp at h2
    refine wpOp_mono (fun a' w' hI' => ?_) (hstep listed a w i hs hi hI)
    refine wpAny_invB I hd hstep hend fuel _ a' w' (by simpa using hs) ?_ hI'
    have := cnt_set _ i hf
    rw [Array.toList_setIfInBounds]
    omega
/-- a region that draws its order, by an invariant -/
theorem wp_region_invB (I : Array Bool → Act → World → Prop) {id : Nat} {a : Act} {w : World} (hm : P.follows .mixedOrders = true) (hd : DagB .any ops = true)
    (h0 : I (Array.replicate ops.size false) a w.drew)
    (hstep : ∀ (listed : Array Bool) (a : Act) (w : World) (i : Nat), listed.size = ops.size → i ∈ Region.ready .any ops listed → I listed a w → wpOp P ops Q i (I (listed.setIfInBounds i true)) a w)
    (hend : ∀ (listed : Array Bool) (a : Act) (w : World), listed.size = ops.size → (∀ i, i < ops.size → listed[i]? = some true) → I listed a w → Q .normal a w) :
    (Code.region id ops true).wp P Q a w := by
  refine wp_region_any hm (wpAny_invB (md := .any) I hd hstep hend _ _ _ _ (by simp) ?_ h0)
  have : ∀ n, cnt (List.replicate n false) = n := by
    intro n
    induction n with
    | zero => rfl
    | succ n ih => rw [List.replicate_succ]; simp [cnt, ih]
  rw [Array.toList_replicate, this]
  exact Nat.le_refl _
theorem wp_region_invB' (I : Act → Array Bool → Act → World → Prop) {id : Nat} {a : Act} {w : World} (hm : P.follows .mixedOrders = true) (hd : DagB .any ops = true)
    (h0 : I a (Array.replicate ops.size false) a w.drew)
    (hstep : ∀ (listed : Array Bool) (a' : Act) (w : World) (i : Nat), listed.size = ops.size → i ∈ Region.ready .any ops listed → I a listed a' w → wpOp P ops Q i (I a (listed.setIfInBounds i true)) a' w)
    (hend : ∀ (listed : Array Bool) (a' : Act) (w : World), listed.size = ops.size → (∀ i, i < ops.size → listed[i]? = some true) → I a listed a' w → Q .normal a' w) :
    (Code.region id ops true).wp P Q a w := wp_region_invB (I a) hm hd h0 hstep hend
end
end Go.Proofs.Ythhoalfilmlhaaa
