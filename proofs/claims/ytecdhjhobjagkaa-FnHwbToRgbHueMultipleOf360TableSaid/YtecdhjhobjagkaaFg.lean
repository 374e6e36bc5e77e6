/-
  A law for a region that draws its order: an invariant that each operation keeps. No conditions of the program.
-/
import Derived.Test.YtecdhjhobjagkaaFd
namespace Go.Proofs.Ytecdhjhobjagkaa
open Go

def cnt : List Bool → Nat
  | [] => 0
  | b :: l => cnt l + if b then 0 else 1
theorem cnt_set : ∀ (l : List Bool) (i : Nat), l[i]? = some false → cnt (l.set i true) + 1 = cnt l
  | [], i, h => by simp at h
  | b :: l, 0, h => by
    simp at h
    subst h
    simp [cnt]
  | b :: l, i + 1, h => by
    simp at h
    have := cnt_set l i h
    simp only [List.set_cons_succ, cnt]
    omega
theorem cnt_zero : ∀ (l : List Bool), cnt l = 0 → ∀ b ∈ l, b = true
  | [], _, b, h => by simp at h
  | c :: l, h, b, hb => by
    have h1 : cnt l = 0 ∧ c = true := by
      simp only [cnt] at h
      cases c
      · simp at h
      · simp at h; exact ⟨h, rfl⟩
    rcases List.mem_cons.1 hb with rfl | hb
    · exact h1.2
    · exact cnt_zero l h1.1 b hb

section
variable {P : Program} {ops : Array Oper} {Q : Exit → Act → World → Prop} {md : Region.Mode}
/-- each operation waits for earlier ones alone -/
def Dag (ops : Array Oper) : Bool := (List.range ops.size).all fun i => ((ops[i]?).map (·.after.all fun e => decide (e.on < i))).getD true
theorem all_listed (hd : Dag ops = true) {listed : Array Bool} (hs : listed.size = ops.size) (h : Region.ready md ops listed = []) : ∀ i, i < ops.size → listed[i]? = some true := by
  intro i
  induction i using Nat.strongRecOn with
  | ind i ih =>
    intro hi
    refine Decidable.byContradiction fun hn => ?_
    have hi' : i < listed.size := by omega
    have hf : listed[i]? = some false := by
      rw [Array.getElem?_eq_getElem hi'] at hn ⊢
      cases hb : listed[i]
      · rfl
      · rw [hb] at hn; simp at hn
    have hm : i ∈ Region.ready md ops listed := by
      unfold Region.ready
      rw [List.mem_filter]
      refine ⟨List.mem_range.2 hi, ?_⟩
      have hget : listed.getD i true = false := by simp [hf]
      rw [hget]
      have hd' := List.all_eq_true.1 hd i (List.mem_range.2 hi)
      rw [Array.getElem?_eq_getElem hi] at hd' ⊢
      simp only [Option.map_some, Option.getD_some, Bool.not_false, Bool.true_and] at hd' ⊢
      rw [Array.all_eq_true] at hd' ⊢
      intro j hj
      have hlt := hd' j hj
      rw [decide_eq_true_iff] at hlt
      have := ih _ hlt (by omega)
      simp [this]
    rw [h] at hm
    cases hm
theorem wpAny_inv (I : Array Bool → Act → World → Prop) (hd : Dag ops = true)
    (hstep : ∀ (listed : Array Bool) (a : Act) (w : World) (i : Nat), listed.size = ops.size → i ∈ Region.ready md ops listed → I listed a w → wpOp P ops Q i (I (listed.setIfInBounds i true)) a w)
    (hend : ∀ (listed : Array Bool) (a : Act) (w : World), listed.size = ops.size → (∀ i, i < ops.size → listed[i]? = some true) → I listed a w → Q .normal a w) :
    ∀ (fuel : Nat) (listed : Array Bool) (a : Act) (w : World), listed.size = ops.size → cnt listed.toList ≤ fuel → I listed a w → wpAny P md ops Q fuel listed a w
  | 0, listed, a, w, hs, hc, hI => by
    have hall : ∀ i, i < ops.size → listed[i]? = some true := fun i hi => by
      have hi' : i < listed.size := by omega
      rw [Array.getElem?_eq_getElem hi']
      have := cnt_zero _ (Nat.le_zero.1 hc) listed[i] (by simp)
      rw [this]
    refine ⟨?_, hend listed a w hs hall hI⟩
    unfold Region.ready
    rw [List.filter_eq_nil_iff]
    intro i hi
    have := hall i (List.mem_range.1 hi)
    simp [this]
  | fuel + 1, listed, a, w, hs, hc, hI => by
    refine ⟨fun h => hend listed a w hs (all_listed hd hs h) hI, fun i hi => ?_⟩
    have hf : listed.toList[i]? = some false := by
      have h1 := hi
      unfold Region.ready at h1
      rw [List.mem_filter, Bool.and_eq_true] at h1
      have hlt : i < listed.size := by have := List.mem_range.1 h1.1; omega
      have h2 := h1.2.1
      have e : listed.getD i true = listed[i] := by simp [hlt]
      rw [e] at h2
      rw [Array.getElem?_toList, Array.getElem?_eq_getElem hlt]
      cases hb : listed[i]
      · rfl
      · rw [hb] at h2; simp at h2
    refine wpOp_mono (fun a' w' hI' => ?_) (hstep listed a w i hs hi hI)
    refine wpAny_inv I hd hstep hend fuel _ a' w' (by simpa using hs) ?_ hI'
    have := cnt_set _ i hf
    rw [Array.toList_setIfInBounds]
    omega
/-- a region that draws its order, by an invariant -/
theorem wp_region_inv (I : Array Bool → Act → World → Prop) {id : Nat} {a : Act} {w : World} (hm : P.follows .mixedOrders = true) (hd : Dag ops = true)
    (h0 : I (Array.replicate ops.size false) a w.drew)
    (hstep : ∀ (listed : Array Bool) (a : Act) (w : World) (i : Nat), listed.size = ops.size → i ∈ Region.ready .any ops listed → I listed a w → wpOp P ops Q i (I (listed.setIfInBounds i true)) a w)
    (hend : ∀ (listed : Array Bool) (a : Act) (w : World), listed.size = ops.size → (∀ i, i < ops.size → listed[i]? = some true) → I listed a w → Q .normal a w) :
    (Code.region id ops true).wp P Q a w := by
  refine wp_region_any hm (wpAny_inv I hd hstep hend _ _ _ _ (by simp) ?_ h0)
  have : ∀ n, cnt (List.replicate n false) = n := by
    intro n
    induction n with
    | zero => rfl
    | succ n ih => rw [List.replicate_succ]; simp [cnt, ih]
  rw [Array.toList_replicate, this]
  exact Nat.le_refl _
theorem wp_region_inv' (I : Act → Array Bool → Act → World → Prop) {id : Nat} {a : Act} {w : World} (hm : P.follows .mixedOrders = true) (hd : Dag ops = true)
    (h0 : I a (Array.replicate ops.size false) a w.drew)
    (hstep : ∀ (listed : Array Bool) (a' : Act) (w : World) (i : Nat), listed.size = ops.size → i ∈ Region.ready .any ops listed → I a listed a' w → wpOp P ops Q i (I a (listed.setIfInBounds i true)) a' w)
    (hend : ∀ (listed : Array Bool) (a' : Act) (w : World), listed.size = ops.size → (∀ i, i < ops.size → listed[i]? = some true) → I a listed a' w → Q .normal a' w) :
    (Code.region id ops true).wp P Q a w := wp_region_inv (I a) hm hd h0 hstep hend
end
theorem Ev.sub' {w0 w : World} {l l' : List (Nat × Nat)} (h : Ev w0 w l) (hs : l'.Sublist l) : Ev w0 w l' := ⟨h.below, fun p hp => h.c p (hs.subset hp), h.nd.sublist hs⟩
theorem Ev.pick13 {w0 w : World} {p0 p1 p2 p3 p4 p5 p6 p7 p8 p9 p10 p11 p12 : Nat × Nat} (h : Ev w0 w [p0, p1, p2, p3, p4, p5, p6, p7, p8, p9, p10, p11, p12]) : Ev w0 w [p9, p8, p7, p0, p1, p4] := by
  have h2 : Ev w0 w ([p0, p1, p4] ++ [p7, p8, p9]) := h.sub' (((((((((((List.nil_sublist _).cons_cons _).cons_cons _).cons_cons _).cons _).cons _).cons_cons _).cons _).cons _).cons_cons _).cons_cons _)
  exact h2.perm (List.perm_append_comm.trans ((List.reverse_perm [p7, p8, p9]).symm.append_right _))
theorem Ev.pick12 {w0 w : World} {p0 p1 p2 p3 p4 p5 p6 p7 p8 p9 p10 p11 : Nat × Nat} (h : Ev w0 w [p0, p1, p2, p3, p4, p5, p6, p7, p8, p9, p10, p11]) : Ev w0 w [p8, p7, p6, p1, p2, p3] := by
  have h2 : Ev w0 w ([p1, p2, p3] ++ [p6, p7, p8]) := h.sub' ((((((((((List.nil_sublist _).cons_cons _).cons_cons _).cons_cons _).cons _).cons _).cons_cons _).cons_cons _).cons_cons _).cons _)
  exact h2.perm (List.perm_append_comm.trans ((List.reverse_perm [p6, p7, p8]).symm.append_right _))
open Go.ChangeShapes Go.WideShapes Go.ChangeAt Go.RowKit in
theorem fvalueB (x : Nat) (w : World) : Calls Try.prog 26 #[.agg #[.float .f64 x]] w fun e w' => e = .returned (.float .f64 x) ∧ Below w.heap.size w w' := by
  refine (fvalue x w).mono ?_
  rintro e w1 ⟨h, rfl⟩
  exact ⟨h, (Below.refl _ _).alloc (Nat.le_refl _) _⟩
theorem eq22 (a b : Nat) (w : World) : (Op.equalIn 9999 22 (.float .f64 a) (.float .f64 b)).run Try.prog w = .ok (FloatKind.f64.format.order a b == some .eq) w := by kernel_rfl
/-- a slot that is to hold a new cell of the value c -/
def Oc (la ls : Bool) (u : Value) (o : List (Nat × Nat)) (c : Nat) : Prop := (la = false → o = []) ∧ (la = true → ∃ b v, u = .pointer (some ⟨b, 0, none⟩) ∧ o = [(b, v)] ∧ (ls = true → v = c)) ∧ (ls = true → la = true)
end Go.Proofs.Ytecdhjhobjagkaa
