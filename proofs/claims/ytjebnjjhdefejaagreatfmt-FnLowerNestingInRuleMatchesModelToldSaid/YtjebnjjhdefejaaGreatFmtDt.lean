/-
  A law for a region that draws its order. No conditions of the program. Conditions: each theorem's own.
-/
import Derived.RegionTactic
import Derived.WalkKit
import Derived.Deep.RegionLaw
namespace Go.Proofs.YtjebnjjhdefejaaGreatFmt
open Go
section
variable {P : Program} {ops : Array Oper} {Q : Exit → Act → World → Prop} {md : Region.Mode}
def cnt : List Bool → Nat
  | [] => 0
  | b :: l => cnt l + if b then 0 else 1
theorem cnt_set : ∀ (l : List Bool) (i : Nat), l[i]? = some false → cnt (l.set i true) + 1 = cnt l
  | [], i, h => by simp at h
  | b :: l, 0, h => by
    simp at h
    subst h
    simp [cnt]
  | b :: l, i + 1, h => by
    simp at h
    have := cnt_set l i h
    simp only [List.set_cons_succ, cnt]
    omega
theorem cnt_zero : ∀ (l : List Bool), cnt l = 0 → ∀ b ∈ l, b = true
  | [], _, b, h => by simp at h
  | c :: l, h, b, hb => by
    have h1 : cnt l = 0 ∧ c = true := by
      simp only [cnt] at h
      cases c
      · simp at h
      · simp at h; exact ⟨h, rfl⟩
    rcases List.mem_cons.1 hb with rfl | hb
    · exact h1.2
    · exact cnt_zero l h1.1 b hb
/-- each operation waits for earlier ones alone -/
def Dag (ops : Array Oper) : Bool := (List.range ops.size).all fun i => ((ops[i]?).map (·.after.all fun e => decide (e.on < i))).getD true
theorem all_listed (hd : Dag ops = true) {listed : Array Bool} (hs : listed.size = ops.size) (h : Region.ready md ops listed = []) : ∀ i, i < ops.size → listed[i]? = some true := by
  intro i
  induction i using Nat.strongRecOn with
  | ind i ih =>
    intro hi
    refine Decidable.byContradiction fun hn => ?_
    have hi' : i < listed.size := by omega
    have hf : listed[i]? = some false := by
      rw [Array.getElem?_eq_getElem hi'] at hn ⊢
      cases hb : listed[i]
      · rfl
      · rw [hb] at hn; simp at hn
    have hm : i ∈ Region.ready md ops listed := by
      unfold Region.ready
      rw [List.mem_filter]
      refine ⟨List.mem_range.2 hi, ?_⟩
      have hget : listed.getD i true = false := by simp [hf]
      rw [hget]
      have hd' := List.all_eq_true.1 hd i (List.mem_range.2 hi)
      rw [Array.getElem?_eq_getElem hi] at hd' ⊢
      simp only [Option.map_some, Option.getD_some, Bool.not_false, Bool.true_and] at hd' ⊢
      rw [Array.all_eq_true] at hd' ⊢
      intro j hj
      have hlt := hd' j hj
      rw [decide_eq_true_iff] at hlt
      have := ih _ hlt (by omega)
      simp [this]
    rw [h] at hm
    cases hm
theorem wpAny_inv (I : Array Bool → Act → World → Prop) (hd : Dag ops = true)
    (hstep : ∀ (listed : Array Bool) (a : Act) (w : World) (i : Nat), listed.size = ops.size → i ∈ Region.ready md ops listed → I listed a w → wpOp P ops Q i (I (listed.setIfInBounds i true)) a w)
    (hend : ∀ (listed : Array Bool) (a : Act) (w : World), listed.size = ops.size → (∀ i, i < ops.size → listed[i]? = some true) → I listed a w → Q .normal a w) :
    ∀ (fuel : Nat) (listed : Array Bool) (a : Act) (w : World), listed.size = ops.size → cnt listed.toList ≤ fuel → I listed a w → wpAny P md ops Q fuel listed a w
  | 0, listed, a, w, hs, hc, hI => by
    have hall : ∀ i, i < ops.size → listed[i]? = some true := fun i hi => by
      have hi' : i < listed.size := by omega
      rw [Array.getElem?_eq_getElem hi']
      have := cnt_zero _ (Nat.le_zero.1 hc) listed[i] (by simp)
      rw [this]
    refine ⟨?_, hend listed a w hs hall hI⟩
    unfold Region.ready
    rw [List.filter_eq_nil_iff]
    intro i hi
    have := hall i (List.mem_range.1 hi)
    simp [this]
  | fuel + 1, listed, a, w, hs, hc, hI => by
    refine ⟨fun h => hend listed a w hs (all_listed hd hs h) hI, fun i hi => ?_⟩
    have hf : listed.toList[i]? = some false := by
      have h1 := hi
      unfold Region.ready at h1
      rw [List.mem_filter, Bool.and_eq_true] at h1
      have hlt : i < listed.size := by have := List.mem_range.1 h1.1; omega
      have h2 := h1.2.1
      have e : listed.getD i true = listed[i] := by simp [hlt]
      rw [e] at h2
      rw [Array.getElem?_toList, Array.getElem?_eq_getElem hlt]
      cases hb : listed[i]
      · rfl
      · rw [hb] at h2; simp at h2
    refine wpOp_mono (fun a' w' hI' => ?_) (hstep listed a w i hs hi hI)
    refine wpAny_inv I hd hstep hend fuel _ a' w' (by simpa using hs) ?_ hI'
    have := cnt_set _ i hf
    rw [Array.toList_setIfInBounds]
    omega
/-- a region that draws its order, by an invariant -/
theorem wp_region_inv (I : Array Bool → Act → World → Prop) {id : Nat} {a : Act} {w : World} (hm : P.follows .mixedOrders = true) (hd : Dag ops = true)
    (h0 : I (Array.replicate ops.size false) a w.drew)
    (hstep : ∀ (listed : Array Bool) (a : Act) (w : World) (i : Nat), listed.size = ops.size → i ∈ Region.ready .any ops listed → I listed a w → wpOp P ops Q i (I (listed.setIfInBounds i true)) a w)
    (hend : ∀ (listed : Array Bool) (a : Act) (w : World), listed.size = ops.size → (∀ i, i < ops.size → listed[i]? = some true) → I listed a w → Q .normal a w) :
    (Code.region id ops true).wp P Q a w := by
  refine wp_region_any hm (wpAny_inv I hd hstep hend _ _ _ _ (by simp) ?_ h0)
  have : ∀ n, cnt (List.replicate n false) = n := by
    intro n
    induction n with
    | zero => rfl
    | succ n ih => rw [List.replicate_succ]; simp [cnt, ih]
  rw [Array.toList_replicate, this]
  exact Nat.le_refl _

def dstOf (ops : Array Oper) (i : Nat) : Option Tmp := (ops[i]?).bind (·.dst)
def edgesOf (ops : Array Oper) (b : Nat) : List Nat := ((ops[b]?).map fun o => (o.after.toList.filter fun e => Region.binds .any e).map (·.on)).getD []
def writer (ops : Array Oper) (k : Nat) : Option Nat := (List.range ops.size).find? fun i => dstOf ops i == some k
theorem writer_some {k i : Nat} (h : writer ops k = some i) : dstOf ops i = some k ∧ i < ops.size := by
  unfold writer at h
  have h1 := List.find?_some h
  have h2 := List.mem_of_find?_eq_some h
  exact ⟨by simpa using h1, List.mem_range.1 h2⟩
inductive Anc (ops : Array Oper) : Nat → Nat → Prop
  | edge {a b : Nat} : a ∈ edgesOf ops b → Anc ops a b
  | step {a c b : Nat} : c ∈ edgesOf ops b → Anc ops a c → Anc ops a b
def ancB (ops : Array Oper) : Nat → Nat → Nat → Bool
  | 0, _, _ => false
  | n + 1, a, b => (edgesOf ops b).any fun c => c == a || ancB ops n a c
theorem anc_of : ∀ {n a b : Nat}, ancB ops n a b = true → Anc ops a b
  | 0, _, _, h => by cases h
  | n + 1, a, b, h => by
    unfold ancB at h
    obtain ⟨c, hc, h2⟩ := List.any_eq_true.1 h
    rw [Bool.or_eq_true] at h2
    rcases h2 with h2 | h2
    · have : c = a := by simpa using h2
      subst this
      exact .edge hc
    · exact .step hc (anc_of h2)
def DC (ops : Array Oper) (L : Nat → Bool) : Prop := ∀ b, L b = true → ∀ c ∈ edgesOf ops b, L c = true
theorem DC.anc {L : Nat → Bool} (h : DC ops L) {a b : Nat} (hab : Anc ops a b) (hb : L b = true) : L a = true := by
  induction hab with
  | edge hc => exact h _ hb _ hc
  | step hc _ ih => exact ih (h _ hb _ hc)
/-- what the slots hold when the operations of L have run -/
structure Slots (ops : Array Oper) (val : Nat → Value) (A0 : Act) (L : Nat → Bool) (a : Act) : Prop where
  df : a.defers = A0.defers
  sz : a.tmps.size = A0.tmps.size
  out : ∀ k, writer ops k = none → a.tmps.getD k undef = A0.tmps.getD k undef
  inn : ∀ k i, writer ops k = some i → a.tmps.getD k undef = if L i then val i else A0.tmps.getD k undef
variable {val : Nat → Value} {A0 : Act} {L : Nat → Bool} {a : Act}
theorem Slots.put (h : Slots ops val A0 L a) (i : Nat) (hd : ∀ d, dstOf ops i = some d → writer ops d = some i ∧ d < A0.tmps.size) : Slots ops val A0 (fun x => x == i || L x) (a.put (dstOf ops i) (val i)) := by
  cases hdst : dstOf ops i with
  | none =>
    refine ⟨h.df, h.sz, h.out, fun k j hj => ?_⟩
    have hne : j ≠ i := by
      rintro rfl
      rw [(writer_some hj).1] at hdst
      cases hdst
    have e : (j == i || L j) = L j := by simp [hne]
    rw [e]
    exact h.inn k j hj
  | some d =>
    obtain ⟨hw, hlt⟩ := hd d hdst
    have hs := h.sz
    have g : ∀ k, (a.put (some d) (val i)).tmps.getD k undef = if k = d then val i else a.tmps.getD k undef := fun k => by
      show (a.tmps.setIfInBounds d (val i)).getD k undef = _
      by_cases e : k = d
      · subst e
        rw [if_pos rfl, Array.getD_eq_getD_getElem?, Array.getElem?_setIfInBounds_self_of_lt (Nat.lt_of_lt_of_eq hlt hs.symm)]
        rfl
      · rw [if_neg e, Array.getD_eq_getD_getElem?, Array.getElem?_setIfInBounds_ne (by omega), ← Array.getD_eq_getD_getElem?]
    refine ⟨h.df, by show (a.tmps.setIfInBounds d (val i)).size = _; simpa using hs, fun k hk => ?_, fun k j hj => ?_⟩
    · rw [g, if_neg (by rintro rfl; rw [hw] at hk; cases hk)]
      exact h.out k hk
    · rw [g]
      by_cases e : k = d
      · subst e
        rw [hw] at hj
        injection hj with hj
        subst hj
        simp
      · have hne : j ≠ i := by
          rintro rfl
          have := (writer_some hj).1
          rw [hdst] at this
          injection this with this
          exact e this.symm
        have e2 : (j == i || L j) = L j := by simp [hne]
        rw [if_neg e, e2]
        exact h.inn k j hj
theorem Slots.same {L' : Nat → Bool} {a' : Act} (h : Slots ops val A0 L a) (h' : Slots ops val A0 L' a') (hL : ∀ i, i < ops.size → L i = L' i) : a = a' := by
  have e : ∀ k, a.tmps.getD k undef = a'.tmps.getD k undef := fun k => by
    cases hk : writer ops k with
    | none => rw [h.out k hk, h'.out k hk]
    | some i => rw [h.inn k i hk, h'.inn k i hk, hL i (writer_some hk).2]
  have ht : a.tmps = a'.tmps := by
    apply Array.ext
    · rw [h.sz, h'.sz]
    · intro k h1 h2
      have := e k
      rw [Array.getD_eq_getD_getElem?, Array.getD_eq_getD_getElem?, Array.getElem?_eq_getElem h1, Array.getElem?_eq_getElem h2] at this
      exact this
  obtain ⟨t, d⟩ := a
  obtain ⟨t', d'⟩ := a'
  have hd : d = d' := h.df.trans h'.df.symm
  subst hd
  cases ht
  rfl
def putAll (ops : Array Oper) (val : Nat → Value) (n : Nat) (A0 : Act) : Act := (List.range n).foldl (fun a i => a.put (dstOf ops i) (val i)) A0
theorem slots_all (hd : ∀ i d, dstOf ops i = some d → writer ops d = some i ∧ d < A0.tmps.size) : ∀ n, Slots ops val A0 (fun x => decide (x < n)) (putAll ops val n A0)
  | 0 => ⟨rfl, rfl, fun _ _ => rfl, fun k i _ => by simp [putAll]⟩
  | n + 1 => by
    have := (slots_all hd n).put n (hd n)
    unfold putAll at *
    rw [List.range_succ, List.foldl_append]
    have e : (fun x => decide (x < n + 1)) = fun x => x == n || decide (x < n) := by
      funext x
      rw [Bool.eq_iff_iff]
      simp
      omega
    rw [e]
    exact this
def cntE (eff : List Nat) (L : Nat → Bool) : Nat := (eff.filter L).length
def okB (ops : Array Oper) (eff : List Nat) (lo hi : Nat → Nat) (n : Nat) : Bool :=
  (List.range ops.size).all fun i =>
    (match dstOf ops i with | some d => writer ops d == some i && decide (d < n) | none => true) && decide (lo i ≤ eff.length) &&
    (List.range eff.length).all fun m => (decide (lo i ≤ m) || ancB ops ops.size (eff.getD m 0) i) && (decide (m < hi i) || (eff.getD m 0 == i || ancB ops ops.size i (eff.getD m 0)))
theorem cnt_lo {eff : List Nat} {L : Nat → Bool} {l : Nat} (hl : l ≤ eff.length) (h : ∀ m, m < l → L (eff.getD m 0) = true) : l ≤ cntE eff L := by
  unfold cntE
  have e : eff = eff.take l ++ eff.drop l := (List.take_append_drop l eff).symm
  rw [e, List.filter_append, List.length_append]
  have : (eff.take l).filter L = eff.take l := by
    rw [List.filter_eq_self]
    intro x hx
    obtain ⟨m, hm, rfl⟩ := List.mem_iff_getElem.1 hx
    have hm' : m < l ∧ m < eff.length := Nat.lt_min.1 (by simpa using hm)
    have := h m hm'.1
    rw [List.getElem_take]
    simpa [List.getD_eq_getElem?_getD, hm'.2] using this
  rw [this]
  simp
  omega
theorem cnt_hi {eff : List Nat} {L : Nat → Bool} {l : Nat} (h : ∀ m, l ≤ m → m < eff.length → L (eff.getD m 0) = false) : cntE eff L ≤ l := by
  unfold cntE
  have e : eff = eff.take l ++ eff.drop l := (List.take_append_drop l eff).symm
  rw [e, List.filter_append, List.length_append]
  have : (eff.drop l).filter L = [] := by
    rw [List.filter_eq_nil_iff]
    intro x hx
    obtain ⟨m, hm, rfl⟩ := List.mem_iff_getElem.1 hx
    have hm' : m < eff.length - l := by simpa using hm
    have := h (l + m) (by omega) (by omega)
    rw [List.getElem_drop]
    have h2 : l + m < eff.length := by omega
    simpa [List.getD_eq_getElem?_getD, h2] using this
  rw [this]
  have h1 := List.length_filter_le L (eff.take l)
  have h2 := List.length_take_le l eff
  simp
  omega
theorem cnt_put {eff : List Nat} (hn : eff.Nodup) {L : Nat → Bool} {i : Nat} (hi : L i = false) : cntE eff (fun x => x == i || L x) = if i ∈ eff then cntE eff L + 1 else cntE eff L := by
  unfold cntE
  induction eff with
  | nil => rfl
  | cons x l ih =>
    rw [List.nodup_cons] at hn
    have ih := ih hn.2
    by_cases e : x = i
    · subst e
      have hx : ¬ x ∈ l := hn.1
      rw [if_neg hx] at ih
      rw [List.filter_cons, List.filter_cons]
      simp [hi, ih]
    · have e2 : (x == i || L x) = L x := by simp [e]
      have e3 : (i ∈ x :: l) ↔ i ∈ l := by simp [Ne.symm e]
      rw [List.filter_cons, List.filter_cons, e2]
      by_cases h : i ∈ l
      · rw [if_pos h] at ih
        rw [if_pos (e3.2 h)]
        cases L x <;> simp [ih]
      · rw [if_neg h] at ih
        rw [if_neg (fun q => h (e3.1 q))]
        cases L x <;> simp [ih]
/-- A REGION WHOSE VALUES DO NOT HANG ON THE ORDER: the operations of eff write the world, one behind the other; each other one may run at any world from lo to hi and reads the same there. -/
theorem wp_region_det (val : Nat → Value) (eff : List Nat) (ws : Nat → World) (lo hi : Nat → Nat) (n : Nat) {id : Nat} {A0 : Act} {w : World} (hm : P.follows .mixedOrders = true) (hdag : Dag ops = true) (hn : A0.tmps.size = n) (hok : okB ops eff lo hi n = true) (hnd : eff.Nodup) (hlt : ∀ e ∈ eff, e < ops.size) (h0 : ws 0 = w.drew)
    (hop : ∀ i o j (a : Act), ops[i]? = some o → lo i ≤ j → j ≤ hi i → (∀ c k, c ∈ edgesOf ops i → dstOf ops c = some k → a.eval (.tmp k) = val c) → (∀ k, writer ops k = none → a.eval (.tmp k) = A0.eval (.tmp k)) →
      ∀ K : Act → World → Prop, K (a.put o.dst (val i)) (ws (if i ∈ eff then j + 1 else j)) → if Region.wanted o (yielded ops a.tmps) = true then Oper.wp P o a (ws j) K Q else K (a.put o.dst undef) (ws j))
    (hend : Q .normal (putAll ops val ops.size A0) (ws eff.length)) : (Code.region id ops true).wp P Q A0 w := by
  subst hn
  have ok : ∀ i, i < ops.size → (∀ d, dstOf ops i = some d → writer ops d = some i ∧ d < A0.tmps.size) ∧ lo i ≤ eff.length ∧ ∀ m, m < eff.length → (m < lo i → Anc ops (eff.getD m 0) i) ∧ (hi i ≤ m → eff.getD m 0 = i ∨ Anc ops i (eff.getD m 0)) := fun i hi' => by
    have h1 := List.all_eq_true.1 hok i (List.mem_range.2 hi')
    rw [Bool.and_eq_true, Bool.and_eq_true] at h1
    refine ⟨fun d hd => ?_, of_decide_eq_true h1.1.2, fun m hm' => ?_⟩
    · have := h1.1.1
      rw [hd] at this
      simp only [Bool.and_eq_true, beq_iff_eq, decide_eq_true_iff] at this
      exact this
    · have h2 := List.all_eq_true.1 h1.2 m (List.mem_range.2 hm')
      rw [Bool.and_eq_true, Bool.or_eq_true, Bool.or_eq_true, Bool.or_eq_true] at h2
      refine ⟨fun hl => ?_, fun hh => ?_⟩
      · rcases h2.1 with q | q
        · have := of_decide_eq_true q; omega
        · exact anc_of q
      · rcases h2.2 with q | q | q
        · have := of_decide_eq_true q; omega
        · left; simpa using q
        · exact Or.inr (anc_of q)
  have dd : ∀ i d, dstOf ops i = some d → writer ops d = some i ∧ d < A0.tmps.size := fun i d hd => by
    have hi' : i < ops.size := by
      unfold dstOf at hd
      cases ho : ops[i]? with
      | none => rw [ho] at hd; cases hd
      | some o => exact (Array.getElem?_eq_some_iff.1 ho).1
    exact (ok i hi').1 d hd
  refine wp_region_inv (fun listed a w' => Slots ops val A0 (fun x => listed.getD x false) a ∧ DC ops (fun x => listed.getD x false) ∧ w' = ws (cntE eff fun x => listed.getD x false)) hm hdag ?_ ?_ ?_
  · have hf : ∀ x, (Array.replicate ops.size false).getD x false = false := fun x => by
      rw [Array.getD_eq_getD_getElem?, Array.getElem?_replicate]
      split <;> rfl
    refine ⟨⟨rfl, rfl, fun _ _ => rfl, fun k i _ => by rw [if_neg (by simp [hf])]⟩, fun b hb => ?_, ?_⟩
    · have hb2 : (Array.replicate ops.size false).getD b false = true := hb
      rw [hf b] at hb2
      cases hb2
    · have : cntE eff (fun x => (Array.replicate ops.size false).getD x false) = 0 := Nat.le_zero.1 (cnt_hi fun m _ _ => hf _)
      rw [this, h0]
  · intro listed a w' i hs hi' hI
    obtain ⟨hS, hD, rfl⟩ := hI
    obtain ⟨hf, o, ho, hdep⟩ := mem_ready.1 hi'
    have hil : i < ops.size := (Array.getElem?_eq_some_iff.1 ho).1
    have hils : i < listed.size := by omega
    have hff : listed.getD i false = false := by
      rw [Array.getD_eq_getD_getElem?, Array.getElem?_eq_getElem hils] at hf ⊢
      exact hf
    obtain ⟨o1, o2, o3⟩ := ok i hil
    have hed : ∀ c ∈ edgesOf ops i, listed.getD c false = true := fun c hc => by
      unfold edgesOf at hc
      rw [ho] at hc
      simp only [Option.map_some, Option.getD_some, List.mem_map, List.mem_filter] at hc
      obtain ⟨e, ⟨he, hb⟩, rfl⟩ := hc
      exact hdep e (by simpa using he) hb
    have hset : (fun x => (listed.setIfInBounds i true).getD x false) = fun x => x == i || listed.getD x false := by
      funext x
      rw [Array.getD_eq_getD_getElem?]
      by_cases e : x = i
      · subst e
        rw [Array.getElem?_setIfInBounds_self_of_lt hils]
        simp
      · rw [Array.getElem?_setIfInBounds_ne (by omega), ← Array.getD_eq_getD_getElem?]
        simp [e]
    have hd1 : dstOf ops i = o.dst := by simp [dstOf, ho]
    refine wpOp_step ho fun K hK => ?_
    refine hop i o (cntE eff fun x => listed.getD x false) a ho ?_ ?_ ?_ ?_ K (hK _ _ ?_)
    · refine cnt_lo o2 fun m hm' => ?_
      have hanc := (o3 m (by omega)).1 hm'
      cases hanc with
      | edge hc => exact hed _ hc
      | step hc h2 => exact hD.anc h2 (hed _ hc)
    · refine cnt_hi fun m h1 h2 => ?_
      rcases (o3 m h2).2 h1 with q | q
      · rw [q]; exact hff
      · cases hx : listed.getD (eff.getD m 0) false with
        | false => rfl
        | true =>
          have := hD.anc q hx
          rw [hff] at this
          cases this
    · intro c k hc hk
      have := hS.inn k c (dd c k hk).1
      rw [if_pos (hed c hc)] at this
      exact this
    · intro k hk
      exact hS.out k hk
    · refine ⟨?_, ?_, ?_⟩
      · rw [hset, ← hd1]
        exact hS.put i o1
      · rw [hset]
        intro b hb c hc
        by_cases e : b = i
        · subst e
          show (c == b || listed.getD c false) = true
          rw [hed c hc]
          simp
        · have hb2 : listed.getD b false = true := by simpa [e] using hb
          have h3 : listed.getD c false = true := hD b hb2 c hc
          show (c == i || listed.getD c false) = true
          rw [h3]
          simp
      · rw [hset, cnt_put hnd hff]
  · intro listed a w' hs hall hI
    obtain ⟨hS, hD, rfl⟩ := hI
    have hL : ∀ i, i < ops.size → listed.getD i false = true := fun i hi' => by
      rw [Array.getD_eq_getD_getElem?, hall i hi']
      rfl
    have e1 : a = putAll ops val ops.size A0 := hS.same (slots_all dd ops.size) fun i hi' => by rw [hL i hi']; simp [hi']
    have e2 : cntE eff (fun x => listed.getD x false) = eff.length := by
      unfold cntE
      congr 1
      rw [List.filter_eq_self]
      exact fun x hx => hL x (hlt x hx)
    rw [e1, e2]
    exact hend
end
section
variable {P : Program} {ops : Array Oper} {Q : Exit → Act → World → Prop}
theorem wp_region_dl (l : List (Option Tmp × Value)) (eff : List Nat) (ws : Nat → World) (lo hi : Nat → Nat) (n : Nat) {id : Nat} {A0 : Act} {w : World} (hm : P.follows .mixedOrders = true) (hdag : Dag ops = true) (hn : A0.tmps.size = n) (hok : okB ops eff lo hi n = true) (hnd : eff.Nodup) (hlt : (eff.all fun e => decide (e < ops.size)) = true) (h0 : ws 0 = w.drew) (hl : (List.range ops.size).map (dstOf ops) = l.map (·.1))
    (hop : ∀ i o j (a : Act), ops[i]? = some o → lo i ≤ j → j ≤ hi i → (∀ c k, (edgesOf ops i).contains c = true → dstOf ops c = some k → a.eval (.tmp k) = (l.getD c (none, undef)).2) → (∀ k, writer ops k = none → a.eval (.tmp k) = A0.eval (.tmp k)) →
      ∀ K : Act → World → Prop, K (a.put o.dst (l.getD i (none, undef)).2) (ws (if eff.contains i = true then j + 1 else j)) → if Region.wanted o (yielded ops a.tmps) = true then Oper.wp P o a (ws j) K Q else K (a.put o.dst undef) (ws j))
    (hend : Q .normal (l.foldl (fun a p => a.put p.1 p.2) A0) (ws eff.length)) : (Code.region id ops true).wp P Q A0 w := by
  refine wp_region_det (fun i => (l.getD i (none, undef)).2) eff ws lo hi n hm hdag hn hok hnd (fun e he => of_decide_eq_true (List.all_eq_true.1 hlt e he)) h0 (fun i o j a ho h1 h2 hd hf K hK => hop i o j a ho h1 h2 (fun c k hc => hd c k (by simpa using hc)) hf K (by
    have e : (if eff.contains i = true then j + 1 else j) = if i ∈ eff then j + 1 else j := by simp
    rw [e]
    exact hK)) ?_
  have hlen : ops.size = l.length := by simpa using congrArg List.length hl
  have e : (List.range ops.size).map (fun i => (dstOf ops i, (l.getD i (none, undef)).2)) = l := by
    apply List.ext_getElem
    · simp [hlen]
    · intro i h1 h2
      have h3 : i < ops.size := by simpa using h1
      have h4 : ((List.range ops.size).map (dstOf ops))[i]'(by simpa using h3) = (l.map (·.1))[i]'(by simpa using h2) := by simp only [hl]
      simp only [List.getElem_map, List.getElem_range] at h4 ⊢
      rw [h4]
      simp [List.getD_eq_getElem?_getD, h2]
  have e2 : putAll ops (fun i => (l.getD i (none, undef)).2) ops.size A0 = l.foldl (fun a p => a.put p.1 p.2) A0 := by
    conv => rhs; rw [← e]
    rw [List.foldl_map]
    rfl
  rw [e2]
  exact hend
end
section
variable {P : Program} {ops : Array Oper} {Q : Exit → Act → World → Prop}
theorem tmp_bool {a : Act} {s : Tmp} {b : Bool} (h : a.eval (.tmp s) = .bool b) : a.tmps[s]? = some (.bool b) := by
  have h2 : a.tmps.getD s undef = .bool b := h
  rw [Array.getD_eq_getD_getElem?] at h2
  cases e : a.tmps[s]? with
  | none => rw [e] at h2; cases h2
  | some v => rw [e] at h2; exact congrArg some h2
def okR (ops : Array Oper) (n : Nat) : Bool :=
  (List.range ops.size).all fun i => (match dstOf ops i with | some d => writer ops d == some i && decide (d < n) | none => true)
/-- A REGION WHOSE VALUES DO NOT HANG ON THE ORDER, over worlds of one kind: each operation yields its value at each world of R and leads to a world of R. -/
theorem wp_region_rel (l : List (Option Tmp × Value)) (R : World → Prop) (n : Nat) {id : Nat} {A0 : Act} {w : World} (hm : P.follows .mixedOrders = true) (hdag : Dag ops = true) (hn : A0.tmps.size = n) (hok : okR ops n = true) (h0 : R w.drew) (hl : (List.range ops.size).map (dstOf ops) = l.map (·.1))
    (hop : ∀ i o (a : Act) (w : World), ops[i]? = some o → R w → (∀ c k, (edgesOf ops i).contains c = true → dstOf ops c = some k → a.eval (.tmp k) = (l.getD c (none, undef)).2) → (∀ k, writer ops k = none → a.eval (.tmp k) = A0.eval (.tmp k)) →
      ∀ K : Act → World → Prop, (∀ w', R w' → K (a.put o.dst (l.getD i (none, undef)).2) w') → if Region.wanted o (yielded ops a.tmps) = true then Oper.wp P o a w K Q else K (a.put o.dst undef) w)
    (hend : ∀ w, R w → Q .normal (l.foldl (fun a p => a.put p.1 p.2) A0) w) : (Code.region id ops true).wp P Q A0 w := by
  subst hn
  have ok : ∀ i, i < ops.size → (∀ d, dstOf ops i = some d → writer ops d = some i ∧ d < A0.tmps.size) := fun i hi' d hd => by
    have h1 := List.all_eq_true.1 hok i (List.mem_range.2 hi')
    rw [hd] at h1
    simp only [Bool.and_eq_true, beq_iff_eq, decide_eq_true_iff] at h1
    exact h1
  have dd : ∀ i d, dstOf ops i = some d → writer ops d = some i ∧ d < A0.tmps.size := fun i d hd => by
    have hi' : i < ops.size := by
      unfold dstOf at hd
      cases ho : ops[i]? with
      | none => rw [ho] at hd; cases hd
      | some o => exact (Array.getElem?_eq_some_iff.1 ho).1
    exact ok i hi' d hd
  let val : Nat → Value := fun i => (l.getD i (none, undef)).2
  have hlen : ops.size = l.length := by simpa using congrArg List.length hl
  have e2 : putAll ops val ops.size A0 = l.foldl (fun a p => a.put p.1 p.2) A0 := by
    have e : (List.range ops.size).map (fun i => (dstOf ops i, (l.getD i (none, undef)).2)) = l := by
      apply List.ext_getElem
      · simp [hlen]
      · intro i h1 h2
        have h3 : i < ops.size := by simpa using h1
        have h4 : ((List.range ops.size).map (dstOf ops))[i]'(by simpa using h3) = (l.map (·.1))[i]'(by simpa using h2) := by simp only [hl]
        simp only [List.getElem_map, List.getElem_range] at h4 ⊢
        rw [h4]
        simp [List.getD_eq_getElem?_getD, h2]
    conv => rhs; rw [← e]
    rw [List.foldl_map]
    rfl
  refine wp_region_inv (fun listed a w' => Slots ops val A0 (fun x => listed.getD x false) a ∧ DC ops (fun x => listed.getD x false) ∧ R w') hm hdag ?_ ?_ ?_
  · have hf : ∀ x, (Array.replicate ops.size false).getD x false = false := fun x => by
      rw [Array.getD_eq_getD_getElem?, Array.getElem?_replicate]
      split <;> rfl
    refine ⟨⟨rfl, rfl, fun _ _ => rfl, fun k i _ => by rw [if_neg (by simp [hf])]⟩, fun b hb => ?_, h0⟩
    have hb2 : (Array.replicate ops.size false).getD b false = true := hb
    rw [hf b] at hb2
    cases hb2
  · intro listed a w' i hs hi' hI
    obtain ⟨hS, hD, hR⟩ := hI
    obtain ⟨hf, o, ho, hdep⟩ := mem_ready.1 hi'
    have hil : i < ops.size := (Array.getElem?_eq_some_iff.1 ho).1
    have hils : i < listed.size := by omega
    have o1 := ok i hil
    have hed : ∀ c ∈ edgesOf ops i, listed.getD c false = true := fun c hc => by
      unfold edgesOf at hc
      rw [ho] at hc
      simp only [Option.map_some, Option.getD_some, List.mem_map, List.mem_filter] at hc
      obtain ⟨e, ⟨he, hb⟩, rfl⟩ := hc
      exact hdep e (by simpa using he) hb
    have hset : (fun x => (listed.setIfInBounds i true).getD x false) = fun x => x == i || listed.getD x false := by
      funext x
      rw [Array.getD_eq_getD_getElem?]
      by_cases e : x = i
      · subst e
        rw [Array.getElem?_setIfInBounds_self_of_lt hils]
        simp
      · rw [Array.getElem?_setIfInBounds_ne (by omega), ← Array.getD_eq_getD_getElem?]
        simp [e]
    have hd1 : dstOf ops i = o.dst := by simp [dstOf, ho]
    refine wpOp_step ho fun K hK => ?_
    refine hop i o a w' ho hR ?_ ?_ K (fun w2 hR2 => hK _ _ ?_)
    · intro c k hc hk
      have hc' : c ∈ edgesOf ops i := by simpa using hc
      have := hS.inn k c (dd c k hk).1
      rw [if_pos (hed c hc')] at this
      exact this
    · intro k hk
      exact hS.out k hk
    · refine ⟨?_, ?_, hR2⟩
      · rw [hset, ← hd1]
        exact hS.put i o1
      · rw [hset]
        intro b hb c hc
        by_cases e : b = i
        · subst e
          show (c == b || listed.getD c false) = true
          rw [hed c hc]
          simp
        · have hb2 : listed.getD b false = true := by simpa [e] using hb
          have h3 : listed.getD c false = true := hD b hb2 c hc
          show (c == i || listed.getD c false) = true
          rw [h3]
          simp
  · intro listed a w' hs hall hI
    obtain ⟨hS, hD, hR⟩ := hI
    have hL : ∀ i, i < ops.size → listed.getD i false = true := fun i hi' => by
      rw [Array.getD_eq_getD_getElem?, hall i hi']
      rfl
    have e1 : a = putAll ops val ops.size A0 := hS.same (slots_all dd ops.size) fun i hi' => by rw [hL i hi']; simp [hi']
    rw [e1, e2]
    exact hend w' hR
end
end Go.Proofs.YtjebnjjhdefejaaGreatFmt
