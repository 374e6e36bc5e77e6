/-
  A law for a region that draws its order and holds one call. No conditions of the program. Conditions: each theorem's own.
-/
import Derived.Test.YtjebnjjhdefejaaGreatFmtDt
namespace Go.Proofs.YtjebnjjhdefejaaGreatFmt
open Go
section
variable {P : Program} {ops : Array Oper} {Q : Exit → Act → World → Prop}
theorem Slots.turn {val val' : Nat → Value} {A0 : Act} {L : Nat → Bool} {a : Act} (h : Slots ops val A0 L a) (e : ∀ i, i < ops.size → L i = true → val i = val' i) : Slots ops val' A0 L a :=
  ⟨h.df, h.sz, h.out, fun k i hk => by
    have := h.inn k i hk
    by_cases hL : L i = true
    · rw [if_pos hL] at this ⊢
      rw [this, e i (writer_some hk).2 hL]
    · rw [if_neg hL] at this ⊢
      exact this⟩
/-- A REGION THAT DRAWS ITS ORDER AND HOLDS ONE CALL: what the call leaves is a parameter; what runs ahead of it does not hang on the parameter. -/
theorem wp_region_dc {π : Type} (R : π → Prop) (p0 : π) (l : π → List (Option Tmp × Value)) (early eff : List Nat) (ws : π → Nat → World) (lo hi : Nat → Nat) (n c kc : Nat) {id : Nat} {A0 : Act} {w : World} (hm : P.follows .mixedOrders = true) (hdag : Dag ops = true) (hn : A0.tmps.size = n) (hok : okB ops eff lo hi n = true) (hnd : eff.Nodup) (hlt : (eff.all fun e => decide (e < ops.size)) = true)
    (hcc : (decide (kc < eff.length) && decide (c < ops.size) && (eff.getD kc 0 == c) && (lo c == kc) && (hi c == kc)) = true)
    (hear : ((List.range ops.size).all fun i => early.contains i || i == c || ancB ops ops.size c i) = true)
    (hval : ∀ p p', early.map (fun i => ((l p).getD i (none, undef)).2) = early.map (fun i => ((l p').getD i (none, undef)).2))
    (hws : ∀ p p' j, j ≤ kc → ws p j = ws p' j) (h0 : ws p0 0 = w.drew) (hl : ∀ p, (List.range ops.size).map (dstOf ops) = (l p).map (·.1))
    (hop : ∀ p i o j (a : Act), i ≠ c → ops[i]? = some o → lo i ≤ j → j ≤ hi i → (kc < j → R p) → (∀ c k, (edgesOf ops i).contains c = true → dstOf ops c = some k → a.eval (.tmp k) = ((l p).getD c (none, undef)).2) → (∀ k, writer ops k = none → a.eval (.tmp k) = A0.eval (.tmp k)) →
      ∀ K : Act → World → Prop, K (a.put o.dst ((l p).getD i (none, undef)).2) (ws p (if eff.contains i = true then j + 1 else j)) → if Region.wanted o (yielded ops a.tmps) = true then Oper.wp P o a (ws p j) K Q else K (a.put o.dst undef) (ws p j))
    (hcall : ∀ o (a : Act), ops[c]? = some o → (∀ d k, (edgesOf ops c).contains d = true → dstOf ops d = some k → a.eval (.tmp k) = ((l p0).getD d (none, undef)).2) → (∀ k, writer ops k = none → a.eval (.tmp k) = A0.eval (.tmp k)) →
      ∀ K : Act → World → Prop, (∀ p, R p → K (a.put o.dst ((l p).getD c (none, undef)).2) (ws p (kc + 1))) → if Region.wanted o (yielded ops a.tmps) = true then Oper.wp P o a (ws p0 kc) K Q else K (a.put o.dst undef) (ws p0 kc))
    (hend : ∀ p, R p → Q .normal ((l p).foldl (fun a q => a.put q.1 q.2) A0) (ws p eff.length)) : (Code.region id ops true).wp P Q A0 w := by
  subst hn
  let val : π → Nat → Value := fun p i => ((l p).getD i (none, undef)).2
  rw [Bool.and_eq_true, Bool.and_eq_true, Bool.and_eq_true, Bool.and_eq_true, decide_eq_true_iff, decide_eq_true_iff, beq_iff_eq, beq_iff_eq, beq_iff_eq] at hcc
  obtain ⟨⟨⟨⟨hkc, hcs⟩, hec⟩, hloc⟩, hhic⟩ := hcc
  have hlt' : ∀ e ∈ eff, e < ops.size := fun e he => of_decide_eq_true (List.all_eq_true.1 hlt e he)
  have hev : ∀ p p' i, i < ops.size → i ≠ c → ¬ Anc ops c i → val p i = val p' i := fun p p' i hi' h1 h2 => by
    have h3 := List.all_eq_true.1 hear i (List.mem_range.2 hi')
    rw [Bool.or_eq_true, Bool.or_eq_true] at h3
    rcases h3 with (h3 | h3) | h3
    · have h4 := hval p p'
      rw [List.map_inj_left] at h4
      exact h4 i (by simpa using h3)
    · exact absurd (by simpa using h3) h1
    · exact absurd (anc_of h3) h2
  have ok : ∀ i, i < ops.size → (∀ d, dstOf ops i = some d → writer ops d = some i ∧ d < A0.tmps.size) ∧ lo i ≤ eff.length ∧ ∀ m, m < eff.length → (m < lo i → Anc ops (eff.getD m 0) i) ∧ (hi i ≤ m → eff.getD m 0 = i ∨ Anc ops i (eff.getD m 0)) := fun i hi' => by
    have h1 := List.all_eq_true.1 hok i (List.mem_range.2 hi')
    rw [Bool.and_eq_true, Bool.and_eq_true] at h1
    refine ⟨fun d hd => ?_, of_decide_eq_true h1.1.2, fun m hm' => ?_⟩
    · have := h1.1.1
      rw [hd] at this
      simp only [Bool.and_eq_true, beq_iff_eq, decide_eq_true_iff] at this
      exact this
    · have h2 := List.all_eq_true.1 h1.2 m (List.mem_range.2 hm')
      rw [Bool.and_eq_true, Bool.or_eq_true, Bool.or_eq_true, Bool.or_eq_true] at h2
      refine ⟨fun hl => ?_, fun hh => ?_⟩
      · rcases h2.1 with q | q
        · have := of_decide_eq_true q; omega
        · exact anc_of q
      · rcases h2.2 with q | q | q
        · have := of_decide_eq_true q; omega
        · left; simpa using q
        · exact Or.inr (anc_of q)
  have dd : ∀ i d, dstOf ops i = some d → writer ops d = some i ∧ d < A0.tmps.size := fun i d hd => by
    have hi' : i < ops.size := by
      unfold dstOf at hd
      cases ho : ops[i]? with
      | none => rw [ho] at hd; cases hd
      | some o => exact (Array.getElem?_eq_some_iff.1 ho).1
    exact (ok i hi').1 d hd
  refine wp_region_inv (fun listed a w' => ∃ p, (listed.getD c false = true → R p) ∧ Slots ops (val p) A0 (fun x => listed.getD x false) a ∧ DC ops (fun x => listed.getD x false) ∧ w' = ws p (cntE eff fun x => listed.getD x false)) hm hdag ?_ ?_ ?_
  · have hf : ∀ x, (Array.replicate ops.size false).getD x false = false := fun x => by
      rw [Array.getD_eq_getD_getElem?, Array.getElem?_replicate]
      split <;> rfl
    refine ⟨p0, fun h => (by rw [hf] at h; cases h), ⟨rfl, rfl, fun _ _ => rfl, fun k i _ => by rw [if_neg (by simp [hf])]⟩, fun b hb => ?_, ?_⟩
    · have hb2 : (Array.replicate ops.size false).getD b false = true := hb
      rw [hf b] at hb2
      cases hb2
    · have : cntE eff (fun x => (Array.replicate ops.size false).getD x false) = 0 := Nat.le_zero.1 (cnt_hi fun m _ _ => hf _)
      rw [this, h0]
  · intro listed a w' i hs hi' hI
    obtain ⟨p, hRp, hS, hD, rfl⟩ := hI
    obtain ⟨hf, o, ho, hdep⟩ := mem_ready.1 hi'
    have hil : i < ops.size := (Array.getElem?_eq_some_iff.1 ho).1
    have hils : i < listed.size := by omega
    have hff : listed.getD i false = false := by
      rw [Array.getD_eq_getD_getElem?, Array.getElem?_eq_getElem hils] at hf ⊢
      exact hf
    obtain ⟨o1, o2, o3⟩ := ok i hil
    have hed : ∀ c ∈ edgesOf ops i, listed.getD c false = true := fun c hc => by
      unfold edgesOf at hc
      rw [ho] at hc
      simp only [Option.map_some, Option.getD_some, List.mem_map, List.mem_filter] at hc
      obtain ⟨e, ⟨he, hb⟩, rfl⟩ := hc
      exact hdep e (by simpa using he) hb
    have hset : (fun x => (listed.setIfInBounds i true).getD x false) = fun x => x == i || listed.getD x false := by
      funext x
      rw [Array.getD_eq_getD_getElem?]
      by_cases e : x = i
      · subst e
        rw [Array.getElem?_setIfInBounds_self_of_lt hils]
        simp
      · rw [Array.getElem?_setIfInBounds_ne (by omega), ← Array.getD_eq_getD_getElem?]
        simp [e]
    have hsc : (listed.setIfInBounds i true).getD c false = (c == i || listed.getD c false) := congrFun hset c
    have hd1 : dstOf ops i = o.dst := by simp [dstOf, ho]
    have hlo : lo i ≤ cntE eff fun x => listed.getD x false := cnt_lo o2 fun m hm' => by
      have hanc := (o3 m (by omega)).1 hm'
      cases hanc with
      | edge hc => exact hed _ hc
      | step hc h2 => exact hD.anc h2 (hed _ hc)
    have hhi : (cntE eff fun x => listed.getD x false) ≤ hi i := cnt_hi fun m h1 h2 => by
      rcases (o3 m h2).2 h1 with q | q
      · rw [q]; exact hff
      · cases hx : listed.getD (eff.getD m 0) false with
        | false => rfl
        | true =>
          have := hD.anc q hx
          rw [hff] at this
          cases this
    have hDC : DC ops (fun x => x == i || listed.getD x false) := fun b hb c hc => by
      by_cases e : b = i
      · subst e
        show (c == b || listed.getD c false) = true
        rw [hed c hc]
        simp
      · have hb2 : listed.getD b false = true := by simpa [e] using hb
        have h3 : listed.getD c false = true := hD b hb2 c hc
        show (c == i || listed.getD c false) = true
        rw [h3]
        simp
    refine wpOp_step ho fun K hK => ?_
    by_cases hic : i = c
    · subst hic
      have hj : (cntE eff fun x => listed.getD x false) = kc := by omega
      have hun : ∀ p', ∀ x, x < ops.size → listed.getD x false = true → val p x = val p' x := fun p' x hx hxl => hev p p' x hx (by rintro rfl; rw [hff] at hxl; cases hxl) (fun ha => by
        have h5 := hD.anc ha hxl
        have h6 : listed.getD i false = true := h5
        rw [hff] at h6
        cases h6)
      rw [hj, hws p p0 kc (Nat.le_refl _)]
      refine hcall o a ho ?_ ?_ K fun p' hR' => hK _ _ ⟨p', fun _ => hR', ?_, ?_, ?_⟩
      · intro d k hd hk
        have hd' : d ∈ edgesOf ops i := by simpa using hd
        have := hS.inn k d (dd d k hk).1
        rw [if_pos (hed d hd')] at this
        exact this.trans (hun p0 d (writer_some (dd d k hk).1).2 (hed d hd'))
      · intro k hk
        exact hS.out k hk
      · rw [hset, ← hd1]
        exact (hS.turn (hun p')).put i o1
      · rw [hset]
        exact hDC
      · rw [hset, cnt_put hnd hff, if_pos (by
          rw [← hec]
          rw [List.getD_eq_getElem?_getD, List.getElem?_eq_getElem hkc]
          exact List.getElem_mem _), hj]
    · refine hop p i o (cntE eff fun x => listed.getD x false) a hic ho hlo hhi ?_ ?_ ?_ K (hK _ _ ⟨p, ?_, ?_, ?_, ?_⟩)
      · intro hgt
        cases hx : listed.getD c false with
        | true => exact hRp hx
        | false =>
          exfalso
          have : (cntE eff fun x => listed.getD x false) ≤ kc := cnt_hi fun m h1 h2 => by
            rcases ((ok c hcs).2.2 m h2).2 (by omega) with q | q
            · rw [q]; exact hx
            · cases hy : listed.getD (eff.getD m 0) false with
              | false => rfl
              | true =>
                have h5 := hD.anc q hy
                have h6 : listed.getD c false = true := h5
                rw [hx] at h6
                cases h6
          omega
      · intro d k hd hk
        have hd' : d ∈ edgesOf ops i := by simpa using hd
        have := hS.inn k d (dd d k hk).1
        rw [if_pos (hed d hd')] at this
        exact this
      · intro k hk
        exact hS.out k hk
      · intro h
        rw [hsc] at h
        exact hRp (by simpa [Ne.symm hic] using h)
      · rw [hset, ← hd1]
        exact hS.put i o1
      · rw [hset]
        exact hDC
      · rw [hset, cnt_put hnd hff]
        congr 1
        by_cases e : i ∈ eff <;> simp [e]
  · intro listed a w' hs hall hI
    obtain ⟨p, hRp, hS, hD, rfl⟩ := hI
    have hL : ∀ i, i < ops.size → listed.getD i false = true := fun i hi' => by
      rw [Array.getD_eq_getD_getElem?, hall i hi']
      rfl
    have e1 : a = putAll ops (val p) ops.size A0 := hS.same (slots_all dd ops.size) fun i hi' => by rw [hL i hi']; simp [hi']
    have e2 : cntE eff (fun x => listed.getD x false) = eff.length := by
      unfold cntE
      congr 1
      rw [List.filter_eq_self]
      exact fun x hx => hL x (hlt' x hx)
    have hlen : ops.size = (l p).length := by simpa using congrArg List.length (hl p)
    have e : (List.range ops.size).map (fun i => (dstOf ops i, ((l p).getD i (none, undef)).2)) = l p := by
      apply List.ext_getElem
      · simp [hlen]
      · intro i h1 h2
        have h3 : i < ops.size := by simpa using h1
        have h4 : ((List.range ops.size).map (dstOf ops))[i]'(by simpa using h3) = ((l p).map (·.1))[i]'(by simpa using h2) := by simp only [hl p]
        simp only [List.getElem_map, List.getElem_range] at h4 ⊢
        rw [h4]
        simp [List.getD_eq_getElem?_getD, h2]
    have e3 : putAll ops (fun i => ((l p).getD i (none, undef)).2) ops.size A0 = (l p).foldl (fun a q => a.put q.1 q.2) A0 := by
      conv => rhs; rw [← e]
      rw [List.foldl_map]
      rfl
    rw [e1, e2]
    show Q .normal (putAll ops (fun i => ((l p).getD i (none, undef)).2) ops.size A0) _
    rw [e3]
    exact hend p (hRp (hL c hcs))
end
end Go.Proofs.YtjebnjjhdefejaaGreatFmt
