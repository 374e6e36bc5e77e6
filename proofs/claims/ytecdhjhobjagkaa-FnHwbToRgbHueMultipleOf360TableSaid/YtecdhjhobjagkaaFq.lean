/-
  The contracts of hwb_to_rgb and its export. Condition: the operations have answers.
-/
import Derived.Test.YtecdhjhobjagkaaFp
import Derived.Test.YtecdhjhobjagkaaFt
namespace Go.Proofs.Ytecdhjhobjagkaa
open Go.ChangeShapes Go.WideShapes Go.ChangeAt Go.RowKit
attribute [local go_sem] run_store_float unary_neg_float

set_option maxRecDepth 20000 in
set_option maxHeartbeats 16000000 in
theorem hwb27A (h0 wd bk wq kq sq gr : Nat) (w : World) (k1 : floatBits .quo .f64 wd 4636737291354636288 = some wq) (k2 : floatBits .quo .f64 bk 4636737291354636288 = some kq) (k3 : floatBits .add .f64 wq kq = some sq)
    (hc : (FloatKind.f64.format.order sq 4607182418800017408 == some .gt || FloatKind.f64.format.order sq 4607182418800017408 == some .eq) = true) (k4 : floatBits .quo .f64 wq sq = some gr) :
    Calls Try.prog 27 #[.agg #[.float .f64 h0], .agg #[.float .f64 wd], .agg #[.float .f64 bk]] w fun e w' => e = .returned (.tuple #[.agg #[.float .f64 gr], .agg #[.float .f64 gr], .agg #[.float .f64 gr]]) ∧ Below w.heap.size w w' := by
  have K1 := Lib.hid (fun w => fdivc wd _ wq w k1)
  have K2 := Lib.hid (fun w => fdivc bk _ kq w k2)
  have K3 := Lib.hid (fun w => faddb wq kq sq w k3)
  have K4 := Lib.hid (fun w => fdivb wq sq gr w k4)
  clear k1 k2 k3 k4
  have hsz : ∀ (w : World) o, (w.alloc o).heap.size = w.heap.size + 1 := fun w o => by simp
  go_enter Try.func27, Try.ntmps27
  go_upto_region 1 with fail
  have E1 := ((((((Ev.start w).new h0 56).new wd 56).new bk 56).new 0 56).new 0 56).new 0 56
  simp only [hsz] at E1
  generalize hA : w.heap.size + 1 = N1 at *
  generalize hB : N1 + 1 = N2 at *
  generalize hC : N2 + 1 = N3 at *
  generalize hD : N3 + 1 = N4 at *
  generalize hE : N4 + 1 = N5 at *
  clear hA hB hC hD hE
  obtain ⟨N0, hN0⟩ : ∃ n, n = w.heap.size := ⟨_, rfl⟩
  rw [← hN0] at E1
  rw [← hN0]
  clear hN0
  have E2 : Ev w _ [(N1, wd), (N2, bk), (N0, h0), (N3, 0), (N4, 0), (N5, 0)] := (E1.perm (List.reverse_perm _).symm).s12.s23
  clear E1
  generalize (((((w.alloc (.cells #[.float .f64 h0] 56)).alloc (.cells #[.float .f64 wd] 56)).alloc (.cells #[.float .f64 bk] 56)).alloc (.cells #[.float .f64 0] 56)).alloc (.cells #[.float .f64 0] 56)).alloc (.cells #[.float .f64 0] 56) = w1 at *
  have q0 := E2.cell (b := N1) (v := wd) (by simp)
  go_wp2_with fail
  refine (K1.out _).mono ?_
  rintro e w2 ⟨rfl, hb⟩
  replace E2 := E2.call hb
  clear hb q0
  have q0 := E2.cell (b := N1) (v := wd) (by simp)
  have z0 := E2.frz (b := N1) (v := wd) (by simp)
  go_upto_region 2 with fail
  have E3 : Ev w _ [(N2, bk), (N1, wq), (N0, h0), (N3, 0), (N4, 0), (N5, 0)] := (E2.set wq).s12
  clear E2 q0 z0
  generalize w2.setCell ⟨N1, 0, none⟩ (.float .f64 wq) = w3 at *
  have q0 := E3.cell (b := N2) (v := bk) (by simp)
  go_wp2_with fail
  refine (K2.out _).mono ?_
  rintro e w4 ⟨rfl, hb⟩
  replace E3 := E3.call hb
  clear hb q0
  have q0 := E3.cell (b := N2) (v := bk) (by simp)
  have z0 := E3.frz (b := N2) (v := bk) (by simp)
  go_upto_region 3 with fail
  have E4 := E3.set kq
  clear E3 q0 z0
  generalize w4.setCell ⟨N2, 0, none⟩ (.float .f64 kq) = w5 at *
  have q1 := E4.cell (b := N1) (v := wq) (by simp)
  have q2 := E4.cell (b := N2) (v := kq) (by simp)
  go_wp2_with fail
  refine (K3.out _).mono ?_
  rintro e w6 ⟨rfl, hb⟩
  replace E4 := E4.call hb
  clear hb q1 q2
  go_upto_if 22 with (go_at_call 26; refine (fvalue _ _).mono ?_; rintro e w5 ⟨rfl, rfl⟩)
  replace E4 := E4.grow (.cells #[.float .f64 sq] 56)
  generalize w6.alloc (.cells #[.float .f64 sq] 56) = w7 at *
  go_upto_region 4 with fail
  obtain ⟨L, hL⟩ : ∃ L, L = [(N2, kq), (N1, wq), (N0, h0), (N3, 0), (N4, 0), (N5, 0)] := ⟨_, rfl⟩
  have m1 : (N1, wq) ∈ L := by rw [hL]; simp
  have m2 : (N2, kq) ∈ L := by rw [hL]; simp
  rw [← hL] at E4
  refine wp_region_invB' (fun A0 listed act_ w' => ∃ l0 l1 l2 l3 l4 l5 l6 : Bool, ∃ u9 u23 u24 u25 u26 u27 : Value, ∃ o9 : List (Nat × Nat), listed = #[l0, l1, l2, l3, l4, l5, l6] ∧ act_ = ((((((A0.put (some 9) u9).put (some 23) u23).put (some 24) u24).put (some 25) u25).put (some 26) u26).put (some 27) u27) ∧ Ev w w' (o9 ++ L) ∧ Oc l5 l6 u9 o9 gr ∧ (l0 = true → u23 = .agg #[.float .f64 wq]) ∧ (l1 = true → u24 = .agg #[.float .f64 wq]) ∧ (l2 = true → u25 = .agg #[.float .f64 kq]) ∧ (l3 = true → u26 = .agg #[.float .f64 sq]) ∧ (l4 = true → u27 = .agg #[.float .f64 gr])) (by kernel_rfl) (by kernel_rfl) ?h0_6 ?hstep_6 ?hend_6
  case h0_6 =>
    simp only [Act.put, List.setIfInBounds_toArray, List.set_cons_zero, List.set_cons_succ]
    refine ⟨false, false, false, false, false, false, false, _, _, _, _, _, _, [], rfl, rfl, E4.drew, ?_⟩
    simp [Oc]
  case hend_6 =>
    intro listed act_ w' hs hall hI
    simp only [Act.put, List.setIfInBounds_toArray, List.set_cons_zero, List.set_cons_succ] at hI
    obtain ⟨l0, l1, l2, l3, l4, l5, l6, u9, u23, u24, u25, u26, u27, o9, rfl, rfl, EE, O9, h23, h24, h25, h26, h27⟩ := hI
    have t0 := hall 0 (by simp)
    have t1 := hall 1 (by simp)
    have t2 := hall 2 (by simp)
    have t3 := hall 3 (by simp)
    have t4 := hall 4 (by simp)
    have t5 := hall 5 (by simp)
    have t6 := hall 6 (by simp)
    simp at t0 t1 t2 t3 t4 t5 t6
    obtain ⟨b9, v9, rfl, rfl, e9⟩ := O9.2.1 t5
    obtain rfl := (e9 t6).symm
    obtain rfl := h23 t0
    obtain rfl := h24 t1
    obtain rfl := h25 t2
    obtain rfl := h26 t3
    obtain rfl := h27 t4
    clear hall
    go_upto_region 5 with fail
    rw [hL] at EE
    have E5 : Ev w _ [(N3, 0), (N4, 0), (N5, 0), (b9, gr)] := (EE.sub' ((((((List.Sublist.refl [(N3, 0), (N4, 0), (N5, 0)]).cons _).cons _).cons _).cons_cons (b9, gr)))).perm (by exact (List.perm_append_comm (l₁ := [(b9, gr)]) (l₂ := [(N3, 0), (N4, 0), (N5, 0)])))
    clear EE m1 m2 hL L E4
    obtain ⟨L, hL⟩ : ∃ L, L = [(b9, gr)] := ⟨_, rfl⟩
    have m9 : (b9, gr) ∈ L := by rw [hL]; simp
    rw [← hL] at E5
    clear hL
    refine wp_region_invB' (fun A0 listed act_ w' => ∃ l0 l1 l2 l3 l4 l5 : Bool, ∃ u28 u29 u30 : Value, listed = #[l0, l1, l2, l3, l4, l5] ∧ act_ = (((A0.put (some 28) u28).put (some 29) u29).put (some 30) u30) ∧ Ev w w' ((N3, cond l3 gr 0) :: ((N4, cond l4 gr 0) :: ((N5, cond l5 gr 0) :: L))) ∧ (l0 = true → u28 = .agg #[.float .f64 gr]) ∧ (l1 = true → u29 = .agg #[.float .f64 gr]) ∧ (l2 = true → u30 = .agg #[.float .f64 gr])) (by kernel_rfl) (by kernel_rfl) ?h0_5 ?hstep_5 ?hend_5
    case h0_5 =>
      simp only [Act.put, List.setIfInBounds_toArray, List.set_cons_zero, List.set_cons_succ]
      refine ⟨false, false, false, false, false, false, _, _, _, rfl, rfl, E5.drew, ?_⟩
      simp
    case hend_5 =>
      intro listed act_ w' hs hall hI
      simp only [Act.put, List.setIfInBounds_toArray, List.set_cons_zero, List.set_cons_succ] at hI
      obtain ⟨l0, l1, l2, l3, l4, l5, u28, u29, u30, rfl, rfl, EE, h28, h29, h30⟩ := hI
      have t0 := hall 0 (by simp)
      have t1 := hall 1 (by simp)
      have t2 := hall 2 (by simp)
      have t3 := hall 3 (by simp)
      have t4 := hall 4 (by simp)
      have t5 := hall 5 (by simp)
      simp at t0 t1 t2 t3 t4 t5
      obtain rfl := h28 t0
      obtain rfl := h29 t1
      obtain rfl := h30 t2
      obtain rfl := t3
      obtain rfl := t4
      obtain rfl := t5
      clear hall
      go_wp2_with fail
      have r6 := EE.cell (b := N3) (v := gr) (by simp)
      have r7 := EE.cell (b := N4) (v := gr) (by simp)
      have r8 := EE.cell (b := N5) (v := gr) (by simp)
      exact bodyPost_ret (v := .tuple #[.agg #[.float .f64 gr], .agg #[.float .f64 gr], .agg #[.float .f64 gr]]) (by simp [results, Try.results27, go_sem, r6, r7, r8]) rfl ⟨rfl, EE.below⟩
    case hstep_5 =>
      intro listed act_ w' i hs hi hI
      simp only [Act.put, List.setIfInBounds_toArray, List.set_cons_zero, List.set_cons_succ] at hI ⊢
      obtain ⟨l0, l1, l2, l3, l4, l5, u28, u29, u30, rfl, rfl, EE, h28, h29, h30⟩ := hI
      obtain ⟨hf, o, ho, hdep⟩ := mem_ready.1 hi
      have hin : i = 0 ∨ i = 1 ∨ i = 2 ∨ i = 3 ∨ i = 4 ∨ i = 5 := by
        rcases Nat.lt_or_ge i 6 with h | h
        · omega
        · rw [Array.getElem?_eq_none h] at ho
          cases ho
      have EH := Lib.hid EE
      clear EE  hi hs
      rcases hin with rfl | rfl | rfl | rfl | rfl | rfl
      all_goals
        have ho2 := ho
        simp only [List.getElem?_toArray, List.getElem?_cons_zero, List.getElem?_cons_succ, Option.some.injEq] at ho2
        subst ho2
        simp [Region.binds] at hdep hf
        subst hf
        refine wpOp_step ho (fun K hK => ?_)
        replace hK := Lib.hid hK
        clear ho
      · have hq_ := EH.out.cell (b := b9) (v := gr) (by simp [m9])
        go_simp
        refine hK.out _ _ ?_
        exact ⟨_, _, _, _, _, _, _, _, _, rfl, rfl, EH.out, by first | exact h28 | exact fun _ => rfl | (intro _; simp [hdep]), by first | exact h29 | exact fun _ => rfl | (intro _; simp [hdep]), by first | exact h30 | exact fun _ => rfl | (intro _; simp [hdep])⟩
      · have hq_ := EH.out.cell (b := b9) (v := gr) (by simp [m9])
        go_simp
        refine hK.out _ _ ?_
        exact ⟨_, _, _, _, _, _, _, _, _, rfl, rfl, EH.out, by first | exact h28 | exact fun _ => rfl | (intro _; simp [hdep]), by first | exact h29 | exact fun _ => rfl | (intro _; simp [hdep]), by first | exact h30 | exact fun _ => rfl | (intro _; simp [hdep])⟩
      · have hq_ := EH.out.cell (b := b9) (v := gr) (by simp [m9])
        go_simp
        refine hK.out _ _ ?_
        exact ⟨_, _, _, _, _, _, _, _, _, rfl, rfl, EH.out, by first | exact h28 | exact fun _ => rfl | (intro _; simp [hdep]), by first | exact h29 | exact fun _ => rfl | (intro _; simp [hdep]), by first | exact h30 | exact fun _ => rfl | (intro _; simp [hdep])⟩
      · obtain rfl := h28 (by simp [hdep])
        have hq_ := EH.out.cell (b := N3) (v := 0) (by simp)
        have hz_ := EH.out.frz (b := N3) (v := 0) (by simp)
        go_simp
        refine hK.out _ _ ?_
        exact ⟨_, _, _, _, _, _, _, _, _, rfl, rfl, ((EH.out.perm (List.Perm.refl _)).set gr).perm (List.Perm.refl _).symm, by first | exact h28 | exact fun _ => rfl | (intro _; simp [hdep]), by first | exact h29 | exact fun _ => rfl | (intro _; simp [hdep]), by first | exact h30 | exact fun _ => rfl | (intro _; simp [hdep])⟩
      · obtain rfl := h29 (by simp [hdep])
        have hq_ := EH.out.cell (b := N4) (v := 0) (by simp)
        have hz_ := EH.out.frz (b := N4) (v := 0) (by simp)
        go_simp
        refine hK.out _ _ ?_
        exact ⟨_, _, _, _, _, _, _, _, _, rfl, rfl, ((EH.out.perm (List.Perm.swap _ _ _)).set gr).perm (List.Perm.swap _ _ _).symm, by first | exact h28 | exact fun _ => rfl | (intro _; simp [hdep]), by first | exact h29 | exact fun _ => rfl | (intro _; simp [hdep]), by first | exact h30 | exact fun _ => rfl | (intro _; simp [hdep])⟩
      · obtain rfl := h30 (by simp [hdep])
        have hq_ := EH.out.cell (b := N5) (v := 0) (by simp)
        have hz_ := EH.out.frz (b := N5) (v := 0) (by simp)
        go_simp
        refine hK.out _ _ ?_
        exact ⟨_, _, _, _, _, _, _, _, _, rfl, rfl, ((EH.out.perm (((List.Perm.swap _ _ _).cons _).trans (List.Perm.swap _ _ _))).set gr).perm (((List.Perm.swap _ _ _).cons _).trans (List.Perm.swap _ _ _)).symm, by first | exact h28 | exact fun _ => rfl | (intro _; simp [hdep]), by first | exact h29 | exact fun _ => rfl | (intro _; simp [hdep]), by first | exact h30 | exact fun _ => rfl | (intro _; simp [hdep])⟩
  case hstep_6 =>
    intro listed act_ w' i hs hi hI
    simp only [Act.put, List.setIfInBounds_toArray, List.set_cons_zero, List.set_cons_succ] at hI ⊢
    obtain ⟨l0, l1, l2, l3, l4, l5, l6, u9, u23, u24, u25, u26, u27, o9, rfl, rfl, EE, O9, h23, h24, h25, h26, h27⟩ := hI
    obtain ⟨hf, o, ho, hdep⟩ := mem_ready.1 hi
    have hin : i = 0 ∨ i = 1 ∨ i = 2 ∨ i = 3 ∨ i = 4 ∨ i = 5 ∨ i = 6 := by
      rcases Nat.lt_or_ge i 7 with h | h
      · omega
      · rw [Array.getElem?_eq_none h] at ho
        cases ho
    have EH := Lib.hid EE
    have OH9 := Lib.hid O9
    clear EE O9 hi hs
    rcases hin with rfl | rfl | rfl | rfl | rfl | rfl | rfl
    all_goals
      have ho2 := ho
      simp only [List.getElem?_toArray, List.getElem?_cons_zero, List.getElem?_cons_succ, Option.some.injEq] at ho2
      subst ho2
      simp [Region.binds] at hdep hf
      subst hf
      refine wpOp_step ho (fun K hK => ?_)
      replace hK := Lib.hid hK
      clear ho
    · have hq_ := EH.out.cell (b := N1) (v := wq) (by simp [m1])
      go_simp
      refine hK.out _ _ ?_
      exact ⟨_, _, _, _, _, _, _, _, _, _, _, _, _, o9, rfl, rfl, EH.out, OH9.out, by first | exact h23 | exact fun _ => rfl | (intro _; simp [hdep]), by first | exact h24 | exact fun _ => rfl | (intro _; simp [hdep]), by first | exact h25 | exact fun _ => rfl | (intro _; simp [hdep]), by first | exact h26 | exact fun _ => rfl | (intro _; simp [hdep]), by first | exact h27 | exact fun _ => rfl | (intro _; simp [hdep])⟩
    · have hq_ := EH.out.cell (b := N1) (v := wq) (by simp [m1])
      go_simp
      refine hK.out _ _ ?_
      exact ⟨_, _, _, _, _, _, _, _, _, _, _, _, _, o9, rfl, rfl, EH.out, OH9.out, by first | exact h23 | exact fun _ => rfl | (intro _; simp [hdep]), by first | exact h24 | exact fun _ => rfl | (intro _; simp [hdep]), by first | exact h25 | exact fun _ => rfl | (intro _; simp [hdep]), by first | exact h26 | exact fun _ => rfl | (intro _; simp [hdep]), by first | exact h27 | exact fun _ => rfl | (intro _; simp [hdep])⟩
    · have hq_ := EH.out.cell (b := N2) (v := kq) (by simp [m2])
      go_simp
      refine hK.out _ _ ?_
      exact ⟨_, _, _, _, _, _, _, _, _, _, _, _, _, o9, rfl, rfl, EH.out, OH9.out, by first | exact h23 | exact fun _ => rfl | (intro _; simp [hdep]), by first | exact h24 | exact fun _ => rfl | (intro _; simp [hdep]), by first | exact h25 | exact fun _ => rfl | (intro _; simp [hdep]), by first | exact h26 | exact fun _ => rfl | (intro _; simp [hdep]), by first | exact h27 | exact fun _ => rfl | (intro _; simp [hdep])⟩
    · obtain rfl := h24 (by simp [hdep])
      obtain rfl := h25 (by simp [hdep])
      go_simp
      go_at_call 38
      refine (K3.out _).mono ?_
      rintro e w1 ⟨rfl, hb⟩
      refine hK.out _ _ ?_
      exact ⟨_, _, _, _, _, _, _, _, _, _, _, _, _, o9, rfl, rfl, EH.out.call hb, OH9.out, by first | exact h23 | exact fun _ => rfl | (intro _; simp [hdep]), by first | exact h24 | exact fun _ => rfl | (intro _; simp [hdep]), by first | exact h25 | exact fun _ => rfl | (intro _; simp [hdep]), by first | exact h26 | exact fun _ => rfl | (intro _; simp [hdep]), by first | exact h27 | exact fun _ => rfl | (intro _; simp [hdep])⟩
    · obtain rfl := h23 (by simp [hdep])
      obtain rfl := h26 (by simp [hdep])
      go_simp
      go_at_call 39
      refine (K4.out _).mono ?_
      rintro e w1 ⟨rfl, hb⟩
      refine hK.out _ _ ?_
      exact ⟨_, _, _, _, _, _, _, _, _, _, _, _, _, o9, rfl, rfl, EH.out.call hb, OH9.out, by first | exact h23 | exact fun _ => rfl | (intro _; simp [hdep]), by first | exact h24 | exact fun _ => rfl | (intro _; simp [hdep]), by first | exact h25 | exact fun _ => rfl | (intro _; simp [hdep]), by first | exact h26 | exact fun _ => rfl | (intro _; simp [hdep]), by first | exact h27 | exact fun _ => rfl | (intro _; simp [hdep])⟩
    · obtain rfl := OH9.out.1 rfl
      go_simp
      refine hK.out _ _ ?_
      exact ⟨_, _, _, _, _, _, _, _, _, _, _, _, _, [(w'.heap.size, 0)], rfl, rfl, (EH.out.new 0 56).perm (List.Perm.refl _).symm, ⟨by simp, fun _ => ⟨_, _, rfl, rfl, fun h => by have := OH9.out.2.2 h; simp at this⟩, fun _ => rfl⟩, by first | exact h23 | exact fun _ => rfl | (intro _; simp [hdep]), by first | exact h24 | exact fun _ => rfl | (intro _; simp [hdep]), by first | exact h25 | exact fun _ => rfl | (intro _; simp [hdep]), by first | exact h26 | exact fun _ => rfl | (intro _; simp [hdep]), by first | exact h27 | exact fun _ => rfl | (intro _; simp [hdep])⟩
    · obtain ⟨b_, v_, rfl, rfl, _⟩ := OH9.out.2.1 (by simp [hdep])
      obtain rfl := h27 (by simp [hdep])
      have hq_ := EH.out.cell (b := b_) (v := v_) (by simp)
      have hz_ := EH.out.frz (b := b_) (v := v_) (by simp)
      go_simp
      refine hK.out _ _ ?_
      exact ⟨_, _, _, _, _, _, _, _, _, _, _, _, _, [(b_, gr)], rfl, rfl, ((EH.out.perm (List.Perm.refl _)).set gr).perm (List.Perm.refl _).symm, ⟨by simp [hdep], fun _ => ⟨_, _, rfl, rfl, fun _ => rfl⟩, fun _ => by simp [hdep]⟩, by first | exact h23 | exact fun _ => rfl | (intro _; simp [hdep]), by first | exact h24 | exact fun _ => rfl | (intro _; simp [hdep]), by first | exact h25 | exact fun _ => rfl | (intro _; simp [hdep]), by first | exact h26 | exact fun _ => rfl | (intro _; simp [hdep]), by first | exact h27 | exact fun _ => rfl | (intro _; simp [hdep])⟩

set_option maxRecDepth 20000 in
set_option maxHeartbeats 16000000 in
theorem hwb27B (h0 wd bk wq kq sq dl r g b m1 m2 m3 n1 n2 n3 : Nat) (w : World) (k1 : floatBits .quo .f64 wd 4636737291354636288 = some wq) (k2 : floatBits .quo .f64 bk 4636737291354636288 = some kq) (k3 : floatBits .add .f64 wq kq = some sq)
    (hc : (FloatKind.f64.format.order sq 4607182418800017408 == some .gt || FloatKind.f64.format.order sq 4607182418800017408 == some .eq) = false) (k4 : floatBits .add .f64 (Fl.fneg sq) 4607182418800017408 = some dl) (p1 : floatBits .mul .f64 dl r = some m1) (p2 : floatBits .mul .f64 dl g = some m2) (p3 : floatBits .mul .f64 dl b = some m3) (s1 : floatBits .add .f64 m1 wq = some n1) (s2 : floatBits .add .f64 m2 wq = some n2) (s3 : floatBits .add .f64 m3 wq = some n3)
    (KH : ∀ w, Calls Try.prog 40 #[.agg #[.float .f64 h0], .agg #[.float .f64 4636737291354636288], .agg #[.float .f64 4632233691727265792]] w fun e w' => e = .returned (.tuple #[.agg #[.float .f64 r], .agg #[.float .f64 g], .agg #[.float .f64 b]]) ∧ Below w.heap.size w w') :
    Calls Try.prog 27 #[.agg #[.float .f64 h0], .agg #[.float .f64 wd], .agg #[.float .f64 bk]] w fun e w' => e = .returned (.tuple #[.agg #[.float .f64 n1], .agg #[.float .f64 n2], .agg #[.float .f64 n3]]) ∧ Below w.heap.size w w' := by
  have K1 := Lib.hid (fun w => fdivc wd _ wq w k1)
  have K2 := Lib.hid (fun w => fdivc bk _ kq w k2)
  have K3 := Lib.hid (fun w => faddb wq kq sq w k3)
  have K4 := Lib.hid (fun w => faddc (Fl.fneg sq) _ dl w k4)
  have P1 := Lib.hid (fun w => fmulb dl r m1 w p1)
  have P2 := Lib.hid (fun w => fmulb dl g m2 w p2)
  have P3 := Lib.hid (fun w => fmulb dl b m3 w p3)
  have S1 := Lib.hid (fun w => faddb m1 wq n1 w s1)
  have S2 := Lib.hid (fun w => faddb m2 wq n2 w s2)
  have S3 := Lib.hid (fun w => faddb m3 wq n3 w s3)
  have KH := Lib.hid KH
  clear k1 k2 k3 k4 p1 p2 p3 s1 s2 s3
  have hsz : ∀ (w : World) o, (w.alloc o).heap.size = w.heap.size + 1 := fun w o => by simp
  go_enter Try.func27, Try.ntmps27
  go_upto_region 1 with fail
  have E1 := ((((((Ev.start w).new h0 56).new wd 56).new bk 56).new 0 56).new 0 56).new 0 56
  simp only [hsz] at E1
  generalize hA : w.heap.size + 1 = N1 at *
  generalize hB : N1 + 1 = N2 at *
  generalize hC : N2 + 1 = N3 at *
  generalize hD : N3 + 1 = N4 at *
  generalize hE : N4 + 1 = N5 at *
  clear hA hB hC hD hE
  obtain ⟨N0, hN0⟩ : ∃ n, n = w.heap.size := ⟨_, rfl⟩
  rw [← hN0] at E1
  rw [← hN0]
  clear hN0
  have E2 : Ev w _ [(N1, wd), (N2, bk), (N0, h0), (N3, 0), (N4, 0), (N5, 0)] := (E1.perm (List.reverse_perm _).symm).s12.s23
  clear E1
  generalize (((((w.alloc (.cells #[.float .f64 h0] 56)).alloc (.cells #[.float .f64 wd] 56)).alloc (.cells #[.float .f64 bk] 56)).alloc (.cells #[.float .f64 0] 56)).alloc (.cells #[.float .f64 0] 56)).alloc (.cells #[.float .f64 0] 56) = w1 at *
  have q0 := E2.cell (b := N1) (v := wd) (by simp)
  go_wp2_with fail
  refine (K1.out _).mono ?_
  rintro e w2 ⟨rfl, hb⟩
  replace E2 := E2.call hb
  clear hb q0
  have q0 := E2.cell (b := N1) (v := wd) (by simp)
  have z0 := E2.frz (b := N1) (v := wd) (by simp)
  go_upto_region 2 with fail
  have E3 : Ev w _ [(N2, bk), (N1, wq), (N0, h0), (N3, 0), (N4, 0), (N5, 0)] := (E2.set wq).s12
  clear E2 q0 z0
  generalize w2.setCell ⟨N1, 0, none⟩ (.float .f64 wq) = w3 at *
  have q0 := E3.cell (b := N2) (v := bk) (by simp)
  go_wp2_with fail
  refine (K2.out _).mono ?_
  rintro e w4 ⟨rfl, hb⟩
  replace E3 := E3.call hb
  clear hb q0
  have q0 := E3.cell (b := N2) (v := bk) (by simp)
  have z0 := E3.frz (b := N2) (v := bk) (by simp)
  go_upto_region 3 with fail
  have E4 := E3.set kq
  clear E3 q0 z0
  generalize w4.setCell ⟨N2, 0, none⟩ (.float .f64 kq) = w5 at *
  have q1 := E4.cell (b := N1) (v := wq) (by simp)
  have q2 := E4.cell (b := N2) (v := kq) (by simp)
  go_wp2_with fail
  refine (K3.out _).mono ?_
  rintro e w6 ⟨rfl, hb⟩
  replace E4 := E4.call hb
  clear hb q1 q2
  go_upto_if 22 with (go_at_call 26; refine (fvalue _ _).mono ?_; rintro e w5 ⟨rfl, rfl⟩)
  replace E4 := E4.grow (.cells #[.float .f64 sq] 56)
  generalize w6.alloc (.cells #[.float .f64 sq] 56) = w7 at *
  have q1 := E4.cell (b := N1) (v := wq) (by simp)
  have q2 := E4.cell (b := N2) (v := kq) (by simp)
  go_wp2_with fail
  refine (K3.out _).mono ?_
  rintro e w8 ⟨rfl, hb⟩
  replace E4 := E4.call hb
  clear hb q1 q2
  go_wp2_with fail
  refine (fnegc _ _).mono ?_
  rintro e w9 ⟨rfl, hb⟩
  replace E4 := E4.call hb
  clear hb
  go_wp2_with fail
  refine (K4.out _).mono ?_
  rintro e w10 ⟨rfl, hb⟩
  replace E4 := E4.call hb
  clear hb
  go_upto_region 7 with fail
  have E5 := E4.new dl 56
  clear E4
  generalize w10.heap.size = b10 at *
  generalize w10.alloc (.cells #[.float .f64 dl] 56) = w11 at *
  obtain ⟨L, hL⟩ : ∃ L, L = [(b10, dl), (N2, kq), (N1, wq), (N0, h0), (N3, 0), (N4, 0), (N5, 0)] := ⟨_, rfl⟩
  have m0 : (N0, h0) ∈ L := by rw [hL]; simp
  rw [← hL] at E5
  refine wp_region_invB' (fun A0 listed act_ w' => ∃ l0 l1 l2 l3 l4 l5 l6 l7 l8 l9 l10 l11 l12 l13 : Bool, ∃ u11 u12 u13 u36 u37 u38 u39 u40 u41 u42 u43 : Value, ∃ o11 o12 o13 : List (Nat × Nat), listed = #[l0, l1, l2, l3, l4, l5, l6, l7, l8, l9, l10, l11, l12, l13] ∧ act_ = (((((((((((A0.put (some 11) u11).put (some 12) u12).put (some 13) u13).put (some 36) u36).put (some 37) u37).put (some 38) u38).put (some 39) u39).put (some 40) u40).put (some 41) u41).put (some 42) u42).put (some 43) u43) ∧ Ev w w' (o11 ++ (o12 ++ (o13 ++ L))) ∧ Oc l8 l11 u11 o11 r ∧ Oc l9 l12 u12 o12 g ∧ Oc l10 l13 u13 o13 b ∧ (l0 = true → u37 = .agg #[.float .f64 h0]) ∧ (l1 = true → u38 = .agg #[.float .f64 4636737291354636288]) ∧ (l2 = true → u39 = .agg #[.float .f64 4632233691727265792]) ∧ (l3 = true → u40 = .tuple #[.agg #[.float .f64 r], .agg #[.float .f64 g], .agg #[.float .f64 b]]) ∧ (l4 = true → u36 = .tuple #[.agg #[.float .f64 r], .agg #[.float .f64 g], .agg #[.float .f64 b]]) ∧ (l5 = true → u41 = .agg #[.float .f64 r]) ∧ (l6 = true → u42 = .agg #[.float .f64 g]) ∧ (l7 = true → u43 = .agg #[.float .f64 b])) (by kernel_rfl) (by kernel_rfl) ?h0_11 ?hstep_11 ?hend_11
  case h0_11 =>
    simp only [Act.put, List.setIfInBounds_toArray, List.set_cons_zero, List.set_cons_succ]
    refine ⟨false, false, false, false, false, false, false, false, false, false, false, false, false, false, _, _, _, _, _, _, _, _, _, _, _, [], [], [], rfl, rfl, E5.drew, ?_⟩
    simp [Oc]
  case hend_11 =>
    intro listed act_ w' hs hall hI
    simp only [Act.put, List.setIfInBounds_toArray, List.set_cons_zero, List.set_cons_succ] at hI
    obtain ⟨l0, l1, l2, l3, l4, l5, l6, l7, l8, l9, l10, l11, l12, l13, u11, u12, u13, u36, u37, u38, u39, u40, u41, u42, u43, o11, o12, o13, rfl, rfl, EE, O11, O12, O13, h37, h38, h39, h40, h36, h41, h42, h43⟩ := hI
    have t0 := hall 0 (by simp)
    have t1 := hall 1 (by simp)
    have t2 := hall 2 (by simp)
    have t3 := hall 3 (by simp)
    have t4 := hall 4 (by simp)
    have t5 := hall 5 (by simp)
    have t6 := hall 6 (by simp)
    have t7 := hall 7 (by simp)
    have t8 := hall 8 (by simp)
    have t9 := hall 9 (by simp)
    have t10 := hall 10 (by simp)
    have t11 := hall 11 (by simp)
    have t12 := hall 12 (by simp)
    have t13 := hall 13 (by simp)
    simp at t0 t1 t2 t3 t4 t5 t6 t7 t8 t9 t10 t11 t12 t13
    obtain ⟨b11, v11, rfl, rfl, e11⟩ := O11.2.1 t8
    obtain rfl := (e11 t11).symm
    obtain ⟨b12, v12, rfl, rfl, e12⟩ := O12.2.1 t9
    obtain rfl := (e12 t12).symm
    obtain ⟨b13, v13, rfl, rfl, e13⟩ := O13.2.1 t10
    obtain rfl := (e13 t13).symm
    obtain rfl := h37 t0
    obtain rfl := h38 t1
    obtain rfl := h39 t2
    obtain rfl := h40 t3
    obtain rfl := h36 t4
    obtain rfl := h41 t5
    obtain rfl := h42 t6
    obtain rfl := h43 t7
    clear hall
    rw [hL] at EE
    clear m0 E5 hL L
    go_upto_region 8 with fail
    have E8 : Ev w _ ((b11, r) :: [(b12, g), (b13, b), (b10, dl), (N1, wq), (N3, 0), (N4, 0), (N5, 0)]) := EE.sub' ((((((((List.Sublist.refl [(N3, 0), (N4, 0), (N5, 0)]).cons _).cons_cons (N1, wq)).cons _).cons_cons (b10, dl)).cons_cons (b13, b)).cons_cons (b12, g)).cons_cons (b11, r))
    clear EE
    obtain ⟨L8, hL8⟩ : ∃ L, L = [(b12, g), (b13, b), (b10, dl), (N1, wq), (N3, 0), (N4, 0), (N5, 0)] := ⟨_, rfl⟩
    have mm10 : (b10, dl) ∈ L8 := by rw [hL8]; simp
    have mm1 : (N1, wq) ∈ L8 := by rw [hL8]; simp
    rw [← hL8] at E8
    refine wp_region_invB' (fun A0 listed act_ w' => ∃ l0 l1 l2 l3 l4 l5 : Bool, ∃ u44 u45 u46 u47 u48 : Value, listed = #[l0, l1, l2, l3, l4, l5] ∧ act_ = (((((A0.put (some 44) u44).put (some 45) u45).put (some 46) u46).put (some 47) u47).put (some 48) u48) ∧ Ev w w' ((b11, cond l5 n1 r) :: L8) ∧ (l0 = true → u44 = .agg #[.float .f64 dl]) ∧ (l1 = true → u45 = .agg #[.float .f64 r]) ∧ (l2 = true → u46 = .agg #[.float .f64 m1]) ∧ (l3 = true → u47 = .agg #[.float .f64 wq]) ∧ (l4 = true → u48 = .agg #[.float .f64 n1]) ∧ (l5 = true → l1 = true)) (by kernel_rfl) (by kernel_rfl) ?h0_10 ?hstep_10 ?hend_10
    case h0_10 =>
      simp only [Act.put, List.setIfInBounds_toArray, List.set_cons_zero, List.set_cons_succ]
      refine ⟨false, false, false, false, false, false, _, _, _, _, _, rfl, rfl, E8.drew, ?_⟩
      simp
    case hend_10 =>
      intro listed act_ w' hs hall hI
      simp only [Act.put, List.setIfInBounds_toArray, List.set_cons_zero, List.set_cons_succ] at hI
      obtain ⟨l0, l1, l2, l3, l4, l5, u44, u45, u46, u47, u48, rfl, rfl, EE, h44, h45, h46, h47, h48, J1⟩ := hI
      have t0 := hall 0 (by simp)
      have t1 := hall 1 (by simp)
      have t2 := hall 2 (by simp)
      have t3 := hall 3 (by simp)
      have t4 := hall 4 (by simp)
      have t5 := hall 5 (by simp)
      simp at t0 t1 t2 t3 t4 t5
      obtain rfl := h44 t0
      obtain rfl := h45 t1
      obtain rfl := h46 t2
      obtain rfl := h47 t3
      obtain rfl := h48 t4
      obtain rfl := t5
      clear hall
      rw [hL8] at EE
      go_upto_region 9 with fail
      have E9 : Ev w _ ((b12, g) :: [(b11, n1), (b13, b), (b10, dl), (N1, wq), (N3, 0), (N4, 0), (N5, 0)]) := EE.s12
      clear EE
      obtain ⟨L9, hL9⟩ : ∃ L, L = [(b11, n1), (b13, b), (b10, dl), (N1, wq), (N3, 0), (N4, 0), (N5, 0)] := ⟨_, rfl⟩
      have mm10 : (b10, dl) ∈ L9 := by rw [hL9]; simp
      have mm1 : (N1, wq) ∈ L9 := by rw [hL9]; simp
      rw [← hL9] at E9
      refine wp_region_invB' (fun A0 listed act_ w' => ∃ l0 l1 l2 l3 l4 l5 : Bool, ∃ u49 u50 u51 u52 u53 : Value, listed = #[l0, l1, l2, l3, l4, l5] ∧ act_ = (((((A0.put (some 49) u49).put (some 50) u50).put (some 51) u51).put (some 52) u52).put (some 53) u53) ∧ Ev w w' ((b12, cond l5 n2 g) :: L9) ∧ (l0 = true → u49 = .agg #[.float .f64 dl]) ∧ (l1 = true → u50 = .agg #[.float .f64 g]) ∧ (l2 = true → u51 = .agg #[.float .f64 m2]) ∧ (l3 = true → u52 = .agg #[.float .f64 wq]) ∧ (l4 = true → u53 = .agg #[.float .f64 n2]) ∧ (l5 = true → l1 = true)) (by kernel_rfl) (by kernel_rfl) ?h0_9 ?hstep_9 ?hend_9
      case h0_9 =>
        simp only [Act.put, List.setIfInBounds_toArray, List.set_cons_zero, List.set_cons_succ]
        refine ⟨false, false, false, false, false, false, _, _, _, _, _, rfl, rfl, E9.drew, ?_⟩
        simp
      case hend_9 =>
        intro listed act_ w' hs hall hI
        simp only [Act.put, List.setIfInBounds_toArray, List.set_cons_zero, List.set_cons_succ] at hI
        obtain ⟨l0, l1, l2, l3, l4, l5, u49, u50, u51, u52, u53, rfl, rfl, EE, h49, h50, h51, h52, h53, J1⟩ := hI
        have t0 := hall 0 (by simp)
        have t1 := hall 1 (by simp)
        have t2 := hall 2 (by simp)
        have t3 := hall 3 (by simp)
        have t4 := hall 4 (by simp)
        have t5 := hall 5 (by simp)
        simp at t0 t1 t2 t3 t4 t5
        obtain rfl := h49 t0
        obtain rfl := h50 t1
        obtain rfl := h51 t2
        obtain rfl := h52 t3
        obtain rfl := h53 t4
        obtain rfl := t5
        clear hall
        rw [hL9] at EE
        go_upto_region 10 with fail
        have E10 : Ev w _ ((b13, b) :: [(b12, n2), (b11, n1), (b10, dl), (N1, wq), (N3, 0), (N4, 0), (N5, 0)]) := (EE.mid 2 _ (b13, b) rfl rfl)
        clear EE
        obtain ⟨L10, hL10⟩ : ∃ L, L = [(b12, n2), (b11, n1), (b10, dl), (N1, wq), (N3, 0), (N4, 0), (N5, 0)] := ⟨_, rfl⟩
        have mm10 : (b10, dl) ∈ L10 := by rw [hL10]; simp
        have mm1 : (N1, wq) ∈ L10 := by rw [hL10]; simp
        rw [← hL10] at E10
        refine wp_region_invB' (fun A0 listed act_ w' => ∃ l0 l1 l2 l3 l4 l5 : Bool, ∃ u54 u55 u56 u57 u58 : Value, listed = #[l0, l1, l2, l3, l4, l5] ∧ act_ = (((((A0.put (some 54) u54).put (some 55) u55).put (some 56) u56).put (some 57) u57).put (some 58) u58) ∧ Ev w w' ((b13, cond l5 n3 b) :: L10) ∧ (l0 = true → u54 = .agg #[.float .f64 dl]) ∧ (l1 = true → u55 = .agg #[.float .f64 b]) ∧ (l2 = true → u56 = .agg #[.float .f64 m3]) ∧ (l3 = true → u57 = .agg #[.float .f64 wq]) ∧ (l4 = true → u58 = .agg #[.float .f64 n3]) ∧ (l5 = true → l1 = true)) (by kernel_rfl) (by kernel_rfl) ?h0_8 ?hstep_8 ?hend_8
        case h0_8 =>
          simp only [Act.put, List.setIfInBounds_toArray, List.set_cons_zero, List.set_cons_succ]
          refine ⟨false, false, false, false, false, false, _, _, _, _, _, rfl, rfl, E10.drew, ?_⟩
          simp
        case hend_8 =>
          intro listed act_ w' hs hall hI
          simp only [Act.put, List.setIfInBounds_toArray, List.set_cons_zero, List.set_cons_succ] at hI
          obtain ⟨l0, l1, l2, l3, l4, l5, u54, u55, u56, u57, u58, rfl, rfl, EE, h54, h55, h56, h57, h58, J1⟩ := hI
          have t0 := hall 0 (by simp)
          have t1 := hall 1 (by simp)
          have t2 := hall 2 (by simp)
          have t3 := hall 3 (by simp)
          have t4 := hall 4 (by simp)
          have t5 := hall 5 (by simp)
          simp at t0 t1 t2 t3 t4 t5
          obtain rfl := h54 t0
          obtain rfl := h55 t1
          obtain rfl := h56 t2
          obtain rfl := h57 t3
          obtain rfl := h58 t4
          obtain rfl := t5
          clear hall
          rw [hL10] at EE
          go_upto_region 11 with fail
          have EP : Ev w _ ((b11, n1) :: (b12, n2) :: (b13, n3) :: [(b10, dl), (N1, wq), (N3, 0), (N4, 0), (N5, 0)]) := EE.s12.s23.s12
          have EQ : Ev w _ ([(b11, n1), (b12, n2), (b13, n3)] ++ [(N3, 0), (N4, 0), (N5, 0)]) := EP.sub' ((((((List.Sublist.refl [(N3, 0), (N4, 0), (N5, 0)]).cons _).cons _).cons_cons (b13, n3)).cons_cons (b12, n2)).cons_cons (b11, n1))
          have E11 : Ev w _ ((N3, 0) :: (N4, 0) :: (N5, 0) :: [(b11, n1), (b12, n2), (b13, n3)]) := EQ.perm List.perm_append_comm
          clear EE EP EQ
          obtain ⟨L11, hL11⟩ : ∃ L, L = [(b11, n1), (b12, n2), (b13, n3)] := ⟨_, rfl⟩
          have m11 : (b11, n1) ∈ L11 := by rw [hL11]; simp
          have m12 : (b12, n2) ∈ L11 := by rw [hL11]; simp
          have m13 : (b13, n3) ∈ L11 := by rw [hL11]; simp
          rw [← hL11] at E11
          refine wp_region_invB' (fun A0 listed act_ w' => ∃ l0 l1 l2 l3 l4 l5 : Bool, ∃ u59 u60 u61 : Value, listed = #[l0, l1, l2, l3, l4, l5] ∧ act_ = (((A0.put (some 59) u59).put (some 60) u60).put (some 61) u61) ∧ Ev w w' ((N3, cond l3 n1 0) :: ((N4, cond l4 n2 0) :: ((N5, cond l5 n3 0) :: L11))) ∧ (l0 = true → u59 = .agg #[.float .f64 n1]) ∧ (l1 = true → u60 = .agg #[.float .f64 n2]) ∧ (l2 = true → u61 = .agg #[.float .f64 n3])) (by kernel_rfl) (by kernel_rfl) ?h0_7 ?hstep_7 ?hend_7
          case h0_7 =>
            simp only [Act.put, List.setIfInBounds_toArray, List.set_cons_zero, List.set_cons_succ]
            refine ⟨false, false, false, false, false, false, _, _, _, rfl, rfl, E11.drew, ?_⟩
            simp
          case hend_7 =>
            intro listed act_ w' hs hall hI
            simp only [Act.put, List.setIfInBounds_toArray, List.set_cons_zero, List.set_cons_succ] at hI
            obtain ⟨l0, l1, l2, l3, l4, l5, u59, u60, u61, rfl, rfl, EE, h59, h60, h61⟩ := hI
            have t0 := hall 0 (by simp)
            have t1 := hall 1 (by simp)
            have t2 := hall 2 (by simp)
            have t3 := hall 3 (by simp)
            have t4 := hall 4 (by simp)
            have t5 := hall 5 (by simp)
            simp at t0 t1 t2 t3 t4 t5
            obtain rfl := h59 t0
            obtain rfl := h60 t1
            obtain rfl := h61 t2
            obtain rfl := t3
            obtain rfl := t4
            obtain rfl := t5
            clear hall
            go_wp2_with fail
            have r6 := EE.cell (b := N3) (v := n1) (by simp)
            have r7 := EE.cell (b := N4) (v := n2) (by simp)
            have r8 := EE.cell (b := N5) (v := n3) (by simp)
            exact bodyPost_ret (v := .tuple #[.agg #[.float .f64 n1], .agg #[.float .f64 n2], .agg #[.float .f64 n3]]) (by simp [results, Try.results27, go_sem, r6, r7, r8]) rfl ⟨rfl, EE.below⟩
          case hstep_7 =>
            intro listed act_ w' i hs hi hI
            simp only [Act.put, List.setIfInBounds_toArray, List.set_cons_zero, List.set_cons_succ] at hI ⊢
            obtain ⟨l0, l1, l2, l3, l4, l5, u59, u60, u61, rfl, rfl, EE, h59, h60, h61⟩ := hI
            obtain ⟨hf, o, ho, hdep⟩ := mem_ready.1 hi
            have hin : i = 0 ∨ i = 1 ∨ i = 2 ∨ i = 3 ∨ i = 4 ∨ i = 5 := by
              rcases Nat.lt_or_ge i 6 with h | h
              · omega
              · rw [Array.getElem?_eq_none h] at ho
                cases ho
            have EH := Lib.hid EE
            clear EE  hi hs
            rcases hin with rfl | rfl | rfl | rfl | rfl | rfl
            all_goals
              have ho2 := ho
              simp only [List.getElem?_toArray, List.getElem?_cons_zero, List.getElem?_cons_succ, Option.some.injEq] at ho2
              subst ho2
              simp [Region.binds] at hdep hf
              subst hf
              refine wpOp_step ho (fun K hK => ?_)
              replace hK := Lib.hid hK
              clear ho
            · have hq_ := EH.out.cell (b := b11) (v := n1) (by simp [m11])
              go_simp
              refine hK.out _ _ ?_
              exact ⟨_, _, _, _, _, _, _, _, _, rfl, rfl, EH.out, by first | exact h59 | exact fun _ => rfl | (intro _; simp [hdep]), by first | exact h60 | exact fun _ => rfl | (intro _; simp [hdep]), by first | exact h61 | exact fun _ => rfl | (intro _; simp [hdep])⟩
            · have hq_ := EH.out.cell (b := b12) (v := n2) (by simp [m12])
              go_simp
              refine hK.out _ _ ?_
              exact ⟨_, _, _, _, _, _, _, _, _, rfl, rfl, EH.out, by first | exact h59 | exact fun _ => rfl | (intro _; simp [hdep]), by first | exact h60 | exact fun _ => rfl | (intro _; simp [hdep]), by first | exact h61 | exact fun _ => rfl | (intro _; simp [hdep])⟩
            · have hq_ := EH.out.cell (b := b13) (v := n3) (by simp [m13])
              go_simp
              refine hK.out _ _ ?_
              exact ⟨_, _, _, _, _, _, _, _, _, rfl, rfl, EH.out, by first | exact h59 | exact fun _ => rfl | (intro _; simp [hdep]), by first | exact h60 | exact fun _ => rfl | (intro _; simp [hdep]), by first | exact h61 | exact fun _ => rfl | (intro _; simp [hdep])⟩
            · obtain rfl := h59 (by simp [hdep])
              have hq_ := EH.out.cell (b := N3) (v := 0) (by simp)
              have hz_ := EH.out.frz (b := N3) (v := 0) (by simp)
              go_simp
              refine hK.out _ _ ?_
              exact ⟨_, _, _, _, _, _, _, _, _, rfl, rfl, ((EH.out.perm (List.Perm.refl _)).set n1).perm (List.Perm.refl _).symm, by first | exact h59 | exact fun _ => rfl | (intro _; simp [hdep]), by first | exact h60 | exact fun _ => rfl | (intro _; simp [hdep]), by first | exact h61 | exact fun _ => rfl | (intro _; simp [hdep])⟩
            · obtain rfl := h60 (by simp [hdep])
              have hq_ := EH.out.cell (b := N4) (v := 0) (by simp)
              have hz_ := EH.out.frz (b := N4) (v := 0) (by simp)
              go_simp
              refine hK.out _ _ ?_
              exact ⟨_, _, _, _, _, _, _, _, _, rfl, rfl, ((EH.out.perm (List.Perm.swap _ _ _)).set n2).perm (List.Perm.swap _ _ _).symm, by first | exact h59 | exact fun _ => rfl | (intro _; simp [hdep]), by first | exact h60 | exact fun _ => rfl | (intro _; simp [hdep]), by first | exact h61 | exact fun _ => rfl | (intro _; simp [hdep])⟩
            · obtain rfl := h61 (by simp [hdep])
              have hq_ := EH.out.cell (b := N5) (v := 0) (by simp)
              have hz_ := EH.out.frz (b := N5) (v := 0) (by simp)
              go_simp
              refine hK.out _ _ ?_
              exact ⟨_, _, _, _, _, _, _, _, _, rfl, rfl, ((EH.out.perm (((List.Perm.swap _ _ _).cons _).trans (List.Perm.swap _ _ _))).set n3).perm (((List.Perm.swap _ _ _).cons _).trans (List.Perm.swap _ _ _)).symm, by first | exact h59 | exact fun _ => rfl | (intro _; simp [hdep]), by first | exact h60 | exact fun _ => rfl | (intro _; simp [hdep]), by first | exact h61 | exact fun _ => rfl | (intro _; simp [hdep])⟩
        case hstep_8 =>
          intro listed act_ w' i hs hi hI
          simp only [Act.put, List.setIfInBounds_toArray, List.set_cons_zero, List.set_cons_succ] at hI ⊢
          obtain ⟨l0, l1, l2, l3, l4, l5, u54, u55, u56, u57, u58, rfl, rfl, EE, h54, h55, h56, h57, h58, J1⟩ := hI
          obtain ⟨hf, o, ho, hdep⟩ := mem_ready.1 hi
          have hin : i = 0 ∨ i = 1 ∨ i = 2 ∨ i = 3 ∨ i = 4 ∨ i = 5 := by
            rcases Nat.lt_or_ge i 6 with h | h
            · omega
            · rw [Array.getElem?_eq_none h] at ho
              cases ho
          have EH := Lib.hid EE
          clear EE  hi hs
          rcases hin with rfl | rfl | rfl | rfl | rfl | rfl
          all_goals
            have ho2 := ho
            simp only [List.getElem?_toArray, List.getElem?_cons_zero, List.getElem?_cons_succ, Option.some.injEq] at ho2
            subst ho2
            simp [Region.binds] at hdep hf
            subst hf
            refine wpOp_step ho (fun K hK => ?_)
            replace hK := Lib.hid hK
            clear ho
          · have hq_ := EH.out.cell (b := b10) (v := dl) (by simp [mm10])
            go_simp
            refine hK.out _ _ ?_
            exact ⟨_, _, _, _, _, _, _, _, _, _, _, rfl, rfl, EH.out, by first | exact h54 | exact fun _ => rfl | (intro _; simp [hdep]), by first | exact h55 | exact fun _ => rfl | (intro _; simp [hdep]), by first | exact h56 | exact fun _ => rfl | (intro _; simp [hdep]), by first | exact h57 | exact fun _ => rfl | (intro _; simp [hdep]), by first | exact h58 | exact fun _ => rfl | (intro _; simp [hdep]), by first | exact J1 | exact fun _ => rfl | (intro _; simp [hdep])⟩
          · have hl_ : l5 = false := by
              cases hx_ : l5 with
              | false => rfl
              | true => have := J1 hx_; simp at this
            subst hl_
            have hq_ := EH.out.cell (b := b13) (v := b) (by simp)
            go_simp
            refine hK.out _ _ ?_
            exact ⟨_, _, _, _, _, _, _, _, _, _, _, rfl, rfl, EH.out, by first | exact h54 | exact fun _ => rfl | (intro _; simp [hdep]), by first | exact h55 | exact fun _ => rfl | (intro _; simp [hdep]), by first | exact h56 | exact fun _ => rfl | (intro _; simp [hdep]), by first | exact h57 | exact fun _ => rfl | (intro _; simp [hdep]), by first | exact h58 | exact fun _ => rfl | (intro _; simp [hdep]), by first | exact J1 | exact fun _ => rfl | (intro _; simp [hdep])⟩
          · obtain rfl := h54 (by simp [hdep])
            obtain rfl := h55 (by simp [hdep])
            go_simp
            go_at_call 41
            refine (P3.out _).mono ?_
            rintro e w1 ⟨rfl, hb⟩
            refine hK.out _ _ ?_
            exact ⟨_, _, _, _, _, _, _, _, _, _, _, rfl, rfl, EH.out.call hb, by first | exact h54 | exact fun _ => rfl | (intro _; simp [hdep]), by first | exact h55 | exact fun _ => rfl | (intro _; simp [hdep]), by first | exact h56 | exact fun _ => rfl | (intro _; simp [hdep]), by first | exact h57 | exact fun _ => rfl | (intro _; simp [hdep]), by first | exact h58 | exact fun _ => rfl | (intro _; simp [hdep]), by first | exact J1 | exact fun _ => rfl | (intro _; simp [hdep])⟩
          · have hq_ := EH.out.cell (b := N1) (v := wq) (by simp [mm1])
            go_simp
            refine hK.out _ _ ?_
            exact ⟨_, _, _, _, _, _, _, _, _, _, _, rfl, rfl, EH.out, by first | exact h54 | exact fun _ => rfl | (intro _; simp [hdep]), by first | exact h55 | exact fun _ => rfl | (intro _; simp [hdep]), by first | exact h56 | exact fun _ => rfl | (intro _; simp [hdep]), by first | exact h57 | exact fun _ => rfl | (intro _; simp [hdep]), by first | exact h58 | exact fun _ => rfl | (intro _; simp [hdep]), by first | exact J1 | exact fun _ => rfl | (intro _; simp [hdep])⟩
          · obtain rfl := h56 (by simp [hdep])
            obtain rfl := h57 (by simp [hdep])
            go_simp
            go_at_call 38
            refine (S3.out _).mono ?_
            rintro e w1 ⟨rfl, hb⟩
            refine hK.out _ _ ?_
            exact ⟨_, _, _, _, _, _, _, _, _, _, _, rfl, rfl, EH.out.call hb, by first | exact h54 | exact fun _ => rfl | (intro _; simp [hdep]), by first | exact h55 | exact fun _ => rfl | (intro _; simp [hdep]), by first | exact h56 | exact fun _ => rfl | (intro _; simp [hdep]), by first | exact h57 | exact fun _ => rfl | (intro _; simp [hdep]), by first | exact h58 | exact fun _ => rfl | (intro _; simp [hdep]), by first | exact J1 | exact fun _ => rfl | (intro _; simp [hdep])⟩
          · obtain rfl := h58 (by simp [hdep])
            have hq_ := EH.out.cell (b := b13) (v := b) (by simp)
            have hz_ := EH.out.frz (b := b13) (v := b) (by simp)
            go_simp
            refine hK.out _ _ ?_
            exact ⟨_, _, _, _, _, _, _, _, _, _, _, rfl, rfl, ((EH.out.perm (List.Perm.refl _)).set n3).perm (List.Perm.refl _).symm, by first | exact h54 | exact fun _ => rfl | (intro _; simp [hdep]), by first | exact h55 | exact fun _ => rfl | (intro _; simp [hdep]), by first | exact h56 | exact fun _ => rfl | (intro _; simp [hdep]), by first | exact h57 | exact fun _ => rfl | (intro _; simp [hdep]), by first | exact h58 | exact fun _ => rfl | (intro _; simp [hdep]), by first | exact J1 | exact fun _ => rfl | (intro _; simp [hdep])⟩
      case hstep_9 =>
        intro listed act_ w' i hs hi hI
        simp only [Act.put, List.setIfInBounds_toArray, List.set_cons_zero, List.set_cons_succ] at hI ⊢
        obtain ⟨l0, l1, l2, l3, l4, l5, u49, u50, u51, u52, u53, rfl, rfl, EE, h49, h50, h51, h52, h53, J1⟩ := hI
        obtain ⟨hf, o, ho, hdep⟩ := mem_ready.1 hi
        have hin : i = 0 ∨ i = 1 ∨ i = 2 ∨ i = 3 ∨ i = 4 ∨ i = 5 := by
          rcases Nat.lt_or_ge i 6 with h | h
          · omega
          · rw [Array.getElem?_eq_none h] at ho
            cases ho
        have EH := Lib.hid EE
        clear EE  hi hs
        rcases hin with rfl | rfl | rfl | rfl | rfl | rfl
        all_goals
          have ho2 := ho
          simp only [List.getElem?_toArray, List.getElem?_cons_zero, List.getElem?_cons_succ, Option.some.injEq] at ho2
          subst ho2
          simp [Region.binds] at hdep hf
          subst hf
          refine wpOp_step ho (fun K hK => ?_)
          replace hK := Lib.hid hK
          clear ho
        · have hq_ := EH.out.cell (b := b10) (v := dl) (by simp [mm10])
          go_simp
          refine hK.out _ _ ?_
          exact ⟨_, _, _, _, _, _, _, _, _, _, _, rfl, rfl, EH.out, by first | exact h49 | exact fun _ => rfl | (intro _; simp [hdep]), by first | exact h50 | exact fun _ => rfl | (intro _; simp [hdep]), by first | exact h51 | exact fun _ => rfl | (intro _; simp [hdep]), by first | exact h52 | exact fun _ => rfl | (intro _; simp [hdep]), by first | exact h53 | exact fun _ => rfl | (intro _; simp [hdep]), by first | exact J1 | exact fun _ => rfl | (intro _; simp [hdep])⟩
        · have hl_ : l5 = false := by
            cases hx_ : l5 with
            | false => rfl
            | true => have := J1 hx_; simp at this
          subst hl_
          have hq_ := EH.out.cell (b := b12) (v := g) (by simp)
          go_simp
          refine hK.out _ _ ?_
          exact ⟨_, _, _, _, _, _, _, _, _, _, _, rfl, rfl, EH.out, by first | exact h49 | exact fun _ => rfl | (intro _; simp [hdep]), by first | exact h50 | exact fun _ => rfl | (intro _; simp [hdep]), by first | exact h51 | exact fun _ => rfl | (intro _; simp [hdep]), by first | exact h52 | exact fun _ => rfl | (intro _; simp [hdep]), by first | exact h53 | exact fun _ => rfl | (intro _; simp [hdep]), by first | exact J1 | exact fun _ => rfl | (intro _; simp [hdep])⟩
        · obtain rfl := h49 (by simp [hdep])
          obtain rfl := h50 (by simp [hdep])
          go_simp
          go_at_call 41
          refine (P2.out _).mono ?_
          rintro e w1 ⟨rfl, hb⟩
          refine hK.out _ _ ?_
          exact ⟨_, _, _, _, _, _, _, _, _, _, _, rfl, rfl, EH.out.call hb, by first | exact h49 | exact fun _ => rfl | (intro _; simp [hdep]), by first | exact h50 | exact fun _ => rfl | (intro _; simp [hdep]), by first | exact h51 | exact fun _ => rfl | (intro _; simp [hdep]), by first | exact h52 | exact fun _ => rfl | (intro _; simp [hdep]), by first | exact h53 | exact fun _ => rfl | (intro _; simp [hdep]), by first | exact J1 | exact fun _ => rfl | (intro _; simp [hdep])⟩
        · have hq_ := EH.out.cell (b := N1) (v := wq) (by simp [mm1])
          go_simp
          refine hK.out _ _ ?_
          exact ⟨_, _, _, _, _, _, _, _, _, _, _, rfl, rfl, EH.out, by first | exact h49 | exact fun _ => rfl | (intro _; simp [hdep]), by first | exact h50 | exact fun _ => rfl | (intro _; simp [hdep]), by first | exact h51 | exact fun _ => rfl | (intro _; simp [hdep]), by first | exact h52 | exact fun _ => rfl | (intro _; simp [hdep]), by first | exact h53 | exact fun _ => rfl | (intro _; simp [hdep]), by first | exact J1 | exact fun _ => rfl | (intro _; simp [hdep])⟩
        · obtain rfl := h51 (by simp [hdep])
          obtain rfl := h52 (by simp [hdep])
          go_simp
          go_at_call 38
          refine (S2.out _).mono ?_
          rintro e w1 ⟨rfl, hb⟩
          refine hK.out _ _ ?_
          exact ⟨_, _, _, _, _, _, _, _, _, _, _, rfl, rfl, EH.out.call hb, by first | exact h49 | exact fun _ => rfl | (intro _; simp [hdep]), by first | exact h50 | exact fun _ => rfl | (intro _; simp [hdep]), by first | exact h51 | exact fun _ => rfl | (intro _; simp [hdep]), by first | exact h52 | exact fun _ => rfl | (intro _; simp [hdep]), by first | exact h53 | exact fun _ => rfl | (intro _; simp [hdep]), by first | exact J1 | exact fun _ => rfl | (intro _; simp [hdep])⟩
        · obtain rfl := h53 (by simp [hdep])
          have hq_ := EH.out.cell (b := b12) (v := g) (by simp)
          have hz_ := EH.out.frz (b := b12) (v := g) (by simp)
          go_simp
          refine hK.out _ _ ?_
          exact ⟨_, _, _, _, _, _, _, _, _, _, _, rfl, rfl, ((EH.out.perm (List.Perm.refl _)).set n2).perm (List.Perm.refl _).symm, by first | exact h49 | exact fun _ => rfl | (intro _; simp [hdep]), by first | exact h50 | exact fun _ => rfl | (intro _; simp [hdep]), by first | exact h51 | exact fun _ => rfl | (intro _; simp [hdep]), by first | exact h52 | exact fun _ => rfl | (intro _; simp [hdep]), by first | exact h53 | exact fun _ => rfl | (intro _; simp [hdep]), by first | exact J1 | exact fun _ => rfl | (intro _; simp [hdep])⟩
    case hstep_10 =>
      intro listed act_ w' i hs hi hI
      simp only [Act.put, List.setIfInBounds_toArray, List.set_cons_zero, List.set_cons_succ] at hI ⊢
      obtain ⟨l0, l1, l2, l3, l4, l5, u44, u45, u46, u47, u48, rfl, rfl, EE, h44, h45, h46, h47, h48, J1⟩ := hI
      obtain ⟨hf, o, ho, hdep⟩ := mem_ready.1 hi
      have hin : i = 0 ∨ i = 1 ∨ i = 2 ∨ i = 3 ∨ i = 4 ∨ i = 5 := by
        rcases Nat.lt_or_ge i 6 with h | h
        · omega
        · rw [Array.getElem?_eq_none h] at ho
          cases ho
      have EH := Lib.hid EE
      clear EE  hi hs
      rcases hin with rfl | rfl | rfl | rfl | rfl | rfl
      all_goals
        have ho2 := ho
        simp only [List.getElem?_toArray, List.getElem?_cons_zero, List.getElem?_cons_succ, Option.some.injEq] at ho2
        subst ho2
        simp [Region.binds] at hdep hf
        subst hf
        refine wpOp_step ho (fun K hK => ?_)
        replace hK := Lib.hid hK
        clear ho
      · have hq_ := EH.out.cell (b := b10) (v := dl) (by simp [mm10])
        go_simp
        refine hK.out _ _ ?_
        exact ⟨_, _, _, _, _, _, _, _, _, _, _, rfl, rfl, EH.out, by first | exact h44 | exact fun _ => rfl | (intro _; simp [hdep]), by first | exact h45 | exact fun _ => rfl | (intro _; simp [hdep]), by first | exact h46 | exact fun _ => rfl | (intro _; simp [hdep]), by first | exact h47 | exact fun _ => rfl | (intro _; simp [hdep]), by first | exact h48 | exact fun _ => rfl | (intro _; simp [hdep]), by first | exact J1 | exact fun _ => rfl | (intro _; simp [hdep])⟩
      · have hl_ : l5 = false := by
          cases hx_ : l5 with
          | false => rfl
          | true => have := J1 hx_; simp at this
        subst hl_
        have hq_ := EH.out.cell (b := b11) (v := r) (by simp)
        go_simp
        refine hK.out _ _ ?_
        exact ⟨_, _, _, _, _, _, _, _, _, _, _, rfl, rfl, EH.out, by first | exact h44 | exact fun _ => rfl | (intro _; simp [hdep]), by first | exact h45 | exact fun _ => rfl | (intro _; simp [hdep]), by first | exact h46 | exact fun _ => rfl | (intro _; simp [hdep]), by first | exact h47 | exact fun _ => rfl | (intro _; simp [hdep]), by first | exact h48 | exact fun _ => rfl | (intro _; simp [hdep]), by first | exact J1 | exact fun _ => rfl | (intro _; simp [hdep])⟩
      · obtain rfl := h44 (by simp [hdep])
        obtain rfl := h45 (by simp [hdep])
        go_simp
        go_at_call 41
        refine (P1.out _).mono ?_
        rintro e w1 ⟨rfl, hb⟩
        refine hK.out _ _ ?_
        exact ⟨_, _, _, _, _, _, _, _, _, _, _, rfl, rfl, EH.out.call hb, by first | exact h44 | exact fun _ => rfl | (intro _; simp [hdep]), by first | exact h45 | exact fun _ => rfl | (intro _; simp [hdep]), by first | exact h46 | exact fun _ => rfl | (intro _; simp [hdep]), by first | exact h47 | exact fun _ => rfl | (intro _; simp [hdep]), by first | exact h48 | exact fun _ => rfl | (intro _; simp [hdep]), by first | exact J1 | exact fun _ => rfl | (intro _; simp [hdep])⟩
      · have hq_ := EH.out.cell (b := N1) (v := wq) (by simp [mm1])
        go_simp
        refine hK.out _ _ ?_
        exact ⟨_, _, _, _, _, _, _, _, _, _, _, rfl, rfl, EH.out, by first | exact h44 | exact fun _ => rfl | (intro _; simp [hdep]), by first | exact h45 | exact fun _ => rfl | (intro _; simp [hdep]), by first | exact h46 | exact fun _ => rfl | (intro _; simp [hdep]), by first | exact h47 | exact fun _ => rfl | (intro _; simp [hdep]), by first | exact h48 | exact fun _ => rfl | (intro _; simp [hdep]), by first | exact J1 | exact fun _ => rfl | (intro _; simp [hdep])⟩
      · obtain rfl := h46 (by simp [hdep])
        obtain rfl := h47 (by simp [hdep])
        go_simp
        go_at_call 38
        refine (S1.out _).mono ?_
        rintro e w1 ⟨rfl, hb⟩
        refine hK.out _ _ ?_
        exact ⟨_, _, _, _, _, _, _, _, _, _, _, rfl, rfl, EH.out.call hb, by first | exact h44 | exact fun _ => rfl | (intro _; simp [hdep]), by first | exact h45 | exact fun _ => rfl | (intro _; simp [hdep]), by first | exact h46 | exact fun _ => rfl | (intro _; simp [hdep]), by first | exact h47 | exact fun _ => rfl | (intro _; simp [hdep]), by first | exact h48 | exact fun _ => rfl | (intro _; simp [hdep]), by first | exact J1 | exact fun _ => rfl | (intro _; simp [hdep])⟩
      · obtain rfl := h48 (by simp [hdep])
        have hq_ := EH.out.cell (b := b11) (v := r) (by simp)
        have hz_ := EH.out.frz (b := b11) (v := r) (by simp)
        go_simp
        refine hK.out _ _ ?_
        exact ⟨_, _, _, _, _, _, _, _, _, _, _, rfl, rfl, ((EH.out.perm (List.Perm.refl _)).set n1).perm (List.Perm.refl _).symm, by first | exact h44 | exact fun _ => rfl | (intro _; simp [hdep]), by first | exact h45 | exact fun _ => rfl | (intro _; simp [hdep]), by first | exact h46 | exact fun _ => rfl | (intro _; simp [hdep]), by first | exact h47 | exact fun _ => rfl | (intro _; simp [hdep]), by first | exact h48 | exact fun _ => rfl | (intro _; simp [hdep]), by first | exact J1 | exact fun _ => rfl | (intro _; simp [hdep])⟩
  case hstep_11 =>
    intro listed act_ w' i hs hi hI
    simp only [Act.put, List.setIfInBounds_toArray, List.set_cons_zero, List.set_cons_succ] at hI ⊢
    obtain ⟨l0, l1, l2, l3, l4, l5, l6, l7, l8, l9, l10, l11, l12, l13, u11, u12, u13, u36, u37, u38, u39, u40, u41, u42, u43, o11, o12, o13, rfl, rfl, EE, O11, O12, O13, h37, h38, h39, h40, h36, h41, h42, h43⟩ := hI
    obtain ⟨hf, o, ho, hdep⟩ := mem_ready.1 hi
    have hin : i = 0 ∨ i = 1 ∨ i = 2 ∨ i = 3 ∨ i = 4 ∨ i = 5 ∨ i = 6 ∨ i = 7 ∨ i = 8 ∨ i = 9 ∨ i = 10 ∨ i = 11 ∨ i = 12 ∨ i = 13 := by
      rcases Nat.lt_or_ge i 14 with h | h
      · omega
      · rw [Array.getElem?_eq_none h] at ho
        cases ho
    have EH := Lib.hid EE
    have OH11 := Lib.hid O11
    have OH12 := Lib.hid O12
    have OH13 := Lib.hid O13
    clear EE O11 O12 O13 hi hs
    rcases hin with rfl | rfl | rfl | rfl | rfl | rfl | rfl | rfl | rfl | rfl | rfl | rfl | rfl | rfl
    all_goals
      have ho2 := ho
      simp only [List.getElem?_toArray, List.getElem?_cons_zero, List.getElem?_cons_succ, Option.some.injEq] at ho2
      subst ho2
      simp [Region.binds] at hdep hf
      subst hf
      refine wpOp_step ho (fun K hK => ?_)
      replace hK := Lib.hid hK
      clear ho
    · have hq_ := EH.out.cell (b := N0) (v := h0) (by simp [m0])
      go_simp
      refine hK.out _ _ ?_
      exact ⟨_, _, _, _, _, _, _, _, _, _, _, _, _, _, _, _, _, _, _, _, _, _, _, _, _, o11, o12, o13, rfl, rfl, EH.out, OH11.out, OH12.out, OH13.out, by first | exact h37 | exact fun _ => rfl | (intro _; simp [hdep]), by first | exact h38 | exact fun _ => rfl | (intro _; simp [hdep]), by first | exact h39 | exact fun _ => rfl | (intro _; simp [hdep]), by first | exact h40 | exact fun _ => rfl | (intro _; simp [hdep]), by first | exact h36 | exact fun _ => rfl | (intro _; simp [hdep]), by first | exact h41 | exact fun _ => rfl | (intro _; simp [hdep]), by first | exact h42 | exact fun _ => rfl | (intro _; simp [hdep]), by first | exact h43 | exact fun _ => rfl | (intro _; simp [hdep])⟩
    · go_simp
      go_at_call 25
      refine (fnewB _ _).mono ?_
      rintro e w1 ⟨rfl, hb⟩
      refine hK.out _ _ ?_
      exact ⟨_, _, _, _, _, _, _, _, _, _, _, _, _, _, _, _, _, _, _, _, _, _, _, _, _, o11, o12, o13, rfl, rfl, EH.out.call hb, OH11.out, OH12.out, OH13.out, by first | exact h37 | exact fun _ => rfl | (intro _; simp [hdep]), by first | exact h38 | exact fun _ => rfl | (intro _; simp [hdep]), by first | exact h39 | exact fun _ => rfl | (intro _; simp [hdep]), by first | exact h40 | exact fun _ => rfl | (intro _; simp [hdep]), by first | exact h36 | exact fun _ => rfl | (intro _; simp [hdep]), by first | exact h41 | exact fun _ => rfl | (intro _; simp [hdep]), by first | exact h42 | exact fun _ => rfl | (intro _; simp [hdep]), by first | exact h43 | exact fun _ => rfl | (intro _; simp [hdep])⟩
    · go_simp
      go_at_call 25
      refine (fnewB _ _).mono ?_
      rintro e w1 ⟨rfl, hb⟩
      refine hK.out _ _ ?_
      exact ⟨_, _, _, _, _, _, _, _, _, _, _, _, _, _, _, _, _, _, _, _, _, _, _, _, _, o11, o12, o13, rfl, rfl, EH.out.call hb, OH11.out, OH12.out, OH13.out, by first | exact h37 | exact fun _ => rfl | (intro _; simp [hdep]), by first | exact h38 | exact fun _ => rfl | (intro _; simp [hdep]), by first | exact h39 | exact fun _ => rfl | (intro _; simp [hdep]), by first | exact h40 | exact fun _ => rfl | (intro _; simp [hdep]), by first | exact h36 | exact fun _ => rfl | (intro _; simp [hdep]), by first | exact h41 | exact fun _ => rfl | (intro _; simp [hdep]), by first | exact h42 | exact fun _ => rfl | (intro _; simp [hdep]), by first | exact h43 | exact fun _ => rfl | (intro _; simp [hdep])⟩
    · obtain rfl := h37 (by simp [hdep])
      obtain rfl := h38 (by simp [hdep])
      obtain rfl := h39 (by simp [hdep])
      go_simp
      go_at_call 40
      refine (KH.out _).mono ?_
      rintro e w1 ⟨rfl, hb⟩
      refine hK.out _ _ ?_
      exact ⟨_, _, _, _, _, _, _, _, _, _, _, _, _, _, _, _, _, _, _, _, _, _, _, _, _, o11, o12, o13, rfl, rfl, EH.out.call hb, OH11.out, OH12.out, OH13.out, by first | exact h37 | exact fun _ => rfl | (intro _; simp [hdep]), by first | exact h38 | exact fun _ => rfl | (intro _; simp [hdep]), by first | exact h39 | exact fun _ => rfl | (intro _; simp [hdep]), by first | exact h40 | exact fun _ => rfl | (intro _; simp [hdep]), by first | exact h36 | exact fun _ => rfl | (intro _; simp [hdep]), by first | exact h41 | exact fun _ => rfl | (intro _; simp [hdep]), by first | exact h42 | exact fun _ => rfl | (intro _; simp [hdep]), by first | exact h43 | exact fun _ => rfl | (intro _; simp [hdep])⟩
    · obtain rfl := h40 (by simp [hdep])
      go_simp
      refine hK.out _ _ ?_
      exact ⟨_, _, _, _, _, _, _, _, _, _, _, _, _, _, _, _, _, _, _, _, _, _, _, _, _, o11, o12, o13, rfl, rfl, EH.out, OH11.out, OH12.out, OH13.out, by first | exact h37 | exact fun _ => rfl | (intro _; simp [hdep]), by first | exact h38 | exact fun _ => rfl | (intro _; simp [hdep]), by first | exact h39 | exact fun _ => rfl | (intro _; simp [hdep]), by first | exact h40 | exact fun _ => rfl | (intro _; simp [hdep]), by first | exact h36 | exact fun _ => rfl | (intro _; simp [hdep]), by first | exact h41 | exact fun _ => rfl | (intro _; simp [hdep]), by first | exact h42 | exact fun _ => rfl | (intro _; simp [hdep]), by first | exact h43 | exact fun _ => rfl | (intro _; simp [hdep])⟩
    · obtain rfl := h36 (by simp [hdep])
      go_simp
      refine hK.out _ _ ?_
      exact ⟨_, _, _, _, _, _, _, _, _, _, _, _, _, _, _, _, _, _, _, _, _, _, _, _, _, o11, o12, o13, rfl, rfl, EH.out, OH11.out, OH12.out, OH13.out, by first | exact h37 | exact fun _ => rfl | (intro _; simp [hdep]), by first | exact h38 | exact fun _ => rfl | (intro _; simp [hdep]), by first | exact h39 | exact fun _ => rfl | (intro _; simp [hdep]), by first | exact h40 | exact fun _ => rfl | (intro _; simp [hdep]), by first | exact h36 | exact fun _ => rfl | (intro _; simp [hdep]), by first | exact h41 | exact fun _ => rfl | (intro _; simp [hdep]), by first | exact h42 | exact fun _ => rfl | (intro _; simp [hdep]), by first | exact h43 | exact fun _ => rfl | (intro _; simp [hdep])⟩
    · obtain rfl := h36 (by simp [hdep])
      go_simp
      refine hK.out _ _ ?_
      exact ⟨_, _, _, _, _, _, _, _, _, _, _, _, _, _, _, _, _, _, _, _, _, _, _, _, _, o11, o12, o13, rfl, rfl, EH.out, OH11.out, OH12.out, OH13.out, by first | exact h37 | exact fun _ => rfl | (intro _; simp [hdep]), by first | exact h38 | exact fun _ => rfl | (intro _; simp [hdep]), by first | exact h39 | exact fun _ => rfl | (intro _; simp [hdep]), by first | exact h40 | exact fun _ => rfl | (intro _; simp [hdep]), by first | exact h36 | exact fun _ => rfl | (intro _; simp [hdep]), by first | exact h41 | exact fun _ => rfl | (intro _; simp [hdep]), by first | exact h42 | exact fun _ => rfl | (intro _; simp [hdep]), by first | exact h43 | exact fun _ => rfl | (intro _; simp [hdep])⟩
    · obtain rfl := h36 (by simp [hdep])
      go_simp
      refine hK.out _ _ ?_
      exact ⟨_, _, _, _, _, _, _, _, _, _, _, _, _, _, _, _, _, _, _, _, _, _, _, _, _, o11, o12, o13, rfl, rfl, EH.out, OH11.out, OH12.out, OH13.out, by first | exact h37 | exact fun _ => rfl | (intro _; simp [hdep]), by first | exact h38 | exact fun _ => rfl | (intro _; simp [hdep]), by first | exact h39 | exact fun _ => rfl | (intro _; simp [hdep]), by first | exact h40 | exact fun _ => rfl | (intro _; simp [hdep]), by first | exact h36 | exact fun _ => rfl | (intro _; simp [hdep]), by first | exact h41 | exact fun _ => rfl | (intro _; simp [hdep]), by first | exact h42 | exact fun _ => rfl | (intro _; simp [hdep]), by first | exact h43 | exact fun _ => rfl | (intro _; simp [hdep])⟩
    · obtain rfl := OH11.out.1 rfl
      go_simp
      refine hK.out _ _ ?_
      exact ⟨_, _, _, _, _, _, _, _, _, _, _, _, _, _, _, _, _, _, _, _, _, _, _, _, _, [(w'.heap.size, 0)], o12, o13, rfl, rfl, (EH.out.new 0 56).perm (List.Perm.refl _).symm, ⟨by simp, fun _ => ⟨_, _, rfl, rfl, fun h => by have := OH11.out.2.2 h; simp at this⟩, fun _ => rfl⟩, OH12.out, OH13.out, by first | exact h37 | exact fun _ => rfl | (intro _; simp [hdep]), by first | exact h38 | exact fun _ => rfl | (intro _; simp [hdep]), by first | exact h39 | exact fun _ => rfl | (intro _; simp [hdep]), by first | exact h40 | exact fun _ => rfl | (intro _; simp [hdep]), by first | exact h36 | exact fun _ => rfl | (intro _; simp [hdep]), by first | exact h41 | exact fun _ => rfl | (intro _; simp [hdep]), by first | exact h42 | exact fun _ => rfl | (intro _; simp [hdep]), by first | exact h43 | exact fun _ => rfl | (intro _; simp [hdep])⟩
    · obtain rfl := OH12.out.1 rfl
      go_simp
      refine hK.out _ _ ?_
      exact ⟨_, _, _, _, _, _, _, _, _, _, _, _, _, _, _, _, _, _, _, _, _, _, _, _, _, o11, [(w'.heap.size, 0)], o13, rfl, rfl, (EH.out.new 0 56).perm (((List.Perm.append_left _ (List.Perm.refl _)).trans List.perm_middle)).symm, OH11.out, ⟨by simp, fun _ => ⟨_, _, rfl, rfl, fun h => by have := OH12.out.2.2 h; simp at this⟩, fun _ => rfl⟩, OH13.out, by first | exact h37 | exact fun _ => rfl | (intro _; simp [hdep]), by first | exact h38 | exact fun _ => rfl | (intro _; simp [hdep]), by first | exact h39 | exact fun _ => rfl | (intro _; simp [hdep]), by first | exact h40 | exact fun _ => rfl | (intro _; simp [hdep]), by first | exact h36 | exact fun _ => rfl | (intro _; simp [hdep]), by first | exact h41 | exact fun _ => rfl | (intro _; simp [hdep]), by first | exact h42 | exact fun _ => rfl | (intro _; simp [hdep]), by first | exact h43 | exact fun _ => rfl | (intro _; simp [hdep])⟩
    · obtain rfl := OH13.out.1 rfl
      go_simp
      refine hK.out _ _ ?_
      exact ⟨_, _, _, _, _, _, _, _, _, _, _, _, _, _, _, _, _, _, _, _, _, _, _, _, _, o11, o12, [(w'.heap.size, 0)], rfl, rfl, (EH.out.new 0 56).perm (((List.Perm.append_left _ (((List.Perm.append_left _ (List.Perm.refl _)).trans List.perm_middle))).trans List.perm_middle)).symm, OH11.out, OH12.out, ⟨by simp, fun _ => ⟨_, _, rfl, rfl, fun h => by have := OH13.out.2.2 h; simp at this⟩, fun _ => rfl⟩, by first | exact h37 | exact fun _ => rfl | (intro _; simp [hdep]), by first | exact h38 | exact fun _ => rfl | (intro _; simp [hdep]), by first | exact h39 | exact fun _ => rfl | (intro _; simp [hdep]), by first | exact h40 | exact fun _ => rfl | (intro _; simp [hdep]), by first | exact h36 | exact fun _ => rfl | (intro _; simp [hdep]), by first | exact h41 | exact fun _ => rfl | (intro _; simp [hdep]), by first | exact h42 | exact fun _ => rfl | (intro _; simp [hdep]), by first | exact h43 | exact fun _ => rfl | (intro _; simp [hdep])⟩
    · obtain ⟨b_, v_, rfl, rfl, _⟩ := OH11.out.2.1 (by simp [hdep])
      obtain rfl := h41 (by simp [hdep])
      have hq_ := EH.out.cell (b := b_) (v := v_) (by simp)
      have hz_ := EH.out.frz (b := b_) (v := v_) (by simp)
      go_simp
      refine hK.out _ _ ?_
      exact ⟨_, _, _, _, _, _, _, _, _, _, _, _, _, _, _, _, _, _, _, _, _, _, _, _, _, [(b_, r)], o12, o13, rfl, rfl, ((EH.out.perm (List.Perm.refl _)).set r).perm (List.Perm.refl _).symm, ⟨by simp [hdep], fun _ => ⟨_, _, rfl, rfl, fun _ => rfl⟩, fun _ => by simp [hdep]⟩, OH12.out, OH13.out, by first | exact h37 | exact fun _ => rfl | (intro _; simp [hdep]), by first | exact h38 | exact fun _ => rfl | (intro _; simp [hdep]), by first | exact h39 | exact fun _ => rfl | (intro _; simp [hdep]), by first | exact h40 | exact fun _ => rfl | (intro _; simp [hdep]), by first | exact h36 | exact fun _ => rfl | (intro _; simp [hdep]), by first | exact h41 | exact fun _ => rfl | (intro _; simp [hdep]), by first | exact h42 | exact fun _ => rfl | (intro _; simp [hdep]), by first | exact h43 | exact fun _ => rfl | (intro _; simp [hdep])⟩
    · obtain ⟨b_, v_, rfl, rfl, _⟩ := OH12.out.2.1 (by simp [hdep])
      obtain rfl := h42 (by simp [hdep])
      have hq_ := EH.out.cell (b := b_) (v := v_) (by simp)
      have hz_ := EH.out.frz (b := b_) (v := v_) (by simp)
      go_simp
      refine hK.out _ _ ?_
      exact ⟨_, _, _, _, _, _, _, _, _, _, _, _, _, _, _, _, _, _, _, _, _, _, _, _, _, o11, [(b_, g)], o13, rfl, rfl, ((EH.out.perm (((List.Perm.append_left _ (List.Perm.refl _)).trans List.perm_middle))).set g).perm (((List.Perm.append_left _ (List.Perm.refl _)).trans List.perm_middle)).symm, OH11.out, ⟨by simp [hdep], fun _ => ⟨_, _, rfl, rfl, fun _ => rfl⟩, fun _ => by simp [hdep]⟩, OH13.out, by first | exact h37 | exact fun _ => rfl | (intro _; simp [hdep]), by first | exact h38 | exact fun _ => rfl | (intro _; simp [hdep]), by first | exact h39 | exact fun _ => rfl | (intro _; simp [hdep]), by first | exact h40 | exact fun _ => rfl | (intro _; simp [hdep]), by first | exact h36 | exact fun _ => rfl | (intro _; simp [hdep]), by first | exact h41 | exact fun _ => rfl | (intro _; simp [hdep]), by first | exact h42 | exact fun _ => rfl | (intro _; simp [hdep]), by first | exact h43 | exact fun _ => rfl | (intro _; simp [hdep])⟩
    · obtain ⟨b_, v_, rfl, rfl, _⟩ := OH13.out.2.1 (by simp [hdep])
      obtain rfl := h43 (by simp [hdep])
      have hq_ := EH.out.cell (b := b_) (v := v_) (by simp)
      have hz_ := EH.out.frz (b := b_) (v := v_) (by simp)
      go_simp
      refine hK.out _ _ ?_
      exact ⟨_, _, _, _, _, _, _, _, _, _, _, _, _, _, _, _, _, _, _, _, _, _, _, _, _, o11, o12, [(b_, b)], rfl, rfl, ((EH.out.perm (((List.Perm.append_left _ (((List.Perm.append_left _ (List.Perm.refl _)).trans List.perm_middle))).trans List.perm_middle))).set b).perm (((List.Perm.append_left _ (((List.Perm.append_left _ (List.Perm.refl _)).trans List.perm_middle))).trans List.perm_middle)).symm, OH11.out, OH12.out, ⟨by simp [hdep], fun _ => ⟨_, _, rfl, rfl, fun _ => rfl⟩, fun _ => by simp [hdep]⟩, by first | exact h37 | exact fun _ => rfl | (intro _; simp [hdep]), by first | exact h38 | exact fun _ => rfl | (intro _; simp [hdep]), by first | exact h39 | exact fun _ => rfl | (intro _; simp [hdep]), by first | exact h40 | exact fun _ => rfl | (intro _; simp [hdep]), by first | exact h36 | exact fun _ => rfl | (intro _; simp [hdep]), by first | exact h41 | exact fun _ => rfl | (intro _; simp [hdep]), by first | exact h42 | exact fun _ => rfl | (intro _; simp [hdep]), by first | exact h43 | exact fun _ => rfl | (intro _; simp [hdep])⟩

set_option maxRecDepth 20000 in
set_option maxHeartbeats 8000000 in
theorem zzrgb11 (x y z r g b : Nat) (w : World)
    (K : ∀ w, Calls Try.prog 27 #[.agg #[.float .f64 x], .agg #[.float .f64 y], .agg #[.float .f64 z]] w fun e w' => e = .returned (.tuple #[.agg #[.float .f64 r], .agg #[.float .f64 g], .agg #[.float .f64 b]]) ∧ Below w.heap.size w w') :
    Calls Try.prog 11 #[.float .f64 x, .float .f64 y, .float .f64 z] w fun e w' => e = .returned (.tuple #[.float .f64 r, .float .f64 g, .float .f64 b]) ∧ Below w.heap.size w w' := by
  have K0 := Lib.hid K
  clear K
  have hsz : ∀ (w : World) o, (w.alloc o).heap.size = w.heap.size + 1 := fun w o => by simp
  go_enter Try.func11, Try.ntmps11
  go_wp2_with (go_at_call 25; refine (fnew _ _).mono ?_; rintro e w1 ⟨rfl, rfl⟩)
  have E0 := (((Ev.start w).grow (.cells #[.float .f64 x] 56)).grow (.cells #[.float .f64 y] 56)).grow (.cells #[.float .f64 z] 56)
  refine (K0.out _).mono ?_
  rintro e w1 ⟨rfl, hb1⟩
  have E1 := ((E0.call hb1).new r 56).new g 56 |>.new b 56
  simp only [hsz] at E1
  clear hb1 E0
  go_upto_region 2 with fail
  obtain ⟨L, hL⟩ : ∃ L, L = [(w1.heap.size + 1 + 1, b), (w1.heap.size + 1, g), (w1.heap.size, r)] := ⟨_, rfl⟩
  obtain ⟨b9, hb9⟩ : ∃ n, n = w1.heap.size := ⟨_, rfl⟩
  rw [← hb9] at hL
  have m9 : (b9, r) ∈ L := by rw [hL]; simp
  have m10 : (b9 + 1, g) ∈ L := by rw [hL]; simp
  have m11 : (b9 + 1 + 1, b) ∈ L := by rw [hL]; simp
  rw [← hb9, ← hL] at E1
  rw [← hb9]
  clear hL hb9
  refine wp_region_invB' (fun A0 listed act_ w' => ∃ l0 l1 l2 l3 l4 l5 l6 l7 l8 : Bool, ∃ u6 u7 u8 u23 u24 u25 u26 u27 u28 : Value, listed = #[l0, l1, l2, l3, l4, l5, l6, l7, l8] ∧ act_ = (((((((((A0.put (some 6) u6).put (some 7) u7).put (some 8) u8).put (some 23) u23).put (some 24) u24).put (some 25) u25).put (some 26) u26).put (some 27) u27).put (some 28) u28) ∧ Ev w w' L ∧ (l0 = true → u23 = .agg #[.float .f64 r]) ∧ (l1 = true → u24 = .float .f64 r) ∧ (l2 = true → u25 = .agg #[.float .f64 g]) ∧ (l3 = true → u26 = .float .f64 g) ∧ (l4 = true → u27 = .agg #[.float .f64 b]) ∧ (l5 = true → u28 = .float .f64 b) ∧ (l6 = true → u6 = .float .f64 r) ∧ (l7 = true → u7 = .float .f64 g) ∧ (l8 = true → u8 = .float .f64 b)) (by kernel_rfl) (by kernel_rfl) ?h0_12 ?hstep_12 ?hend_12
  case h0_12 =>
    simp only [Act.put, List.setIfInBounds_toArray, List.set_cons_zero, List.set_cons_succ]
    refine ⟨false, false, false, false, false, false, false, false, false, _, _, _, _, _, _, _, _, _, rfl, rfl, E1.drew, ?_⟩
    simp
  case hend_12 =>
    intro listed act_ w' hs hall hI
    simp only [Act.put, List.setIfInBounds_toArray, List.set_cons_zero, List.set_cons_succ] at hI
    obtain ⟨l0, l1, l2, l3, l4, l5, l6, l7, l8, u6, u7, u8, u23, u24, u25, u26, u27, u28, rfl, rfl, EE, h23, h24, h25, h26, h27, h28, h6, h7, h8⟩ := hI
    have t0 := hall 0 (by simp)
    have t1 := hall 1 (by simp)
    have t2 := hall 2 (by simp)
    have t3 := hall 3 (by simp)
    have t4 := hall 4 (by simp)
    have t5 := hall 5 (by simp)
    have t6 := hall 6 (by simp)
    have t7 := hall 7 (by simp)
    have t8 := hall 8 (by simp)
    simp at t0 t1 t2 t3 t4 t5 t6 t7 t8
    obtain rfl := h23 t0
    obtain rfl := h24 t1
    obtain rfl := h25 t2
    obtain rfl := h26 t3
    obtain rfl := h27 t4
    obtain rfl := h28 t5
    obtain rfl := h6 t6
    obtain rfl := h7 t7
    obtain rfl := h8 t8
    clear hall
    go_wp2_with fail
    go_ret3
    exact ⟨rfl, EE.below⟩
  case hstep_12 =>
    intro listed act_ w' i hs hi hI
    simp only [Act.put, List.setIfInBounds_toArray, List.set_cons_zero, List.set_cons_succ] at hI ⊢
    obtain ⟨l0, l1, l2, l3, l4, l5, l6, l7, l8, u6, u7, u8, u23, u24, u25, u26, u27, u28, rfl, rfl, EE, h23, h24, h25, h26, h27, h28, h6, h7, h8⟩ := hI
    obtain ⟨hf, o, ho, hdep⟩ := mem_ready.1 hi
    have hin : i = 0 ∨ i = 1 ∨ i = 2 ∨ i = 3 ∨ i = 4 ∨ i = 5 ∨ i = 6 ∨ i = 7 ∨ i = 8 := by
      rcases Nat.lt_or_ge i 9 with h | h
      · omega
      · rw [Array.getElem?_eq_none h] at ho
        cases ho
    have EH := Lib.hid EE
    clear EE  hi hs
    rcases hin with rfl | rfl | rfl | rfl | rfl | rfl | rfl | rfl | rfl
    all_goals
      have ho2 := ho
      simp only [List.getElem?_toArray, List.getElem?_cons_zero, List.getElem?_cons_succ, Option.some.injEq] at ho2
      subst ho2
      simp [Region.binds] at hdep hf
      subst hf
      refine wpOp_step ho (fun K hK => ?_)
      replace hK := Lib.hid hK
      clear ho
    · have hq_ := EH.out.cell (b := b9) (v := r) (by simp [m9])
      go_simp
      refine hK.out _ _ ?_
      exact ⟨_, _, _, _, _, _, _, _, _, _, _, _, _, _, _, _, _, _, rfl, rfl, EH.out, by first | exact h23 | exact fun _ => rfl | (intro _; simp [hdep]), by first | exact h24 | exact fun _ => rfl | (intro _; simp [hdep]), by first | exact h25 | exact fun _ => rfl | (intro _; simp [hdep]), by first | exact h26 | exact fun _ => rfl | (intro _; simp [hdep]), by first | exact h27 | exact fun _ => rfl | (intro _; simp [hdep]), by first | exact h28 | exact fun _ => rfl | (intro _; simp [hdep]), by first | exact h6 | exact fun _ => rfl | (intro _; simp [hdep]), by first | exact h7 | exact fun _ => rfl | (intro _; simp [hdep]), by first | exact h8 | exact fun _ => rfl | (intro _; simp [hdep])⟩
    · obtain rfl := h23 (by simp [hdep])
      go_simp
      go_at_call 26
      refine (fvalueB _ _).mono ?_
      rintro e w1 ⟨rfl, hb⟩
      refine hK.out _ _ ?_
      exact ⟨_, _, _, _, _, _, _, _, _, _, _, _, _, _, _, _, _, _, rfl, rfl, EH.out.call hb, by first | exact h23 | exact fun _ => rfl | (intro _; simp [hdep]), by first | exact h24 | exact fun _ => rfl | (intro _; simp [hdep]), by first | exact h25 | exact fun _ => rfl | (intro _; simp [hdep]), by first | exact h26 | exact fun _ => rfl | (intro _; simp [hdep]), by first | exact h27 | exact fun _ => rfl | (intro _; simp [hdep]), by first | exact h28 | exact fun _ => rfl | (intro _; simp [hdep]), by first | exact h6 | exact fun _ => rfl | (intro _; simp [hdep]), by first | exact h7 | exact fun _ => rfl | (intro _; simp [hdep]), by first | exact h8 | exact fun _ => rfl | (intro _; simp [hdep])⟩
    · have hq_ := EH.out.cell (b := (b9 + 1)) (v := g) (by simp [m10])
      go_simp
      refine hK.out _ _ ?_
      exact ⟨_, _, _, _, _, _, _, _, _, _, _, _, _, _, _, _, _, _, rfl, rfl, EH.out, by first | exact h23 | exact fun _ => rfl | (intro _; simp [hdep]), by first | exact h24 | exact fun _ => rfl | (intro _; simp [hdep]), by first | exact h25 | exact fun _ => rfl | (intro _; simp [hdep]), by first | exact h26 | exact fun _ => rfl | (intro _; simp [hdep]), by first | exact h27 | exact fun _ => rfl | (intro _; simp [hdep]), by first | exact h28 | exact fun _ => rfl | (intro _; simp [hdep]), by first | exact h6 | exact fun _ => rfl | (intro _; simp [hdep]), by first | exact h7 | exact fun _ => rfl | (intro _; simp [hdep]), by first | exact h8 | exact fun _ => rfl | (intro _; simp [hdep])⟩
    · obtain rfl := h25 (by simp [hdep])
      go_simp
      go_at_call 26
      refine (fvalueB _ _).mono ?_
      rintro e w1 ⟨rfl, hb⟩
      refine hK.out _ _ ?_
      exact ⟨_, _, _, _, _, _, _, _, _, _, _, _, _, _, _, _, _, _, rfl, rfl, EH.out.call hb, by first | exact h23 | exact fun _ => rfl | (intro _; simp [hdep]), by first | exact h24 | exact fun _ => rfl | (intro _; simp [hdep]), by first | exact h25 | exact fun _ => rfl | (intro _; simp [hdep]), by first | exact h26 | exact fun _ => rfl | (intro _; simp [hdep]), by first | exact h27 | exact fun _ => rfl | (intro _; simp [hdep]), by first | exact h28 | exact fun _ => rfl | (intro _; simp [hdep]), by first | exact h6 | exact fun _ => rfl | (intro _; simp [hdep]), by first | exact h7 | exact fun _ => rfl | (intro _; simp [hdep]), by first | exact h8 | exact fun _ => rfl | (intro _; simp [hdep])⟩
    · have hq_ := EH.out.cell (b := (b9 + 1 + 1)) (v := b) (by simp [m11])
      go_simp
      refine hK.out _ _ ?_
      exact ⟨_, _, _, _, _, _, _, _, _, _, _, _, _, _, _, _, _, _, rfl, rfl, EH.out, by first | exact h23 | exact fun _ => rfl | (intro _; simp [hdep]), by first | exact h24 | exact fun _ => rfl | (intro _; simp [hdep]), by first | exact h25 | exact fun _ => rfl | (intro _; simp [hdep]), by first | exact h26 | exact fun _ => rfl | (intro _; simp [hdep]), by first | exact h27 | exact fun _ => rfl | (intro _; simp [hdep]), by first | exact h28 | exact fun _ => rfl | (intro _; simp [hdep]), by first | exact h6 | exact fun _ => rfl | (intro _; simp [hdep]), by first | exact h7 | exact fun _ => rfl | (intro _; simp [hdep]), by first | exact h8 | exact fun _ => rfl | (intro _; simp [hdep])⟩
    · obtain rfl := h27 (by simp [hdep])
      go_simp
      go_at_call 26
      refine (fvalueB _ _).mono ?_
      rintro e w1 ⟨rfl, hb⟩
      refine hK.out _ _ ?_
      exact ⟨_, _, _, _, _, _, _, _, _, _, _, _, _, _, _, _, _, _, rfl, rfl, EH.out.call hb, by first | exact h23 | exact fun _ => rfl | (intro _; simp [hdep]), by first | exact h24 | exact fun _ => rfl | (intro _; simp [hdep]), by first | exact h25 | exact fun _ => rfl | (intro _; simp [hdep]), by first | exact h26 | exact fun _ => rfl | (intro _; simp [hdep]), by first | exact h27 | exact fun _ => rfl | (intro _; simp [hdep]), by first | exact h28 | exact fun _ => rfl | (intro _; simp [hdep]), by first | exact h6 | exact fun _ => rfl | (intro _; simp [hdep]), by first | exact h7 | exact fun _ => rfl | (intro _; simp [hdep]), by first | exact h8 | exact fun _ => rfl | (intro _; simp [hdep])⟩
    · obtain rfl := h24 (by simp [hdep])
      go_simp
      refine hK.out _ _ ?_
      exact ⟨_, _, _, _, _, _, _, _, _, _, _, _, _, _, _, _, _, _, rfl, rfl, EH.out, by first | exact h23 | exact fun _ => rfl | (intro _; simp [hdep]), by first | exact h24 | exact fun _ => rfl | (intro _; simp [hdep]), by first | exact h25 | exact fun _ => rfl | (intro _; simp [hdep]), by first | exact h26 | exact fun _ => rfl | (intro _; simp [hdep]), by first | exact h27 | exact fun _ => rfl | (intro _; simp [hdep]), by first | exact h28 | exact fun _ => rfl | (intro _; simp [hdep]), by first | exact h6 | exact fun _ => rfl | (intro _; simp [hdep]), by first | exact h7 | exact fun _ => rfl | (intro _; simp [hdep]), by first | exact h8 | exact fun _ => rfl | (intro _; simp [hdep])⟩
    · obtain rfl := h26 (by simp [hdep])
      go_simp
      refine hK.out _ _ ?_
      exact ⟨_, _, _, _, _, _, _, _, _, _, _, _, _, _, _, _, _, _, rfl, rfl, EH.out, by first | exact h23 | exact fun _ => rfl | (intro _; simp [hdep]), by first | exact h24 | exact fun _ => rfl | (intro _; simp [hdep]), by first | exact h25 | exact fun _ => rfl | (intro _; simp [hdep]), by first | exact h26 | exact fun _ => rfl | (intro _; simp [hdep]), by first | exact h27 | exact fun _ => rfl | (intro _; simp [hdep]), by first | exact h28 | exact fun _ => rfl | (intro _; simp [hdep]), by first | exact h6 | exact fun _ => rfl | (intro _; simp [hdep]), by first | exact h7 | exact fun _ => rfl | (intro _; simp [hdep]), by first | exact h8 | exact fun _ => rfl | (intro _; simp [hdep])⟩
    · obtain rfl := h28 (by simp [hdep])
      go_simp
      refine hK.out _ _ ?_
      exact ⟨_, _, _, _, _, _, _, _, _, _, _, _, _, _, _, _, _, _, rfl, rfl, EH.out, by first | exact h23 | exact fun _ => rfl | (intro _; simp [hdep]), by first | exact h24 | exact fun _ => rfl | (intro _; simp [hdep]), by first | exact h25 | exact fun _ => rfl | (intro _; simp [hdep]), by first | exact h26 | exact fun _ => rfl | (intro _; simp [hdep]), by first | exact h27 | exact fun _ => rfl | (intro _; simp [hdep]), by first | exact h28 | exact fun _ => rfl | (intro _; simp [hdep]), by first | exact h6 | exact fun _ => rfl | (intro _; simp [hdep]), by first | exact h7 | exact fun _ => rfl | (intro _; simp [hdep]), by first | exact h8 | exact fun _ => rfl | (intro _; simp [hdep])⟩
end Go.Proofs.Ytecdhjhobjagkaa
