/-
  The contracts of interpolateColors and its export. Condition: the operations have answers.
-/
import Derived.Test.YthhoalfilmlhaaaHc
import Derived.Test.YthhoalfilmlhaaaHd
import Derived.Test.YthhoalfilmlhaaaHx
namespace Go.Proofs.Ythhoalfilmlhaaa
open Go.ChangeShapes Go.WideShapes Go.ChangeAt Go.RowKit
attribute [local go_sem] run_store_float unary_neg_float

set_option maxRecDepth 20000 in
set_option maxHeartbeats 8000000 in
theorem col2 (a0 a1 a2 b0 b1 b2 t v0 v1 v2 : Nat) (m : Int) (w : World) (c0 : ∀ w, Calls Try.prog 12 #[.agg #[.float .f64 a0], .agg #[.float .f64 b0], .agg #[.float .f64 t], .int .u8 m] w fun e w' => e = .returned (.agg #[.float .f64 v0]) ∧ Below w.heap.size w w') (c1 : ∀ w, Calls Try.prog 20 #[.agg #[.float .f64 a1], .agg #[.float .f64 b1], .agg #[.float .f64 t]] w fun e w' => e = .returned (.agg #[.float .f64 v1]) ∧ Below w.heap.size w w') (c2 : ∀ w, Calls Try.prog 20 #[.agg #[.float .f64 a2], .agg #[.float .f64 b2], .agg #[.float .f64 t]] w fun e w' => e = .returned (.agg #[.float .f64 v2]) ∧ Below w.heap.size w w') :
    Calls Try.prog 15 #[.agg #[.float .f64 a0], .agg #[.float .f64 a1], .agg #[.float .f64 a2], .agg #[.float .f64 b0], .agg #[.float .f64 b1], .agg #[.float .f64 b2], .int .u8 2, .int .u8 m, .agg #[.float .f64 t]] w fun e w' => e = .returned (.tuple #[.agg #[.float .f64 v0], .agg #[.float .f64 v1], .agg #[.float .f64 v2]]) ∧ Below w.heap.size w w' := by
  have C0 := Lib.hid c0
  have C1 := Lib.hid c1
  have C2 := Lib.hid c2
  clear c0 c1 c2
  have hsz : ∀ (w : World) o, (w.alloc o).heap.size = w.heap.size + 1 := fun w o => by simp
  go_enter Try.func15, Try.ntmps15
  go_upto_region 1 with fail
  have E := (((((((((((Ev.start w).new a0 34).new a1 34).new a2 34).new b0 34).new b1 34).new b2 34).new t 34).new 0 34).new 0 34).new 0 34)
  simp only [hsz] at E
  generalize hG1 : w.heap.size + 1 = N1 at *
  generalize hG2 : N1 + 1 = N2 at *
  generalize hG3 : N2 + 1 = N3 at *
  generalize hG4 : N3 + 1 = N4 at *
  generalize hG5 : N4 + 1 = N5 at *
  generalize hG6 : N5 + 1 = N6 at *
  generalize hG7 : N6 + 1 = N7 at *
  generalize hG8 : N7 + 1 = N8 at *
  generalize hG9 : N8 + 1 = N9 at *
  clear hG1 hG2 hG3 hG4 hG5 hG6 hG7 hG8 hG9
  obtain ⟨N0, hN0⟩ : ∃ n, n = w.heap.size := ⟨_, rfl⟩
  rw [← hN0] at E
  rw [← hN0]
  clear hN0
  generalize ((((((((((w.alloc (.cells #[.float .f64 a0] 34)).alloc (.cells #[.float .f64 a1] 34)).alloc (.cells #[.float .f64 a2] 34)).alloc (.cells #[.float .f64 b0] 34)).alloc (.cells #[.float .f64 b1] 34)).alloc (.cells #[.float .f64 b2] 34)).alloc (.cells #[.float .f64 t] 34)).alloc (.cells #[.float .f64 0] 34)).alloc (.cells #[.float .f64 0] 34)).alloc (.cells #[.float .f64 0] 34)) = w1 at *
  have q0 := E.cell (b := N1) (v := a1) (by simp)
  have q1 := E.cell (b := N4) (v := b1) (by simp)
  have q2 := E.cell (b := N6) (v := t) (by simp)
  go_wp2_with fail
  refine (C1.out _).mono ?_
  rintro e w11 ⟨rfl, hb⟩
  replace E := E.call hb
  clear hb q0 q1 q2
  replace E : Ev w w11 [(N8, 0), (N9, 0), (N7, 0), (N6, t), (N5, b2), (N4, b1), (N3, b0), (N2, a2), (N1, a1), (N0, a0)] := E.mid 1 _ (N8, 0) rfl rfl
  have q0 := E.cell (b := N8) (v := 0) (by simp)
  have z0 := E.frz (b := N8) (v := 0) (by simp)
  go_upto_region 2 with fail
  replace E := E.set v1
  clear q0 z0
  generalize w11.setCell ⟨N8, 0, none⟩ (.float .f64 v1) = w12 at *
  have q0 := E.cell (b := N2) (v := a2) (by simp)
  have q1 := E.cell (b := N5) (v := b2) (by simp)
  have q2 := E.cell (b := N6) (v := t) (by simp)
  go_wp2_with fail
  refine (C2.out _).mono ?_
  rintro e w13 ⟨rfl, hb⟩
  replace E := E.call hb
  clear hb q0 q1 q2
  replace E : Ev w w13 [(N9, 0), (N8, v1), (N7, 0), (N6, t), (N5, b2), (N4, b1), (N3, b0), (N2, a2), (N1, a1), (N0, a0)] := E.mid 1 _ (N9, 0) rfl rfl
  have q0 := E.cell (b := N9) (v := 0) (by simp)
  have z0 := E.frz (b := N9) (v := 0) (by simp)
  go_upto_region 8 with fail
  replace E := E.set v2
  clear q0 z0
  generalize w13.setCell ⟨N9, 0, none⟩ (.float .f64 v2) = w14 at *
  have q0 := E.cell (b := N0) (v := a0) (by simp)
  have q1 := E.cell (b := N3) (v := b0) (by simp)
  have q2 := E.cell (b := N6) (v := t) (by simp)
  go_wp2_with fail
  refine (C0.out _).mono ?_
  rintro e w15 ⟨rfl, hb⟩
  replace E := E.call hb
  clear hb q0 q1 q2
  replace E : Ev w w15 [(N7, 0), (N9, v2), (N8, v1), (N6, t), (N5, b2), (N4, b1), (N3, b0), (N2, a2), (N1, a1), (N0, a0)] := E.mid 2 _ (N7, 0) rfl rfl
  have q0 := E.cell (b := N7) (v := 0) (by simp)
  have z0 := E.frz (b := N7) (v := 0) (by simp)
  go_upto_region 13 with fail
  replace E := E.set v0
  clear q0 z0
  generalize w15.setCell ⟨N7, 0, none⟩ (.float .f64 v0) = w16 at *
  replace E : Ev w w16 [(N9, v2), (N7, v0), (N8, v1), (N6, t), (N5, b2), (N4, b1), (N3, b0), (N2, a2), (N1, a1), (N0, a0)] := E.mid 1 _ (N9, v2) rfl rfl
  replace E : Ev w w16 [(N8, v1), (N9, v2), (N7, v0), (N6, t), (N5, b2), (N4, b1), (N3, b0), (N2, a2), (N1, a1), (N0, a0)] := E.mid 2 _ (N8, v1) rfl rfl
  replace E : Ev w w16 [(N7, v0), (N8, v1), (N9, v2), (N6, t), (N5, b2), (N4, b1), (N3, b0), (N2, a2), (N1, a1), (N0, a0)] := E.mid 2 _ (N7, v0) rfl rfl
  refine wp_region_invB' (fun A0 listed act_ w' => ∃ l0 l1 l2 l3 l4 l5 : Bool, ∃ u58 u59 u60 : Value, listed = #[l0, l1, l2, l3, l4, l5] ∧ act_ = (((A0.put (some 58) u58).put (some 59) u59).put (some 60) u60) ∧ Ev w w' ((N7, cond l3 v0 v0) :: ((N8, cond l4 v1 v1) :: ((N9, cond l5 v2 v2) :: [(N6, t), (N5, b2), (N4, b1), (N3, b0), (N2, a2), (N1, a1), (N0, a0)]))) ∧ (l0 = true → u58 = .agg #[.float .f64 v0]) ∧ (l1 = true → u59 = .agg #[.float .f64 v1]) ∧ (l2 = true → u60 = .agg #[.float .f64 v2]) ∧ (l3 = true → l0 = true) ∧ (l4 = true → l1 = true) ∧ (l5 = true → l2 = true)) (by kernel_rfl) (by kernel_rfl) ?h0_14 ?hstep_14 ?hend_14
  case h0_14 =>
    simp only [Act.put, List.setIfInBounds_toArray, List.set_cons_zero, List.set_cons_succ]
    refine ⟨false, false, false, false, false, false, _, _, _, rfl, rfl, (by first | exact E.drew | simpa using E.drew), ?_⟩
    simp
  case hend_14 =>
    intro listed act_ w' hs hall hI
    simp only [Act.put, List.setIfInBounds_toArray, List.set_cons_zero, List.set_cons_succ] at hI
    obtain ⟨l0, l1, l2, l3, l4, l5, u58, u59, u60, rfl, rfl, EE, h58, h59, h60, J0, J1, J2⟩ := hI
    have t0 := hall 0 (by simp)
    have t1 := hall 1 (by simp)
    have t2 := hall 2 (by simp)
    have t3 := hall 3 (by simp)
    have t4 := hall 4 (by simp)
    have t5 := hall 5 (by simp)
    simp at t0 t1 t2 t3 t4 t5
    obtain rfl := h58 t0
    obtain rfl := h59 t1
    obtain rfl := h60 t2
    obtain rfl := t3
    obtain rfl := t4
    obtain rfl := t5
    clear hall
    have q0 := EE.cell (b := N7) (v := v0) (by simp)
    have q1 := EE.cell (b := N8) (v := v1) (by simp)
    have q2 := EE.cell (b := N9) (v := v2) (by simp)
    go_wp2_with fail
    exact bodyPost_ret (v := .tuple #[.agg #[.float .f64 v0], .agg #[.float .f64 v1], .agg #[.float .f64 v2]]) (by simp [results, Try.results15, go_sem, q0, q1, q2]) rfl ⟨rfl, EE.below⟩
  case hstep_14 =>
    intro listed act_ w' i hs hi hI
    simp only [Act.put, List.setIfInBounds_toArray, List.set_cons_zero, List.set_cons_succ] at hI ⊢
    obtain ⟨l0, l1, l2, l3, l4, l5, u58, u59, u60, rfl, rfl, EE, h58, h59, h60, J0, J1, J2⟩ := hI
    obtain ⟨hf, o, ho, hdep⟩ := mem_ready.1 hi
    have hin : i = 0 ∨ i = 1 ∨ i = 2 ∨ i = 3 ∨ i = 4 ∨ i = 5 := by
      rcases Nat.lt_or_ge i 6 with h | h
      · omega
      · rw [Array.getElem?_eq_none h] at ho
        cases ho
    have EH := Lib.hid EE
    clear EE  hi hs
    rcases hin with rfl | rfl | rfl | rfl | rfl | rfl
    all_goals
      have ho2 := ho
      simp only [List.getElem?_toArray, List.getElem?_cons_zero, List.getElem?_cons_succ, Option.some.injEq] at ho2
      subst ho2
      simp [Region.binds] at hdep hf
      subst hf
      refine wpOp_step ho (fun K hK => ?_)
      replace hK := Lib.hid hK
      clear ho
    · have hl_ : l3 = false := by
        cases hx_ : l3 with
        | false => rfl
        | true => have := J0 hx_; simp at this
      subst hl_
      have hq_ := EH.out.cell (b := N7) (v := v0) (by simp)
      go_simp
      refine hK.out _ _ ?_
      exact ⟨_, _, _, _, _, _, _, _, _, rfl, rfl, EH.out, by first | exact h58 | exact fun _ => rfl | (intro _; simp [hdep]), by first | exact h59 | exact fun _ => rfl | (intro _; simp [hdep]), by first | exact h60 | exact fun _ => rfl | (intro _; simp [hdep]), by first | exact J0 | exact fun _ => rfl | (intro _; simp [hdep]), by first | exact J1 | exact fun _ => rfl | (intro _; simp [hdep]), by first | exact J2 | exact fun _ => rfl | (intro _; simp [hdep])⟩
    · have hl_ : l4 = false := by
        cases hx_ : l4 with
        | false => rfl
        | true => have := J1 hx_; simp at this
      subst hl_
      have hq_ := EH.out.cell (b := N8) (v := v1) (by simp)
      go_simp
      refine hK.out _ _ ?_
      exact ⟨_, _, _, _, _, _, _, _, _, rfl, rfl, EH.out, by first | exact h58 | exact fun _ => rfl | (intro _; simp [hdep]), by first | exact h59 | exact fun _ => rfl | (intro _; simp [hdep]), by first | exact h60 | exact fun _ => rfl | (intro _; simp [hdep]), by first | exact J0 | exact fun _ => rfl | (intro _; simp [hdep]), by first | exact J1 | exact fun _ => rfl | (intro _; simp [hdep]), by first | exact J2 | exact fun _ => rfl | (intro _; simp [hdep])⟩
    · have hl_ : l5 = false := by
        cases hx_ : l5 with
        | false => rfl
        | true => have := J2 hx_; simp at this
      subst hl_
      have hq_ := EH.out.cell (b := N9) (v := v2) (by simp)
      go_simp
      refine hK.out _ _ ?_
      exact ⟨_, _, _, _, _, _, _, _, _, rfl, rfl, EH.out, by first | exact h58 | exact fun _ => rfl | (intro _; simp [hdep]), by first | exact h59 | exact fun _ => rfl | (intro _; simp [hdep]), by first | exact h60 | exact fun _ => rfl | (intro _; simp [hdep]), by first | exact J0 | exact fun _ => rfl | (intro _; simp [hdep]), by first | exact J1 | exact fun _ => rfl | (intro _; simp [hdep]), by first | exact J2 | exact fun _ => rfl | (intro _; simp [hdep])⟩
    · obtain rfl := h58 (by simp [hdep])
      have hq_ := EH.out.cell (b := N7) (v := v0) (by simp)
      have hz_ := EH.out.frz (b := N7) (v := v0) (by simp)
      go_simp
      refine hK.out _ _ ?_
      exact ⟨_, _, _, _, _, _, _, _, _, rfl, rfl, ((EH.out.perm (List.Perm.refl _)).set v0).perm (List.Perm.refl _).symm, by first | exact h58 | exact fun _ => rfl | (intro _; simp [hdep]), by first | exact h59 | exact fun _ => rfl | (intro _; simp [hdep]), by first | exact h60 | exact fun _ => rfl | (intro _; simp [hdep]), by first | exact J0 | exact fun _ => rfl | (intro _; simp [hdep]), by first | exact J1 | exact fun _ => rfl | (intro _; simp [hdep]), by first | exact J2 | exact fun _ => rfl | (intro _; simp [hdep])⟩
    · obtain rfl := h59 (by simp [hdep])
      have hq_ := EH.out.cell (b := N8) (v := v1) (by simp)
      have hz_ := EH.out.frz (b := N8) (v := v1) (by simp)
      go_simp
      refine hK.out _ _ ?_
      exact ⟨_, _, _, _, _, _, _, _, _, rfl, rfl, ((EH.out.perm (List.Perm.swap _ _ _)).set v1).perm (List.Perm.swap _ _ _).symm, by first | exact h58 | exact fun _ => rfl | (intro _; simp [hdep]), by first | exact h59 | exact fun _ => rfl | (intro _; simp [hdep]), by first | exact h60 | exact fun _ => rfl | (intro _; simp [hdep]), by first | exact J0 | exact fun _ => rfl | (intro _; simp [hdep]), by first | exact J1 | exact fun _ => rfl | (intro _; simp [hdep]), by first | exact J2 | exact fun _ => rfl | (intro _; simp [hdep])⟩
    · obtain rfl := h60 (by simp [hdep])
      have hq_ := EH.out.cell (b := N9) (v := v2) (by simp)
      have hz_ := EH.out.frz (b := N9) (v := v2) (by simp)
      go_simp
      refine hK.out _ _ ?_
      exact ⟨_, _, _, _, _, _, _, _, _, rfl, rfl, ((EH.out.perm (((List.Perm.swap _ _ _).cons _).trans (List.Perm.swap _ _ _))).set v2).perm (((List.Perm.swap _ _ _).cons _).trans (List.Perm.swap _ _ _)).symm, by first | exact h58 | exact fun _ => rfl | (intro _; simp [hdep]), by first | exact h59 | exact fun _ => rfl | (intro _; simp [hdep]), by first | exact h60 | exact fun _ => rfl | (intro _; simp [hdep]), by first | exact J0 | exact fun _ => rfl | (intro _; simp [hdep]), by first | exact J1 | exact fun _ => rfl | (intro _; simp [hdep]), by first | exact J2 | exact fun _ => rfl | (intro _; simp [hdep])⟩
set_option maxRecDepth 20000 in
set_option maxHeartbeats 8000000 in
theorem col3 (a0 a1 a2 b0 b1 b2 t v0 v1 v2 : Nat) (m : Int) (w : World) (c0 : ∀ w, Calls Try.prog 12 #[.agg #[.float .f64 a0], .agg #[.float .f64 b0], .agg #[.float .f64 t], .int .u8 m] w fun e w' => e = .returned (.agg #[.float .f64 v0]) ∧ Below w.heap.size w w') (c1 : ∀ w, Calls Try.prog 20 #[.agg #[.float .f64 a1], .agg #[.float .f64 b1], .agg #[.float .f64 t]] w fun e w' => e = .returned (.agg #[.float .f64 v1]) ∧ Below w.heap.size w w') (c2 : ∀ w, Calls Try.prog 20 #[.agg #[.float .f64 a2], .agg #[.float .f64 b2], .agg #[.float .f64 t]] w fun e w' => e = .returned (.agg #[.float .f64 v2]) ∧ Below w.heap.size w w') :
    Calls Try.prog 15 #[.agg #[.float .f64 a0], .agg #[.float .f64 a1], .agg #[.float .f64 a2], .agg #[.float .f64 b0], .agg #[.float .f64 b1], .agg #[.float .f64 b2], .int .u8 3, .int .u8 m, .agg #[.float .f64 t]] w fun e w' => e = .returned (.tuple #[.agg #[.float .f64 v0], .agg #[.float .f64 v1], .agg #[.float .f64 v2]]) ∧ Below w.heap.size w w' := by
  have C0 := Lib.hid c0
  have C1 := Lib.hid c1
  have C2 := Lib.hid c2
  clear c0 c1 c2
  have hsz : ∀ (w : World) o, (w.alloc o).heap.size = w.heap.size + 1 := fun w o => by simp
  go_enter Try.func15, Try.ntmps15
  go_upto_region 1 with fail
  have E := (((((((((((Ev.start w).new a0 34).new a1 34).new a2 34).new b0 34).new b1 34).new b2 34).new t 34).new 0 34).new 0 34).new 0 34)
  simp only [hsz] at E
  generalize hG1 : w.heap.size + 1 = N1 at *
  generalize hG2 : N1 + 1 = N2 at *
  generalize hG3 : N2 + 1 = N3 at *
  generalize hG4 : N3 + 1 = N4 at *
  generalize hG5 : N4 + 1 = N5 at *
  generalize hG6 : N5 + 1 = N6 at *
  generalize hG7 : N6 + 1 = N7 at *
  generalize hG8 : N7 + 1 = N8 at *
  generalize hG9 : N8 + 1 = N9 at *
  clear hG1 hG2 hG3 hG4 hG5 hG6 hG7 hG8 hG9
  obtain ⟨N0, hN0⟩ : ∃ n, n = w.heap.size := ⟨_, rfl⟩
  rw [← hN0] at E
  rw [← hN0]
  clear hN0
  generalize ((((((((((w.alloc (.cells #[.float .f64 a0] 34)).alloc (.cells #[.float .f64 a1] 34)).alloc (.cells #[.float .f64 a2] 34)).alloc (.cells #[.float .f64 b0] 34)).alloc (.cells #[.float .f64 b1] 34)).alloc (.cells #[.float .f64 b2] 34)).alloc (.cells #[.float .f64 t] 34)).alloc (.cells #[.float .f64 0] 34)).alloc (.cells #[.float .f64 0] 34)).alloc (.cells #[.float .f64 0] 34)) = w1 at *
  have q0 := E.cell (b := N1) (v := a1) (by simp)
  have q1 := E.cell (b := N4) (v := b1) (by simp)
  have q2 := E.cell (b := N6) (v := t) (by simp)
  go_wp2_with fail
  refine (C1.out _).mono ?_
  rintro e w11 ⟨rfl, hb⟩
  replace E := E.call hb
  clear hb q0 q1 q2
  replace E : Ev w w11 [(N8, 0), (N9, 0), (N7, 0), (N6, t), (N5, b2), (N4, b1), (N3, b0), (N2, a2), (N1, a1), (N0, a0)] := E.mid 1 _ (N8, 0) rfl rfl
  have q0 := E.cell (b := N8) (v := 0) (by simp)
  have z0 := E.frz (b := N8) (v := 0) (by simp)
  go_upto_region 2 with fail
  replace E := E.set v1
  clear q0 z0
  generalize w11.setCell ⟨N8, 0, none⟩ (.float .f64 v1) = w12 at *
  have q0 := E.cell (b := N2) (v := a2) (by simp)
  have q1 := E.cell (b := N5) (v := b2) (by simp)
  have q2 := E.cell (b := N6) (v := t) (by simp)
  go_wp2_with fail
  refine (C2.out _).mono ?_
  rintro e w13 ⟨rfl, hb⟩
  replace E := E.call hb
  clear hb q0 q1 q2
  replace E : Ev w w13 [(N9, 0), (N8, v1), (N7, 0), (N6, t), (N5, b2), (N4, b1), (N3, b0), (N2, a2), (N1, a1), (N0, a0)] := E.mid 1 _ (N9, 0) rfl rfl
  have q0 := E.cell (b := N9) (v := 0) (by simp)
  have z0 := E.frz (b := N9) (v := 0) (by simp)
  go_upto_region 8 with fail
  replace E := E.set v2
  clear q0 z0
  generalize w13.setCell ⟨N9, 0, none⟩ (.float .f64 v2) = w14 at *
  have q0 := E.cell (b := N0) (v := a0) (by simp)
  have q1 := E.cell (b := N3) (v := b0) (by simp)
  have q2 := E.cell (b := N6) (v := t) (by simp)
  go_wp2_with fail
  refine (C0.out _).mono ?_
  rintro e w15 ⟨rfl, hb⟩
  replace E := E.call hb
  clear hb q0 q1 q2
  replace E : Ev w w15 [(N7, 0), (N9, v2), (N8, v1), (N6, t), (N5, b2), (N4, b1), (N3, b0), (N2, a2), (N1, a1), (N0, a0)] := E.mid 2 _ (N7, 0) rfl rfl
  have q0 := E.cell (b := N7) (v := 0) (by simp)
  have z0 := E.frz (b := N7) (v := 0) (by simp)
  go_upto_region 13 with fail
  replace E := E.set v0
  clear q0 z0
  generalize w15.setCell ⟨N7, 0, none⟩ (.float .f64 v0) = w16 at *
  replace E : Ev w w16 [(N9, v2), (N7, v0), (N8, v1), (N6, t), (N5, b2), (N4, b1), (N3, b0), (N2, a2), (N1, a1), (N0, a0)] := E.mid 1 _ (N9, v2) rfl rfl
  replace E : Ev w w16 [(N8, v1), (N9, v2), (N7, v0), (N6, t), (N5, b2), (N4, b1), (N3, b0), (N2, a2), (N1, a1), (N0, a0)] := E.mid 2 _ (N8, v1) rfl rfl
  replace E : Ev w w16 [(N7, v0), (N8, v1), (N9, v2), (N6, t), (N5, b2), (N4, b1), (N3, b0), (N2, a2), (N1, a1), (N0, a0)] := E.mid 2 _ (N7, v0) rfl rfl
  refine wp_region_invB' (fun A0 listed act_ w' => ∃ l0 l1 l2 l3 l4 l5 : Bool, ∃ u58 u59 u60 : Value, listed = #[l0, l1, l2, l3, l4, l5] ∧ act_ = (((A0.put (some 58) u58).put (some 59) u59).put (some 60) u60) ∧ Ev w w' ((N7, cond l3 v0 v0) :: ((N8, cond l4 v1 v1) :: ((N9, cond l5 v2 v2) :: [(N6, t), (N5, b2), (N4, b1), (N3, b0), (N2, a2), (N1, a1), (N0, a0)]))) ∧ (l0 = true → u58 = .agg #[.float .f64 v0]) ∧ (l1 = true → u59 = .agg #[.float .f64 v1]) ∧ (l2 = true → u60 = .agg #[.float .f64 v2]) ∧ (l3 = true → l0 = true) ∧ (l4 = true → l1 = true) ∧ (l5 = true → l2 = true)) (by kernel_rfl) (by kernel_rfl) ?h0_15 ?hstep_15 ?hend_15
  case h0_15 =>
    simp only [Act.put, List.setIfInBounds_toArray, List.set_cons_zero, List.set_cons_succ]
    refine ⟨false, false, false, false, false, false, _, _, _, rfl, rfl, (by first | exact E.drew | simpa using E.drew), ?_⟩
    simp
  case hend_15 =>
    intro listed act_ w' hs hall hI
    simp only [Act.put, List.setIfInBounds_toArray, List.set_cons_zero, List.set_cons_succ] at hI
    obtain ⟨l0, l1, l2, l3, l4, l5, u58, u59, u60, rfl, rfl, EE, h58, h59, h60, J0, J1, J2⟩ := hI
    have t0 := hall 0 (by simp)
    have t1 := hall 1 (by simp)
    have t2 := hall 2 (by simp)
    have t3 := hall 3 (by simp)
    have t4 := hall 4 (by simp)
    have t5 := hall 5 (by simp)
    simp at t0 t1 t2 t3 t4 t5
    obtain rfl := h58 t0
    obtain rfl := h59 t1
    obtain rfl := h60 t2
    obtain rfl := t3
    obtain rfl := t4
    obtain rfl := t5
    clear hall
    have q0 := EE.cell (b := N7) (v := v0) (by simp)
    have q1 := EE.cell (b := N8) (v := v1) (by simp)
    have q2 := EE.cell (b := N9) (v := v2) (by simp)
    go_wp2_with fail
    exact bodyPost_ret (v := .tuple #[.agg #[.float .f64 v0], .agg #[.float .f64 v1], .agg #[.float .f64 v2]]) (by simp [results, Try.results15, go_sem, q0, q1, q2]) rfl ⟨rfl, EE.below⟩
  case hstep_15 =>
    intro listed act_ w' i hs hi hI
    simp only [Act.put, List.setIfInBounds_toArray, List.set_cons_zero, List.set_cons_succ] at hI ⊢
    obtain ⟨l0, l1, l2, l3, l4, l5, u58, u59, u60, rfl, rfl, EE, h58, h59, h60, J0, J1, J2⟩ := hI
    obtain ⟨hf, o, ho, hdep⟩ := mem_ready.1 hi
    have hin : i = 0 ∨ i = 1 ∨ i = 2 ∨ i = 3 ∨ i = 4 ∨ i = 5 := by
      rcases Nat.lt_or_ge i 6 with h | h
      · omega
      · rw [Array.getElem?_eq_none h] at ho
        cases ho
    have EH := Lib.hid EE
    clear EE  hi hs
    rcases hin with rfl | rfl | rfl | rfl | rfl | rfl
    all_goals
      have ho2 := ho
      simp only [List.getElem?_toArray, List.getElem?_cons_zero, List.getElem?_cons_succ, Option.some.injEq] at ho2
      subst ho2
      simp [Region.binds] at hdep hf
      subst hf
      refine wpOp_step ho (fun K hK => ?_)
      replace hK := Lib.hid hK
      clear ho
    · have hl_ : l3 = false := by
        cases hx_ : l3 with
        | false => rfl
        | true => have := J0 hx_; simp at this
      subst hl_
      have hq_ := EH.out.cell (b := N7) (v := v0) (by simp)
      go_simp
      refine hK.out _ _ ?_
      exact ⟨_, _, _, _, _, _, _, _, _, rfl, rfl, EH.out, by first | exact h58 | exact fun _ => rfl | (intro _; simp [hdep]), by first | exact h59 | exact fun _ => rfl | (intro _; simp [hdep]), by first | exact h60 | exact fun _ => rfl | (intro _; simp [hdep]), by first | exact J0 | exact fun _ => rfl | (intro _; simp [hdep]), by first | exact J1 | exact fun _ => rfl | (intro _; simp [hdep]), by first | exact J2 | exact fun _ => rfl | (intro _; simp [hdep])⟩
    · have hl_ : l4 = false := by
        cases hx_ : l4 with
        | false => rfl
        | true => have := J1 hx_; simp at this
      subst hl_
      have hq_ := EH.out.cell (b := N8) (v := v1) (by simp)
      go_simp
      refine hK.out _ _ ?_
      exact ⟨_, _, _, _, _, _, _, _, _, rfl, rfl, EH.out, by first | exact h58 | exact fun _ => rfl | (intro _; simp [hdep]), by first | exact h59 | exact fun _ => rfl | (intro _; simp [hdep]), by first | exact h60 | exact fun _ => rfl | (intro _; simp [hdep]), by first | exact J0 | exact fun _ => rfl | (intro _; simp [hdep]), by first | exact J1 | exact fun _ => rfl | (intro _; simp [hdep]), by first | exact J2 | exact fun _ => rfl | (intro _; simp [hdep])⟩
    · have hl_ : l5 = false := by
        cases hx_ : l5 with
        | false => rfl
        | true => have := J2 hx_; simp at this
      subst hl_
      have hq_ := EH.out.cell (b := N9) (v := v2) (by simp)
      go_simp
      refine hK.out _ _ ?_
      exact ⟨_, _, _, _, _, _, _, _, _, rfl, rfl, EH.out, by first | exact h58 | exact fun _ => rfl | (intro _; simp [hdep]), by first | exact h59 | exact fun _ => rfl | (intro _; simp [hdep]), by first | exact h60 | exact fun _ => rfl | (intro _; simp [hdep]), by first | exact J0 | exact fun _ => rfl | (intro _; simp [hdep]), by first | exact J1 | exact fun _ => rfl | (intro _; simp [hdep]), by first | exact J2 | exact fun _ => rfl | (intro _; simp [hdep])⟩
    · obtain rfl := h58 (by simp [hdep])
      have hq_ := EH.out.cell (b := N7) (v := v0) (by simp)
      have hz_ := EH.out.frz (b := N7) (v := v0) (by simp)
      go_simp
      refine hK.out _ _ ?_
      exact ⟨_, _, _, _, _, _, _, _, _, rfl, rfl, ((EH.out.perm (List.Perm.refl _)).set v0).perm (List.Perm.refl _).symm, by first | exact h58 | exact fun _ => rfl | (intro _; simp [hdep]), by first | exact h59 | exact fun _ => rfl | (intro _; simp [hdep]), by first | exact h60 | exact fun _ => rfl | (intro _; simp [hdep]), by first | exact J0 | exact fun _ => rfl | (intro _; simp [hdep]), by first | exact J1 | exact fun _ => rfl | (intro _; simp [hdep]), by first | exact J2 | exact fun _ => rfl | (intro _; simp [hdep])⟩
    · obtain rfl := h59 (by simp [hdep])
      have hq_ := EH.out.cell (b := N8) (v := v1) (by simp)
      have hz_ := EH.out.frz (b := N8) (v := v1) (by simp)
      go_simp
      refine hK.out _ _ ?_
      exact ⟨_, _, _, _, _, _, _, _, _, rfl, rfl, ((EH.out.perm (List.Perm.swap _ _ _)).set v1).perm (List.Perm.swap _ _ _).symm, by first | exact h58 | exact fun _ => rfl | (intro _; simp [hdep]), by first | exact h59 | exact fun _ => rfl | (intro _; simp [hdep]), by first | exact h60 | exact fun _ => rfl | (intro _; simp [hdep]), by first | exact J0 | exact fun _ => rfl | (intro _; simp [hdep]), by first | exact J1 | exact fun _ => rfl | (intro _; simp [hdep]), by first | exact J2 | exact fun _ => rfl | (intro _; simp [hdep])⟩
    · obtain rfl := h60 (by simp [hdep])
      have hq_ := EH.out.cell (b := N9) (v := v2) (by simp)
      have hz_ := EH.out.frz (b := N9) (v := v2) (by simp)
      go_simp
      refine hK.out _ _ ?_
      exact ⟨_, _, _, _, _, _, _, _, _, rfl, rfl, ((EH.out.perm (((List.Perm.swap _ _ _).cons _).trans (List.Perm.swap _ _ _))).set v2).perm (((List.Perm.swap _ _ _).cons _).trans (List.Perm.swap _ _ _)).symm, by first | exact h58 | exact fun _ => rfl | (intro _; simp [hdep]), by first | exact h59 | exact fun _ => rfl | (intro _; simp [hdep]), by first | exact h60 | exact fun _ => rfl | (intro _; simp [hdep]), by first | exact J0 | exact fun _ => rfl | (intro _; simp [hdep]), by first | exact J1 | exact fun _ => rfl | (intro _; simp [hdep]), by first | exact J2 | exact fun _ => rfl | (intro _; simp [hdep])⟩
set_option maxRecDepth 20000 in
set_option maxHeartbeats 8000000 in
theorem col5 (a0 a1 a2 b0 b1 b2 t v0 v1 v2 : Nat) (m : Int) (w : World) (c0 : ∀ w, Calls Try.prog 20 #[.agg #[.float .f64 a0], .agg #[.float .f64 b0], .agg #[.float .f64 t]] w fun e w' => e = .returned (.agg #[.float .f64 v0]) ∧ Below w.heap.size w w') (c1 : ∀ w, Calls Try.prog 20 #[.agg #[.float .f64 a1], .agg #[.float .f64 b1], .agg #[.float .f64 t]] w fun e w' => e = .returned (.agg #[.float .f64 v1]) ∧ Below w.heap.size w w') (c2 : ∀ w, Calls Try.prog 12 #[.agg #[.float .f64 a2], .agg #[.float .f64 b2], .agg #[.float .f64 t], .int .u8 m] w fun e w' => e = .returned (.agg #[.float .f64 v2]) ∧ Below w.heap.size w w') :
    Calls Try.prog 15 #[.agg #[.float .f64 a0], .agg #[.float .f64 a1], .agg #[.float .f64 a2], .agg #[.float .f64 b0], .agg #[.float .f64 b1], .agg #[.float .f64 b2], .int .u8 5, .int .u8 m, .agg #[.float .f64 t]] w fun e w' => e = .returned (.tuple #[.agg #[.float .f64 v0], .agg #[.float .f64 v1], .agg #[.float .f64 v2]]) ∧ Below w.heap.size w w' := by
  have C0 := Lib.hid c0
  have C1 := Lib.hid c1
  have C2 := Lib.hid c2
  clear c0 c1 c2
  have hsz : ∀ (w : World) o, (w.alloc o).heap.size = w.heap.size + 1 := fun w o => by simp
  go_enter Try.func15, Try.ntmps15
  go_upto_region 1 with fail
  have E := (((((((((((Ev.start w).new a0 34).new a1 34).new a2 34).new b0 34).new b1 34).new b2 34).new t 34).new 0 34).new 0 34).new 0 34)
  simp only [hsz] at E
  generalize hG1 : w.heap.size + 1 = N1 at *
  generalize hG2 : N1 + 1 = N2 at *
  generalize hG3 : N2 + 1 = N3 at *
  generalize hG4 : N3 + 1 = N4 at *
  generalize hG5 : N4 + 1 = N5 at *
  generalize hG6 : N5 + 1 = N6 at *
  generalize hG7 : N6 + 1 = N7 at *
  generalize hG8 : N7 + 1 = N8 at *
  generalize hG9 : N8 + 1 = N9 at *
  clear hG1 hG2 hG3 hG4 hG5 hG6 hG7 hG8 hG9
  obtain ⟨N0, hN0⟩ : ∃ n, n = w.heap.size := ⟨_, rfl⟩
  rw [← hN0] at E
  rw [← hN0]
  clear hN0
  generalize ((((((((((w.alloc (.cells #[.float .f64 a0] 34)).alloc (.cells #[.float .f64 a1] 34)).alloc (.cells #[.float .f64 a2] 34)).alloc (.cells #[.float .f64 b0] 34)).alloc (.cells #[.float .f64 b1] 34)).alloc (.cells #[.float .f64 b2] 34)).alloc (.cells #[.float .f64 t] 34)).alloc (.cells #[.float .f64 0] 34)).alloc (.cells #[.float .f64 0] 34)).alloc (.cells #[.float .f64 0] 34)) = w1 at *
  have q0 := E.cell (b := N1) (v := a1) (by simp)
  have q1 := E.cell (b := N4) (v := b1) (by simp)
  have q2 := E.cell (b := N6) (v := t) (by simp)
  go_wp2_with fail
  refine (C1.out _).mono ?_
  rintro e w11 ⟨rfl, hb⟩
  replace E := E.call hb
  clear hb q0 q1 q2
  replace E : Ev w w11 [(N8, 0), (N9, 0), (N7, 0), (N6, t), (N5, b2), (N4, b1), (N3, b0), (N2, a2), (N1, a1), (N0, a0)] := E.mid 1 _ (N8, 0) rfl rfl
  have q0 := E.cell (b := N8) (v := 0) (by simp)
  have z0 := E.frz (b := N8) (v := 0) (by simp)
  go_upto_region 2 with fail
  replace E := E.set v1
  clear q0 z0
  generalize w11.setCell ⟨N8, 0, none⟩ (.float .f64 v1) = w12 at *
  have q0 := E.cell (b := N0) (v := a0) (by simp)
  have q1 := E.cell (b := N3) (v := b0) (by simp)
  have q2 := E.cell (b := N6) (v := t) (by simp)
  go_wp2_with fail
  refine (C0.out _).mono ?_
  rintro e w13 ⟨rfl, hb⟩
  replace E := E.call hb
  clear hb q0 q1 q2
  replace E : Ev w w13 [(N7, 0), (N8, v1), (N9, 0), (N6, t), (N5, b2), (N4, b1), (N3, b0), (N2, a2), (N1, a1), (N0, a0)] := E.mid 2 _ (N7, 0) rfl rfl
  have q0 := E.cell (b := N7) (v := 0) (by simp)
  have z0 := E.frz (b := N7) (v := 0) (by simp)
  go_upto_region 12 with fail
  replace E := E.set v0
  clear q0 z0
  generalize w13.setCell ⟨N7, 0, none⟩ (.float .f64 v0) = w14 at *
  have q0 := E.cell (b := N2) (v := a2) (by simp)
  have q1 := E.cell (b := N5) (v := b2) (by simp)
  have q2 := E.cell (b := N6) (v := t) (by simp)
  go_wp2_with fail
  refine (C2.out _).mono ?_
  rintro e w15 ⟨rfl, hb⟩
  replace E := E.call hb
  clear hb q0 q1 q2
  replace E : Ev w w15 [(N9, 0), (N7, v0), (N8, v1), (N6, t), (N5, b2), (N4, b1), (N3, b0), (N2, a2), (N1, a1), (N0, a0)] := E.mid 2 _ (N9, 0) rfl rfl
  have q0 := E.cell (b := N9) (v := 0) (by simp)
  have z0 := E.frz (b := N9) (v := 0) (by simp)
  go_upto_region 13 with fail
  replace E := E.set v2
  clear q0 z0
  generalize w15.setCell ⟨N9, 0, none⟩ (.float .f64 v2) = w16 at *
  replace E : Ev w w16 [(N8, v1), (N9, v2), (N7, v0), (N6, t), (N5, b2), (N4, b1), (N3, b0), (N2, a2), (N1, a1), (N0, a0)] := E.mid 2 _ (N8, v1) rfl rfl
  replace E : Ev w w16 [(N7, v0), (N8, v1), (N9, v2), (N6, t), (N5, b2), (N4, b1), (N3, b0), (N2, a2), (N1, a1), (N0, a0)] := E.mid 2 _ (N7, v0) rfl rfl
  refine wp_region_invB' (fun A0 listed act_ w' => ∃ l0 l1 l2 l3 l4 l5 : Bool, ∃ u58 u59 u60 : Value, listed = #[l0, l1, l2, l3, l4, l5] ∧ act_ = (((A0.put (some 58) u58).put (some 59) u59).put (some 60) u60) ∧ Ev w w' ((N7, cond l3 v0 v0) :: ((N8, cond l4 v1 v1) :: ((N9, cond l5 v2 v2) :: [(N6, t), (N5, b2), (N4, b1), (N3, b0), (N2, a2), (N1, a1), (N0, a0)]))) ∧ (l0 = true → u58 = .agg #[.float .f64 v0]) ∧ (l1 = true → u59 = .agg #[.float .f64 v1]) ∧ (l2 = true → u60 = .agg #[.float .f64 v2]) ∧ (l3 = true → l0 = true) ∧ (l4 = true → l1 = true) ∧ (l5 = true → l2 = true)) (by kernel_rfl) (by kernel_rfl) ?h0_16 ?hstep_16 ?hend_16
  case h0_16 =>
    simp only [Act.put, List.setIfInBounds_toArray, List.set_cons_zero, List.set_cons_succ]
    refine ⟨false, false, false, false, false, false, _, _, _, rfl, rfl, (by first | exact E.drew | simpa using E.drew), ?_⟩
    simp
  case hend_16 =>
    intro listed act_ w' hs hall hI
    simp only [Act.put, List.setIfInBounds_toArray, List.set_cons_zero, List.set_cons_succ] at hI
    obtain ⟨l0, l1, l2, l3, l4, l5, u58, u59, u60, rfl, rfl, EE, h58, h59, h60, J0, J1, J2⟩ := hI
    have t0 := hall 0 (by simp)
    have t1 := hall 1 (by simp)
    have t2 := hall 2 (by simp)
    have t3 := hall 3 (by simp)
    have t4 := hall 4 (by simp)
    have t5 := hall 5 (by simp)
    simp at t0 t1 t2 t3 t4 t5
    obtain rfl := h58 t0
    obtain rfl := h59 t1
    obtain rfl := h60 t2
    obtain rfl := t3
    obtain rfl := t4
    obtain rfl := t5
    clear hall
    have q0 := EE.cell (b := N7) (v := v0) (by simp)
    have q1 := EE.cell (b := N8) (v := v1) (by simp)
    have q2 := EE.cell (b := N9) (v := v2) (by simp)
    go_wp2_with fail
    exact bodyPost_ret (v := .tuple #[.agg #[.float .f64 v0], .agg #[.float .f64 v1], .agg #[.float .f64 v2]]) (by simp [results, Try.results15, go_sem, q0, q1, q2]) rfl ⟨rfl, EE.below⟩
  case hstep_16 =>
    intro listed act_ w' i hs hi hI
    simp only [Act.put, List.setIfInBounds_toArray, List.set_cons_zero, List.set_cons_succ] at hI ⊢
    obtain ⟨l0, l1, l2, l3, l4, l5, u58, u59, u60, rfl, rfl, EE, h58, h59, h60, J0, J1, J2⟩ := hI
    obtain ⟨hf, o, ho, hdep⟩ := mem_ready.1 hi
    have hin : i = 0 ∨ i = 1 ∨ i = 2 ∨ i = 3 ∨ i = 4 ∨ i = 5 := by
      rcases Nat.lt_or_ge i 6 with h | h
      · omega
      · rw [Array.getElem?_eq_none h] at ho
        cases ho
    have EH := Lib.hid EE
    clear EE  hi hs
    rcases hin with rfl | rfl | rfl | rfl | rfl | rfl
    all_goals
      have ho2 := ho
      simp only [List.getElem?_toArray, List.getElem?_cons_zero, List.getElem?_cons_succ, Option.some.injEq] at ho2
      subst ho2
      simp [Region.binds] at hdep hf
      subst hf
      refine wpOp_step ho (fun K hK => ?_)
      replace hK := Lib.hid hK
      clear ho
    · have hl_ : l3 = false := by
        cases hx_ : l3 with
        | false => rfl
        | true => have := J0 hx_; simp at this
      subst hl_
      have hq_ := EH.out.cell (b := N7) (v := v0) (by simp)
      go_simp
      refine hK.out _ _ ?_
      exact ⟨_, _, _, _, _, _, _, _, _, rfl, rfl, EH.out, by first | exact h58 | exact fun _ => rfl | (intro _; simp [hdep]), by first | exact h59 | exact fun _ => rfl | (intro _; simp [hdep]), by first | exact h60 | exact fun _ => rfl | (intro _; simp [hdep]), by first | exact J0 | exact fun _ => rfl | (intro _; simp [hdep]), by first | exact J1 | exact fun _ => rfl | (intro _; simp [hdep]), by first | exact J2 | exact fun _ => rfl | (intro _; simp [hdep])⟩
    · have hl_ : l4 = false := by
        cases hx_ : l4 with
        | false => rfl
        | true => have := J1 hx_; simp at this
      subst hl_
      have hq_ := EH.out.cell (b := N8) (v := v1) (by simp)
      go_simp
      refine hK.out _ _ ?_
      exact ⟨_, _, _, _, _, _, _, _, _, rfl, rfl, EH.out, by first | exact h58 | exact fun _ => rfl | (intro _; simp [hdep]), by first | exact h59 | exact fun _ => rfl | (intro _; simp [hdep]), by first | exact h60 | exact fun _ => rfl | (intro _; simp [hdep]), by first | exact J0 | exact fun _ => rfl | (intro _; simp [hdep]), by first | exact J1 | exact fun _ => rfl | (intro _; simp [hdep]), by first | exact J2 | exact fun _ => rfl | (intro _; simp [hdep])⟩
    · have hl_ : l5 = false := by
        cases hx_ : l5 with
        | false => rfl
        | true => have := J2 hx_; simp at this
      subst hl_
      have hq_ := EH.out.cell (b := N9) (v := v2) (by simp)
      go_simp
      refine hK.out _ _ ?_
      exact ⟨_, _, _, _, _, _, _, _, _, rfl, rfl, EH.out, by first | exact h58 | exact fun _ => rfl | (intro _; simp [hdep]), by first | exact h59 | exact fun _ => rfl | (intro _; simp [hdep]), by first | exact h60 | exact fun _ => rfl | (intro _; simp [hdep]), by first | exact J0 | exact fun _ => rfl | (intro _; simp [hdep]), by first | exact J1 | exact fun _ => rfl | (intro _; simp [hdep]), by first | exact J2 | exact fun _ => rfl | (intro _; simp [hdep])⟩
    · obtain rfl := h58 (by simp [hdep])
      have hq_ := EH.out.cell (b := N7) (v := v0) (by simp)
      have hz_ := EH.out.frz (b := N7) (v := v0) (by simp)
      go_simp
      refine hK.out _ _ ?_
      exact ⟨_, _, _, _, _, _, _, _, _, rfl, rfl, ((EH.out.perm (List.Perm.refl _)).set v0).perm (List.Perm.refl _).symm, by first | exact h58 | exact fun _ => rfl | (intro _; simp [hdep]), by first | exact h59 | exact fun _ => rfl | (intro _; simp [hdep]), by first | exact h60 | exact fun _ => rfl | (intro _; simp [hdep]), by first | exact J0 | exact fun _ => rfl | (intro _; simp [hdep]), by first | exact J1 | exact fun _ => rfl | (intro _; simp [hdep]), by first | exact J2 | exact fun _ => rfl | (intro _; simp [hdep])⟩
    · obtain rfl := h59 (by simp [hdep])
      have hq_ := EH.out.cell (b := N8) (v := v1) (by simp)
      have hz_ := EH.out.frz (b := N8) (v := v1) (by simp)
      go_simp
      refine hK.out _ _ ?_
      exact ⟨_, _, _, _, _, _, _, _, _, rfl, rfl, ((EH.out.perm (List.Perm.swap _ _ _)).set v1).perm (List.Perm.swap _ _ _).symm, by first | exact h58 | exact fun _ => rfl | (intro _; simp [hdep]), by first | exact h59 | exact fun _ => rfl | (intro _; simp [hdep]), by first | exact h60 | exact fun _ => rfl | (intro _; simp [hdep]), by first | exact J0 | exact fun _ => rfl | (intro _; simp [hdep]), by first | exact J1 | exact fun _ => rfl | (intro _; simp [hdep]), by first | exact J2 | exact fun _ => rfl | (intro _; simp [hdep])⟩
    · obtain rfl := h60 (by simp [hdep])
      have hq_ := EH.out.cell (b := N9) (v := v2) (by simp)
      have hz_ := EH.out.frz (b := N9) (v := v2) (by simp)
      go_simp
      refine hK.out _ _ ?_
      exact ⟨_, _, _, _, _, _, _, _, _, rfl, rfl, ((EH.out.perm (((List.Perm.swap _ _ _).cons _).trans (List.Perm.swap _ _ _))).set v2).perm (((List.Perm.swap _ _ _).cons _).trans (List.Perm.swap _ _ _)).symm, by first | exact h58 | exact fun _ => rfl | (intro _; simp [hdep]), by first | exact h59 | exact fun _ => rfl | (intro _; simp [hdep]), by first | exact h60 | exact fun _ => rfl | (intro _; simp [hdep]), by first | exact J0 | exact fun _ => rfl | (intro _; simp [hdep]), by first | exact J1 | exact fun _ => rfl | (intro _; simp [hdep]), by first | exact J2 | exact fun _ => rfl | (intro _; simp [hdep])⟩
set_option maxRecDepth 20000 in
set_option maxHeartbeats 8000000 in
theorem col7 (a0 a1 a2 b0 b1 b2 t v0 v1 v2 : Nat) (m : Int) (w : World) (c0 : ∀ w, Calls Try.prog 20 #[.agg #[.float .f64 a0], .agg #[.float .f64 b0], .agg #[.float .f64 t]] w fun e w' => e = .returned (.agg #[.float .f64 v0]) ∧ Below w.heap.size w w') (c1 : ∀ w, Calls Try.prog 20 #[.agg #[.float .f64 a1], .agg #[.float .f64 b1], .agg #[.float .f64 t]] w fun e w' => e = .returned (.agg #[.float .f64 v1]) ∧ Below w.heap.size w w') (c2 : ∀ w, Calls Try.prog 12 #[.agg #[.float .f64 a2], .agg #[.float .f64 b2], .agg #[.float .f64 t], .int .u8 m] w fun e w' => e = .returned (.agg #[.float .f64 v2]) ∧ Below w.heap.size w w') :
    Calls Try.prog 15 #[.agg #[.float .f64 a0], .agg #[.float .f64 a1], .agg #[.float .f64 a2], .agg #[.float .f64 b0], .agg #[.float .f64 b1], .agg #[.float .f64 b2], .int .u8 7, .int .u8 m, .agg #[.float .f64 t]] w fun e w' => e = .returned (.tuple #[.agg #[.float .f64 v0], .agg #[.float .f64 v1], .agg #[.float .f64 v2]]) ∧ Below w.heap.size w w' := by
  have C0 := Lib.hid c0
  have C1 := Lib.hid c1
  have C2 := Lib.hid c2
  clear c0 c1 c2
  have hsz : ∀ (w : World) o, (w.alloc o).heap.size = w.heap.size + 1 := fun w o => by simp
  go_enter Try.func15, Try.ntmps15
  go_upto_region 1 with fail
  have E := (((((((((((Ev.start w).new a0 34).new a1 34).new a2 34).new b0 34).new b1 34).new b2 34).new t 34).new 0 34).new 0 34).new 0 34)
  simp only [hsz] at E
  generalize hG1 : w.heap.size + 1 = N1 at *
  generalize hG2 : N1 + 1 = N2 at *
  generalize hG3 : N2 + 1 = N3 at *
  generalize hG4 : N3 + 1 = N4 at *
  generalize hG5 : N4 + 1 = N5 at *
  generalize hG6 : N5 + 1 = N6 at *
  generalize hG7 : N6 + 1 = N7 at *
  generalize hG8 : N7 + 1 = N8 at *
  generalize hG9 : N8 + 1 = N9 at *
  clear hG1 hG2 hG3 hG4 hG5 hG6 hG7 hG8 hG9
  obtain ⟨N0, hN0⟩ : ∃ n, n = w.heap.size := ⟨_, rfl⟩
  rw [← hN0] at E
  rw [← hN0]
  clear hN0
  generalize ((((((((((w.alloc (.cells #[.float .f64 a0] 34)).alloc (.cells #[.float .f64 a1] 34)).alloc (.cells #[.float .f64 a2] 34)).alloc (.cells #[.float .f64 b0] 34)).alloc (.cells #[.float .f64 b1] 34)).alloc (.cells #[.float .f64 b2] 34)).alloc (.cells #[.float .f64 t] 34)).alloc (.cells #[.float .f64 0] 34)).alloc (.cells #[.float .f64 0] 34)).alloc (.cells #[.float .f64 0] 34)) = w1 at *
  have q0 := E.cell (b := N1) (v := a1) (by simp)
  have q1 := E.cell (b := N4) (v := b1) (by simp)
  have q2 := E.cell (b := N6) (v := t) (by simp)
  go_wp2_with fail
  refine (C1.out _).mono ?_
  rintro e w11 ⟨rfl, hb⟩
  replace E := E.call hb
  clear hb q0 q1 q2
  replace E : Ev w w11 [(N8, 0), (N9, 0), (N7, 0), (N6, t), (N5, b2), (N4, b1), (N3, b0), (N2, a2), (N1, a1), (N0, a0)] := E.mid 1 _ (N8, 0) rfl rfl
  have q0 := E.cell (b := N8) (v := 0) (by simp)
  have z0 := E.frz (b := N8) (v := 0) (by simp)
  go_upto_region 2 with fail
  replace E := E.set v1
  clear q0 z0
  generalize w11.setCell ⟨N8, 0, none⟩ (.float .f64 v1) = w12 at *
  have q0 := E.cell (b := N0) (v := a0) (by simp)
  have q1 := E.cell (b := N3) (v := b0) (by simp)
  have q2 := E.cell (b := N6) (v := t) (by simp)
  go_wp2_with fail
  refine (C0.out _).mono ?_
  rintro e w13 ⟨rfl, hb⟩
  replace E := E.call hb
  clear hb q0 q1 q2
  replace E : Ev w w13 [(N7, 0), (N8, v1), (N9, 0), (N6, t), (N5, b2), (N4, b1), (N3, b0), (N2, a2), (N1, a1), (N0, a0)] := E.mid 2 _ (N7, 0) rfl rfl
  have q0 := E.cell (b := N7) (v := 0) (by simp)
  have z0 := E.frz (b := N7) (v := 0) (by simp)
  go_upto_region 12 with fail
  replace E := E.set v0
  clear q0 z0
  generalize w13.setCell ⟨N7, 0, none⟩ (.float .f64 v0) = w14 at *
  have q0 := E.cell (b := N2) (v := a2) (by simp)
  have q1 := E.cell (b := N5) (v := b2) (by simp)
  have q2 := E.cell (b := N6) (v := t) (by simp)
  go_wp2_with fail
  refine (C2.out _).mono ?_
  rintro e w15 ⟨rfl, hb⟩
  replace E := E.call hb
  clear hb q0 q1 q2
  replace E : Ev w w15 [(N9, 0), (N7, v0), (N8, v1), (N6, t), (N5, b2), (N4, b1), (N3, b0), (N2, a2), (N1, a1), (N0, a0)] := E.mid 2 _ (N9, 0) rfl rfl
  have q0 := E.cell (b := N9) (v := 0) (by simp)
  have z0 := E.frz (b := N9) (v := 0) (by simp)
  go_upto_region 13 with fail
  replace E := E.set v2
  clear q0 z0
  generalize w15.setCell ⟨N9, 0, none⟩ (.float .f64 v2) = w16 at *
  replace E : Ev w w16 [(N8, v1), (N9, v2), (N7, v0), (N6, t), (N5, b2), (N4, b1), (N3, b0), (N2, a2), (N1, a1), (N0, a0)] := E.mid 2 _ (N8, v1) rfl rfl
  replace E : Ev w w16 [(N7, v0), (N8, v1), (N9, v2), (N6, t), (N5, b2), (N4, b1), (N3, b0), (N2, a2), (N1, a1), (N0, a0)] := E.mid 2 _ (N7, v0) rfl rfl
  refine wp_region_invB' (fun A0 listed act_ w' => ∃ l0 l1 l2 l3 l4 l5 : Bool, ∃ u58 u59 u60 : Value, listed = #[l0, l1, l2, l3, l4, l5] ∧ act_ = (((A0.put (some 58) u58).put (some 59) u59).put (some 60) u60) ∧ Ev w w' ((N7, cond l3 v0 v0) :: ((N8, cond l4 v1 v1) :: ((N9, cond l5 v2 v2) :: [(N6, t), (N5, b2), (N4, b1), (N3, b0), (N2, a2), (N1, a1), (N0, a0)]))) ∧ (l0 = true → u58 = .agg #[.float .f64 v0]) ∧ (l1 = true → u59 = .agg #[.float .f64 v1]) ∧ (l2 = true → u60 = .agg #[.float .f64 v2]) ∧ (l3 = true → l0 = true) ∧ (l4 = true → l1 = true) ∧ (l5 = true → l2 = true)) (by kernel_rfl) (by kernel_rfl) ?h0_17 ?hstep_17 ?hend_17
  case h0_17 =>
    simp only [Act.put, List.setIfInBounds_toArray, List.set_cons_zero, List.set_cons_succ]
    refine ⟨false, false, false, false, false, false, _, _, _, rfl, rfl, (by first | exact E.drew | simpa using E.drew), ?_⟩
    simp
  case hend_17 =>
    intro listed act_ w' hs hall hI
    simp only [Act.put, List.setIfInBounds_toArray, List.set_cons_zero, List.set_cons_succ] at hI
    obtain ⟨l0, l1, l2, l3, l4, l5, u58, u59, u60, rfl, rfl, EE, h58, h59, h60, J0, J1, J2⟩ := hI
    have t0 := hall 0 (by simp)
    have t1 := hall 1 (by simp)
    have t2 := hall 2 (by simp)
    have t3 := hall 3 (by simp)
    have t4 := hall 4 (by simp)
    have t5 := hall 5 (by simp)
    simp at t0 t1 t2 t3 t4 t5
    obtain rfl := h58 t0
    obtain rfl := h59 t1
    obtain rfl := h60 t2
    obtain rfl := t3
    obtain rfl := t4
    obtain rfl := t5
    clear hall
    have q0 := EE.cell (b := N7) (v := v0) (by simp)
    have q1 := EE.cell (b := N8) (v := v1) (by simp)
    have q2 := EE.cell (b := N9) (v := v2) (by simp)
    go_wp2_with fail
    exact bodyPost_ret (v := .tuple #[.agg #[.float .f64 v0], .agg #[.float .f64 v1], .agg #[.float .f64 v2]]) (by simp [results, Try.results15, go_sem, q0, q1, q2]) rfl ⟨rfl, EE.below⟩
  case hstep_17 =>
    intro listed act_ w' i hs hi hI
    simp only [Act.put, List.setIfInBounds_toArray, List.set_cons_zero, List.set_cons_succ] at hI ⊢
    obtain ⟨l0, l1, l2, l3, l4, l5, u58, u59, u60, rfl, rfl, EE, h58, h59, h60, J0, J1, J2⟩ := hI
    obtain ⟨hf, o, ho, hdep⟩ := mem_ready.1 hi
    have hin : i = 0 ∨ i = 1 ∨ i = 2 ∨ i = 3 ∨ i = 4 ∨ i = 5 := by
      rcases Nat.lt_or_ge i 6 with h | h
      · omega
      · rw [Array.getElem?_eq_none h] at ho
        cases ho
    have EH := Lib.hid EE
    clear EE  hi hs
    rcases hin with rfl | rfl | rfl | rfl | rfl | rfl
    all_goals
      have ho2 := ho
      simp only [List.getElem?_toArray, List.getElem?_cons_zero, List.getElem?_cons_succ, Option.some.injEq] at ho2
      subst ho2
      simp [Region.binds] at hdep hf
      subst hf
      refine wpOp_step ho (fun K hK => ?_)
      replace hK := Lib.hid hK
      clear ho
    · have hl_ : l3 = false := by
        cases hx_ : l3 with
        | false => rfl
        | true => have := J0 hx_; simp at this
      subst hl_
      have hq_ := EH.out.cell (b := N7) (v := v0) (by simp)
      go_simp
      refine hK.out _ _ ?_
      exact ⟨_, _, _, _, _, _, _, _, _, rfl, rfl, EH.out, by first | exact h58 | exact fun _ => rfl | (intro _; simp [hdep]), by first | exact h59 | exact fun _ => rfl | (intro _; simp [hdep]), by first | exact h60 | exact fun _ => rfl | (intro _; simp [hdep]), by first | exact J0 | exact fun _ => rfl | (intro _; simp [hdep]), by first | exact J1 | exact fun _ => rfl | (intro _; simp [hdep]), by first | exact J2 | exact fun _ => rfl | (intro _; simp [hdep])⟩
    · have hl_ : l4 = false := by
        cases hx_ : l4 with
        | false => rfl
        | true => have := J1 hx_; simp at this
      subst hl_
      have hq_ := EH.out.cell (b := N8) (v := v1) (by simp)
      go_simp
      refine hK.out _ _ ?_
      exact ⟨_, _, _, _, _, _, _, _, _, rfl, rfl, EH.out, by first | exact h58 | exact fun _ => rfl | (intro _; simp [hdep]), by first | exact h59 | exact fun _ => rfl | (intro _; simp [hdep]), by first | exact h60 | exact fun _ => rfl | (intro _; simp [hdep]), by first | exact J0 | exact fun _ => rfl | (intro _; simp [hdep]), by first | exact J1 | exact fun _ => rfl | (intro _; simp [hdep]), by first | exact J2 | exact fun _ => rfl | (intro _; simp [hdep])⟩
    · have hl_ : l5 = false := by
        cases hx_ : l5 with
        | false => rfl
        | true => have := J2 hx_; simp at this
      subst hl_
      have hq_ := EH.out.cell (b := N9) (v := v2) (by simp)
      go_simp
      refine hK.out _ _ ?_
      exact ⟨_, _, _, _, _, _, _, _, _, rfl, rfl, EH.out, by first | exact h58 | exact fun _ => rfl | (intro _; simp [hdep]), by first | exact h59 | exact fun _ => rfl | (intro _; simp [hdep]), by first | exact h60 | exact fun _ => rfl | (intro _; simp [hdep]), by first | exact J0 | exact fun _ => rfl | (intro _; simp [hdep]), by first | exact J1 | exact fun _ => rfl | (intro _; simp [hdep]), by first | exact J2 | exact fun _ => rfl | (intro _; simp [hdep])⟩
    · obtain rfl := h58 (by simp [hdep])
      have hq_ := EH.out.cell (b := N7) (v := v0) (by simp)
      have hz_ := EH.out.frz (b := N7) (v := v0) (by simp)
      go_simp
      refine hK.out _ _ ?_
      exact ⟨_, _, _, _, _, _, _, _, _, rfl, rfl, ((EH.out.perm (List.Perm.refl _)).set v0).perm (List.Perm.refl _).symm, by first | exact h58 | exact fun _ => rfl | (intro _; simp [hdep]), by first | exact h59 | exact fun _ => rfl | (intro _; simp [hdep]), by first | exact h60 | exact fun _ => rfl | (intro _; simp [hdep]), by first | exact J0 | exact fun _ => rfl | (intro _; simp [hdep]), by first | exact J1 | exact fun _ => rfl | (intro _; simp [hdep]), by first | exact J2 | exact fun _ => rfl | (intro _; simp [hdep])⟩
    · obtain rfl := h59 (by simp [hdep])
      have hq_ := EH.out.cell (b := N8) (v := v1) (by simp)
      have hz_ := EH.out.frz (b := N8) (v := v1) (by simp)
      go_simp
      refine hK.out _ _ ?_
      exact ⟨_, _, _, _, _, _, _, _, _, rfl, rfl, ((EH.out.perm (List.Perm.swap _ _ _)).set v1).perm (List.Perm.swap _ _ _).symm, by first | exact h58 | exact fun _ => rfl | (intro _; simp [hdep]), by first | exact h59 | exact fun _ => rfl | (intro _; simp [hdep]), by first | exact h60 | exact fun _ => rfl | (intro _; simp [hdep]), by first | exact J0 | exact fun _ => rfl | (intro _; simp [hdep]), by first | exact J1 | exact fun _ => rfl | (intro _; simp [hdep]), by first | exact J2 | exact fun _ => rfl | (intro _; simp [hdep])⟩
    · obtain rfl := h60 (by simp [hdep])
      have hq_ := EH.out.cell (b := N9) (v := v2) (by simp)
      have hz_ := EH.out.frz (b := N9) (v := v2) (by simp)
      go_simp
      refine hK.out _ _ ?_
      exact ⟨_, _, _, _, _, _, _, _, _, rfl, rfl, ((EH.out.perm (((List.Perm.swap _ _ _).cons _).trans (List.Perm.swap _ _ _))).set v2).perm (((List.Perm.swap _ _ _).cons _).trans (List.Perm.swap _ _ _)).symm, by first | exact h58 | exact fun _ => rfl | (intro _; simp [hdep]), by first | exact h59 | exact fun _ => rfl | (intro _; simp [hdep]), by first | exact h60 | exact fun _ => rfl | (intro _; simp [hdep]), by first | exact J0 | exact fun _ => rfl | (intro _; simp [hdep]), by first | exact J1 | exact fun _ => rfl | (intro _; simp [hdep]), by first | exact J2 | exact fun _ => rfl | (intro _; simp [hdep])⟩
set_option maxRecDepth 20000 in
set_option maxHeartbeats 8000000 in
theorem colo (a0 a1 a2 b0 b1 b2 t v0 v1 v2 : Nat) (m : Int) (cs : Int) (hcs : ¬ cs = 2 ∧ ¬ cs = 3 ∧ ¬ cs = 5 ∧ ¬ cs = 7) (w : World) (c0 : ∀ w, Calls Try.prog 20 #[.agg #[.float .f64 a0], .agg #[.float .f64 b0], .agg #[.float .f64 t]] w fun e w' => e = .returned (.agg #[.float .f64 v0]) ∧ Below w.heap.size w w') (c1 : ∀ w, Calls Try.prog 20 #[.agg #[.float .f64 a1], .agg #[.float .f64 b1], .agg #[.float .f64 t]] w fun e w' => e = .returned (.agg #[.float .f64 v1]) ∧ Below w.heap.size w w') (c2 : ∀ w, Calls Try.prog 20 #[.agg #[.float .f64 a2], .agg #[.float .f64 b2], .agg #[.float .f64 t]] w fun e w' => e = .returned (.agg #[.float .f64 v2]) ∧ Below w.heap.size w w') :
    Calls Try.prog 15 #[.agg #[.float .f64 a0], .agg #[.float .f64 a1], .agg #[.float .f64 a2], .agg #[.float .f64 b0], .agg #[.float .f64 b1], .agg #[.float .f64 b2], .int .u8 cs, .int .u8 m, .agg #[.float .f64 t]] w fun e w' => e = .returned (.tuple #[.agg #[.float .f64 v0], .agg #[.float .f64 v1], .agg #[.float .f64 v2]]) ∧ Below w.heap.size w w' := by
  have C0 := Lib.hid c0
  have C1 := Lib.hid c1
  have C2 := Lib.hid c2
  clear c0 c1 c2
  obtain ⟨n2, n3, n5, n7⟩ := hcs
  have g2 : (cs == 2) = false := by simp [n2]
  have g3 : (cs == 3) = false := by simp [n3]
  have g5 : (cs == 5) = false := by simp [n5]
  have g7 : (cs == 7) = false := by simp [n7]
  have hsz : ∀ (w : World) o, (w.alloc o).heap.size = w.heap.size + 1 := fun w o => by simp
  go_enter Try.func15, Try.ntmps15
  go_upto_region 1 with fail
  have E := (((((((((((Ev.start w).new a0 34).new a1 34).new a2 34).new b0 34).new b1 34).new b2 34).new t 34).new 0 34).new 0 34).new 0 34)
  simp only [hsz] at E
  generalize hG1 : w.heap.size + 1 = N1 at *
  generalize hG2 : N1 + 1 = N2 at *
  generalize hG3 : N2 + 1 = N3 at *
  generalize hG4 : N3 + 1 = N4 at *
  generalize hG5 : N4 + 1 = N5 at *
  generalize hG6 : N5 + 1 = N6 at *
  generalize hG7 : N6 + 1 = N7 at *
  generalize hG8 : N7 + 1 = N8 at *
  generalize hG9 : N8 + 1 = N9 at *
  clear hG1 hG2 hG3 hG4 hG5 hG6 hG7 hG8 hG9
  obtain ⟨N0, hN0⟩ : ∃ n, n = w.heap.size := ⟨_, rfl⟩
  rw [← hN0] at E
  rw [← hN0]
  clear hN0
  generalize ((((((((((w.alloc (.cells #[.float .f64 a0] 34)).alloc (.cells #[.float .f64 a1] 34)).alloc (.cells #[.float .f64 a2] 34)).alloc (.cells #[.float .f64 b0] 34)).alloc (.cells #[.float .f64 b1] 34)).alloc (.cells #[.float .f64 b2] 34)).alloc (.cells #[.float .f64 t] 34)).alloc (.cells #[.float .f64 0] 34)).alloc (.cells #[.float .f64 0] 34)).alloc (.cells #[.float .f64 0] 34)) = w1 at *
  have q0 := E.cell (b := N1) (v := a1) (by simp)
  have q1 := E.cell (b := N4) (v := b1) (by simp)
  have q2 := E.cell (b := N6) (v := t) (by simp)
  go_wp2_with fail
  refine (C1.out _).mono ?_
  rintro e w11 ⟨rfl, hb⟩
  replace E := E.call hb
  clear hb q0 q1 q2
  replace E : Ev w w11 [(N8, 0), (N9, 0), (N7, 0), (N6, t), (N5, b2), (N4, b1), (N3, b0), (N2, a2), (N1, a1), (N0, a0)] := E.mid 1 _ (N8, 0) rfl rfl
  have q0 := E.cell (b := N8) (v := 0) (by simp)
  have z0 := E.frz (b := N8) (v := 0) (by simp)
  go_upto_region 2 with fail
  replace E := E.set v1
  clear q0 z0
  generalize w11.setCell ⟨N8, 0, none⟩ (.float .f64 v1) = w12 at *
  have q0 := E.cell (b := N0) (v := a0) (by simp)
  have q1 := E.cell (b := N3) (v := b0) (by simp)
  have q2 := E.cell (b := N6) (v := t) (by simp)
  go_wp2_with fail
  refine (C0.out _).mono ?_
  rintro e w13 ⟨rfl, hb⟩
  replace E := E.call hb
  clear hb q0 q1 q2
  replace E : Ev w w13 [(N7, 0), (N8, v1), (N9, 0), (N6, t), (N5, b2), (N4, b1), (N3, b0), (N2, a2), (N1, a1), (N0, a0)] := E.mid 2 _ (N7, 0) rfl rfl
  have q0 := E.cell (b := N7) (v := 0) (by simp)
  have z0 := E.frz (b := N7) (v := 0) (by simp)
  go_upto_region 4 with fail
  replace E := E.set v0
  clear q0 z0
  generalize w13.setCell ⟨N7, 0, none⟩ (.float .f64 v0) = w14 at *
  have q0 := E.cell (b := N2) (v := a2) (by simp)
  have q1 := E.cell (b := N5) (v := b2) (by simp)
  have q2 := E.cell (b := N6) (v := t) (by simp)
  go_wp2_with fail
  refine (C2.out _).mono ?_
  rintro e w15 ⟨rfl, hb⟩
  replace E := E.call hb
  clear hb q0 q1 q2
  replace E : Ev w w15 [(N9, 0), (N7, v0), (N8, v1), (N6, t), (N5, b2), (N4, b1), (N3, b0), (N2, a2), (N1, a1), (N0, a0)] := E.mid 2 _ (N9, 0) rfl rfl
  have q0 := E.cell (b := N9) (v := 0) (by simp)
  have z0 := E.frz (b := N9) (v := 0) (by simp)
  go_upto_region 13 with fail
  replace E := E.set v2
  clear q0 z0
  generalize w15.setCell ⟨N9, 0, none⟩ (.float .f64 v2) = w16 at *
  replace E : Ev w w16 [(N8, v1), (N9, v2), (N7, v0), (N6, t), (N5, b2), (N4, b1), (N3, b0), (N2, a2), (N1, a1), (N0, a0)] := E.mid 2 _ (N8, v1) rfl rfl
  replace E : Ev w w16 [(N7, v0), (N8, v1), (N9, v2), (N6, t), (N5, b2), (N4, b1), (N3, b0), (N2, a2), (N1, a1), (N0, a0)] := E.mid 2 _ (N7, v0) rfl rfl
  refine wp_region_invB' (fun A0 listed act_ w' => ∃ l0 l1 l2 l3 l4 l5 : Bool, ∃ u58 u59 u60 : Value, listed = #[l0, l1, l2, l3, l4, l5] ∧ act_ = (((A0.put (some 58) u58).put (some 59) u59).put (some 60) u60) ∧ Ev w w' ((N7, cond l3 v0 v0) :: ((N8, cond l4 v1 v1) :: ((N9, cond l5 v2 v2) :: [(N6, t), (N5, b2), (N4, b1), (N3, b0), (N2, a2), (N1, a1), (N0, a0)]))) ∧ (l0 = true → u58 = .agg #[.float .f64 v0]) ∧ (l1 = true → u59 = .agg #[.float .f64 v1]) ∧ (l2 = true → u60 = .agg #[.float .f64 v2]) ∧ (l3 = true → l0 = true) ∧ (l4 = true → l1 = true) ∧ (l5 = true → l2 = true)) (by kernel_rfl) (by kernel_rfl) ?h0_18 ?hstep_18 ?hend_18
  case h0_18 =>
    simp only [Act.put, List.setIfInBounds_toArray, List.set_cons_zero, List.set_cons_succ]
    refine ⟨false, false, false, false, false, false, _, _, _, rfl, rfl, (by first | exact E.drew | simpa using E.drew), ?_⟩
    simp
  case hend_18 =>
    intro listed act_ w' hs hall hI
    simp only [Act.put, List.setIfInBounds_toArray, List.set_cons_zero, List.set_cons_succ] at hI
    obtain ⟨l0, l1, l2, l3, l4, l5, u58, u59, u60, rfl, rfl, EE, h58, h59, h60, J0, J1, J2⟩ := hI
    have t0 := hall 0 (by simp)
    have t1 := hall 1 (by simp)
    have t2 := hall 2 (by simp)
    have t3 := hall 3 (by simp)
    have t4 := hall 4 (by simp)
    have t5 := hall 5 (by simp)
    simp at t0 t1 t2 t3 t4 t5
    obtain rfl := h58 t0
    obtain rfl := h59 t1
    obtain rfl := h60 t2
    obtain rfl := t3
    obtain rfl := t4
    obtain rfl := t5
    clear hall
    have q0 := EE.cell (b := N7) (v := v0) (by simp)
    have q1 := EE.cell (b := N8) (v := v1) (by simp)
    have q2 := EE.cell (b := N9) (v := v2) (by simp)
    go_wp2_with fail
    exact bodyPost_ret (v := .tuple #[.agg #[.float .f64 v0], .agg #[.float .f64 v1], .agg #[.float .f64 v2]]) (by simp [results, Try.results15, go_sem, q0, q1, q2]) rfl ⟨rfl, EE.below⟩
  case hstep_18 =>
    intro listed act_ w' i hs hi hI
    simp only [Act.put, List.setIfInBounds_toArray, List.set_cons_zero, List.set_cons_succ] at hI ⊢
    obtain ⟨l0, l1, l2, l3, l4, l5, u58, u59, u60, rfl, rfl, EE, h58, h59, h60, J0, J1, J2⟩ := hI
    obtain ⟨hf, o, ho, hdep⟩ := mem_ready.1 hi
    have hin : i = 0 ∨ i = 1 ∨ i = 2 ∨ i = 3 ∨ i = 4 ∨ i = 5 := by
      rcases Nat.lt_or_ge i 6 with h | h
      · omega
      · rw [Array.getElem?_eq_none h] at ho
        cases ho
    have EH := Lib.hid EE
    clear EE  hi hs
    rcases hin with rfl | rfl | rfl | rfl | rfl | rfl
    all_goals
      have ho2 := ho
      simp only [List.getElem?_toArray, List.getElem?_cons_zero, List.getElem?_cons_succ, Option.some.injEq] at ho2
      subst ho2
      simp [Region.binds] at hdep hf
      subst hf
      refine wpOp_step ho (fun K hK => ?_)
      replace hK := Lib.hid hK
      clear ho
    · have hl_ : l3 = false := by
        cases hx_ : l3 with
        | false => rfl
        | true => have := J0 hx_; simp at this
      subst hl_
      have hq_ := EH.out.cell (b := N7) (v := v0) (by simp)
      go_simp
      refine hK.out _ _ ?_
      exact ⟨_, _, _, _, _, _, _, _, _, rfl, rfl, EH.out, by first | exact h58 | exact fun _ => rfl | (intro _; simp [hdep]), by first | exact h59 | exact fun _ => rfl | (intro _; simp [hdep]), by first | exact h60 | exact fun _ => rfl | (intro _; simp [hdep]), by first | exact J0 | exact fun _ => rfl | (intro _; simp [hdep]), by first | exact J1 | exact fun _ => rfl | (intro _; simp [hdep]), by first | exact J2 | exact fun _ => rfl | (intro _; simp [hdep])⟩
    · have hl_ : l4 = false := by
        cases hx_ : l4 with
        | false => rfl
        | true => have := J1 hx_; simp at this
      subst hl_
      have hq_ := EH.out.cell (b := N8) (v := v1) (by simp)
      go_simp
      refine hK.out _ _ ?_
      exact ⟨_, _, _, _, _, _, _, _, _, rfl, rfl, EH.out, by first | exact h58 | exact fun _ => rfl | (intro _; simp [hdep]), by first | exact h59 | exact fun _ => rfl | (intro _; simp [hdep]), by first | exact h60 | exact fun _ => rfl | (intro _; simp [hdep]), by first | exact J0 | exact fun _ => rfl | (intro _; simp [hdep]), by first | exact J1 | exact fun _ => rfl | (intro _; simp [hdep]), by first | exact J2 | exact fun _ => rfl | (intro _; simp [hdep])⟩
    · have hl_ : l5 = false := by
        cases hx_ : l5 with
        | false => rfl
        | true => have := J2 hx_; simp at this
      subst hl_
      have hq_ := EH.out.cell (b := N9) (v := v2) (by simp)
      go_simp
      refine hK.out _ _ ?_
      exact ⟨_, _, _, _, _, _, _, _, _, rfl, rfl, EH.out, by first | exact h58 | exact fun _ => rfl | (intro _; simp [hdep]), by first | exact h59 | exact fun _ => rfl | (intro _; simp [hdep]), by first | exact h60 | exact fun _ => rfl | (intro _; simp [hdep]), by first | exact J0 | exact fun _ => rfl | (intro _; simp [hdep]), by first | exact J1 | exact fun _ => rfl | (intro _; simp [hdep]), by first | exact J2 | exact fun _ => rfl | (intro _; simp [hdep])⟩
    · obtain rfl := h58 (by simp [hdep])
      have hq_ := EH.out.cell (b := N7) (v := v0) (by simp)
      have hz_ := EH.out.frz (b := N7) (v := v0) (by simp)
      go_simp
      refine hK.out _ _ ?_
      exact ⟨_, _, _, _, _, _, _, _, _, rfl, rfl, ((EH.out.perm (List.Perm.refl _)).set v0).perm (List.Perm.refl _).symm, by first | exact h58 | exact fun _ => rfl | (intro _; simp [hdep]), by first | exact h59 | exact fun _ => rfl | (intro _; simp [hdep]), by first | exact h60 | exact fun _ => rfl | (intro _; simp [hdep]), by first | exact J0 | exact fun _ => rfl | (intro _; simp [hdep]), by first | exact J1 | exact fun _ => rfl | (intro _; simp [hdep]), by first | exact J2 | exact fun _ => rfl | (intro _; simp [hdep])⟩
    · obtain rfl := h59 (by simp [hdep])
      have hq_ := EH.out.cell (b := N8) (v := v1) (by simp)
      have hz_ := EH.out.frz (b := N8) (v := v1) (by simp)
      go_simp
      refine hK.out _ _ ?_
      exact ⟨_, _, _, _, _, _, _, _, _, rfl, rfl, ((EH.out.perm (List.Perm.swap _ _ _)).set v1).perm (List.Perm.swap _ _ _).symm, by first | exact h58 | exact fun _ => rfl | (intro _; simp [hdep]), by first | exact h59 | exact fun _ => rfl | (intro _; simp [hdep]), by first | exact h60 | exact fun _ => rfl | (intro _; simp [hdep]), by first | exact J0 | exact fun _ => rfl | (intro _; simp [hdep]), by first | exact J1 | exact fun _ => rfl | (intro _; simp [hdep]), by first | exact J2 | exact fun _ => rfl | (intro _; simp [hdep])⟩
    · obtain rfl := h60 (by simp [hdep])
      have hq_ := EH.out.cell (b := N9) (v := v2) (by simp)
      have hz_ := EH.out.frz (b := N9) (v := v2) (by simp)
      go_simp
      refine hK.out _ _ ?_
      exact ⟨_, _, _, _, _, _, _, _, _, rfl, rfl, ((EH.out.perm (((List.Perm.swap _ _ _).cons _).trans (List.Perm.swap _ _ _))).set v2).perm (((List.Perm.swap _ _ _).cons _).trans (List.Perm.swap _ _ _)).symm, by first | exact h58 | exact fun _ => rfl | (intro _; simp [hdep]), by first | exact h59 | exact fun _ => rfl | (intro _; simp [hdep]), by first | exact h60 | exact fun _ => rfl | (intro _; simp [hdep]), by first | exact J0 | exact fun _ => rfl | (intro _; simp [hdep]), by first | exact J1 | exact fun _ => rfl | (intro _; simp [hdep]), by first | exact J2 | exact fun _ => rfl | (intro _; simp [hdep])⟩
end Go.Proofs.Ythhoalfilmlhaaa
