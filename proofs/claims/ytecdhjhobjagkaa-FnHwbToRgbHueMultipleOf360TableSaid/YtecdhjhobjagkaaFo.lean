/-
  The contracts of math.Floor, F64.Floor, Max2 and of hsl_to_rgb's literal. Condition: the operations have answers.
-/
import Derived.Test.YtecdhjhobjagkaaFg
import Derived.Deep.DeepCutAuto
namespace Go.Proofs.Ytecdhjhobjagkaa
open Go.ChangeShapes Go.WideShapes Go.ChangeAt Go.RowKit
attribute [local go_sem] run_store_float unary_neg_float

/-- math.Floor of the word a is b -/
def FloorIs (a b : Nat) : Prop := ∀ w, (callFunc 61 #[.float .f64 a]).run Try.prog w = .ok (.value (.float .f64 b)) w
theorem floor56 (a b : Nat) (w : World) (h : FloorIs a b) : Calls Try.prog 56 #[.float .f64 a] w fun e w' => e = .returned (.float .f64 b) ∧ w' = w := by
  have hr := fun w => h w
  clear h
  go_enter Try.func56, Try.ntmps56
  go_wp2_with fail
  go_ret
  exact ⟨rfl, rfl⟩
theorem floor47 (a b : Nat) (w : World) (h : FloorIs a b) : Calls Try.prog 47 #[.agg #[.float .f64 a]] w fun e w' => e = .returned (.agg #[.float .f64 b]) ∧ Below w.heap.size w w' := by
  have H := Lib.hid (fun w => floor56 a b w h)
  clear h
  go_enter Try.func47, Try.ntmps47
  go_wp2_with (first | (go_at_call 56; with_reducible refine (H.out _).mono ?_; rintro e w1 ⟨rfl, hw⟩; obtain rfl := hw.symm) | (go_at_call 25; with_reducible refine (fnew _ _).mono ?_; rintro e w1 ⟨rfl, rfl⟩))
  refine bodyPost_ret (v := .agg #[.float .f64 b]) (by simp [results, Try.results47, go_sem]) rfl ⟨rfl, ?_⟩
  go_grown
theorem max49 (x y : Nat) (w : World) :
    Calls Try.prog 49 #[.agg #[.float .f64 x], .agg #[.float .f64 y]] w fun e w' => e = .returned (.agg #[.float .f64 (fmax x y)]) ∧ Below w.heap.size w w' := by
  go_enter Try.func49, Try.ntmps49
  go_wp2_with (first | (go_at_call 46; with_reducible refine (max46 _ _ _).mono ?_; rintro e w1 ⟨rfl, hw⟩; obtain rfl := hw.symm) | (go_at_call 25; with_reducible refine (fnew _ _).mono ?_; rintro e w1 ⟨rfl, rfl⟩))
  refine bodyPost_ret (v := .agg #[.float .f64 (fmax x y)]) (by simp [results, Try.results49, go_sem]) rfl ⟨rfl, ?_⟩
  go_grown

set_option maxRecDepth 20000 in
set_option maxHeartbeats 16000000 in
theorem clo48 (n h l s a1 a2 a3 a4 a5 a6 b2 b3 b4 c1 c2 c3 c4 c5 c6 bh bl bs : Nat) (w : World) (k1 : floatBits .quo .f64 h 4629137466983448576 = some a1) (k2 : floatBits .add .f64 a1 n = some a2) (k3 : floatBits .quo .f64 a2 4622945017495814144 = some a3) (k5 : floatBits .sub .f64 a3 a4 = some a5) (k6 : floatBits .mul .f64 a5 4622945017495814144 = some a6) (j2 : floatBits .add .f64 (Fl.fneg l) 4607182418800017408 = some b2) (j4 : floatBits .mul .f64 b3 s = some b4) (i1 : floatBits .sub .f64 a6 4613937818241073152 = some c1) (i2 : floatBits .add .f64 (Fl.fneg a6) 4621256167635550208 = some c2) (i5 : floatBits .mul .f64 c4 b4 = some c5) (i6 : floatBits .sub .f64 l c5 = some c6) (k4 : FloorIs a3 a4) (j3 : fmin l b2 = b3) (i3 : fmin (fmin c1 c2) 4607182418800017408 = c3) (i4 : fmax 13830554455654793216 c3 = c4)
    (qh : w.cell? ⟨bh, 0, none⟩ = some (.float .f64 h)) (ql : w.cell? ⟨bl, 0, none⟩ = some (.float .f64 l)) (qs : w.cell? ⟨bs, 0, none⟩ = some (.float .f64 s)) (lh : bh < w.heap.size) (ll : bl < w.heap.size) (ls : bs < w.heap.size) :
    Calls Try.prog 48 #[.float .f64 n, .pointer (some ⟨bh, 0, none⟩), .pointer (some ⟨bl, 0, none⟩), .pointer (some ⟨bs, 0, none⟩)] w fun e w' => e = .returned (.agg #[.float .f64 c6]) ∧ Below w.heap.size w w' := by
  have Kk1 := Lib.hid (fun w => fdivc h _ a1 w k1)
  have Kk2 := Lib.hid (fun w => faddc a1 n a2 w k2)
  have Kk3 := Lib.hid (fun w => fdivc a2 _ a3 w k3)
  have Kk5 := Lib.hid (fun w => fsubb a3 a4 a5 w k5)
  have Kk6 := Lib.hid (fun w => fmulc a5 _ a6 w k6)
  have Kj2 := Lib.hid (fun w => faddc (Fl.fneg l) _ b2 w j2)
  have Kj4 := Lib.hid (fun w => fmulb b3 s b4 w j4)
  have Ki1 := Lib.hid (fun w => fsubc a6 _ c1 w i1)
  have Ki2 := Lib.hid (fun w => faddc (Fl.fneg a6) _ c2 w i2)
  have Ki5 := Lib.hid (fun w => fmulb c4 b4 c5 w i5)
  have Ki6 := Lib.hid (fun w => fsubb l c5 c6 w i6)
  have Kk4 := Lib.hid (fun w => floor47 a3 a4 w k4)
  have Kj3 := Lib.hid (fun w => min44 l b2 w)
  rw [j3] at Kj3
  have Ki3 := Lib.hid (fun w => min32 c1 c2 4607182418800017408 w)
  rw [i3] at Ki3
  have Ki4 := Lib.hid (fun w => max49 13830554455654793216 c3 w)
  rw [i4] at Ki4
  clear k1 k2 k3 k5 k6 j2 j4 i1 i2 i5 i6 k4 j3 i3 i4
  have R : ∀ w', Below w.heap.size w w' → w'.cell? ⟨bh, 0, none⟩ = some (.float .f64 h) ∧ w'.cell? ⟨bl, 0, none⟩ = some (.float .f64 l) ∧ w'.cell? ⟨bs, 0, none⟩ = some (.float .f64 s) := fun w' hb =>
    ⟨by rw [hb.cell (p := ⟨bh, 0, none⟩) lh]; exact qh, by rw [hb.cell (p := ⟨bl, 0, none⟩) ll]; exact ql, by rw [hb.cell (p := ⟨bs, 0, none⟩) ls]; exact qs⟩
  have R := Lib.hid R
  have nh : bh ≠ w.heap.size := by omega
  go_enter Try.func48, Try.ntmps48
  go_wp2_with fail
  have E1 := (Ev.start w).new 0 56
  refine (Kk1.out _).mono ?_
  rintro e w1 ⟨rfl, hb⟩
  replace E1 := E1.call hb
  clear hb
  go_wp2_with fail
  refine (Kk2.out _).mono ?_
  rintro e w2 ⟨rfl, hb⟩
  replace E1 := E1.call hb
  clear hb
  go_upto_region 2 with fail
  have E2 := E1.new a2 56
  clear E1 nh qh ql qs
  generalize w2.heap.size = b6 at *
  generalize w2.alloc (.cells #[.float .f64 a2] 56) = w3 at *
  have q6 := E2.cell (b := b6) (v := a2) (by simp)
  go_wp2_with fail
  refine (Kk3.out _).mono ?_
  rintro e w4 ⟨rfl, hb⟩
  replace E2 := E2.call hb
  clear hb q6
  have q6 := E2.cell (b := b6) (v := a2) (by simp)
  have z6 := E2.frz (b := b6) (v := a2) (by simp)
  go_upto_region 3 with fail
  have E3 := E2.set a3
  clear E2 q6 z6
  generalize w4.setCell ⟨b6, 0, none⟩ (.float .f64 a3) = w5 at *
  refine wp_region_inv' (fun A0 listed act_ w' => ∃ l0 l1 l2 l3 l4 : Bool, ∃ u14 u15 u16 u17 : Value, listed = #[l0, l1, l2, l3, l4] ∧ act_ = ((((A0.put (some 14) u14).put (some 15) u15).put (some 16) u16).put (some 17) u17) ∧ Ev w w' ((b6, cond l4 a5 a3) :: [(w.heap.size, 0)]) ∧ (l0 = true → u14 = .agg #[.float .f64 a3]) ∧ (l1 = true → u15 = .agg #[.float .f64 a3]) ∧ (l2 = true → u16 = .agg #[.float .f64 a4]) ∧ (l3 = true → u17 = .agg #[.float .f64 a5]) ∧ (l4 = true → l0 = true) ∧ (l4 = true → l1 = true)) (by kernel_rfl) (by kernel_rfl) ?h0_3 ?hstep_3 ?hend_3
  case h0_3 =>
    simp only [Act.put, List.setIfInBounds_toArray, List.set_cons_zero, List.set_cons_succ]
    refine ⟨false, false, false, false, false, _, _, _, _, rfl, rfl, E3.drew, ?_⟩
    simp
  case hend_3 =>
    intro listed act_ w' hs hall hI
    simp only [Act.put, List.setIfInBounds_toArray, List.set_cons_zero, List.set_cons_succ] at hI
    obtain ⟨l0, l1, l2, l3, l4, u14, u15, u16, u17, rfl, rfl, EE, h14, h15, h16, h17, J0, J1⟩ := hI
    have t0 := hall 0 (by simp)
    have t1 := hall 1 (by simp)
    have t2 := hall 2 (by simp)
    have t3 := hall 3 (by simp)
    have t4 := hall 4 (by simp)
    simp at t0 t1 t2 t3 t4
    obtain rfl := h14 t0
    obtain rfl := h15 t1
    obtain rfl := h16 t2
    obtain rfl := h17 t3
    obtain rfl := t4
    clear hall
    have q6 := EE.cell (b := b6) (v := a5) (by simp)
    go_wp2_with fail
    refine (Kk6.out _).mono ?_
    rintro e w6 ⟨rfl, hb⟩
    have E4 := EE.call hb
    clear hb q6 EE
    have q6 := E4.cell (b := b6) (v := a5) (by simp)
    have z6 := E4.frz (b := b6) (v := a5) (by simp)
    go_upto_region 5 with fail
    have E5 := E4.set a6
    clear E4 q6 z6
    generalize w6.setCell ⟨b6, 0, none⟩ (.float .f64 a6) = w7 at *
    go_cut [7] (fun s7 wx => ∃ b7, s7 = .pointer (some ⟨b7, 0, none⟩) ∧ Ev w wx ((b7, b4) :: [(b6, a6), (w.heap.size, 0)]))
    case first =>
      refine wp_region_inv' (fun A0 listed act_ w' => ∃ l0 l1 l2 l3 l4 l5 l6 l7 l8 : Bool, ∃ u7 u20 u21 u22 u23 u24 u25 u26 : Value, ∃ o7 : List (Nat × Nat), listed = #[l0, l1, l2, l3, l4, l5, l6, l7, l8] ∧ act_ = ((((((((A0.put (some 7) u7).put (some 20) u20).put (some 21) u21).put (some 22) u22).put (some 23) u23).put (some 24) u24).put (some 25) u25).put (some 26) u26) ∧ Ev w w' (o7 ++ [(b6, a6), (w.heap.size, 0)]) ∧ Oc l7 l8 u7 o7 b4 ∧ (l0 = true → u20 = .agg #[.float .f64 l]) ∧ (l1 = true → u21 = .agg #[.float .f64 l]) ∧ (l2 = true → u22 = .agg #[.float .f64 (Fl.fneg l)]) ∧ (l3 = true → u23 = .agg #[.float .f64 b2]) ∧ (l4 = true → u24 = .agg #[.float .f64 b3]) ∧ (l5 = true → u25 = .agg #[.float .f64 s]) ∧ (l6 = true → u26 = .agg #[.float .f64 b4])) (by kernel_rfl) (by kernel_rfl) ?h0_1 ?hstep_1 ?hend_1
      case h0_1 =>
        simp only [Act.put, List.setIfInBounds_toArray, List.set_cons_zero, List.set_cons_succ]
        refine ⟨false, false, false, false, false, false, false, false, false, _, _, _, _, _, _, _, _, [], rfl, rfl, E5.drew, ?_⟩
        simp [Oc]
      case hend_1 =>
        intro listed act_ w' hs hall hI
        simp only [Act.put, List.setIfInBounds_toArray, List.set_cons_zero, List.set_cons_succ] at hI
        obtain ⟨l0, l1, l2, l3, l4, l5, l6, l7, l8, u7, u20, u21, u22, u23, u24, u25, u26, o7, rfl, rfl, EE, O7, h20, h21, h22, h23, h24, h25, h26⟩ := hI
        have t0 := hall 0 (by simp)
        have t1 := hall 1 (by simp)
        have t2 := hall 2 (by simp)
        have t3 := hall 3 (by simp)
        have t4 := hall 4 (by simp)
        have t5 := hall 5 (by simp)
        have t6 := hall 6 (by simp)
        have t7 := hall 7 (by simp)
        have t8 := hall 8 (by simp)
        simp at t0 t1 t2 t3 t4 t5 t6 t7 t8
        obtain ⟨b7, v7, rfl, rfl, e7⟩ := O7.2.1 t7
        obtain rfl := (e7 t8).symm
        obtain rfl := h20 t0
        obtain rfl := h21 t1
        obtain rfl := h22 t2
        obtain rfl := h23 t3
        obtain rfl := h24 t4
        obtain rfl := h25 t5
        obtain rfl := h26 t6
        clear hall
        go_wp2_with fail
        go_meet
        exact ⟨_, rfl, EE⟩
      case hstep_1 =>
        intro listed act_ w' i hs hi hI
        simp only [Act.put, List.setIfInBounds_toArray, List.set_cons_zero, List.set_cons_succ] at hI ⊢
        obtain ⟨l0, l1, l2, l3, l4, l5, l6, l7, l8, u7, u20, u21, u22, u23, u24, u25, u26, o7, rfl, rfl, EE, O7, h20, h21, h22, h23, h24, h25, h26⟩ := hI
        obtain ⟨hf, o, ho, hdep⟩ := mem_ready.1 hi
        have hin : i = 0 ∨ i = 1 ∨ i = 2 ∨ i = 3 ∨ i = 4 ∨ i = 5 ∨ i = 6 ∨ i = 7 ∨ i = 8 := by
          rcases Nat.lt_or_ge i 9 with h | h
          · omega
          · rw [Array.getElem?_eq_none h] at ho
            cases ho
        have EH := Lib.hid EE
        have OH7 := Lib.hid O7
        clear EE O7 hi hs
        rcases hin with rfl | rfl | rfl | rfl | rfl | rfl | rfl | rfl | rfl
        all_goals
          have ho2 := ho
          simp only [List.getElem?_toArray, List.getElem?_cons_zero, List.getElem?_cons_succ, Option.some.injEq] at ho2
          subst ho2
          simp [Region.binds] at hdep hf
          subst hf
          refine wpOp_step ho (fun K hK => ?_)
          replace hK := Lib.hid hK
          clear ho
        · have hq_ := (R.out _ EH.out.below).2.1
          go_simp
          refine hK.out _ _ ?_
          exact ⟨_, _, _, _, _, _, _, _, _, _, _, _, _, _, _, _, _, o7, rfl, rfl, EH.out, OH7.out, by first | exact h20 | exact fun _ => rfl | (intro _; simp [hdep]), by first | exact h21 | exact fun _ => rfl | (intro _; simp [hdep]), by first | exact h22 | exact fun _ => rfl | (intro _; simp [hdep]), by first | exact h23 | exact fun _ => rfl | (intro _; simp [hdep]), by first | exact h24 | exact fun _ => rfl | (intro _; simp [hdep]), by first | exact h25 | exact fun _ => rfl | (intro _; simp [hdep]), by first | exact h26 | exact fun _ => rfl | (intro _; simp [hdep])⟩
        · have hq_ := (R.out _ EH.out.below).2.1
          go_simp
          refine hK.out _ _ ?_
          exact ⟨_, _, _, _, _, _, _, _, _, _, _, _, _, _, _, _, _, o7, rfl, rfl, EH.out, OH7.out, by first | exact h20 | exact fun _ => rfl | (intro _; simp [hdep]), by first | exact h21 | exact fun _ => rfl | (intro _; simp [hdep]), by first | exact h22 | exact fun _ => rfl | (intro _; simp [hdep]), by first | exact h23 | exact fun _ => rfl | (intro _; simp [hdep]), by first | exact h24 | exact fun _ => rfl | (intro _; simp [hdep]), by first | exact h25 | exact fun _ => rfl | (intro _; simp [hdep]), by first | exact h26 | exact fun _ => rfl | (intro _; simp [hdep])⟩
        · obtain rfl := h21 (by simp [hdep])
          go_simp
          go_at_call 34
          refine (fnegc _ _).mono ?_
          rintro e w1 ⟨rfl, hb⟩
          refine hK.out _ _ ?_
          exact ⟨_, _, _, _, _, _, _, _, _, _, _, _, _, _, _, _, _, o7, rfl, rfl, EH.out.call hb, OH7.out, by first | exact h20 | exact fun _ => rfl | (intro _; simp [hdep]), by first | exact h21 | exact fun _ => rfl | (intro _; simp [hdep]), by first | exact h22 | exact fun _ => rfl | (intro _; simp [hdep]), by first | exact h23 | exact fun _ => rfl | (intro _; simp [hdep]), by first | exact h24 | exact fun _ => rfl | (intro _; simp [hdep]), by first | exact h25 | exact fun _ => rfl | (intro _; simp [hdep]), by first | exact h26 | exact fun _ => rfl | (intro _; simp [hdep])⟩
        · obtain rfl := h22 (by simp [hdep])
          go_simp
          go_at_call 35
          refine (Kj2.out _).mono ?_
          rintro e w1 ⟨rfl, hb⟩
          refine hK.out _ _ ?_
          exact ⟨_, _, _, _, _, _, _, _, _, _, _, _, _, _, _, _, _, o7, rfl, rfl, EH.out.call hb, OH7.out, by first | exact h20 | exact fun _ => rfl | (intro _; simp [hdep]), by first | exact h21 | exact fun _ => rfl | (intro _; simp [hdep]), by first | exact h22 | exact fun _ => rfl | (intro _; simp [hdep]), by first | exact h23 | exact fun _ => rfl | (intro _; simp [hdep]), by first | exact h24 | exact fun _ => rfl | (intro _; simp [hdep]), by first | exact h25 | exact fun _ => rfl | (intro _; simp [hdep]), by first | exact h26 | exact fun _ => rfl | (intro _; simp [hdep])⟩
        · obtain rfl := h20 (by simp [hdep])
          obtain rfl := h23 (by simp [hdep])
          go_simp
          go_at_call 44
          refine (Kj3.out _).mono ?_
          rintro e w1 ⟨rfl, hb⟩
          refine hK.out _ _ ?_
          exact ⟨_, _, _, _, _, _, _, _, _, _, _, _, _, _, _, _, _, o7, rfl, rfl, EH.out.call hb, OH7.out, by first | exact h20 | exact fun _ => rfl | (intro _; simp [hdep]), by first | exact h21 | exact fun _ => rfl | (intro _; simp [hdep]), by first | exact h22 | exact fun _ => rfl | (intro _; simp [hdep]), by first | exact h23 | exact fun _ => rfl | (intro _; simp [hdep]), by first | exact h24 | exact fun _ => rfl | (intro _; simp [hdep]), by first | exact h25 | exact fun _ => rfl | (intro _; simp [hdep]), by first | exact h26 | exact fun _ => rfl | (intro _; simp [hdep])⟩
        · have hq_ := (R.out _ EH.out.below).2.2
          go_simp
          refine hK.out _ _ ?_
          exact ⟨_, _, _, _, _, _, _, _, _, _, _, _, _, _, _, _, _, o7, rfl, rfl, EH.out, OH7.out, by first | exact h20 | exact fun _ => rfl | (intro _; simp [hdep]), by first | exact h21 | exact fun _ => rfl | (intro _; simp [hdep]), by first | exact h22 | exact fun _ => rfl | (intro _; simp [hdep]), by first | exact h23 | exact fun _ => rfl | (intro _; simp [hdep]), by first | exact h24 | exact fun _ => rfl | (intro _; simp [hdep]), by first | exact h25 | exact fun _ => rfl | (intro _; simp [hdep]), by first | exact h26 | exact fun _ => rfl | (intro _; simp [hdep])⟩
        · obtain rfl := h24 (by simp [hdep])
          obtain rfl := h25 (by simp [hdep])
          go_simp
          go_at_call 41
          refine (Kj4.out _).mono ?_
          rintro e w1 ⟨rfl, hb⟩
          refine hK.out _ _ ?_
          exact ⟨_, _, _, _, _, _, _, _, _, _, _, _, _, _, _, _, _, o7, rfl, rfl, EH.out.call hb, OH7.out, by first | exact h20 | exact fun _ => rfl | (intro _; simp [hdep]), by first | exact h21 | exact fun _ => rfl | (intro _; simp [hdep]), by first | exact h22 | exact fun _ => rfl | (intro _; simp [hdep]), by first | exact h23 | exact fun _ => rfl | (intro _; simp [hdep]), by first | exact h24 | exact fun _ => rfl | (intro _; simp [hdep]), by first | exact h25 | exact fun _ => rfl | (intro _; simp [hdep]), by first | exact h26 | exact fun _ => rfl | (intro _; simp [hdep])⟩
        · obtain rfl := OH7.out.1 rfl
          go_simp
          refine hK.out _ _ ?_
          exact ⟨_, _, _, _, _, _, _, _, _, _, _, _, _, _, _, _, _, [(w'.heap.size, 0)], rfl, rfl, (EH.out.new 0 56).perm (List.Perm.refl _).symm, ⟨by simp, fun _ => ⟨_, _, rfl, rfl, fun h => by have := OH7.out.2.2 h; simp at this⟩, fun _ => rfl⟩, by first | exact h20 | exact fun _ => rfl | (intro _; simp [hdep]), by first | exact h21 | exact fun _ => rfl | (intro _; simp [hdep]), by first | exact h22 | exact fun _ => rfl | (intro _; simp [hdep]), by first | exact h23 | exact fun _ => rfl | (intro _; simp [hdep]), by first | exact h24 | exact fun _ => rfl | (intro _; simp [hdep]), by first | exact h25 | exact fun _ => rfl | (intro _; simp [hdep]), by first | exact h26 | exact fun _ => rfl | (intro _; simp [hdep])⟩
        · obtain ⟨b_, v_, rfl, rfl, _⟩ := OH7.out.2.1 (by simp [hdep])
          obtain rfl := h26 (by simp [hdep])
          have hq_ := EH.out.cell (b := b_) (v := v_) (by simp)
          have hz_ := EH.out.frz (b := b_) (v := v_) (by simp)
          go_simp
          refine hK.out _ _ ?_
          exact ⟨_, _, _, _, _, _, _, _, _, _, _, _, _, _, _, _, _, [(b_, b4)], rfl, rfl, ((EH.out.perm (List.Perm.refl _)).set b4).perm (List.Perm.refl _).symm, ⟨by simp [hdep], fun _ => ⟨_, _, rfl, rfl, fun _ => rfl⟩, fun _ => by simp [hdep]⟩, by first | exact h20 | exact fun _ => rfl | (intro _; simp [hdep]), by first | exact h21 | exact fun _ => rfl | (intro _; simp [hdep]), by first | exact h22 | exact fun _ => rfl | (intro _; simp [hdep]), by first | exact h23 | exact fun _ => rfl | (intro _; simp [hdep]), by first | exact h24 | exact fun _ => rfl | (intro _; simp [hdep]), by first | exact h25 | exact fun _ => rfl | (intro _; simp [hdep]), by first | exact h26 | exact fun _ => rfl | (intro _; simp [hdep])⟩
    case rest =>
      obtain ⟨b7, rfl, E6⟩ := hcut
      obtain ⟨L, hL⟩ : ∃ L, L = [(b7, b4), (b6, a6)] := ⟨_, rfl⟩
      have E7 : Ev w wc ((w.heap.size, 0) :: L) := by
        rw [hL]
        exact E6.mid 2 _ (w.heap.size, 0) rfl rfl
      have m7 : (b7, b4) ∈ L := by rw [hL]; simp
      have m6 : (b6, a6) ∈ L := by rw [hL]; simp
      go_upto_region 6 with fail
      clear hL E5 E6
      refine wp_region_inv' (fun A0 listed act_ w' => ∃ l0 l1 l2 l3 l4 l5 l6 l7 l8 l9 l10 l11 l12 l13 : Bool, ∃ u27 u28 u29 u30 u31 u32 u33 u34 u35 u36 u37 u38 u39 : Value, listed = #[l0, l1, l2, l3, l4, l5, l6, l7, l8, l9, l10, l11, l12, l13] ∧ act_ = (((((((((((((A0.put (some 27) u27).put (some 28) u28).put (some 29) u29).put (some 30) u30).put (some 31) u31).put (some 32) u32).put (some 33) u33).put (some 34) u34).put (some 35) u35).put (some 36) u36).put (some 37) u37).put (some 38) u38).put (some 39) u39) ∧ Ev w w' ((w.heap.size, cond l13 c6 0) :: L) ∧ (l0 = true → u27 = .agg #[.float .f64 l]) ∧ (l1 = true → u28 = .agg #[.float .f64 13830554455654793216]) ∧ (l2 = true → u29 = .agg #[.float .f64 a6]) ∧ (l3 = true → u30 = .agg #[.float .f64 c1]) ∧ (l4 = true → u31 = .agg #[.float .f64 a6]) ∧ (l5 = true → u32 = .agg #[.float .f64 (Fl.fneg a6)]) ∧ (l6 = true → u33 = .agg #[.float .f64 c2]) ∧ (l7 = true → u34 = .agg #[.float .f64 4607182418800017408]) ∧ (l8 = true → u35 = .agg #[.float .f64 c3]) ∧ (l9 = true → u36 = .agg #[.float .f64 c4]) ∧ (l10 = true → u37 = .agg #[.float .f64 b4]) ∧ (l11 = true → u38 = .agg #[.float .f64 c5]) ∧ (l12 = true → u39 = .agg #[.float .f64 c6])) (by kernel_rfl) (by kernel_rfl) ?h0_2 ?hstep_2 ?hend_2
      case h0_2 =>
        simp only [Act.put, List.setIfInBounds_toArray, List.set_cons_zero, List.set_cons_succ]
        refine ⟨false, false, false, false, false, false, false, false, false, false, false, false, false, false, _, _, _, _, _, _, _, _, _, _, _, _, _, rfl, rfl, E7.drew, ?_⟩
        simp
      case hend_2 =>
        intro listed act_ w' hs hall hI
        simp only [Act.put, List.setIfInBounds_toArray, List.set_cons_zero, List.set_cons_succ] at hI
        obtain ⟨l0, l1, l2, l3, l4, l5, l6, l7, l8, l9, l10, l11, l12, l13, u27, u28, u29, u30, u31, u32, u33, u34, u35, u36, u37, u38, u39, rfl, rfl, EE, h27, h28, h29, h30, h31, h32, h33, h34, h35, h36, h37, h38, h39⟩ := hI
        have t0 := hall 0 (by simp)
        have t1 := hall 1 (by simp)
        have t2 := hall 2 (by simp)
        have t3 := hall 3 (by simp)
        have t4 := hall 4 (by simp)
        have t5 := hall 5 (by simp)
        have t6 := hall 6 (by simp)
        have t7 := hall 7 (by simp)
        have t8 := hall 8 (by simp)
        have t9 := hall 9 (by simp)
        have t10 := hall 10 (by simp)
        have t11 := hall 11 (by simp)
        have t12 := hall 12 (by simp)
        have t13 := hall 13 (by simp)
        simp at t0 t1 t2 t3 t4 t5 t6 t7 t8 t9 t10 t11 t12 t13
        obtain rfl := h27 t0
        obtain rfl := h28 t1
        obtain rfl := h29 t2
        obtain rfl := h30 t3
        obtain rfl := h31 t4
        obtain rfl := h32 t5
        obtain rfl := h33 t6
        obtain rfl := h34 t7
        obtain rfl := h35 t8
        obtain rfl := h36 t9
        obtain rfl := h37 t10
        obtain rfl := h38 t11
        obtain rfl := h39 t12
        obtain rfl := t13
        clear hall
        go_wp2_with fail
        have r5 := EE.cell (b := w.heap.size) (v := c6) (by simp)
        exact bodyPost_ret (v := .agg #[.float .f64 c6]) (by simp [results, Try.results48, go_sem, r5]) rfl ⟨rfl, EE.below⟩
      case hstep_2 =>
        intro listed act_ w' i hs hi hI
        simp only [Act.put, List.setIfInBounds_toArray, List.set_cons_zero, List.set_cons_succ] at hI ⊢
        obtain ⟨l0, l1, l2, l3, l4, l5, l6, l7, l8, l9, l10, l11, l12, l13, u27, u28, u29, u30, u31, u32, u33, u34, u35, u36, u37, u38, u39, rfl, rfl, EE, h27, h28, h29, h30, h31, h32, h33, h34, h35, h36, h37, h38, h39⟩ := hI
        obtain ⟨hf, o, ho, hdep⟩ := mem_ready.1 hi
        have hin : i = 0 ∨ i = 1 ∨ i = 2 ∨ i = 3 ∨ i = 4 ∨ i = 5 ∨ i = 6 ∨ i = 7 ∨ i = 8 ∨ i = 9 ∨ i = 10 ∨ i = 11 ∨ i = 12 ∨ i = 13 := by
          rcases Nat.lt_or_ge i 14 with h | h
          · omega
          · rw [Array.getElem?_eq_none h] at ho
            cases ho
        have EH := Lib.hid EE
        clear EE  hi hs
        rcases hin with rfl | rfl | rfl | rfl | rfl | rfl | rfl | rfl | rfl | rfl | rfl | rfl | rfl | rfl
        all_goals
          have ho2 := ho
          simp only [List.getElem?_toArray, List.getElem?_cons_zero, List.getElem?_cons_succ, Option.some.injEq] at ho2
          subst ho2
          simp [Region.binds] at hdep hf
          subst hf
          refine wpOp_step ho (fun K hK => ?_)
          replace hK := Lib.hid hK
          clear ho
        · have hq_ := (R.out _ EH.out.below).2.1
          go_simp
          refine hK.out _ _ ?_
          exact ⟨_, _, _, _, _, _, _, _, _, _, _, _, _, _, _, _, _, _, _, _, _, _, _, _, _, _, _, rfl, rfl, EH.out, by first | exact h27 | exact fun _ => rfl | (intro _; simp [hdep]), by first | exact h28 | exact fun _ => rfl | (intro _; simp [hdep]), by first | exact h29 | exact fun _ => rfl | (intro _; simp [hdep]), by first | exact h30 | exact fun _ => rfl | (intro _; simp [hdep]), by first | exact h31 | exact fun _ => rfl | (intro _; simp [hdep]), by first | exact h32 | exact fun _ => rfl | (intro _; simp [hdep]), by first | exact h33 | exact fun _ => rfl | (intro _; simp [hdep]), by first | exact h34 | exact fun _ => rfl | (intro _; simp [hdep]), by first | exact h35 | exact fun _ => rfl | (intro _; simp [hdep]), by first | exact h36 | exact fun _ => rfl | (intro _; simp [hdep]), by first | exact h37 | exact fun _ => rfl | (intro _; simp [hdep]), by first | exact h38 | exact fun _ => rfl | (intro _; simp [hdep]), by first | exact h39 | exact fun _ => rfl | (intro _; simp [hdep])⟩
        · go_simp
          go_at_call 25
          refine (fnewB _ _).mono ?_
          rintro e w1 ⟨rfl, hb⟩
          refine hK.out _ _ ?_
          exact ⟨_, _, _, _, _, _, _, _, _, _, _, _, _, _, _, _, _, _, _, _, _, _, _, _, _, _, _, rfl, rfl, EH.out.call hb, by first | exact h27 | exact fun _ => rfl | (intro _; simp [hdep]), by first | exact h28 | exact fun _ => rfl | (intro _; simp [hdep]), by first | exact h29 | exact fun _ => rfl | (intro _; simp [hdep]), by first | exact h30 | exact fun _ => rfl | (intro _; simp [hdep]), by first | exact h31 | exact fun _ => rfl | (intro _; simp [hdep]), by first | exact h32 | exact fun _ => rfl | (intro _; simp [hdep]), by first | exact h33 | exact fun _ => rfl | (intro _; simp [hdep]), by first | exact h34 | exact fun _ => rfl | (intro _; simp [hdep]), by first | exact h35 | exact fun _ => rfl | (intro _; simp [hdep]), by first | exact h36 | exact fun _ => rfl | (intro _; simp [hdep]), by first | exact h37 | exact fun _ => rfl | (intro _; simp [hdep]), by first | exact h38 | exact fun _ => rfl | (intro _; simp [hdep]), by first | exact h39 | exact fun _ => rfl | (intro _; simp [hdep])⟩
        · have hq_ := EH.out.cell (b := b6) (v := a6) (by simp [m6])
          go_simp
          refine hK.out _ _ ?_
          exact ⟨_, _, _, _, _, _, _, _, _, _, _, _, _, _, _, _, _, _, _, _, _, _, _, _, _, _, _, rfl, rfl, EH.out, by first | exact h27 | exact fun _ => rfl | (intro _; simp [hdep]), by first | exact h28 | exact fun _ => rfl | (intro _; simp [hdep]), by first | exact h29 | exact fun _ => rfl | (intro _; simp [hdep]), by first | exact h30 | exact fun _ => rfl | (intro _; simp [hdep]), by first | exact h31 | exact fun _ => rfl | (intro _; simp [hdep]), by first | exact h32 | exact fun _ => rfl | (intro _; simp [hdep]), by first | exact h33 | exact fun _ => rfl | (intro _; simp [hdep]), by first | exact h34 | exact fun _ => rfl | (intro _; simp [hdep]), by first | exact h35 | exact fun _ => rfl | (intro _; simp [hdep]), by first | exact h36 | exact fun _ => rfl | (intro _; simp [hdep]), by first | exact h37 | exact fun _ => rfl | (intro _; simp [hdep]), by first | exact h38 | exact fun _ => rfl | (intro _; simp [hdep]), by first | exact h39 | exact fun _ => rfl | (intro _; simp [hdep])⟩
        · obtain rfl := h29 (by simp [hdep])
          go_simp
          go_at_call 50
          refine (Ki1.out _).mono ?_
          rintro e w1 ⟨rfl, hb⟩
          refine hK.out _ _ ?_
          exact ⟨_, _, _, _, _, _, _, _, _, _, _, _, _, _, _, _, _, _, _, _, _, _, _, _, _, _, _, rfl, rfl, EH.out.call hb, by first | exact h27 | exact fun _ => rfl | (intro _; simp [hdep]), by first | exact h28 | exact fun _ => rfl | (intro _; simp [hdep]), by first | exact h29 | exact fun _ => rfl | (intro _; simp [hdep]), by first | exact h30 | exact fun _ => rfl | (intro _; simp [hdep]), by first | exact h31 | exact fun _ => rfl | (intro _; simp [hdep]), by first | exact h32 | exact fun _ => rfl | (intro _; simp [hdep]), by first | exact h33 | exact fun _ => rfl | (intro _; simp [hdep]), by first | exact h34 | exact fun _ => rfl | (intro _; simp [hdep]), by first | exact h35 | exact fun _ => rfl | (intro _; simp [hdep]), by first | exact h36 | exact fun _ => rfl | (intro _; simp [hdep]), by first | exact h37 | exact fun _ => rfl | (intro _; simp [hdep]), by first | exact h38 | exact fun _ => rfl | (intro _; simp [hdep]), by first | exact h39 | exact fun _ => rfl | (intro _; simp [hdep])⟩
        · have hq_ := EH.out.cell (b := b6) (v := a6) (by simp [m6])
          go_simp
          refine hK.out _ _ ?_
          exact ⟨_, _, _, _, _, _, _, _, _, _, _, _, _, _, _, _, _, _, _, _, _, _, _, _, _, _, _, rfl, rfl, EH.out, by first | exact h27 | exact fun _ => rfl | (intro _; simp [hdep]), by first | exact h28 | exact fun _ => rfl | (intro _; simp [hdep]), by first | exact h29 | exact fun _ => rfl | (intro _; simp [hdep]), by first | exact h30 | exact fun _ => rfl | (intro _; simp [hdep]), by first | exact h31 | exact fun _ => rfl | (intro _; simp [hdep]), by first | exact h32 | exact fun _ => rfl | (intro _; simp [hdep]), by first | exact h33 | exact fun _ => rfl | (intro _; simp [hdep]), by first | exact h34 | exact fun _ => rfl | (intro _; simp [hdep]), by first | exact h35 | exact fun _ => rfl | (intro _; simp [hdep]), by first | exact h36 | exact fun _ => rfl | (intro _; simp [hdep]), by first | exact h37 | exact fun _ => rfl | (intro _; simp [hdep]), by first | exact h38 | exact fun _ => rfl | (intro _; simp [hdep]), by first | exact h39 | exact fun _ => rfl | (intro _; simp [hdep])⟩
        · obtain rfl := h31 (by simp [hdep])
          go_simp
          go_at_call 34
          refine (fnegc _ _).mono ?_
          rintro e w1 ⟨rfl, hb⟩
          refine hK.out _ _ ?_
          exact ⟨_, _, _, _, _, _, _, _, _, _, _, _, _, _, _, _, _, _, _, _, _, _, _, _, _, _, _, rfl, rfl, EH.out.call hb, by first | exact h27 | exact fun _ => rfl | (intro _; simp [hdep]), by first | exact h28 | exact fun _ => rfl | (intro _; simp [hdep]), by first | exact h29 | exact fun _ => rfl | (intro _; simp [hdep]), by first | exact h30 | exact fun _ => rfl | (intro _; simp [hdep]), by first | exact h31 | exact fun _ => rfl | (intro _; simp [hdep]), by first | exact h32 | exact fun _ => rfl | (intro _; simp [hdep]), by first | exact h33 | exact fun _ => rfl | (intro _; simp [hdep]), by first | exact h34 | exact fun _ => rfl | (intro _; simp [hdep]), by first | exact h35 | exact fun _ => rfl | (intro _; simp [hdep]), by first | exact h36 | exact fun _ => rfl | (intro _; simp [hdep]), by first | exact h37 | exact fun _ => rfl | (intro _; simp [hdep]), by first | exact h38 | exact fun _ => rfl | (intro _; simp [hdep]), by first | exact h39 | exact fun _ => rfl | (intro _; simp [hdep])⟩
        · obtain rfl := h32 (by simp [hdep])
          go_simp
          go_at_call 35
          refine (Ki2.out _).mono ?_
          rintro e w1 ⟨rfl, hb⟩
          refine hK.out _ _ ?_
          exact ⟨_, _, _, _, _, _, _, _, _, _, _, _, _, _, _, _, _, _, _, _, _, _, _, _, _, _, _, rfl, rfl, EH.out.call hb, by first | exact h27 | exact fun _ => rfl | (intro _; simp [hdep]), by first | exact h28 | exact fun _ => rfl | (intro _; simp [hdep]), by first | exact h29 | exact fun _ => rfl | (intro _; simp [hdep]), by first | exact h30 | exact fun _ => rfl | (intro _; simp [hdep]), by first | exact h31 | exact fun _ => rfl | (intro _; simp [hdep]), by first | exact h32 | exact fun _ => rfl | (intro _; simp [hdep]), by first | exact h33 | exact fun _ => rfl | (intro _; simp [hdep]), by first | exact h34 | exact fun _ => rfl | (intro _; simp [hdep]), by first | exact h35 | exact fun _ => rfl | (intro _; simp [hdep]), by first | exact h36 | exact fun _ => rfl | (intro _; simp [hdep]), by first | exact h37 | exact fun _ => rfl | (intro _; simp [hdep]), by first | exact h38 | exact fun _ => rfl | (intro _; simp [hdep]), by first | exact h39 | exact fun _ => rfl | (intro _; simp [hdep])⟩
        · go_simp
          go_at_call 25
          refine (fnewB _ _).mono ?_
          rintro e w1 ⟨rfl, hb⟩
          refine hK.out _ _ ?_
          exact ⟨_, _, _, _, _, _, _, _, _, _, _, _, _, _, _, _, _, _, _, _, _, _, _, _, _, _, _, rfl, rfl, EH.out.call hb, by first | exact h27 | exact fun _ => rfl | (intro _; simp [hdep]), by first | exact h28 | exact fun _ => rfl | (intro _; simp [hdep]), by first | exact h29 | exact fun _ => rfl | (intro _; simp [hdep]), by first | exact h30 | exact fun _ => rfl | (intro _; simp [hdep]), by first | exact h31 | exact fun _ => rfl | (intro _; simp [hdep]), by first | exact h32 | exact fun _ => rfl | (intro _; simp [hdep]), by first | exact h33 | exact fun _ => rfl | (intro _; simp [hdep]), by first | exact h34 | exact fun _ => rfl | (intro _; simp [hdep]), by first | exact h35 | exact fun _ => rfl | (intro _; simp [hdep]), by first | exact h36 | exact fun _ => rfl | (intro _; simp [hdep]), by first | exact h37 | exact fun _ => rfl | (intro _; simp [hdep]), by first | exact h38 | exact fun _ => rfl | (intro _; simp [hdep]), by first | exact h39 | exact fun _ => rfl | (intro _; simp [hdep])⟩
        · obtain rfl := h30 (by simp [hdep])
          obtain rfl := h33 (by simp [hdep])
          obtain rfl := h34 (by simp [hdep])
          go_simp
          go_at_call 32
          refine (Ki3.out _).mono ?_
          rintro e w1 ⟨rfl, hb⟩
          refine hK.out _ _ ?_
          exact ⟨_, _, _, _, _, _, _, _, _, _, _, _, _, _, _, _, _, _, _, _, _, _, _, _, _, _, _, rfl, rfl, EH.out.call hb, by first | exact h27 | exact fun _ => rfl | (intro _; simp [hdep]), by first | exact h28 | exact fun _ => rfl | (intro _; simp [hdep]), by first | exact h29 | exact fun _ => rfl | (intro _; simp [hdep]), by first | exact h30 | exact fun _ => rfl | (intro _; simp [hdep]), by first | exact h31 | exact fun _ => rfl | (intro _; simp [hdep]), by first | exact h32 | exact fun _ => rfl | (intro _; simp [hdep]), by first | exact h33 | exact fun _ => rfl | (intro _; simp [hdep]), by first | exact h34 | exact fun _ => rfl | (intro _; simp [hdep]), by first | exact h35 | exact fun _ => rfl | (intro _; simp [hdep]), by first | exact h36 | exact fun _ => rfl | (intro _; simp [hdep]), by first | exact h37 | exact fun _ => rfl | (intro _; simp [hdep]), by first | exact h38 | exact fun _ => rfl | (intro _; simp [hdep]), by first | exact h39 | exact fun _ => rfl | (intro _; simp [hdep])⟩
        · obtain rfl := h28 (by simp [hdep])
          obtain rfl := h35 (by simp [hdep])
          go_simp
          go_at_call 49
          refine (Ki4.out _).mono ?_
          rintro e w1 ⟨rfl, hb⟩
          refine hK.out _ _ ?_
          exact ⟨_, _, _, _, _, _, _, _, _, _, _, _, _, _, _, _, _, _, _, _, _, _, _, _, _, _, _, rfl, rfl, EH.out.call hb, by first | exact h27 | exact fun _ => rfl | (intro _; simp [hdep]), by first | exact h28 | exact fun _ => rfl | (intro _; simp [hdep]), by first | exact h29 | exact fun _ => rfl | (intro _; simp [hdep]), by first | exact h30 | exact fun _ => rfl | (intro _; simp [hdep]), by first | exact h31 | exact fun _ => rfl | (intro _; simp [hdep]), by first | exact h32 | exact fun _ => rfl | (intro _; simp [hdep]), by first | exact h33 | exact fun _ => rfl | (intro _; simp [hdep]), by first | exact h34 | exact fun _ => rfl | (intro _; simp [hdep]), by first | exact h35 | exact fun _ => rfl | (intro _; simp [hdep]), by first | exact h36 | exact fun _ => rfl | (intro _; simp [hdep]), by first | exact h37 | exact fun _ => rfl | (intro _; simp [hdep]), by first | exact h38 | exact fun _ => rfl | (intro _; simp [hdep]), by first | exact h39 | exact fun _ => rfl | (intro _; simp [hdep])⟩
        · have hq_ := EH.out.cell (b := b7) (v := b4) (by simp [m7])
          go_simp
          refine hK.out _ _ ?_
          exact ⟨_, _, _, _, _, _, _, _, _, _, _, _, _, _, _, _, _, _, _, _, _, _, _, _, _, _, _, rfl, rfl, EH.out, by first | exact h27 | exact fun _ => rfl | (intro _; simp [hdep]), by first | exact h28 | exact fun _ => rfl | (intro _; simp [hdep]), by first | exact h29 | exact fun _ => rfl | (intro _; simp [hdep]), by first | exact h30 | exact fun _ => rfl | (intro _; simp [hdep]), by first | exact h31 | exact fun _ => rfl | (intro _; simp [hdep]), by first | exact h32 | exact fun _ => rfl | (intro _; simp [hdep]), by first | exact h33 | exact fun _ => rfl | (intro _; simp [hdep]), by first | exact h34 | exact fun _ => rfl | (intro _; simp [hdep]), by first | exact h35 | exact fun _ => rfl | (intro _; simp [hdep]), by first | exact h36 | exact fun _ => rfl | (intro _; simp [hdep]), by first | exact h37 | exact fun _ => rfl | (intro _; simp [hdep]), by first | exact h38 | exact fun _ => rfl | (intro _; simp [hdep]), by first | exact h39 | exact fun _ => rfl | (intro _; simp [hdep])⟩
        · obtain rfl := h36 (by simp [hdep])
          obtain rfl := h37 (by simp [hdep])
          go_simp
          go_at_call 41
          refine (Ki5.out _).mono ?_
          rintro e w1 ⟨rfl, hb⟩
          refine hK.out _ _ ?_
          exact ⟨_, _, _, _, _, _, _, _, _, _, _, _, _, _, _, _, _, _, _, _, _, _, _, _, _, _, _, rfl, rfl, EH.out.call hb, by first | exact h27 | exact fun _ => rfl | (intro _; simp [hdep]), by first | exact h28 | exact fun _ => rfl | (intro _; simp [hdep]), by first | exact h29 | exact fun _ => rfl | (intro _; simp [hdep]), by first | exact h30 | exact fun _ => rfl | (intro _; simp [hdep]), by first | exact h31 | exact fun _ => rfl | (intro _; simp [hdep]), by first | exact h32 | exact fun _ => rfl | (intro _; simp [hdep]), by first | exact h33 | exact fun _ => rfl | (intro _; simp [hdep]), by first | exact h34 | exact fun _ => rfl | (intro _; simp [hdep]), by first | exact h35 | exact fun _ => rfl | (intro _; simp [hdep]), by first | exact h36 | exact fun _ => rfl | (intro _; simp [hdep]), by first | exact h37 | exact fun _ => rfl | (intro _; simp [hdep]), by first | exact h38 | exact fun _ => rfl | (intro _; simp [hdep]), by first | exact h39 | exact fun _ => rfl | (intro _; simp [hdep])⟩
        · obtain rfl := h27 (by simp [hdep])
          obtain rfl := h38 (by simp [hdep])
          go_simp
          go_at_call 43
          refine (Ki6.out _).mono ?_
          rintro e w1 ⟨rfl, hb⟩
          refine hK.out _ _ ?_
          exact ⟨_, _, _, _, _, _, _, _, _, _, _, _, _, _, _, _, _, _, _, _, _, _, _, _, _, _, _, rfl, rfl, EH.out.call hb, by first | exact h27 | exact fun _ => rfl | (intro _; simp [hdep]), by first | exact h28 | exact fun _ => rfl | (intro _; simp [hdep]), by first | exact h29 | exact fun _ => rfl | (intro _; simp [hdep]), by first | exact h30 | exact fun _ => rfl | (intro _; simp [hdep]), by first | exact h31 | exact fun _ => rfl | (intro _; simp [hdep]), by first | exact h32 | exact fun _ => rfl | (intro _; simp [hdep]), by first | exact h33 | exact fun _ => rfl | (intro _; simp [hdep]), by first | exact h34 | exact fun _ => rfl | (intro _; simp [hdep]), by first | exact h35 | exact fun _ => rfl | (intro _; simp [hdep]), by first | exact h36 | exact fun _ => rfl | (intro _; simp [hdep]), by first | exact h37 | exact fun _ => rfl | (intro _; simp [hdep]), by first | exact h38 | exact fun _ => rfl | (intro _; simp [hdep]), by first | exact h39 | exact fun _ => rfl | (intro _; simp [hdep])⟩
        · obtain rfl := h39 (by simp [hdep])
          have hq_ := EH.out.cell (b := w.heap.size) (v := 0) (by simp)
          have hz_ := EH.out.frz (b := w.heap.size) (v := 0) (by simp)
          go_simp
          refine hK.out _ _ ?_
          exact ⟨_, _, _, _, _, _, _, _, _, _, _, _, _, _, _, _, _, _, _, _, _, _, _, _, _, _, _, rfl, rfl, ((EH.out.perm (List.Perm.refl _)).set c6).perm (List.Perm.refl _).symm, by first | exact h27 | exact fun _ => rfl | (intro _; simp [hdep]), by first | exact h28 | exact fun _ => rfl | (intro _; simp [hdep]), by first | exact h29 | exact fun _ => rfl | (intro _; simp [hdep]), by first | exact h30 | exact fun _ => rfl | (intro _; simp [hdep]), by first | exact h31 | exact fun _ => rfl | (intro _; simp [hdep]), by first | exact h32 | exact fun _ => rfl | (intro _; simp [hdep]), by first | exact h33 | exact fun _ => rfl | (intro _; simp [hdep]), by first | exact h34 | exact fun _ => rfl | (intro _; simp [hdep]), by first | exact h35 | exact fun _ => rfl | (intro _; simp [hdep]), by first | exact h36 | exact fun _ => rfl | (intro _; simp [hdep]), by first | exact h37 | exact fun _ => rfl | (intro _; simp [hdep]), by first | exact h38 | exact fun _ => rfl | (intro _; simp [hdep]), by first | exact h39 | exact fun _ => rfl | (intro _; simp [hdep])⟩
  case hstep_3 =>
    intro listed act_ w' i hs hi hI
    simp only [Act.put, List.setIfInBounds_toArray, List.set_cons_zero, List.set_cons_succ] at hI ⊢
    obtain ⟨l0, l1, l2, l3, l4, u14, u15, u16, u17, rfl, rfl, EE, h14, h15, h16, h17, J0, J1⟩ := hI
    obtain ⟨hf, o, ho, hdep⟩ := mem_ready.1 hi
    have hin : i = 0 ∨ i = 1 ∨ i = 2 ∨ i = 3 ∨ i = 4 := by
      rcases Nat.lt_or_ge i 5 with h | h
      · omega
      · rw [Array.getElem?_eq_none h] at ho
        cases ho
    have EH := Lib.hid EE
    clear EE  hi hs
    rcases hin with rfl | rfl | rfl | rfl | rfl
    all_goals
      have ho2 := ho
      simp only [List.getElem?_toArray, List.getElem?_cons_zero, List.getElem?_cons_succ, Option.some.injEq] at ho2
      subst ho2
      simp [Region.binds] at hdep hf
      subst hf
      refine wpOp_step ho (fun K hK => ?_)
      replace hK := Lib.hid hK
      clear ho
    · have hl_ : l4 = false := by
        cases hx_ : l4 with
        | false => rfl
        | true => have := J0 hx_; simp at this
      subst hl_
      have hq_ := EH.out.cell (b := b6) (v := a3) (by simp)
      go_simp
      refine hK.out _ _ ?_
      exact ⟨_, _, _, _, _, _, _, _, _, rfl, rfl, EH.out, by first | exact h14 | exact fun _ => rfl | (intro _; simp [hdep]), by first | exact h15 | exact fun _ => rfl | (intro _; simp [hdep]), by first | exact h16 | exact fun _ => rfl | (intro _; simp [hdep]), by first | exact h17 | exact fun _ => rfl | (intro _; simp [hdep]), by first | exact J0 | exact fun _ => rfl | (intro _; simp [hdep]), by first | exact J1 | exact fun _ => rfl | (intro _; simp [hdep])⟩
    · have hl_ : l4 = false := by
        cases hx_ : l4 with
        | false => rfl
        | true => have := J1 hx_; simp at this
      subst hl_
      have hq_ := EH.out.cell (b := b6) (v := a3) (by simp)
      go_simp
      refine hK.out _ _ ?_
      exact ⟨_, _, _, _, _, _, _, _, _, rfl, rfl, EH.out, by first | exact h14 | exact fun _ => rfl | (intro _; simp [hdep]), by first | exact h15 | exact fun _ => rfl | (intro _; simp [hdep]), by first | exact h16 | exact fun _ => rfl | (intro _; simp [hdep]), by first | exact h17 | exact fun _ => rfl | (intro _; simp [hdep]), by first | exact J0 | exact fun _ => rfl | (intro _; simp [hdep]), by first | exact J1 | exact fun _ => rfl | (intro _; simp [hdep])⟩
    · obtain rfl := h15 (by simp [hdep])
      go_simp
      go_at_call 47
      refine (Kk4.out _).mono ?_
      rintro e w1 ⟨rfl, hb⟩
      refine hK.out _ _ ?_
      exact ⟨_, _, _, _, _, _, _, _, _, rfl, rfl, EH.out.call hb, by first | exact h14 | exact fun _ => rfl | (intro _; simp [hdep]), by first | exact h15 | exact fun _ => rfl | (intro _; simp [hdep]), by first | exact h16 | exact fun _ => rfl | (intro _; simp [hdep]), by first | exact h17 | exact fun _ => rfl | (intro _; simp [hdep]), by first | exact J0 | exact fun _ => rfl | (intro _; simp [hdep]), by first | exact J1 | exact fun _ => rfl | (intro _; simp [hdep])⟩
    · obtain rfl := h14 (by simp [hdep])
      obtain rfl := h16 (by simp [hdep])
      go_simp
      go_at_call 43
      refine (Kk5.out _).mono ?_
      rintro e w1 ⟨rfl, hb⟩
      refine hK.out _ _ ?_
      exact ⟨_, _, _, _, _, _, _, _, _, rfl, rfl, EH.out.call hb, by first | exact h14 | exact fun _ => rfl | (intro _; simp [hdep]), by first | exact h15 | exact fun _ => rfl | (intro _; simp [hdep]), by first | exact h16 | exact fun _ => rfl | (intro _; simp [hdep]), by first | exact h17 | exact fun _ => rfl | (intro _; simp [hdep]), by first | exact J0 | exact fun _ => rfl | (intro _; simp [hdep]), by first | exact J1 | exact fun _ => rfl | (intro _; simp [hdep])⟩
    · obtain rfl := h17 (by simp [hdep])
      have hq_ := EH.out.cell (b := b6) (v := a3) (by simp)
      have hz_ := EH.out.frz (b := b6) (v := a3) (by simp)
      go_simp
      refine hK.out _ _ ?_
      exact ⟨_, _, _, _, _, _, _, _, _, rfl, rfl, ((EH.out.perm (List.Perm.refl _)).set a5).perm (List.Perm.refl _).symm, by first | exact h14 | exact fun _ => rfl | (intro _; simp [hdep]), by first | exact h15 | exact fun _ => rfl | (intro _; simp [hdep]), by first | exact h16 | exact fun _ => rfl | (intro _; simp [hdep]), by first | exact h17 | exact fun _ => rfl | (intro _; simp [hdep]), by first | exact J0 | exact fun _ => rfl | (intro _; simp [hdep]), by first | exact J1 | exact fun _ => rfl | (intro _; simp [hdep])⟩
end Go.Proofs.Ytecdhjhobjagkaa
