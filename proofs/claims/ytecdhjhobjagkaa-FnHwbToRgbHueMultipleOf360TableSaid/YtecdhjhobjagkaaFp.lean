/-
  The contracts of hsl_to_rgb at sat 100, light 50, of hwb_to_rgb and its export. Condition: the operations have answers.
-/
import Derived.Test.YtecdhjhobjagkaaFo
namespace Go.Proofs.Ytecdhjhobjagkaa
open Go.ChangeShapes Go.WideShapes Go.ChangeAt Go.RowKit
attribute [local go_sem] run_store_float unary_neg_float

/-- the literal, at n, over hue h, light l, saturation s, gives r -/
def CloOk (n h l s r : Nat) : Prop := ∀ (bh bl bs : Nat) (w : World), w.cell? ⟨bh, 0, none⟩ = some (.float .f64 h) → w.cell? ⟨bl, 0, none⟩ = some (.float .f64 l) → w.cell? ⟨bs, 0, none⟩ = some (.float .f64 s) → bh < w.heap.size → bl < w.heap.size → bs < w.heap.size →
    Calls Try.prog 48 #[.float .f64 n, .pointer (some ⟨bh, 0, none⟩), .pointer (some ⟨bl, 0, none⟩), .pointer (some ⟨bs, 0, none⟩)] w fun e w' => e = .returned (.agg #[.float .f64 r]) ∧ Below w.heap.size w w'

set_option maxRecDepth 20000 in
set_option maxHeartbeats 8000000 in
theorem hsl40 (h0 h2 h3 h4 h5 r0 r8 r4 : Nat) (w : World) (k1 : floatBits .quo .f64 h0 4645040803167600640 = some h2) (k2 : FloorIs h2 h3) (k3 : floatBits .sub .f64 h2 h3 = some h4) (k4 : floatBits .mul .f64 h4 4645040803167600640 = some h5)
    (c0 : CloOk 0 h5 4602678819172646912 4607182418800017408 r0) (c8 : CloOk 4620693217682128896 h5 4602678819172646912 4607182418800017408 r8) (c4 : CloOk 4616189618054758400 h5 4602678819172646912 4607182418800017408 r4) :
    Calls Try.prog 40 #[.agg #[.float .f64 h0], .agg #[.float .f64 4636737291354636288], .agg #[.float .f64 4632233691727265792]] w fun e w' => e = .returned (.tuple #[.agg #[.float .f64 r0], .agg #[.float .f64 r8], .agg #[.float .f64 r4]]) ∧ Below w.heap.size w w' := by
  have K1 := Lib.hid (fun w => fdivc h0 _ h2 w k1)
  have K2 := Lib.hid (fun w => floor47 h2 h3 w k2)
  have K3 := Lib.hid (fun w => fsubb h2 h3 h4 w k3)
  have K4 := Lib.hid (fun w => fmulc h4 _ h5 w k4)
  have K5 := Lib.hid (fun w => fdivc 4636737291354636288 4636737291354636288 4607182418800017408 w (by decide +kernel))
  have K6 := Lib.hid (fun w => fdivc 4632233691727265792 4636737291354636288 4602678819172646912 w (by decide +kernel))
  have C0 := Lib.hid c0
  have C8 := Lib.hid c8
  have C4 := Lib.hid c4
  clear k1 k2 k3 k4 c0 c8 c4
  have hsz : ∀ (w : World) o, (w.alloc o).heap.size = w.heap.size + 1 := fun w o => by simp
  go_enter Try.func40, Try.ntmps40
  go_upto_region 1 with fail
  have E1 := ((((((Ev.start w).new h0 56).new 4636737291354636288 56).new 4632233691727265792 56).new 0 56).new 0 56).new 0 56
  simp only [hsz] at E1
  generalize hA : w.heap.size + 1 = N1 at *
  generalize hB : N1 + 1 = N2 at *
  generalize hC : N2 + 1 = N3 at *
  generalize hD : N3 + 1 = N4 at *
  generalize hE : N4 + 1 = N5 at *
  clear hA hB hC hD hE
  obtain ⟨N0, hN0⟩ : ∃ n, n = w.heap.size := ⟨_, rfl⟩
  rw [← hN0] at E1
  rw [← hN0]
  clear hN0
  have E2 : Ev w _ [(N0, h0), (N1, 4636737291354636288), (N2, 4632233691727265792), (N3, 0), (N4, 0), (N5, 0)] := E1.perm (List.reverse_perm _).symm
  clear E1
  generalize (((((w.alloc (.cells #[.float .f64 h0] 56)).alloc (.cells #[.float .f64 4636737291354636288] 56)).alloc (.cells #[.float .f64 4632233691727265792] 56)).alloc (.cells #[.float .f64 0] 56)).alloc (.cells #[.float .f64 0] 56)).alloc (.cells #[.float .f64 0] 56) = w1 at *
  have q0 := E2.cell (b := N0) (v := h0) (by simp)
  go_wp2_with fail
  refine (K1.out _).mono ?_
  rintro e w2 ⟨rfl, hb⟩
  replace E2 := E2.call hb
  clear hb q0
  have q0 := E2.cell (b := N0) (v := h0) (by simp)
  have z0 := E2.frz (b := N0) (v := h0) (by simp)
  go_upto_region 2 with fail
  have E3 := E2.set h2
  clear E2 q0 z0
  generalize w2.setCell ⟨N0, 0, none⟩ (.float .f64 h2) = w3 at *
  refine wp_region_inv' (fun A0 listed act_ w' => ∃ l0 l1 l2 l3 l4 : Bool, ∃ u12 u13 u14 u15 : Value, listed = #[l0, l1, l2, l3, l4] ∧ act_ = ((((A0.put (some 12) u12).put (some 13) u13).put (some 14) u14).put (some 15) u15) ∧ Ev w w' ((N0, cond l4 h4 h2) :: [(N1, 4636737291354636288), (N2, 4632233691727265792), (N3, 0), (N4, 0), (N5, 0)]) ∧ (l0 = true → u12 = .agg #[.float .f64 h2]) ∧ (l1 = true → u13 = .agg #[.float .f64 h2]) ∧ (l2 = true → u14 = .agg #[.float .f64 h3]) ∧ (l3 = true → u15 = .agg #[.float .f64 h4]) ∧ (l4 = true → l0 = true) ∧ (l4 = true → l1 = true)) (by kernel_rfl) (by kernel_rfl) ?h0_4 ?hstep_4 ?hend_4
  case h0_4 =>
    simp only [Act.put, List.setIfInBounds_toArray, List.set_cons_zero, List.set_cons_succ]
    refine ⟨false, false, false, false, false, _, _, _, _, rfl, rfl, E3.drew, ?_⟩
    simp
  case hend_4 =>
    intro listed act_ w' hs hall hI
    simp only [Act.put, List.setIfInBounds_toArray, List.set_cons_zero, List.set_cons_succ] at hI
    obtain ⟨l0, l1, l2, l3, l4, u12, u13, u14, u15, rfl, rfl, EE, h12, h13, h14, h15, J0, J1⟩ := hI
    have t0 := hall 0 (by simp)
    have t1 := hall 1 (by simp)
    have t2 := hall 2 (by simp)
    have t3 := hall 3 (by simp)
    have t4 := hall 4 (by simp)
    simp at t0 t1 t2 t3 t4
    obtain rfl := h12 t0
    obtain rfl := h13 t1
    obtain rfl := h14 t2
    obtain rfl := h15 t3
    obtain rfl := t4
    clear hall
    have q0 := EE.cell (b := N0) (v := h4) (by simp)
    go_wp2_with fail
    refine (K4.out _).mono ?_
    rintro e w4 ⟨rfl, hb⟩
    have E4 := EE.call hb
    clear hb q0 EE
    have q0 := E4.cell (b := N0) (v := h4) (by simp)
    have z0 := E4.frz (b := N0) (v := h4) (by simp)
    go_upto_region 4 with fail
    have E5 : Ev w _ [(N1, 4636737291354636288), (N0, h5), (N2, 4632233691727265792), (N3, 0), (N4, 0), (N5, 0)] := (E4.set h5).s12
    clear E4 q0 z0
    generalize w4.setCell ⟨N0, 0, none⟩ (.float .f64 h5) = w5 at *
    have q0 := E5.cell (b := N1) (v := 4636737291354636288) (by simp)
    go_wp2_with fail
    refine (K5.out _).mono ?_
    rintro e w6 ⟨rfl, hb⟩
    replace E5 := E5.call hb
    clear hb q0
    have q0 := E5.cell (b := N1) (v := 4636737291354636288) (by simp)
    have z0 := E5.frz (b := N1) (v := 4636737291354636288) (by simp)
    go_upto_region 5 with fail
    have E6 : Ev w _ [(N2, 4632233691727265792), (N1, 4607182418800017408), (N0, h5), (N3, 0), (N4, 0), (N5, 0)] := (E5.set 4607182418800017408).s23.s12
    clear E5 q0 z0
    generalize w6.setCell ⟨N1, 0, none⟩ (.float .f64 4607182418800017408) = w7 at *
    have q0 := E6.cell (b := N2) (v := 4632233691727265792) (by simp)
    go_wp2_with fail
    refine (K6.out _).mono ?_
    rintro e w8 ⟨rfl, hb⟩
    replace E6 := E6.call hb
    clear hb q0
    have q0 := E6.cell (b := N2) (v := 4632233691727265792) (by simp)
    have z0 := E6.frz (b := N2) (v := 4632233691727265792) (by simp)
    go_upto_region 7 with fail
    have E7 := E6.set 4602678819172646912
    clear E6 q0 z0
    generalize w8.setCell ⟨N2, 0, none⟩ (.float .f64 4602678819172646912) = w9 at *
    go_wp2_with fail
    refine (C0.out N0 N2 N1 _ (E7.cell (by simp)) (E7.cell (by simp)) (E7.cell (by simp)) (E7.lt (v := h5) (by simp)) (E7.lt (v := 4602678819172646912) (by simp)) (E7.lt (v := 4607182418800017408) (by simp))).mono ?_
    rintro e w10 ⟨rfl, hb⟩
    replace E7 := E7.call hb
    clear hb
    go_wp2_with fail
    refine (C8.out N0 N2 N1 _ (E7.cell (by simp)) (E7.cell (by simp)) (E7.cell (by simp)) (E7.lt (v := h5) (by simp)) (E7.lt (v := 4602678819172646912) (by simp)) (E7.lt (v := 4607182418800017408) (by simp))).mono ?_
    rintro e w11 ⟨rfl, hb⟩
    replace E7 := E7.call hb
    clear hb
    go_wp2_with fail
    refine (C4.out N0 N2 N1 _ (E7.cell (by simp)) (E7.cell (by simp)) (E7.cell (by simp)) (E7.lt (v := h5) (by simp)) (E7.lt (v := 4602678819172646912) (by simp)) (E7.lt (v := 4607182418800017408) (by simp))).mono ?_
    rintro e w12 ⟨rfl, hb⟩
    replace E7 := E7.call hb
    clear hb
    have E8 : Ev w w12 [(N3, 0), (N2, 4602678819172646912), (N1, 4607182418800017408), (N0, h5), (N4, 0), (N5, 0)] := E7.mid 3 _ (N3, 0) rfl rfl
    have E9 : Ev w _ [(N4, 0), (N3, r0), (N2, 4602678819172646912), (N1, 4607182418800017408), (N0, h5), (N5, 0)] := (E8.set r0).mid 4 _ (N4, 0) rfl rfl
    have E10 : Ev w _ [(N5, 0), (N4, r8), (N3, r0), (N2, 4602678819172646912), (N1, 4607182418800017408), (N0, h5)] := (E9.set r8).mid 5 _ (N5, 0) rfl rfl
    have E11 := E10.set r4
    have x3 := E8.cell (b := N3) (v := 0) (by simp)
    have y3 := E8.frz (b := N3) (v := 0) (by simp)
    have x4 := E9.cell (b := N4) (v := 0) (by simp)
    have y4 := E9.frz (b := N4) (v := 0) (by simp)
    have x5 := E10.cell (b := N5) (v := 0) (by simp)
    have y5 := E10.frz (b := N5) (v := 0) (by simp)
    have z3 := E11.cell (b := N3) (v := r0) (by simp)
    have z4 := E11.cell (b := N4) (v := r8) (by simp)
    have z5 := E11.cell (b := N5) (v := r4) (by simp)
    go_wp2_with fail
    exact bodyPost_ret (v := .tuple #[.agg #[.float .f64 r0], .agg #[.float .f64 r8], .agg #[.float .f64 r4]]) (by simp [results, Try.results40, go_sem, z3, z4, z5]) rfl ⟨rfl, E11.below⟩
  case hstep_4 =>
    intro listed act_ w' i hs hi hI
    simp only [Act.put, List.setIfInBounds_toArray, List.set_cons_zero, List.set_cons_succ] at hI ⊢
    obtain ⟨l0, l1, l2, l3, l4, u12, u13, u14, u15, rfl, rfl, EE, h12, h13, h14, h15, J0, J1⟩ := hI
    obtain ⟨hf, o, ho, hdep⟩ := mem_ready.1 hi
    have hin : i = 0 ∨ i = 1 ∨ i = 2 ∨ i = 3 ∨ i = 4 := by
      rcases Nat.lt_or_ge i 5 with h | h
      · omega
      · rw [Array.getElem?_eq_none h] at ho
        cases ho
    have EH := Lib.hid EE
    clear EE  hi hs
    rcases hin with rfl | rfl | rfl | rfl | rfl
    all_goals
      have ho2 := ho
      simp only [List.getElem?_toArray, List.getElem?_cons_zero, List.getElem?_cons_succ, Option.some.injEq] at ho2
      subst ho2
      simp [Region.binds] at hdep hf
      subst hf
      refine wpOp_step ho (fun K hK => ?_)
      replace hK := Lib.hid hK
      clear ho
    · have hl_ : l4 = false := by
        cases hx_ : l4 with
        | false => rfl
        | true => have := J0 hx_; simp at this
      subst hl_
      have hq_ := EH.out.cell (b := N0) (v := h2) (by simp)
      go_simp
      refine hK.out _ _ ?_
      exact ⟨_, _, _, _, _, _, _, _, _, rfl, rfl, EH.out, by first | exact h12 | exact fun _ => rfl | (intro _; simp [hdep]), by first | exact h13 | exact fun _ => rfl | (intro _; simp [hdep]), by first | exact h14 | exact fun _ => rfl | (intro _; simp [hdep]), by first | exact h15 | exact fun _ => rfl | (intro _; simp [hdep]), by first | exact J0 | exact fun _ => rfl | (intro _; simp [hdep]), by first | exact J1 | exact fun _ => rfl | (intro _; simp [hdep])⟩
    · have hl_ : l4 = false := by
        cases hx_ : l4 with
        | false => rfl
        | true => have := J1 hx_; simp at this
      subst hl_
      have hq_ := EH.out.cell (b := N0) (v := h2) (by simp)
      go_simp
      refine hK.out _ _ ?_
      exact ⟨_, _, _, _, _, _, _, _, _, rfl, rfl, EH.out, by first | exact h12 | exact fun _ => rfl | (intro _; simp [hdep]), by first | exact h13 | exact fun _ => rfl | (intro _; simp [hdep]), by first | exact h14 | exact fun _ => rfl | (intro _; simp [hdep]), by first | exact h15 | exact fun _ => rfl | (intro _; simp [hdep]), by first | exact J0 | exact fun _ => rfl | (intro _; simp [hdep]), by first | exact J1 | exact fun _ => rfl | (intro _; simp [hdep])⟩
    · obtain rfl := h13 (by simp [hdep])
      go_simp
      go_at_call 47
      refine (K2.out _).mono ?_
      rintro e w1 ⟨rfl, hb⟩
      refine hK.out _ _ ?_
      exact ⟨_, _, _, _, _, _, _, _, _, rfl, rfl, EH.out.call hb, by first | exact h12 | exact fun _ => rfl | (intro _; simp [hdep]), by first | exact h13 | exact fun _ => rfl | (intro _; simp [hdep]), by first | exact h14 | exact fun _ => rfl | (intro _; simp [hdep]), by first | exact h15 | exact fun _ => rfl | (intro _; simp [hdep]), by first | exact J0 | exact fun _ => rfl | (intro _; simp [hdep]), by first | exact J1 | exact fun _ => rfl | (intro _; simp [hdep])⟩
    · obtain rfl := h12 (by simp [hdep])
      obtain rfl := h14 (by simp [hdep])
      go_simp
      go_at_call 43
      refine (K3.out _).mono ?_
      rintro e w1 ⟨rfl, hb⟩
      refine hK.out _ _ ?_
      exact ⟨_, _, _, _, _, _, _, _, _, rfl, rfl, EH.out.call hb, by first | exact h12 | exact fun _ => rfl | (intro _; simp [hdep]), by first | exact h13 | exact fun _ => rfl | (intro _; simp [hdep]), by first | exact h14 | exact fun _ => rfl | (intro _; simp [hdep]), by first | exact h15 | exact fun _ => rfl | (intro _; simp [hdep]), by first | exact J0 | exact fun _ => rfl | (intro _; simp [hdep]), by first | exact J1 | exact fun _ => rfl | (intro _; simp [hdep])⟩
    · obtain rfl := h15 (by simp [hdep])
      have hq_ := EH.out.cell (b := N0) (v := h2) (by simp)
      have hz_ := EH.out.frz (b := N0) (v := h2) (by simp)
      go_simp
      refine hK.out _ _ ?_
      exact ⟨_, _, _, _, _, _, _, _, _, rfl, rfl, ((EH.out.perm (List.Perm.refl _)).set h4).perm (List.Perm.refl _).symm, by first | exact h12 | exact fun _ => rfl | (intro _; simp [hdep]), by first | exact h13 | exact fun _ => rfl | (intro _; simp [hdep]), by first | exact h14 | exact fun _ => rfl | (intro _; simp [hdep]), by first | exact h15 | exact fun _ => rfl | (intro _; simp [hdep]), by first | exact J0 | exact fun _ => rfl | (intro _; simp [hdep]), by first | exact J1 | exact fun _ => rfl | (intro _; simp [hdep])⟩
end Go.Proofs.Ytecdhjhobjagkaa
