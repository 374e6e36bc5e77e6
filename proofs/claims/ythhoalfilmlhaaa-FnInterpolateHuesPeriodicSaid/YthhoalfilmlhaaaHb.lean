/-
  The contracts of helpers.Lerp and interpolateHues. Condition: the operations have answers.
-/
import Derived.Test.YthhoalfilmlhaaaHa
namespace Go.Proofs.Ythhoalfilmlhaaa
open Go.ChangeShapes Go.WideShapes Go.ChangeAt Go.RowKit
attribute [local go_sem] run_store_float unary_neg_float

set_option maxRecDepth 20000 in
set_option maxHeartbeats 4000000 in
theorem lerp20 (x y t d1 d2 d3 : Nat) (w : World) (k1 : floatBits .sub .f64 y x = some d1) (k2 : floatBits .mul .f64 d1 t = some d2) (k3 : floatBits .add .f64 d2 x = some d3) :
    Calls Try.prog 20 #[.agg #[.float .f64 x], .agg #[.float .f64 y], .agg #[.float .f64 t]] w fun e w' => e = .returned (.agg #[.float .f64 d3]) ∧ Below w.heap.size w w' := by
  have K1 := Lib.hid (fun w => fsubb y x d1 w k1)
  have K2 := Lib.hid (fun w => fmulb d1 t d2 w k2)
  have K3 := Lib.hid (fun w => faddb d2 x d3 w k3)
  clear k1 k2 k3
  have hsz : ∀ (w : World) o, (w.alloc o).heap.size = w.heap.size + 1 := fun w o => by simp
  go_enter Try.func20, Try.ntmps20
  go_upto_region 1 with fail
  have E1 := ((((Ev.start w).new x 34).new y 34).new t 34).new 0 34
  simp only [hsz] at E1
  generalize hA : w.heap.size + 1 = N1 at *
  generalize hB : N1 + 1 = N2 at *
  generalize hC : N2 + 1 = N3 at *
  clear hA hB hC
  obtain ⟨N0, hN0⟩ : ∃ n, n = w.heap.size := ⟨_, rfl⟩
  rw [← hN0] at E1
  rw [← hN0]
  clear hN0
  generalize (((w.alloc (.cells #[.float .f64 x] 34)).alloc (.cells #[.float .f64 y] 34)).alloc (.cells #[.float .f64 t] 34)).alloc (.cells #[.float .f64 0] 34) = w1 at *
  refine wp_region_inv' (fun A0 listed act_ w' => ∃ l0 l1 l2 l3 l4 l5 l6 l7 : Bool, ∃ u7 u8 u9 u10 u11 u12 u13 : Value, listed = #[l0, l1, l2, l3, l4, l5, l6, l7] ∧ act_ = (((((((A0.put (some 7) u7).put (some 8) u8).put (some 9) u9).put (some 10) u10).put (some 11) u11).put (some 12) u12).put (some 13) u13) ∧ Ev w w' ((N3, cond l7 d3 0) :: [(N2, t), (N1, y), (N0, x)]) ∧ (l0 = true → u7 = .agg #[.float .f64 y]) ∧ (l1 = true → u8 = .agg #[.float .f64 x]) ∧ (l2 = true → u9 = .agg #[.float .f64 d1]) ∧ (l3 = true → u10 = .agg #[.float .f64 t]) ∧ (l4 = true → u11 = .agg #[.float .f64 d2]) ∧ (l5 = true → u12 = .agg #[.float .f64 x]) ∧ (l6 = true → u13 = .agg #[.float .f64 d3])) (by kernel_rfl) (by kernel_rfl) ?h0_1 ?hstep_1 ?hend_1
  case h0_1 =>
    simp only [Act.put, List.setIfInBounds_toArray, List.set_cons_zero, List.set_cons_succ]
    refine ⟨false, false, false, false, false, false, false, false, _, _, _, _, _, _, _, rfl, rfl, E1.drew, ?_⟩
    simp
  case hend_1 =>
    intro listed act_ w' hs hall hI
    simp only [Act.put, List.setIfInBounds_toArray, List.set_cons_zero, List.set_cons_succ] at hI
    obtain ⟨l0, l1, l2, l3, l4, l5, l6, l7, u7, u8, u9, u10, u11, u12, u13, rfl, rfl, EE, h7, h8, h9, h10, h11, h12, h13⟩ := hI
    have t0 := hall 0 (by simp)
    have t1 := hall 1 (by simp)
    have t2 := hall 2 (by simp)
    have t3 := hall 3 (by simp)
    have t4 := hall 4 (by simp)
    have t5 := hall 5 (by simp)
    have t6 := hall 6 (by simp)
    have t7 := hall 7 (by simp)
    simp at t0 t1 t2 t3 t4 t5 t6 t7
    obtain rfl := h7 t0
    obtain rfl := h8 t1
    obtain rfl := h9 t2
    obtain rfl := h10 t3
    obtain rfl := h11 t4
    obtain rfl := h12 t5
    obtain rfl := h13 t6
    obtain rfl := t7
    clear hall
    have q := EE.cell (b := N3) (v := d3) (by simp)
    go_wp2_with fail
    exact bodyPost_ret (v := .agg #[.float .f64 d3]) (by simp [results, Try.results20, go_sem, q]) rfl ⟨rfl, EE.below⟩
  case hstep_1 =>
    intro listed act_ w' i hs hi hI
    simp only [Act.put, List.setIfInBounds_toArray, List.set_cons_zero, List.set_cons_succ] at hI ⊢
    obtain ⟨l0, l1, l2, l3, l4, l5, l6, l7, u7, u8, u9, u10, u11, u12, u13, rfl, rfl, EE, h7, h8, h9, h10, h11, h12, h13⟩ := hI
    obtain ⟨hf, o, ho, hdep⟩ := mem_ready.1 hi
    have hin : i = 0 ∨ i = 1 ∨ i = 2 ∨ i = 3 ∨ i = 4 ∨ i = 5 ∨ i = 6 ∨ i = 7 := by
      rcases Nat.lt_or_ge i 8 with h | h
      · omega
      · rw [Array.getElem?_eq_none h] at ho
        cases ho
    have EH := Lib.hid EE
    clear EE  hi hs
    rcases hin with rfl | rfl | rfl | rfl | rfl | rfl | rfl | rfl
    all_goals
      have ho2 := ho
      simp only [List.getElem?_toArray, List.getElem?_cons_zero, List.getElem?_cons_succ, Option.some.injEq] at ho2
      subst ho2
      simp [Region.binds] at hdep hf
      subst hf
      refine wpOp_step ho (fun K hK => ?_)
      replace hK := Lib.hid hK
      clear ho
    · have hq_ := EH.out.cell (b := N1) (v := y) (by simp [true_or])
      go_simp
      refine hK.out _ _ ?_
      exact ⟨_, _, _, _, _, _, _, _, _, _, _, _, _, _, _, rfl, rfl, EH.out, by first | exact h7 | exact fun _ => rfl | (intro _; simp [hdep]), by first | exact h8 | exact fun _ => rfl | (intro _; simp [hdep]), by first | exact h9 | exact fun _ => rfl | (intro _; simp [hdep]), by first | exact h10 | exact fun _ => rfl | (intro _; simp [hdep]), by first | exact h11 | exact fun _ => rfl | (intro _; simp [hdep]), by first | exact h12 | exact fun _ => rfl | (intro _; simp [hdep]), by first | exact h13 | exact fun _ => rfl | (intro _; simp [hdep])⟩
    · have hq_ := EH.out.cell (b := N0) (v := x) (by simp [true_or])
      go_simp
      refine hK.out _ _ ?_
      exact ⟨_, _, _, _, _, _, _, _, _, _, _, _, _, _, _, rfl, rfl, EH.out, by first | exact h7 | exact fun _ => rfl | (intro _; simp [hdep]), by first | exact h8 | exact fun _ => rfl | (intro _; simp [hdep]), by first | exact h9 | exact fun _ => rfl | (intro _; simp [hdep]), by first | exact h10 | exact fun _ => rfl | (intro _; simp [hdep]), by first | exact h11 | exact fun _ => rfl | (intro _; simp [hdep]), by first | exact h12 | exact fun _ => rfl | (intro _; simp [hdep]), by first | exact h13 | exact fun _ => rfl | (intro _; simp [hdep])⟩
    · obtain rfl := h7 (by simp [hdep])
      obtain rfl := h8 (by simp [hdep])
      go_simp
      go_at_call 17
      refine (K1.out _).mono ?_
      rintro e w1 ⟨rfl, hb⟩
      refine hK.out _ _ ?_
      exact ⟨_, _, _, _, _, _, _, _, _, _, _, _, _, _, _, rfl, rfl, EH.out.call hb, by first | exact h7 | exact fun _ => rfl | (intro _; simp [hdep]), by first | exact h8 | exact fun _ => rfl | (intro _; simp [hdep]), by first | exact h9 | exact fun _ => rfl | (intro _; simp [hdep]), by first | exact h10 | exact fun _ => rfl | (intro _; simp [hdep]), by first | exact h11 | exact fun _ => rfl | (intro _; simp [hdep]), by first | exact h12 | exact fun _ => rfl | (intro _; simp [hdep]), by first | exact h13 | exact fun _ => rfl | (intro _; simp [hdep])⟩
    · have hq_ := EH.out.cell (b := N2) (v := t) (by simp [true_or])
      go_simp
      refine hK.out _ _ ?_
      exact ⟨_, _, _, _, _, _, _, _, _, _, _, _, _, _, _, rfl, rfl, EH.out, by first | exact h7 | exact fun _ => rfl | (intro _; simp [hdep]), by first | exact h8 | exact fun _ => rfl | (intro _; simp [hdep]), by first | exact h9 | exact fun _ => rfl | (intro _; simp [hdep]), by first | exact h10 | exact fun _ => rfl | (intro _; simp [hdep]), by first | exact h11 | exact fun _ => rfl | (intro _; simp [hdep]), by first | exact h12 | exact fun _ => rfl | (intro _; simp [hdep]), by first | exact h13 | exact fun _ => rfl | (intro _; simp [hdep])⟩
    · obtain rfl := h9 (by simp [hdep])
      obtain rfl := h10 (by simp [hdep])
      go_simp
      go_at_call 23
      refine (K2.out _).mono ?_
      rintro e w1 ⟨rfl, hb⟩
      refine hK.out _ _ ?_
      exact ⟨_, _, _, _, _, _, _, _, _, _, _, _, _, _, _, rfl, rfl, EH.out.call hb, by first | exact h7 | exact fun _ => rfl | (intro _; simp [hdep]), by first | exact h8 | exact fun _ => rfl | (intro _; simp [hdep]), by first | exact h9 | exact fun _ => rfl | (intro _; simp [hdep]), by first | exact h10 | exact fun _ => rfl | (intro _; simp [hdep]), by first | exact h11 | exact fun _ => rfl | (intro _; simp [hdep]), by first | exact h12 | exact fun _ => rfl | (intro _; simp [hdep]), by first | exact h13 | exact fun _ => rfl | (intro _; simp [hdep])⟩
    · have hq_ := EH.out.cell (b := N0) (v := x) (by simp [true_or])
      go_simp
      refine hK.out _ _ ?_
      exact ⟨_, _, _, _, _, _, _, _, _, _, _, _, _, _, _, rfl, rfl, EH.out, by first | exact h7 | exact fun _ => rfl | (intro _; simp [hdep]), by first | exact h8 | exact fun _ => rfl | (intro _; simp [hdep]), by first | exact h9 | exact fun _ => rfl | (intro _; simp [hdep]), by first | exact h10 | exact fun _ => rfl | (intro _; simp [hdep]), by first | exact h11 | exact fun _ => rfl | (intro _; simp [hdep]), by first | exact h12 | exact fun _ => rfl | (intro _; simp [hdep]), by first | exact h13 | exact fun _ => rfl | (intro _; simp [hdep])⟩
    · obtain rfl := h11 (by simp [hdep])
      obtain rfl := h12 (by simp [hdep])
      go_simp
      go_at_call 24
      refine (K3.out _).mono ?_
      rintro e w1 ⟨rfl, hb⟩
      refine hK.out _ _ ?_
      exact ⟨_, _, _, _, _, _, _, _, _, _, _, _, _, _, _, rfl, rfl, EH.out.call hb, by first | exact h7 | exact fun _ => rfl | (intro _; simp [hdep]), by first | exact h8 | exact fun _ => rfl | (intro _; simp [hdep]), by first | exact h9 | exact fun _ => rfl | (intro _; simp [hdep]), by first | exact h10 | exact fun _ => rfl | (intro _; simp [hdep]), by first | exact h11 | exact fun _ => rfl | (intro _; simp [hdep]), by first | exact h12 | exact fun _ => rfl | (intro _; simp [hdep]), by first | exact h13 | exact fun _ => rfl | (intro _; simp [hdep])⟩
    · obtain rfl := h13 (by simp [hdep])
      have hq_ := EH.out.cell (b := N3) (v := 0) (by simp)
      have hz_ := EH.out.frz (b := N3) (v := 0) (by simp)
      go_simp
      refine hK.out _ _ ?_
      exact ⟨_, _, _, _, _, _, _, _, _, _, _, _, _, _, _, rfl, rfl, ((EH.out.perm (List.Perm.refl _)).set d3).perm (List.Perm.refl _).symm, by first | exact h7 | exact fun _ => rfl | (intro _; simp [hdep]), by first | exact h8 | exact fun _ => rfl | (intro _; simp [hdep]), by first | exact h9 | exact fun _ => rfl | (intro _; simp [hdep]), by first | exact h10 | exact fun _ => rfl | (intro _; simp [hdep]), by first | exact h11 | exact fun _ => rfl | (intro _; simp [hdep]), by first | exact h12 | exact fun _ => rfl | (intro _; simp [hdep]), by first | exact h13 | exact fun _ => rfl | (intro _; simp [hdep])⟩

/-- which hue is raised by a turn: the first -/
def selA (m : Int) (a b d : Nat) : Bool :=
  if m = 0 then (FloatKind.f64.format.order d 4602678819172646912 == some .gt) else if m = 1 then (FloatKind.f64.format.order d 0 == some .gt) && (FloatKind.f64.format.order d 4602678819172646912 == some .lt) else if m = 2 then false else if m = 3 then (FloatKind.f64.format.order a b == some .lt) else false
/-- .. the second -/
def selB (m : Int) (a b d : Nat) : Bool :=
  if m = 0 then (FloatKind.f64.format.order d 13826050856027422720 == some .lt) else if m = 1 then (FloatKind.f64.format.order d 13826050856027422720 == some .gt) && ((FloatKind.f64.format.order d 0 == some .lt) || (FloatKind.f64.format.order d 0 == some .eq)) else if m = 2 then (FloatKind.f64.format.order b a == some .lt) else false
set_option maxRecDepth 20000 in
set_option maxHeartbeats 8000000 in
theorem hues_o (a b t a1 a2 a3 a4 b1 b2 b3 b4 dl A B d1 d2 d3 r : Nat) (m : Int) (w : World) (ka1 : floatBits .quo .f64 a 4645040803167600640 = some a1) (ka2 : FloorIs a1 a2) (ka3 : floatBits .sub .f64 a1 a2 = some a3) (ka4 : floatBits .add .f64 a3 4607182418800017408 = some a4)
    (kb1 : floatBits .quo .f64 b 4645040803167600640 = some b1) (kb2 : FloorIs b1 b2) (kb3 : floatBits .sub .f64 b1 b2 = some b3) (kb4 : floatBits .add .f64 b3 4607182418800017408 = some b4) (kd : floatBits .sub .f64 b3 a3 = some dl)
    (hA : A = if selA m a3 b3 dl then a4 else a3) (hB : B = if selB m a3 b3 dl then b4 else b3) (k1 : floatBits .sub .f64 B A = some d1) (k2 : floatBits .mul .f64 d1 t = some d2) (k3 : floatBits .add .f64 d2 A = some d3) (k4 : floatBits .mul .f64 d3 4645040803167600640 = some r) (hm : ¬ m = 0 ∧ ¬ m = 1 ∧ ¬ m = 2 ∧ ¬ m = 3) :
    Calls Try.prog 12 #[.agg #[.float .f64 a], .agg #[.float .f64 b], .agg #[.float .f64 t], .int .u8 m] w fun e w' => e = .returned (.agg #[.float .f64 r]) ∧ Below w.heap.size w w' := by
  obtain ⟨m0, m1, m2, m3⟩ := hm
  have g0 : (m == 0) = false := by simp [m0]
  have g1 : (m == 1) = false := by simp [m1]
  have g2 : (m == 2) = false := by simp [m2]
  have g3 : (m == 3) = false := by simp [m3]
  have hA' : A = a3 := by rw [hA]; simp [selA, m0, m1, m2, m3]
  have hB' : B = b3 := by rw [hB]; simp [selB, m0, m1, m2]
  clear hA hB
  obtain rfl := hA'.symm
  obtain rfl := hB'.symm
  have KA1 := Lib.hid (fun w => fdivc a _ a1 w ka1)
  have KA2 := Lib.hid (fun w => floor18 a1 a2 w ka2)
  have KA3 := Lib.hid (fun w => fsubb a1 a2 a3 w ka3)
  have KA4 := Lib.hid (fun w => faddc a3 _ a4 w ka4)
  have KB1 := Lib.hid (fun w => fdivc b _ b1 w kb1)
  have KB2 := Lib.hid (fun w => floor18 b1 b2 w kb2)
  have KB3 := Lib.hid (fun w => fsubb b1 b2 b3 w kb3)
  have KB4 := Lib.hid (fun w => faddc b3 _ b4 w kb4)
  have KD := Lib.hid (fun w => fsubb b3 a3 dl w kd)
  have KL := Lib.hid (fun w => lerp20 a3 b3 t d1 d2 d3 w k1 k2 k3)
  have KM := Lib.hid (fun w => fmulc d3 _ r w k4)
  clear ka1 ka2 ka3 ka4 kb1 kb2 kb3 kb4 kd k1 k2 k3 k4
  have hsz : ∀ (w : World) o, (w.alloc o).heap.size = w.heap.size + 1 := fun w o => by simp
  go_enter Try.func12, Try.ntmps12
  go_upto_region 1 with fail
  have E := ((((Ev.start w).new a 34).new b 34).new t 34).new 0 34
  simp only [hsz] at E
  generalize hA1 : w.heap.size + 1 = N1 at *
  generalize hB1 : N1 + 1 = N2 at *
  generalize hC1 : N2 + 1 = N3 at *
  clear hA1 hB1 hC1
  obtain ⟨N0, hN0⟩ : ∃ n, n = w.heap.size := ⟨_, rfl⟩
  rw [← hN0] at E
  rw [← hN0]
  clear hN0
  generalize (((w.alloc (.cells #[.float .f64 a] 34)).alloc (.cells #[.float .f64 b] 34)).alloc (.cells #[.float .f64 t] 34)).alloc (.cells #[.float .f64 0] 34) = w1 at *
  have q0 := E.cell (b := N0) (v := a) (by simp)
  go_wp2_with fail
  refine (KA1.out _).mono ?_
  rintro e w11 ⟨rfl, hb⟩
  replace E := E.call hb
  clear hb q0
  replace E : Ev w w11 [(N0, a), (N3, 0), (N2, t), (N1, b)] := E.mid 3 _ (N0, a) rfl rfl
  have q0 := E.cell (b := N0) (v := a) (by simp)
  have z0 := E.frz (b := N0) (v := a) (by simp)
  go_upto_region 2 with fail
  replace E := E.set a1
  clear q0 z0
  generalize w11.setCell ⟨N0, 0, none⟩ (.float .f64 a1) = w12 at *
  have q0 := E.cell (b := N1) (v := b) (by simp)
  go_wp2_with fail
  refine (KB1.out _).mono ?_
  rintro e w13 ⟨rfl, hb⟩
  replace E := E.call hb
  clear hb q0
  replace E : Ev w w13 [(N1, b), (N0, a1), (N3, 0), (N2, t)] := E.mid 3 _ (N1, b) rfl rfl
  have q0 := E.cell (b := N1) (v := b) (by simp)
  have z0 := E.frz (b := N1) (v := b) (by simp)
  go_upto_region 3 with fail
  replace E := E.set b1
  clear q0 z0
  generalize w13.setCell ⟨N1, 0, none⟩ (.float .f64 b1) = w14 at *
  replace E : Ev w w14 [(N0, a1), (N1, b1), (N3, 0), (N2, t)] := E.mid 1 _ (N0, a1) rfl rfl
  refine wp_region_inv' (fun A0 listed act_ w' => ∃ l0 l1 l2 l3 l4 : Bool, ∃ u15 u16 u17 u18 : Value, listed = #[l0, l1, l2, l3, l4] ∧ act_ = ((((A0.put (some 15) u15).put (some 16) u16).put (some 17) u17).put (some 18) u18) ∧ Ev w w' ((N0, cond l4 a3 a1) :: [(N1, b1), (N3, 0), (N2, t)]) ∧ (l0 = true → u15 = .agg #[.float .f64 a1]) ∧ (l1 = true → u16 = .agg #[.float .f64 a1]) ∧ (l2 = true → u17 = .agg #[.float .f64 a2]) ∧ (l3 = true → u18 = .agg #[.float .f64 a3]) ∧ (l4 = true → l0 = true) ∧ (l4 = true → l1 = true)) (by kernel_rfl) (by kernel_rfl) ?h0_3 ?hstep_3 ?hend_3
  case h0_3 =>
    simp only [Act.put, List.setIfInBounds_toArray, List.set_cons_zero, List.set_cons_succ]
    refine ⟨false, false, false, false, false, _, _, _, _, rfl, rfl, E.drew, ?_⟩
    simp
  case hend_3 =>
    intro listed act_ w' hs hall hI
    simp only [Act.put, List.setIfInBounds_toArray, List.set_cons_zero, List.set_cons_succ] at hI
    obtain ⟨l0, l1, l2, l3, l4, u15, u16, u17, u18, rfl, rfl, EE, h15, h16, h17, h18, J0, J1⟩ := hI
    have t0 := hall 0 (by simp)
    have t1 := hall 1 (by simp)
    have t2 := hall 2 (by simp)
    have t3 := hall 3 (by simp)
    have t4 := hall 4 (by simp)
    simp at t0 t1 t2 t3 t4
    obtain rfl := h15 t0
    obtain rfl := h16 t1
    obtain rfl := h17 t2
    obtain rfl := h18 t3
    obtain rfl := t4
    clear hall
    replace E := EE
    clear EE
    rename World => w40
    go_upto_region 4 with fail
    replace E : Ev w w40 [(N1, b1), (N0, a3), (N3, 0), (N2, t)] := E.mid 1 _ (N1, b1) rfl rfl
    refine wp_region_inv' (fun A0 listed act_ w' => ∃ l0 l1 l2 l3 l4 : Bool, ∃ u19 u20 u21 u22 : Value, listed = #[l0, l1, l2, l3, l4] ∧ act_ = ((((A0.put (some 19) u19).put (some 20) u20).put (some 21) u21).put (some 22) u22) ∧ Ev w w' ((N1, cond l4 b3 b1) :: [(N0, a3), (N3, 0), (N2, t)]) ∧ (l0 = true → u19 = .agg #[.float .f64 b1]) ∧ (l1 = true → u20 = .agg #[.float .f64 b1]) ∧ (l2 = true → u21 = .agg #[.float .f64 b2]) ∧ (l3 = true → u22 = .agg #[.float .f64 b3]) ∧ (l4 = true → l0 = true) ∧ (l4 = true → l1 = true)) (by kernel_rfl) (by kernel_rfl) ?h0_2 ?hstep_2 ?hend_2
    case h0_2 =>
      simp only [Act.put, List.setIfInBounds_toArray, List.set_cons_zero, List.set_cons_succ]
      refine ⟨false, false, false, false, false, _, _, _, _, rfl, rfl, E.drew, ?_⟩
      simp
    case hend_2 =>
      intro listed act_ w' hs hall hI
      simp only [Act.put, List.setIfInBounds_toArray, List.set_cons_zero, List.set_cons_succ] at hI
      obtain ⟨l0, l1, l2, l3, l4, u19, u20, u21, u22, rfl, rfl, EE, h19, h20, h21, h22, J0, J1⟩ := hI
      have t0 := hall 0 (by simp)
      have t1 := hall 1 (by simp)
      have t2 := hall 2 (by simp)
      have t3 := hall 3 (by simp)
      have t4 := hall 4 (by simp)
      simp at t0 t1 t2 t3 t4
      obtain rfl := h19 t0
      obtain rfl := h20 t1
      obtain rfl := h21 t2
      obtain rfl := h22 t3
      obtain rfl := t4
      clear hall
      replace E := EE
      clear EE
      rename World => w60
      have q0 := E.cell (b := N0) (v := a3) (by simp)
      have q1 := E.cell (b := N1) (v := b3) (by simp)
      have q2 := E.cell (b := N2) (v := t) (by simp)
      go_wp2_with fail
      refine (KL.out _).mono ?_
      rintro e w61 ⟨rfl, hb⟩
      replace E := E.call hb
      clear hb q0 q1 q2
      go_wp2_with fail
      refine (KM.out _).mono ?_
      rintro e w62 ⟨rfl, hb⟩
      replace E := E.call hb
      clear hb 
      replace E : Ev w w62 [(N3, 0), (N1, b3), (N0, a3), (N2, t)] := E.mid 2 _ (N3, 0) rfl rfl
      have q0 := E.cell (b := N3) (v := 0) (by simp)
      have z0 := E.frz (b := N3) (v := 0) (by simp)
      have E9 := E.set r
      have q1 := E9.cell (b := N3) (v := r) (by simp)
      go_wp2_with fail
      exact bodyPost_ret (v := .agg #[.float .f64 r]) (by simp [results, Try.results12, go_sem, q1]) rfl ⟨rfl, E9.below⟩
    case hstep_2 =>
      intro listed act_ w' i hs hi hI
      simp only [Act.put, List.setIfInBounds_toArray, List.set_cons_zero, List.set_cons_succ] at hI ⊢
      obtain ⟨l0, l1, l2, l3, l4, u19, u20, u21, u22, rfl, rfl, EE, h19, h20, h21, h22, J0, J1⟩ := hI
      obtain ⟨hf, o, ho, hdep⟩ := mem_ready.1 hi
      have hin : i = 0 ∨ i = 1 ∨ i = 2 ∨ i = 3 ∨ i = 4 := by
        rcases Nat.lt_or_ge i 5 with h | h
        · omega
        · rw [Array.getElem?_eq_none h] at ho
          cases ho
      have EH := Lib.hid EE
      clear EE  hi hs
      rcases hin with rfl | rfl | rfl | rfl | rfl
      all_goals
        have ho2 := ho
        simp only [List.getElem?_toArray, List.getElem?_cons_zero, List.getElem?_cons_succ, Option.some.injEq] at ho2
        subst ho2
        simp [Region.binds] at hdep hf
        subst hf
        refine wpOp_step ho (fun K hK => ?_)
        replace hK := Lib.hid hK
        clear ho
      · have hl_ : l4 = false := by
          cases hx_ : l4 with
          | false => rfl
          | true => have := J0 hx_; simp at this
        subst hl_
        have hq_ := EH.out.cell (b := N1) (v := b1) (by simp)
        go_simp
        refine hK.out _ _ ?_
        exact ⟨_, _, _, _, _, _, _, _, _, rfl, rfl, EH.out, by first | exact h19 | exact fun _ => rfl | (intro _; simp [hdep]), by first | exact h20 | exact fun _ => rfl | (intro _; simp [hdep]), by first | exact h21 | exact fun _ => rfl | (intro _; simp [hdep]), by first | exact h22 | exact fun _ => rfl | (intro _; simp [hdep]), by first | exact J0 | exact fun _ => rfl | (intro _; simp [hdep]), by first | exact J1 | exact fun _ => rfl | (intro _; simp [hdep])⟩
      · have hl_ : l4 = false := by
          cases hx_ : l4 with
          | false => rfl
          | true => have := J1 hx_; simp at this
        subst hl_
        have hq_ := EH.out.cell (b := N1) (v := b1) (by simp)
        go_simp
        refine hK.out _ _ ?_
        exact ⟨_, _, _, _, _, _, _, _, _, rfl, rfl, EH.out, by first | exact h19 | exact fun _ => rfl | (intro _; simp [hdep]), by first | exact h20 | exact fun _ => rfl | (intro _; simp [hdep]), by first | exact h21 | exact fun _ => rfl | (intro _; simp [hdep]), by first | exact h22 | exact fun _ => rfl | (intro _; simp [hdep]), by first | exact J0 | exact fun _ => rfl | (intro _; simp [hdep]), by first | exact J1 | exact fun _ => rfl | (intro _; simp [hdep])⟩
      · obtain rfl := h20 (by simp [hdep])
        go_simp
        go_at_call 18
        refine (KB2.out _).mono ?_
        rintro e w1 ⟨rfl, hb⟩
        refine hK.out _ _ ?_
        exact ⟨_, _, _, _, _, _, _, _, _, rfl, rfl, EH.out.call hb, by first | exact h19 | exact fun _ => rfl | (intro _; simp [hdep]), by first | exact h20 | exact fun _ => rfl | (intro _; simp [hdep]), by first | exact h21 | exact fun _ => rfl | (intro _; simp [hdep]), by first | exact h22 | exact fun _ => rfl | (intro _; simp [hdep]), by first | exact J0 | exact fun _ => rfl | (intro _; simp [hdep]), by first | exact J1 | exact fun _ => rfl | (intro _; simp [hdep])⟩
      · obtain rfl := h19 (by simp [hdep])
        obtain rfl := h21 (by simp [hdep])
        go_simp
        go_at_call 17
        refine (KB3.out _).mono ?_
        rintro e w1 ⟨rfl, hb⟩
        refine hK.out _ _ ?_
        exact ⟨_, _, _, _, _, _, _, _, _, rfl, rfl, EH.out.call hb, by first | exact h19 | exact fun _ => rfl | (intro _; simp [hdep]), by first | exact h20 | exact fun _ => rfl | (intro _; simp [hdep]), by first | exact h21 | exact fun _ => rfl | (intro _; simp [hdep]), by first | exact h22 | exact fun _ => rfl | (intro _; simp [hdep]), by first | exact J0 | exact fun _ => rfl | (intro _; simp [hdep]), by first | exact J1 | exact fun _ => rfl | (intro _; simp [hdep])⟩
      · obtain rfl := h22 (by simp [hdep])
        have hq_ := EH.out.cell (b := N1) (v := b1) (by simp)
        have hz_ := EH.out.frz (b := N1) (v := b1) (by simp)
        go_simp
        refine hK.out _ _ ?_
        exact ⟨_, _, _, _, _, _, _, _, _, rfl, rfl, ((EH.out.perm (List.Perm.refl _)).set b3).perm (List.Perm.refl _).symm, by first | exact h19 | exact fun _ => rfl | (intro _; simp [hdep]), by first | exact h20 | exact fun _ => rfl | (intro _; simp [hdep]), by first | exact h21 | exact fun _ => rfl | (intro _; simp [hdep]), by first | exact h22 | exact fun _ => rfl | (intro _; simp [hdep]), by first | exact J0 | exact fun _ => rfl | (intro _; simp [hdep]), by first | exact J1 | exact fun _ => rfl | (intro _; simp [hdep])⟩
  case hstep_3 =>
    intro listed act_ w' i hs hi hI
    simp only [Act.put, List.setIfInBounds_toArray, List.set_cons_zero, List.set_cons_succ] at hI ⊢
    obtain ⟨l0, l1, l2, l3, l4, u15, u16, u17, u18, rfl, rfl, EE, h15, h16, h17, h18, J0, J1⟩ := hI
    obtain ⟨hf, o, ho, hdep⟩ := mem_ready.1 hi
    have hin : i = 0 ∨ i = 1 ∨ i = 2 ∨ i = 3 ∨ i = 4 := by
      rcases Nat.lt_or_ge i 5 with h | h
      · omega
      · rw [Array.getElem?_eq_none h] at ho
        cases ho
    have EH := Lib.hid EE
    clear EE  hi hs
    rcases hin with rfl | rfl | rfl | rfl | rfl
    all_goals
      have ho2 := ho
      simp only [List.getElem?_toArray, List.getElem?_cons_zero, List.getElem?_cons_succ, Option.some.injEq] at ho2
      subst ho2
      simp [Region.binds] at hdep hf
      subst hf
      refine wpOp_step ho (fun K hK => ?_)
      replace hK := Lib.hid hK
      clear ho
    · have hl_ : l4 = false := by
        cases hx_ : l4 with
        | false => rfl
        | true => have := J0 hx_; simp at this
      subst hl_
      have hq_ := EH.out.cell (b := N0) (v := a1) (by simp)
      go_simp
      refine hK.out _ _ ?_
      exact ⟨_, _, _, _, _, _, _, _, _, rfl, rfl, EH.out, by first | exact h15 | exact fun _ => rfl | (intro _; simp [hdep]), by first | exact h16 | exact fun _ => rfl | (intro _; simp [hdep]), by first | exact h17 | exact fun _ => rfl | (intro _; simp [hdep]), by first | exact h18 | exact fun _ => rfl | (intro _; simp [hdep]), by first | exact J0 | exact fun _ => rfl | (intro _; simp [hdep]), by first | exact J1 | exact fun _ => rfl | (intro _; simp [hdep])⟩
    · have hl_ : l4 = false := by
        cases hx_ : l4 with
        | false => rfl
        | true => have := J1 hx_; simp at this
      subst hl_
      have hq_ := EH.out.cell (b := N0) (v := a1) (by simp)
      go_simp
      refine hK.out _ _ ?_
      exact ⟨_, _, _, _, _, _, _, _, _, rfl, rfl, EH.out, by first | exact h15 | exact fun _ => rfl | (intro _; simp [hdep]), by first | exact h16 | exact fun _ => rfl | (intro _; simp [hdep]), by first | exact h17 | exact fun _ => rfl | (intro _; simp [hdep]), by first | exact h18 | exact fun _ => rfl | (intro _; simp [hdep]), by first | exact J0 | exact fun _ => rfl | (intro _; simp [hdep]), by first | exact J1 | exact fun _ => rfl | (intro _; simp [hdep])⟩
    · obtain rfl := h16 (by simp [hdep])
      go_simp
      go_at_call 18
      refine (KA2.out _).mono ?_
      rintro e w1 ⟨rfl, hb⟩
      refine hK.out _ _ ?_
      exact ⟨_, _, _, _, _, _, _, _, _, rfl, rfl, EH.out.call hb, by first | exact h15 | exact fun _ => rfl | (intro _; simp [hdep]), by first | exact h16 | exact fun _ => rfl | (intro _; simp [hdep]), by first | exact h17 | exact fun _ => rfl | (intro _; simp [hdep]), by first | exact h18 | exact fun _ => rfl | (intro _; simp [hdep]), by first | exact J0 | exact fun _ => rfl | (intro _; simp [hdep]), by first | exact J1 | exact fun _ => rfl | (intro _; simp [hdep])⟩
    · obtain rfl := h15 (by simp [hdep])
      obtain rfl := h17 (by simp [hdep])
      go_simp
      go_at_call 17
      refine (KA3.out _).mono ?_
      rintro e w1 ⟨rfl, hb⟩
      refine hK.out _ _ ?_
      exact ⟨_, _, _, _, _, _, _, _, _, rfl, rfl, EH.out.call hb, by first | exact h15 | exact fun _ => rfl | (intro _; simp [hdep]), by first | exact h16 | exact fun _ => rfl | (intro _; simp [hdep]), by first | exact h17 | exact fun _ => rfl | (intro _; simp [hdep]), by first | exact h18 | exact fun _ => rfl | (intro _; simp [hdep]), by first | exact J0 | exact fun _ => rfl | (intro _; simp [hdep]), by first | exact J1 | exact fun _ => rfl | (intro _; simp [hdep])⟩
    · obtain rfl := h18 (by simp [hdep])
      have hq_ := EH.out.cell (b := N0) (v := a1) (by simp)
      have hz_ := EH.out.frz (b := N0) (v := a1) (by simp)
      go_simp
      refine hK.out _ _ ?_
      exact ⟨_, _, _, _, _, _, _, _, _, rfl, rfl, ((EH.out.perm (List.Perm.refl _)).set a3).perm (List.Perm.refl _).symm, by first | exact h15 | exact fun _ => rfl | (intro _; simp [hdep]), by first | exact h16 | exact fun _ => rfl | (intro _; simp [hdep]), by first | exact h17 | exact fun _ => rfl | (intro _; simp [hdep]), by first | exact h18 | exact fun _ => rfl | (intro _; simp [hdep]), by first | exact J0 | exact fun _ => rfl | (intro _; simp [hdep]), by first | exact J1 | exact fun _ => rfl | (intro _; simp [hdep])⟩
end Go.Proofs.Ythhoalfilmlhaaa
