/-
  The contracts of the two exports and of the laws' own helpers. Condition: the operations have answers.
-/
import Derived.Test.YthhoalfilmlhaaaHe
namespace Go.Proofs.Ythhoalfilmlhaaa
open Go.ChangeShapes Go.WideShapes Go.ChangeAt Go.RowKit
attribute [local go_sem] run_store_float unary_neg_float

set_option maxRecDepth 20000 in
set_option maxHeartbeats 4000000 in
theorem zz9 (a0 a1 a2 b0 b1 b2 t v0 v1 v2 : Nat) (cs m : Int) (w : World) (c : ∀ w, Calls Try.prog 15 #[.agg #[.float .f64 a0], .agg #[.float .f64 a1], .agg #[.float .f64 a2], .agg #[.float .f64 b0], .agg #[.float .f64 b1], .agg #[.float .f64 b2], .int .u8 cs, .int .u8 m, .agg #[.float .f64 t]] w fun e w' => e = .returned (.tuple #[.agg #[.float .f64 v0], .agg #[.float .f64 v1], .agg #[.float .f64 v2]]) ∧ Below w.heap.size w w') :
    Calls Try.prog 9 #[.float .f64 a0, .float .f64 a1, .float .f64 a2, .float .f64 b0, .float .f64 b1, .float .f64 b2, .float .f64 t, .int .u8 cs, .int .u8 m] w fun e w' => e = .returned (.tuple #[.float .f64 v0, .float .f64 v1, .float .f64 v2]) ∧ Below w.heap.size w w' := by
  have C := Lib.hid c
  clear c
  have hsz : ∀ (w : World) o, (w.alloc o).heap.size = w.heap.size + 1 := fun w o => by simp
  have HAL := Lib.hid (show Below w.heap.size w (((((((w.alloc (.cells #[.float .f64 a0] 34)).alloc (.cells #[.float .f64 a1] 34)).alloc (.cells #[.float .f64 a2] 34)).alloc (.cells #[.float .f64 b0] 34)).alloc (.cells #[.float .f64 b1] 34)).alloc (.cells #[.float .f64 b2] 34)).alloc (.cells #[.float .f64 t] 34)) from
    (((((((Below.refl _ _).alloc (Nat.le_refl _) _).alloc (by simp) _).alloc (by simp; omega) _).alloc (by simp; omega) _).alloc (by simp; omega) _).alloc (by simp; omega) _).alloc (by simp; omega) _)
  go_enter Try.func9, Try.ntmps9
  go_wp2_with (go_at_call 13; with_reducible refine (fnew _ _).mono ?_; rintro e w1 ⟨rfl, rfl⟩)
  refine (C.out _).mono ?_
  rintro e w2 ⟨rfl, hb⟩
  have hb2 := HAL.out.trans (hb.mono HAL.out.size)
  have E0 : Ev w w2 [] := ⟨hb2, fun p h => by simp at h, List.Pairwise.nil⟩
  clear hb hb2
  go_upto_region 2 with fail
  have E := ((E0.new v0 34).new v1 34).new v2 34
  simp only [hsz] at E
  clear E0
  generalize hG1 : w2.heap.size + 1 = M1 at *
  generalize hG2 : M1 + 1 = M2 at *
  clear hG1 hG2
  obtain ⟨M0, hM0⟩ : ∃ n, n = w2.heap.size := ⟨_, rfl⟩
  rw [← hM0] at E
  rw [← hM0]
  clear hM0
  generalize ((w2.alloc (.cells #[.float .f64 v0] 34)).alloc (.cells #[.float .f64 v1] 34)).alloc (.cells #[.float .f64 v2] 34) = w3 at *
  refine wp_region_invB' (fun A0 listed act_ w' => ∃ l0 l1 l2 l3 l4 l5 l6 l7 l8 : Bool, ∃ u18 u19 u20 u45 u46 u47 u48 u49 u50 : Value, listed = #[l0, l1, l2, l3, l4, l5, l6, l7, l8] ∧ act_ = (((((((((A0.put (some 18) u18).put (some 19) u19).put (some 20) u20).put (some 45) u45).put (some 46) u46).put (some 47) u47).put (some 48) u48).put (some 49) u49).put (some 50) u50) ∧ Ev w w' [(M2, v2), (M1, v1), (M0, v0)] ∧ (l0 = true → u45 = .agg #[.float .f64 v0]) ∧ (l1 = true → u46 = .float .f64 v0) ∧ (l2 = true → u47 = .agg #[.float .f64 v1]) ∧ (l3 = true → u48 = .float .f64 v1) ∧ (l4 = true → u49 = .agg #[.float .f64 v2]) ∧ (l5 = true → u50 = .float .f64 v2) ∧ (l6 = true → u18 = .float .f64 v0) ∧ (l7 = true → u19 = .float .f64 v1) ∧ (l8 = true → u20 = .float .f64 v2)) (by kernel_rfl) (by kernel_rfl) ?h0_1 ?hstep_1 ?hend_1
  case h0_1 =>
    simp only [Act.put, List.setIfInBounds_toArray, List.set_cons_zero, List.set_cons_succ]
    refine ⟨false, false, false, false, false, false, false, false, false, _, _, _, _, _, _, _, _, _, rfl, rfl, E.drew, ?_⟩
    simp
  case hend_1 =>
    intro listed act_ w' hs hall hI
    simp only [Act.put, List.setIfInBounds_toArray, List.set_cons_zero, List.set_cons_succ] at hI
    obtain ⟨l0, l1, l2, l3, l4, l5, l6, l7, l8, u18, u19, u20, u45, u46, u47, u48, u49, u50, rfl, rfl, EE, h45, h46, h47, h48, h49, h50, h18, h19, h20⟩ := hI
    have t0 := hall 0 (by simp)
    have t1 := hall 1 (by simp)
    have t2 := hall 2 (by simp)
    have t3 := hall 3 (by simp)
    have t4 := hall 4 (by simp)
    have t5 := hall 5 (by simp)
    have t6 := hall 6 (by simp)
    have t7 := hall 7 (by simp)
    have t8 := hall 8 (by simp)
    simp at t0 t1 t2 t3 t4 t5 t6 t7 t8
    obtain rfl := h45 t0
    obtain rfl := h46 t1
    obtain rfl := h47 t2
    obtain rfl := h48 t3
    obtain rfl := h49 t4
    obtain rfl := h50 t5
    obtain rfl := h18 t6
    obtain rfl := h19 t7
    obtain rfl := h20 t8
    clear hall
    go_wp2_with fail
    exact bodyPost_ret (v := .tuple #[.float .f64 v0, .float .f64 v1, .float .f64 v2]) (by simp [results, Try.results9, go_sem]) rfl ⟨rfl, EE.below⟩
  case hstep_1 =>
    intro listed act_ w' i hs hi hI
    simp only [Act.put, List.setIfInBounds_toArray, List.set_cons_zero, List.set_cons_succ] at hI ⊢
    obtain ⟨l0, l1, l2, l3, l4, l5, l6, l7, l8, u18, u19, u20, u45, u46, u47, u48, u49, u50, rfl, rfl, EE, h45, h46, h47, h48, h49, h50, h18, h19, h20⟩ := hI
    obtain ⟨hf, o, ho, hdep⟩ := mem_ready.1 hi
    have hin : i = 0 ∨ i = 1 ∨ i = 2 ∨ i = 3 ∨ i = 4 ∨ i = 5 ∨ i = 6 ∨ i = 7 ∨ i = 8 := by
      rcases Nat.lt_or_ge i 9 with h | h
      · omega
      · rw [Array.getElem?_eq_none h] at ho
        cases ho
    have EH := Lib.hid EE
    clear EE  hi hs
    rcases hin with rfl | rfl | rfl | rfl | rfl | rfl | rfl | rfl | rfl
    all_goals
      have ho2 := ho
      simp only [List.getElem?_toArray, List.getElem?_cons_zero, List.getElem?_cons_succ, Option.some.injEq] at ho2
      subst ho2
      simp [Region.binds] at hdep hf
      subst hf
      refine wpOp_step ho (fun K hK => ?_)
      replace hK := Lib.hid hK
      clear ho
    · have hq_ := EH.out.cell (b := M0) (v := v0) (by simp [true_or])
      go_simp
      refine hK.out _ _ ?_
      exact ⟨_, _, _, _, _, _, _, _, _, _, _, _, _, _, _, _, _, _, rfl, rfl, EH.out, by first | exact h45 | exact fun _ => rfl | (intro _; simp [hdep]), by first | exact h46 | exact fun _ => rfl | (intro _; simp [hdep]), by first | exact h47 | exact fun _ => rfl | (intro _; simp [hdep]), by first | exact h48 | exact fun _ => rfl | (intro _; simp [hdep]), by first | exact h49 | exact fun _ => rfl | (intro _; simp [hdep]), by first | exact h50 | exact fun _ => rfl | (intro _; simp [hdep]), by first | exact h18 | exact fun _ => rfl | (intro _; simp [hdep]), by first | exact h19 | exact fun _ => rfl | (intro _; simp [hdep]), by first | exact h20 | exact fun _ => rfl | (intro _; simp [hdep])⟩
    · obtain rfl := h45 (by simp [hdep])
      go_simp
      go_at_call 14
      refine (fvalueB _ _).mono ?_
      rintro e w1 ⟨rfl, hb⟩
      refine hK.out _ _ ?_
      exact ⟨_, _, _, _, _, _, _, _, _, _, _, _, _, _, _, _, _, _, rfl, rfl, EH.out.call hb, by first | exact h45 | exact fun _ => rfl | (intro _; simp [hdep]), by first | exact h46 | exact fun _ => rfl | (intro _; simp [hdep]), by first | exact h47 | exact fun _ => rfl | (intro _; simp [hdep]), by first | exact h48 | exact fun _ => rfl | (intro _; simp [hdep]), by first | exact h49 | exact fun _ => rfl | (intro _; simp [hdep]), by first | exact h50 | exact fun _ => rfl | (intro _; simp [hdep]), by first | exact h18 | exact fun _ => rfl | (intro _; simp [hdep]), by first | exact h19 | exact fun _ => rfl | (intro _; simp [hdep]), by first | exact h20 | exact fun _ => rfl | (intro _; simp [hdep])⟩
    · have hq_ := EH.out.cell (b := M1) (v := v1) (by simp [true_or])
      go_simp
      refine hK.out _ _ ?_
      exact ⟨_, _, _, _, _, _, _, _, _, _, _, _, _, _, _, _, _, _, rfl, rfl, EH.out, by first | exact h45 | exact fun _ => rfl | (intro _; simp [hdep]), by first | exact h46 | exact fun _ => rfl | (intro _; simp [hdep]), by first | exact h47 | exact fun _ => rfl | (intro _; simp [hdep]), by first | exact h48 | exact fun _ => rfl | (intro _; simp [hdep]), by first | exact h49 | exact fun _ => rfl | (intro _; simp [hdep]), by first | exact h50 | exact fun _ => rfl | (intro _; simp [hdep]), by first | exact h18 | exact fun _ => rfl | (intro _; simp [hdep]), by first | exact h19 | exact fun _ => rfl | (intro _; simp [hdep]), by first | exact h20 | exact fun _ => rfl | (intro _; simp [hdep])⟩
    · obtain rfl := h47 (by simp [hdep])
      go_simp
      go_at_call 14
      refine (fvalueB _ _).mono ?_
      rintro e w1 ⟨rfl, hb⟩
      refine hK.out _ _ ?_
      exact ⟨_, _, _, _, _, _, _, _, _, _, _, _, _, _, _, _, _, _, rfl, rfl, EH.out.call hb, by first | exact h45 | exact fun _ => rfl | (intro _; simp [hdep]), by first | exact h46 | exact fun _ => rfl | (intro _; simp [hdep]), by first | exact h47 | exact fun _ => rfl | (intro _; simp [hdep]), by first | exact h48 | exact fun _ => rfl | (intro _; simp [hdep]), by first | exact h49 | exact fun _ => rfl | (intro _; simp [hdep]), by first | exact h50 | exact fun _ => rfl | (intro _; simp [hdep]), by first | exact h18 | exact fun _ => rfl | (intro _; simp [hdep]), by first | exact h19 | exact fun _ => rfl | (intro _; simp [hdep]), by first | exact h20 | exact fun _ => rfl | (intro _; simp [hdep])⟩
    · have hq_ := EH.out.cell (b := M2) (v := v2) (by simp [true_or])
      go_simp
      refine hK.out _ _ ?_
      exact ⟨_, _, _, _, _, _, _, _, _, _, _, _, _, _, _, _, _, _, rfl, rfl, EH.out, by first | exact h45 | exact fun _ => rfl | (intro _; simp [hdep]), by first | exact h46 | exact fun _ => rfl | (intro _; simp [hdep]), by first | exact h47 | exact fun _ => rfl | (intro _; simp [hdep]), by first | exact h48 | exact fun _ => rfl | (intro _; simp [hdep]), by first | exact h49 | exact fun _ => rfl | (intro _; simp [hdep]), by first | exact h50 | exact fun _ => rfl | (intro _; simp [hdep]), by first | exact h18 | exact fun _ => rfl | (intro _; simp [hdep]), by first | exact h19 | exact fun _ => rfl | (intro _; simp [hdep]), by first | exact h20 | exact fun _ => rfl | (intro _; simp [hdep])⟩
    · obtain rfl := h49 (by simp [hdep])
      go_simp
      go_at_call 14
      refine (fvalueB _ _).mono ?_
      rintro e w1 ⟨rfl, hb⟩
      refine hK.out _ _ ?_
      exact ⟨_, _, _, _, _, _, _, _, _, _, _, _, _, _, _, _, _, _, rfl, rfl, EH.out.call hb, by first | exact h45 | exact fun _ => rfl | (intro _; simp [hdep]), by first | exact h46 | exact fun _ => rfl | (intro _; simp [hdep]), by first | exact h47 | exact fun _ => rfl | (intro _; simp [hdep]), by first | exact h48 | exact fun _ => rfl | (intro _; simp [hdep]), by first | exact h49 | exact fun _ => rfl | (intro _; simp [hdep]), by first | exact h50 | exact fun _ => rfl | (intro _; simp [hdep]), by first | exact h18 | exact fun _ => rfl | (intro _; simp [hdep]), by first | exact h19 | exact fun _ => rfl | (intro _; simp [hdep]), by first | exact h20 | exact fun _ => rfl | (intro _; simp [hdep])⟩
    · obtain rfl := h46 (by simp [hdep])
      go_simp
      refine hK.out _ _ ?_
      exact ⟨_, _, _, _, _, _, _, _, _, _, _, _, _, _, _, _, _, _, rfl, rfl, EH.out, by first | exact h45 | exact fun _ => rfl | (intro _; simp [hdep]), by first | exact h46 | exact fun _ => rfl | (intro _; simp [hdep]), by first | exact h47 | exact fun _ => rfl | (intro _; simp [hdep]), by first | exact h48 | exact fun _ => rfl | (intro _; simp [hdep]), by first | exact h49 | exact fun _ => rfl | (intro _; simp [hdep]), by first | exact h50 | exact fun _ => rfl | (intro _; simp [hdep]), by first | exact h18 | exact fun _ => rfl | (intro _; simp [hdep]), by first | exact h19 | exact fun _ => rfl | (intro _; simp [hdep]), by first | exact h20 | exact fun _ => rfl | (intro _; simp [hdep])⟩
    · obtain rfl := h48 (by simp [hdep])
      go_simp
      refine hK.out _ _ ?_
      exact ⟨_, _, _, _, _, _, _, _, _, _, _, _, _, _, _, _, _, _, rfl, rfl, EH.out, by first | exact h45 | exact fun _ => rfl | (intro _; simp [hdep]), by first | exact h46 | exact fun _ => rfl | (intro _; simp [hdep]), by first | exact h47 | exact fun _ => rfl | (intro _; simp [hdep]), by first | exact h48 | exact fun _ => rfl | (intro _; simp [hdep]), by first | exact h49 | exact fun _ => rfl | (intro _; simp [hdep]), by first | exact h50 | exact fun _ => rfl | (intro _; simp [hdep]), by first | exact h18 | exact fun _ => rfl | (intro _; simp [hdep]), by first | exact h19 | exact fun _ => rfl | (intro _; simp [hdep]), by first | exact h20 | exact fun _ => rfl | (intro _; simp [hdep])⟩
    · obtain rfl := h50 (by simp [hdep])
      go_simp
      refine hK.out _ _ ?_
      exact ⟨_, _, _, _, _, _, _, _, _, _, _, _, _, _, _, _, _, _, rfl, rfl, EH.out, by first | exact h45 | exact fun _ => rfl | (intro _; simp [hdep]), by first | exact h46 | exact fun _ => rfl | (intro _; simp [hdep]), by first | exact h47 | exact fun _ => rfl | (intro _; simp [hdep]), by first | exact h48 | exact fun _ => rfl | (intro _; simp [hdep]), by first | exact h49 | exact fun _ => rfl | (intro _; simp [hdep]), by first | exact h50 | exact fun _ => rfl | (intro _; simp [hdep]), by first | exact h18 | exact fun _ => rfl | (intro _; simp [hdep]), by first | exact h19 | exact fun _ => rfl | (intro _; simp [hdep]), by first | exact h20 | exact fun _ => rfl | (intro _; simp [hdep])⟩
set_option maxRecDepth 20000 in
set_option maxHeartbeats 4000000 in
theorem zz8 (a b t r : Nat) (m : Int) (w : World) (c : ∀ w, Calls Try.prog 12 #[.agg #[.float .f64 a], .agg #[.float .f64 b], .agg #[.float .f64 t], .int .u8 m] w fun e w' => e = .returned (.agg #[.float .f64 r]) ∧ Below w.heap.size w w') :
    Calls Try.prog 8 #[.float .f64 a, .float .f64 b, .float .f64 t, .int .u8 m] w fun e w' => e = .returned (.float .f64 r) ∧ Below w.heap.size w w' := by
  have C := Lib.hid c
  clear c
  have HAL := Lib.hid (show Below w.heap.size w (((w.alloc (.cells #[.float .f64 a] 34)).alloc (.cells #[.float .f64 b] 34)).alloc (.cells #[.float .f64 t] 34)) from (((Below.refl _ _).alloc (Nat.le_refl _) _).alloc (by simp) _).alloc (by simp; omega) _)
  go_enter Try.func8, Try.ntmps8
  go_wp2_with (go_at_call 13; with_reducible refine (fnew _ _).mono ?_; rintro e w1 ⟨rfl, rfl⟩)
  refine (C.out _).mono ?_
  rintro e w2 ⟨rfl, hb⟩
  have HB := Lib.hid (HAL.out.trans (hb.mono HAL.out.size))
  clear hb
  go_wp2_with fail
  refine (fvalueB _ _).mono ?_
  rintro e w3 ⟨rfl, hb⟩
  have HB2 := Lib.hid (HB.out.trans (hb.mono HB.out.size))
  clear hb
  go_wp2_with fail
  go_ret
  exact ⟨rfl, HB2.out⟩
def leB (x y : Nat) : Bool := FloatKind.f64.format.order x y == some .lt || FloatKind.f64.format.order x y == some .eq
def geB (x y : Nat) : Bool := FloatKind.f64.format.order x y == some .gt || FloatKind.f64.format.order x y == some .eq
def inB (x m : Nat) : Bool := geB x (Fl.fneg m) && leB x m
theorem in5 (x m : Nat) (w : World) : Calls Try.prog 5 #[.float .f64 x, .float .f64 m] w fun e w' => e = .returned (.bool (inB x m)) ∧ w' = w := by
  unfold inB geB leB
  cases h1 : (FloatKind.f64.format.order x (Fl.fneg m) == some .gt || FloatKind.f64.format.order x (Fl.fneg m) == some .eq)
  · go_enter Try.func5, Try.ntmps5
    go_wp2_with fail
    go_ret
    exact ⟨rfl, rfl⟩
  · go_enter Try.func5, Try.ntmps5
    go_wp2_with fail
    go_ret
    exact ⟨rfl, rfl⟩
theorem abs7 (x : Nat) (w : World) : Calls Try.prog 7 #[.float .f64 x] w fun e w' => e = .returned (.float .f64 (Fl.fabs x)) ∧ w' = w := by
  have hd : Fl.fabs x = if (FloatKind.f64.format.order x 0 == some .lt) = true then Fl.fneg x else x := rfl
  rw [hd]
  cases h : (FloatKind.f64.format.order x 0 == some .lt)
  · go_enter Try.func7, Try.ntmps7
    go_wp2_with fail
    go_ret
    exact ⟨rfl, rfl⟩
  · go_enter Try.func7, Try.ntmps7
    go_wp2_with fail
    go_ret
    exact ⟨rfl, rfl⟩
theorem run_toInt (x : Nat) (n : Int) (h : (Ieee.double.read x).toInt .zero = some n) (hn : n.natAbs ≤ 4503599627370496) (w : World) : (convert 22 2 (.float .f64 x)).run Try.prog w = .ok (.int .i64 n) w := by
  have h1 : (convert 22 2 (.float .f64 x)).run Try.prog w = (Conv.floatToInt .f64 x .i64).run Try.prog w := by kernel_rfl
  rw [h1]
  unfold Conv.floatToInt
  have h2 : (FloatKind.f64.decode x).toInt .zero = some n := h
  rw [h2]
  have hm : IntKind.i64.min = -9223372036854775808 := by decide
  have hM : IntKind.i64.max = 9223372036854775807 := by decide
  simp only
  rw [if_pos (by rw [hm, hM]; omega)]
  rfl
end Go.Proofs.Ythhoalfilmlhaaa
