/-
  The contracts of rgb_to_hwb and its export: the hue is NaN exactly for grays, else in [0, 360]. Condition: the channels are finite, of size at most 1e300.
-/
import Derived.Test.YtecdhjhobjagkaaFk
namespace Go.Proofs.Ytecdhjhobjagkaa
open Go.ChangeShapes Go.WideShapes Go.ChangeAt Go.RowKit
attribute [local go_sem] run_store_float unary_neg_float

set_option maxRecDepth 20000 in
set_option maxHeartbeats 4000000 in
theorem hwb24 (HP : Nat → Prop) (x y z MX MN lt2 lw lb : Nat) (w : World) (hMX : fmax (fmax x y) z = MX) (hMN : fmin (fmin x y) z = MN)
    (h7 : floatBits .add .f64 (Fl.fneg MX) 4607182418800017408 = some lt2) (hw : floatBits .mul .f64 MN 4636737291354636288 = some lw) (hb : floatBits .mul .f64 lt2 4636737291354636288 = some lb)
    (K : ∀ w, Calls Try.prog 31 #[.agg #[.float .f64 x], .agg #[.float .f64 y], .agg #[.float .f64 z]] w fun e w' => (∃ h s l, e = .returned (.tuple #[.agg #[.float .f64 h], .agg #[.float .f64 s], .agg #[.float .f64 l]]) ∧ HP h) ∧ Below w.heap.size w w') :
    Calls Try.prog 24 #[.agg #[.float .f64 x], .agg #[.float .f64 y], .agg #[.float .f64 z]] w fun e w' => (∃ h, HP h ∧ e = .returned (.tuple #[.agg #[.float .f64 h], .agg #[.float .f64 lw], .agg #[.float .f64 lb]])) ∧ Below w.heap.size w w' := by
  have K0 := Lib.hid K
  have K1 := Lib.hid (fun w => max33 x y z w)
  rw [hMX] at K1
  have K2 := Lib.hid (fun w => min32 x y z w)
  rw [hMN] at K2
  have K3 := Lib.hid (fun w => fnegc MX w)
  have K4 := Lib.hid (fun w => faddc (Fl.fneg MX) _ lt2 w h7)
  have K5 := fun w => fmulc MN _ lw w hw
  have K6 := fun w => fmulc lt2 _ lb w hb
  clear K hMX hMN h7 hw hb
  have hsz : ∀ (w : World) o, (w.alloc o).heap.size = w.heap.size + 1 := fun w o => by simp
  go_enter Try.func24, Try.ntmps24
  go_wp2_with fail
  have E1 := ((((((Ev.start w).new x 56).new y 56).new z 56).new 0 56).new 0 56).new 0 56
  simp only [hsz] at E1
  refine (K0.out _).mono ?_
  rintro e w1 ⟨⟨h, s, l, rfl, hh⟩, hb1⟩
  replace E1 := E1.call hb1
  clear hb1
  go_upto_region 2 with fail
  have E2 := ((E1.new h 56).new s 56).new l 56
  simp only [hsz] at E2
  clear E1
  generalize w1.heap.size = b9 at *
  generalize ((w1.alloc (.cells #[.float .f64 h] 56)).alloc (.cells #[.float .f64 s] 56)).alloc (.cells #[.float .f64 l] 56) = w2 at *
  have q3 := E2.cell (b := w.heap.size) (v := x) (by simp)
  have q4 := E2.cell (b := w.heap.size + 1) (v := y) (by simp)
  have q5 := E2.cell (b := w.heap.size + 1 + 1) (v := z) (by simp)
  go_wp2_with fail
  refine (K2.out _).mono ?_
  rintro e w3 ⟨rfl, hb2⟩
  replace E2 := E2.call hb2
  clear hb2 q3 q4 q5
  go_upto_region 3 with fail
  have E3 := E2.new MN 56
  clear E2
  generalize w3.heap.size = b12 at *
  generalize w3.alloc (.cells #[.float .f64 MN] 56) = w4 at *
  have q3 := E3.cell (b := w.heap.size) (v := x) (by simp)
  have q4 := E3.cell (b := w.heap.size + 1) (v := y) (by simp)
  have q5 := E3.cell (b := w.heap.size + 1 + 1) (v := z) (by simp)
  go_wp2_with fail
  refine (K1.out _).mono ?_
  rintro e w5 ⟨rfl, hb3⟩
  replace E3 := E3.call hb3
  clear hb3 q3 q4 q5
  go_wp2_with fail
  refine (K3.out _).mono ?_
  rintro e w6 ⟨rfl, hb4⟩
  replace E3 := E3.call hb4
  clear hb4
  go_wp2_with fail
  refine (K4.out _).mono ?_
  rintro e w7 ⟨rfl, hb5⟩
  replace E3 := E3.call hb5
  clear hb5
  go_upto_region 4 with fail
  have E4 := E3.new lt2 56
  clear E3
  obtain ⟨N3, hN3⟩ : ∃ n, n = w.heap.size + 1 + 1 + 1 := ⟨_, rfl⟩
  rw [← hN3] at E4
  rw [← hN3]
  clear hN3
  generalize w7.heap.size = b13 at *
  generalize w7.alloc (.cells #[.float .f64 lt2] 56) = w8 at *
  have E6 : Ev w w8 [(N3, 0), (N3 + 1, 0), (N3 + 1 + 1, 0), (b9, h), (b12, MN), (b13, lt2)] := by
    refine ⟨E4.below, fun p hp => E4.c p ?_, ?_⟩
    · simp only [List.mem_cons, List.not_mem_nil, or_false] at hp ⊢
      rcases hp with rfl | rfl | rfl | rfl | rfl | rfl <;> simp
    · have h1 := E4.nd
      simp only [List.pairwise_cons, List.mem_cons, List.not_mem_nil, or_false, forall_eq_or_imp, forall_eq] at h1 ⊢
      simp only [List.Pairwise.nil, and_true] at h1 ⊢
      simp only [ne_eq] at h1 ⊢
      simp
      omega
  obtain ⟨L, hL⟩ : ∃ L, L = [(b9, h), (b12, MN), (b13, lt2)] := ⟨_, rfl⟩
  have m9 : (b9, h) ∈ L := by rw [hL]; simp
  have m12 : (b12, MN) ∈ L := by rw [hL]; simp
  have m13 : (b13, lt2) ∈ L := by rw [hL]; simp
  rw [← hL] at E6
  clear hL E4
  refine wp_region_inv' (fun A0 listed act_ w' => ∃ l0 l1 l2 l3 l4 l5 l6 l7 : Bool, ∃ u32 u33 u34 u35 u36 : Value, listed = #[l0, l1, l2, l3, l4, l5, l6, l7] ∧ act_ = (((((A0.put (some 32) u32).put (some 33) u33).put (some 34) u34).put (some 35) u35).put (some 36) u36) ∧ Ev w w' ((N3, cond l5 h 0) :: (((N3 + 1), cond l6 lw 0) :: (((N3 + 1 + 1), cond l7 lb 0) :: L))) ∧ (l0 = true → u32 = .agg #[.float .f64 h]) ∧ (l1 = true → u33 = .agg #[.float .f64 MN]) ∧ (l2 = true → u34 = .agg #[.float .f64 lw]) ∧ (l3 = true → u35 = .agg #[.float .f64 lt2]) ∧ (l4 = true → u36 = .agg #[.float .f64 lb])) (by kernel_rfl) (by kernel_rfl) ?h0_1 ?hstep_1 ?hend_1
  case h0_1 =>
    simp only [Act.put, List.setIfInBounds_toArray, List.set_cons_zero, List.set_cons_succ]
    refine ⟨false, false, false, false, false, false, false, false, _, _, _, _, _, rfl, rfl, E6.drew, ?_⟩
    simp
  case hend_1 =>
    intro listed act_ w' hs hall hI
    simp only [Act.put, List.setIfInBounds_toArray, List.set_cons_zero, List.set_cons_succ] at hI
    obtain ⟨l0, l1, l2, l3, l4, l5, l6, l7, u32, u33, u34, u35, u36, rfl, rfl, EE, h32, h33, h34, h35, h36⟩ := hI
    have t0 := hall 0 (by simp)
    have t1 := hall 1 (by simp)
    have t2 := hall 2 (by simp)
    have t3 := hall 3 (by simp)
    have t4 := hall 4 (by simp)
    have t5 := hall 5 (by simp)
    have t6 := hall 6 (by simp)
    have t7 := hall 7 (by simp)
    simp at t0 t1 t2 t3 t4 t5 t6 t7
    obtain rfl := h32 t0
    obtain rfl := h33 t1
    obtain rfl := h34 t2
    obtain rfl := h35 t3
    obtain rfl := h36 t4
    obtain rfl := t5
    obtain rfl := t6
    obtain rfl := t7
    clear hall
    go_wp2_with fail
    have r6 := EE.cell (b := N3) (v := h) (by simp)
    have r7 := EE.cell (b := N3 + 1) (v := lw) (by simp)
    have r8 := EE.cell (b := N3 + 1 + 1) (v := lb) (by simp)
    exact bodyPost_ret (v := .tuple #[.agg #[.float .f64 h], .agg #[.float .f64 lw], .agg #[.float .f64 lb]]) (by simp [results, Try.results24, go_sem, r6, r7, r8]) rfl ⟨⟨h, hh, rfl⟩, EE.below⟩
  case hstep_1 =>
    intro listed act_ w' i hs hi hI
    simp only [Act.put, List.setIfInBounds_toArray, List.set_cons_zero, List.set_cons_succ] at hI ⊢
    obtain ⟨l0, l1, l2, l3, l4, l5, l6, l7, u32, u33, u34, u35, u36, rfl, rfl, EE, h32, h33, h34, h35, h36⟩ := hI
    obtain ⟨hf, o, ho, hdep⟩ := mem_ready.1 hi
    have hin : i = 0 ∨ i = 1 ∨ i = 2 ∨ i = 3 ∨ i = 4 ∨ i = 5 ∨ i = 6 ∨ i = 7 := by
      rcases Nat.lt_or_ge i 8 with h | h
      · omega
      · rw [Array.getElem?_eq_none h] at ho
        cases ho
    have EH := Lib.hid EE
    clear EE  hi hs
    rcases hin with rfl | rfl | rfl | rfl | rfl | rfl | rfl | rfl
    all_goals
      have ho2 := ho
      simp only [List.getElem?_toArray, List.getElem?_cons_zero, List.getElem?_cons_succ, Option.some.injEq] at ho2
      subst ho2
      simp [Region.binds] at hdep hf
      subst hf
      refine wpOp_step ho (fun K hK => ?_)
      replace hK := Lib.hid hK
      clear ho
    · have hq_ := EH.out.cell (b := b9) (v := h) (by simp [m9])
      go_simp
      refine hK.out _ _ ?_
      exact ⟨_, _, _, _, _, _, _, _, _, _, _, _, _, rfl, rfl, EH.out, by first | exact h32 | exact fun _ => rfl, by first | exact h33 | exact fun _ => rfl, by first | exact h34 | exact fun _ => rfl, by first | exact h35 | exact fun _ => rfl, by first | exact h36 | exact fun _ => rfl⟩
    · have hq_ := EH.out.cell (b := b12) (v := MN) (by simp [m12])
      go_simp
      refine hK.out _ _ ?_
      exact ⟨_, _, _, _, _, _, _, _, _, _, _, _, _, rfl, rfl, EH.out, by first | exact h32 | exact fun _ => rfl, by first | exact h33 | exact fun _ => rfl, by first | exact h34 | exact fun _ => rfl, by first | exact h35 | exact fun _ => rfl, by first | exact h36 | exact fun _ => rfl⟩
    · obtain rfl := h33 (by simp [hdep])
      go_simp
      go_at_call 36
      refine (K5 _).mono ?_
      rintro e w1 ⟨rfl, hb⟩
      refine hK.out _ _ ?_
      exact ⟨_, _, _, _, _, _, _, _, _, _, _, _, _, rfl, rfl, EH.out.call hb, by first | exact h32 | exact fun _ => rfl, by first | exact h33 | exact fun _ => rfl, by first | exact h34 | exact fun _ => rfl, by first | exact h35 | exact fun _ => rfl, by first | exact h36 | exact fun _ => rfl⟩
    · have hq_ := EH.out.cell (b := b13) (v := lt2) (by simp [m13])
      go_simp
      refine hK.out _ _ ?_
      exact ⟨_, _, _, _, _, _, _, _, _, _, _, _, _, rfl, rfl, EH.out, by first | exact h32 | exact fun _ => rfl, by first | exact h33 | exact fun _ => rfl, by first | exact h34 | exact fun _ => rfl, by first | exact h35 | exact fun _ => rfl, by first | exact h36 | exact fun _ => rfl⟩
    · obtain rfl := h35 (by simp [hdep])
      go_simp
      go_at_call 36
      refine (K6 _).mono ?_
      rintro e w1 ⟨rfl, hb⟩
      refine hK.out _ _ ?_
      exact ⟨_, _, _, _, _, _, _, _, _, _, _, _, _, rfl, rfl, EH.out.call hb, by first | exact h32 | exact fun _ => rfl, by first | exact h33 | exact fun _ => rfl, by first | exact h34 | exact fun _ => rfl, by first | exact h35 | exact fun _ => rfl, by first | exact h36 | exact fun _ => rfl⟩
    · obtain rfl := h32 (by simp [hdep])
      have hq_ := EH.out.cell (b := N3) (v := 0) (by simp)
      have hz_ := EH.out.frz (b := N3) (v := 0) (by simp)
      go_simp
      refine hK.out _ _ ?_
      exact ⟨_, _, _, _, _, _, _, _, _, _, _, _, _, rfl, rfl, ((EH.out.perm (List.Perm.refl _)).set h).perm (List.Perm.refl _).symm, by first | exact h32 | exact fun _ => rfl, by first | exact h33 | exact fun _ => rfl, by first | exact h34 | exact fun _ => rfl, by first | exact h35 | exact fun _ => rfl, by first | exact h36 | exact fun _ => rfl⟩
    · obtain rfl := h34 (by simp [hdep])
      have hq_ := EH.out.cell (b := (N3 + 1)) (v := 0) (by simp)
      have hz_ := EH.out.frz (b := (N3 + 1)) (v := 0) (by simp)
      go_simp
      refine hK.out _ _ ?_
      exact ⟨_, _, _, _, _, _, _, _, _, _, _, _, _, rfl, rfl, ((EH.out.perm (List.Perm.swap _ _ _)).set lw).perm (List.Perm.swap _ _ _).symm, by first | exact h32 | exact fun _ => rfl, by first | exact h33 | exact fun _ => rfl, by first | exact h34 | exact fun _ => rfl, by first | exact h35 | exact fun _ => rfl, by first | exact h36 | exact fun _ => rfl⟩
    · obtain rfl := h36 (by simp [hdep])
      have hq_ := EH.out.cell (b := (N3 + 1 + 1)) (v := 0) (by simp)
      have hz_ := EH.out.frz (b := (N3 + 1 + 1)) (v := 0) (by simp)
      go_simp
      refine hK.out _ _ ?_
      exact ⟨_, _, _, _, _, _, _, _, _, _, _, _, _, rfl, rfl, ((EH.out.perm (((List.Perm.swap _ _ _).cons _).trans (List.Perm.swap _ _ _))).set lb).perm (((List.Perm.swap _ _ _).cons _).trans (List.Perm.swap _ _ _)).symm, by first | exact h32 | exact fun _ => rfl, by first | exact h33 | exact fun _ => rfl, by first | exact h34 | exact fun _ => rfl, by first | exact h35 | exact fun _ => rfl, by first | exact h36 | exact fun _ => rfl⟩

set_option maxRecDepth 20000 in
set_option maxHeartbeats 4000000 in
theorem zzhwb9 (HP : Nat → Prop) (x y z lw lb : Nat) (w : World)
    (K : ∀ w, Calls Try.prog 24 #[.agg #[.float .f64 x], .agg #[.float .f64 y], .agg #[.float .f64 z]] w fun e w' => (∃ h, HP h ∧ e = .returned (.tuple #[.agg #[.float .f64 h], .agg #[.float .f64 lw], .agg #[.float .f64 lb]])) ∧ Below w.heap.size w w') :
    Calls Try.prog 9 #[.float .f64 x, .float .f64 y, .float .f64 z] w fun e w' => (∃ h, HP h ∧ e = .returned (.tuple #[.float .f64 h, .float .f64 lw, .float .f64 lb])) ∧ Below w.heap.size w w' := by
  have K0 := Lib.hid K
  clear K
  have hsz : ∀ (w : World) o, (w.alloc o).heap.size = w.heap.size + 1 := fun w o => by simp
  go_enter Try.func9, Try.ntmps9
  go_wp2_with (go_at_call 25; refine (fnew _ _).mono ?_; rintro e w1 ⟨rfl, rfl⟩)
  have E0 := (((Ev.start w).grow (.cells #[.float .f64 x] 56)).grow (.cells #[.float .f64 y] 56)).grow (.cells #[.float .f64 z] 56)
  refine (K0.out _).mono ?_
  rintro e w1 ⟨⟨h, hh, rfl⟩, hb1⟩
  have E1 := ((E0.call hb1).new h 56).new lw 56 |>.new lb 56
  simp only [hsz] at E1
  clear hb1 E0
  go_upto_region 2 with fail
  obtain ⟨L, hL⟩ : ∃ L, L = [(w1.heap.size + 1 + 1, lb), (w1.heap.size + 1, lw), (w1.heap.size, h)] := ⟨_, rfl⟩
  obtain ⟨b9, hb9⟩ : ∃ n, n = w1.heap.size := ⟨_, rfl⟩
  rw [← hb9] at hL
  have m9 : (b9, h) ∈ L := by rw [hL]; simp
  have m10 : (b9 + 1, lw) ∈ L := by rw [hL]; simp
  have m11 : (b9 + 1 + 1, lb) ∈ L := by rw [hL]; simp
  rw [← hb9, ← hL] at E1
  rw [← hb9]
  clear hL hb9
  refine wp_region_inv' (fun A0 listed act_ w' => ∃ l0 l1 l2 l3 l4 l5 l6 l7 l8 : Bool, ∃ u6 u7 u8 u23 u24 u25 u26 u27 u28 : Value, listed = #[l0, l1, l2, l3, l4, l5, l6, l7, l8] ∧ act_ = (((((((((A0.put (some 6) u6).put (some 7) u7).put (some 8) u8).put (some 23) u23).put (some 24) u24).put (some 25) u25).put (some 26) u26).put (some 27) u27).put (some 28) u28) ∧ Ev w w' L ∧ (l0 = true → u23 = .agg #[.float .f64 h]) ∧ (l1 = true → u24 = .float .f64 h) ∧ (l2 = true → u25 = .agg #[.float .f64 lw]) ∧ (l3 = true → u26 = .float .f64 lw) ∧ (l4 = true → u27 = .agg #[.float .f64 lb]) ∧ (l5 = true → u28 = .float .f64 lb) ∧ (l6 = true → u6 = .float .f64 h) ∧ (l7 = true → u7 = .float .f64 lw) ∧ (l8 = true → u8 = .float .f64 lb)) (by kernel_rfl) (by kernel_rfl) ?h0_2 ?hstep_2 ?hend_2
  case h0_2 =>
    simp only [Act.put, List.setIfInBounds_toArray, List.set_cons_zero, List.set_cons_succ]
    refine ⟨false, false, false, false, false, false, false, false, false, _, _, _, _, _, _, _, _, _, rfl, rfl, E1.drew, ?_⟩
    simp
  case hend_2 =>
    intro listed act_ w' hs hall hI
    simp only [Act.put, List.setIfInBounds_toArray, List.set_cons_zero, List.set_cons_succ] at hI
    obtain ⟨l0, l1, l2, l3, l4, l5, l6, l7, l8, u6, u7, u8, u23, u24, u25, u26, u27, u28, rfl, rfl, EE, h23, h24, h25, h26, h27, h28, h6, h7, h8⟩ := hI
    have t0 := hall 0 (by simp)
    have t1 := hall 1 (by simp)
    have t2 := hall 2 (by simp)
    have t3 := hall 3 (by simp)
    have t4 := hall 4 (by simp)
    have t5 := hall 5 (by simp)
    have t6 := hall 6 (by simp)
    have t7 := hall 7 (by simp)
    have t8 := hall 8 (by simp)
    simp at t0 t1 t2 t3 t4 t5 t6 t7 t8
    obtain rfl := h23 t0
    obtain rfl := h24 t1
    obtain rfl := h25 t2
    obtain rfl := h26 t3
    obtain rfl := h27 t4
    obtain rfl := h28 t5
    obtain rfl := h6 t6
    obtain rfl := h7 t7
    obtain rfl := h8 t8
    clear hall
    go_wp2_with fail
    go_ret3
    exact ⟨⟨h, hh, rfl⟩, EE.below⟩
  case hstep_2 =>
    intro listed act_ w' i hs hi hI
    simp only [Act.put, List.setIfInBounds_toArray, List.set_cons_zero, List.set_cons_succ] at hI ⊢
    obtain ⟨l0, l1, l2, l3, l4, l5, l6, l7, l8, u6, u7, u8, u23, u24, u25, u26, u27, u28, rfl, rfl, EE, h23, h24, h25, h26, h27, h28, h6, h7, h8⟩ := hI
    obtain ⟨hf, o, ho, hdep⟩ := mem_ready.1 hi
    have hin : i = 0 ∨ i = 1 ∨ i = 2 ∨ i = 3 ∨ i = 4 ∨ i = 5 ∨ i = 6 ∨ i = 7 ∨ i = 8 := by
      rcases Nat.lt_or_ge i 9 with h | h
      · omega
      · rw [Array.getElem?_eq_none h] at ho
        cases ho
    have EH := Lib.hid EE
    clear EE  hi hs
    rcases hin with rfl | rfl | rfl | rfl | rfl | rfl | rfl | rfl | rfl
    all_goals
      have ho2 := ho
      simp only [List.getElem?_toArray, List.getElem?_cons_zero, List.getElem?_cons_succ, Option.some.injEq] at ho2
      subst ho2
      simp [Region.binds] at hdep hf
      subst hf
      refine wpOp_step ho (fun K hK => ?_)
      replace hK := Lib.hid hK
      clear ho
    · have hq_ := EH.out.cell (b := b9) (v := h) (by simp [m9])
      go_simp
      refine hK.out _ _ ?_
      exact ⟨_, _, _, _, _, _, _, _, _, _, _, _, _, _, _, _, _, _, rfl, rfl, EH.out, by first | exact h23 | exact fun _ => rfl, by first | exact h24 | exact fun _ => rfl, by first | exact h25 | exact fun _ => rfl, by first | exact h26 | exact fun _ => rfl, by first | exact h27 | exact fun _ => rfl, by first | exact h28 | exact fun _ => rfl, by first | exact h6 | exact fun _ => rfl, by first | exact h7 | exact fun _ => rfl, by first | exact h8 | exact fun _ => rfl⟩
    · obtain rfl := h23 (by simp [hdep])
      go_simp
      go_at_call 26
      refine (fvalueB _ _).mono ?_
      rintro e w1 ⟨rfl, hb⟩
      refine hK.out _ _ ?_
      exact ⟨_, _, _, _, _, _, _, _, _, _, _, _, _, _, _, _, _, _, rfl, rfl, EH.out.call hb, by first | exact h23 | exact fun _ => rfl, by first | exact h24 | exact fun _ => rfl, by first | exact h25 | exact fun _ => rfl, by first | exact h26 | exact fun _ => rfl, by first | exact h27 | exact fun _ => rfl, by first | exact h28 | exact fun _ => rfl, by first | exact h6 | exact fun _ => rfl, by first | exact h7 | exact fun _ => rfl, by first | exact h8 | exact fun _ => rfl⟩
    · have hq_ := EH.out.cell (b := (b9 + 1)) (v := lw) (by simp [m10])
      go_simp
      refine hK.out _ _ ?_
      exact ⟨_, _, _, _, _, _, _, _, _, _, _, _, _, _, _, _, _, _, rfl, rfl, EH.out, by first | exact h23 | exact fun _ => rfl, by first | exact h24 | exact fun _ => rfl, by first | exact h25 | exact fun _ => rfl, by first | exact h26 | exact fun _ => rfl, by first | exact h27 | exact fun _ => rfl, by first | exact h28 | exact fun _ => rfl, by first | exact h6 | exact fun _ => rfl, by first | exact h7 | exact fun _ => rfl, by first | exact h8 | exact fun _ => rfl⟩
    · obtain rfl := h25 (by simp [hdep])
      go_simp
      go_at_call 26
      refine (fvalueB _ _).mono ?_
      rintro e w1 ⟨rfl, hb⟩
      refine hK.out _ _ ?_
      exact ⟨_, _, _, _, _, _, _, _, _, _, _, _, _, _, _, _, _, _, rfl, rfl, EH.out.call hb, by first | exact h23 | exact fun _ => rfl, by first | exact h24 | exact fun _ => rfl, by first | exact h25 | exact fun _ => rfl, by first | exact h26 | exact fun _ => rfl, by first | exact h27 | exact fun _ => rfl, by first | exact h28 | exact fun _ => rfl, by first | exact h6 | exact fun _ => rfl, by first | exact h7 | exact fun _ => rfl, by first | exact h8 | exact fun _ => rfl⟩
    · have hq_ := EH.out.cell (b := (b9 + 1 + 1)) (v := lb) (by simp [m11])
      go_simp
      refine hK.out _ _ ?_
      exact ⟨_, _, _, _, _, _, _, _, _, _, _, _, _, _, _, _, _, _, rfl, rfl, EH.out, by first | exact h23 | exact fun _ => rfl, by first | exact h24 | exact fun _ => rfl, by first | exact h25 | exact fun _ => rfl, by first | exact h26 | exact fun _ => rfl, by first | exact h27 | exact fun _ => rfl, by first | exact h28 | exact fun _ => rfl, by first | exact h6 | exact fun _ => rfl, by first | exact h7 | exact fun _ => rfl, by first | exact h8 | exact fun _ => rfl⟩
    · obtain rfl := h27 (by simp [hdep])
      go_simp
      go_at_call 26
      refine (fvalueB _ _).mono ?_
      rintro e w1 ⟨rfl, hb⟩
      refine hK.out _ _ ?_
      exact ⟨_, _, _, _, _, _, _, _, _, _, _, _, _, _, _, _, _, _, rfl, rfl, EH.out.call hb, by first | exact h23 | exact fun _ => rfl, by first | exact h24 | exact fun _ => rfl, by first | exact h25 | exact fun _ => rfl, by first | exact h26 | exact fun _ => rfl, by first | exact h27 | exact fun _ => rfl, by first | exact h28 | exact fun _ => rfl, by first | exact h6 | exact fun _ => rfl, by first | exact h7 | exact fun _ => rfl, by first | exact h8 | exact fun _ => rfl⟩
    · obtain rfl := h24 (by simp [hdep])
      go_simp
      refine hK.out _ _ ?_
      exact ⟨_, _, _, _, _, _, _, _, _, _, _, _, _, _, _, _, _, _, rfl, rfl, EH.out, by first | exact h23 | exact fun _ => rfl, by first | exact h24 | exact fun _ => rfl, by first | exact h25 | exact fun _ => rfl, by first | exact h26 | exact fun _ => rfl, by first | exact h27 | exact fun _ => rfl, by first | exact h28 | exact fun _ => rfl, by first | exact h6 | exact fun _ => rfl, by first | exact h7 | exact fun _ => rfl, by first | exact h8 | exact fun _ => rfl⟩
    · obtain rfl := h26 (by simp [hdep])
      go_simp
      refine hK.out _ _ ?_
      exact ⟨_, _, _, _, _, _, _, _, _, _, _, _, _, _, _, _, _, _, rfl, rfl, EH.out, by first | exact h23 | exact fun _ => rfl, by first | exact h24 | exact fun _ => rfl, by first | exact h25 | exact fun _ => rfl, by first | exact h26 | exact fun _ => rfl, by first | exact h27 | exact fun _ => rfl, by first | exact h28 | exact fun _ => rfl, by first | exact h6 | exact fun _ => rfl, by first | exact h7 | exact fun _ => rfl, by first | exact h8 | exact fun _ => rfl⟩
    · obtain rfl := h28 (by simp [hdep])
      go_simp
      refine hK.out _ _ ?_
      exact ⟨_, _, _, _, _, _, _, _, _, _, _, _, _, _, _, _, _, _, rfl, rfl, EH.out, by first | exact h23 | exact fun _ => rfl, by first | exact h24 | exact fun _ => rfl, by first | exact h25 | exact fun _ => rfl, by first | exact h26 | exact fun _ => rfl, by first | exact h27 | exact fun _ => rfl, by first | exact h28 | exact fun _ => rfl, by first | exact h6 | exact fun _ => rfl, by first | exact h7 | exact fun _ => rfl, by first | exact h8 | exact fun _ => rfl⟩
end Go.Proofs.Ytecdhjhobjagkaa
