/-
  The contract of rgb_to_hsl. Condition: the operations have answers.
-/
import Derived.Test.YtecdhjhobjagkaaFd
import Derived.Test.YtecdhjhobjagkaaFg
import Derived.Deep.DeepCutAuto
namespace Go.Proofs.Ytecdhjhobjagkaa
open Go.ChangeShapes Go.WideShapes Go.ChangeAt Go.RowKit
attribute [local go_sem] run_store_float unary_neg_float

set_option maxRecDepth 20000 in
set_option maxHeartbeats 40000000 in
theorem hsl31 (HP : Nat → Prop) (x y z MX MN s1 li d lt2 dv s3 lt5 : Nat) (w : World) (hMX : fmax (fmax x y) z = MX) (hMN : fmin (fmin x y) z = MN) (h1 : floatBits .add .f64 MN MX = some s1) (h2 : floatBits .quo .f64 s1 4611686018427387904 = some li)
    (h5 : floatBits .sub .f64 MX MN = some d) (h7 : floatBits .add .f64 (Fl.fneg li) 4607182418800017408 = some lt2) (hdv : fmin li lt2 = dv) (h9 : floatBits .sub .f64 MX li = some s3)
    (h10 : (FloatKind.f64.format.order dv 0 == some .eq) = false → ∃ s4 s5, floatBits .quo .f64 s3 dv = some s4 ∧ floatBits .mul .f64 s4 4636737291354636288 = some s5)
    (h0 : floatBits .mul .f64 0 4636737291354636288 = some 0) (hL : floatBits .mul .f64 li 4636737291354636288 = some lt5)
    (hN : (FloatKind.f64.format.order d 0 == some .eq) = true → HP 9221120237041090561)
    (hA : (FloatKind.f64.format.order d 0 == some .eq) = false → (FloatKind.f64.format.order MX x == some .eq) = true → (FloatKind.f64.format.order y z == some .lt) = true → ∃ a q p h, floatBits .sub .f64 y z = some a ∧ floatBits .quo .f64 a d = some q ∧ floatBits .add .f64 q 4618441417868443648 = some p ∧ floatBits .mul .f64 p 4633641066610819072 = some h ∧ HP h)
    (hA' : (FloatKind.f64.format.order d 0 == some .eq) = false → (FloatKind.f64.format.order MX x == some .eq) = true → (FloatKind.f64.format.order y z == some .lt) = false → ∃ a q h, floatBits .sub .f64 y z = some a ∧ floatBits .quo .f64 a d = some q ∧ floatBits .mul .f64 q 4633641066610819072 = some h ∧ HP h)
    (hB : (FloatKind.f64.format.order d 0 == some .eq) = false → (FloatKind.f64.format.order MX x == some .eq) = false → (FloatKind.f64.format.order MX y == some .eq) = true → ∃ a q p h, floatBits .sub .f64 z x = some a ∧ floatBits .quo .f64 a d = some q ∧ floatBits .add .f64 q 4611686018427387904 = some p ∧ floatBits .mul .f64 p 4633641066610819072 = some h ∧ HP h)
    (hC : (FloatKind.f64.format.order d 0 == some .eq) = false → (FloatKind.f64.format.order MX x == some .eq) = false → (FloatKind.f64.format.order MX y == some .eq) = false → (FloatKind.f64.format.order MX z == some .eq) = true ∧ ∃ a q p h, floatBits .sub .f64 x y = some a ∧ floatBits .quo .f64 a d = some q ∧ floatBits .add .f64 q 4616189618054758400 = some p ∧ floatBits .mul .f64 p 4633641066610819072 = some h ∧ HP h) :
    Calls Try.prog 31 #[.agg #[.float .f64 x], .agg #[.float .f64 y], .agg #[.float .f64 z]] w fun e w' => (∃ h s l, e = .returned (.tuple #[.agg #[.float .f64 h], .agg #[.float .f64 s], .agg #[.float .f64 l]]) ∧ HP h) ∧ Below w.heap.size w w' := by
  have K1 := Lib.hid (fun w => max33 x y z w)
  rw [hMX] at K1
  have K2 := Lib.hid (fun w => min32 x y z w)
  rw [hMN] at K2
  have K3 := fun w => faddb MN MX s1 w h1
  have K4 := fun w => fdivc s1 _ li w h2
  have K5 := Lib.hid (fun w => fsubb MX MN d w h5)
  have K6 := fun w => fnegc li w
  have K7 := fun w => faddc (Fl.fneg li) _ lt2 w h7
  have K8 := fun w => min44 li lt2 w
  rw [hdv] at K8
  have K9 := fun w => fsubb MX li s3 w h9
  have KL := fun w => fmulc li _ lt5 w hL
  have K0 := fun w => fmulc 0 _ 0 w h0
  have H10 := Lib.hid h10
  have HN := Lib.hid hN
  have HA := Lib.hid hA
  have HA' := Lib.hid hA'
  have HB := Lib.hid hB
  have HC := Lib.hid hC
  clear hMX hMN h1 h2 h5 h7 hdv h9 h10 hN hA hA' hB hC hL h0
  have hsz : ∀ (w : World) o, (w.alloc o).heap.size = w.heap.size + 1 := fun w o => by simp
  go_enter Try.func31, Try.ntmps31
  go_wp2_with fail
  have E1 := ((((((Ev.start w).new x 56).new y 56).new z 56).new 0 56).new 0 56).new 0 56
  refine (K1.out _).mono ?_
  rintro e w1 ⟨rfl, hb1⟩
  replace E1 := E1.call hb1
  clear hb1
  simp only [hsz] at E1
  have q3 := E1.cell (b := w.heap.size) (v := x) (by simp)
  have q4 := E1.cell (b := w.heap.size + 1) (v := y) (by simp)
  have q5 := E1.cell (b := w.heap.size + 1 + 1) (v := z) (by simp)
  have l5 := E1.lt (b := w.heap.size + 1 + 1) (v := z) (by simp)
  have l3 : w.heap.size < w1.heap.size := by omega
  have l4 : w.heap.size + 1 < w1.heap.size := by omega
  go_wp2_with fail
  refine (K2.out _).mono ?_
  rintro e w2 ⟨rfl, hb2⟩
  have E2 := (E1.new MX 56).call hb2
  clear hb2 E1 q3 q4 q5 l3 l4 l5
  go_upto_region 3 with fail
  have E3 := (E2.new MN 56)
  generalize hA : w.heap.size + 1 = N1 at *
  generalize hB : N1 + 1 = N2 at *
  generalize hC : N2 + 1 = N3 at *
  generalize hD : N3 + 1 = N4 at *
  generalize hE : N4 + 1 = N5 at *
  clear hA hB hC hD hE
  generalize w1.heap.size = b9 at *
  generalize w2.heap.size = b10 at *
  generalize w2.alloc (.cells #[.float .f64 MN] 56) = w3 at *
  clear E2
  obtain ⟨L, hL⟩ : ∃ L, L = [(b10, MN), (b9, MX), (N5, 0), (N4, 0), (N3, 0), (N2, z), (N1, y), (w.heap.size, x)] := ⟨_, rfl⟩
  have m9 : (b9, MX) ∈ L := by rw [hL]; simp
  have m10 : (b10, MN) ∈ L := by rw [hL]; simp
  rw [← hL] at E3
  go_cut [11, 12, 13] (fun s11 s12 s13 wx => ∃ b11 b12 b13, s11 = .pointer (some ⟨b11, 0, none⟩) ∧ s12 = .pointer (some ⟨b12, 0, none⟩) ∧ s13 = .pointer (some ⟨b13, 0, none⟩) ∧ Ev w wx ((b11, 9221120237041090561) :: (b12, 0) :: (b13, li) :: L))
  case first =>
    clear hL
    refine wp_region_inv' (fun A0 listed act_ w' => ∃ l0 l1 l2 l3 l4 l5 l6 l7 l8 l9 l10 l11 l12 : Bool, ∃ u11 u12 u13 u24 u25 u26 u27 u28 u29 u30 : Value, ∃ o11 o12 o13 : List (Nat × Nat), listed = #[l0, l1, l2, l3, l4, l5, l6, l7, l8, l9, l10, l11, l12] ∧ act_ = ((((((((((A0.put (some 11) u11).put (some 12) u12).put (some 13) u13).put (some 24) u24).put (some 25) u25).put (some 26) u26).put (some 27) u27).put (some 28) u28).put (some 29) u29).put (some 30) u30) ∧ Ev w w' (o11 ++ (o12 ++ (o13 ++ L))) ∧ Oc l7 l10 u11 o11 9221120237041090561 ∧ Oc l8 l11 u12 o12 0 ∧ Oc l9 l12 u13 o13 li ∧ (l0 = true → u24 = .float .f64 9221120237041090561) ∧ (l1 = true → u25 = .agg #[.float .f64 9221120237041090561]) ∧ (l2 = true → u26 = .agg #[.float .f64 0]) ∧ (l3 = true → u27 = .agg #[.float .f64 MN]) ∧ (l4 = true → u28 = .agg #[.float .f64 MX]) ∧ (l5 = true → u29 = .agg #[.float .f64 s1]) ∧ (l6 = true → u30 = .agg #[.float .f64 li])) (by kernel_rfl) (by kernel_rfl) ?h0_1 ?hstep_1 ?hend_1
    case h0_1 =>
      simp only [Act.put, List.setIfInBounds_toArray, List.set_cons_zero, List.set_cons_succ]
      refine ⟨false, false, false, false, false, false, false, false, false, false, false, false, false, _, _, _, _, _, _, _, _, _, _, [], [], [], rfl, rfl, E3.drew, ?_⟩
      simp [Oc]
    case hend_1 =>
      intro listed act_ w' hs hall hI
      simp only [Act.put, List.setIfInBounds_toArray, List.set_cons_zero, List.set_cons_succ] at hI
      obtain ⟨l0, l1, l2, l3, l4, l5, l6, l7, l8, l9, l10, l11, l12, u11, u12, u13, u24, u25, u26, u27, u28, u29, u30, o11, o12, o13, rfl, rfl, EE, O11, O12, O13, h24, h25, h26, h27, h28, h29, h30⟩ := hI
      have t0 := hall 0 (by simp)
      have t1 := hall 1 (by simp)
      have t2 := hall 2 (by simp)
      have t3 := hall 3 (by simp)
      have t4 := hall 4 (by simp)
      have t5 := hall 5 (by simp)
      have t6 := hall 6 (by simp)
      have t7 := hall 7 (by simp)
      have t8 := hall 8 (by simp)
      have t9 := hall 9 (by simp)
      have t10 := hall 10 (by simp)
      have t11 := hall 11 (by simp)
      have t12 := hall 12 (by simp)
      simp at t0 t1 t2 t3 t4 t5 t6 t7 t8 t9 t10 t11 t12
      obtain ⟨b11, v11, rfl, rfl, e11⟩ := O11.2.1 t7
      obtain rfl := e11 t10
      obtain ⟨b12, v12, rfl, rfl, e12⟩ := O12.2.1 t8
      obtain rfl := e12 t11
      obtain ⟨b13, v13, rfl, rfl, e13⟩ := O13.2.1 t9
      obtain rfl := e13 t12
      obtain rfl := h24 t0
      obtain rfl := h25 t1
      obtain rfl := h26 t2
      obtain rfl := h27 t3
      obtain rfl := h28 t4
      obtain rfl := h29 t5
      obtain rfl := h30 t6
      clear hall
      go_wp2_with fail
      go_meet
      exact ⟨_, _, _, rfl, rfl, rfl, EE⟩
    case hstep_1 =>
      intro listed act_ w' i hs hi hI
      simp only [Act.put, List.setIfInBounds_toArray, List.set_cons_zero, List.set_cons_succ] at hI ⊢
      obtain ⟨l0, l1, l2, l3, l4, l5, l6, l7, l8, l9, l10, l11, l12, u11, u12, u13, u24, u25, u26, u27, u28, u29, u30, o11, o12, o13, rfl, rfl, EE, O11, O12, O13, h24, h25, h26, h27, h28, h29, h30⟩ := hI
      obtain ⟨hf, o, ho, hdep⟩ := mem_ready.1 hi
      have hin : i = 0 ∨ i = 1 ∨ i = 2 ∨ i = 3 ∨ i = 4 ∨ i = 5 ∨ i = 6 ∨ i = 7 ∨ i = 8 ∨ i = 9 ∨ i = 10 ∨ i = 11 ∨ i = 12 := by
        rcases Nat.lt_or_ge i 13 with h | h
        · omega
        · rw [Array.getElem?_eq_none h] at ho
          cases ho
      have EH := Lib.hid EE
      have OH11 := Lib.hid O11
      have OH12 := Lib.hid O12
      have OH13 := Lib.hid O13
      clear EE O11 O12 O13 hi hs
      rcases hin with rfl | rfl | rfl | rfl | rfl | rfl | rfl | rfl | rfl | rfl | rfl | rfl | rfl
      all_goals
        have ho2 := ho
        simp only [List.getElem?_toArray, List.getElem?_cons_zero, List.getElem?_cons_succ, Option.some.injEq] at ho2
        subst ho2
        simp [Region.binds] at hdep hf
        subst hf
        refine wpOp_step ho (fun K hK => ?_)
        replace hK := Lib.hid hK
        clear ho
      · go_simp
        go_at_call 42
        refine (nan42 _).mono ?_
        rintro e w1 ⟨rfl, hb⟩
        obtain rfl := hb.symm
        refine hK.out _ _ ?_
        exact ⟨_, _, _, _, _, _, _, _, _, _, _, _, _, _, _, _, _, _, _, _, _, _, _, o11, o12, o13, rfl, rfl, EH.out, OH11.out, OH12.out, OH13.out, by first | exact h24 | exact fun _ => rfl, by first | exact h25 | exact fun _ => rfl, by first | exact h26 | exact fun _ => rfl, by first | exact h27 | exact fun _ => rfl, by first | exact h28 | exact fun _ => rfl, by first | exact h29 | exact fun _ => rfl, by first | exact h30 | exact fun _ => rfl⟩
      · obtain rfl := h24 (by simp [hdep])
        go_simp
        go_at_call 25
        refine (fnewB _ _).mono ?_
        rintro e w1 ⟨rfl, hb⟩
        refine hK.out _ _ ?_
        exact ⟨_, _, _, _, _, _, _, _, _, _, _, _, _, _, _, _, _, _, _, _, _, _, _, o11, o12, o13, rfl, rfl, EH.out.call hb, OH11.out, OH12.out, OH13.out, by first | exact h24 | exact fun _ => rfl, by first | exact h25 | exact fun _ => rfl, by first | exact h26 | exact fun _ => rfl, by first | exact h27 | exact fun _ => rfl, by first | exact h28 | exact fun _ => rfl, by first | exact h29 | exact fun _ => rfl, by first | exact h30 | exact fun _ => rfl⟩
      · go_simp
        go_at_call 25
        refine (fnewB _ _).mono ?_
        rintro e w1 ⟨rfl, hb⟩
        refine hK.out _ _ ?_
        exact ⟨_, _, _, _, _, _, _, _, _, _, _, _, _, _, _, _, _, _, _, _, _, _, _, o11, o12, o13, rfl, rfl, EH.out.call hb, OH11.out, OH12.out, OH13.out, by first | exact h24 | exact fun _ => rfl, by first | exact h25 | exact fun _ => rfl, by first | exact h26 | exact fun _ => rfl, by first | exact h27 | exact fun _ => rfl, by first | exact h28 | exact fun _ => rfl, by first | exact h29 | exact fun _ => rfl, by first | exact h30 | exact fun _ => rfl⟩
      · have hq_ := EH.out.cell (b := b10) (v := MN) (by simp [m10])
        go_simp
        refine hK.out _ _ ?_
        exact ⟨_, _, _, _, _, _, _, _, _, _, _, _, _, _, _, _, _, _, _, _, _, _, _, o11, o12, o13, rfl, rfl, EH.out, OH11.out, OH12.out, OH13.out, by first | exact h24 | exact fun _ => rfl, by first | exact h25 | exact fun _ => rfl, by first | exact h26 | exact fun _ => rfl, by first | exact h27 | exact fun _ => rfl, by first | exact h28 | exact fun _ => rfl, by first | exact h29 | exact fun _ => rfl, by first | exact h30 | exact fun _ => rfl⟩
      · have hq_ := EH.out.cell (b := b9) (v := MX) (by simp [m9])
        go_simp
        refine hK.out _ _ ?_
        exact ⟨_, _, _, _, _, _, _, _, _, _, _, _, _, _, _, _, _, _, _, _, _, _, _, o11, o12, o13, rfl, rfl, EH.out, OH11.out, OH12.out, OH13.out, by first | exact h24 | exact fun _ => rfl, by first | exact h25 | exact fun _ => rfl, by first | exact h26 | exact fun _ => rfl, by first | exact h27 | exact fun _ => rfl, by first | exact h28 | exact fun _ => rfl, by first | exact h29 | exact fun _ => rfl, by first | exact h30 | exact fun _ => rfl⟩
      · obtain rfl := h27 (by simp [hdep])
        obtain rfl := h28 (by simp [hdep])
        go_simp
        go_at_call 38
        refine (K3 _).mono ?_
        rintro e w1 ⟨rfl, hb⟩
        refine hK.out _ _ ?_
        exact ⟨_, _, _, _, _, _, _, _, _, _, _, _, _, _, _, _, _, _, _, _, _, _, _, o11, o12, o13, rfl, rfl, EH.out.call hb, OH11.out, OH12.out, OH13.out, by first | exact h24 | exact fun _ => rfl, by first | exact h25 | exact fun _ => rfl, by first | exact h26 | exact fun _ => rfl, by first | exact h27 | exact fun _ => rfl, by first | exact h28 | exact fun _ => rfl, by first | exact h29 | exact fun _ => rfl, by first | exact h30 | exact fun _ => rfl⟩
      · obtain rfl := h29 (by simp [hdep])
        go_simp
        go_at_call 37
        refine (K4 _).mono ?_
        rintro e w1 ⟨rfl, hb⟩
        refine hK.out _ _ ?_
        exact ⟨_, _, _, _, _, _, _, _, _, _, _, _, _, _, _, _, _, _, _, _, _, _, _, o11, o12, o13, rfl, rfl, EH.out.call hb, OH11.out, OH12.out, OH13.out, by first | exact h24 | exact fun _ => rfl, by first | exact h25 | exact fun _ => rfl, by first | exact h26 | exact fun _ => rfl, by first | exact h27 | exact fun _ => rfl, by first | exact h28 | exact fun _ => rfl, by first | exact h29 | exact fun _ => rfl, by first | exact h30 | exact fun _ => rfl⟩
      · obtain rfl := OH11.out.1 rfl
        go_simp
        refine hK.out _ _ ?_
        exact ⟨_, _, _, _, _, _, _, _, _, _, _, _, _, _, _, _, _, _, _, _, _, _, _, [(w'.heap.size, 0)], o12, o13, rfl, rfl, (EH.out.new 0 56).perm (List.Perm.refl _).symm, ⟨by simp, fun _ => ⟨_, _, rfl, rfl, fun h => by have := OH11.out.2.2 h; simp at this⟩, fun _ => rfl⟩, OH12.out, OH13.out, by first | exact h24 | exact fun _ => rfl, by first | exact h25 | exact fun _ => rfl, by first | exact h26 | exact fun _ => rfl, by first | exact h27 | exact fun _ => rfl, by first | exact h28 | exact fun _ => rfl, by first | exact h29 | exact fun _ => rfl, by first | exact h30 | exact fun _ => rfl⟩
      · obtain rfl := OH12.out.1 rfl
        go_simp
        refine hK.out _ _ ?_
        exact ⟨_, _, _, _, _, _, _, _, _, _, _, _, _, _, _, _, _, _, _, _, _, _, _, o11, [(w'.heap.size, 0)], o13, rfl, rfl, (EH.out.new 0 56).perm (((List.Perm.append_left _ (List.Perm.refl _)).trans List.perm_middle)).symm, OH11.out, ⟨by simp, fun _ => ⟨_, _, rfl, rfl, fun h => by have := OH12.out.2.2 h; simp at this⟩, fun _ => rfl⟩, OH13.out, by first | exact h24 | exact fun _ => rfl, by first | exact h25 | exact fun _ => rfl, by first | exact h26 | exact fun _ => rfl, by first | exact h27 | exact fun _ => rfl, by first | exact h28 | exact fun _ => rfl, by first | exact h29 | exact fun _ => rfl, by first | exact h30 | exact fun _ => rfl⟩
      · obtain rfl := OH13.out.1 rfl
        go_simp
        refine hK.out _ _ ?_
        exact ⟨_, _, _, _, _, _, _, _, _, _, _, _, _, _, _, _, _, _, _, _, _, _, _, o11, o12, [(w'.heap.size, 0)], rfl, rfl, (EH.out.new 0 56).perm (((List.Perm.append_left _ (((List.Perm.append_left _ (List.Perm.refl _)).trans List.perm_middle))).trans List.perm_middle)).symm, OH11.out, OH12.out, ⟨by simp, fun _ => ⟨_, _, rfl, rfl, fun h => by have := OH13.out.2.2 h; simp at this⟩, fun _ => rfl⟩, by first | exact h24 | exact fun _ => rfl, by first | exact h25 | exact fun _ => rfl, by first | exact h26 | exact fun _ => rfl, by first | exact h27 | exact fun _ => rfl, by first | exact h28 | exact fun _ => rfl, by first | exact h29 | exact fun _ => rfl, by first | exact h30 | exact fun _ => rfl⟩
      · obtain ⟨b, v, rfl, rfl, _⟩ := OH11.out.2.1 (by simp [hdep])
        obtain rfl := h25 (by simp [hdep])
        have hq_ := EH.out.cell (b := b) (v := v) (by simp)
        have hz_ := EH.out.frz (b := b) (v := v) (by simp)
        go_simp
        refine hK.out _ _ ?_
        exact ⟨_, _, _, _, _, _, _, _, _, _, _, _, _, _, _, _, _, _, _, _, _, _, _, [(b, 9221120237041090561)], o12, o13, rfl, rfl, ((EH.out.perm (List.Perm.refl _)).set 9221120237041090561).perm (List.Perm.refl _).symm, ⟨by simp [hdep], fun _ => ⟨_, _, rfl, rfl, fun _ => rfl⟩, fun _ => by simp [hdep]⟩, OH12.out, OH13.out, by first | exact h24 | exact fun _ => rfl, by first | exact h25 | exact fun _ => rfl, by first | exact h26 | exact fun _ => rfl, by first | exact h27 | exact fun _ => rfl, by first | exact h28 | exact fun _ => rfl, by first | exact h29 | exact fun _ => rfl, by first | exact h30 | exact fun _ => rfl⟩
      · obtain ⟨b, v, rfl, rfl, _⟩ := OH12.out.2.1 (by simp [hdep])
        obtain rfl := h26 (by simp [hdep])
        have hq_ := EH.out.cell (b := b) (v := v) (by simp)
        have hz_ := EH.out.frz (b := b) (v := v) (by simp)
        go_simp
        refine hK.out _ _ ?_
        exact ⟨_, _, _, _, _, _, _, _, _, _, _, _, _, _, _, _, _, _, _, _, _, _, _, o11, [(b, 0)], o13, rfl, rfl, ((EH.out.perm (((List.Perm.append_left _ (List.Perm.refl _)).trans List.perm_middle))).set 0).perm (((List.Perm.append_left _ (List.Perm.refl _)).trans List.perm_middle)).symm, OH11.out, ⟨by simp [hdep], fun _ => ⟨_, _, rfl, rfl, fun _ => rfl⟩, fun _ => by simp [hdep]⟩, OH13.out, by first | exact h24 | exact fun _ => rfl, by first | exact h25 | exact fun _ => rfl, by first | exact h26 | exact fun _ => rfl, by first | exact h27 | exact fun _ => rfl, by first | exact h28 | exact fun _ => rfl, by first | exact h29 | exact fun _ => rfl, by first | exact h30 | exact fun _ => rfl⟩
      · obtain ⟨b, v, rfl, rfl, _⟩ := OH13.out.2.1 (by simp [hdep])
        obtain rfl := h30 (by simp [hdep])
        have hq_ := EH.out.cell (b := b) (v := v) (by simp)
        have hz_ := EH.out.frz (b := b) (v := v) (by simp)
        go_simp
        refine hK.out _ _ ?_
        exact ⟨_, _, _, _, _, _, _, _, _, _, _, _, _, _, _, _, _, _, _, _, _, _, _, o11, o12, [(b, li)], rfl, rfl, ((EH.out.perm (((List.Perm.append_left _ (((List.Perm.append_left _ (List.Perm.refl _)).trans List.perm_middle))).trans List.perm_middle))).set li).perm (((List.Perm.append_left _ (((List.Perm.append_left _ (List.Perm.refl _)).trans List.perm_middle))).trans List.perm_middle)).symm, OH11.out, OH12.out, ⟨by simp [hdep], fun _ => ⟨_, _, rfl, rfl, fun _ => rfl⟩, fun _ => by simp [hdep]⟩, by first | exact h24 | exact fun _ => rfl, by first | exact h25 | exact fun _ => rfl, by first | exact h26 | exact fun _ => rfl, by first | exact h27 | exact fun _ => rfl, by first | exact h28 | exact fun _ => rfl, by first | exact h29 | exact fun _ => rfl, by first | exact h30 | exact fun _ => rfl⟩
  case rest =>
    obtain ⟨b11, b12, b13, rfl, rfl, rfl, E4⟩ := hcut
    rw [hL] at E4
    clear hL m9 m10 E3 L
    have q9 := E4.cell (b := b9) (v := MX) (by simp)
    have q10 := E4.cell (b := b10) (v := MN) (by simp)
    go_wp2_with fail
    refine (K5.out _).mono ?_
    rintro e w4 ⟨rfl, hb4⟩
    replace E4 := E4.call hb4
    clear hb4 q9 q10
    go_upto_if 36 with (go_at_call 26; refine (fvalue _ _).mono ?_; rintro e w5 ⟨rfl, rfl⟩)
    have E5 := (E4.new d 56).grow (.cells #[.float .f64 d] 56)
    clear E4
    generalize w4.heap.size = b14 at *
    generalize (w4.alloc (.cells #[.float .f64 d] 56)).alloc (.cells #[.float .f64 d] 56) = w5 at *
    go_cut [] (fun wx => ∃ h s s5, HP h ∧ floatBits .mul .f64 s 4636737291354636288 = some s5 ∧ Ev w wx [(N3, 0), (N4, 0), (N5, 0), (b11, h), (b12, s), (b13, li)])
    case first =>
      cases hd : (FloatKind.f64.format.order d 0 == some .eq)
      · have hd2 : (FloatKind.f64.format.order d 0 != some Ordering.eq) = true := by unfold bne; rw [hd]; rfl
        rw [hd2]
        go_upto_region 6 with fail
        obtain ⟨L, hL⟩ : ∃ L, L = [(b14, d), (b11, 9221120237041090561), (b12, 0), (b13, li), (b10, MN), (b9, MX), (N5, 0), (N4, 0), (N3, 0), (N2, z), (N1, y), (w.heap.size, x)] := ⟨_, rfl⟩
        have m13 : (b13, li) ∈ L := by rw [hL]; simp
        rw [← hL] at E5
        go_cut [15] (fun s15 wx => ∃ b15, s15 = .pointer (some ⟨b15, 0, none⟩) ∧ Ev w wx ((b15, dv) :: L))
        case first =>
          clear hL
          refine wp_region_inv' (fun A0 listed act_ w' => ∃ l0 l1 l2 l3 l4 l5 l6 : Bool, ∃ u15 u37 u38 u39 u40 u41 : Value, ∃ o15 : List (Nat × Nat), listed = #[l0, l1, l2, l3, l4, l5, l6] ∧ act_ = ((((((A0.put (some 15) u15).put (some 37) u37).put (some 38) u38).put (some 39) u39).put (some 40) u40).put (some 41) u41) ∧ Ev w w' (o15 ++ L) ∧ Oc l5 l6 u15 o15 dv ∧ (l0 = true → u37 = .agg #[.float .f64 li]) ∧ (l1 = true → u38 = .agg #[.float .f64 li]) ∧ (l2 = true → u39 = .agg #[.float .f64 (Fl.fneg li)]) ∧ (l3 = true → u40 = .agg #[.float .f64 lt2]) ∧ (l4 = true → u41 = .agg #[.float .f64 dv])) (by kernel_rfl) (by kernel_rfl) ?h0_2 ?hstep_2 ?hend_2
          case h0_2 =>
            simp only [Act.put, List.setIfInBounds_toArray, List.set_cons_zero, List.set_cons_succ]
            refine ⟨false, false, false, false, false, false, false, _, _, _, _, _, _, [], rfl, rfl, E5.drew, ?_⟩
            simp [Oc]
          case hend_2 =>
            intro listed act_ w' hs hall hI
            simp only [Act.put, List.setIfInBounds_toArray, List.set_cons_zero, List.set_cons_succ] at hI
            obtain ⟨l0, l1, l2, l3, l4, l5, l6, u15, u37, u38, u39, u40, u41, o15, rfl, rfl, EE, O15, h37, h38, h39, h40, h41⟩ := hI
            have t0 := hall 0 (by simp)
            have t1 := hall 1 (by simp)
            have t2 := hall 2 (by simp)
            have t3 := hall 3 (by simp)
            have t4 := hall 4 (by simp)
            have t5 := hall 5 (by simp)
            have t6 := hall 6 (by simp)
            simp at t0 t1 t2 t3 t4 t5 t6
            obtain ⟨b15, v15, rfl, rfl, e15⟩ := O15.2.1 t5
            obtain rfl := e15 t6
            obtain rfl := h37 t0
            obtain rfl := h38 t1
            obtain rfl := h39 t2
            obtain rfl := h40 t3
            obtain rfl := h41 t4
            clear hall
            go_wp2_with fail
            go_meet
            exact ⟨_, rfl, EE⟩
          case hstep_2 =>
            intro listed act_ w' i hs hi hI
            simp only [Act.put, List.setIfInBounds_toArray, List.set_cons_zero, List.set_cons_succ] at hI ⊢
            obtain ⟨l0, l1, l2, l3, l4, l5, l6, u15, u37, u38, u39, u40, u41, o15, rfl, rfl, EE, O15, h37, h38, h39, h40, h41⟩ := hI
            obtain ⟨hf, o, ho, hdep⟩ := mem_ready.1 hi
            have hin : i = 0 ∨ i = 1 ∨ i = 2 ∨ i = 3 ∨ i = 4 ∨ i = 5 ∨ i = 6 := by
              rcases Nat.lt_or_ge i 7 with h | h
              · omega
              · rw [Array.getElem?_eq_none h] at ho
                cases ho
            have EH := Lib.hid EE
            have OH15 := Lib.hid O15
            clear EE O15 hi hs
            rcases hin with rfl | rfl | rfl | rfl | rfl | rfl | rfl
            all_goals
              have ho2 := ho
              simp only [List.getElem?_toArray, List.getElem?_cons_zero, List.getElem?_cons_succ, Option.some.injEq] at ho2
              subst ho2
              simp [Region.binds] at hdep hf
              subst hf
              refine wpOp_step ho (fun K hK => ?_)
              replace hK := Lib.hid hK
              clear ho
            · have hq_ := EH.out.cell (b := b13) (v := li) (by simp [m13])
              go_simp
              refine hK.out _ _ ?_
              exact ⟨_, _, _, _, _, _, _, _, _, _, _, _, _, o15, rfl, rfl, EH.out, OH15.out, by first | exact h37 | exact fun _ => rfl, by first | exact h38 | exact fun _ => rfl, by first | exact h39 | exact fun _ => rfl, by first | exact h40 | exact fun _ => rfl, by first | exact h41 | exact fun _ => rfl⟩
            · have hq_ := EH.out.cell (b := b13) (v := li) (by simp [m13])
              go_simp
              refine hK.out _ _ ?_
              exact ⟨_, _, _, _, _, _, _, _, _, _, _, _, _, o15, rfl, rfl, EH.out, OH15.out, by first | exact h37 | exact fun _ => rfl, by first | exact h38 | exact fun _ => rfl, by first | exact h39 | exact fun _ => rfl, by first | exact h40 | exact fun _ => rfl, by first | exact h41 | exact fun _ => rfl⟩
            · obtain rfl := h38 (by simp [hdep])
              go_simp
              go_at_call 34
              refine (K6 _).mono ?_
              rintro e w1 ⟨rfl, hb⟩
              refine hK.out _ _ ?_
              exact ⟨_, _, _, _, _, _, _, _, _, _, _, _, _, o15, rfl, rfl, EH.out.call hb, OH15.out, by first | exact h37 | exact fun _ => rfl, by first | exact h38 | exact fun _ => rfl, by first | exact h39 | exact fun _ => rfl, by first | exact h40 | exact fun _ => rfl, by first | exact h41 | exact fun _ => rfl⟩
            · obtain rfl := h39 (by simp [hdep])
              go_simp
              go_at_call 35
              refine (K7 _).mono ?_
              rintro e w1 ⟨rfl, hb⟩
              refine hK.out _ _ ?_
              exact ⟨_, _, _, _, _, _, _, _, _, _, _, _, _, o15, rfl, rfl, EH.out.call hb, OH15.out, by first | exact h37 | exact fun _ => rfl, by first | exact h38 | exact fun _ => rfl, by first | exact h39 | exact fun _ => rfl, by first | exact h40 | exact fun _ => rfl, by first | exact h41 | exact fun _ => rfl⟩
            · obtain rfl := h37 (by simp [hdep])
              obtain rfl := h40 (by simp [hdep])
              go_simp
              go_at_call 44
              refine (K8 _).mono ?_
              rintro e w1 ⟨rfl, hb⟩
              refine hK.out _ _ ?_
              exact ⟨_, _, _, _, _, _, _, _, _, _, _, _, _, o15, rfl, rfl, EH.out.call hb, OH15.out, by first | exact h37 | exact fun _ => rfl, by first | exact h38 | exact fun _ => rfl, by first | exact h39 | exact fun _ => rfl, by first | exact h40 | exact fun _ => rfl, by first | exact h41 | exact fun _ => rfl⟩
            · obtain rfl := OH15.out.1 rfl
              go_simp
              refine hK.out _ _ ?_
              exact ⟨_, _, _, _, _, _, _, _, _, _, _, _, _, [(w'.heap.size, 0)], rfl, rfl, (EH.out.new 0 56).perm (List.Perm.refl _).symm, ⟨by simp, fun _ => ⟨_, _, rfl, rfl, fun h => by have := OH15.out.2.2 h; simp at this⟩, fun _ => rfl⟩, by first | exact h37 | exact fun _ => rfl, by first | exact h38 | exact fun _ => rfl, by first | exact h39 | exact fun _ => rfl, by first | exact h40 | exact fun _ => rfl, by first | exact h41 | exact fun _ => rfl⟩
            · obtain ⟨b, v, rfl, rfl, _⟩ := OH15.out.2.1 (by simp [hdep])
              obtain rfl := h41 (by simp [hdep])
              have hq_ := EH.out.cell (b := b) (v := v) (by simp)
              have hz_ := EH.out.frz (b := b) (v := v) (by simp)
              go_simp
              refine hK.out _ _ ?_
              exact ⟨_, _, _, _, _, _, _, _, _, _, _, _, _, [(b, dv)], rfl, rfl, ((EH.out.perm (List.Perm.refl _)).set dv).perm (List.Perm.refl _).symm, ⟨by simp [hdep], fun _ => ⟨_, _, rfl, rfl, fun _ => rfl⟩, fun _ => by simp [hdep]⟩, by first | exact h37 | exact fun _ => rfl, by first | exact h38 | exact fun _ => rfl, by first | exact h39 | exact fun _ => rfl, by first | exact h40 | exact fun _ => rfl, by first | exact h41 | exact fun _ => rfl⟩
        case rest =>
          obtain ⟨b15, rfl, E6⟩ := hcut
          rw [hL] at E6
          clear hL m13 E5 L
          have q15 := E6.cell (b := b15) (v := dv) (by simp)
          go_upto_if 44 with (go_at_call 26; refine (fvalue _ _).mono ?_; rintro e w5 ⟨rfl, rfl⟩)
          have E7 := (E6.grow (.cells #[.float .f64 dv] 56)).perm (l' := (b12, 0) :: (b15, dv) :: (b14, d) :: (b11, 9221120237041090561) :: [(b13, li), (b10, MN), (b9, MX), (N5, 0), (N4, 0), (N3, 0), (N2, z), (N1, y), (w.heap.size, x)]) (((List.Perm.swap _ _ _).cons _).cons _ |>.trans (((List.Perm.swap _ _ _).cons _).trans (List.Perm.swap _ _ _)))
          clear E6 q15
          generalize wc.alloc (.cells #[.float .f64 dv] 56) = w7 at *
          go_cut [] (fun wx => ∃ s s5, floatBits .mul .f64 s 4636737291354636288 = some s5 ∧ Ev w wx [(b12, s), (b15, dv), (b14, d), (b11, 9221120237041090561), (b13, li), (b10, MN), (b9, MX), (N5, 0), (N4, 0), (N3, 0), (N2, z), (N1, y), (w.heap.size, x)])
          case first =>
            cases hv : (FloatKind.f64.format.order dv 0 == some .eq)
            · have hv2 : (FloatKind.f64.format.order dv 0 != some Ordering.eq) = true := by unfold bne; rw [hv]; rfl
              rw [hv2]
              obtain ⟨s4, s5, e4, e5⟩ := H10.out hv
              have K10 := fun w => fdivb s3 dv s4 w e4
              go_upto_region 8 with fail
              obtain ⟨L, hL⟩ : ∃ L, L = [(b15, dv), (b14, d), (b11, 9221120237041090561), (b13, li), (b10, MN), (b9, MX), (N5, 0), (N4, 0), (N3, 0), (N2, z), (N1, y), (w.heap.size, x)] := ⟨_, rfl⟩
              have m13 : (b13, li) ∈ L := by rw [hL]; simp
              have m9 : (b9, MX) ∈ L := by rw [hL]; simp
              have m15 : (b15, dv) ∈ L := by rw [hL]; simp
              rw [← hL] at E7
              refine wp_region_inv' (fun A0 listed act_ w' => ∃ l0 l1 l2 l3 l4 l5 : Bool, ∃ u45 u46 u47 u48 u49 : Value, listed = #[l0, l1, l2, l3, l4, l5] ∧ act_ = (((((A0.put (some 45) u45).put (some 46) u46).put (some 47) u47).put (some 48) u48).put (some 49) u49) ∧ Ev w w' ((b12, cond l5 s4 0) :: L) ∧ (l0 = true → u45 = .agg #[.float .f64 MX]) ∧ (l1 = true → u46 = .agg #[.float .f64 li]) ∧ (l2 = true → u47 = .agg #[.float .f64 s3]) ∧ (l3 = true → u48 = .agg #[.float .f64 dv]) ∧ (l4 = true → u49 = .agg #[.float .f64 s4])) (by kernel_rfl) (by kernel_rfl) ?h0_3 ?hstep_3 ?hend_3
              case h0_3 =>
                simp only [Act.put, List.setIfInBounds_toArray, List.set_cons_zero, List.set_cons_succ]
                refine ⟨false, false, false, false, false, false, _, _, _, _, _, rfl, rfl, E7.drew, ?_⟩
                simp
              case hend_3 =>
                intro listed act_ w' hs hall hI
                simp only [Act.put, List.setIfInBounds_toArray, List.set_cons_zero, List.set_cons_succ] at hI
                obtain ⟨l0, l1, l2, l3, l4, l5, u45, u46, u47, u48, u49, rfl, rfl, EE, h45, h46, h47, h48, h49⟩ := hI
                have t0 := hall 0 (by simp)
                have t1 := hall 1 (by simp)
                have t2 := hall 2 (by simp)
                have t3 := hall 3 (by simp)
                have t4 := hall 4 (by simp)
                have t5 := hall 5 (by simp)
                simp at t0 t1 t2 t3 t4 t5
                obtain rfl := h45 t0
                obtain rfl := h46 t1
                obtain rfl := h47 t2
                obtain rfl := h48 t3
                obtain rfl := h49 t4
                obtain rfl := t5
                clear hall
                rw [hL] at EE
                go_wp2_with fail
                go_meet
                exact ⟨s4, s5, e5, EE⟩
              case hstep_3 =>
                intro listed act_ w' i hs hi hI
                simp only [Act.put, List.setIfInBounds_toArray, List.set_cons_zero, List.set_cons_succ] at hI ⊢
                obtain ⟨l0, l1, l2, l3, l4, l5, u45, u46, u47, u48, u49, rfl, rfl, EE, h45, h46, h47, h48, h49⟩ := hI
                obtain ⟨hf, o, ho, hdep⟩ := mem_ready.1 hi
                have hin : i = 0 ∨ i = 1 ∨ i = 2 ∨ i = 3 ∨ i = 4 ∨ i = 5 := by
                  rcases Nat.lt_or_ge i 6 with h | h
                  · omega
                  · rw [Array.getElem?_eq_none h] at ho
                    cases ho
                have EH := Lib.hid EE
                clear EE  hi hs
                rcases hin with rfl | rfl | rfl | rfl | rfl | rfl
                all_goals
                  have ho2 := ho
                  simp only [List.getElem?_toArray, List.getElem?_cons_zero, List.getElem?_cons_succ, Option.some.injEq] at ho2
                  subst ho2
                  simp [Region.binds] at hdep hf
                  subst hf
                  refine wpOp_step ho (fun K hK => ?_)
                  replace hK := Lib.hid hK
                  clear ho
                · have hq_ := EH.out.cell (b := b9) (v := MX) (by simp [m9])
                  go_simp
                  refine hK.out _ _ ?_
                  exact ⟨_, _, _, _, _, _, _, _, _, _, _, rfl, rfl, EH.out, by first | exact h45 | exact fun _ => rfl, by first | exact h46 | exact fun _ => rfl, by first | exact h47 | exact fun _ => rfl, by first | exact h48 | exact fun _ => rfl, by first | exact h49 | exact fun _ => rfl⟩
                · have hq_ := EH.out.cell (b := b13) (v := li) (by simp [m13])
                  go_simp
                  refine hK.out _ _ ?_
                  exact ⟨_, _, _, _, _, _, _, _, _, _, _, rfl, rfl, EH.out, by first | exact h45 | exact fun _ => rfl, by first | exact h46 | exact fun _ => rfl, by first | exact h47 | exact fun _ => rfl, by first | exact h48 | exact fun _ => rfl, by first | exact h49 | exact fun _ => rfl⟩
                · obtain rfl := h45 (by simp [hdep])
                  obtain rfl := h46 (by simp [hdep])
                  go_simp
                  go_at_call 43
                  refine (K9 _).mono ?_
                  rintro e w1 ⟨rfl, hb⟩
                  refine hK.out _ _ ?_
                  exact ⟨_, _, _, _, _, _, _, _, _, _, _, rfl, rfl, EH.out.call hb, by first | exact h45 | exact fun _ => rfl, by first | exact h46 | exact fun _ => rfl, by first | exact h47 | exact fun _ => rfl, by first | exact h48 | exact fun _ => rfl, by first | exact h49 | exact fun _ => rfl⟩
                · have hq_ := EH.out.cell (b := b15) (v := dv) (by simp [m15])
                  go_simp
                  refine hK.out _ _ ?_
                  exact ⟨_, _, _, _, _, _, _, _, _, _, _, rfl, rfl, EH.out, by first | exact h45 | exact fun _ => rfl, by first | exact h46 | exact fun _ => rfl, by first | exact h47 | exact fun _ => rfl, by first | exact h48 | exact fun _ => rfl, by first | exact h49 | exact fun _ => rfl⟩
                · obtain rfl := h47 (by simp [hdep])
                  obtain rfl := h48 (by simp [hdep])
                  go_simp
                  go_at_call 39
                  refine (K10 _).mono ?_
                  rintro e w1 ⟨rfl, hb⟩
                  refine hK.out _ _ ?_
                  exact ⟨_, _, _, _, _, _, _, _, _, _, _, rfl, rfl, EH.out.call hb, by first | exact h45 | exact fun _ => rfl, by first | exact h46 | exact fun _ => rfl, by first | exact h47 | exact fun _ => rfl, by first | exact h48 | exact fun _ => rfl, by first | exact h49 | exact fun _ => rfl⟩
                · obtain rfl := h49 (by simp [hdep])
                  have hq_ := EH.out.cell (b := b12) (v := 0) (by simp)
                  have hz_ := EH.out.frz (b := b12) (v := 0) (by simp)
                  go_simp
                  refine hK.out _ _ ?_
                  exact ⟨_, _, _, _, _, _, _, _, _, _, _, rfl, rfl, ((EH.out.perm (List.Perm.refl _)).set s4).perm (List.Perm.refl _).symm, by first | exact h45 | exact fun _ => rfl, by first | exact h46 | exact fun _ => rfl, by first | exact h47 | exact fun _ => rfl, by first | exact h48 | exact fun _ => rfl, by first | exact h49 | exact fun _ => rfl⟩
            · have hv2 : (FloatKind.f64.format.order dv 0 != some Ordering.eq) = false := by unfold bne; rw [hv]; rfl
              rw [hv2]
              go_wp2_with fail
              go_meet
              exact ⟨0, 0, by decide +kernel, E7⟩
          case rest =>
            obtain ⟨s, s5, hs5, E8⟩ := hcut
            have q9 := E8.cell (b := b9) (v := MX) (by simp)
            have q3 := E8.cell (b := w.heap.size) (v := x) (by simp)
            have q4 := E8.cell (b := N1) (v := y) (by simp)
            have q5 := E8.cell (b := N2) (v := z) (by simp)
            cases hx : (FloatKind.f64.format.order MX x == some .eq)
            · have ex : ∀ w, (Op.equalIn 9999 22 (.float .f64 MX) (.float .f64 x)).run Try.prog w = .ok false w := fun w => by rw [eq22, hx]
              cases hy : (FloatKind.f64.format.order MX y == some .eq)
              · have ey : ∀ w, (Op.equalIn 9999 22 (.float .f64 MX) (.float .f64 y)).run Try.prog w = .ok false w := fun w => by rw [eq22, hy]
                obtain ⟨hz, a, q, p, h, ea, eq, ep, eh, hh⟩ := HC.out hd hx hy
                have ez : ∀ w, (Op.equalIn 9999 22 (.float .f64 MX) (.float .f64 z)).run Try.prog w = .ok true w := fun w => by rw [eq22, hz]
                have J1 := fun w => fsubb x y a w ea
                have J2 := fun w => fdivb a d q w eq
                have J3 := fun w => faddc q _ p w ep
                have J4 := fun w => fmulc p _ h w eh
                go_upto_region 17 with fail
                obtain ⟨L, hL⟩ : ∃ L, L = [(b12, s), (b15, dv), (b14, d), (b13, li), (b10, MN), (b9, MX), (N5, 0), (N4, 0), (N3, 0), (N2, z), (N1, y), (w.heap.size, x)] := ⟨_, rfl⟩
                have m14 : (b14, d) ∈ L := by rw [hL]; simp
                have m3 : (w.heap.size, x) ∈ L := by rw [hL]; simp
                have m4 : (N1, y) ∈ L := by rw [hL]; simp
                have m5 : (N2, z) ∈ L := by rw [hL]; simp
                have mF : ∀ v c, Ev w c ((b11, v) :: L) → Ev w c [(N3, 0), (N4, 0), (N5, 0), (b11, v), (b12, s), (b13, li)] := by
                  intro v c hE
                  rw [hL] at hE
                  exact hE.pick13
                have E9 : Ev w wc ((b11, 9221120237041090561) :: L) := by
                  rw [hL]
                  exact E8.mid 3 _ (b11, 9221120237041090561) rfl rfl
                clear hL E8 q9 q3 q4 q5 HA HA' HB HC HN H10 K1 K2 K3 K4 K5 K6 K7 K8 K9 KL K0 hsz
                refine wp_region_inv' (fun A0 listed act_ w' => ∃ l0 l1 l2 l3 l4 l5 l6 : Bool, ∃ u78 u79 u80 u81 u82 u83 : Value, listed = #[l0, l1, l2, l3, l4, l5, l6] ∧ act_ = ((((((A0.put (some 78) u78).put (some 79) u79).put (some 80) u80).put (some 81) u81).put (some 82) u82).put (some 83) u83) ∧ Ev w w' ((b11, cond l6 p 9221120237041090561) :: L) ∧ (l0 = true → u78 = .agg #[.float .f64 x]) ∧ (l1 = true → u79 = .agg #[.float .f64 y]) ∧ (l2 = true → u80 = .agg #[.float .f64 a]) ∧ (l3 = true → u81 = .agg #[.float .f64 d]) ∧ (l4 = true → u82 = .agg #[.float .f64 q]) ∧ (l5 = true → u83 = .agg #[.float .f64 p])) (by kernel_rfl) (by kernel_rfl) ?h0_5 ?hstep_5 ?hend_5
                case h0_5 =>
                  simp only [Act.put, List.setIfInBounds_toArray, List.set_cons_zero, List.set_cons_succ]
                  refine ⟨false, false, false, false, false, false, false, _, _, _, _, _, _, rfl, rfl, E9.drew, ?_⟩
                  simp
                case hend_5 =>
                  intro listed act_ w' hs hall hI
                  simp only [Act.put, List.setIfInBounds_toArray, List.set_cons_zero, List.set_cons_succ] at hI
                  obtain ⟨l0, l1, l2, l3, l4, l5, l6, u78, u79, u80, u81, u82, u83, rfl, rfl, EE, h78, h79, h80, h81, h82, h83⟩ := hI
                  have t0 := hall 0 (by simp)
                  have t1 := hall 1 (by simp)
                  have t2 := hall 2 (by simp)
                  have t3 := hall 3 (by simp)
                  have t4 := hall 4 (by simp)
                  have t5 := hall 5 (by simp)
                  have t6 := hall 6 (by simp)
                  simp at t0 t1 t2 t3 t4 t5 t6
                  obtain rfl := h78 t0
                  obtain rfl := h79 t1
                  obtain rfl := h80 t2
                  obtain rfl := h81 t3
                  obtain rfl := h82 t4
                  obtain rfl := h83 t5
                  obtain rfl := t6
                  clear hall
                  have r11 := EE.cell (b := b11) (v := p) (by simp)
                  have z11 := EE.frz (b := b11) (v := p) (by simp)
                  go_wp2_with fail
                  refine (J4 _).mono ?_
                  rintro e w8 ⟨rfl, hb8⟩
                  have EF := (EE.call hb8).set h
                  have r12 := (EE.call hb8).cell (b := b11) (v := p) (by simp)
                  have z12 := (EE.call hb8).frz (b := b11) (v := p) (by simp)
                  go_wp2_with fail
                  go_meet
                  exact ⟨h, s, s5, hh, hs5, mF _ _ EF⟩
                case hstep_5 =>
                  intro listed act_ w' i hs hi hI
                  simp only [Act.put, List.setIfInBounds_toArray, List.set_cons_zero, List.set_cons_succ] at hI ⊢
                  obtain ⟨l0, l1, l2, l3, l4, l5, l6, u78, u79, u80, u81, u82, u83, rfl, rfl, EE, h78, h79, h80, h81, h82, h83⟩ := hI
                  obtain ⟨hf, o, ho, hdep⟩ := mem_ready.1 hi
                  have hin : i = 0 ∨ i = 1 ∨ i = 2 ∨ i = 3 ∨ i = 4 ∨ i = 5 ∨ i = 6 := by
                    rcases Nat.lt_or_ge i 7 with h | h
                    · omega
                    · rw [Array.getElem?_eq_none h] at ho
                      cases ho
                  have EH := Lib.hid EE
                  clear EE  hi hs
                  rcases hin with rfl | rfl | rfl | rfl | rfl | rfl | rfl
                  all_goals
                    have ho2 := ho
                    simp only [List.getElem?_toArray, List.getElem?_cons_zero, List.getElem?_cons_succ, Option.some.injEq] at ho2
                    subst ho2
                    simp [Region.binds] at hdep hf
                    subst hf
                    refine wpOp_step ho (fun K hK => ?_)
                    replace hK := Lib.hid hK
                    clear ho
                  · have hq_ := EH.out.cell (b := w.heap.size) (v := x) (by simp [m3])
                    go_simp
                    refine hK.out _ _ ?_
                    exact ⟨_, _, _, _, _, _, _, _, _, _, _, _, _, rfl, rfl, EH.out, by first | exact h78 | exact fun _ => rfl, by first | exact h79 | exact fun _ => rfl, by first | exact h80 | exact fun _ => rfl, by first | exact h81 | exact fun _ => rfl, by first | exact h82 | exact fun _ => rfl, by first | exact h83 | exact fun _ => rfl⟩
                  · have hq_ := EH.out.cell (b := N1) (v := y) (by simp [m4])
                    go_simp
                    refine hK.out _ _ ?_
                    exact ⟨_, _, _, _, _, _, _, _, _, _, _, _, _, rfl, rfl, EH.out, by first | exact h78 | exact fun _ => rfl, by first | exact h79 | exact fun _ => rfl, by first | exact h80 | exact fun _ => rfl, by first | exact h81 | exact fun _ => rfl, by first | exact h82 | exact fun _ => rfl, by first | exact h83 | exact fun _ => rfl⟩
                  · obtain rfl := h78 (by simp [hdep])
                    obtain rfl := h79 (by simp [hdep])
                    go_simp
                    go_at_call 43
                    refine (J1 _).mono ?_
                    rintro e w1 ⟨rfl, hb⟩
                    refine hK.out _ _ ?_
                    exact ⟨_, _, _, _, _, _, _, _, _, _, _, _, _, rfl, rfl, EH.out.call hb, by first | exact h78 | exact fun _ => rfl, by first | exact h79 | exact fun _ => rfl, by first | exact h80 | exact fun _ => rfl, by first | exact h81 | exact fun _ => rfl, by first | exact h82 | exact fun _ => rfl, by first | exact h83 | exact fun _ => rfl⟩
                  · have hq_ := EH.out.cell (b := b14) (v := d) (by simp [m14])
                    go_simp
                    refine hK.out _ _ ?_
                    exact ⟨_, _, _, _, _, _, _, _, _, _, _, _, _, rfl, rfl, EH.out, by first | exact h78 | exact fun _ => rfl, by first | exact h79 | exact fun _ => rfl, by first | exact h80 | exact fun _ => rfl, by first | exact h81 | exact fun _ => rfl, by first | exact h82 | exact fun _ => rfl, by first | exact h83 | exact fun _ => rfl⟩
                  · obtain rfl := h80 (by simp [hdep])
                    obtain rfl := h81 (by simp [hdep])
                    go_simp
                    go_at_call 39
                    refine (J2 _).mono ?_
                    rintro e w1 ⟨rfl, hb⟩
                    refine hK.out _ _ ?_
                    exact ⟨_, _, _, _, _, _, _, _, _, _, _, _, _, rfl, rfl, EH.out.call hb, by first | exact h78 | exact fun _ => rfl, by first | exact h79 | exact fun _ => rfl, by first | exact h80 | exact fun _ => rfl, by first | exact h81 | exact fun _ => rfl, by first | exact h82 | exact fun _ => rfl, by first | exact h83 | exact fun _ => rfl⟩
                  · obtain rfl := h82 (by simp [hdep])
                    go_simp
                    go_at_call 35
                    refine (J3 _).mono ?_
                    rintro e w1 ⟨rfl, hb⟩
                    refine hK.out _ _ ?_
                    exact ⟨_, _, _, _, _, _, _, _, _, _, _, _, _, rfl, rfl, EH.out.call hb, by first | exact h78 | exact fun _ => rfl, by first | exact h79 | exact fun _ => rfl, by first | exact h80 | exact fun _ => rfl, by first | exact h81 | exact fun _ => rfl, by first | exact h82 | exact fun _ => rfl, by first | exact h83 | exact fun _ => rfl⟩
                  · obtain rfl := h83 (by simp [hdep])
                    have hq_ := EH.out.cell (b := b11) (v := 9221120237041090561) (by simp)
                    have hz_ := EH.out.frz (b := b11) (v := 9221120237041090561) (by simp)
                    go_simp
                    refine hK.out _ _ ?_
                    exact ⟨_, _, _, _, _, _, _, _, _, _, _, _, _, rfl, rfl, ((EH.out.perm (List.Perm.refl _)).set p).perm (List.Perm.refl _).symm, by first | exact h78 | exact fun _ => rfl, by first | exact h79 | exact fun _ => rfl, by first | exact h80 | exact fun _ => rfl, by first | exact h81 | exact fun _ => rfl, by first | exact h82 | exact fun _ => rfl, by first | exact h83 | exact fun _ => rfl⟩
              · have ey : ∀ w, (Op.equalIn 9999 22 (.float .f64 MX) (.float .f64 y)).run Try.prog w = .ok true w := fun w => by rw [eq22, hy]
                obtain ⟨a, q, p, h, ea, eq, ep, eh, hh⟩ := HB.out hd hx hy
                have J1 := fun w => fsubb z x a w ea
                have J2 := fun w => fdivb a d q w eq
                have J3 := fun w => faddc q _ p w ep
                have J4 := fun w => fmulc p _ h w eh
                go_upto_region 15 with fail
                obtain ⟨L, hL⟩ : ∃ L, L = [(b12, s), (b15, dv), (b14, d), (b13, li), (b10, MN), (b9, MX), (N5, 0), (N4, 0), (N3, 0), (N2, z), (N1, y), (w.heap.size, x)] := ⟨_, rfl⟩
                have m14 : (b14, d) ∈ L := by rw [hL]; simp
                have m3 : (w.heap.size, x) ∈ L := by rw [hL]; simp
                have m4 : (N1, y) ∈ L := by rw [hL]; simp
                have m5 : (N2, z) ∈ L := by rw [hL]; simp
                have mF : ∀ v c, Ev w c ((b11, v) :: L) → Ev w c [(N3, 0), (N4, 0), (N5, 0), (b11, v), (b12, s), (b13, li)] := by
                  intro v c hE
                  rw [hL] at hE
                  exact hE.pick13
                have E9 : Ev w wc ((b11, 9221120237041090561) :: L) := by
                  rw [hL]
                  exact E8.mid 3 _ (b11, 9221120237041090561) rfl rfl
                clear hL E8 q9 q3 q4 q5 HA HA' HB HC HN H10 K1 K2 K3 K4 K5 K6 K7 K8 K9 KL K0 hsz
                refine wp_region_inv' (fun A0 listed act_ w' => ∃ l0 l1 l2 l3 l4 l5 l6 : Bool, ∃ u69 u70 u71 u72 u73 u74 : Value, listed = #[l0, l1, l2, l3, l4, l5, l6] ∧ act_ = ((((((A0.put (some 69) u69).put (some 70) u70).put (some 71) u71).put (some 72) u72).put (some 73) u73).put (some 74) u74) ∧ Ev w w' ((b11, cond l6 p 9221120237041090561) :: L) ∧ (l0 = true → u69 = .agg #[.float .f64 z]) ∧ (l1 = true → u70 = .agg #[.float .f64 x]) ∧ (l2 = true → u71 = .agg #[.float .f64 a]) ∧ (l3 = true → u72 = .agg #[.float .f64 d]) ∧ (l4 = true → u73 = .agg #[.float .f64 q]) ∧ (l5 = true → u74 = .agg #[.float .f64 p])) (by kernel_rfl) (by kernel_rfl) ?h0_6 ?hstep_6 ?hend_6
                case h0_6 =>
                  simp only [Act.put, List.setIfInBounds_toArray, List.set_cons_zero, List.set_cons_succ]
                  refine ⟨false, false, false, false, false, false, false, _, _, _, _, _, _, rfl, rfl, E9.drew, ?_⟩
                  simp
                case hend_6 =>
                  intro listed act_ w' hs hall hI
                  simp only [Act.put, List.setIfInBounds_toArray, List.set_cons_zero, List.set_cons_succ] at hI
                  obtain ⟨l0, l1, l2, l3, l4, l5, l6, u69, u70, u71, u72, u73, u74, rfl, rfl, EE, h69, h70, h71, h72, h73, h74⟩ := hI
                  have t0 := hall 0 (by simp)
                  have t1 := hall 1 (by simp)
                  have t2 := hall 2 (by simp)
                  have t3 := hall 3 (by simp)
                  have t4 := hall 4 (by simp)
                  have t5 := hall 5 (by simp)
                  have t6 := hall 6 (by simp)
                  simp at t0 t1 t2 t3 t4 t5 t6
                  obtain rfl := h69 t0
                  obtain rfl := h70 t1
                  obtain rfl := h71 t2
                  obtain rfl := h72 t3
                  obtain rfl := h73 t4
                  obtain rfl := h74 t5
                  obtain rfl := t6
                  clear hall
                  have r11 := EE.cell (b := b11) (v := p) (by simp)
                  have z11 := EE.frz (b := b11) (v := p) (by simp)
                  go_wp2_with fail
                  refine (J4 _).mono ?_
                  rintro e w8 ⟨rfl, hb8⟩
                  have EF := (EE.call hb8).set h
                  have r12 := (EE.call hb8).cell (b := b11) (v := p) (by simp)
                  have z12 := (EE.call hb8).frz (b := b11) (v := p) (by simp)
                  go_wp2_with fail
                  go_meet
                  exact ⟨h, s, s5, hh, hs5, mF _ _ EF⟩
                case hstep_6 =>
                  intro listed act_ w' i hs hi hI
                  simp only [Act.put, List.setIfInBounds_toArray, List.set_cons_zero, List.set_cons_succ] at hI ⊢
                  obtain ⟨l0, l1, l2, l3, l4, l5, l6, u69, u70, u71, u72, u73, u74, rfl, rfl, EE, h69, h70, h71, h72, h73, h74⟩ := hI
                  obtain ⟨hf, o, ho, hdep⟩ := mem_ready.1 hi
                  have hin : i = 0 ∨ i = 1 ∨ i = 2 ∨ i = 3 ∨ i = 4 ∨ i = 5 ∨ i = 6 := by
                    rcases Nat.lt_or_ge i 7 with h | h
                    · omega
                    · rw [Array.getElem?_eq_none h] at ho
                      cases ho
                  have EH := Lib.hid EE
                  clear EE  hi hs
                  rcases hin with rfl | rfl | rfl | rfl | rfl | rfl | rfl
                  all_goals
                    have ho2 := ho
                    simp only [List.getElem?_toArray, List.getElem?_cons_zero, List.getElem?_cons_succ, Option.some.injEq] at ho2
                    subst ho2
                    simp [Region.binds] at hdep hf
                    subst hf
                    refine wpOp_step ho (fun K hK => ?_)
                    replace hK := Lib.hid hK
                    clear ho
                  · have hq_ := EH.out.cell (b := N2) (v := z) (by simp [m5])
                    go_simp
                    refine hK.out _ _ ?_
                    exact ⟨_, _, _, _, _, _, _, _, _, _, _, _, _, rfl, rfl, EH.out, by first | exact h69 | exact fun _ => rfl, by first | exact h70 | exact fun _ => rfl, by first | exact h71 | exact fun _ => rfl, by first | exact h72 | exact fun _ => rfl, by first | exact h73 | exact fun _ => rfl, by first | exact h74 | exact fun _ => rfl⟩
                  · have hq_ := EH.out.cell (b := w.heap.size) (v := x) (by simp [m3])
                    go_simp
                    refine hK.out _ _ ?_
                    exact ⟨_, _, _, _, _, _, _, _, _, _, _, _, _, rfl, rfl, EH.out, by first | exact h69 | exact fun _ => rfl, by first | exact h70 | exact fun _ => rfl, by first | exact h71 | exact fun _ => rfl, by first | exact h72 | exact fun _ => rfl, by first | exact h73 | exact fun _ => rfl, by first | exact h74 | exact fun _ => rfl⟩
                  · obtain rfl := h69 (by simp [hdep])
                    obtain rfl := h70 (by simp [hdep])
                    go_simp
                    go_at_call 43
                    refine (J1 _).mono ?_
                    rintro e w1 ⟨rfl, hb⟩
                    refine hK.out _ _ ?_
                    exact ⟨_, _, _, _, _, _, _, _, _, _, _, _, _, rfl, rfl, EH.out.call hb, by first | exact h69 | exact fun _ => rfl, by first | exact h70 | exact fun _ => rfl, by first | exact h71 | exact fun _ => rfl, by first | exact h72 | exact fun _ => rfl, by first | exact h73 | exact fun _ => rfl, by first | exact h74 | exact fun _ => rfl⟩
                  · have hq_ := EH.out.cell (b := b14) (v := d) (by simp [m14])
                    go_simp
                    refine hK.out _ _ ?_
                    exact ⟨_, _, _, _, _, _, _, _, _, _, _, _, _, rfl, rfl, EH.out, by first | exact h69 | exact fun _ => rfl, by first | exact h70 | exact fun _ => rfl, by first | exact h71 | exact fun _ => rfl, by first | exact h72 | exact fun _ => rfl, by first | exact h73 | exact fun _ => rfl, by first | exact h74 | exact fun _ => rfl⟩
                  · obtain rfl := h71 (by simp [hdep])
                    obtain rfl := h72 (by simp [hdep])
                    go_simp
                    go_at_call 39
                    refine (J2 _).mono ?_
                    rintro e w1 ⟨rfl, hb⟩
                    refine hK.out _ _ ?_
                    exact ⟨_, _, _, _, _, _, _, _, _, _, _, _, _, rfl, rfl, EH.out.call hb, by first | exact h69 | exact fun _ => rfl, by first | exact h70 | exact fun _ => rfl, by first | exact h71 | exact fun _ => rfl, by first | exact h72 | exact fun _ => rfl, by first | exact h73 | exact fun _ => rfl, by first | exact h74 | exact fun _ => rfl⟩
                  · obtain rfl := h73 (by simp [hdep])
                    go_simp
                    go_at_call 35
                    refine (J3 _).mono ?_
                    rintro e w1 ⟨rfl, hb⟩
                    refine hK.out _ _ ?_
                    exact ⟨_, _, _, _, _, _, _, _, _, _, _, _, _, rfl, rfl, EH.out.call hb, by first | exact h69 | exact fun _ => rfl, by first | exact h70 | exact fun _ => rfl, by first | exact h71 | exact fun _ => rfl, by first | exact h72 | exact fun _ => rfl, by first | exact h73 | exact fun _ => rfl, by first | exact h74 | exact fun _ => rfl⟩
                  · obtain rfl := h74 (by simp [hdep])
                    have hq_ := EH.out.cell (b := b11) (v := 9221120237041090561) (by simp)
                    have hz_ := EH.out.frz (b := b11) (v := 9221120237041090561) (by simp)
                    go_simp
                    refine hK.out _ _ ?_
                    exact ⟨_, _, _, _, _, _, _, _, _, _, _, _, _, rfl, rfl, ((EH.out.perm (List.Perm.refl _)).set p).perm (List.Perm.refl _).symm, by first | exact h69 | exact fun _ => rfl, by first | exact h70 | exact fun _ => rfl, by first | exact h71 | exact fun _ => rfl, by first | exact h72 | exact fun _ => rfl, by first | exact h73 | exact fun _ => rfl, by first | exact h74 | exact fun _ => rfl⟩
            · have ex : ∀ w, (Op.equalIn 9999 22 (.float .f64 MX) (.float .f64 x)).run Try.prog w = .ok true w := fun w => by rw [eq22, hx]
              cases hyz : (FloatKind.f64.format.order y z == some .lt)
              · obtain ⟨a, q, h, ea, eq, eh, hh⟩ := HA'.out hd hx hyz
                have J1 := fun w => fsubb y z a w ea
                have J2 := fun w => fdivb a d q w eq
                have J4 := fun w => fmulc q _ h w eh
                go_upto_region 11 with fail
                obtain ⟨L, hL⟩ : ∃ L, L = [(b12, s), (b15, dv), (b14, d), (b13, li), (b10, MN), (b9, MX), (N5, 0), (N4, 0), (N3, 0), (N2, z), (N1, y), (w.heap.size, x)] := ⟨_, rfl⟩
                have m14 : (b14, d) ∈ L := by rw [hL]; simp
                have m3 : (w.heap.size, x) ∈ L := by rw [hL]; simp
                have m4 : (N1, y) ∈ L := by rw [hL]; simp
                have m5 : (N2, z) ∈ L := by rw [hL]; simp
                have mF : ∀ v c, Ev w c ((b11, v) :: L) → Ev w c [(N3, 0), (N4, 0), (N5, 0), (b11, v), (b12, s), (b13, li)] := by
                  intro v c hE
                  rw [hL] at hE
                  exact hE.pick13
                have E9 : Ev w wc ((b11, 9221120237041090561) :: L) := by
                  rw [hL]
                  exact E8.mid 3 _ (b11, 9221120237041090561) rfl rfl
                clear hL E8 q9 q3 q4 q5 HA HA' HB HC HN H10 K1 K2 K3 K4 K5 K6 K7 K8 K9 KL K0 hsz
                refine wp_region_inv' (fun A0 listed act_ w' => ∃ l0 l1 l2 l3 l4 l5 : Bool, ∃ u54 u55 u56 u57 u58 : Value, listed = #[l0, l1, l2, l3, l4, l5] ∧ act_ = (((((A0.put (some 54) u54).put (some 55) u55).put (some 56) u56).put (some 57) u57).put (some 58) u58) ∧ Ev w w' ((b11, cond l5 q 9221120237041090561) :: L) ∧ (l0 = true → u54 = .agg #[.float .f64 y]) ∧ (l1 = true → u55 = .agg #[.float .f64 z]) ∧ (l2 = true → u56 = .agg #[.float .f64 a]) ∧ (l3 = true → u57 = .agg #[.float .f64 d]) ∧ (l4 = true → u58 = .agg #[.float .f64 q])) (by kernel_rfl) (by kernel_rfl) ?h0_8 ?hstep_8 ?hend_8
                case h0_8 =>
                  simp only [Act.put, List.setIfInBounds_toArray, List.set_cons_zero, List.set_cons_succ]
                  refine ⟨false, false, false, false, false, false, _, _, _, _, _, rfl, rfl, E9.drew, ?_⟩
                  simp
                case hend_8 =>
                  intro listed act_ w' hs hall hI
                  simp only [Act.put, List.setIfInBounds_toArray, List.set_cons_zero, List.set_cons_succ] at hI
                  obtain ⟨l0, l1, l2, l3, l4, l5, u54, u55, u56, u57, u58, rfl, rfl, EE, h54, h55, h56, h57, h58⟩ := hI
                  have t0 := hall 0 (by simp)
                  have t1 := hall 1 (by simp)
                  have t2 := hall 2 (by simp)
                  have t3 := hall 3 (by simp)
                  have t4 := hall 4 (by simp)
                  have t5 := hall 5 (by simp)
                  simp at t0 t1 t2 t3 t4 t5
                  obtain rfl := h54 t0
                  obtain rfl := h55 t1
                  obtain rfl := h56 t2
                  obtain rfl := h57 t3
                  obtain rfl := h58 t4
                  obtain rfl := t5
                  clear hall
                  go_upto_region 12 with fail
                  have m14' := List.mem_cons_of_mem (b11, q) m14
                  clear m14'
                  refine wp_region_inv' (fun A0 listed act_ w' => ∃ l0 l1 l2 l3 l4 : Bool, ∃ u59 u60 u61 u62 u63 : Value, listed = #[l0, l1, l2, l3, l4] ∧ act_ = (((((A0.put (some 59) u59).put (some 60) u60).put (some 61) u61).put (some 62) u62).put (some 63) u63) ∧ Ev w w' ((b11, q) :: L) ∧ (l0 = true → u59 = .agg #[.float .f64 y]) ∧ (l1 = true → u60 = .float .f64 y) ∧ (l2 = true → u61 = .agg #[.float .f64 z]) ∧ (l3 = true → u62 = .float .f64 z) ∧ (l4 = true → u63 = .bool false)) (by kernel_rfl) (by kernel_rfl) ?h0_7 ?hstep_7 ?hend_7
                  case h0_7 =>
                    simp only [Act.put, List.setIfInBounds_toArray, List.set_cons_zero, List.set_cons_succ]
                    refine ⟨false, false, false, false, false, _, _, _, _, _, rfl, rfl, EE.drew, ?_⟩
                    simp
                  case hend_7 =>
                    intro listed act_ w' hs hall hI
                    simp only [Act.put, List.setIfInBounds_toArray, List.set_cons_zero, List.set_cons_succ] at hI
                    obtain ⟨l0, l1, l2, l3, l4, u59, u60, u61, u62, u63, rfl, rfl, EE, h59, h60, h61, h62, h63⟩ := hI
                    have t0 := hall 0 (by simp)
                    have t1 := hall 1 (by simp)
                    have t2 := hall 2 (by simp)
                    have t3 := hall 3 (by simp)
                    have t4 := hall 4 (by simp)
                    simp at t0 t1 t2 t3 t4
                    obtain rfl := h59 t0
                    obtain rfl := h60 t1
                    obtain rfl := h61 t2
                    obtain rfl := h62 t3
                    obtain rfl := h63 t4
                    clear hall
                    have r11 := EE.cell (b := b11) (v := q) (by simp)
                    have z11 := EE.frz (b := b11) (v := q) (by simp)
                    go_wp2_with fail
                    refine (J4 _).mono ?_
                    rintro e w8 ⟨rfl, hb8⟩
                    have EF := (EE.call hb8).set h
                    have r12 := (EE.call hb8).cell (b := b11) (v := q) (by simp)
                    have z12 := (EE.call hb8).frz (b := b11) (v := q) (by simp)
                    go_wp2_with fail
                    go_meet
                    exact ⟨h, s, s5, hh, hs5, mF _ _ EF⟩
                  case hstep_7 =>
                    intro listed act_ w' i hs hi hI
                    simp only [Act.put, List.setIfInBounds_toArray, List.set_cons_zero, List.set_cons_succ] at hI ⊢
                    obtain ⟨l0, l1, l2, l3, l4, u59, u60, u61, u62, u63, rfl, rfl, EE, h59, h60, h61, h62, h63⟩ := hI
                    obtain ⟨hf, o, ho, hdep⟩ := mem_ready.1 hi
                    have hin : i = 0 ∨ i = 1 ∨ i = 2 ∨ i = 3 ∨ i = 4 := by
                      rcases Nat.lt_or_ge i 5 with h | h
                      · omega
                      · rw [Array.getElem?_eq_none h] at ho
                        cases ho
                    have EH := Lib.hid EE
                    clear EE  hi hs
                    rcases hin with rfl | rfl | rfl | rfl | rfl
                    all_goals
                      have ho2 := ho
                      simp only [List.getElem?_toArray, List.getElem?_cons_zero, List.getElem?_cons_succ, Option.some.injEq] at ho2
                      subst ho2
                      simp [Region.binds] at hdep hf
                      subst hf
                      refine wpOp_step ho (fun K hK => ?_)
                      replace hK := Lib.hid hK
                      clear ho
                    · have hq_ := EH.out.cell (b := N1) (v := y) (by simp [m4])
                      go_simp
                      refine hK.out _ _ ?_
                      exact ⟨_, _, _, _, _, _, _, _, _, _, rfl, rfl, EH.out, by first | exact h59 | exact fun _ => rfl, by first | exact h60 | exact fun _ => rfl, by first | exact h61 | exact fun _ => rfl, by first | exact h62 | exact fun _ => rfl, by first | exact h63 | exact fun _ => rfl⟩
                    · obtain rfl := h59 (by simp [hdep])
                      go_simp
                      go_at_call 26
                      refine (fvalueB _ _).mono ?_
                      rintro e w1 ⟨rfl, hb⟩
                      refine hK.out _ _ ?_
                      exact ⟨_, _, _, _, _, _, _, _, _, _, rfl, rfl, EH.out.call hb, by first | exact h59 | exact fun _ => rfl, by first | exact h60 | exact fun _ => rfl, by first | exact h61 | exact fun _ => rfl, by first | exact h62 | exact fun _ => rfl, by first | exact h63 | exact fun _ => rfl⟩
                    · have hq_ := EH.out.cell (b := N2) (v := z) (by simp [m5])
                      go_simp
                      refine hK.out _ _ ?_
                      exact ⟨_, _, _, _, _, _, _, _, _, _, rfl, rfl, EH.out, by first | exact h59 | exact fun _ => rfl, by first | exact h60 | exact fun _ => rfl, by first | exact h61 | exact fun _ => rfl, by first | exact h62 | exact fun _ => rfl, by first | exact h63 | exact fun _ => rfl⟩
                    · obtain rfl := h61 (by simp [hdep])
                      go_simp
                      go_at_call 26
                      refine (fvalueB _ _).mono ?_
                      rintro e w1 ⟨rfl, hb⟩
                      refine hK.out _ _ ?_
                      exact ⟨_, _, _, _, _, _, _, _, _, _, rfl, rfl, EH.out.call hb, by first | exact h59 | exact fun _ => rfl, by first | exact h60 | exact fun _ => rfl, by first | exact h61 | exact fun _ => rfl, by first | exact h62 | exact fun _ => rfl, by first | exact h63 | exact fun _ => rfl⟩
                    · obtain rfl := h60 (by simp [hdep])
                      obtain rfl := h62 (by simp [hdep])
                      go_simp
                      refine hK.out _ _ ?_
                      exact ⟨_, _, _, _, _, _, _, _, _, _, rfl, rfl, EH.out, by first | exact h59 | exact fun _ => rfl, by first | exact h60 | exact fun _ => rfl, by first | exact h61 | exact fun _ => rfl, by first | exact h62 | exact fun _ => rfl, by first | exact h63 | exact fun _ => rfl⟩
                case hstep_8 =>
                  intro listed act_ w' i hs hi hI
                  simp only [Act.put, List.setIfInBounds_toArray, List.set_cons_zero, List.set_cons_succ] at hI ⊢
                  obtain ⟨l0, l1, l2, l3, l4, l5, u54, u55, u56, u57, u58, rfl, rfl, EE, h54, h55, h56, h57, h58⟩ := hI
                  obtain ⟨hf, o, ho, hdep⟩ := mem_ready.1 hi
                  have hin : i = 0 ∨ i = 1 ∨ i = 2 ∨ i = 3 ∨ i = 4 ∨ i = 5 := by
                    rcases Nat.lt_or_ge i 6 with h | h
                    · omega
                    · rw [Array.getElem?_eq_none h] at ho
                      cases ho
                  have EH := Lib.hid EE
                  clear EE  hi hs
                  rcases hin with rfl | rfl | rfl | rfl | rfl | rfl
                  all_goals
                    have ho2 := ho
                    simp only [List.getElem?_toArray, List.getElem?_cons_zero, List.getElem?_cons_succ, Option.some.injEq] at ho2
                    subst ho2
                    simp [Region.binds] at hdep hf
                    subst hf
                    refine wpOp_step ho (fun K hK => ?_)
                    replace hK := Lib.hid hK
                    clear ho
                  · have hq_ := EH.out.cell (b := N1) (v := y) (by simp [m4])
                    go_simp
                    refine hK.out _ _ ?_
                    exact ⟨_, _, _, _, _, _, _, _, _, _, _, rfl, rfl, EH.out, by first | exact h54 | exact fun _ => rfl, by first | exact h55 | exact fun _ => rfl, by first | exact h56 | exact fun _ => rfl, by first | exact h57 | exact fun _ => rfl, by first | exact h58 | exact fun _ => rfl⟩
                  · have hq_ := EH.out.cell (b := N2) (v := z) (by simp [m5])
                    go_simp
                    refine hK.out _ _ ?_
                    exact ⟨_, _, _, _, _, _, _, _, _, _, _, rfl, rfl, EH.out, by first | exact h54 | exact fun _ => rfl, by first | exact h55 | exact fun _ => rfl, by first | exact h56 | exact fun _ => rfl, by first | exact h57 | exact fun _ => rfl, by first | exact h58 | exact fun _ => rfl⟩
                  · obtain rfl := h54 (by simp [hdep])
                    obtain rfl := h55 (by simp [hdep])
                    go_simp
                    go_at_call 43
                    refine (J1 _).mono ?_
                    rintro e w1 ⟨rfl, hb⟩
                    refine hK.out _ _ ?_
                    exact ⟨_, _, _, _, _, _, _, _, _, _, _, rfl, rfl, EH.out.call hb, by first | exact h54 | exact fun _ => rfl, by first | exact h55 | exact fun _ => rfl, by first | exact h56 | exact fun _ => rfl, by first | exact h57 | exact fun _ => rfl, by first | exact h58 | exact fun _ => rfl⟩
                  · have hq_ := EH.out.cell (b := b14) (v := d) (by simp [m14])
                    go_simp
                    refine hK.out _ _ ?_
                    exact ⟨_, _, _, _, _, _, _, _, _, _, _, rfl, rfl, EH.out, by first | exact h54 | exact fun _ => rfl, by first | exact h55 | exact fun _ => rfl, by first | exact h56 | exact fun _ => rfl, by first | exact h57 | exact fun _ => rfl, by first | exact h58 | exact fun _ => rfl⟩
                  · obtain rfl := h56 (by simp [hdep])
                    obtain rfl := h57 (by simp [hdep])
                    go_simp
                    go_at_call 39
                    refine (J2 _).mono ?_
                    rintro e w1 ⟨rfl, hb⟩
                    refine hK.out _ _ ?_
                    exact ⟨_, _, _, _, _, _, _, _, _, _, _, rfl, rfl, EH.out.call hb, by first | exact h54 | exact fun _ => rfl, by first | exact h55 | exact fun _ => rfl, by first | exact h56 | exact fun _ => rfl, by first | exact h57 | exact fun _ => rfl, by first | exact h58 | exact fun _ => rfl⟩
                  · obtain rfl := h58 (by simp [hdep])
                    have hq_ := EH.out.cell (b := b11) (v := 9221120237041090561) (by simp)
                    have hz_ := EH.out.frz (b := b11) (v := 9221120237041090561) (by simp)
                    go_simp
                    refine hK.out _ _ ?_
                    exact ⟨_, _, _, _, _, _, _, _, _, _, _, rfl, rfl, ((EH.out.perm (List.Perm.refl _)).set q).perm (List.Perm.refl _).symm, by first | exact h54 | exact fun _ => rfl, by first | exact h55 | exact fun _ => rfl, by first | exact h56 | exact fun _ => rfl, by first | exact h57 | exact fun _ => rfl, by first | exact h58 | exact fun _ => rfl⟩
              · obtain ⟨a, q, p, h, ea, eq, ep, eh, hh⟩ := HA.out hd hx hyz
                have J1 := fun w => fsubb y z a w ea
                have J2 := fun w => fdivb a d q w eq
                have J3 := fun w => faddc q _ p w ep
                have J4 := fun w => fmulc p _ h w eh
                go_upto_region 11 with fail
                obtain ⟨L, hL⟩ : ∃ L, L = [(b12, s), (b15, dv), (b14, d), (b13, li), (b10, MN), (b9, MX), (N5, 0), (N4, 0), (N3, 0), (N2, z), (N1, y), (w.heap.size, x)] := ⟨_, rfl⟩
                have m14 : (b14, d) ∈ L := by rw [hL]; simp
                have m3 : (w.heap.size, x) ∈ L := by rw [hL]; simp
                have m4 : (N1, y) ∈ L := by rw [hL]; simp
                have m5 : (N2, z) ∈ L := by rw [hL]; simp
                have mF : ∀ v c, Ev w c ((b11, v) :: L) → Ev w c [(N3, 0), (N4, 0), (N5, 0), (b11, v), (b12, s), (b13, li)] := by
                  intro v c hE
                  rw [hL] at hE
                  exact hE.pick13
                have E9 : Ev w wc ((b11, 9221120237041090561) :: L) := by
                  rw [hL]
                  exact E8.mid 3 _ (b11, 9221120237041090561) rfl rfl
                clear hL E8 q9 q3 q4 q5 HA HA' HB HC HN H10 K1 K2 K3 K4 K5 K6 K7 K8 K9 KL K0 hsz
                refine wp_region_inv' (fun A0 listed act_ w' => ∃ l0 l1 l2 l3 l4 l5 : Bool, ∃ u54 u55 u56 u57 u58 : Value, listed = #[l0, l1, l2, l3, l4, l5] ∧ act_ = (((((A0.put (some 54) u54).put (some 55) u55).put (some 56) u56).put (some 57) u57).put (some 58) u58) ∧ Ev w w' ((b11, cond l5 q 9221120237041090561) :: L) ∧ (l0 = true → u54 = .agg #[.float .f64 y]) ∧ (l1 = true → u55 = .agg #[.float .f64 z]) ∧ (l2 = true → u56 = .agg #[.float .f64 a]) ∧ (l3 = true → u57 = .agg #[.float .f64 d]) ∧ (l4 = true → u58 = .agg #[.float .f64 q])) (by kernel_rfl) (by kernel_rfl) ?h0_10 ?hstep_10 ?hend_10
                case h0_10 =>
                  simp only [Act.put, List.setIfInBounds_toArray, List.set_cons_zero, List.set_cons_succ]
                  refine ⟨false, false, false, false, false, false, _, _, _, _, _, rfl, rfl, E9.drew, ?_⟩
                  simp
                case hend_10 =>
                  intro listed act_ w' hs hall hI
                  simp only [Act.put, List.setIfInBounds_toArray, List.set_cons_zero, List.set_cons_succ] at hI
                  obtain ⟨l0, l1, l2, l3, l4, l5, u54, u55, u56, u57, u58, rfl, rfl, EE, h54, h55, h56, h57, h58⟩ := hI
                  have t0 := hall 0 (by simp)
                  have t1 := hall 1 (by simp)
                  have t2 := hall 2 (by simp)
                  have t3 := hall 3 (by simp)
                  have t4 := hall 4 (by simp)
                  have t5 := hall 5 (by simp)
                  simp at t0 t1 t2 t3 t4 t5
                  obtain rfl := h54 t0
                  obtain rfl := h55 t1
                  obtain rfl := h56 t2
                  obtain rfl := h57 t3
                  obtain rfl := h58 t4
                  obtain rfl := t5
                  clear hall
                  go_upto_region 12 with fail
                  have m14' := List.mem_cons_of_mem (b11, q) m14
                  clear m14'
                  refine wp_region_inv' (fun A0 listed act_ w' => ∃ l0 l1 l2 l3 l4 : Bool, ∃ u59 u60 u61 u62 u63 : Value, listed = #[l0, l1, l2, l3, l4] ∧ act_ = (((((A0.put (some 59) u59).put (some 60) u60).put (some 61) u61).put (some 62) u62).put (some 63) u63) ∧ Ev w w' ((b11, q) :: L) ∧ (l0 = true → u59 = .agg #[.float .f64 y]) ∧ (l1 = true → u60 = .float .f64 y) ∧ (l2 = true → u61 = .agg #[.float .f64 z]) ∧ (l3 = true → u62 = .float .f64 z) ∧ (l4 = true → u63 = .bool true)) (by kernel_rfl) (by kernel_rfl) ?h0_9 ?hstep_9 ?hend_9
                  case h0_9 =>
                    simp only [Act.put, List.setIfInBounds_toArray, List.set_cons_zero, List.set_cons_succ]
                    refine ⟨false, false, false, false, false, _, _, _, _, _, rfl, rfl, EE.drew, ?_⟩
                    simp
                  case hend_9 =>
                    intro listed act_ w' hs hall hI
                    simp only [Act.put, List.setIfInBounds_toArray, List.set_cons_zero, List.set_cons_succ] at hI
                    obtain ⟨l0, l1, l2, l3, l4, u59, u60, u61, u62, u63, rfl, rfl, EE, h59, h60, h61, h62, h63⟩ := hI
                    have t0 := hall 0 (by simp)
                    have t1 := hall 1 (by simp)
                    have t2 := hall 2 (by simp)
                    have t3 := hall 3 (by simp)
                    have t4 := hall 4 (by simp)
                    simp at t0 t1 t2 t3 t4
                    obtain rfl := h59 t0
                    obtain rfl := h60 t1
                    obtain rfl := h61 t2
                    obtain rfl := h62 t3
                    obtain rfl := h63 t4
                    clear hall
                    have r11 := EE.cell (b := b11) (v := q) (by simp)
                    have z11 := EE.frz (b := b11) (v := q) (by simp)
                    go_wp2_with fail
                    refine (J3 _).mono ?_
                    rintro e w7 ⟨rfl, hb7⟩
                    have r13 := (EE.call hb7).cell (b := b11) (v := q) (by simp)
                    have z13 := (EE.call hb7).frz (b := b11) (v := q) (by simp)
                    have EG := (EE.call hb7).set p
                    clear EE
                    have EE := EG
                    clear EG
                    go_upto_region 18 with fail
                    generalize w7.setCell _ _ = w9 at *
                    have r11 := EE.cell (b := b11) (v := p) (by simp)
                    have z11 := EE.frz (b := b11) (v := p) (by simp)
                    go_wp2_with fail
                    refine (J4 _).mono ?_
                    rintro e w8 ⟨rfl, hb8⟩
                    have EF := (EE.call hb8).set h
                    have r12 := (EE.call hb8).cell (b := b11) (v := p) (by simp)
                    have z12 := (EE.call hb8).frz (b := b11) (v := p) (by simp)
                    go_wp2_with fail
                    go_meet
                    exact ⟨h, s, s5, hh, hs5, mF _ _ EF⟩
                  case hstep_9 =>
                    intro listed act_ w' i hs hi hI
                    simp only [Act.put, List.setIfInBounds_toArray, List.set_cons_zero, List.set_cons_succ] at hI ⊢
                    obtain ⟨l0, l1, l2, l3, l4, u59, u60, u61, u62, u63, rfl, rfl, EE, h59, h60, h61, h62, h63⟩ := hI
                    obtain ⟨hf, o, ho, hdep⟩ := mem_ready.1 hi
                    have hin : i = 0 ∨ i = 1 ∨ i = 2 ∨ i = 3 ∨ i = 4 := by
                      rcases Nat.lt_or_ge i 5 with h | h
                      · omega
                      · rw [Array.getElem?_eq_none h] at ho
                        cases ho
                    have EH := Lib.hid EE
                    clear EE  hi hs
                    rcases hin with rfl | rfl | rfl | rfl | rfl
                    all_goals
                      have ho2 := ho
                      simp only [List.getElem?_toArray, List.getElem?_cons_zero, List.getElem?_cons_succ, Option.some.injEq] at ho2
                      subst ho2
                      simp [Region.binds] at hdep hf
                      subst hf
                      refine wpOp_step ho (fun K hK => ?_)
                      replace hK := Lib.hid hK
                      clear ho
                    · have hq_ := EH.out.cell (b := N1) (v := y) (by simp [m4])
                      go_simp
                      refine hK.out _ _ ?_
                      exact ⟨_, _, _, _, _, _, _, _, _, _, rfl, rfl, EH.out, by first | exact h59 | exact fun _ => rfl, by first | exact h60 | exact fun _ => rfl, by first | exact h61 | exact fun _ => rfl, by first | exact h62 | exact fun _ => rfl, by first | exact h63 | exact fun _ => rfl⟩
                    · obtain rfl := h59 (by simp [hdep])
                      go_simp
                      go_at_call 26
                      refine (fvalueB _ _).mono ?_
                      rintro e w1 ⟨rfl, hb⟩
                      refine hK.out _ _ ?_
                      exact ⟨_, _, _, _, _, _, _, _, _, _, rfl, rfl, EH.out.call hb, by first | exact h59 | exact fun _ => rfl, by first | exact h60 | exact fun _ => rfl, by first | exact h61 | exact fun _ => rfl, by first | exact h62 | exact fun _ => rfl, by first | exact h63 | exact fun _ => rfl⟩
                    · have hq_ := EH.out.cell (b := N2) (v := z) (by simp [m5])
                      go_simp
                      refine hK.out _ _ ?_
                      exact ⟨_, _, _, _, _, _, _, _, _, _, rfl, rfl, EH.out, by first | exact h59 | exact fun _ => rfl, by first | exact h60 | exact fun _ => rfl, by first | exact h61 | exact fun _ => rfl, by first | exact h62 | exact fun _ => rfl, by first | exact h63 | exact fun _ => rfl⟩
                    · obtain rfl := h61 (by simp [hdep])
                      go_simp
                      go_at_call 26
                      refine (fvalueB _ _).mono ?_
                      rintro e w1 ⟨rfl, hb⟩
                      refine hK.out _ _ ?_
                      exact ⟨_, _, _, _, _, _, _, _, _, _, rfl, rfl, EH.out.call hb, by first | exact h59 | exact fun _ => rfl, by first | exact h60 | exact fun _ => rfl, by first | exact h61 | exact fun _ => rfl, by first | exact h62 | exact fun _ => rfl, by first | exact h63 | exact fun _ => rfl⟩
                    · obtain rfl := h60 (by simp [hdep])
                      obtain rfl := h62 (by simp [hdep])
                      go_simp
                      refine hK.out _ _ ?_
                      exact ⟨_, _, _, _, _, _, _, _, _, _, rfl, rfl, EH.out, by first | exact h59 | exact fun _ => rfl, by first | exact h60 | exact fun _ => rfl, by first | exact h61 | exact fun _ => rfl, by first | exact h62 | exact fun _ => rfl, by first | exact h63 | exact fun _ => rfl⟩
                case hstep_10 =>
                  intro listed act_ w' i hs hi hI
                  simp only [Act.put, List.setIfInBounds_toArray, List.set_cons_zero, List.set_cons_succ] at hI ⊢
                  obtain ⟨l0, l1, l2, l3, l4, l5, u54, u55, u56, u57, u58, rfl, rfl, EE, h54, h55, h56, h57, h58⟩ := hI
                  obtain ⟨hf, o, ho, hdep⟩ := mem_ready.1 hi
                  have hin : i = 0 ∨ i = 1 ∨ i = 2 ∨ i = 3 ∨ i = 4 ∨ i = 5 := by
                    rcases Nat.lt_or_ge i 6 with h | h
                    · omega
                    · rw [Array.getElem?_eq_none h] at ho
                      cases ho
                  have EH := Lib.hid EE
                  clear EE  hi hs
                  rcases hin with rfl | rfl | rfl | rfl | rfl | rfl
                  all_goals
                    have ho2 := ho
                    simp only [List.getElem?_toArray, List.getElem?_cons_zero, List.getElem?_cons_succ, Option.some.injEq] at ho2
                    subst ho2
                    simp [Region.binds] at hdep hf
                    subst hf
                    refine wpOp_step ho (fun K hK => ?_)
                    replace hK := Lib.hid hK
                    clear ho
                  · have hq_ := EH.out.cell (b := N1) (v := y) (by simp [m4])
                    go_simp
                    refine hK.out _ _ ?_
                    exact ⟨_, _, _, _, _, _, _, _, _, _, _, rfl, rfl, EH.out, by first | exact h54 | exact fun _ => rfl, by first | exact h55 | exact fun _ => rfl, by first | exact h56 | exact fun _ => rfl, by first | exact h57 | exact fun _ => rfl, by first | exact h58 | exact fun _ => rfl⟩
                  · have hq_ := EH.out.cell (b := N2) (v := z) (by simp [m5])
                    go_simp
                    refine hK.out _ _ ?_
                    exact ⟨_, _, _, _, _, _, _, _, _, _, _, rfl, rfl, EH.out, by first | exact h54 | exact fun _ => rfl, by first | exact h55 | exact fun _ => rfl, by first | exact h56 | exact fun _ => rfl, by first | exact h57 | exact fun _ => rfl, by first | exact h58 | exact fun _ => rfl⟩
                  · obtain rfl := h54 (by simp [hdep])
                    obtain rfl := h55 (by simp [hdep])
                    go_simp
                    go_at_call 43
                    refine (J1 _).mono ?_
                    rintro e w1 ⟨rfl, hb⟩
                    refine hK.out _ _ ?_
                    exact ⟨_, _, _, _, _, _, _, _, _, _, _, rfl, rfl, EH.out.call hb, by first | exact h54 | exact fun _ => rfl, by first | exact h55 | exact fun _ => rfl, by first | exact h56 | exact fun _ => rfl, by first | exact h57 | exact fun _ => rfl, by first | exact h58 | exact fun _ => rfl⟩
                  · have hq_ := EH.out.cell (b := b14) (v := d) (by simp [m14])
                    go_simp
                    refine hK.out _ _ ?_
                    exact ⟨_, _, _, _, _, _, _, _, _, _, _, rfl, rfl, EH.out, by first | exact h54 | exact fun _ => rfl, by first | exact h55 | exact fun _ => rfl, by first | exact h56 | exact fun _ => rfl, by first | exact h57 | exact fun _ => rfl, by first | exact h58 | exact fun _ => rfl⟩
                  · obtain rfl := h56 (by simp [hdep])
                    obtain rfl := h57 (by simp [hdep])
                    go_simp
                    go_at_call 39
                    refine (J2 _).mono ?_
                    rintro e w1 ⟨rfl, hb⟩
                    refine hK.out _ _ ?_
                    exact ⟨_, _, _, _, _, _, _, _, _, _, _, rfl, rfl, EH.out.call hb, by first | exact h54 | exact fun _ => rfl, by first | exact h55 | exact fun _ => rfl, by first | exact h56 | exact fun _ => rfl, by first | exact h57 | exact fun _ => rfl, by first | exact h58 | exact fun _ => rfl⟩
                  · obtain rfl := h58 (by simp [hdep])
                    have hq_ := EH.out.cell (b := b11) (v := 9221120237041090561) (by simp)
                    have hz_ := EH.out.frz (b := b11) (v := 9221120237041090561) (by simp)
                    go_simp
                    refine hK.out _ _ ?_
                    exact ⟨_, _, _, _, _, _, _, _, _, _, _, rfl, rfl, ((EH.out.perm (List.Perm.refl _)).set q).perm (List.Perm.refl _).symm, by first | exact h54 | exact fun _ => rfl, by first | exact h55 | exact fun _ => rfl, by first | exact h56 | exact fun _ => rfl, by first | exact h57 | exact fun _ => rfl, by first | exact h58 | exact fun _ => rfl⟩
      · have hd2 : (FloatKind.f64.format.order d 0 != some Ordering.eq) = false := by unfold bne; rw [hd]; rfl
        rw [hd2]
        go_wp2_with fail
        go_meet
        refine ⟨9221120237041090561, 0, 0, HN.out hd, by decide +kernel, E5.pick12⟩
    case rest =>
      obtain ⟨h, s, s5, hh, hs5, E6⟩ := hcut
      have KS := fun w => fmulc s _ s5 w hs5
      go_upto_region 19 with fail
      obtain ⟨L, hL⟩ : ∃ L, L = [(b11, h), (b12, s), (b13, li)] := ⟨_, rfl⟩
      have m11 : (b11, h) ∈ L := by rw [hL]; simp
      have m12 : (b12, s) ∈ L := by rw [hL]; simp
      have m13 : (b13, li) ∈ L := by rw [hL]; simp
      rw [← hL] at E6
      clear hL
      refine wp_region_inv' (fun A0 listed act_ w' => ∃ l0 l1 l2 l3 l4 l5 l6 l7 : Bool, ∃ u86 u87 u88 u89 u90 : Value, listed = #[l0, l1, l2, l3, l4, l5, l6, l7] ∧ act_ = (((((A0.put (some 86) u86).put (some 87) u87).put (some 88) u88).put (some 89) u89).put (some 90) u90) ∧ Ev w w' ((N3, cond l5 h 0) :: ((N4, cond l6 s5 0) :: ((N5, cond l7 lt5 0) :: L))) ∧ (l0 = true → u86 = .agg #[.float .f64 h]) ∧ (l1 = true → u87 = .agg #[.float .f64 s]) ∧ (l2 = true → u88 = .agg #[.float .f64 s5]) ∧ (l3 = true → u89 = .agg #[.float .f64 li]) ∧ (l4 = true → u90 = .agg #[.float .f64 lt5])) (by kernel_rfl) (by kernel_rfl) ?h0_4 ?hstep_4 ?hend_4
      case h0_4 =>
        simp only [Act.put, List.setIfInBounds_toArray, List.set_cons_zero, List.set_cons_succ]
        refine ⟨false, false, false, false, false, false, false, false, _, _, _, _, _, rfl, rfl, E6.drew, ?_⟩
        simp
      case hend_4 =>
        intro listed act_ w' hs hall hI
        simp only [Act.put, List.setIfInBounds_toArray, List.set_cons_zero, List.set_cons_succ] at hI
        obtain ⟨l0, l1, l2, l3, l4, l5, l6, l7, u86, u87, u88, u89, u90, rfl, rfl, EE, h86, h87, h88, h89, h90⟩ := hI
        have t0 := hall 0 (by simp)
        have t1 := hall 1 (by simp)
        have t2 := hall 2 (by simp)
        have t3 := hall 3 (by simp)
        have t4 := hall 4 (by simp)
        have t5 := hall 5 (by simp)
        have t6 := hall 6 (by simp)
        have t7 := hall 7 (by simp)
        simp at t0 t1 t2 t3 t4 t5 t6 t7
        obtain rfl := h86 t0
        obtain rfl := h87 t1
        obtain rfl := h88 t2
        obtain rfl := h89 t3
        obtain rfl := h90 t4
        obtain rfl := t5
        obtain rfl := t6
        obtain rfl := t7
        clear hall
        go_wp2_with fail
        have r6 := EE.cell (b := N3) (v := h) (by simp)
        have r7 := EE.cell (b := N4) (v := s5) (by simp)
        have r8 := EE.cell (b := N5) (v := lt5) (by simp)
        exact bodyPost_ret (v := .tuple #[.agg #[.float .f64 h], .agg #[.float .f64 s5], .agg #[.float .f64 lt5]]) (by simp [results, Try.results31, go_sem, r6, r7, r8]) rfl ⟨⟨h, ⟨s5, lt5, rfl⟩, hh⟩, EE.below⟩
      case hstep_4 =>
        intro listed act_ w' i hs hi hI
        simp only [Act.put, List.setIfInBounds_toArray, List.set_cons_zero, List.set_cons_succ] at hI ⊢
        obtain ⟨l0, l1, l2, l3, l4, l5, l6, l7, u86, u87, u88, u89, u90, rfl, rfl, EE, h86, h87, h88, h89, h90⟩ := hI
        obtain ⟨hf, o, ho, hdep⟩ := mem_ready.1 hi
        have hin : i = 0 ∨ i = 1 ∨ i = 2 ∨ i = 3 ∨ i = 4 ∨ i = 5 ∨ i = 6 ∨ i = 7 := by
          rcases Nat.lt_or_ge i 8 with h | h
          · omega
          · rw [Array.getElem?_eq_none h] at ho
            cases ho
        have EH := Lib.hid EE
        clear EE  hi hs
        rcases hin with rfl | rfl | rfl | rfl | rfl | rfl | rfl | rfl
        all_goals
          have ho2 := ho
          simp only [List.getElem?_toArray, List.getElem?_cons_zero, List.getElem?_cons_succ, Option.some.injEq] at ho2
          subst ho2
          simp [Region.binds] at hdep hf
          subst hf
          refine wpOp_step ho (fun K hK => ?_)
          replace hK := Lib.hid hK
          clear ho
        · have hq_ := EH.out.cell (b := b11) (v := h) (by simp [m11])
          go_simp
          refine hK.out _ _ ?_
          exact ⟨_, _, _, _, _, _, _, _, _, _, _, _, _, rfl, rfl, EH.out, by first | exact h86 | exact fun _ => rfl, by first | exact h87 | exact fun _ => rfl, by first | exact h88 | exact fun _ => rfl, by first | exact h89 | exact fun _ => rfl, by first | exact h90 | exact fun _ => rfl⟩
        · have hq_ := EH.out.cell (b := b12) (v := s) (by simp [m12])
          go_simp
          refine hK.out _ _ ?_
          exact ⟨_, _, _, _, _, _, _, _, _, _, _, _, _, rfl, rfl, EH.out, by first | exact h86 | exact fun _ => rfl, by first | exact h87 | exact fun _ => rfl, by first | exact h88 | exact fun _ => rfl, by first | exact h89 | exact fun _ => rfl, by first | exact h90 | exact fun _ => rfl⟩
        · obtain rfl := h87 (by simp [hdep])
          go_simp
          go_at_call 36
          refine (KS _).mono ?_
          rintro e w1 ⟨rfl, hb⟩
          refine hK.out _ _ ?_
          exact ⟨_, _, _, _, _, _, _, _, _, _, _, _, _, rfl, rfl, EH.out.call hb, by first | exact h86 | exact fun _ => rfl, by first | exact h87 | exact fun _ => rfl, by first | exact h88 | exact fun _ => rfl, by first | exact h89 | exact fun _ => rfl, by first | exact h90 | exact fun _ => rfl⟩
        · have hq_ := EH.out.cell (b := b13) (v := li) (by simp [m13])
          go_simp
          refine hK.out _ _ ?_
          exact ⟨_, _, _, _, _, _, _, _, _, _, _, _, _, rfl, rfl, EH.out, by first | exact h86 | exact fun _ => rfl, by first | exact h87 | exact fun _ => rfl, by first | exact h88 | exact fun _ => rfl, by first | exact h89 | exact fun _ => rfl, by first | exact h90 | exact fun _ => rfl⟩
        · obtain rfl := h89 (by simp [hdep])
          go_simp
          go_at_call 36
          refine (KL _).mono ?_
          rintro e w1 ⟨rfl, hb⟩
          refine hK.out _ _ ?_
          exact ⟨_, _, _, _, _, _, _, _, _, _, _, _, _, rfl, rfl, EH.out.call hb, by first | exact h86 | exact fun _ => rfl, by first | exact h87 | exact fun _ => rfl, by first | exact h88 | exact fun _ => rfl, by first | exact h89 | exact fun _ => rfl, by first | exact h90 | exact fun _ => rfl⟩
        · obtain rfl := h86 (by simp [hdep])
          have hq_ := EH.out.cell (b := N3) (v := 0) (by simp)
          have hz_ := EH.out.frz (b := N3) (v := 0) (by simp)
          go_simp
          refine hK.out _ _ ?_
          exact ⟨_, _, _, _, _, _, _, _, _, _, _, _, _, rfl, rfl, ((EH.out.perm (List.Perm.refl _)).set h).perm (List.Perm.refl _).symm, by first | exact h86 | exact fun _ => rfl, by first | exact h87 | exact fun _ => rfl, by first | exact h88 | exact fun _ => rfl, by first | exact h89 | exact fun _ => rfl, by first | exact h90 | exact fun _ => rfl⟩
        · obtain rfl := h88 (by simp [hdep])
          have hq_ := EH.out.cell (b := N4) (v := 0) (by simp)
          have hz_ := EH.out.frz (b := N4) (v := 0) (by simp)
          go_simp
          refine hK.out _ _ ?_
          exact ⟨_, _, _, _, _, _, _, _, _, _, _, _, _, rfl, rfl, ((EH.out.perm (List.Perm.swap _ _ _)).set s5).perm (List.Perm.swap _ _ _).symm, by first | exact h86 | exact fun _ => rfl, by first | exact h87 | exact fun _ => rfl, by first | exact h88 | exact fun _ => rfl, by first | exact h89 | exact fun _ => rfl, by first | exact h90 | exact fun _ => rfl⟩
        · obtain rfl := h90 (by simp [hdep])
          have hq_ := EH.out.cell (b := N5) (v := 0) (by simp)
          have hz_ := EH.out.frz (b := N5) (v := 0) (by simp)
          go_simp
          refine hK.out _ _ ?_
          exact ⟨_, _, _, _, _, _, _, _, _, _, _, _, _, rfl, rfl, ((EH.out.perm (((List.Perm.swap _ _ _).cons _).trans (List.Perm.swap _ _ _))).set lt5).perm (((List.Perm.swap _ _ _).cons _).trans (List.Perm.swap _ _ _)).symm, by first | exact h86 | exact fun _ => rfl, by first | exact h87 | exact fun _ => rfl, by first | exact h88 | exact fun _ => rfl, by first | exact h89 | exact fun _ => rfl, by first | exact h90 | exact fun _ => rfl⟩
end Go.Proofs.Ytecdhjhobjagkaa
