/-
  The dead-selectors law's walk. Conditions: the shapes of the lists.
-/
import Derived.Deep.DeepCutAuto
import Derived.Test.YtlhcgnlbhncfkaaRf
namespace Go.Proofs.Ytlhcgnlbhncfkaa
open Go.ChangeShapes Go.WideShapes Go.ChangeAt Go.RowKit
set_option maxRecDepth 20000 in
set_option maxHeartbeats 4000000 in
theorem walk7 (a0 : Option Addr) (len0 cap0 : Nat) (z0 : List Int) (a1 : Option Addr) (len1 cap1 : Nat) (z1 : List Int) (a2 : Option Addr) (len2 cap2 : Nat) (z2 : List Int) (a3 : Int) (w : World) (w0 : IsRow .u8 w a0 len0 cap0 z0) (w1 : IsRow .u8 w a1 len1 cap1 z1) (w2 : IsRow .u8 w a2 len2 cap2 z2) (w3 : (Lit.int .i64 a3).wf = true) :
    Calls Try.prog 7 #[.slice a0 len0 cap0, .slice a1 len1 cap1, .slice a2 len2 cap2, .int .i64 a3] w fun e w' => e = .returned (.bool true) ∧ Below w.heap.size w w' := by
  obtain ⟨r0, m0⟩ := w0.row
  obtain ⟨r1, m1⟩ := w1.row
  obtain ⟨r2, m2⟩ := w2.row
  clear w0 w1 w2
  have R0 := Lib.hid r0
  have R1 := Lib.hid r1
  have R2 := Lib.hid r2
  clear r0 r1 r2
  obtain ⟨i33, hi33⟩ : ∃ i, Try.prog.info? 33 = some i := by cases h : Try.prog.info? 33 with
    | some i => exact ⟨i, rfl⟩
    | none => have := info33; rw [h] at this; cases this
  have hi33' := info33
  rw [hi33] at hi33'
  simp at hi33'
  obtain ⟨z31, z32, z33⟩ := hi33'
  go_enter Try.func7, Try.ntmps7
  go_wp2_with fail
  refine (bytes23 a0 a1 a2 len0 len1 len2 cap0 cap1 cap2 a3 _).mono ?_
  rintro e wx ⟨⟨b, rfl, hb⟩, hw⟩
  obtain rfl := hw.symm
  clear hw
  cases b
  · go_wp2_with fail
    exact bodyPost_ret (v := .bool true) (by simp [results, Try.results7, go_sem]) rfl ⟨rfl, Below.refl _ _⟩
  have hsum := hb rfl
  clear hb
  rcases Nat.lt_or_ge 4096 len0 with g0 | g0
  · go_wp2_with fail
    exact bodyPost_ret (v := .bool true) (by simp [results, Try.results7, go_sem]) rfl ⟨rfl, Below.refl _ _⟩
  rcases Nat.lt_or_ge 65536 len1 with g1 | g1
  · go_wp2_with fail
    exact bodyPost_ret (v := .bool true) (by simp [results, Try.results7, go_sem]) rfl ⟨rfl, Below.refl _ _⟩
  rcases Nat.lt_or_ge 65536 len2 with g2 | g2
  · go_wp2_with fail
    exact bodyPost_ret (v := .bool true) (by simp [results, Try.results7, go_sem]) rfl ⟨rfl, Below.refl _ _⟩
  go_wp2_with fail
  refine (build24 a0 a1 a2 len0 len1 len2 cap0 cap1 cap2 z0 z1 z2 _ g0 g1 g2 R0.out R1.out R2.out).mono ?_
  rintro e wb ⟨⟨f, g, xs, D, rfl, ho, hc⟩, hb2⟩
  have HO := Lib.hid ho
  have HC := Lib.hid hc
  have HB := Lib.hid hb2
  clear ho hc hb2 R0 R1 R2
  go_upto_if 54 with fail
  go_cut [11] (fun vk wx => ∃ k1 : Int, 0 ≤ k1 ∧ (Lit.int .i64 k1).wf = true ∧ vk = .int .i64 k1 ∧ wx = wb)
  case first =>
    by_cases h0 : a3 < 0
    · go_wp2_with fail
      go_meet
      exact ⟨0, by omega, by decide, rfl, rfl⟩
    · go_wp2_with fail
      go_meet
      exact ⟨a3, by omega, w3, rfl, rfl⟩
  case rest =>
    obtain ⟨k1, hk1, hwk, rfl, rfl⟩ := ‹∃ k1 : Int, _›
    go_upto_if 58 with fail
    go_cut [11] (fun vk wx => ∃ K : Nat, K ≤ len0 ∧ vk = .int .i64 (K : Int) ∧ wx = wc)
    case first =>
      by_cases h0 : (len0 : Int) < k1
      · go_wp2_with fail
        go_meet
        exact ⟨len0, by omega, rfl, rfl⟩
      · obtain ⟨K, rfl⟩ : ∃ K : Nat, k1 = K := ⟨k1.toNat, by omega⟩
        have h1 : ¬ len0 < K := by omega
        go_wp2_with fail
        go_meet
        exact ⟨K, by omega, rfl, rfl⟩
    case rest =>
      obtain ⟨K, hK, rfl, hw⟩ := ‹∃ K : Nat, _›
      subst hw
      have CR0 := HC.out.row HO.out 0 len0 (by omega)
      have CR1 := HC.out.row HO.out 0 K (by omega)
      simp only [Nat.zero_mul, Nat.zero_add] at CR0 CR1
      have CR2 := HC.out.row HO.out K (len0 - K) (by omega)
      have C0 := Lib.hid CR0
      have C1 := Lib.hid CR1
      have C2 := Lib.hid CR2
      clear CR0 CR1 CR2
      have hK2 : K ≤ 4096 := by omega
      go_wp2_with fail
      refine (zz25 (some ⟨g, 0, none⟩) len0 len0 D _ (by omega) C0.out).mono ?_
      rintro e u1 ⟨⟨b1, rfl, hb1⟩, hl1⟩
      have F1 := Lib.hid hb1
      have L1 := Lib.hid hl1
      clear hb1 hl1
      go_wp2_with fail
      refine (zz25 _ K _ D _ (by omega) ((C1.out.below L1.out).at ?sl1)).mono ?_
      case sl1 => intro hpos; simp
      rintro e u2 ⟨⟨b2, rfl, hb2⟩, hl2⟩
      have F2 := Lib.hid hb2
      have L2 := Lib.hid (L1.out.trans (hl2.mono L1.out.size))
      clear hb2 hl2
      go_wp2_with fail
      · refine (zz25 (some ⟨g, 0, none⟩) 0 0 (fun i => D (K + i)) _ (by omega) (fun h => absurd h (by omega))).mono ?_
        rintro e u3 ⟨⟨b3, rfl, hb3⟩, hl3⟩
        have FX : b1 = (b2 || b3) := by
          rw [Bool.eq_iff_iff, Bool.or_eq_true, F1.out, F2.out, hb3]
          constructor
          · rintro ⟨i, hi, hd⟩
            by_cases e : i < K
            · exact .inl ⟨i, e, hd⟩
            · exact .inr ⟨i - K, by omega, by rw [show K + (i - K) = i by omega]; exact hd⟩
          · rintro (⟨i, hi, hd⟩ | ⟨i, hi, hd⟩)
            · exact ⟨i, by omega, hd⟩
            · exact ⟨K + i, by omega, hd⟩
        have L3 := Lib.hid (L2.out.trans (hl3.mono L2.out.size))
        have LW := Lib.hid (HB.out.trans (L3.out.mono HB.out.size))
        clear hb3 hl3
        obtain rfl : len0 = K := by omega
        have hsw := LW.out.size
        clear F2 L1 L2 C1 C2
        have hs3 := L3.out.size
        go_wp2_with (at_make; go_loud (refine wpList_make_own _ rfl _ _ 63 rfl wc.heap.size 33 i33 _ 6 (by kernel_rfl) hi33 z31 z32 .i64 .i64 _ len0 rfl rfl rfl ?d1x ?d2x ?d3x ?_))
        case d1x => have := Nat.mul_le_mul z33 g0; omega
        case d2x => unfold maxLen; omega
        case d3x => omega
        intro w5 ho5 hg5
        have HLr := Lib.hid (show Lr wc len0 D (.slice (some ⟨u3.heap.size, 0, none⟩) 0 len0) (.int .i64 ((len0 : Int) - 1)) w5 from ⟨⟨0, _, [], by omega, rfl, by simp, ho5, rfl, fun i h => by omega⟩, L3.out.trans ⟨hg5.os, hg5.tape, hg5.output, hg5.size, fun k hk => hg5.block k (by omega) (by simp)⟩⟩)
        clear ho5 hg5
        go_wp2_with fail
        go_loopw [15, 16] (fun vr vi wr => Lr wc len0 D vr vi wr) (fun _ vi _ => (intOf vi + 1).toNat)
        case atStart => exact HLr.out
        case round =>
          obtain ⟨r, gr, ys, hr, rfl, rfl, hor, hcr⟩ := hrel.ex
          have HBr := Lib.hid hrel.below
          clear hrel HLr
          by_cases hlt : r < len0
          · obtain ⟨i, hi⟩ : ∃ i : Nat, (len0 : Int) - 1 - r = (i : Int) := ⟨len0 - 1 - r, by omega⟩
            rw [hi]
            have hil : i < len0 := by omega
            have HI := Lib.hid (show i = len0 - 1 - r by omega)
            clear hi
            obtain ⟨g', m', f', q0, q1, q2, q3, q4, q5, hm', hcc, hd⟩ := HC.out.2 i hil
            have hgl : g < wc.heap.size := by
              obtain ⟨cur, hcur⟩ := own_block HO.out g rfl
              exact (Array.getElem?_eq_some_iff.1 hcur).1
            have cell : ∀ o, wr.cell? ⟨g, o, none⟩ = wc.cell? ⟨g, o, none⟩ := fun o => HBr.out.cell (p := ⟨g, o, none⟩) hgl
            replace q0 := own_cells HO.out _ _ q0
            replace q1 := own_cells HO.out _ _ q1
            replace q2 := own_cells HO.out _ _ q2
            replace q3 := own_cells HO.out _ _ q3
            replace q4 := own_cells HO.out _ _ q4
            replace q5 := own_cells HO.out _ _ q5
            rw [← cell] at q0 q1 q2 q3 q4 q5
            have OR := Lib.hid hor
            have CR := Lib.hid hcr
            have CC := Lib.hid hcc
            have HD := Lib.hid hd
            have hsr := HBr.out.size
            clear hor hcr hcc hd cell
            go_wp2_with (at_builtin; go_loud (refine wpList_append_fits _ rfl _ _ 63 rfl wc.heap.size 33 i33 6 (by kernel_rfl) hi33 z32 gr r len0 ys rfl (OR.out.alloc _) ⟨wr.heap.size, 0, none⟩ 1 1 [.pointer none, .slice (some ⟨g', 0, none⟩) m' m', .slice none 0 0, .int .i32 0, .int .u8 0, .bool false] rfl rfl ?e1x ?e2x ?e3x ?_))
            case e1x =>
              intro j u hj
              exact fresh_cells _ _ _ _ rfl j u (by exact hj)
            case e2x => intro u hu; simp at hu; rcases hu with rfl | rfl | rfl | rfl | rfl | rfl <;> rfl
            case e3x => omega
            intro w7 ho7 hg7
            have L7 : Lr wc len0 D (.slice (some ⟨gr, 0, none⟩) (r + 1) len0) (.int .i64 ((i : Int) - 1)) w7 := by
              obtain ⟨cur, hcur⟩ := own_block (OR.out.alloc _) gr rfl
              have k67 := (K33.alloc _ _).trans (K33.grow hg7 hcur)
              have hge := own_ge OR.out gr rfl
              have hi := HI.out
              refine ⟨⟨r + 1, gr, _, by omega, rfl, by congr 1; omega, ho7, ?_⟩, ?_⟩
              · have e : (fun j => D (len0 - 1 - j)) = fun j => if j = r then D i else D (len0 - 1 - j) := by
                  funext j
                  by_cases e : j = r
                  · subst e; simp [hi]
                  · simp [e]
                rw [e]
                exact (CR.out.k33 k67).snoc hm' (CC.out.k33 ((K33.below HBr.out).trans k67)) (D i) HD.out
              · exact (HBr.out.alloc hsr _).trans ⟨hg7.os, hg7.tape, hg7.output, hg7.size, fun k hk => hg7.block k (by simp; omega) (by intro e; injection e with e; omega)⟩
            have LL := Lib.hid L7
            clear L7 ho7 hg7 OR CR CC HD
            go_wp2_with fail
            go_roundw
            case rel => exact LL.out
            case measure => simp [intOf]
          · have e : r = len0 := by omega
            subst e
            have CRr := hcr.row hor 0 r (by omega)
            simp only [Nat.zero_mul, Nat.zero_add] at CRr
            have C4 := Lib.hid CRr
            clear hor hcr CRr
            have en : (r : Int) - 1 - (r : Int) = -1 := by omega
            rw [en]
            clear en
            have G1 := F1.out
            clear F1
            subst FX
            cases b2 <;> cases b3
            all_goals
              have F1 := Lib.hid G1
              clear G1
              go_wp2_with fail
              refine (zz25 (some ⟨gr, 0, none⟩) r r (fun j => D (r - 1 - j)) _ (by omega) C4.out).mono ?_
              rintro e u8 ⟨⟨b4, rfl, hb4⟩, hl8⟩
              have hb5 := F1.out.trans ⟨fun ⟨i, h, d⟩ => (⟨r - 1 - i, by omega, by rw [show r - 1 - (r - 1 - i) = i by omega]; exact d⟩ : ∃ i, i < r ∧ D (r - 1 - i) = true), fun ⟨i, h, d⟩ => ⟨r - 1 - i, by omega, d⟩⟩
              have hb6 := hb5.trans hb4.symm
              have BB := Lib.hid (HB.out.trans ((HBr.out.trans (hl8.mono HBr.out.size)).mono HB.out.size))
              clear hb4 hb5 hl8 F1
              cases b4
              all_goals first | (exfalso; revert hb6; decide) | skip
              all_goals
                clear hb6
                go_wp2_with fail
                exact bodyPost_ret (v := .bool true) (by simp [results, Try.results7, go_sem]) rfl ⟨rfl, BB.out⟩
      · refine (zz25 (some ⟨g, K * 6, none⟩) (len0 - K) (len0 - K) (fun i => D (K + i)) _ (by omega) (C2.out.below L2.out)).mono ?_
        rintro e u3 ⟨⟨b3, rfl, hb3⟩, hl3⟩
        have FX : b1 = (b2 || b3) := by
          rw [Bool.eq_iff_iff, Bool.or_eq_true, F1.out, F2.out, hb3]
          constructor
          · rintro ⟨i, hi, hd⟩
            by_cases e : i < K
            · exact .inl ⟨i, e, hd⟩
            · exact .inr ⟨i - K, by omega, by rw [show K + (i - K) = i by omega]; exact hd⟩
          · rintro (⟨i, hi, hd⟩ | ⟨i, hi, hd⟩)
            · exact ⟨i, by omega, hd⟩
            · exact ⟨K + i, by omega, hd⟩
        have L3 := Lib.hid (L2.out.trans (hl3.mono L2.out.size))
        have LW := Lib.hid (HB.out.trans (L3.out.mono HB.out.size))
        clear hb3 hl3
        have hsw := LW.out.size
        clear F2 L1 L2 C1 C2
        have hs3 := L3.out.size
        go_wp2_with (at_make; go_loud (refine wpList_make_own _ rfl _ _ 63 rfl wc.heap.size 33 i33 _ 6 (by kernel_rfl) hi33 z31 z32 .i64 .i64 _ len0 rfl rfl rfl ?d1y ?d2y ?d3y ?_))
        case d1y => have := Nat.mul_le_mul z33 g0; omega
        case d2y => unfold maxLen; omega
        case d3y => omega
        intro w5 ho5 hg5
        have HLr := Lib.hid (show Lr wc len0 D (.slice (some ⟨u3.heap.size, 0, none⟩) 0 len0) (.int .i64 ((len0 : Int) - 1)) w5 from ⟨⟨0, _, [], by omega, rfl, by simp, ho5, rfl, fun i h => by omega⟩, L3.out.trans ⟨hg5.os, hg5.tape, hg5.output, hg5.size, fun k hk => hg5.block k (by omega) (by simp)⟩⟩)
        clear ho5 hg5
        go_wp2_with fail
        go_loopw [15, 16] (fun vr vi wr => Lr wc len0 D vr vi wr) (fun _ vi _ => (intOf vi + 1).toNat)
        case atStart => exact HLr.out
        case round =>
          obtain ⟨r, gr, ys, hr, rfl, rfl, hor, hcr⟩ := hrel.ex
          have HBr := Lib.hid hrel.below
          clear hrel HLr
          by_cases hlt : r < len0
          · obtain ⟨i, hi⟩ : ∃ i : Nat, (len0 : Int) - 1 - r = (i : Int) := ⟨len0 - 1 - r, by omega⟩
            rw [hi]
            have hil : i < len0 := by omega
            have HI := Lib.hid (show i = len0 - 1 - r by omega)
            clear hi
            obtain ⟨g', m', f', q0, q1, q2, q3, q4, q5, hm', hcc, hd⟩ := HC.out.2 i hil
            have hgl : g < wc.heap.size := by
              obtain ⟨cur, hcur⟩ := own_block HO.out g rfl
              exact (Array.getElem?_eq_some_iff.1 hcur).1
            have cell : ∀ o, wr.cell? ⟨g, o, none⟩ = wc.cell? ⟨g, o, none⟩ := fun o => HBr.out.cell (p := ⟨g, o, none⟩) hgl
            replace q0 := own_cells HO.out _ _ q0
            replace q1 := own_cells HO.out _ _ q1
            replace q2 := own_cells HO.out _ _ q2
            replace q3 := own_cells HO.out _ _ q3
            replace q4 := own_cells HO.out _ _ q4
            replace q5 := own_cells HO.out _ _ q5
            rw [← cell] at q0 q1 q2 q3 q4 q5
            have OR := Lib.hid hor
            have CR := Lib.hid hcr
            have CC := Lib.hid hcc
            have HD := Lib.hid hd
            have hsr := HBr.out.size
            clear hor hcr hcc hd cell
            go_wp2_with (at_builtin; go_loud (refine wpList_append_fits _ rfl _ _ 63 rfl wc.heap.size 33 i33 6 (by kernel_rfl) hi33 z32 gr r len0 ys rfl (OR.out.alloc _) ⟨wr.heap.size, 0, none⟩ 1 1 [.pointer none, .slice (some ⟨g', 0, none⟩) m' m', .slice none 0 0, .int .i32 0, .int .u8 0, .bool false] rfl rfl ?e1y ?e2y ?e3y ?_))
            case e1y =>
              intro j u hj
              exact fresh_cells _ _ _ _ rfl j u (by exact hj)
            case e2y => intro u hu; simp at hu; rcases hu with rfl | rfl | rfl | rfl | rfl | rfl <;> rfl
            case e3y => omega
            intro w7 ho7 hg7
            have L7 : Lr wc len0 D (.slice (some ⟨gr, 0, none⟩) (r + 1) len0) (.int .i64 ((i : Int) - 1)) w7 := by
              obtain ⟨cur, hcur⟩ := own_block (OR.out.alloc _) gr rfl
              have k67 := (K33.alloc _ _).trans (K33.grow hg7 hcur)
              have hge := own_ge OR.out gr rfl
              have hi := HI.out
              refine ⟨⟨r + 1, gr, _, by omega, rfl, by congr 1; omega, ho7, ?_⟩, ?_⟩
              · have e : (fun j => D (len0 - 1 - j)) = fun j => if j = r then D i else D (len0 - 1 - j) := by
                  funext j
                  by_cases e : j = r
                  · subst e; simp [hi]
                  · simp [e]
                rw [e]
                exact (CR.out.k33 k67).snoc hm' (CC.out.k33 ((K33.below HBr.out).trans k67)) (D i) HD.out
              · exact (HBr.out.alloc hsr _).trans ⟨hg7.os, hg7.tape, hg7.output, hg7.size, fun k hk => hg7.block k (by simp; omega) (by intro e; injection e with e; omega)⟩
            have LL := Lib.hid L7
            clear L7 ho7 hg7 OR CR CC HD
            go_wp2_with fail
            go_roundw
            case rel => exact LL.out
            case measure => simp [intOf]
          · have e : r = len0 := by omega
            subst e
            have CRr := hcr.row hor 0 r (by omega)
            simp only [Nat.zero_mul, Nat.zero_add] at CRr
            have C4 := Lib.hid CRr
            clear hor hcr CRr
            have en : (r : Int) - 1 - (r : Int) = -1 := by omega
            rw [en]
            clear en
            have G1 := F1.out
            clear F1
            subst FX
            cases b2 <;> cases b3
            all_goals
              have F1 := Lib.hid G1
              clear G1
              go_wp2_with fail
              refine (zz25 (some ⟨gr, 0, none⟩) r r (fun j => D (r - 1 - j)) _ (by omega) C4.out).mono ?_
              rintro e u8 ⟨⟨b4, rfl, hb4⟩, hl8⟩
              have hb5 := F1.out.trans ⟨fun ⟨i, h, d⟩ => (⟨r - 1 - i, by omega, by rw [show r - 1 - (r - 1 - i) = i by omega]; exact d⟩ : ∃ i, i < r ∧ D (r - 1 - i) = true), fun ⟨i, h, d⟩ => ⟨r - 1 - i, by omega, d⟩⟩
              have hb6 := hb5.trans hb4.symm
              have BB := Lib.hid (HB.out.trans ((HBr.out.trans (hl8.mono HBr.out.size)).mono HB.out.size))
              clear hb4 hb5 hl8 F1
              cases b4
              all_goals first | (exfalso; revert hb6; decide) | skip
              all_goals
                clear hb6
                go_wp2_with fail
                exact bodyPost_ret (v := .bool true) (by simp [results, Try.results7, go_sem]) rfl ⟨rfl, BB.out⟩
end Go.Proofs.Ytlhcgnlbhncfkaa
