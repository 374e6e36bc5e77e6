/-
  The law, walked. Conditions: each theorem's own.
-/
import Derived.Test.YtllafdcijpdopaaGreatFmtPp
namespace Go.Proofs.YtllafdcijpdopaaGreatFmt
open Go.RowKit Go.Lib
attribute [local go_sem] ta_112_112 ta_112_50 ta_112_55 ta_112_59 ta_112_113 ta_50_112 ta_50_50 ta_50_55 ta_50_59 ta_50_113 ta_55_112 ta_55_50 ta_55_55 ta_55_59 ta_55_113 ta_59_112 ta_59_50 ta_59_55 ta_59_59 ta_59_113 ta_113_112 ta_113_50 ta_113_55 ta_113_59 ta_113_113 ta_nil_112 ta_nil_50 ta_nil_55 ta_nil_59 ta_nil_113 ta_169_169 ta_169_149 nn_112 ne_112 nn_50 ne_50 nn_55 ne_55 nn_59 ne_59 nn_113 ne_113 ne_nil nn_nil
set_option maxHeartbeats 16000000 in
set_option maxRecDepth 100000 in
theorem law_kz (v : Value) (xs : List CxM) (n m : Nat) (hn : n ≤ 4096) (hm : m ≤ 4096) (h0 : ¬ 0 < n) (w : World) (h : CxsAt w v xs) : Calls Tryz.prog 3 #[.int .u8 2, v, .int .i64 n, .int .i64 m] w fun e w' => e = .returned (.bool true) ∧ Below w.heap.size w w' := by
  have hCM : ∀ x ∈ xs, ∀ c ∈ x, c.amps ≤ 255 := cxs_amps h
  have C4 := hid (zz4 2 v xs n m w h)
  have HH := hid h
  have HCM := hid hCM
  clear h hCM
  go_enter Tryz.func3, Tryz.ntmps3
  go_wp2_with fail
  refine C4.out.mono ?_
  rintro e w1 ⟨⟨b, rfl, hb⟩, hw⟩
  obtain rfl := hw.symm
  clear C4
  cases b with
  | false =>
    go_wp2_with fail
    go_ret
    exact ⟨rfl, Below.refl _ _⟩
  | true =>
    have HB := hid (hb rfl)
    clear hb
    have C5 := hid (bytes5 v xs w HH.out HB.out)
    go_wp2_with fail
    refine C5.out.mono ?_
    rintro e w1 ⟨⟨k, rfl⟩, hb1⟩
    have HB1 := hid hb1
    clear hb1 C5
    by_cases hk : (1048576 : Int) < k
    · go_wp2_with fail
      go_ret
      exact ⟨rfl, HB1.out⟩
    · have g1 : ¬ ((n : Int) < 0) := by omega
      have g2 : ¬ ((4096 : Int) < (n : Int)) := by omega
      have g3 : ¬ ((m : Int) < 0) := by omega
      have g4 : ¬ ((4096 : Int) < (m : Int)) := by omega
      have hn0 : ¬ ((0 : Int) < (n : Int)) := by omega
      have hne : (((n : Int) == 0) = true) ∧ (((n : Int) != 0) = false) := by simp; omega
      obtain ⟨hne1, hne2⟩ := hne
      have C7 := hid (decls7 n hn (w1.alloc (.cells #[.nilIface, .int .i32 0] 30)))
      have HN9 := hid (heap_alloc_new w1 (.cells #[.nilIface, .int .i32 0] 30))
      have HB2 := hid (HB1.out.alloc HB1.out.size (.cells #[.nilIface, .int .i32 0] 30))
      have hs2 : (w1.alloc (.cells #[.nilIface, .int .i32 0] 30)).heap.size = w1.heap.size + 1 := by simp
      have hw1 := HB1.out.size
      go_wp2_with fail
      generalize w1.alloc (.cells #[.nilIface, .int .i32 0] 30) = w2 at *
      generalize w1.heap.size = N9 at *
      clear hk
      refine C7.out.mono ?_
      rintro e w3 hR3
      obtain ⟨rules, rfl, hbo3, hb3⟩ := hR3.ex
      obtain ⟨ra, rc, hra⟩ := hbo3.shape
      rw [show (List.replicate n ()).length = n by simp] at hra
      obtain rfl := hra.symm
      have hrl : ∀ g, (Value.slice ra n rc).ownBlock = some g → w2.heap.size ≤ g ∧ g < w3.heap.size := by
        obtain ⟨xs0, ho0, _⟩ := hbo3.own
        exact fun g hg => ho0.lt g hg
      have hdec3 := hbo3.dec
      have C6 := hid (mk9 ra n rc w3)
      have HD3 := hid hdec3
      have HRL := hid hrl
      have HB3 := hid hb3
      have hs3 := hb3.size
      clear hbo3 hdec3 hrl hb3 C7 hR3
      go_wp2_with fail
      refine C6.out.mono ?_
      rintro e w4 hR4
      obtain ⟨D, rfl, hD0, hD4, hb4⟩ := hR4.ex
      have hs4 := hb4.size
      have h9 := (hb4.block N9 (by omega)).trans ((HB3.out.block N9 (by omega)).trans HN9.out)
      obtain ⟨n0, nf0⟩ : w4.cell? ⟨N9, 0, none⟩ = some .nilIface ∧ w4.frozen? ⟨N9, 0, none⟩ = false := hcell h9 0 _ rfl
      obtain ⟨n1, nf1⟩ : w4.cell? ⟨N9, 1, none⟩ = some (.int .i32 0) ∧ w4.frozen? ⟨N9, 1, none⟩ = false := hcell h9 1 _ rfl
      have h92 : ((w4.setCell ⟨N9, 0, none⟩ (.iface 59 (.pointer (some ⟨D, 0, none⟩)))).setCell ⟨N9, 1, none⟩ (.int .i32 0)).heap[N9]? = some (.cells #[.iface 59 (.pointer (some ⟨D, 0, none⟩)), .int .i32 0] 30 (0, 0)) := by
        have := hset (hset h9 0 (.iface 59 (.pointer (some ⟨D, 0, none⟩)))) 1 (.int .i32 0)
        simpa using this
      have hoth : ∀ g, g ≠ N9 → ((w4.setCell ⟨N9, 0, none⟩ (.iface 59 (.pointer (some ⟨D, 0, none⟩)))).setCell ⟨N9, 1, none⟩ (.int .i32 0)).heap[g]? = w4.heap[g]? := fun g hg => by rw [hother _ _ _ hg, hother _ _ _ hg]
      have hb5 : Below w.heap.size w ((w4.setCell ⟨N9, 0, none⟩ (.iface 59 (.pointer (some ⟨D, 0, none⟩)))).setCell ⟨N9, 1, none⟩ (.int .i32 0)) := (((HB2.out.trans (HB3.out.mono (by omega))).trans (hb4.mono (by omega))).setCell (p := ⟨N9, 0, none⟩) (by show _ ≤ N9; omega) _).setCell (p := ⟨N9, 1, none⟩) (by show _ ≤ N9; omega) _
      have hs5 : ((w4.setCell ⟨N9, 0, none⟩ (.iface 59 (.pointer (some ⟨D, 0, none⟩)))).setCell ⟨N9, 1, none⟩ (.int .i32 0)).heap.size = w4.heap.size := by simp [World.setCell]
      have hD5 := (hoth D (by omega)).trans hD4
      have hdec5 : DecO w2.heap.size n (.slice ra n rc) ((w4.setCell ⟨N9, 0, none⟩ (.iface 59 (.pointer (some ⟨D, 0, none⟩)))).setCell ⟨N9, 1, none⟩ (.int .i32 0)) := (HD3.out.below hb4).keep fun g hg => hoth g (by have := HRL.out g hg; omega)
      have hN94 : N9 < w4.heap.size := heap_lt h9
      have hDs : D < w4.heap.size := heap_lt hD4
      have HX5 := hid (And.intro h92 (And.intro hb5 (And.intro hD5 hdec5)))
      clear h92 hoth hb5 hD5 hdec5 hD4 hb4 h9 C6 hR4
      go_wp2_with fail
      generalize (w4.setCell ⟨N9, 0, none⟩ (.iface 59 (.pointer (some ⟨D, 0, none⟩)))).setCell ⟨N9, 1, none⟩ (.int .i32 0) = w5 at *
      obtain ⟨h92, hb5, hD5, hdec5⟩ := HX5.out
      refine (cxs10 v xs w5 (HH.out.below hb5) HB.out).mono ?_
      rintro e w6 hR6
      obtain ⟨v6, rfl, hbo6, hb6⟩ := hR6.ex
      obtain ⟨sa, sc, hsa⟩ := hbo6.shape
      obtain rfl := hsa.symm
      have hW : W6 59 62 (fun rv => #[.string ⟨#[]⟩, .slice none 0 0, rv, .int .i32 0]) D N9 n (.slice ra n rc) (.slice sa xs.length sc) xs w2.heap.size w5.heap.size w6.heap.size w w6 :=
        ⟨hb5.trans (hb6.mono hb5.size), (hb6.block _ (by omega)).trans h92, (hb6.block _ (by omega)).trans hD5, ⟨by omega, by have := hb6.size; have := hb5.size; omega⟩, hdec5.below hb6, hbo6.done.keep (Keep.weak w6 fun g h1 h2 => ⟨h1, h2⟩), ⟨by omega, hb6.size, Nat.le_refl _⟩, fun g hg => by have := HRL.out g hg; exact ⟨by omega, by omega⟩⟩
      have HW := hid hW
      clear hW hbo6 hb6 h92 hb5 hD5 hdec5 HX5 hR6 n0 nf0 n1 nf1
      generalize w5.heap.size = Bp at *
      generalize w2.heap.size = B2 at *
      go_upto_region 14 with fail
      go_cut [11, 12] (fun v11 v12 wx => R14 (fun v12 wx => Below w.heap.size w wx ∧ DecL m v12 wx) v11 v12 wx)
      case first =>
        rename_i J KK hJ hKK
        obtain ⟨q0, _⟩ : w6.cell? ⟨N9, 0, none⟩ = some (.iface 59 (.pointer (some ⟨D, 0, none⟩))) ∧ w6.frozen? ⟨N9, 0, none⟩ = false := hcell HW.out.n9 0 _ rfl
        obtain ⟨q1, _⟩ : w6.cell? ⟨N9, 1, none⟩ = some (.int .i32 0) ∧ w6.frozen? ⟨N9, 1, none⟩ = false := hcell HW.out.n9 1 _ rfl
        have hN6 : N9 < w6.heap.size := heap_lt HW.out.n9
        have zA := hid (show (w6.alloc (.cells #[.nilIface, .int .i32 0] 30)).drew.heap[w6.heap.size]? = some (.cells #[.nilIface, .int .i32 0] 30 (0, 0)) from heap_alloc_new w6 (.cells #[.nilIface, .int .i32 0] 30))
        go_region_law (first
          | (go_simp
             go_at_call 7
             refine (decls7 m hm _).mono ?_
             rintro e w7 hR7
             obtain ⟨vl, rfl, hbo7, hb7⟩ := hR7.ex
             have hx7 : Below w6.heap.size w6 w7 := Below.trans (by repeat first | exact Below.refl _ _ | refine Below.drew ?_ | refine Below.alloc ?_ (by simp) _) (hb7.mono (by simp))
             have hW7 := HW.out.below hx7
             have hdec7 := hbo7.dec
             obtain ⟨xl, hol, hxl⟩ := hdec7.ex
             have hBl7 := hbo7.le
             have hz7 := below_z hb7
             obtain ⟨la, lc, hla⟩ := hbo7.shape
             rw [show (List.replicate m ()).length = m by simp] at hla
             obtain rfl := hla.symm
             obtain ⟨r0, rf0⟩ : w7.cell? ⟨N9, 0, none⟩ = some (.iface 59 (.pointer (some ⟨D, 0, none⟩))) ∧ w7.frozen? ⟨N9, 0, none⟩ = false := hcell hW7.n9 0 _ rfl
             obtain ⟨r1, rf1⟩ : w7.cell? ⟨N9, 1, none⟩ = some (.int .i32 0) ∧ w7.frozen? ⟨N9, 1, none⟩ = false := hcell hW7.n9 1 _ rfl
             have hN7 : N9 < w7.heap.size := heap_lt hW7.n9)
          | (go_simp
             go_at_call 11
             refine (low11kz _ n _ m hn h0 D (.string ⟨#[]⟩) (.slice none 0 0) (.slice ra n rc) (.slice la m lc) sa xs.length sc xl _ (by first | exact hW7.d | exact (Below.heap_alloc w7 _ _ (heap_lt hW7.d)).trans hW7.d) (by first | exact hW7.dec | exact hW7.dec.below ((Below.refl _ _).alloc (Nat.le_refl _) _)) (by first | exact hol | exact hol.alloc _)).mono ?_
             rintro e w8 ⟨rfl, hb8⟩
             have hX8 : Below w7.heap.size w7 w8 := Below.trans (by first | exact Below.refl _ _ | exact (Below.refl _ _).alloc (Nat.le_refl _) _) (hb8.mono (by simp))
             have HX8 := hid (show ∀ w', Below w8.heap.size w8 w' → Below w.heap.size w w' ∧ DecL m (.slice la m lc) w' from fun w' h => ⟨(hW7.bel.trans (hX8.mono hW7.bel.size)).trans (h.mono (hW7.bel.trans (hX8.mono hW7.bel.size)).size), (hdec7.decl.below hX8).below h⟩)
             have hz8 := below_z hb8
             try (have yA := hz8 w6.heap.size (hz7 _ zA.out)
                  obtain ⟨s0, sf0⟩ : w8.cell? ⟨w6.heap.size, 0, none⟩ = some .nilIface ∧ w8.frozen? ⟨w6.heap.size, 0, none⟩ = false := hcell yA 0 _ rfl
                  obtain ⟨s1, sf1⟩ : w8.cell? ⟨w6.heap.size, 1, none⟩ = some (.int .i32 0) ∧ w8.frozen? ⟨w6.heap.size, 1, none⟩ = false := hcell yA 1 _ rfl
                  have hsA := heap_lt yA)
             try (have yB := hz8 w7.heap.size (heap_alloc_new w7 (.cells #[.nilIface, .int .i32 0] 30))
                  obtain ⟨s0, sf0⟩ : w8.cell? ⟨w7.heap.size, 0, none⟩ = some .nilIface ∧ w8.frozen? ⟨w7.heap.size, 0, none⟩ = false := hcell yB 0 _ rfl
                  obtain ⟨s1, sf1⟩ : w8.cell? ⟨w7.heap.size, 1, none⟩ = some (.int .i32 0) ∧ w8.frozen? ⟨w7.heap.size, 1, none⟩ = false := hcell yB 1 _ rfl
                  have hsB := heap_lt yB)))
        all_goals
          first | refine Met.intro (hJ _ _ ?_) | refine hKK _ _ (Met.intro (hJ _ _ ?_)) | (go_wp2_with fail; refine Met.intro (hJ _ _ ?_))
          repeat apply Exists.intro
          first | exact ⟨r14_1 yA HX8.out, rfl⟩ | exact ⟨r14_1 yB HX8.out, rfl⟩ | exact ⟨r14_2 HX8.out, rfl⟩
      case rest =>
        obtain ⟨A, rfl, hA, a0, a1, hX⟩ := hcut.ex
        clear hcut HW HB2 HN9 HD3 HRL HB3
        obtain ⟨hbw, hdl⟩ := hX
        have HBW := hid hbw
        have HDL := hid hdl
        obtain ⟨la, lc, rfl, _⟩ := hdl.ex
        have C12 := hid (kind12_nil wc)
        clear hbw hdl
        go_wp2_with fail
        refine C12.out.mono ?_
        rintro e w9 ⟨rfl, hb9⟩
        have HD9 := hid (HDL.out.below hb9)
        have HB9 := hid (HBW.out.trans (hb9.mono HBW.out.size))
        clear hb9 C12 a0 a1 hA HDL HBW
        have C13 := hid (all13 m (by omega) _ w9 HD9.out)
        go_wp2_with fail
        refine C13.out.mono ?_
        rintro e w10 ⟨rfl, hb10⟩
        have HB10 := hid (HB9.out.trans (hb10.mono HB9.out.size))
        clear hb10 C13 HB9
        go_wp2_with fail
        go_ret
        exact ⟨rfl, HB10.out⟩
end Go.Proofs.YtllafdcijpdopaaGreatFmt
