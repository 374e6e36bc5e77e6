/-
  The idempotence law walked. Conditions: each theorem's own.
-/
import Derived.Test.YtphimfimnakclaaRh
import Derived.Test.YtphimfimnakclaaRe
namespace Go.Proofs.Ytphimfimnakclaa
open Go.RowKit Go.Lib Go.ChangeMaps
open Go.Maps (Keyed IsMap)
theorem OutR.lt {D : Nat → Prop} {Rb : Nat} {w : World} {a : Option Addr} {out : List (Int × Rl)} (h : OutR D Rb w a out) (hn : 0 < out.length) : Rb < w.heap.size := by
  obtain ⟨o, ha, b, c0, c1, hd, hg⟩ := h 0 hn
  rcases Nat.lt_or_ge Rb w.heap.size with h | h
  · exact h
  · have c0' : w.cell? ⟨Rb, o + 0 * 2 + 0, none⟩ = _ := c0
    unfold World.cell? at c0'
    rw [Array.getElem?_eq_none h] at c0'
    cases c0'
theorem OutR.below {D : Nat → Prop} {Rb : Nat} {w w' : World} {a : Option Addr} {out : List (Int × Rl)} (h : OutR D Rb w a out) (hb : Below w.heap.size w w') : OutR D Rb w' a out := fun j hj => by
  have hlt := h.lt (by omega)
  obtain ⟨o, ha, hr⟩ := h j hj
  refine ⟨o, ha, (hr.loc ?_ ?_).keep hb.size (fun g _ hg => hb.block g hg)⟩
  · exact cellLow (hb.block _ hlt) _
  · exact cellLow (hb.block _ hlt) _
theorem Locs.below {w w' : World} {a : Option Addr} {l : List Int} (h : Locs w a l) (hb : Below w.heap.size w w') : Locs w' a l := fun j hj => by
  obtain ⟨g, o, ha, hg, hc⟩ := h j hj
  exact ⟨g, o, ha, Nat.lt_of_lt_of_le hg hb.size, (cellLow (hb.block g hg) _).trans hc⟩
structure Lp3 (w : World) (n : Nat) (g : Nat) (vi : Value) (wx : World) : Prop where
  ex : ∃ k m, m = k + 1 ∧ vi = .int .i64 (m : Nat) ∧ g = n - m ∧ m ≤ n + 1 ∧ Below w.heap.size w wx
set_option maxHeartbeats 16000000 in
set_option maxRecDepth 100000 in
theorem walk3 (a0 : Option Addr) (len0 cap0 : Nat) (z0 : List Int) (a1 : Option Addr) (len1 cap1 : Nat) (z1 : List Int) (a2 : Option Addr) (len2 cap2 : Nat) (z2 : List Int) (a3 : Option Addr) (len3 cap3 : Nat) (z3 : List Int) (a4 : Option Addr) (len4 cap4 : Nat) (z4 : List Int) (w : World) (w0 : IsRow .u8 w a0 len0 cap0 z0) (w1 : IsRow .u8 w a1 len1 cap1 z1) (w2 : IsRow .u8 w a2 len2 cap2 z2) (w3 : IsRow .u8 w a3 len3 cap3 z3) (w4 : IsRow .u8 w a4 len4 cap4 z4) :
    Calls Try.prog 3 #[.slice a0 len0 cap0, .slice a1 len1 cap1, .slice a2 len2 cap2, .slice a3 len3 cap3, .slice a4 len4 cap4] w fun e w' => e = .returned (.bool true) ∧ Below w.heap.size w w' := by
  have R0 := hid w0.row.1
  have R1 := hid w1.row.1
  have R2 := hid w2.row.1
  have R3 := hid w3.row.1
  have R4 := hid w4.row.1
  clear w0 w1 w2 w3 w4
  go_enter Try.func3, Try.ntmps3
  go_wp2_with fail
  refine (bytes5 a0 a1 a2 a3 a4 len0 len1 len2 len3 len4 cap0 cap1 cap2 cap3 cap4 _).mono ?_
  rintro e wx ⟨⟨b, rfl⟩, hw⟩
  obtain rfl := hw.symm
  clear hw
  cases b
  · go_wp2_with fail
    go_ret
    exact ⟨rfl, Below.refl _ _⟩
  go_wp2_with fail
  refine (big6 a0 a1 a2 a3 a4 len0 len1 len2 len3 len4 cap0 cap1 cap2 cap3 cap4 _).mono ?_
  rintro e wx hR
  obtain ⟨b, rfl, hb, hw⟩ := hR.ex
  obtain rfl := hw.symm
  clear hw hR
  rcases Bool.eq_false_or_eq_true b with rfl | rfl
  · go_wp2_with fail
    go_ret
    exact ⟨rfl, Below.refl _ _⟩
  obtain ⟨g0, g1, g2, g3, g4⟩ := hb rfl
  clear hb
  go_wp2_with fail
  refine (br7 a0 a1 a2 a3 a4 len0 len1 len2 len3 len4 cap0 cap1 cap2 cap3 cap4 z0 z1 z2 z3 z4 _ g0 g1 g2 g3 g4 R0.out R1.out R2.out R3.out R4.out).mono ?_
  rintro e w5 hR
  obtain ⟨rs, v1, v2, v3, rfl, hrl, hgood, hst, hbel⟩ := hR.ex
  obtain ⟨D, hD⟩ : ∃ D : Nat → Prop, D = fun g => F3 w.heap.size v1 v2 v3 w5 g ∧ g < w5.heap.size := ⟨_, rfl⟩
  have hDlt : ∀ g, D g → g < w5.heap.size := fun g h => by rw [hD] at h; exact h.2
  obtain ⟨a, kc, Rb, hv1, hkc, hRb, hRX, hrul⟩ := hst.rul (D := D) hgood (fun g h1 h2 => by rw [hD]; exact ⟨h1, h2⟩) (fun g hg h => by rw [hD] at h; exact h.1.2.2.1 hg.symm) w5.heap.size (fun h => by have := hDlt _ h; omega)
  obtain ⟨ya, yc, yb, yd, ye, yf, hva, hvb, hvc⟩ := hst.shape
  obtain rfl := hv1.symm
  obtain rfl := hvb.symm
  obtain rfl := hvc.symm
  have HB5 := hid hbel
  have HRU := hid (And.intro hrul (And.intro hDlt (And.intro hkc hRb)))
  have HRX := hid hRX
  clear hR hgood hst hbel hD hDlt hkc hRb hRX hrul hva R0 R1 R2 R3 R4
  go_wp2_with fail
  refine (mk8 _).mono ?_
  rintro e w6 hR
  obtain ⟨rfl, hm6, hb6⟩ := hR.ex
  have hb7 : Below w6.heap.size w6 (w6.alloc (.cells #[.map (some (w5.heap.size + 2)), .slice none 0 0, .slice none 0 0, .slice none 0 0, .slice none 0 0, .int .u32 0, .int .u32 0] 39)) := (Below.refl _ _).alloc (Nat.le_refl _) _
  have hm7 := (hb7.block _ (heap_lt hm6)).trans hm6
  have hr7 := heap_alloc_new w6 (.cells #[.map (some (w5.heap.size + 2)), .slice none 0 0, .slice none 0 0, .slice none 0 0, .slice none 0 0, .int .u32 0, .int .u32 0] 39)
  obtain ⟨G, hrem, hcs⟩ := Rem.new (D := D) (B := w5.heap.size) hm7 hr7 (by omega) hb6.size HRU.out.2.1
  have hb57 := hb6.trans (hb7.mono hb6.size)
  have HC := hid (rm9 D w5.heap.size w6.heap.size Rb rs.length kc a (locd rs) [] G 0 _ hrem hrl HRU.out.2.2.1 (by simp) (by omega) (fun h => (HRU.out.2.2.2 h).2.1) (fun h => (HRU.out.2.2.2 h).1) (HRU.out.1.below hb57))
  have HB7 := hid hb57
  clear hR hm6 hb6 hb7 hm7 hr7 hrem hcs hb57
  go_wp2_with fail
  refine HC.out.mono ?_
  rintro e w8 hR
  obtain ⟨a8, c8, G8, rfl, hout, hrem8, hnc8, hfr8⟩ := hR.ex
  have hidem := run_idem (locd rs)
  have hlen8 : (runR (locd rs) []).1.length ≤ 4096 := by
    have h := (run_keeps (locd rs)).2.2.2.length_le
    have h2 : (locd rs).length = rs.length := by simp [locd]
    omega
  obtain ⟨out, heo⟩ : ∃ out, out = (runR (locd rs) []).1 := ⟨_, rfl⟩
  have hrise : ∀ (i j : Nat) (hj : j < (out.map Prod.fst).length) (hij : i < j), (out.map Prod.fst)[i] < (out.map Prod.fst)[j] := by
    subst heo
    exact fun i j hj hij => out_rise rs hj hij
  rw [← heo] at hout hidem hlen8 ⊢
  clear heo HC
  have hD8 : ∀ g, D g → g < w8.heap.size := fun g hg => by
    have := HRU.out.2.1 g hg
    have := HB7.out.size
    have := hfr8.size
    omega
  have hB8 : Below w.heap.size w w8 := by
    have hB57 := HB5.out.trans (HB7.out.mono HB5.out.size)
    refine hB57.trans ⟨hfr8.os, hfr8.tape, hfr8.output, hfr8.size, fun g hg => ?_⟩
    have h5 := HB5.out.size
    exact hfr8.block g (by omega) (fun e => by rcases HRX.out with h | h <;> omega)
  have HO := hid (And.intro hout (And.intro hout.locs (And.intro hD8 (And.intro hrise hidem))))
  have HB8 := hid hB8
  have HL0 := hid (show Lp3 w8 out.length (out.length - 1) (.int .i64 1) w8 from ⟨0, 1, rfl, rfl, rfl, by omega, Below.refl _ _⟩)
  clear hR hout hrem8 hnc8 hfr8 hrise hidem hD8 hB8 HB7
  go_wp2_with fail
  go_loopg [16] (out.length - 1) (fun g v16 wx => Lp3 w8 out.length g v16 wx)
  case atStart => exact HL0.out
  case round =>
    obtain ⟨k, m, hmk, rfl, hgm, hmn, hb⟩ := hrel.ex
    clear hrel HL0
    cases gk with
    | zero =>
      have hcd : ¬ ((m : Int) < (out.length : Int)) := by omega
      have hout := HO.out.1.below hb
      have hDr : ∀ g, D g → g < wr.heap.size := fun g hg => Nat.lt_of_lt_of_le (HO.out.2.2.1 g hg) hb.size
      obtain ⟨w10, hcopy, hrul10, hb10, hlt10⟩ := hout.copied hDr 3 c8
      have mk := mk24 out.length (by omega) wr
      have HCP := hid hcopy
      have HR10 := hid (And.intro hrul10 (And.intro hb10 (And.intro hlt10 (And.intro hDr hb))))
      clear hout hDr hcopy hrul10 hb10 hlt10 hb hgm hmk hmn
      go_wp2_with ((with_reducible refine list_copy ?_ (.tmp 70) (.tmp 71) 24 24 ?_ (.slice (some ⟨wr.heap.size, 0, none⟩) out.length out.length) (.slice a8 out.length c8) _ w10 ?_ ?_ HCP.out ?_); rfl; rfl; rfl; rfl)
      clear mk
      refine (mk8 _).mono ?_
      rintro e w11 hR
      obtain ⟨rfl, hm6, hb6⟩ := hR.ex
      have hb7 : Below w11.heap.size w11 (w11.alloc (.cells #[.map (some (w10.heap.size + 2)), .slice none 0 0, .slice none 0 0, .slice none 0 0, .slice none 0 0, .int .u32 0, .int .u32 0] 39)) := (Below.refl _ _).alloc (Nat.le_refl _) _
      have hm7 := (hb7.block _ (heap_lt hm6)).trans hm6
      have hr7 := heap_alloc_new w11 (.cells #[.map (some (w10.heap.size + 2)), .slice none 0 0, .slice none 0 0, .slice none 0 0, .slice none 0 0, .int .u32 0, .int .u32 0] 39)
      have hlt10 := HR10.out.2.2.1
      obtain ⟨G2, hrem, hcs⟩ := Rem.new (D := D) (B := w10.heap.size) hm7 hr7 (by omega) hb6.size (fun g hg => by have := HR10.out.2.2.2.1 g hg; omega)
      have hb57 := hb6.trans (hb7.mono hb6.size)
      have HC := hid (rm9 D w10.heap.size w11.heap.size wr.heap.size out.length out.length (some ⟨wr.heap.size, 0, none⟩) out [] G2 0 _ hrem hlen8 (Nat.le_refl _) (by simp) (by omega) (fun _ => hlt10) (fun _ => rfl) (HR10.out.1.below hb57))
      have HB7 := hid hb57
      clear hR hm6 hb6 hb7 hm7 hr7 hrem hcs hb57
      go_wp2_with fail
      refine HC.out.mono ?_
      rintro e w13 hR
      obtain ⟨a13, c13, G13, rfl, hout13, hrem13, hnc13, hfr13⟩ := hR.ex
      rw [HO.out.2.2.2.2] at hout13
      rw [HO.out.2.2.2.2]
      have hB13 : Below wr.heap.size wr w13 := by
        have h10 := HR10.out.2.1
        have h12 := h10.trans (HB7.out.mono h10.size)
        exact h12.trans ⟨hfr13.os, hfr13.tape, hfr13.output, hfr13.size, fun g hg => hfr13.block g (by omega) (by omega)⟩
      have hbr := HR10.out.2.2.2.2
      have hLA := (HO.out.2.1.below hbr).below hB13
      have hLB := hout13.locs
      have C := sr10 a13 a8 c13 c8 (out.map Prod.fst) w13 (by simpa using hlen8) hLB hLA
      rw [List.length_map] at C
      have HC3 := hid C
      have HBF := hid (HB8.out.trans ((hbr.trans (hB13.mono hbr.size)).mono HB8.out.size))
      clear hR hout13 hrem13 hnc13 hfr13 hB13 hbr hLA hLB C HC
      go_wp2_with fail
      refine HC3.out.mono ?_
      rintro e w14 hR
      obtain ⟨rfl, hB⟩ := hR.ex
      have HBG := hid (HBF.out.trans (hB.mono HBF.out.size))
      clear hR hB HC3
      go_wp2_with fail
      go_ret
      exact ⟨rfl, HBG.out⟩
    | succ g =>
      have hmL : m < out.length := by omega
      have hkL : k < out.length := by omega
      have hcd : (m : Int) < (out.length : Int) := by omega
      have hm1 : m < (out.map Prod.fst).length := by simpa using hmL
      have hk1 : k < (out.map Prod.fst).length := by simpa using hkL
      obtain ⟨q1, o1, rfl, hq1, hc1⟩ := (HO.out.2.1.below hb) k hk1
      obtain ⟨q2, o2, hq, hq2, hc2⟩ := (HO.out.2.1.below hb) m hm1
      injection hq with hq
      injection hq with e1 e2 _
      subst e1 e2
      have hxy := HO.out.2.2.2.1 k m hm1 (by omega)
      generalize (out.map Prod.fst)[k] = x at *
      generalize (out.map Prod.fst)[m] = y at *
      replace hxy : ¬ y ≤ x := by omega
      have e55 : IntKind.i64.wrap ((m : Int) - 1) = (k : Int) := by rw [IntKind.wrap_i64]; omega
      have e56 : IntKind.i64.wrap ((m : Int) + 1) = ((m + 1 : Nat) : Int) := by rw [IntKind.wrap_i64]; omega
      have HQ := hid (And.intro hq1 (And.intro hc1 hc2))
      have HB := hid hb
      have HMK := hid hmk
      clear hq1 hq2 hc1 hc2 hb hmk
      go_wp2_with fail
      refine wp_region_rel [(some 53, .slice (some ⟨q1, o1, none⟩) out.length c8), (some 54, .int .i64 (m : Nat)), (some 55, .int .i64 (k : Nat)), (some 56, .pointer (some ⟨q1, o1 + k * 2, none⟩)), (some 57, .pointer (some ⟨q1, o1 + k * 2 + 1, none⟩)), (some 58, .pointer (some ⟨q1, o1 + k * 2 + 1, none⟩)), (some 59, .int .i32 x), (some 60, .slice (some ⟨q1, o1, none⟩) out.length c8), (some 61, .int .i64 (m : Nat)), (some 62, .pointer (some ⟨q1, o1 + m * 2, none⟩)), (some 63, .pointer (some ⟨q1, o1 + m * 2 + 1, none⟩)), (some 64, .pointer (some ⟨q1, o1 + m * 2 + 1, none⟩)), (some 65, .int .i32 y), (some 66, .bool false)] (fun wz => Below wr.heap.size wr wz) 80 (by kernel_rfl) (by kernel_rfl) (by kernel_rfl) (by kernel_rfl) ?h011 (by kernel_rfl) ?hop11 ?hend11
      case hop11 =>
        intro i o az wz ho hR hd hf K hK
        have hin : i = 0 ∨ i = 1 ∨ i = 2 ∨ i = 3 ∨ i = 4 ∨ i = 5 ∨ i = 6 ∨ i = 7 ∨ i = 8 ∨ i = 9 ∨ i = 10 ∨ i = 11 ∨ i = 12 ∨ i = 13 := by
          rcases Nat.lt_or_ge i 14 with h | h
          · omega
          · rw [Array.getElem?_eq_none h] at ho
            cases ho
        rcases hin with rfl | rfl | rfl | rfl | rfl | rfl | rfl | rfl | rfl | rfl | rfl | rfl | rfl | rfl
        · simp only [List.getElem?_toArray, List.getElem?_cons_zero, Option.some.injEq] at ho
          subst ho
          have v0 : az.eval (.tmp 15) = .slice (some ⟨q1, o1, none⟩) out.length c8 := (hf 15 (by kernel_rfl)).trans (by kernel_rfl)
          have u0 : az.tmps[15]?.getD undef = .slice (some ⟨q1, o1, none⟩) out.length c8 := by rw [← Array.getD_eq_getD_getElem?]; exact v0
          clear v0
          clear hd hf
          replace hK : ∀ w', (fun wz => Below wr.heap.size wr wz) w' → K (az.put (some 53) (.slice (some ⟨q1, o1, none⟩) out.length c8)) w' := hK
          have HK := Lib.hid hK
          clear hK
          show if Region.wanted _ (yielded _ az.tmps) = true then Oper.wp _ _ az wz K _ else _
          go_simp
          exact HK.out _ hR
        · simp only [List.getElem?_toArray, List.getElem?_cons_zero, List.getElem?_cons_succ, Option.some.injEq] at ho
          subst ho
          have v0 : az.eval (.tmp 16) = .int .i64 (m : Nat) := (hf 16 (by kernel_rfl)).trans (by kernel_rfl)
          have u0 : az.tmps[16]?.getD undef = .int .i64 (m : Nat) := by rw [← Array.getD_eq_getD_getElem?]; exact v0
          clear v0
          clear hd hf
          replace hK : ∀ w', (fun wz => Below wr.heap.size wr wz) w' → K (az.put (some 54) (.int .i64 (m : Nat))) w' := hK
          have HK := Lib.hid hK
          clear hK
          show if Region.wanted _ (yielded _ az.tmps) = true then Oper.wp _ _ az wz K _ else _
          go_simp
          exact HK.out _ hR
        · simp only [List.getElem?_toArray, List.getElem?_cons_zero, List.getElem?_cons_succ, Option.some.injEq] at ho
          subst ho
          have v0 : az.eval (.tmp 54) = .int .i64 (m : Nat) := hd 1 54 (by kernel_rfl) (by kernel_rfl)
          have u0 : az.tmps[54]?.getD undef = .int .i64 (m : Nat) := by rw [← Array.getD_eq_getD_getElem?]; exact v0
          clear v0
          clear hd hf
          replace hK : ∀ w', (fun wz => Below wr.heap.size wr wz) w' → K (az.put (some 55) (.int .i64 (k : Nat))) w' := hK
          have HK := Lib.hid hK
          clear hK
          have e55' := e55
          show if Region.wanted _ (yielded _ az.tmps) = true then Oper.wp _ _ az wz K _ else _
          go_simp
          exact HK.out _ hR
        · simp only [List.getElem?_toArray, List.getElem?_cons_zero, List.getElem?_cons_succ, Option.some.injEq] at ho
          subst ho
          have v0 : az.eval (.tmp 53) = .slice (some ⟨q1, o1, none⟩) out.length c8 := hd 0 53 (by kernel_rfl) (by kernel_rfl)
          have u0 : az.tmps[53]?.getD undef = .slice (some ⟨q1, o1, none⟩) out.length c8 := by rw [← Array.getD_eq_getD_getElem?]; exact v0
          clear v0
          have v1 : az.eval (.tmp 55) = .int .i64 (k : Nat) := hd 2 55 (by kernel_rfl) (by kernel_rfl)
          have u1 : az.tmps[55]?.getD undef = .int .i64 (k : Nat) := by rw [← Array.getD_eq_getD_getElem?]; exact v1
          clear v1
          clear hd hf
          replace hK : ∀ w', (fun wz => Below wr.heap.size wr wz) w' → K (az.put (some 56) (.pointer (some ⟨q1, o1 + k * 2, none⟩))) w' := hK
          have HK := Lib.hid hK
          clear hK
          have hjl := hkL
          show if Region.wanted _ (yielded _ az.tmps) = true then Oper.wp _ _ az wz K _ else _
          go_simp
          exact HK.out _ hR
        · simp only [List.getElem?_toArray, List.getElem?_cons_zero, List.getElem?_cons_succ, Option.some.injEq] at ho
          subst ho
          have v0 : az.eval (.tmp 56) = .pointer (some ⟨q1, o1 + k * 2, none⟩) := hd 3 56 (by kernel_rfl) (by kernel_rfl)
          have u0 : az.tmps[56]?.getD undef = .pointer (some ⟨q1, o1 + k * 2, none⟩) := by rw [← Array.getD_eq_getD_getElem?]; exact v0
          clear v0
          clear hd hf
          replace hK : ∀ w', (fun wz => Below wr.heap.size wr wz) w' → K (az.put (some 57) (.pointer (some ⟨q1, o1 + k * 2 + 1, none⟩))) w' := hK
          have HK := Lib.hid hK
          clear hK
          show if Region.wanted _ (yielded _ az.tmps) = true then Oper.wp _ _ az wz K _ else _
          go_simp
          exact HK.out _ hR
        · simp only [List.getElem?_toArray, List.getElem?_cons_zero, List.getElem?_cons_succ, Option.some.injEq] at ho
          subst ho
          have v0 : az.eval (.tmp 57) = .pointer (some ⟨q1, o1 + k * 2 + 1, none⟩) := hd 4 57 (by kernel_rfl) (by kernel_rfl)
          have u0 : az.tmps[57]?.getD undef = .pointer (some ⟨q1, o1 + k * 2 + 1, none⟩) := by rw [← Array.getD_eq_getD_getElem?]; exact v0
          clear v0
          clear hd hf
          replace hK : ∀ w', (fun wz => Below wr.heap.size wr wz) w' → K (az.put (some 58) (.pointer (some ⟨q1, o1 + k * 2 + 1, none⟩))) w' := hK
          have HK := Lib.hid hK
          clear hK
          show if Region.wanted _ (yielded _ az.tmps) = true then Oper.wp _ _ az wz K _ else _
          go_simp
          exact HK.out _ hR
        · simp only [List.getElem?_toArray, List.getElem?_cons_zero, List.getElem?_cons_succ, Option.some.injEq] at ho
          subst ho
          have v0 : az.eval (.tmp 58) = .pointer (some ⟨q1, o1 + k * 2 + 1, none⟩) := hd 5 58 (by kernel_rfl) (by kernel_rfl)
          have u0 : az.tmps[58]?.getD undef = .pointer (some ⟨q1, o1 + k * 2 + 1, none⟩) := by rw [← Array.getD_eq_getD_getElem?]; exact v0
          clear v0
          clear hd hf
          replace hK : ∀ w', (fun wz => Below wr.heap.size wr wz) w' → K (az.put (some 59) (.int .i32 x)) w' := hK
          have HK := Lib.hid hK
          clear hK
          have c0 := (cellLow (hR.block _ HQ.out.1) _).trans HQ.out.2.1
          show if Region.wanted _ (yielded _ az.tmps) = true then Oper.wp _ _ az wz K _ else _
          go_simp
          exact HK.out _ hR
        · simp only [List.getElem?_toArray, List.getElem?_cons_zero, List.getElem?_cons_succ, Option.some.injEq] at ho
          subst ho
          have v0 : az.eval (.tmp 15) = .slice (some ⟨q1, o1, none⟩) out.length c8 := (hf 15 (by kernel_rfl)).trans (by kernel_rfl)
          have u0 : az.tmps[15]?.getD undef = .slice (some ⟨q1, o1, none⟩) out.length c8 := by rw [← Array.getD_eq_getD_getElem?]; exact v0
          clear v0
          clear hd hf
          replace hK : ∀ w', (fun wz => Below wr.heap.size wr wz) w' → K (az.put (some 60) (.slice (some ⟨q1, o1, none⟩) out.length c8)) w' := hK
          have HK := Lib.hid hK
          clear hK
          show if Region.wanted _ (yielded _ az.tmps) = true then Oper.wp _ _ az wz K _ else _
          go_simp
          exact HK.out _ hR
        · simp only [List.getElem?_toArray, List.getElem?_cons_zero, List.getElem?_cons_succ, Option.some.injEq] at ho
          subst ho
          have v0 : az.eval (.tmp 16) = .int .i64 (m : Nat) := (hf 16 (by kernel_rfl)).trans (by kernel_rfl)
          have u0 : az.tmps[16]?.getD undef = .int .i64 (m : Nat) := by rw [← Array.getD_eq_getD_getElem?]; exact v0
          clear v0
          clear hd hf
          replace hK : ∀ w', (fun wz => Below wr.heap.size wr wz) w' → K (az.put (some 61) (.int .i64 (m : Nat))) w' := hK
          have HK := Lib.hid hK
          clear hK
          show if Region.wanted _ (yielded _ az.tmps) = true then Oper.wp _ _ az wz K _ else _
          go_simp
          exact HK.out _ hR
        · simp only [List.getElem?_toArray, List.getElem?_cons_zero, List.getElem?_cons_succ, Option.some.injEq] at ho
          subst ho
          have v0 : az.eval (.tmp 60) = .slice (some ⟨q1, o1, none⟩) out.length c8 := hd 7 60 (by kernel_rfl) (by kernel_rfl)
          have u0 : az.tmps[60]?.getD undef = .slice (some ⟨q1, o1, none⟩) out.length c8 := by rw [← Array.getD_eq_getD_getElem?]; exact v0
          clear v0
          have v1 : az.eval (.tmp 61) = .int .i64 (m : Nat) := hd 8 61 (by kernel_rfl) (by kernel_rfl)
          have u1 : az.tmps[61]?.getD undef = .int .i64 (m : Nat) := by rw [← Array.getD_eq_getD_getElem?]; exact v1
          clear v1
          clear hd hf
          replace hK : ∀ w', (fun wz => Below wr.heap.size wr wz) w' → K (az.put (some 62) (.pointer (some ⟨q1, o1 + m * 2, none⟩))) w' := hK
          have HK := Lib.hid hK
          clear hK
          have hjl := hmL
          show if Region.wanted _ (yielded _ az.tmps) = true then Oper.wp _ _ az wz K _ else _
          go_simp
          exact HK.out _ hR
        · simp only [List.getElem?_toArray, List.getElem?_cons_zero, List.getElem?_cons_succ, Option.some.injEq] at ho
          subst ho
          have v0 : az.eval (.tmp 62) = .pointer (some ⟨q1, o1 + m * 2, none⟩) := hd 9 62 (by kernel_rfl) (by kernel_rfl)
          have u0 : az.tmps[62]?.getD undef = .pointer (some ⟨q1, o1 + m * 2, none⟩) := by rw [← Array.getD_eq_getD_getElem?]; exact v0
          clear v0
          clear hd hf
          replace hK : ∀ w', (fun wz => Below wr.heap.size wr wz) w' → K (az.put (some 63) (.pointer (some ⟨q1, o1 + m * 2 + 1, none⟩))) w' := hK
          have HK := Lib.hid hK
          clear hK
          show if Region.wanted _ (yielded _ az.tmps) = true then Oper.wp _ _ az wz K _ else _
          go_simp
          exact HK.out _ hR
        · simp only [List.getElem?_toArray, List.getElem?_cons_zero, List.getElem?_cons_succ, Option.some.injEq] at ho
          subst ho
          have v0 : az.eval (.tmp 63) = .pointer (some ⟨q1, o1 + m * 2 + 1, none⟩) := hd 10 63 (by kernel_rfl) (by kernel_rfl)
          have u0 : az.tmps[63]?.getD undef = .pointer (some ⟨q1, o1 + m * 2 + 1, none⟩) := by rw [← Array.getD_eq_getD_getElem?]; exact v0
          clear v0
          clear hd hf
          replace hK : ∀ w', (fun wz => Below wr.heap.size wr wz) w' → K (az.put (some 64) (.pointer (some ⟨q1, o1 + m * 2 + 1, none⟩))) w' := hK
          have HK := Lib.hid hK
          clear hK
          show if Region.wanted _ (yielded _ az.tmps) = true then Oper.wp _ _ az wz K _ else _
          go_simp
          exact HK.out _ hR
        · simp only [List.getElem?_toArray, List.getElem?_cons_zero, List.getElem?_cons_succ, Option.some.injEq] at ho
          subst ho
          have v0 : az.eval (.tmp 64) = .pointer (some ⟨q1, o1 + m * 2 + 1, none⟩) := hd 11 64 (by kernel_rfl) (by kernel_rfl)
          have u0 : az.tmps[64]?.getD undef = .pointer (some ⟨q1, o1 + m * 2 + 1, none⟩) := by rw [← Array.getD_eq_getD_getElem?]; exact v0
          clear v0
          clear hd hf
          replace hK : ∀ w', (fun wz => Below wr.heap.size wr wz) w' → K (az.put (some 65) (.int .i32 y)) w' := hK
          have HK := Lib.hid hK
          clear hK
          have c0 := (cellLow (hR.block _ HQ.out.1) _).trans HQ.out.2.2
          show if Region.wanted _ (yielded _ az.tmps) = true then Oper.wp _ _ az wz K _ else _
          go_simp
          exact HK.out _ hR
        · simp only [List.getElem?_toArray, List.getElem?_cons_zero, List.getElem?_cons_succ, Option.some.injEq] at ho
          subst ho
          have v0 : az.eval (.tmp 59) = .int .i32 x := hd 6 59 (by kernel_rfl) (by kernel_rfl)
          have u0 : az.tmps[59]?.getD undef = .int .i32 x := by rw [← Array.getD_eq_getD_getElem?]; exact v0
          clear v0
          have v1 : az.eval (.tmp 65) = .int .i32 y := hd 12 65 (by kernel_rfl) (by kernel_rfl)
          have u1 : az.tmps[65]?.getD undef = .int .i32 y := by rw [← Array.getD_eq_getD_getElem?]; exact v1
          clear v1
          clear hd hf
          replace hK : ∀ w', (fun wz => Below wr.heap.size wr wz) w' → K (az.put (some 66) (.bool false)) w' := hK
          have HK := Lib.hid hK
          clear hK
          have hxy' : decide (y ≤ x) = false := decide_eq_false (by omega)
          show if Region.wanted _ (yielded _ az.tmps) = true then Oper.wp _ _ az wz K _ else _
          go_simp
          exact HK.out _ hR
      case h011 => exact (Below.refl _ _).drew
      case hend11 =>
        intro wz hR
        have HR := hid hR
        clear hR
        simp only [List.foldl_cons, List.foldl_nil, Act.put, List.setIfInBounds_toArray, List.set_cons_zero, List.set_cons_succ]
        go_wp2_with fail
        go_roundg g
        case measure => omega
        case rel => exact ⟨m, m + 1, rfl, rfl, by omega, by omega, HB.out.trans (HR.out.mono HB.out.size)⟩
end Go.Proofs.Ytphimfimnakclaa
