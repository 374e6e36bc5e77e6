/-
  The law FnDecodedReadsOnlyItsOwnToken, walked: it answers true. Conditions: utf8's two tables are laid; the argument's rows are rows.
-/
import Derived.Test.YtlpjejnfniiilaaDoorDz
namespace Go.Proofs.YtlpjejnfniiilaaDoor
set_option linter.unusedVariables false
open Go.ChangeShapes Go.WideShapes Go.ChangeAt Go.RowKit Go.Lib

set_option maxRecDepth 20000 in
set_option maxHeartbeats 2000000 in
theorem bytes12 (s : ByteArray) (a1 a2 a3 : Option Addr) (l1 l2 l3 c1 c2 c3 : Nat) (i p k : Int) (w : World) (hs : s.size ≤ maxLen) (h1 : l1 ≤ maxLen) (h2 : l2 ≤ maxLen) (h3 : l3 ≤ maxLen) :
    Calls Tryd.prog 12 #[.string s, .slice a1 l1 c1, .slice a2 l2 c2, .slice a3 l3 c3, .int .i64 i, .int .i64 p, .int .u8 k] w fun e w' => e = .returned (.bool (decide (s.size + l1 + l2 + l3 ≤ 1048576))) ∧ w' = w := by
  simp only [maxLen] at hs h1 h2 h3
  go_enter Tryd.func12, Tryd.ntmps12
  by_cases g0 : s.size ≤ 1048576
  · by_cases g1 : s.size + l1 ≤ 1048576
    · by_cases g2 : s.size + l1 + l2 ≤ 1048576
      · by_cases g3 : s.size + l1 + l2 + l3 ≤ 1048576
        · go_wp2
          go_ret
          exact ⟨by simp [g3], rfl⟩
        · by_cases g4 : l3 ≤ 1048576
          all_goals
            go_wp2
            go_ret
            exact ⟨by simp [g3], rfl⟩
      · have g3 : ¬ s.size + l1 + l2 + l3 ≤ 1048576 := by omega
        by_cases g4 : l2 ≤ 1048576
        all_goals
          go_wp2
          go_ret
          exact ⟨by simp [g3], rfl⟩
    · have g3 : ¬ s.size + l1 + l2 + l3 ≤ 1048576 := by omega
      by_cases g4 : l1 ≤ 1048576
      all_goals
        go_wp2
        go_ret
        exact ⟨by simp [g3], rfl⟩
  · have g3 : ¬ s.size + l1 + l2 + l3 ≤ 1048576 := by omega
    go_wp2
    go_ret
    exact ⟨by simp [g3], rfl⟩

set_option maxRecDepth 20000 in
set_option maxHeartbeats 8000000 in
theorem walk4 (s : ByteArray) (a1 a2 a3 : Option Addr) (l1 l2 l3 c1 c2 c3 : Nat) (z1 z2 z3 : List Int) (i0 p0 k : Int) (w : World) (hs : s.size ≤ maxLen) (r1 : Row .u8 w a1 l1 z1) (r2 : Row .i32 w a2 l2 z2) (r3 : Row .i32 w a3 l3 z3) (m1 : l1 ≤ maxLen) (m2 : l2 ≤ maxLen) (m3 : l3 ≤ maxLen) (hT : Utf8Tabs 1 2 w) :
    Calls Tryd.prog 4 #[.string s, .slice a1 l1 c1, .slice a2 l2 c2, .slice a3 l3 c3, .int .i64 i0, .int .i64 p0, .int .u8 k] w fun e w' => e = .returned (.bool true) ∧ Below w.heap.size w w' := by
  go_enter Tryd.func4, Tryd.ntmps4
  go_wp2_with fail
  refine (bytes12 s a1 a2 a3 l1 l2 l3 c1 c2 c3 i0 p0 k w hs m1 m2 m3).mono ?_
  rintro e wx ⟨rfl, hw⟩
  obtain rfl := hw.symm
  have R1 := Go.Lib.hid r1
  have R2 := Go.Lib.hid r2
  have R3 := Go.Lib.hid r3
  have HT := Go.Lib.hid hT
  clear r1 r2 r3 hT hs m1 m2 m3
  by_cases hB : s.size + l1 + l2 + l3 ≤ 1048576
  case neg =>
    rw [decide_eq_false hB]
    clear R1 R2 R3
    go_wp2
    go_ret
    exact ⟨rfl, Below.refl _ _⟩
  rw [decide_eq_true hB]
  by_cases hS : Small s l1 l2 l3
  case neg =>
    go_wp2_with fail
    refine (size13_no s a1 a2 a3 l1 l2 l3 c1 c2 c3 w hS hB).mono ?_
    rintro e wy ⟨rfl, hw⟩
    obtain rfl := hw.symm
    clear R1 R2 R3
    go_wp2
    go_ret
    exact ⟨rfl, Below.refl _ _⟩
  go_wp2_with fail
  refine (size13_yes s a1 a2 a3 l1 l2 l3 c1 c2 c3 w hS).mono ?_
  rintro e wy ⟨rfl, hw⟩
  obtain rfl := hw.symm
  go_wp2_with fail
  refine (shape14 s a1 a2 a3 l1 l2 l3 c1 c2 c3 z2 z3 w hS R2.out R3.out).mono ?_
  rintro e wd ⟨⟨b, nn, rfl, hwd, hP⟩⟩
  have HB0 := Go.Lib.hid (show Below w.heap.size w wd by rw [hwd]; exact below_drewN (Below.refl _ _) nn)
  clear hwd
  cases b
  case false =>
    clear hP R1 R2 R3
    go_wp2
    go_ret
    exact ⟨rfl, HB0.out⟩
  obtain ⟨e2, e3, hsh⟩ := hP rfl
  clear hP
  subst e2 e3
  have HSH := Go.Lib.hid hsh
  clear hsh
  by_cases hneg : i0 < 0
  · clear R1 R2 R3
    go_wp2
    go_ret
    exact ⟨rfl, HB0.out⟩
  obtain ⟨i, rfl⟩ := Int.eq_ofNat_of_zero_le (by omega : 0 ≤ i0)
  by_cases hgt : i ≤ l1
  case neg =>
    clear R1 R2 R3
    go_wp2
    go_ret
    exact ⟨rfl, HB0.out⟩
  by_cases hpneg : p0 < 0
  · clear R1 R2 R3
    go_wp2
    go_ret
    exact ⟨rfl, HB0.out⟩
  obtain ⟨p, rfl⟩ := Int.eq_ofNat_of_zero_le (by omega : 0 ≤ p0)
  by_cases hpl : p < s.size
  case neg =>
    clear R1 R2 R3
    go_wp2
    go_ret
    exact ⟨rfl, HB0.out⟩
  go_wp2_with fail
  refine (kind15 a1 a3 l1 c1 c3 z1 z3 i wd (R1.out.below (Nat.le_refl _) HB0.out) (R3.out.below (Nat.le_refl _) HB0.out)).mono ?_
  rintro e we ⟨⟨b, nn2, rfl, hwe, hP⟩⟩
  have HB1 := Go.Lib.hid (show Below w.heap.size w we by rw [hwe]; exact below_drewN HB0.out nn2)
  clear hwe HB0
  cases b
  case false =>
    clear hP R1 R2 R3
    go_wp2
    go_ret
    exact ⟨rfl, HB1.out⟩
  have HKI := Go.Lib.hid (hP rfl)
  clear hP
  by_cases hin : i < l1
  · obtain ⟨hz2, hz3, hz23⟩ := HSH.out i hin
    obtain ⟨b2, o2, rfl, lb2, q2⟩ := R2.out.cell (by omega)
    obtain ⟨b3, o3, rfl, lb3, q3⟩ := R3.out.cell (by omega)
    have x2 : we.cell? ⟨b2, o2 + i, none⟩ = some (.int .i32 (z2.getD i 0)) := by rw [HB1.out.cell (p := ⟨b2, o2 + i, none⟩) lb2]; exact q2 i hin
    have x3 : we.cell? ⟨b3, o3 + i, none⟩ = some (.int .i32 (z3.getD i 0)) := by rw [HB1.out.cell (p := ⟨b3, o3 + i, none⟩) lb3]; exact q3 i hin
    clear q2 q3
    obtain ⟨a, ha⟩ := Int.eq_ofNat_of_zero_le hz2
    obtain ⟨b, hb⟩ := Int.eq_ofNat_of_zero_le hz3
    have HK := Go.Lib.hid (HKI.out hin)
    clear HKI
    have HC := Go.Lib.hid (fun t : ByteArray => (show cur t l1 (tkOf z1 z2 z3) i = ⟨(a : Int), (b : Int), z1.getD i 0⟩ by rw [cur, if_pos hin, tkOf, ha, hb]))
    rw [ha] at x2 hz23
    rw [hb] at x3 hz23 HK
    clear hz2 hz3 ha hb HSH
    have hab : a + b ≤ s.size := by omega
    by_cases hp1 : a ≤ p
    · by_cases hp2 : p < a + b
      · clear R1 R2 R3
        go_wp2
        go_ret
        exact ⟨rfl, HB1.out⟩
      · have hout : p < a ∨ a + b ≤ p := .inr (by omega)
        go_wp2_with fail
        refine (with16 s p k we (by omega) hpl).mono ?_
        rintro e wf ⟨⟨t, rfl, hts, htj⟩, hb1⟩
        have HE := Go.Lib.hid (ext_same (a := a) (b := b) hts (fun j hj hs h1 h2 => htj j hj hs (by omega)))
        have HB2 := Go.Lib.hid (HB1.out.trans (hb1.mono HB1.out.size))
        clear htj hb1 HB1 x2 x3
        go_wp2_with fail
        refine (tokens17 a1 (some ⟨b2, o2, none⟩) (some ⟨b3, o3, none⟩) l1 c1 c2 c3 z1 z2 z3 wf (by omega) (R1.out.below (Nat.le_refl _) HB2.out) (R2.out.below (Nat.le_refl _) HB2.out) (R3.out.below (Nat.le_refl _) HB2.out)).mono ?_
        rintro e wt ⟨rfl, hTk⟩
        have HTk := Go.Lib.hid hTk
        clear hTk R1 R2 R3
        go_wp2_with fail
        refine (new18 s l1 (tkOf z1 z2 z3) i wf wt HTk.out (by omega) (by omega)).mono ?_
        rintro e wp ⟨rfl, hP1, hbt1⟩
        have HP1 := Go.Lib.hid hP1
        have HTk2 := Go.Lib.hid (HTk.out.call hbt1)
        clear hP1
        go_wp2_with fail
        refine (new18 t l1 (tkOf z1 z2 z3) i wf wp HTk2.out (by omega) (by omega)).mono ?_
        rintro e wq ⟨rfl, hP2, hbt2⟩
        have HP2 := Go.Lib.hid hP2
        have HP1' := Go.Lib.hid (HP1.out.call hbt2)
        have HB3 := Go.Lib.hid (HB2.out.trans ((HTk2.out.call hbt2).below.mono HB2.out.size))
        clear hP2 HP1 HTk HTk2 HB2 hbt1 hbt2
        go_wp2_with fail
        refine (zdec19 wt.heap.size s (s.extract a (a + b)) wf.heap.size l1 (tkOf z1 z2 z3) i a b (z1.getD i 0) wq HP1'.out (by omega) (Utf8Tabs_below HT.out HB3.out) (by rw [HC.out s]) (by rw [HC.out s]) (by rw [HC.out s]) hab rfl (by rcases HK.out with h | h | ⟨h, h2⟩ <;> omega)).mono ?_
        rintro e wr ⟨⟨R, rfl, hR⟩, hbr⟩
        have HR := Go.Lib.hid hR
        have HP2' := Go.Lib.hid (HP2.out.call hbr)
        have HB4 := Go.Lib.hid (HB3.out.trans (hbr.mono HB3.out.size))
        clear hR hbr HP2 HP1' HB3
        go_wp2_with fail
        refine (zdec19 wp.heap.size t (t.extract a (a + b)) wf.heap.size l1 (tkOf z1 z2 z3) i a b (z1.getD i 0) wr HP2'.out (by omega) (Utf8Tabs_below HT.out HB4.out) (by rw [HC.out t]) (by rw [HC.out t]) (by rw [HC.out t]) (by rw [hts]; exact hab) rfl (by rcases HK.out with h | h | ⟨h, h2⟩ <;> omega)).mono ?_
        rintro e wz ⟨⟨R', rfl, hR'⟩, hbz⟩
        rw [HE.out] at hR'
        have HRR : Hid (R = R') := Go.Lib.hid (HR.out.one hR')
        have HB5 := Go.Lib.hid (HB4.out.trans (hbz.mono HB4.out.size))
        clear hR' hbz HP2' HB4 HR
        obtain rfl := HRR.out
        go_wp2_with fail
        go_ret
        exact ⟨by simp, HB5.out⟩
    · have hout : p < a ∨ a + b ≤ p := .inl (by omega)
      go_wp2_with fail
      refine (with16 s p k we (by omega) hpl).mono ?_
      rintro e wf ⟨⟨t, rfl, hts, htj⟩, hb1⟩
      have HE := Go.Lib.hid (ext_same (a := a) (b := b) hts (fun j hj hs h1 h2 => htj j hj hs (by omega)))
      have HB2 := Go.Lib.hid (HB1.out.trans (hb1.mono HB1.out.size))
      clear htj hb1 HB1 x2 x3
      go_wp2_with fail
      refine (tokens17 a1 (some ⟨b2, o2, none⟩) (some ⟨b3, o3, none⟩) l1 c1 c2 c3 z1 z2 z3 wf (by omega) (R1.out.below (Nat.le_refl _) HB2.out) (R2.out.below (Nat.le_refl _) HB2.out) (R3.out.below (Nat.le_refl _) HB2.out)).mono ?_
      rintro e wt ⟨rfl, hTk⟩
      have HTk := Go.Lib.hid hTk
      clear hTk R1 R2 R3
      go_wp2_with fail
      refine (new18 s l1 (tkOf z1 z2 z3) i wf wt HTk.out (by omega) (by omega)).mono ?_
      rintro e wp ⟨rfl, hP1, hbt1⟩
      have HP1 := Go.Lib.hid hP1
      have HTk2 := Go.Lib.hid (HTk.out.call hbt1)
      clear hP1
      go_wp2_with fail
      refine (new18 t l1 (tkOf z1 z2 z3) i wf wp HTk2.out (by omega) (by omega)).mono ?_
      rintro e wq ⟨rfl, hP2, hbt2⟩
      have HP2 := Go.Lib.hid hP2
      have HP1' := Go.Lib.hid (HP1.out.call hbt2)
      have HB3 := Go.Lib.hid (HB2.out.trans ((HTk2.out.call hbt2).below.mono HB2.out.size))
      clear hP2 HP1 HTk HTk2 HB2 hbt1 hbt2
      go_wp2_with fail
      refine (zdec19 wt.heap.size s (s.extract a (a + b)) wf.heap.size l1 (tkOf z1 z2 z3) i a b (z1.getD i 0) wq HP1'.out (by omega) (Utf8Tabs_below HT.out HB3.out) (by rw [HC.out s]) (by rw [HC.out s]) (by rw [HC.out s]) hab rfl (by rcases HK.out with h | h | ⟨h, h2⟩ <;> omega)).mono ?_
      rintro e wr ⟨⟨R, rfl, hR⟩, hbr⟩
      have HR := Go.Lib.hid hR
      have HP2' := Go.Lib.hid (HP2.out.call hbr)
      have HB4 := Go.Lib.hid (HB3.out.trans (hbr.mono HB3.out.size))
      clear hR hbr HP2 HP1' HB3
      go_wp2_with fail
      refine (zdec19 wp.heap.size t (t.extract a (a + b)) wf.heap.size l1 (tkOf z1 z2 z3) i a b (z1.getD i 0) wr HP2'.out (by omega) (Utf8Tabs_below HT.out HB4.out) (by rw [HC.out t]) (by rw [HC.out t]) (by rw [HC.out t]) (by rw [hts]; exact hab) rfl (by rcases HK.out with h | h | ⟨h, h2⟩ <;> omega)).mono ?_
      rintro e wz ⟨⟨R', rfl, hR'⟩, hbz⟩
      rw [HE.out] at hR'
      have HRR : Hid (R = R') := Go.Lib.hid (HR.out.one hR')
      have HB5 := Go.Lib.hid (HB4.out.trans (hbz.mono HB4.out.size))
      clear hR' hbz HP2' HB4 HR
      obtain rfl := HRR.out
      go_wp2_with fail
      go_ret
      exact ⟨by simp, HB5.out⟩
  · obtain rfl : i = l1 := by omega
    have hout : p < s.size ∨ s.size + 0 ≤ p := .inl hpl
    have HC := Go.Lib.hid (fun t : ByteArray => fun (ht : t.size = s.size) => (show cur t i (tkOf z1 z2 z3) i = ⟨(s.size : Int), ((0 : Nat) : Int), 0⟩ by rw [cur, if_neg (by omega), ht]; rfl))
    clear HKI HSH
    go_wp2_with fail
    refine (with16 s p k we (by omega) hpl).mono ?_
    rintro e wf ⟨⟨t, rfl, hts, htj⟩, hb1⟩
    have HE := Go.Lib.hid (ext_same (a := s.size) (b := 0) hts (fun j hj hs h1 h2 => by omega))
    have HB2 := Go.Lib.hid (HB1.out.trans (hb1.mono HB1.out.size))
    clear htj hb1 HB1
    go_wp2_with fail
    refine (tokens17 a1 a2 a3 i c1 c2 c3 z1 z2 z3 wf (by omega) (R1.out.below (Nat.le_refl _) HB2.out) (R2.out.below (Nat.le_refl _) HB2.out) (R3.out.below (Nat.le_refl _) HB2.out)).mono ?_
    rintro e wt ⟨rfl, hTk⟩
    have HTk := Go.Lib.hid hTk
    clear hTk R1 R2 R3
    go_wp2_with fail
    refine (new18 s i (tkOf z1 z2 z3) i wf wt HTk.out (by omega) (by omega)).mono ?_
    rintro e wp ⟨rfl, hP1, hbt1⟩
    have HP1 := Go.Lib.hid hP1
    have HTk2 := Go.Lib.hid (HTk.out.call hbt1)
    clear hP1
    go_wp2_with fail
    refine (new18 t i (tkOf z1 z2 z3) i wf wp HTk2.out (by omega) (by omega)).mono ?_
    rintro e wq ⟨rfl, hP2, hbt2⟩
    have HP2 := Go.Lib.hid hP2
    have HP1' := Go.Lib.hid (HP1.out.call hbt2)
    have HB3 := Go.Lib.hid (HB2.out.trans ((HTk2.out.call hbt2).below.mono HB2.out.size))
    clear hP2 HP1 HTk HTk2 HB2 hbt1 hbt2
    go_wp2_with fail
    refine (zdec19 wt.heap.size s (s.extract s.size (s.size + 0)) wf.heap.size i (tkOf z1 z2 z3) i s.size 0 0 wq HP1'.out (by omega) (Utf8Tabs_below HT.out HB3.out) (by rw [HC.out s rfl]) (by rw [HC.out s rfl]) (by rw [HC.out s rfl]) (by omega) rfl (.inr (.inr (.inr rfl)))).mono ?_
    rintro e wr ⟨⟨R, rfl, hR⟩, hbr⟩
    have HR := Go.Lib.hid hR
    have HP2' := Go.Lib.hid (HP2.out.call hbr)
    have HB4 := Go.Lib.hid (HB3.out.trans (hbr.mono HB3.out.size))
    clear hR hbr HP2 HP1' HB3
    go_wp2_with fail
    refine (zdec19 wp.heap.size t (t.extract s.size (s.size + 0)) wf.heap.size i (tkOf z1 z2 z3) i s.size 0 0 wr HP2'.out (by omega) (Utf8Tabs_below HT.out HB4.out) (by rw [HC.out t hts]) (by rw [HC.out t hts]) (by rw [HC.out t hts]) (by rw [hts]; exact (by omega)) rfl (.inr (.inr (.inr rfl)))).mono ?_
    rintro e wz ⟨⟨R', rfl, hR'⟩, hbz⟩
    rw [HE.out] at hR'
    have HRR : Hid (R = R') := Go.Lib.hid (HR.out.one hR')
    have HB5 := Go.Lib.hid (HB4.out.trans (hbz.mono HB4.out.size))
    clear hR' hbz HP2' HB4 HR
    obtain rfl := HRR.out
    go_wp2_with fail
    go_ret
    exact ⟨by simp, HB5.out⟩
end Go.Proofs.YtlpjejnfniiilaaDoor
