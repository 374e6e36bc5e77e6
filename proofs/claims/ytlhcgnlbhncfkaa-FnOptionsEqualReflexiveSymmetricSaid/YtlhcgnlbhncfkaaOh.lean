/-
  The walk of the law on Equal's reflexivity and symmetry. Conditions: the shapes of the arguments.
-/
import Derived.Test.YtlhcgnlbhncfkaaOg
namespace Go.Proofs.Ytlhcgnlbhncfkaa
open Go.ChangeShapes Go.WideShapes Go.ChangeAt Go.RowKit
open Go.Maps (Keyed IsMap Tidy)
set_option maxRecDepth 20000 in
set_option maxHeartbeats 4000000 in
theorem walk5 (a0 : Int) (a1 : Int) (a2 : Int) (a3 : ByteArray) (a4 : Option Addr) (len4 cap4 : Nat) (z4 : List Int) (a5 : Option Addr) (len5 cap5 : Nat) (z5 : List Int) (a6 : Int) (a7 : Int) (a8 : Int) (a9 : ByteArray) (a10 : Option Addr) (len10 cap10 : Nat) (z10 : List Int) (a11 : Option Addr) (len11 cap11 : Nat) (z11 : List Int) (w : World) (w0 : (Lit.int .u8 a0).wf = true) (w1 : (Lit.int .u8 a1).wf = true) (w2 : (Lit.int .u16 a2).wf = true) (w3 : a3.size ≤ maxLen) (w4 : IsRow .u16 w a4 len4 cap4 z4) (w5 : IsRow .u8 w a5 len5 cap5 z5) (w6 : (Lit.int .u8 a6).wf = true) (w7 : (Lit.int .u8 a7).wf = true) (w8 : (Lit.int .u16 a8).wf = true) (w9 : a9.size ≤ maxLen) (w10 : IsRow .u16 w a10 len10 cap10 z10) (w11 : IsRow .u8 w a11 len11 cap11 z11) :
    Calls Try.prog 5 #[.int .u8 a0, .int .u8 a1, .int .u16 a2, .string a3, .slice a4 len4 cap4, .slice a5 len5 cap5, .int .u8 a6, .int .u8 a7, .int .u16 a8, .string a9, .slice a10 len10 cap10, .slice a11 len11 cap11] w fun e w' => e = .returned (.bool true) ∧ Below w.heap.size w w' := by
  have R4 := Lib.hid w4.row.1
  have R5 := Lib.hid w5.row.1
  have R10 := Lib.hid w10.row.1
  have R11 := Lib.hid w11.row.1
  clear w4 w5 w10 w11 w0 w2 w6 w8
  obtain ⟨DA, hDA⟩ : ∃ DA, DA = pm z4 z5 (min len4 len5) := ⟨_, rfl⟩
  obtain ⟨DB, hDB⟩ : ∃ DB, DB = pm z10 z11 (min len10 len11) := ⟨_, rfl⟩
  have C15A := Lib.hid (show len4 ≤ 1048576 → len5 ≤ 1048576 → ∀ X, Below w.heap.size w X → Calls Try.prog 15 #[.int .u8 a1, .int .u16 a2, .string a3, .slice a4 len4 cap4, .slice a5 len5 cap5] X (fun e w' => (∃ q p, e = .returned (.pointer (some ⟨q, 0, none⟩)) ∧ Cfg w' q p (flg a1 1) (flg a1 2) (flg a1 4) a2 a3 ∧ PMap w' (.map p) DA) ∧ Below X.heap.size X w') from fun h h' X hX => by rw [hDA]; exact config15 a1 a2 a3 a4 a5 len4 len5 cap4 cap5 z4 z5 X h h' (R4.out.below (Nat.le_refl _) hX) (R5.out.below (Nat.le_refl _) hX))
  have C15B := Lib.hid (show len10 ≤ 1048576 → len11 ≤ 1048576 → ∀ X, Below w.heap.size w X → Calls Try.prog 15 #[.int .u8 a7, .int .u16 a8, .string a9, .slice a10 len10 cap10, .slice a11 len11 cap11] X (fun e w' => (∃ q p, e = .returned (.pointer (some ⟨q, 0, none⟩)) ∧ Cfg w' q p (flg a7 1) (flg a7 2) (flg a7 4) a8 a9 ∧ PMap w' (.map p) DB) ∧ Below X.heap.size X w') from fun h h' X hX => by rw [hDB]; exact config15 a7 a8 a9 a10 a11 len10 len11 cap10 cap11 z10 z11 X h h' (R10.out.below (Nat.le_refl _) hX) (R11.out.below (Nat.le_refl _) hX))
  clear hDA hDB R4 R5 R10 R11 w1 w7
  go_enter Try.func5, Try.ntmps5
  go_wp2_with fail
  refine (bytes19 a0 a1 a2 a6 a7 a8 a3 a9 a4 a5 a10 a11 len4 len5 len10 len11 cap4 cap5 cap10 cap11 _ w3 w9).mono ?_
  rintro e wx ⟨⟨b, rfl, hb⟩, hw⟩
  obtain rfl := hw.symm
  clear hw w3 w9
  cases b
  · go_wp2_with fail
    exact bodyPost_ret (v := .bool true) (by simp [results, Try.results5, go_sem]) rfl ⟨rfl, Below.refl _ _⟩
  obtain ⟨h3, h4, h5, h9, h10, h11⟩ := hb rfl
  clear hb
  have A15 := Lib.hid (C15A.out h4 h5)
  have B15 := Lib.hid (C15B.out h10 h11)
  clear C15A C15B
  by_cases hs : (1048576 : Int) < a3.size + a9.size + 2 * len4 + len5 + 2 * len10 + len11
  · go_wp2_with fail
    exact bodyPost_ret (v := .bool true) (by simp [results, Try.results5, go_sem]) rfl ⟨rfl, Below.refl _ _⟩
  have BW := Lib.hid (Below.refl w.heap.size w)
  go_wp2_with fail
  refine (A15.out _ BW.out).mono ?_
  rintro e x1 ⟨⟨q1, p1, rfl, hc0, hp0⟩, hb0⟩
  have HC1 := Lib.hid hc0
  have P1 := Lib.hid hp0
  have BW := Lib.hid (BW.out.trans (hb0.mono BW.out.size))
  clear hc0 hp0 hb0
  go_wp2_with fail
  refine (opt14 a0 q1 p1 _ _ _ a2 a3 _ HC1.out).mono ?_
  rintro e x2 ⟨rfl, hb2⟩
  have om := OptAt.made2 x2 p1 (flg a1 1) (flg a1 2) (flg a1 4) a2 a3 (mode a0)
  have bm := Below.alloc (Below.refl x2.heap.size x2) (Nat.le_refl _) (.cells #[.map p1, .string a3, .int .u16 a2, .bool (flg a1 1), .bool (flg a1 2), .bool (flg a1 4), .int .u8 (mode a0)] 49)
  obtain ⟨X, hX⟩ : ∃ X, X = x2.alloc (.cells #[.map p1, .string a3, .int .u16 a2, .bool (flg a1 1), .bool (flg a1 2), .bool (flg a1 4), .int .u8 (mode a0)] 49) := ⟨_, rfl⟩
  rw [← hX] at om bm
  have O1 := Lib.hid om
  have bb := hb2.trans (bm.mono hb2.size)
  have P1 := Lib.hid (P1.out.below bb)
  have BW := Lib.hid (BW.out.trans (bb.mono BW.out.size))
  clear hb2 om bm bb
  unfold optV
  go_wp2_with fail
  rw [← hX]
  clear hX
  refine (A15.out _ BW.out).mono ?_
  rintro e y1 ⟨⟨q2, p2, rfl, hc0, hp0⟩, hb0⟩
  have HC2 := Lib.hid hc0
  have P2 := Lib.hid hp0
  have O1 := Lib.hid (O1.out.below hb0)
  have P1 := Lib.hid (P1.out.below hb0)
  have BW := Lib.hid (BW.out.trans (hb0.mono BW.out.size))
  clear hc0 hp0 hb0
  go_wp2_with fail
  refine (opt14 a0 q2 p2 _ _ _ a2 a3 _ HC2.out).mono ?_
  rintro e y2 ⟨rfl, hb2⟩
  have om := OptAt.made2 y2 p2 (flg a1 1) (flg a1 2) (flg a1 4) a2 a3 (mode a0)
  have bm := Below.alloc (Below.refl y2.heap.size y2) (Nat.le_refl _) (.cells #[.map p2, .string a3, .int .u16 a2, .bool (flg a1 1), .bool (flg a1 2), .bool (flg a1 4), .int .u8 (mode a0)] 49)
  obtain ⟨Y, hY⟩ : ∃ Y, Y = y2.alloc (.cells #[.map p2, .string a3, .int .u16 a2, .bool (flg a1 1), .bool (flg a1 2), .bool (flg a1 4), .int .u8 (mode a0)] 49) := ⟨_, rfl⟩
  rw [← hY] at om bm
  have O2 := Lib.hid om
  have bb := hb2.trans (bm.mono hb2.size)
  have O1 := Lib.hid (O1.out.below bb)
  have P1 := Lib.hid (P1.out.below bb)
  have P2 := Lib.hid (P2.out.below bb)
  have BW := Lib.hid (BW.out.trans (bb.mono BW.out.size))
  clear hb2 om bm bb
  unfold optV
  go_wp2_with fail
  rw [← hY]
  clear hY
  refine (B15.out _ BW.out).mono ?_
  rintro e z1 ⟨⟨q3, p3, rfl, hc0, hp0⟩, hb0⟩
  have HC3 := Lib.hid hc0
  have P3 := Lib.hid hp0
  have O1 := Lib.hid (O1.out.below hb0)
  have P1 := Lib.hid (P1.out.below hb0)
  have O2 := Lib.hid (O2.out.below hb0)
  have P2 := Lib.hid (P2.out.below hb0)
  have BW := Lib.hid (BW.out.trans (hb0.mono BW.out.size))
  clear hc0 hp0 hb0
  go_wp2_with fail
  refine (opt14 a6 q3 p3 _ _ _ a8 a9 _ HC3.out).mono ?_
  rintro e z2 ⟨rfl, hb2⟩
  have om := OptAt.made2 z2 p3 (flg a7 1) (flg a7 2) (flg a7 4) a8 a9 (mode a6)
  have bm := Below.alloc (Below.refl z2.heap.size z2) (Nat.le_refl _) (.cells #[.map p3, .string a9, .int .u16 a8, .bool (flg a7 1), .bool (flg a7 2), .bool (flg a7 4), .int .u8 (mode a6)] 49)
  obtain ⟨Z, hZ⟩ : ∃ Z, Z = z2.alloc (.cells #[.map p3, .string a9, .int .u16 a8, .bool (flg a7 1), .bool (flg a7 2), .bool (flg a7 4), .int .u8 (mode a6)] 49) := ⟨_, rfl⟩
  rw [← hZ] at om bm
  have O3 := Lib.hid om
  have bb := hb2.trans (bm.mono hb2.size)
  have O1 := Lib.hid (O1.out.below bb)
  have P1 := Lib.hid (P1.out.below bb)
  have P2 := Lib.hid (P2.out.below bb)
  have O2 := Lib.hid (O2.out.below bb)
  have P3 := Lib.hid (P3.out.below bb)
  have BW := Lib.hid (BW.out.trans (bb.mono BW.out.size))
  clear hb2 om bm bb
  unfold optV
  go_wp2_with fail
  rw [← hZ]
  clear hZ
  clear A15 B15 HC1 HC2 HC3
  have N1 := P1.out.nice
  have N3 := P3.out.nice
  refine (equal18 _ _ p1 p1 _ _ _ _ _ _ a2 a2 a3 a3 _ _ DA DA _ O1.out O1.out P1.out P1.out).mono ?_
  rintro e v1 ⟨⟨r1, rfl, hr1⟩, hb0⟩
  have O1 := Lib.hid (O1.out.below hb0)
  have P1 := Lib.hid (P1.out.below hb0)
  have O2 := Lib.hid (O2.out.below hb0)
  have P2 := Lib.hid (P2.out.below hb0)
  have O3 := Lib.hid (O3.out.below hb0)
  have P3 := Lib.hid (P3.out.below hb0)
  have BW := Lib.hid (BW.out.trans (hb0.mono BW.out.size))
  clear hb0
  obtain rfl : r1 = true := hr1.2 ⟨⟨rfl, rfl, rfl, rfl, rfl, rfl⟩, EqD.refl _⟩
  clear hr1
  go_wp2_with fail
  refine (equal18 _ _ p3 p3 _ _ _ _ _ _ a8 a8 a9 a9 _ _ DB DB _ O3.out O3.out P3.out P3.out).mono ?_
  rintro e v2 ⟨⟨r2, rfl, hr2⟩, hb0⟩
  have O1 := Lib.hid (O1.out.below hb0)
  have P1 := Lib.hid (P1.out.below hb0)
  have O2 := Lib.hid (O2.out.below hb0)
  have P2 := Lib.hid (P2.out.below hb0)
  have O3 := Lib.hid (O3.out.below hb0)
  have P3 := Lib.hid (P3.out.below hb0)
  have BW := Lib.hid (BW.out.trans (hb0.mono BW.out.size))
  clear hb0
  obtain rfl : r2 = true := hr2.2 ⟨⟨rfl, rfl, rfl, rfl, rfl, rfl⟩, EqD.refl _⟩
  clear hr2
  go_wp2_with fail
  refine (equal18 _ _ p1 p2 _ _ _ _ _ _ a2 a2 a3 a3 _ _ DA DA _ O1.out O2.out P1.out P2.out).mono ?_
  rintro e v3 ⟨⟨r3, rfl, hr3⟩, hb0⟩
  have O1 := Lib.hid (O1.out.below hb0)
  have P1 := Lib.hid (P1.out.below hb0)
  have O2 := Lib.hid (O2.out.below hb0)
  have P2 := Lib.hid (P2.out.below hb0)
  have O3 := Lib.hid (O3.out.below hb0)
  have P3 := Lib.hid (P3.out.below hb0)
  have BW := Lib.hid (BW.out.trans (hb0.mono BW.out.size))
  clear hb0
  obtain rfl : r3 = true := hr3.2 ⟨⟨rfl, rfl, rfl, rfl, rfl, rfl⟩, EqD.refl _⟩
  clear hr3
  go_wp2_with fail
  refine (equal18 _ _ p2 p1 _ _ _ _ _ _ a2 a2 a3 a3 _ _ DA DA _ O2.out O1.out P2.out P1.out).mono ?_
  rintro e v4 ⟨⟨r4, rfl, hr4⟩, hb0⟩
  have O1 := Lib.hid (O1.out.below hb0)
  have P1 := Lib.hid (P1.out.below hb0)
  have O2 := Lib.hid (O2.out.below hb0)
  have P2 := Lib.hid (P2.out.below hb0)
  have O3 := Lib.hid (O3.out.below hb0)
  have P3 := Lib.hid (P3.out.below hb0)
  have BW := Lib.hid (BW.out.trans (hb0.mono BW.out.size))
  clear hb0
  obtain rfl : r4 = true := hr4.2 ⟨⟨rfl, rfl, rfl, rfl, rfl, rfl⟩, EqD.refl _⟩
  clear hr4
  go_wp2_with fail
  refine (equal18 _ _ p1 p3 _ _ _ _ _ _ a2 a8 a3 a9 _ _ DA DB _ O1.out O3.out P1.out P3.out).mono ?_
  rintro e v5 ⟨⟨r5, rfl, hr5⟩, hb0⟩
  have O1 := Lib.hid (O1.out.below hb0)
  have P1 := Lib.hid (P1.out.below hb0)
  have O2 := Lib.hid (O2.out.below hb0)
  have P2 := Lib.hid (P2.out.below hb0)
  have O3 := Lib.hid (O3.out.below hb0)
  have P3 := Lib.hid (P3.out.below hb0)
  have BW := Lib.hid (BW.out.trans (hb0.mono BW.out.size))
  clear hb0
  have HR := Lib.hid hr5
  clear hr5
  cases r5
  all_goals
    go_wp2_with fail
    refine (equal18 _ _ p3 p1 _ _ _ _ _ _ a8 a2 a9 a3 _ _ DB DA _ O3.out O1.out P3.out P1.out).mono ?_
    rintro e v6 ⟨⟨r6, rfl, hr6⟩, hb0⟩
    have O1 := Lib.hid (O1.out.below hb0)
    have P1 := Lib.hid (P1.out.below hb0)
    have O2 := Lib.hid (O2.out.below hb0)
    have P2 := Lib.hid (P2.out.below hb0)
    have O3 := Lib.hid (O3.out.below hb0)
    have P3 := Lib.hid (P3.out.below hb0)
    have BW := Lib.hid (BW.out.trans (hb0.mono BW.out.size))
    clear hb0
    have sy := HR.out.trans ((show _ ↔ _ from ⟨fun h => ⟨⟨h.1.1.symm, h.1.2.1.symm, h.1.2.2.1.symm, h.1.2.2.2.1.symm, h.1.2.2.2.2.1.symm, h.1.2.2.2.2.2.symm⟩, EqD.symm N1 N3 h.2⟩, fun h => ⟨⟨h.1.1.symm, h.1.2.1.symm, h.1.2.2.1.symm, h.1.2.2.2.1.symm, h.1.2.2.2.2.1.symm, h.1.2.2.2.2.2.symm⟩, EqD.symm N3 N1 h.2⟩⟩).trans hr6.symm)
    clear hr6
    cases r6
    all_goals first | (exfalso; revert sy; decide) | skip
    all_goals
      clear sy
      go_wp2_with fail
      exact bodyPost_ret (v := .bool true) (by simp [results, Try.results5, go_sem]) rfl ⟨rfl, BW.out⟩
end Go.Proofs.Ytlhcgnlbhncfkaa
