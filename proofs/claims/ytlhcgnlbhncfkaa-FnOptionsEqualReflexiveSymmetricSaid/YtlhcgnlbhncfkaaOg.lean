/-
  The walk of the law on two options' equality. Conditions: the shapes of the arguments.
-/
import Derived.Test.YtlhcgnlbhncfkaaOf
namespace Go.Proofs.Ytlhcgnlbhncfkaa
open Go.ChangeShapes Go.WideShapes Go.ChangeAt Go.RowKit
open Go.Maps (Keyed IsMap Tidy)

theorem OptAt.made2 (w : World) (p : Option Nat) (f1 f2 f3 : Bool) (ft : Int) (env : ByteArray) (m : Int) :
    OptAt (w.alloc (.cells #[.map p, .string env, .int .u16 ft, .bool f1, .bool f2, .bool f3, .int .u8 m] 49)) w.heap.size p f1 f2 f3 ft env m := by
  have h := Go.heap_alloc_new w (.cells #[.map p, .string env, .int .u16 ft, .bool f1, .bool f2, .bool f3, .int .u8 m] 49)
  refine ⟨by simp, ?_, ?_, ?_, ?_, ?_, ?_, ?_⟩ <;> (unfold World.cell?; simp only [h]; rfl)
theorem toList_iff (ea eb : ByteArray) : ((ea.toList == eb.toList) = true) ↔ ea = eb := by
  rw [beq_iff_eq, ByteArray.toList_eq, ByteArray.toList_eq]
  constructor
  · intro h
    obtain ⟨⟨x⟩⟩ := ea
    obtain ⟨⟨y⟩⟩ := eb
    simp at h
    rw [h]
  · intro h; rw [h]
theorem flags_sum : ∀ n : Fin 256, bits .and .u8 (n.val : Int) 7 = (if flg n.val 1 then 1 else 0) + (if flg n.val 2 then 2 else 0) + (if flg n.val 4 then 4 else 0) := by decide +kernel
theorem flags_iff {x y : Int} (hx : (Lit.int .u8 x).wf = true) (hy : (Lit.int .u8 y).wf = true) : bits .and .u8 x 7 = bits .and .u8 y 7 ↔ flg x 1 = flg y 1 ∧ flg x 2 = flg y 2 ∧ flg x 4 = flg y 4 := by
  obtain ⟨x0, x1⟩ := wf_u8 hx
  obtain ⟨y0, y1⟩ := wf_u8 hy
  have ex := flags_sum ⟨x.toNat, by omega⟩
  have ey := flags_sum ⟨y.toNat, by omega⟩
  simp only [Int.toNat_of_nonneg x0, Int.toNat_of_nonneg y0] at ex ey
  rw [ex, ey]
  cases flg x 1 <;> cases flg x 2 <;> cases flg x 4 <;> cases flg y 1 <;> cases flg y 2 <;> cases flg y 4 <;> decide
set_option maxRecDepth 20000 in
set_option maxHeartbeats 4000000 in
theorem walk4 (a0 : Int) (a1 : Int) (a2 : Int) (a3 : ByteArray) (a4 : Option Addr) (len4 cap4 : Nat) (z4 : List Int) (a5 : Option Addr) (len5 cap5 : Nat) (z5 : List Int) (a6 : Int) (a7 : Int) (a8 : Int) (a9 : ByteArray) (a10 : Option Addr) (len10 cap10 : Nat) (z10 : List Int) (a11 : Option Addr) (len11 cap11 : Nat) (z11 : List Int) (w : World) (w0 : (Lit.int .u8 a0).wf = true) (w1 : (Lit.int .u8 a1).wf = true) (w2 : (Lit.int .u16 a2).wf = true) (w3 : a3.size ≤ maxLen) (w4 : IsRow .u16 w a4 len4 cap4 z4) (w5 : IsRow .u8 w a5 len5 cap5 z5) (w6 : (Lit.int .u8 a6).wf = true) (w7 : (Lit.int .u8 a7).wf = true) (w8 : (Lit.int .u16 a8).wf = true) (w9 : a9.size ≤ maxLen) (w10 : IsRow .u16 w a10 len10 cap10 z10) (w11 : IsRow .u8 w a11 len11 cap11 z11) :
    Calls Try.prog 4 #[.int .u8 a0, .int .u8 a1, .int .u16 a2, .string a3, .slice a4 len4 cap4, .slice a5 len5 cap5, .int .u8 a6, .int .u8 a7, .int .u16 a8, .string a9, .slice a10 len10 cap10, .slice a11 len11 cap11] w fun e w' => e = .returned (.bool true) ∧ Below w.heap.size w w' := by
  have R4 := Lib.hid w4.row.1
  have R5 := Lib.hid w5.row.1
  have R10 := Lib.hid w10.row.1
  have R11 := Lib.hid w11.row.1
  have FI := Lib.hid (flags_iff w1 w7)
  clear w4 w5 w10 w11 w0 w2 w6 w8
  obtain ⟨DA, hDA⟩ : ∃ DA, DA = pm z4 z5 (min len4 len5) := ⟨_, rfl⟩
  obtain ⟨DB, hDB⟩ : ∃ DB, DB = pm z10 z11 (min len10 len11) := ⟨_, rfl⟩
  have C15A := Lib.hid (show len4 ≤ 1048576 → len5 ≤ 1048576 → ∀ X, Below w.heap.size w X → Calls Try.prog 15 #[.int .u8 a1, .int .u16 a2, .string a3, .slice a4 len4 cap4, .slice a5 len5 cap5] X (fun e w' => (∃ q p, e = .returned (.pointer (some ⟨q, 0, none⟩)) ∧ Cfg w' q p (flg a1 1) (flg a1 2) (flg a1 4) a2 a3 ∧ PMap w' (.map p) DA) ∧ Below X.heap.size X w') from fun h h' X hX => by rw [hDA]; exact config15 a1 a2 a3 a4 a5 len4 len5 cap4 cap5 z4 z5 X h h' (R4.out.below (Nat.le_refl _) hX) (R5.out.below (Nat.le_refl _) hX))
  have C15B := Lib.hid (show len10 ≤ 1048576 → len11 ≤ 1048576 → ∀ X, Below w.heap.size w X → Calls Try.prog 15 #[.int .u8 a7, .int .u16 a8, .string a9, .slice a10 len10 cap10, .slice a11 len11 cap11] X (fun e w' => (∃ q p, e = .returned (.pointer (some ⟨q, 0, none⟩)) ∧ Cfg w' q p (flg a7 1) (flg a7 2) (flg a7 4) a8 a9 ∧ PMap w' (.map p) DB) ∧ Below X.heap.size X w') from fun h h' X hX => by rw [hDB]; exact config15 a7 a8 a9 a10 a11 len10 len11 cap10 cap11 z10 z11 X h h' (R10.out.below (Nat.le_refl _) hX) (R11.out.below (Nat.le_refl _) hX))
  have C17 := Lib.hid (show len4 ≤ 1048576 → len5 ≤ 1048576 → len10 ≤ 1048576 → len11 ≤ 1048576 → ∀ X, Below w.heap.size w X → Calls Try.prog 17 #[.slice a4 len4 cap4, .slice a5 len5 cap5, .slice a10 len10 cap10, .slice a11 len11 cap11] X (fun e w' => (∃ r, e = .returned (.bool r) ∧ (r = true ↔ EqD DA DB)) ∧ Below X.heap.size X w') from fun h1 h2 h3 h4 X hX => by rw [hDA, hDB]; exact same17 a4 a5 a10 a11 len4 len5 len10 len11 cap4 cap5 cap10 cap11 z4 z5 z10 z11 X h1 h2 h3 h4 (R4.out.below (Nat.le_refl _) hX) (R5.out.below (Nat.le_refl _) hX) (R10.out.below (Nat.le_refl _) hX) (R11.out.below (Nat.le_refl _) hX))
  clear hDA hDB R4 R5 R10 R11 w1 w7
  go_enter Try.func4, Try.ntmps4
  go_wp2_with fail
  refine (bytes13 a0 a1 a2 a6 a7 a8 a3 a9 a4 a5 a10 a11 len4 len5 len10 len11 cap4 cap5 cap10 cap11 _ w3 w9).mono ?_
  rintro e wx ⟨⟨b, rfl, hb⟩, hw⟩
  obtain rfl := hw.symm
  clear hw w3 w9
  cases b
  · go_wp2_with fail
    exact bodyPost_ret (v := .bool true) (by simp [results, Try.results4, go_sem]) rfl ⟨rfl, Below.refl _ _⟩
  obtain ⟨h3, h4, h5, h9, h10, h11⟩ := hb rfl
  clear hb
  have A15 := Lib.hid (C15A.out h4 h5)
  have B15 := Lib.hid (C15B.out h10 h11)
  have S17 := Lib.hid (C17.out h4 h5 h10 h11)
  clear C15A C15B C17
  by_cases hs : (1048576 : Int) < a3.size + a9.size + 2 * len4 + len5 + 2 * len10 + len11
  · go_wp2_with fail
    exact bodyPost_ret (v := .bool true) (by simp [results, Try.results4, go_sem]) rfl ⟨rfl, Below.refl _ _⟩
  go_wp2_with fail
  refine (A15.out _ (Below.refl _ _)).mono ?_
  rintro e x1 ⟨⟨q1, p1, rfl, hc1, hp1⟩, hb1⟩
  have HC1 := Lib.hid hc1
  have HP1 := Lib.hid hp1
  have HB1 := Lib.hid hb1
  clear hc1 hp1 hb1
  go_wp2_with fail
  refine (opt14 a0 q1 p1 _ _ _ a2 a3 _ HC1.out).mono ?_
  rintro e x2 ⟨rfl, hb2⟩
  have om := OptAt.made2 x2 p1 (flg a1 1) (flg a1 2) (flg a1 4) a2 a3 (mode a0)
  have bm := Below.alloc (Below.refl x2.heap.size x2) (Nat.le_refl _) (.cells #[.map p1, .string a3, .int .u16 a2, .bool (flg a1 1), .bool (flg a1 2), .bool (flg a1 4), .int .u8 (mode a0)] 49)
  obtain ⟨X, hX⟩ : ∃ X, X = x2.alloc (.cells #[.map p1, .string a3, .int .u16 a2, .bool (flg a1 1), .bool (flg a1 2), .bool (flg a1 4), .int .u8 (mode a0)] 49) := ⟨_, rfl⟩
  rw [← hX] at om bm
  have OA := Lib.hid om
  have HP := Lib.hid ((HP1.out.below hb2).below bm)
  have HB := Lib.hid ((HB1.out.trans (hb2.mono HB1.out.size)).trans (bm.mono (by have := HB1.out.size; have := hb2.size; omega)))
  clear hb2 om bm HC1 HP1 HB1
  unfold optV
  go_wp2_with fail
  rw [← hX]
  clear hX
  refine (B15.out _ HB.out).mono ?_
  rintro e y1 ⟨⟨q2, p2, rfl, hc1, hp1⟩, hb1⟩
  have HC1 := Lib.hid hc1
  have HP1 := Lib.hid hp1
  have HB1 := Lib.hid hb1
  clear hc1 hp1 hb1
  go_wp2_with fail
  refine (opt14 a6 q2 p2 _ _ _ a8 a9 _ HC1.out).mono ?_
  rintro e y2 ⟨rfl, hb2⟩
  have om := OptAt.made2 y2 p2 (flg a7 1) (flg a7 2) (flg a7 4) a8 a9 (mode a6)
  have bm := Below.alloc (Below.refl y2.heap.size y2) (Nat.le_refl _) (.cells #[.map p2, .string a9, .int .u16 a8, .bool (flg a7 1), .bool (flg a7 2), .bool (flg a7 4), .int .u8 (mode a6)] 49)
  obtain ⟨Y, hY⟩ : ∃ Y, Y = y2.alloc (.cells #[.map p2, .string a9, .int .u16 a8, .bool (flg a7 1), .bool (flg a7 2), .bool (flg a7 4), .int .u8 (mode a6)] 49) := ⟨_, rfl⟩
  rw [← hY] at om bm
  have bXY : Below X.heap.size X Y := (HB1.out.trans (hb2.mono HB1.out.size)).trans (bm.mono (by have := HB1.out.size; have := hb2.size; omega))
  have OB := Lib.hid om
  have PB := Lib.hid ((HP1.out.below hb2).below bm)
  have PA := Lib.hid (HP.out.below bXY)
  have OA2 := Lib.hid (OA.out.below bXY)
  have BY := Lib.hid (HB.out.trans (bXY.mono HB.out.size))
  clear hb2 om bm bXY HC1 HP1 HB1 HP OA HB A15 B15
  unfold optV
  by_cases cF : bits .and .u8 a1 7 = bits .and .u8 a7 7
  case neg =>
    have g1 : (bits .and .u8 a1 7 == bits .and .u8 a7 7) = false := by simp [cF]
    go_wp2_with fail
    rw [← hY]
    clear hY
    refine (equal18 _ _ p1 p2 _ _ _ _ _ _ a2 a8 a3 a9 _ _ DA DB Y OA2.out OB.out PA.out PB.out).mono ?_
    rintro e z ⟨⟨r, rfl, hr⟩, hbz⟩
    have er : r = false := by
      cases r
      · rfl
      · exact absurd (hr.1 rfl) (fun h => cF (FI.out.2 ⟨h.1.2.2.1, h.1.2.2.2.1, h.1.2.2.2.2.1⟩))
    subst er
    clear hr
    have HZ := Lib.hid (BY.out.trans (hbz.mono BY.out.size))
    clear hbz
    go_wp2_with fail
    exact bodyPost_ret (v := .bool true) (by simp [results, Try.results4, go_sem]) rfl ⟨rfl, HZ.out⟩
  have g1 : (bits .and .u8 a1 7 == bits .and .u8 a7 7) = true := by simp [cF]
  by_cases c2 : a2 = a8
  case neg =>
    have g2 : (a2 == a8) = false := by simp [c2]
    go_wp2_with fail
    rw [← hY]
    clear hY
    refine (equal18 _ _ p1 p2 _ _ _ _ _ _ a2 a8 a3 a9 _ _ DA DB Y OA2.out OB.out PA.out PB.out).mono ?_
    rintro e z ⟨⟨r, rfl, hr⟩, hbz⟩
    have er : r = false := by
      cases r
      · rfl
      · exact absurd (hr.1 rfl) (fun h => c2 h.1.2.1)
    subst er
    clear hr
    have HZ := Lib.hid (BY.out.trans (hbz.mono BY.out.size))
    clear hbz
    go_wp2_with fail
    exact bodyPost_ret (v := .bool true) (by simp [results, Try.results4, go_sem]) rfl ⟨rfl, HZ.out⟩
  have g2 : (a2 == a8) = true := by simp [c2]
  by_cases c3 : a3 = a9
  case neg =>
    have g3 : (a3.toList == a9.toList) = false := by
      cases h : (a3.toList == a9.toList)
      · rfl
      · exact absurd ((toList_iff a3 a9).1 h) c3
    go_wp2_with fail
    rw [← hY]
    clear hY
    refine (equal18 _ _ p1 p2 _ _ _ _ _ _ a2 a8 a3 a9 _ _ DA DB Y OA2.out OB.out PA.out PB.out).mono ?_
    rintro e z ⟨⟨r, rfl, hr⟩, hbz⟩
    have er : r = false := by
      cases r
      · rfl
      · exact absurd (hr.1 rfl) (fun h => c3 h.1.1)
    subst er
    clear hr
    have HZ := Lib.hid (BY.out.trans (hbz.mono BY.out.size))
    clear hbz
    go_wp2_with fail
    exact bodyPost_ret (v := .bool true) (by simp [results, Try.results4, go_sem]) rfl ⟨rfl, HZ.out⟩
  have g3 : (a3.toList == a9.toList) = true := (toList_iff a3 a9).2 c3
  by_cases cm : mode a0 = mode a6
  case neg =>
    have g4 : (mode a0 == mode a6) = false := by simp [cm]
    go_wp2_with fail
    refine (class16 a0 _).mono ?_
    rintro e wx ⟨rfl, hw⟩
    obtain rfl := hw.symm
    clear hw
    go_wp2_with fail
    refine (class16 a6 _).mono ?_
    rintro e wx ⟨rfl, hw⟩
    obtain rfl := hw.symm
    clear hw
    go_wp2_with fail
    rw [← hY]
    clear hY
    refine (equal18 _ _ p1 p2 _ _ _ _ _ _ a2 a8 a3 a9 _ _ DA DB Y OA2.out OB.out PA.out PB.out).mono ?_
    rintro e z ⟨⟨r, rfl, hr⟩, hbz⟩
    have er : r = false := by
      cases r
      · rfl
      · exact absurd (hr.1 rfl) (fun h => cm h.1.2.2.2.2.2)
    subst er
    clear hr
    have HZ := Lib.hid (BY.out.trans (hbz.mono BY.out.size))
    clear hbz
    go_wp2_with fail
    exact bodyPost_ret (v := .bool true) (by simp [results, Try.results4, go_sem]) rfl ⟨rfl, HZ.out⟩
  have g4 : (mode a0 == mode a6) = true := by simp [cm]
  go_wp2_with fail
  refine (class16 a0 _).mono ?_
  rintro e wx ⟨rfl, hw⟩
  obtain rfl := hw.symm
  clear hw
  go_wp2_with fail
  refine (class16 a6 _).mono ?_
  rintro e wx ⟨rfl, hw⟩
  obtain rfl := hw.symm
  clear hw
  go_wp2_with fail
  rw [← hY]
  clear hY
  refine (S17.out _ BY.out).mono ?_
  rintro e z ⟨⟨r, rfl, hr⟩, hbz⟩
  have HZ := Lib.hid (BY.out.trans (hbz.mono BY.out.size))
  have OA3 := Lib.hid (OA2.out.below hbz)
  have OB3 := Lib.hid (OB.out.below hbz)
  have PA3 := Lib.hid (PA.out.below hbz)
  have PB3 := Lib.hid (PB.out.below hbz)
  have HR := Lib.hid hr
  have EQ : ∀ t : Bool, (t = true ↔ (a3 = a9 ∧ a2 = a8 ∧ flg a1 1 = flg a7 1 ∧ flg a1 2 = flg a7 2 ∧ flg a1 4 = flg a7 4 ∧ mode a0 = mode a6) ∧ EqD DA DB) → t = r := by
    intro t ht
    obtain ⟨f1, f2, f3⟩ := FI.out.1 cF
    rw [Bool.eq_iff_iff, ht, hr]
    exact ⟨fun h => h.2, fun h => ⟨⟨c3, c2, f1, f2, f3, cm⟩, h⟩⟩
  have HE := Lib.hid EQ
  clear EQ hr hbz OA2 OB PA PB BY S17 c2 c3 cm cF g1 g2 g3 g4
  cases r
  all_goals
    go_wp2_with fail
    refine (equal18 _ _ p1 p2 _ _ _ _ _ _ a2 a8 a3 a9 _ _ DA DB _ OA3.out OB3.out PA3.out PB3.out).mono ?_
    rintro e z2 ⟨⟨t, rfl, ht⟩, hbz⟩
    have et := HE.out t ht
    subst et
    have HZ2 := Lib.hid (HZ.out.trans (hbz.mono HZ.out.size))
    clear hbz ht
    go_wp2_with fail
    exact bodyPost_ret (v := .bool true) (by simp [results, Try.results4, go_sem]) rfl ⟨rfl, HZ2.out⟩
end Go.Proofs.Ytlhcgnlbhncfkaa
