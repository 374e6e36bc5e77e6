/-
  The walk of the law on the term count over concatenation. Conditions: the shapes of the bytes.
-/
import Derived.Test.YtlhcgnlbhncfkaaCg
namespace Go.Proofs.Ytlhcgnlbhncfkaa
open Go.ChangeShapes Go.WideShapes Go.ChangeAt Go.RowKit

theorem IsRow.below {k : IntKind} {w w' : World} {a : Option Addr} {n c : Nat} {z : List Int} (h : IsRow k w a n c z) (hb : Below w.heap.size w w') : IsRow k w' a n c z := by
  rcases h with h | ⟨x, e, hl, hm, hz, hc, hw⟩
  · exact .inl h
  · exact .inr ⟨x, e, hl, hm, hz, fun i hi => by rw [hb.cell (p := x.add i) (cell_lt (hc i hi)).1]; exact hc i hi, hw⟩
theorem add_cell (g j : Nat) : ((⟨g, 0, none⟩ : Addr).add j) = ⟨g, j, none⟩ := by by_cases e : j = 0 <;> simp [Addr.add, e]
/-- a list's cells -/
theorem list_cells {d : Nat} {w : World} {P : Nat → Prop} {g n c k : Nat} (h : CL (d + 1) w P (.slice (some ⟨g, 0, none⟩) n c) k) :
    ∃ xs, xs.length = n ∧ (∀ j u, xs[j]? = some u → w.cell? ⟨g, j, none⟩ = some u) ∧ RowK 1 (CplxE (CL d w P) w P) xs n k ∧ (∀ u ∈ xs, u.oneCell' = true) ∧ (0 < n → P g ∧ g < w.heap.size) := by
  obtain ⟨a', n', c', f, e, hN, hc, hk⟩ := h
  injection e with e1 e2 e3
  subst e2
  by_cases h0 : n = 0
  · subst h0
    exact ⟨[], rfl, fun j u h => by simp at h, ⟨hN, f, fun i hi => by omega, hk⟩, fun u hu => by simp at hu, fun h => by omega⟩
  · obtain ⟨g', eg, hp, hg, hx⟩ := hc (by omega)
    rw [← e1] at eg
    injection eg with eg
    injection eg with eg
    subst eg
    have ex : ∀ i, i < n → ∃ s, w.cell? ⟨g, i, none⟩ = some s ∧ s.oneCell' = true := by
      intro i hi
      obtain ⟨s, hs, a2, n2, c2, f2, e2, _⟩ := hx i hi
      have hs' : w.cell? ⟨g, i * 1 + 0, none⟩ = some s := hs
      rw [Nat.mul_one, Nat.add_zero] at hs'
      exact ⟨s, hs', by rw [e2]; rfl⟩
    refine ⟨(List.range n).map (fun i => (w.cell? ⟨g, i, none⟩).getD undef), by simp, fun j u hj => ?_, ⟨hN, f, fun i hi => ?_, hk⟩, fun u hu => ?_, fun _ => ⟨hp, hg⟩⟩
    · simp only [List.getElem?_map] at hj
      by_cases h : j < n
      · rw [List.getElem?_range h] at hj
        obtain ⟨s, hs, _⟩ := ex j h
        simp only [Option.map_some, Option.some.injEq, hs, Option.getD_some] at hj
        rw [hs, hj]
      · rw [List.getElem?_eq_none (by simpa using h)] at hj
        cases hj
    · refine CplxE.loc _ _ _ _ _ _ (fun t ht => ?_) (hx i hi)
      have ht0 : t = 0 := by omega
      subst ht0
      show w.cell? ⟨g, i * 1 + 0, none⟩ = _
      rw [Nat.mul_one, Nat.add_zero, List.getElem?_map, List.getElem?_range hi]
      obtain ⟨s, hs, _⟩ := ex i hi
      simp [hs]
    · obtain ⟨i, hi, rfl⟩ := List.mem_map.1 hu
      obtain ⟨s, hs, h1⟩ := ex i (List.mem_range.1 hi)
      rw [hs]
      exact h1
theorem RowK.append {E : Cells → Nat → Prop} (hl : Loc 1 E) {xs ys : List Value} {n m k l : Nat} (hx : xs.length = n) (h1 : RowK 1 E xs n k) (h2 : RowK 1 E ys m l) (hN : n + m ≤ 200000) : RowK 1 E (xs ++ ys) (n + m) (k + l) := by
  obtain ⟨_, f, hf, rfl⟩ := h1
  obtain ⟨_, g, hg, rfl⟩ := h2
  refine ⟨hN, fun i => if i < n then f i else g (i - n), fun i hi => ?_, ?_⟩
  · by_cases h : i < n
    · simp only [h, if_true]
      refine hl _ _ _ (fun t ht => ?_) (hf i h)
      show xs[i * 1 + t]? = (xs ++ ys)[i * 1 + t]?
      rw [List.getElem?_append_left (by omega)]
    · simp only [h, if_false]
      refine hl _ _ _ (fun t ht => ?_) (hg (i - n) (by omega))
      show ys[(i - n) * 1 + t]? = (xs ++ ys)[i * 1 + t]?
      rw [List.getElem?_append_right (by omega), hx, show i * 1 + t - n = (i - n) * 1 + t by omega]
  · have h1 : sumTo (fun i => if i < n then f i else g (i - n)) n = sumTo f n := sumTo_congr (fun i hi => by simp [hi])
    rw [sumTo_add _ g n m (fun i hi => by
      have : ¬ n + i < n := by omega
      simp [this]), h1]
theorem Keep.grown {w w' : World} {P : Nat → Prop} {r : Option Nat} (h : w.grownBy w' r) (hr : ∀ g, P g → some g ≠ r) : Keep w w' P P := ⟨h.size, fun g hp hg => h.block g hg (hr g hp), fun _ hp _ => hp⟩
set_option maxRecDepth 20000 in
set_option maxHeartbeats 4000000 in
theorem walk6 (a0 : Option Addr) (len0 cap0 : Nat) (z0 : List Int) (a1 : Option Addr) (len1 cap1 : Nat) (z1 : List Int) (w : World) (w0 : IsRow .u8 w a0 len0 cap0 z0) (w1 : IsRow .u8 w a1 len1 cap1 z1) :
    Calls Try.prog 6 #[.slice a0 len0 cap0, .slice a1 len1 cap1] w fun e w' => e = .returned (.bool true) ∧ Below w.heap.size w w' := by
  have WA := Lib.hid w0
  have WB := Lib.hid w1
  clear w0 w1
  obtain ⟨i131, hi131⟩ : ∃ i, Try.prog.info? 131 = some i := by cases h : Try.prog.info? 131 with
    | some i => exact ⟨i, rfl⟩
    | none => have := info131; rw [h] at this; cases this
  have hi131' := info131
  rw [hi131] at hi131'
  simp at hi131'
  obtain ⟨z11, z12, z13⟩ := hi131'
  go_enter Try.func6, Try.ntmps6
  go_wp2_with fail
  refine (bytes20 a0 a1 len0 len1 cap0 cap1 _).mono ?_
  rintro e wx ⟨⟨b, rfl, hb⟩, hw⟩
  obtain rfl := hw.symm
  clear hw
  cases b
  · go_wp2_with fail
    exact bodyPost_ret (v := .bool true) (by simp [results, Try.results6, go_sem]) rfl ⟨rfl, Below.refl _ _⟩
  clear hb
  rcases Nat.lt_or_ge 65536 len0 with g0 | g0
  · go_wp2_with fail
    exact bodyPost_ret (v := .bool true) (by simp [results, Try.results6, go_sem]) rfl ⟨rfl, Below.refl _ _⟩
  rcases Nat.lt_or_ge 65536 len1 with g1 | g1
  · go_wp2_with fail
    exact bodyPost_ret (v := .bool true) (by simp [results, Try.results6, go_sem]) rfl ⟨rfl, Below.refl _ _⟩
  go_wp2_with fail
  refine (clone9 a0 len0 cap0 z0 _ (by omega) WA.out).mono ?_
  rintro e w1 ⟨⟨aA, cA, rfl, hrA⟩, hb1⟩
  have RA := Lib.hid hrA
  have B1 := Lib.hid hb1
  clear hrA hb1
  go_wp2_with fail
  refine (clone9 a1 len1 cap1 z1 _ (by omega) (WB.out.below B1.out)).mono ?_
  rintro e w2 ⟨⟨aB, cB, rfl, hrB⟩, hb2⟩
  obtain ⟨D, hD⟩ : ∃ D, 65536 < D + 1 := ⟨65537, by omega⟩
  obtain ⟨X, hX⟩ : ∃ X, X = w2.alloc (.cells #[.slice aA len0 cA, .int .i64 0] 37) := ⟨_, rfl⟩
  have hbX : Below w2.heap.size w2 X := by rw [hX]; exact (Below.refl _ _).alloc (Nat.le_refl _) _
  have RAX := Lib.hid ((RA.out.below (Nat.le_refl _) hb2).below (Nat.le_refl _) hbX)
  have RBX := Lib.hid (hrB.below (Nat.le_refl _) hbX)
  have CX := Lib.hid (show Cur X w2.heap.size (.slice aA len0 cA) 0 from by rw [hX]; exact Cur.made _ _ _ _)
  have BX := Lib.hid ((B1.out.trans (hb2.mono B1.out.size)).trans (hbX.mono (by have := B1.out.size; have := hb2.size; omega)))
  have hw2 : w.heap.size ≤ w2.heap.size := by have := B1.out.size; have := hb2.size; omega
  clear hrB hb2 hbX WA WB RA B1
  go_wp2_with fail
  rw [← hX]
  clear hX
  refine (list21 len0 g0 aA cA z0 (D + 1) X w2.heap.size 0 0 0 rfl RAX.out CX.out (by omega) (by omega) (by omega)).mono ?_
  rintro e w3 ⟨⟨ga, na, ca, ia, ka, rfl, hna0, hna, _, hia, _, hka, hcl⟩, hg3⟩
  have hkA : ka ≤ 65536 := by have := toks_le z0 ia; omega
  obtain ⟨Y, hY⟩ : ∃ Y, Y = w3.alloc (.cells #[.slice aB len1 cB, .int .i64 0] 37) := ⟨_, rfl⟩
  have hbY : Below w3.heap.size w3 Y := by rw [hY]; exact (Below.refl _ _).alloc (Nat.le_refl _) _
  have RBY := Lib.hid ((RBX.out.cur CX.out hg3).below (Nat.le_refl _) hbY)
  have CY := Lib.hid (show Cur Y w3.heap.size (.slice aB len1 cB) 0 from by rw [hY]; exact Cur.made _ _ _ _)
  have B3 := Lib.hid (show Below w.heap.size w w3 from ⟨hg3.os.trans BX.out.os, hg3.tape.trans BX.out.tape, hg3.output.trans BX.out.output, Nat.le_trans BX.out.size hg3.size, fun k hk => (hg3.block k (by have := BX.out.size; omega) (by intro e; injection e with e; omega)).trans (BX.out.block k hk)⟩)
  have hw3 : w.heap.size ≤ w3.heap.size := B3.out.size
  have BY := Lib.hid (B3.out.trans (hbY.mono hw3))
  have CAY := Lib.hid (CL.keep (Keep.below (fun g => g < w3.heap.size) hbY) (D + 1) (CL.keep (Keep.weak w3 (P' := fun g => g < w3.heap.size) (fun g _ hg => hg)) (D + 1) hcl))
  have hwY := hbY.size
  clear hka hcl hg3 hbY RAX RBX CX BX B3
  go_wp2_with fail
  rw [← hY]
  clear hY
  refine (list21 len1 g1 aB cB z1 (D + 1) Y w3.heap.size 0 0 0 rfl RBY.out CY.out (by omega) (by omega) (by omega)).mono ?_
  rintro e w4 ⟨⟨gb, nb, cb, ib, kb, rfl, hnb0, hnb, _, hib, _, hkb, hcl⟩, hg4⟩
  have hkB : kb ≤ 65536 := by have := toks_le z1 ib; omega
  have B4 := Lib.hid (show Below w.heap.size w w4 from ⟨hg4.os.trans BY.out.os, hg4.tape.trans BY.out.tape, hg4.output.trans BY.out.output, Nat.le_trans BY.out.size hg4.size, fun k hk => (hg4.block k (by omega) (by intro e; injection e with e; omega)).trans (BY.out.block k hk)⟩)
  have hw4 : w.heap.size ≤ w4.heap.size := B4.out.size
  obtain ⟨S, hS⟩ : ∃ S, S = w4.heap.size := ⟨_, rfl⟩
  have kA : Keep Y w4 (fun g => g < w3.heap.size) (fun g => g < S) := ⟨hg4.size, fun g hp hg => hg4.block g hg (by intro e; injection e with e; omega), fun g hp _ => by have := hg4.size; omega⟩
  have LA := Lib.hid (CL.keep kA (D + 1) CAY.out)
  have LB := Lib.hid (CL.keep (Keep.weak w4 (P' := fun g => g < S) (fun g _ hg => by omega)) (D + 1) hcl)
  obtain ⟨xa, hxa, hca, hra, hoa, hga⟩ := list_cells LA.out
  obtain ⟨xb, hxb, hcb, hrb, hob, hgb⟩ := list_cells LB.out
  have HCA := Lib.hid hca
  have HCB := Lib.hid hcb
  have HRA := Lib.hid hra
  have HRB := Lib.hid hrb
  have HOA := Lib.hid hoa
  have HOB := Lib.hid hob
  have ltA := (hga hna0).2
  have ltB := (hgb hnb0).2
  have HS := Lib.hid hS
  have HXA := Lib.hid hxa
  have HXB := Lib.hid hxb
  clear hkb hcl hg4 kA CAY RBY CY BY hca hcb hra hrb hoa hob hga hgb hS hxa hxb
  have e0 : S ≤ w4.heap.size := by have := HS.out; omega
  go_wp2_with (at_make; go_loud (refine wpList_make_own _ rfl _ _ 59 rfl S 131 i131 _ 1 (by kernel_rfl) hi131 z11 z12 .i64 .i64 _ (na + nb) rfl rfl ?m10 ?m11 ?m12 ?m13 ?_))
  case m10 => omega
  case m11 => have := Nat.mul_le_mul (show na + nb ≤ 200000 by omega) z13; rw [Nat.mul_comm]; omega
  case m12 => unfold maxLen; omega
  case m13 => have := HS.out; have := e0; omega
  intro w5 ho5 hg5
  have OA := Lib.hid ho5
  have Kw5 := Lib.hid (Keep.grown (P := fun g => g < S) hg5 (by simp))
  have Bw5 := Lib.hid (show Below w.heap.size w w5 from B4.out.trans ⟨hg5.os, hg5.tape, hg5.output, hg5.size, fun k hk => hg5.block k (by omega) (by simp)⟩)
  have sw5 := hg5.size
  clear ho5 hg5 B4
  go_wp2_with (at_builtin; go_loud (refine wpList_append_fits _ rfl _ _ 59 rfl S 131 i131 1 (by kernel_rfl) hi131 z12 w4.heap.size 0 (na + nb) [] rfl OA.out ⟨ga, 0, none⟩ na ca xa rfl (by rw [HXA.out, Nat.mul_one]) ?p11 HOA.out ?p12 ?_))
  case p11 =>
    intro j u hj
    rw [add_cell]
    exact (Keep.cell Kw5.out (show ga < S by have := HS.out; omega) ltA j).trans (HCA.out j u hj)
  case p12 => omega
  intro w6 ho hg
  have OAn := Lib.hid ho
  have Kw6 := Lib.hid (show Keep w4 w6 (fun g => g < S) (fun g => g < S) from by
    have k := Keep.grown (P := fun g => g < S) hg (by intro g hp e; injection e with e; have := HS.out; omega)
    exact ⟨Nat.le_trans Kw5.out.size k.size, fun g hp hg => (k.block g hp (Nat.lt_of_lt_of_le hg Kw5.out.size)).trans (Kw5.out.block g hp hg), fun _ hp _ => hp⟩)
  have Bw6 := Lib.hid (show Below w.heap.size w w6 from Bw5.out.trans ⟨hg.os, hg.tape, hg.output, hg.size, fun k hk => hg.block k (by omega) (by intro e; injection e with e; omega)⟩)
  have sw6 := hg.size
  clear ho hg OA Kw5 Bw5
  have OA := OAn
  clear OAn
  go_wp2_with (at_builtin; go_loud (refine wpList_append_fits _ rfl _ _ 59 rfl S 131 i131 1 (by kernel_rfl) hi131 z12 w4.heap.size na (na + nb) xa rfl OA.out ⟨gb, 0, none⟩ nb cb xb rfl (by rw [HXB.out, Nat.mul_one]) ?p21 HOB.out ?p22 ?_))
  case p21 =>
    intro j u hj
    rw [add_cell]
    exact (Keep.cell Kw6.out (show gb < S by have := HS.out; omega) ltB j).trans (HCB.out j u hj)
  case p22 => omega
  intro w7 ho hg
  have OAn := Lib.hid ho
  have Kw7 := Lib.hid (show Keep w4 w7 (fun g => g < S) (fun g => g < S) from by
    have k := Keep.grown (P := fun g => g < S) hg (by intro g hp e; injection e with e; have := HS.out; omega)
    exact ⟨Nat.le_trans Kw6.out.size k.size, fun g hp hg => (k.block g hp (Nat.lt_of_lt_of_le hg Kw6.out.size)).trans (Kw6.out.block g hp hg), fun _ hp _ => hp⟩)
  have Bw7 := Lib.hid (show Below w.heap.size w w7 from Bw6.out.trans ⟨hg.os, hg.tape, hg.output, hg.size, fun k hk => hg.block k (by omega) (by intro e; injection e with e; omega)⟩)
  have sw7 := hg.size
  clear ho hg OA Kw6 Bw6
  have OA := OAn
  clear OAn
  have e7 : S ≤ w7.heap.size := by omega
  go_wp2_with (at_make; go_loud (refine wpList_make_own _ rfl _ _ 59 rfl S 131 i131 _ 1 (by kernel_rfl) hi131 z11 z12 .i64 .i64 _ (na + nb) rfl rfl ?m20 ?m21 ?m22 ?m23 ?_))
  case m20 => omega
  case m21 => have := Nat.mul_le_mul (show na + nb ≤ 200000 by omega) z13; rw [Nat.mul_comm]; omega
  case m22 => unfold maxLen; omega
  case m23 => have := HS.out; have := e7; omega
  intro w8 ho hg
  have OB := Lib.hid ho
  have OAo := OA
  have Kw8 := Lib.hid (show Keep w4 w8 (fun g => g < S) (fun g => g < S) from by
    have k := Keep.grown (P := fun g => g < S) hg (by simp)
    exact ⟨Nat.le_trans Kw7.out.size k.size, fun g hp hg => (k.block g hp (Nat.lt_of_lt_of_le hg Kw7.out.size)).trans (Kw7.out.block g hp hg), fun _ hp _ => hp⟩)
  have Bw8 := Lib.hid (show Below w.heap.size w w8 from Bw7.out.trans ⟨hg.os, hg.tape, hg.output, hg.size, fun k hk => hg.block k (by omega) (by simp)⟩)
  have sw8 := hg.size
  have OA := Lib.hid (OA.out.kept hg (.inr (by simp [Value.ownBlock])))
  have lA : w4.heap.size < w7.heap.size := by
    obtain ⟨cur, hcur⟩ := own_block OAo.out w4.heap.size rfl
    exact (Array.getElem?_eq_some_iff.1 hcur).1
  clear ho hg Kw7 Bw7 OAo
  go_wp2_with (at_builtin; go_loud (refine wpList_append_fits _ rfl _ _ 59 rfl S 131 i131 1 (by kernel_rfl) hi131 z12 w7.heap.size 0 (na + nb) [] rfl OB.out ⟨gb, 0, none⟩ nb cb xb rfl (by rw [HXB.out, Nat.mul_one]) ?p31 HOB.out ?p32 ?_))
  case p31 =>
    intro j u hj
    rw [add_cell]
    exact (Keep.cell Kw8.out (show gb < S by have := HS.out; omega) ltB j).trans (HCB.out j u hj)
  case p32 => omega
  intro w9 ho hg
  have OBn := Lib.hid ho
  have Kw9 := Lib.hid (show Keep w4 w9 (fun g => g < S) (fun g => g < S) from by
    have k := Keep.grown (P := fun g => g < S) hg (by intro g hp e; injection e with e; have := HS.out; omega)
    exact ⟨Nat.le_trans Kw8.out.size k.size, fun g hp hg => (k.block g hp (Nat.lt_of_lt_of_le hg Kw8.out.size)).trans (Kw8.out.block g hp hg), fun _ hp _ => hp⟩)
  have Bw9 := Lib.hid (show Below w.heap.size w w9 from Bw8.out.trans ⟨hg.os, hg.tape, hg.output, hg.size, fun k hk => hg.block k (by omega) (by intro e; injection e with e; omega)⟩)
  have sw9 := hg.size
  have OA := Lib.hid (OA.out.kept hg (.inr (by simp [Value.ownBlock]; omega)))
  clear ho hg OB Kw8 Bw8
  have OB := OBn
  clear OBn
  go_wp2_with (at_builtin; go_loud (refine wpList_append_fits _ rfl _ _ 59 rfl S 131 i131 1 (by kernel_rfl) hi131 z12 w7.heap.size nb (na + nb) xb rfl OB.out ⟨ga, 0, none⟩ na ca xa rfl (by rw [HXA.out, Nat.mul_one]) ?p41 HOA.out ?p42 ?_))
  case p41 =>
    intro j u hj
    rw [add_cell]
    exact (Keep.cell Kw9.out (show ga < S by have := HS.out; omega) ltA j).trans (HCA.out j u hj)
  case p42 => omega
  intro w10 ho hg
  have OBn := Lib.hid ho
  have Kw10 := Lib.hid (show Keep w4 w10 (fun g => g < S) (fun g => g < S) from by
    have k := Keep.grown (P := fun g => g < S) hg (by intro g hp e; injection e with e; have := HS.out; omega)
    exact ⟨Nat.le_trans Kw9.out.size k.size, fun g hp hg => (k.block g hp (Nat.lt_of_lt_of_le hg Kw9.out.size)).trans (Kw9.out.block g hp hg), fun _ hp _ => hp⟩)
  have Bw10 := Lib.hid (show Below w.heap.size w w10 from Bw9.out.trans ⟨hg.os, hg.tape, hg.output, hg.size, fun k hk => hg.block k (by omega) (by intro e; injection e with e; omega)⟩)
  have sw10 := hg.size
  have OA := Lib.hid (OA.out.kept hg (.inr (by simp [Value.ownBlock]; omega)))
  clear ho hg OB Kw9 Bw9
  have OB := OBn
  clear OBn
  have KT := Lib.hid (show Keep w4 w10 (fun g => g < S) (fun _ => True) from ⟨Kw10.out.size, Kw10.out.block, fun _ _ _ => trivial⟩)
  have FA := Lib.hid (show ∀ Z, Below w10.heap.size w10 Z → CL (D + 1) Z (fun _ => True) (.slice (some ⟨ga, 0, none⟩) na ca) ka from fun Z hZ => CL.keep (Keep.below _ hZ) (D + 1) (CL.keep KT.out (D + 1) LA.out))
  have FB := Lib.hid (show ∀ Z, Below w10.heap.size w10 Z → CL (D + 1) Z (fun _ => True) (.slice (some ⟨gb, 0, none⟩) nb cb) kb from fun Z hZ => CL.keep (Keep.below _ hZ) (D + 1) (CL.keep KT.out (D + 1) LB.out))
  have FN := Lib.hid (show ∀ (Z : World) (s : Option Addr) (c : Nat), CL (D + 1) Z (fun _ => True) (.slice s 0 c) 0 from fun Z s c => ⟨s, 0, c, fun _ => 0, rfl, by omega, fun h => by omega, rfl⟩)
  have mA := HRA.out.mono (fun c k => CplxE.keep KT.out fun sl k => CL.keep KT.out D)
  have mB := HRB.out.mono (fun c k => CplxE.keep KT.out fun sl k => CL.keep KT.out D)
  have FAB := Lib.hid (show ∀ Z, Below w10.heap.size w10 Z → CL (D + 1) Z (fun _ => True) (.slice (some ⟨w4.heap.size, 0, none⟩) (na + nb) (na + nb)) (ka + kb) from fun Z hZ => CL.keep (Keep.below _ hZ) (D + 1) (RowK.row (CplxE.loc _ _ _) _ OA.out (RowK.append (CplxE.loc _ _ _) HXA.out mA mB (by omega)) fun _ _ => trivial))
  have FBA := Lib.hid (show ∀ Z, Below w10.heap.size w10 Z → CL (D + 1) Z (fun _ => True) (.slice (some ⟨w7.heap.size, 0, none⟩) (nb + na) (na + nb)) (kb + ka) from fun Z hZ => CL.keep (Keep.below _ hZ) (D + 1) (RowK.row (CplxE.loc _ _ _) _ OB.out (RowK.append (CplxE.loc _ _ _) HXB.out mB mA (by omega)) fun _ _ => trivial))
  clear KT mA mB HRA HRB HCA HCB HOA HOB HXA HXB LA LB OA OB Kw10
  go_wp2_with fail
  refine (zz22 (fun _ => True) (D + 1) _ _ 0 (FN.out _ _ _) (by omega)).mono ?_
  rintro e v1 ⟨rfl, hb⟩
  have Z1 := Lib.hid ((Below.refl w10.heap.size w10).trans (hb.mono (Below.refl w10.heap.size w10).size))
  clear hb
  go_wp2_with fail
  refine (zz22 (fun _ => True) (D + 1) _ _ 0 (FN.out _ _ _) (by omega)).mono ?_
  rintro e v2 ⟨rfl, hb⟩
  have Z2 := Lib.hid ((Below.alloc Z1.out Z1.out.size _).trans (hb.mono (Below.alloc Z1.out Z1.out.size _).size))
  clear hb
  go_wp2_with fail
  refine (zz22 (fun _ => True) (D + 1) _ _ ka (FA.out _ Z2.out) (by omega)).mono ?_
  rintro e v3 ⟨rfl, hb⟩
  have Z3 := Lib.hid (Z2.out.trans (hb.mono Z2.out.size))
  clear hb
  go_wp2_with fail
  refine (zz22 (fun _ => True) (D + 1) _ _ kb (FB.out _ Z3.out) (by omega)).mono ?_
  rintro e v4 ⟨rfl, hb⟩
  have Z4 := Lib.hid (Z3.out.trans (hb.mono Z3.out.size))
  clear hb
  go_wp2_with fail
  refine (zz22 (fun _ => True) (D + 1) _ _ (ka + kb) (FAB.out _ Z4.out) (by omega)).mono ?_
  rintro e v5 ⟨rfl, hb⟩
  have Z5 := Lib.hid (Z4.out.trans (hb.mono Z4.out.size))
  clear hb
  go_wp2_with fail
  refine (zz22 (fun _ => True) (D + 1) _ _ (kb + ka) (FBA.out _ Z5.out) (by omega)).mono ?_
  rintro e v6 ⟨rfl, hb⟩
  have Z6 := Lib.hid (Z5.out.trans (hb.mono Z5.out.size))
  clear hb
  have hsum : ((kb + ka : Nat) : Int) = ((ka + kb : Nat) : Int) := by omega
  have hsum2 : ((ka + kb : Nat) : Int) = (ka : Int) + (kb : Int) := by omega
  go_wp2_with fail
  exact bodyPost_ret (v := .bool true) (by simp [results, Try.results6, go_sem]) rfl ⟨rfl, Bw10.out.trans (Z6.out.mono Bw10.out.size)⟩
end Go.Proofs.Ytlhcgnlbhncfkaa
