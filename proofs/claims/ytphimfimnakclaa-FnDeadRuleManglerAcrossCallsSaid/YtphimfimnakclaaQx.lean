/-
  Equal of subclass selectors. Conditions: each theorem's own.
-/
import Derived.Test.YtphimfimnakclaaQw
namespace Go.Proofs.Ytphimfimnakclaa
open Go.RowKit Go.Lib
/-- two plain pseudo-classes are equal -/
theorem eok0 : EqOK SubT0 where
  h := by
    rintro w P1 P2 c1 c2 k1 k2 ⟨rfl, b1, e0, e1, e2, hp, hb, hh⟩ ⟨rfl, b2, f0, f1, f2, hp2, hb2, hh2⟩
    exact ⟨107, b1, 107, b2, e0, e1, e2, f0, f1, f2, Or.inl ⟨rfl, fun v w' hB => (e64t b1 b2 v w' ((hB.block b1 hb).trans hh) ((hB.block b2 hb2).trans hh2)).mono fun e w2 h => ⟨by simpa using h.1, h.2⟩⟩⟩
set_option maxHeartbeats 16000000 in
set_option maxRecDepth 100000 in
theorem e59f (a : Addr) (x v : Value) (w : World) : Calls Try.prog 59 #[.pointer (some a), .iface 107 x, v] w fun e w' => e = .returned (.bool false) ∧ Below w.heap.size w w' := by
  have ta := as107_98
  go_enter Try.func59, Try.ntmps59
  go_wp2_with fail
  go_region
  go_wp2_with fail
  go_ret
  exact ⟨rfl, (Below.refl _ _).drew⟩
set_option maxHeartbeats 16000000 in
set_option maxRecDepth 100000 in
theorem e59t (b1 b2 k1 k2 : Nat) (im1 im2 : Rl) (s1 s2 v : Value) (P1 P2 : Nat → Prop) (w : World) (hg1 : Good im1) (hg2 : Good im2) (h1 : w.heap[b1]? = some (.cells #[s1, .string emS, .string emS, .int .u8 (k1 : Nat)] 104 (0, 0))) (h2 : w.heap[b2]? = some (.cells #[s2, .string emS, .string emS, .int .u8 (k2 : Nat)] 104 (0, 0))) (hr1 : RowL (CxT SubT0) w P1 s1 im1) (hr2 : RowL (CxT SubT0) w P2 s2 im2) :
    Calls Try.prog 59 #[.pointer (some ⟨b1, 0, none⟩), ifc 98 b2, v] w fun e w' => DdR (decide (k1 = k2 ∧ im1 = im2)) w e w' := by
  obtain ⟨sa1, sc1, rfl, _⟩ := id hr1
  obtain ⟨sa2, sc2, rfl, _⟩ := id hr2
  have ta := as98_98
  have HA := hid h1
  have HB := hid h2
  have HG := hid (And.intro hg1 hg2)
  have HROW := hid (And.intro hr1 hr2)
  clear h1 h2 hg1 hg2 hr1 hr2
  by_cases hk : k1 = k2
  · subst hk
    obtain ⟨d, hdd⟩ : ∃ d, decide (im1 = im2) = d := ⟨_, rfl⟩
    have HDD := hid hdd
    clear hdd
    go_enter Try.func59, Try.ntmps59
    go_wp2_with fail
    refine wp_region_rel [(some 14, .bool true), (some 15, .bool true), (some 16, .pointer (some ⟨b1, 0, none⟩)), (some 17, .pointer (some ⟨b1, 0, none⟩)), (some 18, .pointer (some ⟨b1, 3, none⟩)), (some 19, .int .u8 (k1 : Nat)), (some 20, .pointer (some ⟨b2, 0, none⟩)), (some 21, .pointer (some ⟨b2, 0, none⟩)), (some 22, .pointer (some ⟨b2, 3, none⟩)), (some 23, .int .u8 (k1 : Nat)), (some 24, .bool true), (some 25, .bool true), (some 26, .bool true), (some 27, .pointer (some ⟨b1, 0, none⟩)), (some 28, .pointer (some ⟨b1, 0, none⟩)), (some 29, .pointer (some ⟨b1, 1, none⟩)), (some 30, .agg #[.string emS, .string emS]), (some 31, .pointer (some ⟨b2, 0, none⟩)), (some 32, .pointer (some ⟨b2, 0, none⟩)), (some 33, .pointer (some ⟨b2, 1, none⟩)), (some 34, .agg #[.string emS, .string emS]), (some 35, .bool true), (some 36, .bool true), (some 37, .bool true), (some 38, .pointer (some ⟨b1, 0, none⟩)), (some 39, .pointer (some ⟨b1, 0, none⟩)), (some 40, .pointer (some ⟨b1, 0, none⟩)), (some 41, .slice sa1 im1.length sc1), (some 42, .pointer (some ⟨b2, 0, none⟩)), (some 43, .pointer (some ⟨b2, 0, none⟩)), (some 44, .pointer (some ⟨b2, 0, none⟩)), (some 45, .slice sa2 im2.length sc2), (some 46, v), (some 47, .bool d), (some 48, .bool d), (some 6, .bool d)] (fun wz => Below w.heap.size w wz) 49 (by kernel_rfl) (by kernel_rfl) (by kernel_rfl) (by kernel_rfl) ?h0e (by kernel_rfl) ?hope ?hende
    case hope =>
      intro i o az wz ho hR hd hf K hK
      have hin : i = 0 ∨ i = 1 ∨ i = 2 ∨ i = 3 ∨ i = 4 ∨ i = 5 ∨ i = 6 ∨ i = 7 ∨ i = 8 ∨ i = 9 ∨ i = 10 ∨ i = 11 ∨ i = 12 ∨ i = 13 ∨ i = 14 ∨ i = 15 ∨ i = 16 ∨ i = 17 ∨ i = 18 ∨ i = 19 ∨ i = 20 ∨ i = 21 ∨ i = 22 ∨ i = 23 ∨ i = 24 ∨ i = 25 ∨ i = 26 ∨ i = 27 ∨ i = 28 ∨ i = 29 ∨ i = 30 ∨ i = 31 ∨ i = 32 ∨ i = 33 ∨ i = 34 ∨ i = 35 := by
        rcases Nat.lt_or_ge i 36 with h | h
        · omega
        · rw [Array.getElem?_eq_none h] at ho
          cases ho
      rcases hin with rfl | rfl | rfl | rfl | rfl | rfl | rfl | rfl | rfl | rfl | rfl | rfl | rfl | rfl | rfl | rfl | rfl | rfl | rfl | rfl | rfl | rfl | rfl | rfl | rfl | rfl | rfl | rfl | rfl | rfl | rfl | rfl | rfl | rfl | rfl | rfl
      · simp only [List.getElem?_toArray, List.getElem?_cons_zero, Option.some.injEq] at ho
        subst ho
        have v0 : az.eval (.tmp 8) = .bool true := (hf 8 (by kernel_rfl)).trans (by kernel_rfl)
        have u0 : az.tmps[8]?.getD undef = .bool true := by rw [← Array.getD_eq_getD_getElem?]; exact v0
        clear v0
        clear hd hf
        replace hK : ∀ w', (fun wz => Below w.heap.size w wz) w' → K (az.put (some 14) (.bool true)) w' := hK
        have HK := Lib.hid hK
        clear hK
        show if Region.wanted _ (yielded _ az.tmps) = true then Oper.wp _ _ az wz K _ else _
        go_simp
        exact HK.out _ hR
      · simp only [List.getElem?_toArray, List.getElem?_cons_zero, List.getElem?_cons_succ, Option.some.injEq] at ho
        subst ho
        have v0 : az.eval (.tmp 14) = .bool true := hd 0 14 (by kernel_rfl) (by kernel_rfl)
        have u0 : az.tmps[14]?.getD undef = .bool true := by rw [← Array.getD_eq_getD_getElem?]; exact v0
        clear v0
        clear hd hf
        replace hK : ∀ w', (fun wz => Below w.heap.size w wz) w' → K (az.put (some 15) (.bool true)) w' := hK
        have HK := Lib.hid hK
        clear hK
        show if Region.wanted _ (yielded _ az.tmps) = true then Oper.wp _ _ az wz K _ else _
        go_simp
        exact HK.out _ hR
      · simp only [List.getElem?_toArray, List.getElem?_cons_zero, List.getElem?_cons_succ, Option.some.injEq] at ho
        subst ho
        have v0 : az.eval (.tmp 0) = .pointer (some ⟨b1, 0, none⟩) := (hf 0 (by kernel_rfl)).trans (by kernel_rfl)
        have u0 : az.tmps[0]?.getD undef = .pointer (some ⟨b1, 0, none⟩) := by rw [← Array.getD_eq_getD_getElem?]; exact v0
        clear v0
        have v1 : az.eval (.tmp 15) = .bool true := hd 1 15 (by kernel_rfl) (by kernel_rfl)
        have g1 := tmp_bool v1
        have u1 : az.tmps[15]?.getD undef = .bool true := by rw [← Array.getD_eq_getD_getElem?]; exact v1
        clear v1
        clear hd hf
        replace hK : ∀ w', (fun wz => Below w.heap.size w wz) w' → K (az.put (some 16) (.pointer (some ⟨b1, 0, none⟩))) w' := hK
        have HK := Lib.hid hK
        clear hK
        show if Region.wanted _ (yielded _ az.tmps) = true then Oper.wp _ _ az wz K _ else _
        go_simp
        exact HK.out _ hR
      · simp only [List.getElem?_toArray, List.getElem?_cons_zero, List.getElem?_cons_succ, Option.some.injEq] at ho
        subst ho
        have v0 : az.eval (.tmp 16) = .pointer (some ⟨b1, 0, none⟩) := hd 2 16 (by kernel_rfl) (by kernel_rfl)
        have u0 : az.tmps[16]?.getD undef = .pointer (some ⟨b1, 0, none⟩) := by rw [← Array.getD_eq_getD_getElem?]; exact v0
        clear v0
        have v1 : az.eval (.tmp 15) = .bool true := hd 1 15 (by kernel_rfl) (by kernel_rfl)
        have g1 := tmp_bool v1
        have u1 : az.tmps[15]?.getD undef = .bool true := by rw [← Array.getD_eq_getD_getElem?]; exact v1
        clear v1
        clear hd hf
        replace hK : ∀ w', (fun wz => Below w.heap.size w wz) w' → K (az.put (some 17) (.pointer (some ⟨b1, 0, none⟩))) w' := hK
        have HK := Lib.hid hK
        clear hK
        show if Region.wanted _ (yielded _ az.tmps) = true then Oper.wp _ _ az wz K _ else _
        go_simp
        exact HK.out _ hR
      · simp only [List.getElem?_toArray, List.getElem?_cons_zero, List.getElem?_cons_succ, Option.some.injEq] at ho
        subst ho
        have v0 : az.eval (.tmp 17) = .pointer (some ⟨b1, 0, none⟩) := hd 3 17 (by kernel_rfl) (by kernel_rfl)
        have u0 : az.tmps[17]?.getD undef = .pointer (some ⟨b1, 0, none⟩) := by rw [← Array.getD_eq_getD_getElem?]; exact v0
        clear v0
        have v1 : az.eval (.tmp 15) = .bool true := hd 1 15 (by kernel_rfl) (by kernel_rfl)
        have g1 := tmp_bool v1
        have u1 : az.tmps[15]?.getD undef = .bool true := by rw [← Array.getD_eq_getD_getElem?]; exact v1
        clear v1
        clear hd hf
        replace hK : ∀ w', (fun wz => Below w.heap.size w wz) w' → K (az.put (some 18) (.pointer (some ⟨b1, 3, none⟩))) w' := hK
        have HK := Lib.hid hK
        clear hK
        show if Region.wanted _ (yielded _ az.tmps) = true then Oper.wp _ _ az wz K _ else _
        go_simp
        exact HK.out _ hR
      · simp only [List.getElem?_toArray, List.getElem?_cons_zero, List.getElem?_cons_succ, Option.some.injEq] at ho
        subst ho
        have v0 : az.eval (.tmp 18) = .pointer (some ⟨b1, 3, none⟩) := hd 4 18 (by kernel_rfl) (by kernel_rfl)
        have u0 : az.tmps[18]?.getD undef = .pointer (some ⟨b1, 3, none⟩) := by rw [← Array.getD_eq_getD_getElem?]; exact v0
        clear v0
        have v1 : az.eval (.tmp 15) = .bool true := hd 1 15 (by kernel_rfl) (by kernel_rfl)
        have g1 := tmp_bool v1
        have u1 : az.tmps[15]?.getD undef = .bool true := by rw [← Array.getD_eq_getD_getElem?]; exact v1
        clear v1
        clear hd hf
        replace hK : ∀ w', (fun wz => Below w.heap.size w wz) w' → K (az.put (some 19) (.int .u8 (k1 : Nat))) w' := hK
        have HK := Lib.hid hK
        clear hK
        have c3 := (hcell ((hR.block _ (heap_lt HA.out)).trans HA.out) 3 _ rfl).1
        show if Region.wanted _ (yielded _ az.tmps) = true then Oper.wp _ _ az wz K _ else _
        go_simp
        exact HK.out _ hR
      · simp only [List.getElem?_toArray, List.getElem?_cons_zero, List.getElem?_cons_succ, Option.some.injEq] at ho
        subst ho
        have v0 : az.eval (.tmp 7) = .pointer (some ⟨b2, 0, none⟩) := (hf 7 (by kernel_rfl)).trans (by kernel_rfl)
        have u0 : az.tmps[7]?.getD undef = .pointer (some ⟨b2, 0, none⟩) := by rw [← Array.getD_eq_getD_getElem?]; exact v0
        clear v0
        have v1 : az.eval (.tmp 15) = .bool true := hd 1 15 (by kernel_rfl) (by kernel_rfl)
        have g1 := tmp_bool v1
        have u1 : az.tmps[15]?.getD undef = .bool true := by rw [← Array.getD_eq_getD_getElem?]; exact v1
        clear v1
        clear hd hf
        replace hK : ∀ w', (fun wz => Below w.heap.size w wz) w' → K (az.put (some 20) (.pointer (some ⟨b2, 0, none⟩))) w' := hK
        have HK := Lib.hid hK
        clear hK
        show if Region.wanted _ (yielded _ az.tmps) = true then Oper.wp _ _ az wz K _ else _
        go_simp
        exact HK.out _ hR
      · simp only [List.getElem?_toArray, List.getElem?_cons_zero, List.getElem?_cons_succ, Option.some.injEq] at ho
        subst ho
        have v0 : az.eval (.tmp 20) = .pointer (some ⟨b2, 0, none⟩) := hd 6 20 (by kernel_rfl) (by kernel_rfl)
        have u0 : az.tmps[20]?.getD undef = .pointer (some ⟨b2, 0, none⟩) := by rw [← Array.getD_eq_getD_getElem?]; exact v0
        clear v0
        have v1 : az.eval (.tmp 15) = .bool true := hd 1 15 (by kernel_rfl) (by kernel_rfl)
        have g1 := tmp_bool v1
        have u1 : az.tmps[15]?.getD undef = .bool true := by rw [← Array.getD_eq_getD_getElem?]; exact v1
        clear v1
        clear hd hf
        replace hK : ∀ w', (fun wz => Below w.heap.size w wz) w' → K (az.put (some 21) (.pointer (some ⟨b2, 0, none⟩))) w' := hK
        have HK := Lib.hid hK
        clear hK
        show if Region.wanted _ (yielded _ az.tmps) = true then Oper.wp _ _ az wz K _ else _
        go_simp
        exact HK.out _ hR
      · simp only [List.getElem?_toArray, List.getElem?_cons_zero, List.getElem?_cons_succ, Option.some.injEq] at ho
        subst ho
        have v0 : az.eval (.tmp 21) = .pointer (some ⟨b2, 0, none⟩) := hd 7 21 (by kernel_rfl) (by kernel_rfl)
        have u0 : az.tmps[21]?.getD undef = .pointer (some ⟨b2, 0, none⟩) := by rw [← Array.getD_eq_getD_getElem?]; exact v0
        clear v0
        have v1 : az.eval (.tmp 15) = .bool true := hd 1 15 (by kernel_rfl) (by kernel_rfl)
        have g1 := tmp_bool v1
        have u1 : az.tmps[15]?.getD undef = .bool true := by rw [← Array.getD_eq_getD_getElem?]; exact v1
        clear v1
        clear hd hf
        replace hK : ∀ w', (fun wz => Below w.heap.size w wz) w' → K (az.put (some 22) (.pointer (some ⟨b2, 3, none⟩))) w' := hK
        have HK := Lib.hid hK
        clear hK
        show if Region.wanted _ (yielded _ az.tmps) = true then Oper.wp _ _ az wz K _ else _
        go_simp
        exact HK.out _ hR
      · simp only [List.getElem?_toArray, List.getElem?_cons_zero, List.getElem?_cons_succ, Option.some.injEq] at ho
        subst ho
        have v0 : az.eval (.tmp 22) = .pointer (some ⟨b2, 3, none⟩) := hd 8 22 (by kernel_rfl) (by kernel_rfl)
        have u0 : az.tmps[22]?.getD undef = .pointer (some ⟨b2, 3, none⟩) := by rw [← Array.getD_eq_getD_getElem?]; exact v0
        clear v0
        have v1 : az.eval (.tmp 15) = .bool true := hd 1 15 (by kernel_rfl) (by kernel_rfl)
        have g1 := tmp_bool v1
        have u1 : az.tmps[15]?.getD undef = .bool true := by rw [← Array.getD_eq_getD_getElem?]; exact v1
        clear v1
        clear hd hf
        replace hK : ∀ w', (fun wz => Below w.heap.size w wz) w' → K (az.put (some 23) (.int .u8 (k1 : Nat))) w' := hK
        have HK := Lib.hid hK
        clear hK
        have c3 := (hcell ((hR.block _ (heap_lt HB.out)).trans HB.out) 3 _ rfl).1
        show if Region.wanted _ (yielded _ az.tmps) = true then Oper.wp _ _ az wz K _ else _
        go_simp
        exact HK.out _ hR
      · simp only [List.getElem?_toArray, List.getElem?_cons_zero, List.getElem?_cons_succ, Option.some.injEq] at ho
        subst ho
        have v0 : az.eval (.tmp 19) = .int .u8 (k1 : Nat) := hd 5 19 (by kernel_rfl) (by kernel_rfl)
        have u0 : az.tmps[19]?.getD undef = .int .u8 (k1 : Nat) := by rw [← Array.getD_eq_getD_getElem?]; exact v0
        clear v0
        have v1 : az.eval (.tmp 23) = .int .u8 (k1 : Nat) := hd 9 23 (by kernel_rfl) (by kernel_rfl)
        have u1 : az.tmps[23]?.getD undef = .int .u8 (k1 : Nat) := by rw [← Array.getD_eq_getD_getElem?]; exact v1
        clear v1
        have v2 : az.eval (.tmp 15) = .bool true := hd 1 15 (by kernel_rfl) (by kernel_rfl)
        have g2 := tmp_bool v2
        have u2 : az.tmps[15]?.getD undef = .bool true := by rw [← Array.getD_eq_getD_getElem?]; exact v2
        clear v2
        clear hd hf
        replace hK : ∀ w', (fun wz => Below w.heap.size w wz) w' → K (az.put (some 24) (.bool true)) w' := hK
        have HK := Lib.hid hK
        clear hK
        show if Region.wanted _ (yielded _ az.tmps) = true then Oper.wp _ _ az wz K _ else _
        go_simp
        exact HK.out _ hR
      · simp only [List.getElem?_toArray, List.getElem?_cons_zero, List.getElem?_cons_succ, Option.some.injEq] at ho
        subst ho
        have v0 : az.eval (.tmp 15) = .bool true := hd 1 15 (by kernel_rfl) (by kernel_rfl)
        have u0 : az.tmps[15]?.getD undef = .bool true := by rw [← Array.getD_eq_getD_getElem?]; exact v0
        clear v0
        have v1 : az.eval (.tmp 24) = .bool true := hd 10 24 (by kernel_rfl) (by kernel_rfl)
        have u1 : az.tmps[24]?.getD undef = .bool true := by rw [← Array.getD_eq_getD_getElem?]; exact v1
        clear v1
        clear hd hf
        replace hK : ∀ w', (fun wz => Below w.heap.size w wz) w' → K (az.put (some 25) (.bool true)) w' := hK
        have HK := Lib.hid hK
        clear hK
        show if Region.wanted _ (yielded _ az.tmps) = true then Oper.wp _ _ az wz K _ else _
        go_simp
        exact HK.out _ hR
      · simp only [List.getElem?_toArray, List.getElem?_cons_zero, List.getElem?_cons_succ, Option.some.injEq] at ho
        subst ho
        have v0 : az.eval (.tmp 25) = .bool true := hd 11 25 (by kernel_rfl) (by kernel_rfl)
        have u0 : az.tmps[25]?.getD undef = .bool true := by rw [← Array.getD_eq_getD_getElem?]; exact v0
        clear v0
        clear hd hf
        replace hK : ∀ w', (fun wz => Below w.heap.size w wz) w' → K (az.put (some 26) (.bool true)) w' := hK
        have HK := Lib.hid hK
        clear hK
        show if Region.wanted _ (yielded _ az.tmps) = true then Oper.wp _ _ az wz K _ else _
        go_simp
        exact HK.out _ hR
      · simp only [List.getElem?_toArray, List.getElem?_cons_zero, List.getElem?_cons_succ, Option.some.injEq] at ho
        subst ho
        have v0 : az.eval (.tmp 0) = .pointer (some ⟨b1, 0, none⟩) := (hf 0 (by kernel_rfl)).trans (by kernel_rfl)
        have u0 : az.tmps[0]?.getD undef = .pointer (some ⟨b1, 0, none⟩) := by rw [← Array.getD_eq_getD_getElem?]; exact v0
        clear v0
        have v1 : az.eval (.tmp 26) = .bool true := hd 12 26 (by kernel_rfl) (by kernel_rfl)
        have g1 := tmp_bool v1
        have u1 : az.tmps[26]?.getD undef = .bool true := by rw [← Array.getD_eq_getD_getElem?]; exact v1
        clear v1
        clear hd hf
        replace hK : ∀ w', (fun wz => Below w.heap.size w wz) w' → K (az.put (some 27) (.pointer (some ⟨b1, 0, none⟩))) w' := hK
        have HK := Lib.hid hK
        clear hK
        show if Region.wanted _ (yielded _ az.tmps) = true then Oper.wp _ _ az wz K _ else _
        go_simp
        exact HK.out _ hR
      · simp only [List.getElem?_toArray, List.getElem?_cons_zero, List.getElem?_cons_succ, Option.some.injEq] at ho
        subst ho
        have v0 : az.eval (.tmp 27) = .pointer (some ⟨b1, 0, none⟩) := hd 13 27 (by kernel_rfl) (by kernel_rfl)
        have u0 : az.tmps[27]?.getD undef = .pointer (some ⟨b1, 0, none⟩) := by rw [← Array.getD_eq_getD_getElem?]; exact v0
        clear v0
        have v1 : az.eval (.tmp 26) = .bool true := hd 12 26 (by kernel_rfl) (by kernel_rfl)
        have g1 := tmp_bool v1
        have u1 : az.tmps[26]?.getD undef = .bool true := by rw [← Array.getD_eq_getD_getElem?]; exact v1
        clear v1
        clear hd hf
        replace hK : ∀ w', (fun wz => Below w.heap.size w wz) w' → K (az.put (some 28) (.pointer (some ⟨b1, 0, none⟩))) w' := hK
        have HK := Lib.hid hK
        clear hK
        show if Region.wanted _ (yielded _ az.tmps) = true then Oper.wp _ _ az wz K _ else _
        go_simp
        exact HK.out _ hR
      · simp only [List.getElem?_toArray, List.getElem?_cons_zero, List.getElem?_cons_succ, Option.some.injEq] at ho
        subst ho
        have v0 : az.eval (.tmp 28) = .pointer (some ⟨b1, 0, none⟩) := hd 14 28 (by kernel_rfl) (by kernel_rfl)
        have u0 : az.tmps[28]?.getD undef = .pointer (some ⟨b1, 0, none⟩) := by rw [← Array.getD_eq_getD_getElem?]; exact v0
        clear v0
        have v1 : az.eval (.tmp 26) = .bool true := hd 12 26 (by kernel_rfl) (by kernel_rfl)
        have g1 := tmp_bool v1
        have u1 : az.tmps[26]?.getD undef = .bool true := by rw [← Array.getD_eq_getD_getElem?]; exact v1
        clear v1
        clear hd hf
        replace hK : ∀ w', (fun wz => Below w.heap.size w wz) w' → K (az.put (some 29) (.pointer (some ⟨b1, 1, none⟩))) w' := hK
        have HK := Lib.hid hK
        clear hK
        show if Region.wanted _ (yielded _ az.tmps) = true then Oper.wp _ _ az wz K _ else _
        go_simp
        exact HK.out _ hR
      · simp only [List.getElem?_toArray, List.getElem?_cons_zero, List.getElem?_cons_succ, Option.some.injEq] at ho
        subst ho
        have v0 : az.eval (.tmp 29) = .pointer (some ⟨b1, 1, none⟩) := hd 15 29 (by kernel_rfl) (by kernel_rfl)
        have u0 : az.tmps[29]?.getD undef = .pointer (some ⟨b1, 1, none⟩) := by rw [← Array.getD_eq_getD_getElem?]; exact v0
        clear v0
        have v1 : az.eval (.tmp 26) = .bool true := hd 12 26 (by kernel_rfl) (by kernel_rfl)
        have g1 := tmp_bool v1
        have u1 : az.tmps[26]?.getD undef = .bool true := by rw [← Array.getD_eq_getD_getElem?]; exact v1
        clear v1
        clear hd hf
        replace hK : ∀ w', (fun wz => Below w.heap.size w wz) w' → K (az.put (some 30) (.agg #[.string emS, .string emS])) w' := hK
        have HK := Lib.hid hK
        clear hK
        have c1 := (hcell ((hR.block _ (heap_lt HA.out)).trans HA.out) 1 _ rfl).1
        have c2 := (hcell ((hR.block _ (heap_lt HA.out)).trans HA.out) 2 _ rfl).1
        show if Region.wanted _ (yielded _ az.tmps) = true then Oper.wp _ _ az wz K _ else _
        go_simp
        exact HK.out _ hR
      · simp only [List.getElem?_toArray, List.getElem?_cons_zero, List.getElem?_cons_succ, Option.some.injEq] at ho
        subst ho
        have v0 : az.eval (.tmp 7) = .pointer (some ⟨b2, 0, none⟩) := (hf 7 (by kernel_rfl)).trans (by kernel_rfl)
        have u0 : az.tmps[7]?.getD undef = .pointer (some ⟨b2, 0, none⟩) := by rw [← Array.getD_eq_getD_getElem?]; exact v0
        clear v0
        have v1 : az.eval (.tmp 26) = .bool true := hd 12 26 (by kernel_rfl) (by kernel_rfl)
        have g1 := tmp_bool v1
        have u1 : az.tmps[26]?.getD undef = .bool true := by rw [← Array.getD_eq_getD_getElem?]; exact v1
        clear v1
        clear hd hf
        replace hK : ∀ w', (fun wz => Below w.heap.size w wz) w' → K (az.put (some 31) (.pointer (some ⟨b2, 0, none⟩))) w' := hK
        have HK := Lib.hid hK
        clear hK
        show if Region.wanted _ (yielded _ az.tmps) = true then Oper.wp _ _ az wz K _ else _
        go_simp
        exact HK.out _ hR
      · simp only [List.getElem?_toArray, List.getElem?_cons_zero, List.getElem?_cons_succ, Option.some.injEq] at ho
        subst ho
        have v0 : az.eval (.tmp 31) = .pointer (some ⟨b2, 0, none⟩) := hd 17 31 (by kernel_rfl) (by kernel_rfl)
        have u0 : az.tmps[31]?.getD undef = .pointer (some ⟨b2, 0, none⟩) := by rw [← Array.getD_eq_getD_getElem?]; exact v0
        clear v0
        have v1 : az.eval (.tmp 26) = .bool true := hd 12 26 (by kernel_rfl) (by kernel_rfl)
        have g1 := tmp_bool v1
        have u1 : az.tmps[26]?.getD undef = .bool true := by rw [← Array.getD_eq_getD_getElem?]; exact v1
        clear v1
        clear hd hf
        replace hK : ∀ w', (fun wz => Below w.heap.size w wz) w' → K (az.put (some 32) (.pointer (some ⟨b2, 0, none⟩))) w' := hK
        have HK := Lib.hid hK
        clear hK
        show if Region.wanted _ (yielded _ az.tmps) = true then Oper.wp _ _ az wz K _ else _
        go_simp
        exact HK.out _ hR
      · simp only [List.getElem?_toArray, List.getElem?_cons_zero, List.getElem?_cons_succ, Option.some.injEq] at ho
        subst ho
        have v0 : az.eval (.tmp 32) = .pointer (some ⟨b2, 0, none⟩) := hd 18 32 (by kernel_rfl) (by kernel_rfl)
        have u0 : az.tmps[32]?.getD undef = .pointer (some ⟨b2, 0, none⟩) := by rw [← Array.getD_eq_getD_getElem?]; exact v0
        clear v0
        have v1 : az.eval (.tmp 26) = .bool true := hd 12 26 (by kernel_rfl) (by kernel_rfl)
        have g1 := tmp_bool v1
        have u1 : az.tmps[26]?.getD undef = .bool true := by rw [← Array.getD_eq_getD_getElem?]; exact v1
        clear v1
        clear hd hf
        replace hK : ∀ w', (fun wz => Below w.heap.size w wz) w' → K (az.put (some 33) (.pointer (some ⟨b2, 1, none⟩))) w' := hK
        have HK := Lib.hid hK
        clear hK
        show if Region.wanted _ (yielded _ az.tmps) = true then Oper.wp _ _ az wz K _ else _
        go_simp
        exact HK.out _ hR
      · simp only [List.getElem?_toArray, List.getElem?_cons_zero, List.getElem?_cons_succ, Option.some.injEq] at ho
        subst ho
        have v0 : az.eval (.tmp 33) = .pointer (some ⟨b2, 1, none⟩) := hd 19 33 (by kernel_rfl) (by kernel_rfl)
        have u0 : az.tmps[33]?.getD undef = .pointer (some ⟨b2, 1, none⟩) := by rw [← Array.getD_eq_getD_getElem?]; exact v0
        clear v0
        have v1 : az.eval (.tmp 26) = .bool true := hd 12 26 (by kernel_rfl) (by kernel_rfl)
        have g1 := tmp_bool v1
        have u1 : az.tmps[26]?.getD undef = .bool true := by rw [← Array.getD_eq_getD_getElem?]; exact v1
        clear v1
        clear hd hf
        replace hK : ∀ w', (fun wz => Below w.heap.size w wz) w' → K (az.put (some 34) (.agg #[.string emS, .string emS])) w' := hK
        have HK := Lib.hid hK
        clear hK
        have c1 := (hcell ((hR.block _ (heap_lt HB.out)).trans HB.out) 1 _ rfl).1
        have c2 := (hcell ((hR.block _ (heap_lt HB.out)).trans HB.out) 2 _ rfl).1
        show if Region.wanted _ (yielded _ az.tmps) = true then Oper.wp _ _ az wz K _ else _
        go_simp
        exact HK.out _ hR
      · simp only [List.getElem?_toArray, List.getElem?_cons_zero, List.getElem?_cons_succ, Option.some.injEq] at ho
        subst ho
        have v0 : az.eval (.tmp 30) = .agg #[.string emS, .string emS] := hd 16 30 (by kernel_rfl) (by kernel_rfl)
        have u0 : az.tmps[30]?.getD undef = .agg #[.string emS, .string emS] := by rw [← Array.getD_eq_getD_getElem?]; exact v0
        clear v0
        have v1 : az.eval (.tmp 34) = .agg #[.string emS, .string emS] := hd 20 34 (by kernel_rfl) (by kernel_rfl)
        have u1 : az.tmps[34]?.getD undef = .agg #[.string emS, .string emS] := by rw [← Array.getD_eq_getD_getElem?]; exact v1
        clear v1
        have v2 : az.eval (.tmp 26) = .bool true := hd 12 26 (by kernel_rfl) (by kernel_rfl)
        have g2 := tmp_bool v2
        have u2 : az.tmps[26]?.getD undef = .bool true := by rw [← Array.getD_eq_getD_getElem?]; exact v2
        clear v2
        clear hd hf
        replace hK : ∀ w', (fun wz => Below w.heap.size w wz) w' → K (az.put (some 35) (.bool true)) w' := hK
        have HK := Lib.hid hK
        clear hK
        show if Region.wanted _ (yielded _ az.tmps) = true then Oper.wp _ _ az wz K _ else _
        go_simp
        exact HK.out _ hR
      · simp only [List.getElem?_toArray, List.getElem?_cons_zero, List.getElem?_cons_succ, Option.some.injEq] at ho
        subst ho
        have v0 : az.eval (.tmp 26) = .bool true := hd 12 26 (by kernel_rfl) (by kernel_rfl)
        have u0 : az.tmps[26]?.getD undef = .bool true := by rw [← Array.getD_eq_getD_getElem?]; exact v0
        clear v0
        have v1 : az.eval (.tmp 35) = .bool true := hd 21 35 (by kernel_rfl) (by kernel_rfl)
        have u1 : az.tmps[35]?.getD undef = .bool true := by rw [← Array.getD_eq_getD_getElem?]; exact v1
        clear v1
        clear hd hf
        replace hK : ∀ w', (fun wz => Below w.heap.size w wz) w' → K (az.put (some 36) (.bool true)) w' := hK
        have HK := Lib.hid hK
        clear hK
        show if Region.wanted _ (yielded _ az.tmps) = true then Oper.wp _ _ az wz K _ else _
        go_simp
        exact HK.out _ hR
      · simp only [List.getElem?_toArray, List.getElem?_cons_zero, List.getElem?_cons_succ, Option.some.injEq] at ho
        subst ho
        have v0 : az.eval (.tmp 36) = .bool true := hd 22 36 (by kernel_rfl) (by kernel_rfl)
        have u0 : az.tmps[36]?.getD undef = .bool true := by rw [← Array.getD_eq_getD_getElem?]; exact v0
        clear v0
        clear hd hf
        replace hK : ∀ w', (fun wz => Below w.heap.size w wz) w' → K (az.put (some 37) (.bool true)) w' := hK
        have HK := Lib.hid hK
        clear hK
        show if Region.wanted _ (yielded _ az.tmps) = true then Oper.wp _ _ az wz K _ else _
        go_simp
        exact HK.out _ hR
      · simp only [List.getElem?_toArray, List.getElem?_cons_zero, List.getElem?_cons_succ, Option.some.injEq] at ho
        subst ho
        have v0 : az.eval (.tmp 0) = .pointer (some ⟨b1, 0, none⟩) := (hf 0 (by kernel_rfl)).trans (by kernel_rfl)
        have u0 : az.tmps[0]?.getD undef = .pointer (some ⟨b1, 0, none⟩) := by rw [← Array.getD_eq_getD_getElem?]; exact v0
        clear v0
        have v1 : az.eval (.tmp 37) = .bool true := hd 23 37 (by kernel_rfl) (by kernel_rfl)
        have g1 := tmp_bool v1
        have u1 : az.tmps[37]?.getD undef = .bool true := by rw [← Array.getD_eq_getD_getElem?]; exact v1
        clear v1
        clear hd hf
        replace hK : ∀ w', (fun wz => Below w.heap.size w wz) w' → K (az.put (some 38) (.pointer (some ⟨b1, 0, none⟩))) w' := hK
        have HK := Lib.hid hK
        clear hK
        show if Region.wanted _ (yielded _ az.tmps) = true then Oper.wp _ _ az wz K _ else _
        go_simp
        exact HK.out _ hR
      · simp only [List.getElem?_toArray, List.getElem?_cons_zero, List.getElem?_cons_succ, Option.some.injEq] at ho
        subst ho
        have v0 : az.eval (.tmp 38) = .pointer (some ⟨b1, 0, none⟩) := hd 24 38 (by kernel_rfl) (by kernel_rfl)
        have u0 : az.tmps[38]?.getD undef = .pointer (some ⟨b1, 0, none⟩) := by rw [← Array.getD_eq_getD_getElem?]; exact v0
        clear v0
        have v1 : az.eval (.tmp 37) = .bool true := hd 23 37 (by kernel_rfl) (by kernel_rfl)
        have g1 := tmp_bool v1
        have u1 : az.tmps[37]?.getD undef = .bool true := by rw [← Array.getD_eq_getD_getElem?]; exact v1
        clear v1
        clear hd hf
        replace hK : ∀ w', (fun wz => Below w.heap.size w wz) w' → K (az.put (some 39) (.pointer (some ⟨b1, 0, none⟩))) w' := hK
        have HK := Lib.hid hK
        clear hK
        show if Region.wanted _ (yielded _ az.tmps) = true then Oper.wp _ _ az wz K _ else _
        go_simp
        exact HK.out _ hR
      · simp only [List.getElem?_toArray, List.getElem?_cons_zero, List.getElem?_cons_succ, Option.some.injEq] at ho
        subst ho
        have v0 : az.eval (.tmp 39) = .pointer (some ⟨b1, 0, none⟩) := hd 25 39 (by kernel_rfl) (by kernel_rfl)
        have u0 : az.tmps[39]?.getD undef = .pointer (some ⟨b1, 0, none⟩) := by rw [← Array.getD_eq_getD_getElem?]; exact v0
        clear v0
        have v1 : az.eval (.tmp 37) = .bool true := hd 23 37 (by kernel_rfl) (by kernel_rfl)
        have g1 := tmp_bool v1
        have u1 : az.tmps[37]?.getD undef = .bool true := by rw [← Array.getD_eq_getD_getElem?]; exact v1
        clear v1
        clear hd hf
        replace hK : ∀ w', (fun wz => Below w.heap.size w wz) w' → K (az.put (some 40) (.pointer (some ⟨b1, 0, none⟩))) w' := hK
        have HK := Lib.hid hK
        clear hK
        show if Region.wanted _ (yielded _ az.tmps) = true then Oper.wp _ _ az wz K _ else _
        go_simp
        exact HK.out _ hR
      · simp only [List.getElem?_toArray, List.getElem?_cons_zero, List.getElem?_cons_succ, Option.some.injEq] at ho
        subst ho
        have v0 : az.eval (.tmp 40) = .pointer (some ⟨b1, 0, none⟩) := hd 26 40 (by kernel_rfl) (by kernel_rfl)
        have u0 : az.tmps[40]?.getD undef = .pointer (some ⟨b1, 0, none⟩) := by rw [← Array.getD_eq_getD_getElem?]; exact v0
        clear v0
        have v1 : az.eval (.tmp 37) = .bool true := hd 23 37 (by kernel_rfl) (by kernel_rfl)
        have g1 := tmp_bool v1
        have u1 : az.tmps[37]?.getD undef = .bool true := by rw [← Array.getD_eq_getD_getElem?]; exact v1
        clear v1
        clear hd hf
        replace hK : ∀ w', (fun wz => Below w.heap.size w wz) w' → K (az.put (some 41) (.slice sa1 im1.length sc1)) w' := hK
        have HK := Lib.hid hK
        clear hK
        have c0 := (hcell ((hR.block _ (heap_lt HA.out)).trans HA.out) 0 _ rfl).1
        show if Region.wanted _ (yielded _ az.tmps) = true then Oper.wp _ _ az wz K _ else _
        go_simp
        exact HK.out _ hR
      · simp only [List.getElem?_toArray, List.getElem?_cons_zero, List.getElem?_cons_succ, Option.some.injEq] at ho
        subst ho
        have v0 : az.eval (.tmp 7) = .pointer (some ⟨b2, 0, none⟩) := (hf 7 (by kernel_rfl)).trans (by kernel_rfl)
        have u0 : az.tmps[7]?.getD undef = .pointer (some ⟨b2, 0, none⟩) := by rw [← Array.getD_eq_getD_getElem?]; exact v0
        clear v0
        have v1 : az.eval (.tmp 37) = .bool true := hd 23 37 (by kernel_rfl) (by kernel_rfl)
        have g1 := tmp_bool v1
        have u1 : az.tmps[37]?.getD undef = .bool true := by rw [← Array.getD_eq_getD_getElem?]; exact v1
        clear v1
        clear hd hf
        replace hK : ∀ w', (fun wz => Below w.heap.size w wz) w' → K (az.put (some 42) (.pointer (some ⟨b2, 0, none⟩))) w' := hK
        have HK := Lib.hid hK
        clear hK
        show if Region.wanted _ (yielded _ az.tmps) = true then Oper.wp _ _ az wz K _ else _
        go_simp
        exact HK.out _ hR
      · simp only [List.getElem?_toArray, List.getElem?_cons_zero, List.getElem?_cons_succ, Option.some.injEq] at ho
        subst ho
        have v0 : az.eval (.tmp 42) = .pointer (some ⟨b2, 0, none⟩) := hd 28 42 (by kernel_rfl) (by kernel_rfl)
        have u0 : az.tmps[42]?.getD undef = .pointer (some ⟨b2, 0, none⟩) := by rw [← Array.getD_eq_getD_getElem?]; exact v0
        clear v0
        have v1 : az.eval (.tmp 37) = .bool true := hd 23 37 (by kernel_rfl) (by kernel_rfl)
        have g1 := tmp_bool v1
        have u1 : az.tmps[37]?.getD undef = .bool true := by rw [← Array.getD_eq_getD_getElem?]; exact v1
        clear v1
        clear hd hf
        replace hK : ∀ w', (fun wz => Below w.heap.size w wz) w' → K (az.put (some 43) (.pointer (some ⟨b2, 0, none⟩))) w' := hK
        have HK := Lib.hid hK
        clear hK
        show if Region.wanted _ (yielded _ az.tmps) = true then Oper.wp _ _ az wz K _ else _
        go_simp
        exact HK.out _ hR
      · simp only [List.getElem?_toArray, List.getElem?_cons_zero, List.getElem?_cons_succ, Option.some.injEq] at ho
        subst ho
        have v0 : az.eval (.tmp 43) = .pointer (some ⟨b2, 0, none⟩) := hd 29 43 (by kernel_rfl) (by kernel_rfl)
        have u0 : az.tmps[43]?.getD undef = .pointer (some ⟨b2, 0, none⟩) := by rw [← Array.getD_eq_getD_getElem?]; exact v0
        clear v0
        have v1 : az.eval (.tmp 37) = .bool true := hd 23 37 (by kernel_rfl) (by kernel_rfl)
        have g1 := tmp_bool v1
        have u1 : az.tmps[37]?.getD undef = .bool true := by rw [← Array.getD_eq_getD_getElem?]; exact v1
        clear v1
        clear hd hf
        replace hK : ∀ w', (fun wz => Below w.heap.size w wz) w' → K (az.put (some 44) (.pointer (some ⟨b2, 0, none⟩))) w' := hK
        have HK := Lib.hid hK
        clear hK
        show if Region.wanted _ (yielded _ az.tmps) = true then Oper.wp _ _ az wz K _ else _
        go_simp
        exact HK.out _ hR
      · simp only [List.getElem?_toArray, List.getElem?_cons_zero, List.getElem?_cons_succ, Option.some.injEq] at ho
        subst ho
        have v0 : az.eval (.tmp 44) = .pointer (some ⟨b2, 0, none⟩) := hd 30 44 (by kernel_rfl) (by kernel_rfl)
        have u0 : az.tmps[44]?.getD undef = .pointer (some ⟨b2, 0, none⟩) := by rw [← Array.getD_eq_getD_getElem?]; exact v0
        clear v0
        have v1 : az.eval (.tmp 37) = .bool true := hd 23 37 (by kernel_rfl) (by kernel_rfl)
        have g1 := tmp_bool v1
        have u1 : az.tmps[37]?.getD undef = .bool true := by rw [← Array.getD_eq_getD_getElem?]; exact v1
        clear v1
        clear hd hf
        replace hK : ∀ w', (fun wz => Below w.heap.size w wz) w' → K (az.put (some 45) (.slice sa2 im2.length sc2)) w' := hK
        have HK := Lib.hid hK
        clear hK
        have c0 := (hcell ((hR.block _ (heap_lt HB.out)).trans HB.out) 0 _ rfl).1
        show if Region.wanted _ (yielded _ az.tmps) = true then Oper.wp _ _ az wz K _ else _
        go_simp
        exact HK.out _ hR
      · simp only [List.getElem?_toArray, List.getElem?_cons_zero, List.getElem?_cons_succ, Option.some.injEq] at ho
        subst ho
        have v0 : az.eval (.tmp 2) = v := (hf 2 (by kernel_rfl)).trans (by kernel_rfl)
        have u0 : az.tmps[2]?.getD undef = v := by rw [← Array.getD_eq_getD_getElem?]; exact v0
        clear v0
        have v1 : az.eval (.tmp 37) = .bool true := hd 23 37 (by kernel_rfl) (by kernel_rfl)
        have g1 := tmp_bool v1
        have u1 : az.tmps[37]?.getD undef = .bool true := by rw [← Array.getD_eq_getD_getElem?]; exact v1
        clear v1
        clear hd hf
        replace hK : ∀ w', (fun wz => Below w.heap.size w wz) w' → K (az.put (some 46) (v)) w' := hK
        have HK := Lib.hid hK
        clear hK
        show if Region.wanted _ (yielded _ az.tmps) = true then Oper.wp _ _ az wz K _ else _
        go_simp
        exact HK.out _ hR
      · simp only [List.getElem?_toArray, List.getElem?_cons_zero, List.getElem?_cons_succ, Option.some.injEq] at ho
        subst ho
        have v0 : az.eval (.tmp 41) = .slice sa1 im1.length sc1 := hd 27 41 (by kernel_rfl) (by kernel_rfl)
        have u0 : az.tmps[41]?.getD undef = .slice sa1 im1.length sc1 := by rw [← Array.getD_eq_getD_getElem?]; exact v0
        clear v0
        have v1 : az.eval (.tmp 45) = .slice sa2 im2.length sc2 := hd 31 45 (by kernel_rfl) (by kernel_rfl)
        have u1 : az.tmps[45]?.getD undef = .slice sa2 im2.length sc2 := by rw [← Array.getD_eq_getD_getElem?]; exact v1
        clear v1
        have v2 : az.eval (.tmp 46) = v := hd 32 46 (by kernel_rfl) (by kernel_rfl)
        have u2 : az.tmps[46]?.getD undef = v := by rw [← Array.getD_eq_getD_getElem?]; exact v2
        clear v2
        have v3 : az.eval (.tmp 37) = .bool true := hd 23 37 (by kernel_rfl) (by kernel_rfl)
        have g3 := tmp_bool v3
        have u3 : az.tmps[37]?.getD undef = .bool true := by rw [← Array.getD_eq_getD_getElem?]; exact v3
        clear v3
        clear hd hf
        replace hK : ∀ w', (fun wz => Below w.heap.size w wz) w' → K (az.put (some 47) (.bool d)) w' := hK
        have HK := Lib.hid hK
        clear hK
        show if Region.wanted _ (yielded _ az.tmps) = true then Oper.wp _ _ az wz K _ else _
        go_simp
        refine (cs48 SubT0 eok0 sa1 sa2 im1.length sc1 im2.length sc2 im1 im2 P1 P2 v wz HG.out.1 HG.out.2 (HROW.out.1.below hR) (HROW.out.2.below hR)).mono ?_
        rintro e w5 hD
        obtain ⟨he, hB5⟩ := hD.ex
        rw [HDD.out] at he
        obtain rfl := he.symm
        go_simp
        exact HK.out _ (hR.trans (hB5.mono hR.size))
      · simp only [List.getElem?_toArray, List.getElem?_cons_zero, List.getElem?_cons_succ, Option.some.injEq] at ho
        subst ho
        have v0 : az.eval (.tmp 37) = .bool true := hd 23 37 (by kernel_rfl) (by kernel_rfl)
        have u0 : az.tmps[37]?.getD undef = .bool true := by rw [← Array.getD_eq_getD_getElem?]; exact v0
        clear v0
        have v1 : az.eval (.tmp 47) = .bool d := hd 33 47 (by kernel_rfl) (by kernel_rfl)
        have u1 : az.tmps[47]?.getD undef = .bool d := by rw [← Array.getD_eq_getD_getElem?]; exact v1
        clear v1
        clear hd hf
        replace hK : ∀ w', (fun wz => Below w.heap.size w wz) w' → K (az.put (some 48) (.bool d)) w' := hK
        have HK := Lib.hid hK
        clear hK
        show if Region.wanted _ (yielded _ az.tmps) = true then Oper.wp _ _ az wz K _ else _
        go_simp
        exact HK.out _ hR
      · simp only [List.getElem?_toArray, List.getElem?_cons_zero, List.getElem?_cons_succ, Option.some.injEq] at ho
        subst ho
        have v0 : az.eval (.tmp 48) = .bool d := hd 34 48 (by kernel_rfl) (by kernel_rfl)
        have u0 : az.tmps[48]?.getD undef = .bool d := by rw [← Array.getD_eq_getD_getElem?]; exact v0
        clear v0
        clear hd hf
        replace hK : ∀ w', (fun wz => Below w.heap.size w wz) w' → K (az.put (some 6) (.bool d)) w' := hK
        have HK := Lib.hid hK
        clear hK
        show if Region.wanted _ (yielded _ az.tmps) = true then Oper.wp _ _ az wz K _ else _
        go_simp
        exact HK.out _ hR
    case h0e => exact (Below.refl _ _).drew
    case hende =>
      intro wz hR
      have HR := hid hR
      clear hR
      simp only [List.foldl_cons, List.foldl_nil, Act.put, List.setIfInBounds_toArray, List.set_cons_zero, List.set_cons_succ]
      go_wp2_with fail
      go_ret
      refine ⟨?_, HR.out⟩
      have := HDD.out
      simp only [true_and, this]
      rfl
  · have HK0 := hid hk
    have hk2 : ¬ (k1 : Int) = (k2 : Int) := by omega
    have g9 : ((k1 : Int) == (k2 : Int)) = false := by simp; omega
    clear hk
    go_enter Try.func59, Try.ntmps59
    go_wp2_with fail
    refine wp_region_rel [(some 14, .bool true), (some 15, .bool true), (some 16, .pointer (some ⟨b1, 0, none⟩)), (some 17, .pointer (some ⟨b1, 0, none⟩)), (some 18, .pointer (some ⟨b1, 3, none⟩)), (some 19, .int .u8 (k1 : Nat)), (some 20, .pointer (some ⟨b2, 0, none⟩)), (some 21, .pointer (some ⟨b2, 0, none⟩)), (some 22, .pointer (some ⟨b2, 3, none⟩)), (some 23, .int .u8 (k2 : Nat)), (some 24, .bool false), (some 25, .bool false), (some 26, .bool false), (some 27, undef), (some 28, undef), (some 29, undef), (some 30, undef), (some 31, undef), (some 32, undef), (some 33, undef), (some 34, undef), (some 35, undef), (some 36, .bool false), (some 37, .bool false), (some 38, undef), (some 39, undef), (some 40, undef), (some 41, undef), (some 42, undef), (some 43, undef), (some 44, undef), (some 45, undef), (some 46, undef), (some 47, undef), (some 48, .bool false), (some 6, .bool false)] (fun wz => Below w.heap.size w wz) 49 (by kernel_rfl) (by kernel_rfl) (by kernel_rfl) (by kernel_rfl) ?h0n (by kernel_rfl) ?hopn ?hendn
    case hopn =>
      intro i o az wz ho hR hd hf K hK
      have hin : i = 0 ∨ i = 1 ∨ i = 2 ∨ i = 3 ∨ i = 4 ∨ i = 5 ∨ i = 6 ∨ i = 7 ∨ i = 8 ∨ i = 9 ∨ i = 10 ∨ i = 11 ∨ i = 12 ∨ i = 13 ∨ i = 14 ∨ i = 15 ∨ i = 16 ∨ i = 17 ∨ i = 18 ∨ i = 19 ∨ i = 20 ∨ i = 21 ∨ i = 22 ∨ i = 23 ∨ i = 24 ∨ i = 25 ∨ i = 26 ∨ i = 27 ∨ i = 28 ∨ i = 29 ∨ i = 30 ∨ i = 31 ∨ i = 32 ∨ i = 33 ∨ i = 34 ∨ i = 35 := by
        rcases Nat.lt_or_ge i 36 with h | h
        · omega
        · rw [Array.getElem?_eq_none h] at ho
          cases ho
      rcases hin with rfl | rfl | rfl | rfl | rfl | rfl | rfl | rfl | rfl | rfl | rfl | rfl | rfl | rfl | rfl | rfl | rfl | rfl | rfl | rfl | rfl | rfl | rfl | rfl | rfl | rfl | rfl | rfl | rfl | rfl | rfl | rfl | rfl | rfl | rfl | rfl
      · simp only [List.getElem?_toArray, List.getElem?_cons_zero, Option.some.injEq] at ho
        subst ho
        have v0 : az.eval (.tmp 8) = .bool true := (hf 8 (by kernel_rfl)).trans (by kernel_rfl)
        have u0 : az.tmps[8]?.getD undef = .bool true := by rw [← Array.getD_eq_getD_getElem?]; exact v0
        clear v0
        clear hd hf
        replace hK : ∀ w', (fun wz => Below w.heap.size w wz) w' → K (az.put (some 14) (.bool true)) w' := hK
        have HK := Lib.hid hK
        clear hK
        show if Region.wanted _ (yielded _ az.tmps) = true then Oper.wp _ _ az wz K _ else _
        go_simp
        exact HK.out _ hR
      · simp only [List.getElem?_toArray, List.getElem?_cons_zero, List.getElem?_cons_succ, Option.some.injEq] at ho
        subst ho
        have v0 : az.eval (.tmp 14) = .bool true := hd 0 14 (by kernel_rfl) (by kernel_rfl)
        have u0 : az.tmps[14]?.getD undef = .bool true := by rw [← Array.getD_eq_getD_getElem?]; exact v0
        clear v0
        clear hd hf
        replace hK : ∀ w', (fun wz => Below w.heap.size w wz) w' → K (az.put (some 15) (.bool true)) w' := hK
        have HK := Lib.hid hK
        clear hK
        show if Region.wanted _ (yielded _ az.tmps) = true then Oper.wp _ _ az wz K _ else _
        go_simp
        exact HK.out _ hR
      · simp only [List.getElem?_toArray, List.getElem?_cons_zero, List.getElem?_cons_succ, Option.some.injEq] at ho
        subst ho
        have v0 : az.eval (.tmp 0) = .pointer (some ⟨b1, 0, none⟩) := (hf 0 (by kernel_rfl)).trans (by kernel_rfl)
        have u0 : az.tmps[0]?.getD undef = .pointer (some ⟨b1, 0, none⟩) := by rw [← Array.getD_eq_getD_getElem?]; exact v0
        clear v0
        have v1 : az.eval (.tmp 15) = .bool true := hd 1 15 (by kernel_rfl) (by kernel_rfl)
        have g1 := tmp_bool v1
        have u1 : az.tmps[15]?.getD undef = .bool true := by rw [← Array.getD_eq_getD_getElem?]; exact v1
        clear v1
        clear hd hf
        replace hK : ∀ w', (fun wz => Below w.heap.size w wz) w' → K (az.put (some 16) (.pointer (some ⟨b1, 0, none⟩))) w' := hK
        have HK := Lib.hid hK
        clear hK
        show if Region.wanted _ (yielded _ az.tmps) = true then Oper.wp _ _ az wz K _ else _
        go_simp
        exact HK.out _ hR
      · simp only [List.getElem?_toArray, List.getElem?_cons_zero, List.getElem?_cons_succ, Option.some.injEq] at ho
        subst ho
        have v0 : az.eval (.tmp 16) = .pointer (some ⟨b1, 0, none⟩) := hd 2 16 (by kernel_rfl) (by kernel_rfl)
        have u0 : az.tmps[16]?.getD undef = .pointer (some ⟨b1, 0, none⟩) := by rw [← Array.getD_eq_getD_getElem?]; exact v0
        clear v0
        have v1 : az.eval (.tmp 15) = .bool true := hd 1 15 (by kernel_rfl) (by kernel_rfl)
        have g1 := tmp_bool v1
        have u1 : az.tmps[15]?.getD undef = .bool true := by rw [← Array.getD_eq_getD_getElem?]; exact v1
        clear v1
        clear hd hf
        replace hK : ∀ w', (fun wz => Below w.heap.size w wz) w' → K (az.put (some 17) (.pointer (some ⟨b1, 0, none⟩))) w' := hK
        have HK := Lib.hid hK
        clear hK
        show if Region.wanted _ (yielded _ az.tmps) = true then Oper.wp _ _ az wz K _ else _
        go_simp
        exact HK.out _ hR
      · simp only [List.getElem?_toArray, List.getElem?_cons_zero, List.getElem?_cons_succ, Option.some.injEq] at ho
        subst ho
        have v0 : az.eval (.tmp 17) = .pointer (some ⟨b1, 0, none⟩) := hd 3 17 (by kernel_rfl) (by kernel_rfl)
        have u0 : az.tmps[17]?.getD undef = .pointer (some ⟨b1, 0, none⟩) := by rw [← Array.getD_eq_getD_getElem?]; exact v0
        clear v0
        have v1 : az.eval (.tmp 15) = .bool true := hd 1 15 (by kernel_rfl) (by kernel_rfl)
        have g1 := tmp_bool v1
        have u1 : az.tmps[15]?.getD undef = .bool true := by rw [← Array.getD_eq_getD_getElem?]; exact v1
        clear v1
        clear hd hf
        replace hK : ∀ w', (fun wz => Below w.heap.size w wz) w' → K (az.put (some 18) (.pointer (some ⟨b1, 3, none⟩))) w' := hK
        have HK := Lib.hid hK
        clear hK
        show if Region.wanted _ (yielded _ az.tmps) = true then Oper.wp _ _ az wz K _ else _
        go_simp
        exact HK.out _ hR
      · simp only [List.getElem?_toArray, List.getElem?_cons_zero, List.getElem?_cons_succ, Option.some.injEq] at ho
        subst ho
        have v0 : az.eval (.tmp 18) = .pointer (some ⟨b1, 3, none⟩) := hd 4 18 (by kernel_rfl) (by kernel_rfl)
        have u0 : az.tmps[18]?.getD undef = .pointer (some ⟨b1, 3, none⟩) := by rw [← Array.getD_eq_getD_getElem?]; exact v0
        clear v0
        have v1 : az.eval (.tmp 15) = .bool true := hd 1 15 (by kernel_rfl) (by kernel_rfl)
        have g1 := tmp_bool v1
        have u1 : az.tmps[15]?.getD undef = .bool true := by rw [← Array.getD_eq_getD_getElem?]; exact v1
        clear v1
        clear hd hf
        replace hK : ∀ w', (fun wz => Below w.heap.size w wz) w' → K (az.put (some 19) (.int .u8 (k1 : Nat))) w' := hK
        have HK := Lib.hid hK
        clear hK
        have c3 := (hcell ((hR.block _ (heap_lt HA.out)).trans HA.out) 3 _ rfl).1
        show if Region.wanted _ (yielded _ az.tmps) = true then Oper.wp _ _ az wz K _ else _
        go_simp
        exact HK.out _ hR
      · simp only [List.getElem?_toArray, List.getElem?_cons_zero, List.getElem?_cons_succ, Option.some.injEq] at ho
        subst ho
        have v0 : az.eval (.tmp 7) = .pointer (some ⟨b2, 0, none⟩) := (hf 7 (by kernel_rfl)).trans (by kernel_rfl)
        have u0 : az.tmps[7]?.getD undef = .pointer (some ⟨b2, 0, none⟩) := by rw [← Array.getD_eq_getD_getElem?]; exact v0
        clear v0
        have v1 : az.eval (.tmp 15) = .bool true := hd 1 15 (by kernel_rfl) (by kernel_rfl)
        have g1 := tmp_bool v1
        have u1 : az.tmps[15]?.getD undef = .bool true := by rw [← Array.getD_eq_getD_getElem?]; exact v1
        clear v1
        clear hd hf
        replace hK : ∀ w', (fun wz => Below w.heap.size w wz) w' → K (az.put (some 20) (.pointer (some ⟨b2, 0, none⟩))) w' := hK
        have HK := Lib.hid hK
        clear hK
        show if Region.wanted _ (yielded _ az.tmps) = true then Oper.wp _ _ az wz K _ else _
        go_simp
        exact HK.out _ hR
      · simp only [List.getElem?_toArray, List.getElem?_cons_zero, List.getElem?_cons_succ, Option.some.injEq] at ho
        subst ho
        have v0 : az.eval (.tmp 20) = .pointer (some ⟨b2, 0, none⟩) := hd 6 20 (by kernel_rfl) (by kernel_rfl)
        have u0 : az.tmps[20]?.getD undef = .pointer (some ⟨b2, 0, none⟩) := by rw [← Array.getD_eq_getD_getElem?]; exact v0
        clear v0
        have v1 : az.eval (.tmp 15) = .bool true := hd 1 15 (by kernel_rfl) (by kernel_rfl)
        have g1 := tmp_bool v1
        have u1 : az.tmps[15]?.getD undef = .bool true := by rw [← Array.getD_eq_getD_getElem?]; exact v1
        clear v1
        clear hd hf
        replace hK : ∀ w', (fun wz => Below w.heap.size w wz) w' → K (az.put (some 21) (.pointer (some ⟨b2, 0, none⟩))) w' := hK
        have HK := Lib.hid hK
        clear hK
        show if Region.wanted _ (yielded _ az.tmps) = true then Oper.wp _ _ az wz K _ else _
        go_simp
        exact HK.out _ hR
      · simp only [List.getElem?_toArray, List.getElem?_cons_zero, List.getElem?_cons_succ, Option.some.injEq] at ho
        subst ho
        have v0 : az.eval (.tmp 21) = .pointer (some ⟨b2, 0, none⟩) := hd 7 21 (by kernel_rfl) (by kernel_rfl)
        have u0 : az.tmps[21]?.getD undef = .pointer (some ⟨b2, 0, none⟩) := by rw [← Array.getD_eq_getD_getElem?]; exact v0
        clear v0
        have v1 : az.eval (.tmp 15) = .bool true := hd 1 15 (by kernel_rfl) (by kernel_rfl)
        have g1 := tmp_bool v1
        have u1 : az.tmps[15]?.getD undef = .bool true := by rw [← Array.getD_eq_getD_getElem?]; exact v1
        clear v1
        clear hd hf
        replace hK : ∀ w', (fun wz => Below w.heap.size w wz) w' → K (az.put (some 22) (.pointer (some ⟨b2, 3, none⟩))) w' := hK
        have HK := Lib.hid hK
        clear hK
        show if Region.wanted _ (yielded _ az.tmps) = true then Oper.wp _ _ az wz K _ else _
        go_simp
        exact HK.out _ hR
      · simp only [List.getElem?_toArray, List.getElem?_cons_zero, List.getElem?_cons_succ, Option.some.injEq] at ho
        subst ho
        have v0 : az.eval (.tmp 22) = .pointer (some ⟨b2, 3, none⟩) := hd 8 22 (by kernel_rfl) (by kernel_rfl)
        have u0 : az.tmps[22]?.getD undef = .pointer (some ⟨b2, 3, none⟩) := by rw [← Array.getD_eq_getD_getElem?]; exact v0
        clear v0
        have v1 : az.eval (.tmp 15) = .bool true := hd 1 15 (by kernel_rfl) (by kernel_rfl)
        have g1 := tmp_bool v1
        have u1 : az.tmps[15]?.getD undef = .bool true := by rw [← Array.getD_eq_getD_getElem?]; exact v1
        clear v1
        clear hd hf
        replace hK : ∀ w', (fun wz => Below w.heap.size w wz) w' → K (az.put (some 23) (.int .u8 (k2 : Nat))) w' := hK
        have HK := Lib.hid hK
        clear hK
        have c3 := (hcell ((hR.block _ (heap_lt HB.out)).trans HB.out) 3 _ rfl).1
        show if Region.wanted _ (yielded _ az.tmps) = true then Oper.wp _ _ az wz K _ else _
        go_simp
        exact HK.out _ hR
      · simp only [List.getElem?_toArray, List.getElem?_cons_zero, List.getElem?_cons_succ, Option.some.injEq] at ho
        subst ho
        have v0 : az.eval (.tmp 19) = .int .u8 (k1 : Nat) := hd 5 19 (by kernel_rfl) (by kernel_rfl)
        have u0 : az.tmps[19]?.getD undef = .int .u8 (k1 : Nat) := by rw [← Array.getD_eq_getD_getElem?]; exact v0
        clear v0
        have v1 : az.eval (.tmp 23) = .int .u8 (k2 : Nat) := hd 9 23 (by kernel_rfl) (by kernel_rfl)
        have u1 : az.tmps[23]?.getD undef = .int .u8 (k2 : Nat) := by rw [← Array.getD_eq_getD_getElem?]; exact v1
        clear v1
        have v2 : az.eval (.tmp 15) = .bool true := hd 1 15 (by kernel_rfl) (by kernel_rfl)
        have g2 := tmp_bool v2
        have u2 : az.tmps[15]?.getD undef = .bool true := by rw [← Array.getD_eq_getD_getElem?]; exact v2
        clear v2
        clear hd hf
        replace hK : ∀ w', (fun wz => Below w.heap.size w wz) w' → K (az.put (some 24) (.bool false)) w' := hK
        have HK := Lib.hid hK
        clear hK
        have g9 : ((k1 : Int) == (k2 : Int)) = false := by simp; omega
        show if Region.wanted _ (yielded _ az.tmps) = true then Oper.wp _ _ az wz K _ else _
        go_simp
        exact HK.out _ hR
      · simp only [List.getElem?_toArray, List.getElem?_cons_zero, List.getElem?_cons_succ, Option.some.injEq] at ho
        subst ho
        have v0 : az.eval (.tmp 15) = .bool true := hd 1 15 (by kernel_rfl) (by kernel_rfl)
        have u0 : az.tmps[15]?.getD undef = .bool true := by rw [← Array.getD_eq_getD_getElem?]; exact v0
        clear v0
        have v1 : az.eval (.tmp 24) = .bool false := hd 10 24 (by kernel_rfl) (by kernel_rfl)
        have u1 : az.tmps[24]?.getD undef = .bool false := by rw [← Array.getD_eq_getD_getElem?]; exact v1
        clear v1
        clear hd hf
        replace hK : ∀ w', (fun wz => Below w.heap.size w wz) w' → K (az.put (some 25) (.bool false)) w' := hK
        have HK := Lib.hid hK
        clear hK
        show if Region.wanted _ (yielded _ az.tmps) = true then Oper.wp _ _ az wz K _ else _
        go_simp
        exact HK.out _ hR
      · simp only [List.getElem?_toArray, List.getElem?_cons_zero, List.getElem?_cons_succ, Option.some.injEq] at ho
        subst ho
        have v0 : az.eval (.tmp 25) = .bool false := hd 11 25 (by kernel_rfl) (by kernel_rfl)
        have u0 : az.tmps[25]?.getD undef = .bool false := by rw [← Array.getD_eq_getD_getElem?]; exact v0
        clear v0
        clear hd hf
        replace hK : ∀ w', (fun wz => Below w.heap.size w wz) w' → K (az.put (some 26) (.bool false)) w' := hK
        have HK := Lib.hid hK
        clear hK
        show if Region.wanted _ (yielded _ az.tmps) = true then Oper.wp _ _ az wz K _ else _
        go_simp
        exact HK.out _ hR
      · simp only [List.getElem?_toArray, List.getElem?_cons_zero, List.getElem?_cons_succ, Option.some.injEq] at ho
        subst ho
        have v0 : az.eval (.tmp 0) = .pointer (some ⟨b1, 0, none⟩) := (hf 0 (by kernel_rfl)).trans (by kernel_rfl)
        have u0 : az.tmps[0]?.getD undef = .pointer (some ⟨b1, 0, none⟩) := by rw [← Array.getD_eq_getD_getElem?]; exact v0
        clear v0
        have v1 : az.eval (.tmp 26) = .bool false := hd 12 26 (by kernel_rfl) (by kernel_rfl)
        have g1 := tmp_bool v1
        have u1 : az.tmps[26]?.getD undef = .bool false := by rw [← Array.getD_eq_getD_getElem?]; exact v1
        clear v1
        clear hd hf
        replace hK : ∀ w', (fun wz => Below w.heap.size w wz) w' → K (az.put (some 27) (undef)) w' := hK
        have HK := Lib.hid hK
        clear hK
        show if Region.wanted _ (yielded _ az.tmps) = true then Oper.wp _ _ az wz K _ else _
        go_simp
        exact HK.out _ hR
      · simp only [List.getElem?_toArray, List.getElem?_cons_zero, List.getElem?_cons_succ, Option.some.injEq] at ho
        subst ho
        have v0 : az.eval (.tmp 27) = undef := hd 13 27 (by kernel_rfl) (by kernel_rfl)
        have u0 : az.tmps[27]?.getD undef = undef := by rw [← Array.getD_eq_getD_getElem?]; exact v0
        clear v0
        have v1 : az.eval (.tmp 26) = .bool false := hd 12 26 (by kernel_rfl) (by kernel_rfl)
        have g1 := tmp_bool v1
        have u1 : az.tmps[26]?.getD undef = .bool false := by rw [← Array.getD_eq_getD_getElem?]; exact v1
        clear v1
        clear hd hf
        replace hK : ∀ w', (fun wz => Below w.heap.size w wz) w' → K (az.put (some 28) (undef)) w' := hK
        have HK := Lib.hid hK
        clear hK
        show if Region.wanted _ (yielded _ az.tmps) = true then Oper.wp _ _ az wz K _ else _
        go_simp
        exact HK.out _ hR
      · simp only [List.getElem?_toArray, List.getElem?_cons_zero, List.getElem?_cons_succ, Option.some.injEq] at ho
        subst ho
        have v0 : az.eval (.tmp 28) = undef := hd 14 28 (by kernel_rfl) (by kernel_rfl)
        have u0 : az.tmps[28]?.getD undef = undef := by rw [← Array.getD_eq_getD_getElem?]; exact v0
        clear v0
        have v1 : az.eval (.tmp 26) = .bool false := hd 12 26 (by kernel_rfl) (by kernel_rfl)
        have g1 := tmp_bool v1
        have u1 : az.tmps[26]?.getD undef = .bool false := by rw [← Array.getD_eq_getD_getElem?]; exact v1
        clear v1
        clear hd hf
        replace hK : ∀ w', (fun wz => Below w.heap.size w wz) w' → K (az.put (some 29) (undef)) w' := hK
        have HK := Lib.hid hK
        clear hK
        show if Region.wanted _ (yielded _ az.tmps) = true then Oper.wp _ _ az wz K _ else _
        go_simp
        exact HK.out _ hR
      · simp only [List.getElem?_toArray, List.getElem?_cons_zero, List.getElem?_cons_succ, Option.some.injEq] at ho
        subst ho
        have v0 : az.eval (.tmp 29) = undef := hd 15 29 (by kernel_rfl) (by kernel_rfl)
        have u0 : az.tmps[29]?.getD undef = undef := by rw [← Array.getD_eq_getD_getElem?]; exact v0
        clear v0
        have v1 : az.eval (.tmp 26) = .bool false := hd 12 26 (by kernel_rfl) (by kernel_rfl)
        have g1 := tmp_bool v1
        have u1 : az.tmps[26]?.getD undef = .bool false := by rw [← Array.getD_eq_getD_getElem?]; exact v1
        clear v1
        clear hd hf
        replace hK : ∀ w', (fun wz => Below w.heap.size w wz) w' → K (az.put (some 30) (undef)) w' := hK
        have HK := Lib.hid hK
        clear hK
        show if Region.wanted _ (yielded _ az.tmps) = true then Oper.wp _ _ az wz K _ else _
        go_simp
        exact HK.out _ hR
      · simp only [List.getElem?_toArray, List.getElem?_cons_zero, List.getElem?_cons_succ, Option.some.injEq] at ho
        subst ho
        have v0 : az.eval (.tmp 7) = .pointer (some ⟨b2, 0, none⟩) := (hf 7 (by kernel_rfl)).trans (by kernel_rfl)
        have u0 : az.tmps[7]?.getD undef = .pointer (some ⟨b2, 0, none⟩) := by rw [← Array.getD_eq_getD_getElem?]; exact v0
        clear v0
        have v1 : az.eval (.tmp 26) = .bool false := hd 12 26 (by kernel_rfl) (by kernel_rfl)
        have g1 := tmp_bool v1
        have u1 : az.tmps[26]?.getD undef = .bool false := by rw [← Array.getD_eq_getD_getElem?]; exact v1
        clear v1
        clear hd hf
        replace hK : ∀ w', (fun wz => Below w.heap.size w wz) w' → K (az.put (some 31) (undef)) w' := hK
        have HK := Lib.hid hK
        clear hK
        show if Region.wanted _ (yielded _ az.tmps) = true then Oper.wp _ _ az wz K _ else _
        go_simp
        exact HK.out _ hR
      · simp only [List.getElem?_toArray, List.getElem?_cons_zero, List.getElem?_cons_succ, Option.some.injEq] at ho
        subst ho
        have v0 : az.eval (.tmp 31) = undef := hd 17 31 (by kernel_rfl) (by kernel_rfl)
        have u0 : az.tmps[31]?.getD undef = undef := by rw [← Array.getD_eq_getD_getElem?]; exact v0
        clear v0
        have v1 : az.eval (.tmp 26) = .bool false := hd 12 26 (by kernel_rfl) (by kernel_rfl)
        have g1 := tmp_bool v1
        have u1 : az.tmps[26]?.getD undef = .bool false := by rw [← Array.getD_eq_getD_getElem?]; exact v1
        clear v1
        clear hd hf
        replace hK : ∀ w', (fun wz => Below w.heap.size w wz) w' → K (az.put (some 32) (undef)) w' := hK
        have HK := Lib.hid hK
        clear hK
        show if Region.wanted _ (yielded _ az.tmps) = true then Oper.wp _ _ az wz K _ else _
        go_simp
        exact HK.out _ hR
      · simp only [List.getElem?_toArray, List.getElem?_cons_zero, List.getElem?_cons_succ, Option.some.injEq] at ho
        subst ho
        have v0 : az.eval (.tmp 32) = undef := hd 18 32 (by kernel_rfl) (by kernel_rfl)
        have u0 : az.tmps[32]?.getD undef = undef := by rw [← Array.getD_eq_getD_getElem?]; exact v0
        clear v0
        have v1 : az.eval (.tmp 26) = .bool false := hd 12 26 (by kernel_rfl) (by kernel_rfl)
        have g1 := tmp_bool v1
        have u1 : az.tmps[26]?.getD undef = .bool false := by rw [← Array.getD_eq_getD_getElem?]; exact v1
        clear v1
        clear hd hf
        replace hK : ∀ w', (fun wz => Below w.heap.size w wz) w' → K (az.put (some 33) (undef)) w' := hK
        have HK := Lib.hid hK
        clear hK
        show if Region.wanted _ (yielded _ az.tmps) = true then Oper.wp _ _ az wz K _ else _
        go_simp
        exact HK.out _ hR
      · simp only [List.getElem?_toArray, List.getElem?_cons_zero, List.getElem?_cons_succ, Option.some.injEq] at ho
        subst ho
        have v0 : az.eval (.tmp 33) = undef := hd 19 33 (by kernel_rfl) (by kernel_rfl)
        have u0 : az.tmps[33]?.getD undef = undef := by rw [← Array.getD_eq_getD_getElem?]; exact v0
        clear v0
        have v1 : az.eval (.tmp 26) = .bool false := hd 12 26 (by kernel_rfl) (by kernel_rfl)
        have g1 := tmp_bool v1
        have u1 : az.tmps[26]?.getD undef = .bool false := by rw [← Array.getD_eq_getD_getElem?]; exact v1
        clear v1
        clear hd hf
        replace hK : ∀ w', (fun wz => Below w.heap.size w wz) w' → K (az.put (some 34) (undef)) w' := hK
        have HK := Lib.hid hK
        clear hK
        show if Region.wanted _ (yielded _ az.tmps) = true then Oper.wp _ _ az wz K _ else _
        go_simp
        exact HK.out _ hR
      · simp only [List.getElem?_toArray, List.getElem?_cons_zero, List.getElem?_cons_succ, Option.some.injEq] at ho
        subst ho
        have v0 : az.eval (.tmp 30) = undef := hd 16 30 (by kernel_rfl) (by kernel_rfl)
        have u0 : az.tmps[30]?.getD undef = undef := by rw [← Array.getD_eq_getD_getElem?]; exact v0
        clear v0
        have v1 : az.eval (.tmp 34) = undef := hd 20 34 (by kernel_rfl) (by kernel_rfl)
        have u1 : az.tmps[34]?.getD undef = undef := by rw [← Array.getD_eq_getD_getElem?]; exact v1
        clear v1
        have v2 : az.eval (.tmp 26) = .bool false := hd 12 26 (by kernel_rfl) (by kernel_rfl)
        have g2 := tmp_bool v2
        have u2 : az.tmps[26]?.getD undef = .bool false := by rw [← Array.getD_eq_getD_getElem?]; exact v2
        clear v2
        clear hd hf
        replace hK : ∀ w', (fun wz => Below w.heap.size w wz) w' → K (az.put (some 35) (undef)) w' := hK
        have HK := Lib.hid hK
        clear hK
        show if Region.wanted _ (yielded _ az.tmps) = true then Oper.wp _ _ az wz K _ else _
        go_simp
        exact HK.out _ hR
      · simp only [List.getElem?_toArray, List.getElem?_cons_zero, List.getElem?_cons_succ, Option.some.injEq] at ho
        subst ho
        have v0 : az.eval (.tmp 26) = .bool false := hd 12 26 (by kernel_rfl) (by kernel_rfl)
        have u0 : az.tmps[26]?.getD undef = .bool false := by rw [← Array.getD_eq_getD_getElem?]; exact v0
        clear v0
        have v1 : az.eval (.tmp 35) = undef := hd 21 35 (by kernel_rfl) (by kernel_rfl)
        have u1 : az.tmps[35]?.getD undef = undef := by rw [← Array.getD_eq_getD_getElem?]; exact v1
        clear v1
        clear hd hf
        replace hK : ∀ w', (fun wz => Below w.heap.size w wz) w' → K (az.put (some 36) (.bool false)) w' := hK
        have HK := Lib.hid hK
        clear hK
        show if Region.wanted _ (yielded _ az.tmps) = true then Oper.wp _ _ az wz K _ else _
        go_simp
        exact HK.out _ hR
      · simp only [List.getElem?_toArray, List.getElem?_cons_zero, List.getElem?_cons_succ, Option.some.injEq] at ho
        subst ho
        have v0 : az.eval (.tmp 36) = .bool false := hd 22 36 (by kernel_rfl) (by kernel_rfl)
        have u0 : az.tmps[36]?.getD undef = .bool false := by rw [← Array.getD_eq_getD_getElem?]; exact v0
        clear v0
        clear hd hf
        replace hK : ∀ w', (fun wz => Below w.heap.size w wz) w' → K (az.put (some 37) (.bool false)) w' := hK
        have HK := Lib.hid hK
        clear hK
        show if Region.wanted _ (yielded _ az.tmps) = true then Oper.wp _ _ az wz K _ else _
        go_simp
        exact HK.out _ hR
      · simp only [List.getElem?_toArray, List.getElem?_cons_zero, List.getElem?_cons_succ, Option.some.injEq] at ho
        subst ho
        have v0 : az.eval (.tmp 0) = .pointer (some ⟨b1, 0, none⟩) := (hf 0 (by kernel_rfl)).trans (by kernel_rfl)
        have u0 : az.tmps[0]?.getD undef = .pointer (some ⟨b1, 0, none⟩) := by rw [← Array.getD_eq_getD_getElem?]; exact v0
        clear v0
        have v1 : az.eval (.tmp 37) = .bool false := hd 23 37 (by kernel_rfl) (by kernel_rfl)
        have g1 := tmp_bool v1
        have u1 : az.tmps[37]?.getD undef = .bool false := by rw [← Array.getD_eq_getD_getElem?]; exact v1
        clear v1
        clear hd hf
        replace hK : ∀ w', (fun wz => Below w.heap.size w wz) w' → K (az.put (some 38) (undef)) w' := hK
        have HK := Lib.hid hK
        clear hK
        show if Region.wanted _ (yielded _ az.tmps) = true then Oper.wp _ _ az wz K _ else _
        go_simp
        exact HK.out _ hR
      · simp only [List.getElem?_toArray, List.getElem?_cons_zero, List.getElem?_cons_succ, Option.some.injEq] at ho
        subst ho
        have v0 : az.eval (.tmp 38) = undef := hd 24 38 (by kernel_rfl) (by kernel_rfl)
        have u0 : az.tmps[38]?.getD undef = undef := by rw [← Array.getD_eq_getD_getElem?]; exact v0
        clear v0
        have v1 : az.eval (.tmp 37) = .bool false := hd 23 37 (by kernel_rfl) (by kernel_rfl)
        have g1 := tmp_bool v1
        have u1 : az.tmps[37]?.getD undef = .bool false := by rw [← Array.getD_eq_getD_getElem?]; exact v1
        clear v1
        clear hd hf
        replace hK : ∀ w', (fun wz => Below w.heap.size w wz) w' → K (az.put (some 39) (undef)) w' := hK
        have HK := Lib.hid hK
        clear hK
        show if Region.wanted _ (yielded _ az.tmps) = true then Oper.wp _ _ az wz K _ else _
        go_simp
        exact HK.out _ hR
      · simp only [List.getElem?_toArray, List.getElem?_cons_zero, List.getElem?_cons_succ, Option.some.injEq] at ho
        subst ho
        have v0 : az.eval (.tmp 39) = undef := hd 25 39 (by kernel_rfl) (by kernel_rfl)
        have u0 : az.tmps[39]?.getD undef = undef := by rw [← Array.getD_eq_getD_getElem?]; exact v0
        clear v0
        have v1 : az.eval (.tmp 37) = .bool false := hd 23 37 (by kernel_rfl) (by kernel_rfl)
        have g1 := tmp_bool v1
        have u1 : az.tmps[37]?.getD undef = .bool false := by rw [← Array.getD_eq_getD_getElem?]; exact v1
        clear v1
        clear hd hf
        replace hK : ∀ w', (fun wz => Below w.heap.size w wz) w' → K (az.put (some 40) (undef)) w' := hK
        have HK := Lib.hid hK
        clear hK
        show if Region.wanted _ (yielded _ az.tmps) = true then Oper.wp _ _ az wz K _ else _
        go_simp
        exact HK.out _ hR
      · simp only [List.getElem?_toArray, List.getElem?_cons_zero, List.getElem?_cons_succ, Option.some.injEq] at ho
        subst ho
        have v0 : az.eval (.tmp 40) = undef := hd 26 40 (by kernel_rfl) (by kernel_rfl)
        have u0 : az.tmps[40]?.getD undef = undef := by rw [← Array.getD_eq_getD_getElem?]; exact v0
        clear v0
        have v1 : az.eval (.tmp 37) = .bool false := hd 23 37 (by kernel_rfl) (by kernel_rfl)
        have g1 := tmp_bool v1
        have u1 : az.tmps[37]?.getD undef = .bool false := by rw [← Array.getD_eq_getD_getElem?]; exact v1
        clear v1
        clear hd hf
        replace hK : ∀ w', (fun wz => Below w.heap.size w wz) w' → K (az.put (some 41) (undef)) w' := hK
        have HK := Lib.hid hK
        clear hK
        show if Region.wanted _ (yielded _ az.tmps) = true then Oper.wp _ _ az wz K _ else _
        go_simp
        exact HK.out _ hR
      · simp only [List.getElem?_toArray, List.getElem?_cons_zero, List.getElem?_cons_succ, Option.some.injEq] at ho
        subst ho
        have v0 : az.eval (.tmp 7) = .pointer (some ⟨b2, 0, none⟩) := (hf 7 (by kernel_rfl)).trans (by kernel_rfl)
        have u0 : az.tmps[7]?.getD undef = .pointer (some ⟨b2, 0, none⟩) := by rw [← Array.getD_eq_getD_getElem?]; exact v0
        clear v0
        have v1 : az.eval (.tmp 37) = .bool false := hd 23 37 (by kernel_rfl) (by kernel_rfl)
        have g1 := tmp_bool v1
        have u1 : az.tmps[37]?.getD undef = .bool false := by rw [← Array.getD_eq_getD_getElem?]; exact v1
        clear v1
        clear hd hf
        replace hK : ∀ w', (fun wz => Below w.heap.size w wz) w' → K (az.put (some 42) (undef)) w' := hK
        have HK := Lib.hid hK
        clear hK
        show if Region.wanted _ (yielded _ az.tmps) = true then Oper.wp _ _ az wz K _ else _
        go_simp
        exact HK.out _ hR
      · simp only [List.getElem?_toArray, List.getElem?_cons_zero, List.getElem?_cons_succ, Option.some.injEq] at ho
        subst ho
        have v0 : az.eval (.tmp 42) = undef := hd 28 42 (by kernel_rfl) (by kernel_rfl)
        have u0 : az.tmps[42]?.getD undef = undef := by rw [← Array.getD_eq_getD_getElem?]; exact v0
        clear v0
        have v1 : az.eval (.tmp 37) = .bool false := hd 23 37 (by kernel_rfl) (by kernel_rfl)
        have g1 := tmp_bool v1
        have u1 : az.tmps[37]?.getD undef = .bool false := by rw [← Array.getD_eq_getD_getElem?]; exact v1
        clear v1
        clear hd hf
        replace hK : ∀ w', (fun wz => Below w.heap.size w wz) w' → K (az.put (some 43) (undef)) w' := hK
        have HK := Lib.hid hK
        clear hK
        show if Region.wanted _ (yielded _ az.tmps) = true then Oper.wp _ _ az wz K _ else _
        go_simp
        exact HK.out _ hR
      · simp only [List.getElem?_toArray, List.getElem?_cons_zero, List.getElem?_cons_succ, Option.some.injEq] at ho
        subst ho
        have v0 : az.eval (.tmp 43) = undef := hd 29 43 (by kernel_rfl) (by kernel_rfl)
        have u0 : az.tmps[43]?.getD undef = undef := by rw [← Array.getD_eq_getD_getElem?]; exact v0
        clear v0
        have v1 : az.eval (.tmp 37) = .bool false := hd 23 37 (by kernel_rfl) (by kernel_rfl)
        have g1 := tmp_bool v1
        have u1 : az.tmps[37]?.getD undef = .bool false := by rw [← Array.getD_eq_getD_getElem?]; exact v1
        clear v1
        clear hd hf
        replace hK : ∀ w', (fun wz => Below w.heap.size w wz) w' → K (az.put (some 44) (undef)) w' := hK
        have HK := Lib.hid hK
        clear hK
        show if Region.wanted _ (yielded _ az.tmps) = true then Oper.wp _ _ az wz K _ else _
        go_simp
        exact HK.out _ hR
      · simp only [List.getElem?_toArray, List.getElem?_cons_zero, List.getElem?_cons_succ, Option.some.injEq] at ho
        subst ho
        have v0 : az.eval (.tmp 44) = undef := hd 30 44 (by kernel_rfl) (by kernel_rfl)
        have u0 : az.tmps[44]?.getD undef = undef := by rw [← Array.getD_eq_getD_getElem?]; exact v0
        clear v0
        have v1 : az.eval (.tmp 37) = .bool false := hd 23 37 (by kernel_rfl) (by kernel_rfl)
        have g1 := tmp_bool v1
        have u1 : az.tmps[37]?.getD undef = .bool false := by rw [← Array.getD_eq_getD_getElem?]; exact v1
        clear v1
        clear hd hf
        replace hK : ∀ w', (fun wz => Below w.heap.size w wz) w' → K (az.put (some 45) (undef)) w' := hK
        have HK := Lib.hid hK
        clear hK
        show if Region.wanted _ (yielded _ az.tmps) = true then Oper.wp _ _ az wz K _ else _
        go_simp
        exact HK.out _ hR
      · simp only [List.getElem?_toArray, List.getElem?_cons_zero, List.getElem?_cons_succ, Option.some.injEq] at ho
        subst ho
        have v0 : az.eval (.tmp 2) = v := (hf 2 (by kernel_rfl)).trans (by kernel_rfl)
        have u0 : az.tmps[2]?.getD undef = v := by rw [← Array.getD_eq_getD_getElem?]; exact v0
        clear v0
        have v1 : az.eval (.tmp 37) = .bool false := hd 23 37 (by kernel_rfl) (by kernel_rfl)
        have g1 := tmp_bool v1
        have u1 : az.tmps[37]?.getD undef = .bool false := by rw [← Array.getD_eq_getD_getElem?]; exact v1
        clear v1
        clear hd hf
        replace hK : ∀ w', (fun wz => Below w.heap.size w wz) w' → K (az.put (some 46) (undef)) w' := hK
        have HK := Lib.hid hK
        clear hK
        show if Region.wanted _ (yielded _ az.tmps) = true then Oper.wp _ _ az wz K _ else _
        go_simp
        exact HK.out _ hR
      · simp only [List.getElem?_toArray, List.getElem?_cons_zero, List.getElem?_cons_succ, Option.some.injEq] at ho
        subst ho
        have v0 : az.eval (.tmp 41) = undef := hd 27 41 (by kernel_rfl) (by kernel_rfl)
        have u0 : az.tmps[41]?.getD undef = undef := by rw [← Array.getD_eq_getD_getElem?]; exact v0
        clear v0
        have v1 : az.eval (.tmp 45) = undef := hd 31 45 (by kernel_rfl) (by kernel_rfl)
        have u1 : az.tmps[45]?.getD undef = undef := by rw [← Array.getD_eq_getD_getElem?]; exact v1
        clear v1
        have v2 : az.eval (.tmp 46) = undef := hd 32 46 (by kernel_rfl) (by kernel_rfl)
        have u2 : az.tmps[46]?.getD undef = undef := by rw [← Array.getD_eq_getD_getElem?]; exact v2
        clear v2
        have v3 : az.eval (.tmp 37) = .bool false := hd 23 37 (by kernel_rfl) (by kernel_rfl)
        have g3 := tmp_bool v3
        have u3 : az.tmps[37]?.getD undef = .bool false := by rw [← Array.getD_eq_getD_getElem?]; exact v3
        clear v3
        clear hd hf
        replace hK : ∀ w', (fun wz => Below w.heap.size w wz) w' → K (az.put (some 47) (undef)) w' := hK
        have HK := Lib.hid hK
        clear hK
        show if Region.wanted _ (yielded _ az.tmps) = true then Oper.wp _ _ az wz K _ else _
        go_simp
        exact HK.out _ hR
      · simp only [List.getElem?_toArray, List.getElem?_cons_zero, List.getElem?_cons_succ, Option.some.injEq] at ho
        subst ho
        have v0 : az.eval (.tmp 37) = .bool false := hd 23 37 (by kernel_rfl) (by kernel_rfl)
        have u0 : az.tmps[37]?.getD undef = .bool false := by rw [← Array.getD_eq_getD_getElem?]; exact v0
        clear v0
        have v1 : az.eval (.tmp 47) = undef := hd 33 47 (by kernel_rfl) (by kernel_rfl)
        have u1 : az.tmps[47]?.getD undef = undef := by rw [← Array.getD_eq_getD_getElem?]; exact v1
        clear v1
        clear hd hf
        replace hK : ∀ w', (fun wz => Below w.heap.size w wz) w' → K (az.put (some 48) (.bool false)) w' := hK
        have HK := Lib.hid hK
        clear hK
        show if Region.wanted _ (yielded _ az.tmps) = true then Oper.wp _ _ az wz K _ else _
        go_simp
        exact HK.out _ hR
      · simp only [List.getElem?_toArray, List.getElem?_cons_zero, List.getElem?_cons_succ, Option.some.injEq] at ho
        subst ho
        have v0 : az.eval (.tmp 48) = .bool false := hd 34 48 (by kernel_rfl) (by kernel_rfl)
        have u0 : az.tmps[48]?.getD undef = .bool false := by rw [← Array.getD_eq_getD_getElem?]; exact v0
        clear v0
        clear hd hf
        replace hK : ∀ w', (fun wz => Below w.heap.size w wz) w' → K (az.put (some 6) (.bool false)) w' := hK
        have HK := Lib.hid hK
        clear hK
        show if Region.wanted _ (yielded _ az.tmps) = true then Oper.wp _ _ az wz K _ else _
        go_simp
        exact HK.out _ hR
    case h0n => exact (Below.refl _ _).drew
    case hendn =>
      intro wz hR
      have HR := hid hR
      clear hR
      simp only [List.foldl_cons, List.foldl_nil, Act.put, List.setIfInBounds_toArray, List.set_cons_zero, List.set_cons_succ]
      go_wp2_with fail
      go_ret
      refine ⟨?_, HR.out⟩
      have e : ¬ (k1 = k2 ∧ im1 = im2) := fun e => HK0.out e.1
      simp [e]
theorem eok : EqOK SubT where
  h := by
    rintro w P1 P2 c1 c2 k1 k2 (⟨rfl, b1, e0, e1, e2, hp, hb, hh⟩ | ⟨e1, e2, b1, q1, s1, im1, e0, hp, hb, hh, hk, hm, hr⟩) (⟨rfl, b2, f0, f1, f2, hp2, hb2, hh2⟩ | ⟨f1, f2, b2, q2, s2, im2, f0, hp2, hb2, hh2, hk2, hm2, hr2⟩)
    · exact ⟨107, b1, 107, b2, e0, e1, e2, f0, f1, f2, Or.inl ⟨rfl, fun v w' hB => (e64t b1 b2 v w' ((hB.block b1 hb).trans hh) ((hB.block b2 hb2).trans hh2)).mono fun e w2 h => ⟨by simpa using h.1, h.2⟩⟩⟩
    · refine ⟨107, b1, 98, b2, e0, e1, e2, f0, f1, f2, Or.inl ⟨rfl, fun v w' hB => (e64f ⟨b1, 0, none⟩ (.pointer (some ⟨b2, 0, none⟩)) v w').mono fun e w2 h => ⟨?_, h.2⟩⟩⟩
      have : ¬ 0 = k2 := by rcases hm2 with ⟨rfl, _⟩ | ⟨rfl, _⟩ <;> omega
      simpa [this] using h.1
    · refine ⟨98, b1, 107, b2, e0, e1, e2, f0, f1, f2, Or.inr ⟨rfl, fun v w' hB => (e59f ⟨b1, 0, none⟩ (.pointer (some ⟨b2, 0, none⟩)) v w').mono fun e w2 h => ⟨?_, h.2⟩⟩⟩
      have : ¬ k1 = 0 := by rcases hm with ⟨rfl, _⟩ | ⟨rfl, _⟩ <;> omega
      simpa [this] using h.1
    · refine ⟨98, b1, 98, b2, e0, e1, e2, f0, f1, f2, Or.inr ⟨rfl, fun v w' hB => ?_⟩⟩
      have gd : ∀ (k q : Nat) (im : Rl), (k = 256 + q ∧ im = []) ∨ (k = 512 + q ∧ im = [[[0]]]) → Good im := fun k q im h => by
        rcases h with ⟨_, rfl⟩ | ⟨_, rfl⟩
        · exact ⟨by simp, by simp⟩
        · exact ⟨by simp, by simp [GoodC]⟩
      have e : decide (k1 = k2) = decide (q1 = q2 ∧ im1 = im2) := by
        rw [decide_eq_decide]
        rcases hm with ⟨rfl, rfl⟩ | ⟨rfl, rfl⟩ <;> rcases hm2 with ⟨rfl, rfl⟩ | ⟨rfl, rfl⟩ <;> simp <;> omega
      rw [e]
      exact e59t b1 b2 q1 q2 im1 im2 s1 s2 v P1 P2 w' (gd _ _ _ hm) (gd _ _ _ hm2) ((hB.block b1 hb).trans hh) ((hB.block b2 hb2).trans hh2) (hr.below hB) (hr2.below hB)
end Go.Proofs.Ytphimfimnakclaa
