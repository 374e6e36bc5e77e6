/-
  Equal of rules. Conditions: each theorem's own.
-/
import Derived.Test.YtphimfimnakclaaQx
namespace Go.Proofs.Ytphimfimnakclaa
open Go.RowKit Go.Lib
theorem as63 (v : Value) (w : World) : (Instr.typeAssert (.iface 63 v) 45 63 true).run Try.prog w = .ok (.tuple #[v, .bool true]) w := by kernel_rfl
theorem meqR (v : Value) (w : World) : (method (Try.prog.types.size + Made.depth) 63 v "Equal").run Try.prog w = .ok (46, v) w := by kernel_rfl
theorem mhaR (v : Value) (w : World) : (method (Try.prog.types.size + Made.depth) 63 v "Hash").run Try.prog w = .ok (47, v) w := by kernel_rfl
set_option maxHeartbeats 16000000 in
set_option maxRecDepth 100000 in
/-- two rules compare as their models do -/
theorem er46 (b1 b2 : Nat) (r1 r2 : Rl) (s1 s2 v : Value) (P1 P2 : Nat → Prop) (w : World) (hg1 : Good r1) (hg2 : Good r2) (h1 : w.heap[b1]? = some (.cells #[s1, .slice none 0 0, .int .i32 0] 67 (0, 0))) (h2 : w.heap[b2]? = some (.cells #[s2, .slice none 0 0, .int .i32 0] 67 (0, 0))) (hr1 : RowL (CxT SubT) w P1 s1 r1) (hr2 : RowL (CxT SubT) w P2 s2 r2) :
    Calls Try.prog 46 #[.pointer (some ⟨b1, 0, none⟩), ifc 63 b2, v] w fun e w' => DdR (decide (r1 = r2)) w e w' := by
  obtain ⟨sa1, sc1, rfl, _⟩ := id hr1
  obtain ⟨sa2, sc2, rfl, _⟩ := id hr2
  have ta := as63
  have HA := hid h1
  have HB := hid h2
  have HG := hid (And.intro hg1 hg2)
  have HROW := hid (And.intro hr1 hr2)
  clear h1 h2 hg1 hg2 hr1 hr2
  obtain ⟨d, hdd⟩ : ∃ d, decide (r1 = r2) = d := ⟨_, rfl⟩
  rw [hdd]
  have HDD := hid hdd
  clear hdd
  cases d
  · go_enter Try.func46, Try.ntmps46
    go_wp2_with fail
    refine wp_region_rel [(some 14, .bool true), (some 15, .bool true), (some 16, .pointer (some ⟨b1, 0, none⟩)), (some 17, .pointer (some ⟨b1, 0, none⟩)), (some 18, .pointer (some ⟨b1, 0, none⟩)), (some 19, .slice sa1 r1.length sc1), (some 20, .pointer (some ⟨b2, 0, none⟩)), (some 21, .pointer (some ⟨b2, 0, none⟩)), (some 22, .pointer (some ⟨b2, 0, none⟩)), (some 23, .slice sa2 r2.length sc2), (some 24, v), (some 25, .bool false), (some 26, .bool false), (some 27, .bool false), (some 28, undef), (some 29, undef), (some 30, undef), (some 31, undef), (some 32, undef), (some 33, undef), (some 34, undef), (some 35, undef), (some 36, undef), (some 37, undef), (some 38, .bool false), (some 6, .bool false)] (fun wz => Below w.heap.size w wz) 39 (by kernel_rfl) (by kernel_rfl) (by kernel_rfl) (by kernel_rfl) ?h0n (by kernel_rfl) ?hopn ?hendn
    case hopn =>
      intro i o az wz ho hR hd hf K hK
      have hin : i = 0 ∨ i = 1 ∨ i = 2 ∨ i = 3 ∨ i = 4 ∨ i = 5 ∨ i = 6 ∨ i = 7 ∨ i = 8 ∨ i = 9 ∨ i = 10 ∨ i = 11 ∨ i = 12 ∨ i = 13 ∨ i = 14 ∨ i = 15 ∨ i = 16 ∨ i = 17 ∨ i = 18 ∨ i = 19 ∨ i = 20 ∨ i = 21 ∨ i = 22 ∨ i = 23 ∨ i = 24 ∨ i = 25 := by
        rcases Nat.lt_or_ge i 26 with h | h
        · omega
        · rw [Array.getElem?_eq_none h] at ho
          cases ho
      rcases hin with rfl | rfl | rfl | rfl | rfl | rfl | rfl | rfl | rfl | rfl | rfl | rfl | rfl | rfl | rfl | rfl | rfl | rfl | rfl | rfl | rfl | rfl | rfl | rfl | rfl | rfl
      · simp only [List.getElem?_toArray, List.getElem?_cons_zero, Option.some.injEq] at ho
        subst ho
        have v0 : az.eval (.tmp 8) = .bool true := (hf 8 (by kernel_rfl)).trans (by kernel_rfl)
        have u0 : az.tmps[8]?.getD undef = .bool true := by rw [← Array.getD_eq_getD_getElem?]; exact v0
        clear v0
        clear hd hf
        replace hK : ∀ w', (fun wz => Below w.heap.size w wz) w' → K (az.put (some 14) (.bool true)) w' := hK
        have HK := Lib.hid hK
        clear hK
        show if Region.wanted _ (yielded _ az.tmps) = true then Oper.wp _ _ az wz K _ else _
        go_simp
        exact HK.out _ hR
      · simp only [List.getElem?_toArray, List.getElem?_cons_zero, List.getElem?_cons_succ, Option.some.injEq] at ho
        subst ho
        have v0 : az.eval (.tmp 14) = .bool true := hd 0 14 (by kernel_rfl) (by kernel_rfl)
        have u0 : az.tmps[14]?.getD undef = .bool true := by rw [← Array.getD_eq_getD_getElem?]; exact v0
        clear v0
        clear hd hf
        replace hK : ∀ w', (fun wz => Below w.heap.size w wz) w' → K (az.put (some 15) (.bool true)) w' := hK
        have HK := Lib.hid hK
        clear hK
        show if Region.wanted _ (yielded _ az.tmps) = true then Oper.wp _ _ az wz K _ else _
        go_simp
        exact HK.out _ hR
      · simp only [List.getElem?_toArray, List.getElem?_cons_zero, List.getElem?_cons_succ, Option.some.injEq] at ho
        subst ho
        have v0 : az.eval (.tmp 0) = .pointer (some ⟨b1, 0, none⟩) := (hf 0 (by kernel_rfl)).trans (by kernel_rfl)
        have u0 : az.tmps[0]?.getD undef = .pointer (some ⟨b1, 0, none⟩) := by rw [← Array.getD_eq_getD_getElem?]; exact v0
        clear v0
        have v1 : az.eval (.tmp 15) = .bool true := hd 1 15 (by kernel_rfl) (by kernel_rfl)
        have g1 := tmp_bool v1
        have u1 : az.tmps[15]?.getD undef = .bool true := by rw [← Array.getD_eq_getD_getElem?]; exact v1
        clear v1
        clear hd hf
        replace hK : ∀ w', (fun wz => Below w.heap.size w wz) w' → K (az.put (some 16) (.pointer (some ⟨b1, 0, none⟩))) w' := hK
        have HK := Lib.hid hK
        clear hK
        show if Region.wanted _ (yielded _ az.tmps) = true then Oper.wp _ _ az wz K _ else _
        go_simp
        exact HK.out _ hR
      · simp only [List.getElem?_toArray, List.getElem?_cons_zero, List.getElem?_cons_succ, Option.some.injEq] at ho
        subst ho
        have v0 : az.eval (.tmp 16) = .pointer (some ⟨b1, 0, none⟩) := hd 2 16 (by kernel_rfl) (by kernel_rfl)
        have u0 : az.tmps[16]?.getD undef = .pointer (some ⟨b1, 0, none⟩) := by rw [← Array.getD_eq_getD_getElem?]; exact v0
        clear v0
        have v1 : az.eval (.tmp 15) = .bool true := hd 1 15 (by kernel_rfl) (by kernel_rfl)
        have g1 := tmp_bool v1
        have u1 : az.tmps[15]?.getD undef = .bool true := by rw [← Array.getD_eq_getD_getElem?]; exact v1
        clear v1
        clear hd hf
        replace hK : ∀ w', (fun wz => Below w.heap.size w wz) w' → K (az.put (some 17) (.pointer (some ⟨b1, 0, none⟩))) w' := hK
        have HK := Lib.hid hK
        clear hK
        show if Region.wanted _ (yielded _ az.tmps) = true then Oper.wp _ _ az wz K _ else _
        go_simp
        exact HK.out _ hR
      · simp only [List.getElem?_toArray, List.getElem?_cons_zero, List.getElem?_cons_succ, Option.some.injEq] at ho
        subst ho
        have v0 : az.eval (.tmp 17) = .pointer (some ⟨b1, 0, none⟩) := hd 3 17 (by kernel_rfl) (by kernel_rfl)
        have u0 : az.tmps[17]?.getD undef = .pointer (some ⟨b1, 0, none⟩) := by rw [← Array.getD_eq_getD_getElem?]; exact v0
        clear v0
        have v1 : az.eval (.tmp 15) = .bool true := hd 1 15 (by kernel_rfl) (by kernel_rfl)
        have g1 := tmp_bool v1
        have u1 : az.tmps[15]?.getD undef = .bool true := by rw [← Array.getD_eq_getD_getElem?]; exact v1
        clear v1
        clear hd hf
        replace hK : ∀ w', (fun wz => Below w.heap.size w wz) w' → K (az.put (some 18) (.pointer (some ⟨b1, 0, none⟩))) w' := hK
        have HK := Lib.hid hK
        clear hK
        show if Region.wanted _ (yielded _ az.tmps) = true then Oper.wp _ _ az wz K _ else _
        go_simp
        exact HK.out _ hR
      · simp only [List.getElem?_toArray, List.getElem?_cons_zero, List.getElem?_cons_succ, Option.some.injEq] at ho
        subst ho
        have v0 : az.eval (.tmp 18) = .pointer (some ⟨b1, 0, none⟩) := hd 4 18 (by kernel_rfl) (by kernel_rfl)
        have u0 : az.tmps[18]?.getD undef = .pointer (some ⟨b1, 0, none⟩) := by rw [← Array.getD_eq_getD_getElem?]; exact v0
        clear v0
        have v1 : az.eval (.tmp 15) = .bool true := hd 1 15 (by kernel_rfl) (by kernel_rfl)
        have g1 := tmp_bool v1
        have u1 : az.tmps[15]?.getD undef = .bool true := by rw [← Array.getD_eq_getD_getElem?]; exact v1
        clear v1
        clear hd hf
        replace hK : ∀ w', (fun wz => Below w.heap.size w wz) w' → K (az.put (some 19) (.slice sa1 r1.length sc1)) w' := hK
        have HK := Lib.hid hK
        clear hK
        have c0 := (hcell ((hR.block _ (heap_lt HA.out)).trans HA.out) 0 _ rfl).1
        show if Region.wanted _ (yielded _ az.tmps) = true then Oper.wp _ _ az wz K _ else _
        go_simp
        exact HK.out _ hR
      · simp only [List.getElem?_toArray, List.getElem?_cons_zero, List.getElem?_cons_succ, Option.some.injEq] at ho
        subst ho
        have v0 : az.eval (.tmp 7) = .pointer (some ⟨b2, 0, none⟩) := (hf 7 (by kernel_rfl)).trans (by kernel_rfl)
        have u0 : az.tmps[7]?.getD undef = .pointer (some ⟨b2, 0, none⟩) := by rw [← Array.getD_eq_getD_getElem?]; exact v0
        clear v0
        have v1 : az.eval (.tmp 15) = .bool true := hd 1 15 (by kernel_rfl) (by kernel_rfl)
        have g1 := tmp_bool v1
        have u1 : az.tmps[15]?.getD undef = .bool true := by rw [← Array.getD_eq_getD_getElem?]; exact v1
        clear v1
        clear hd hf
        replace hK : ∀ w', (fun wz => Below w.heap.size w wz) w' → K (az.put (some 20) (.pointer (some ⟨b2, 0, none⟩))) w' := hK
        have HK := Lib.hid hK
        clear hK
        show if Region.wanted _ (yielded _ az.tmps) = true then Oper.wp _ _ az wz K _ else _
        go_simp
        exact HK.out _ hR
      · simp only [List.getElem?_toArray, List.getElem?_cons_zero, List.getElem?_cons_succ, Option.some.injEq] at ho
        subst ho
        have v0 : az.eval (.tmp 20) = .pointer (some ⟨b2, 0, none⟩) := hd 6 20 (by kernel_rfl) (by kernel_rfl)
        have u0 : az.tmps[20]?.getD undef = .pointer (some ⟨b2, 0, none⟩) := by rw [← Array.getD_eq_getD_getElem?]; exact v0
        clear v0
        have v1 : az.eval (.tmp 15) = .bool true := hd 1 15 (by kernel_rfl) (by kernel_rfl)
        have g1 := tmp_bool v1
        have u1 : az.tmps[15]?.getD undef = .bool true := by rw [← Array.getD_eq_getD_getElem?]; exact v1
        clear v1
        clear hd hf
        replace hK : ∀ w', (fun wz => Below w.heap.size w wz) w' → K (az.put (some 21) (.pointer (some ⟨b2, 0, none⟩))) w' := hK
        have HK := Lib.hid hK
        clear hK
        show if Region.wanted _ (yielded _ az.tmps) = true then Oper.wp _ _ az wz K _ else _
        go_simp
        exact HK.out _ hR
      · simp only [List.getElem?_toArray, List.getElem?_cons_zero, List.getElem?_cons_succ, Option.some.injEq] at ho
        subst ho
        have v0 : az.eval (.tmp 21) = .pointer (some ⟨b2, 0, none⟩) := hd 7 21 (by kernel_rfl) (by kernel_rfl)
        have u0 : az.tmps[21]?.getD undef = .pointer (some ⟨b2, 0, none⟩) := by rw [← Array.getD_eq_getD_getElem?]; exact v0
        clear v0
        have v1 : az.eval (.tmp 15) = .bool true := hd 1 15 (by kernel_rfl) (by kernel_rfl)
        have g1 := tmp_bool v1
        have u1 : az.tmps[15]?.getD undef = .bool true := by rw [← Array.getD_eq_getD_getElem?]; exact v1
        clear v1
        clear hd hf
        replace hK : ∀ w', (fun wz => Below w.heap.size w wz) w' → K (az.put (some 22) (.pointer (some ⟨b2, 0, none⟩))) w' := hK
        have HK := Lib.hid hK
        clear hK
        show if Region.wanted _ (yielded _ az.tmps) = true then Oper.wp _ _ az wz K _ else _
        go_simp
        exact HK.out _ hR
      · simp only [List.getElem?_toArray, List.getElem?_cons_zero, List.getElem?_cons_succ, Option.some.injEq] at ho
        subst ho
        have v0 : az.eval (.tmp 22) = .pointer (some ⟨b2, 0, none⟩) := hd 8 22 (by kernel_rfl) (by kernel_rfl)
        have u0 : az.tmps[22]?.getD undef = .pointer (some ⟨b2, 0, none⟩) := by rw [← Array.getD_eq_getD_getElem?]; exact v0
        clear v0
        have v1 : az.eval (.tmp 15) = .bool true := hd 1 15 (by kernel_rfl) (by kernel_rfl)
        have g1 := tmp_bool v1
        have u1 : az.tmps[15]?.getD undef = .bool true := by rw [← Array.getD_eq_getD_getElem?]; exact v1
        clear v1
        clear hd hf
        replace hK : ∀ w', (fun wz => Below w.heap.size w wz) w' → K (az.put (some 23) (.slice sa2 r2.length sc2)) w' := hK
        have HK := Lib.hid hK
        clear hK
        have c0 := (hcell ((hR.block _ (heap_lt HB.out)).trans HB.out) 0 _ rfl).1
        show if Region.wanted _ (yielded _ az.tmps) = true then Oper.wp _ _ az wz K _ else _
        go_simp
        exact HK.out _ hR
      · simp only [List.getElem?_toArray, List.getElem?_cons_zero, List.getElem?_cons_succ, Option.some.injEq] at ho
        subst ho
        have v0 : az.eval (.tmp 2) = v := (hf 2 (by kernel_rfl)).trans (by kernel_rfl)
        have u0 : az.tmps[2]?.getD undef = v := by rw [← Array.getD_eq_getD_getElem?]; exact v0
        clear v0
        have v1 : az.eval (.tmp 15) = .bool true := hd 1 15 (by kernel_rfl) (by kernel_rfl)
        have g1 := tmp_bool v1
        have u1 : az.tmps[15]?.getD undef = .bool true := by rw [← Array.getD_eq_getD_getElem?]; exact v1
        clear v1
        clear hd hf
        replace hK : ∀ w', (fun wz => Below w.heap.size w wz) w' → K (az.put (some 24) (v)) w' := hK
        have HK := Lib.hid hK
        clear hK
        show if Region.wanted _ (yielded _ az.tmps) = true then Oper.wp _ _ az wz K _ else _
        go_simp
        exact HK.out _ hR
      · simp only [List.getElem?_toArray, List.getElem?_cons_zero, List.getElem?_cons_succ, Option.some.injEq] at ho
        subst ho
        have v0 : az.eval (.tmp 19) = .slice sa1 r1.length sc1 := hd 5 19 (by kernel_rfl) (by kernel_rfl)
        have u0 : az.tmps[19]?.getD undef = .slice sa1 r1.length sc1 := by rw [← Array.getD_eq_getD_getElem?]; exact v0
        clear v0
        have v1 : az.eval (.tmp 23) = .slice sa2 r2.length sc2 := hd 9 23 (by kernel_rfl) (by kernel_rfl)
        have u1 : az.tmps[23]?.getD undef = .slice sa2 r2.length sc2 := by rw [← Array.getD_eq_getD_getElem?]; exact v1
        clear v1
        have v2 : az.eval (.tmp 24) = v := hd 10 24 (by kernel_rfl) (by kernel_rfl)
        have u2 : az.tmps[24]?.getD undef = v := by rw [← Array.getD_eq_getD_getElem?]; exact v2
        clear v2
        have v3 : az.eval (.tmp 15) = .bool true := hd 1 15 (by kernel_rfl) (by kernel_rfl)
        have g3 := tmp_bool v3
        have u3 : az.tmps[15]?.getD undef = .bool true := by rw [← Array.getD_eq_getD_getElem?]; exact v3
        clear v3
        clear hd hf
        replace hK : ∀ w', (fun wz => Below w.heap.size w wz) w' → K (az.put (some 25) (.bool false)) w' := hK
        have HK := Lib.hid hK
        clear hK
        show if Region.wanted _ (yielded _ az.tmps) = true then Oper.wp _ _ az wz K _ else _
        go_simp
        refine (cs48 SubT eok sa1 sa2 r1.length sc1 r2.length sc2 r1 r2 P1 P2 v wz HG.out.1 HG.out.2 (HROW.out.1.below hR) (HROW.out.2.below hR)).mono ?_
        rintro e w5 hD
        obtain ⟨he, hB5⟩ := hD.ex
        rw [HDD.out] at he
        obtain rfl := he.symm
        go_simp
        exact HK.out _ (hR.trans (hB5.mono hR.size))
      · simp only [List.getElem?_toArray, List.getElem?_cons_zero, List.getElem?_cons_succ, Option.some.injEq] at ho
        subst ho
        have v0 : az.eval (.tmp 15) = .bool true := hd 1 15 (by kernel_rfl) (by kernel_rfl)
        have u0 : az.tmps[15]?.getD undef = .bool true := by rw [← Array.getD_eq_getD_getElem?]; exact v0
        clear v0
        have v1 : az.eval (.tmp 25) = .bool false := hd 11 25 (by kernel_rfl) (by kernel_rfl)
        have u1 : az.tmps[25]?.getD undef = .bool false := by rw [← Array.getD_eq_getD_getElem?]; exact v1
        clear v1
        clear hd hf
        replace hK : ∀ w', (fun wz => Below w.heap.size w wz) w' → K (az.put (some 26) (.bool false)) w' := hK
        have HK := Lib.hid hK
        clear hK
        show if Region.wanted _ (yielded _ az.tmps) = true then Oper.wp _ _ az wz K _ else _
        go_simp
        exact HK.out _ hR
      · simp only [List.getElem?_toArray, List.getElem?_cons_zero, List.getElem?_cons_succ, Option.some.injEq] at ho
        subst ho
        have v0 : az.eval (.tmp 26) = .bool false := hd 12 26 (by kernel_rfl) (by kernel_rfl)
        have u0 : az.tmps[26]?.getD undef = .bool false := by rw [← Array.getD_eq_getD_getElem?]; exact v0
        clear v0
        clear hd hf
        replace hK : ∀ w', (fun wz => Below w.heap.size w wz) w' → K (az.put (some 27) (.bool false)) w' := hK
        have HK := Lib.hid hK
        clear hK
        show if Region.wanted _ (yielded _ az.tmps) = true then Oper.wp _ _ az wz K _ else _
        go_simp
        exact HK.out _ hR
      · simp only [List.getElem?_toArray, List.getElem?_cons_zero, List.getElem?_cons_succ, Option.some.injEq] at ho
        subst ho
        have v0 : az.eval (.tmp 0) = .pointer (some ⟨b1, 0, none⟩) := (hf 0 (by kernel_rfl)).trans (by kernel_rfl)
        have u0 : az.tmps[0]?.getD undef = .pointer (some ⟨b1, 0, none⟩) := by rw [← Array.getD_eq_getD_getElem?]; exact v0
        clear v0
        have v1 : az.eval (.tmp 27) = .bool false := hd 13 27 (by kernel_rfl) (by kernel_rfl)
        have g1 := tmp_bool v1
        have u1 : az.tmps[27]?.getD undef = .bool false := by rw [← Array.getD_eq_getD_getElem?]; exact v1
        clear v1
        clear hd hf
        replace hK : ∀ w', (fun wz => Below w.heap.size w wz) w' → K (az.put (some 28) (undef)) w' := hK
        have HK := Lib.hid hK
        clear hK
        show if Region.wanted _ (yielded _ az.tmps) = true then Oper.wp _ _ az wz K _ else _
        go_simp
        exact HK.out _ hR
      · simp only [List.getElem?_toArray, List.getElem?_cons_zero, List.getElem?_cons_succ, Option.some.injEq] at ho
        subst ho
        have v0 : az.eval (.tmp 28) = undef := hd 14 28 (by kernel_rfl) (by kernel_rfl)
        have u0 : az.tmps[28]?.getD undef = undef := by rw [← Array.getD_eq_getD_getElem?]; exact v0
        clear v0
        have v1 : az.eval (.tmp 27) = .bool false := hd 13 27 (by kernel_rfl) (by kernel_rfl)
        have g1 := tmp_bool v1
        have u1 : az.tmps[27]?.getD undef = .bool false := by rw [← Array.getD_eq_getD_getElem?]; exact v1
        clear v1
        clear hd hf
        replace hK : ∀ w', (fun wz => Below w.heap.size w wz) w' → K (az.put (some 29) (undef)) w' := hK
        have HK := Lib.hid hK
        clear hK
        show if Region.wanted _ (yielded _ az.tmps) = true then Oper.wp _ _ az wz K _ else _
        go_simp
        exact HK.out _ hR
      · simp only [List.getElem?_toArray, List.getElem?_cons_zero, List.getElem?_cons_succ, Option.some.injEq] at ho
        subst ho
        have v0 : az.eval (.tmp 29) = undef := hd 15 29 (by kernel_rfl) (by kernel_rfl)
        have u0 : az.tmps[29]?.getD undef = undef := by rw [← Array.getD_eq_getD_getElem?]; exact v0
        clear v0
        have v1 : az.eval (.tmp 27) = .bool false := hd 13 27 (by kernel_rfl) (by kernel_rfl)
        have g1 := tmp_bool v1
        have u1 : az.tmps[27]?.getD undef = .bool false := by rw [← Array.getD_eq_getD_getElem?]; exact v1
        clear v1
        clear hd hf
        replace hK : ∀ w', (fun wz => Below w.heap.size w wz) w' → K (az.put (some 30) (undef)) w' := hK
        have HK := Lib.hid hK
        clear hK
        show if Region.wanted _ (yielded _ az.tmps) = true then Oper.wp _ _ az wz K _ else _
        go_simp
        exact HK.out _ hR
      · simp only [List.getElem?_toArray, List.getElem?_cons_zero, List.getElem?_cons_succ, Option.some.injEq] at ho
        subst ho
        have v0 : az.eval (.tmp 30) = undef := hd 16 30 (by kernel_rfl) (by kernel_rfl)
        have u0 : az.tmps[30]?.getD undef = undef := by rw [← Array.getD_eq_getD_getElem?]; exact v0
        clear v0
        have v1 : az.eval (.tmp 27) = .bool false := hd 13 27 (by kernel_rfl) (by kernel_rfl)
        have g1 := tmp_bool v1
        have u1 : az.tmps[27]?.getD undef = .bool false := by rw [← Array.getD_eq_getD_getElem?]; exact v1
        clear v1
        clear hd hf
        replace hK : ∀ w', (fun wz => Below w.heap.size w wz) w' → K (az.put (some 31) (undef)) w' := hK
        have HK := Lib.hid hK
        clear hK
        show if Region.wanted _ (yielded _ az.tmps) = true then Oper.wp _ _ az wz K _ else _
        go_simp
        exact HK.out _ hR
      · simp only [List.getElem?_toArray, List.getElem?_cons_zero, List.getElem?_cons_succ, Option.some.injEq] at ho
        subst ho
        have v0 : az.eval (.tmp 7) = .pointer (some ⟨b2, 0, none⟩) := (hf 7 (by kernel_rfl)).trans (by kernel_rfl)
        have u0 : az.tmps[7]?.getD undef = .pointer (some ⟨b2, 0, none⟩) := by rw [← Array.getD_eq_getD_getElem?]; exact v0
        clear v0
        have v1 : az.eval (.tmp 27) = .bool false := hd 13 27 (by kernel_rfl) (by kernel_rfl)
        have g1 := tmp_bool v1
        have u1 : az.tmps[27]?.getD undef = .bool false := by rw [← Array.getD_eq_getD_getElem?]; exact v1
        clear v1
        clear hd hf
        replace hK : ∀ w', (fun wz => Below w.heap.size w wz) w' → K (az.put (some 32) (undef)) w' := hK
        have HK := Lib.hid hK
        clear hK
        show if Region.wanted _ (yielded _ az.tmps) = true then Oper.wp _ _ az wz K _ else _
        go_simp
        exact HK.out _ hR
      · simp only [List.getElem?_toArray, List.getElem?_cons_zero, List.getElem?_cons_succ, Option.some.injEq] at ho
        subst ho
        have v0 : az.eval (.tmp 32) = undef := hd 18 32 (by kernel_rfl) (by kernel_rfl)
        have u0 : az.tmps[32]?.getD undef = undef := by rw [← Array.getD_eq_getD_getElem?]; exact v0
        clear v0
        have v1 : az.eval (.tmp 27) = .bool false := hd 13 27 (by kernel_rfl) (by kernel_rfl)
        have g1 := tmp_bool v1
        have u1 : az.tmps[27]?.getD undef = .bool false := by rw [← Array.getD_eq_getD_getElem?]; exact v1
        clear v1
        clear hd hf
        replace hK : ∀ w', (fun wz => Below w.heap.size w wz) w' → K (az.put (some 33) (undef)) w' := hK
        have HK := Lib.hid hK
        clear hK
        show if Region.wanted _ (yielded _ az.tmps) = true then Oper.wp _ _ az wz K _ else _
        go_simp
        exact HK.out _ hR
      · simp only [List.getElem?_toArray, List.getElem?_cons_zero, List.getElem?_cons_succ, Option.some.injEq] at ho
        subst ho
        have v0 : az.eval (.tmp 33) = undef := hd 19 33 (by kernel_rfl) (by kernel_rfl)
        have u0 : az.tmps[33]?.getD undef = undef := by rw [← Array.getD_eq_getD_getElem?]; exact v0
        clear v0
        have v1 : az.eval (.tmp 27) = .bool false := hd 13 27 (by kernel_rfl) (by kernel_rfl)
        have g1 := tmp_bool v1
        have u1 : az.tmps[27]?.getD undef = .bool false := by rw [← Array.getD_eq_getD_getElem?]; exact v1
        clear v1
        clear hd hf
        replace hK : ∀ w', (fun wz => Below w.heap.size w wz) w' → K (az.put (some 34) (undef)) w' := hK
        have HK := Lib.hid hK
        clear hK
        show if Region.wanted _ (yielded _ az.tmps) = true then Oper.wp _ _ az wz K _ else _
        go_simp
        exact HK.out _ hR
      · simp only [List.getElem?_toArray, List.getElem?_cons_zero, List.getElem?_cons_succ, Option.some.injEq] at ho
        subst ho
        have v0 : az.eval (.tmp 34) = undef := hd 20 34 (by kernel_rfl) (by kernel_rfl)
        have u0 : az.tmps[34]?.getD undef = undef := by rw [← Array.getD_eq_getD_getElem?]; exact v0
        clear v0
        have v1 : az.eval (.tmp 27) = .bool false := hd 13 27 (by kernel_rfl) (by kernel_rfl)
        have g1 := tmp_bool v1
        have u1 : az.tmps[27]?.getD undef = .bool false := by rw [← Array.getD_eq_getD_getElem?]; exact v1
        clear v1
        clear hd hf
        replace hK : ∀ w', (fun wz => Below w.heap.size w wz) w' → K (az.put (some 35) (undef)) w' := hK
        have HK := Lib.hid hK
        clear hK
        show if Region.wanted _ (yielded _ az.tmps) = true then Oper.wp _ _ az wz K _ else _
        go_simp
        exact HK.out _ hR
      · simp only [List.getElem?_toArray, List.getElem?_cons_zero, List.getElem?_cons_succ, Option.some.injEq] at ho
        subst ho
        have v0 : az.eval (.tmp 2) = v := (hf 2 (by kernel_rfl)).trans (by kernel_rfl)
        have u0 : az.tmps[2]?.getD undef = v := by rw [← Array.getD_eq_getD_getElem?]; exact v0
        clear v0
        have v1 : az.eval (.tmp 27) = .bool false := hd 13 27 (by kernel_rfl) (by kernel_rfl)
        have g1 := tmp_bool v1
        have u1 : az.tmps[27]?.getD undef = .bool false := by rw [← Array.getD_eq_getD_getElem?]; exact v1
        clear v1
        clear hd hf
        replace hK : ∀ w', (fun wz => Below w.heap.size w wz) w' → K (az.put (some 36) (undef)) w' := hK
        have HK := Lib.hid hK
        clear hK
        show if Region.wanted _ (yielded _ az.tmps) = true then Oper.wp _ _ az wz K _ else _
        go_simp
        exact HK.out _ hR
      · simp only [List.getElem?_toArray, List.getElem?_cons_zero, List.getElem?_cons_succ, Option.some.injEq] at ho
        subst ho
        have v0 : az.eval (.tmp 31) = undef := hd 17 31 (by kernel_rfl) (by kernel_rfl)
        have u0 : az.tmps[31]?.getD undef = undef := by rw [← Array.getD_eq_getD_getElem?]; exact v0
        clear v0
        have v1 : az.eval (.tmp 35) = undef := hd 21 35 (by kernel_rfl) (by kernel_rfl)
        have u1 : az.tmps[35]?.getD undef = undef := by rw [← Array.getD_eq_getD_getElem?]; exact v1
        clear v1
        have v2 : az.eval (.tmp 36) = undef := hd 22 36 (by kernel_rfl) (by kernel_rfl)
        have u2 : az.tmps[36]?.getD undef = undef := by rw [← Array.getD_eq_getD_getElem?]; exact v2
        clear v2
        have v3 : az.eval (.tmp 27) = .bool false := hd 13 27 (by kernel_rfl) (by kernel_rfl)
        have g3 := tmp_bool v3
        have u3 : az.tmps[27]?.getD undef = .bool false := by rw [← Array.getD_eq_getD_getElem?]; exact v3
        clear v3
        clear hd hf
        replace hK : ∀ w', (fun wz => Below w.heap.size w wz) w' → K (az.put (some 37) (undef)) w' := hK
        have HK := Lib.hid hK
        clear hK
        show if Region.wanted _ (yielded _ az.tmps) = true then Oper.wp _ _ az wz K _ else _
        go_simp
        exact HK.out _ hR
      · simp only [List.getElem?_toArray, List.getElem?_cons_zero, List.getElem?_cons_succ, Option.some.injEq] at ho
        subst ho
        have v0 : az.eval (.tmp 27) = .bool false := hd 13 27 (by kernel_rfl) (by kernel_rfl)
        have u0 : az.tmps[27]?.getD undef = .bool false := by rw [← Array.getD_eq_getD_getElem?]; exact v0
        clear v0
        have v1 : az.eval (.tmp 37) = undef := hd 23 37 (by kernel_rfl) (by kernel_rfl)
        have u1 : az.tmps[37]?.getD undef = undef := by rw [← Array.getD_eq_getD_getElem?]; exact v1
        clear v1
        clear hd hf
        replace hK : ∀ w', (fun wz => Below w.heap.size w wz) w' → K (az.put (some 38) (.bool false)) w' := hK
        have HK := Lib.hid hK
        clear hK
        show if Region.wanted _ (yielded _ az.tmps) = true then Oper.wp _ _ az wz K _ else _
        go_simp
        exact HK.out _ hR
      · simp only [List.getElem?_toArray, List.getElem?_cons_zero, List.getElem?_cons_succ, Option.some.injEq] at ho
        subst ho
        have v0 : az.eval (.tmp 38) = .bool false := hd 24 38 (by kernel_rfl) (by kernel_rfl)
        have u0 : az.tmps[38]?.getD undef = .bool false := by rw [← Array.getD_eq_getD_getElem?]; exact v0
        clear v0
        clear hd hf
        replace hK : ∀ w', (fun wz => Below w.heap.size w wz) w' → K (az.put (some 6) (.bool false)) w' := hK
        have HK := Lib.hid hK
        clear hK
        show if Region.wanted _ (yielded _ az.tmps) = true then Oper.wp _ _ az wz K _ else _
        go_simp
        exact HK.out _ hR
    case h0n => exact (Below.refl _ _).drew
    case hendn =>
      intro wz hR
      have HR := hid hR
      clear hR
      simp only [List.foldl_cons, List.foldl_nil, Act.put, List.setIfInBounds_toArray, List.set_cons_zero, List.set_cons_succ]
      go_wp2_with fail
      go_ret
      exact ⟨rfl, HR.out⟩
  · go_enter Try.func46, Try.ntmps46
    go_wp2_with fail
    refine wp_region_rel [(some 14, .bool true), (some 15, .bool true), (some 16, .pointer (some ⟨b1, 0, none⟩)), (some 17, .pointer (some ⟨b1, 0, none⟩)), (some 18, .pointer (some ⟨b1, 0, none⟩)), (some 19, .slice sa1 r1.length sc1), (some 20, .pointer (some ⟨b2, 0, none⟩)), (some 21, .pointer (some ⟨b2, 0, none⟩)), (some 22, .pointer (some ⟨b2, 0, none⟩)), (some 23, .slice sa2 r2.length sc2), (some 24, v), (some 25, .bool true), (some 26, .bool true), (some 27, .bool true), (some 28, .pointer (some ⟨b1, 0, none⟩)), (some 29, .pointer (some ⟨b1, 0, none⟩)), (some 30, .pointer (some ⟨b1, 1, none⟩)), (some 31, .slice none 0 0), (some 32, .pointer (some ⟨b2, 0, none⟩)), (some 33, .pointer (some ⟨b2, 0, none⟩)), (some 34, .pointer (some ⟨b2, 1, none⟩)), (some 35, .slice none 0 0), (some 36, v), (some 37, .bool true), (some 38, .bool true), (some 6, .bool true)] (fun wz => Below w.heap.size w wz) 39 (by kernel_rfl) (by kernel_rfl) (by kernel_rfl) (by kernel_rfl) ?h0e (by kernel_rfl) ?hope ?hende
    case hope =>
      intro i o az wz ho hR hd hf K hK
      have hin : i = 0 ∨ i = 1 ∨ i = 2 ∨ i = 3 ∨ i = 4 ∨ i = 5 ∨ i = 6 ∨ i = 7 ∨ i = 8 ∨ i = 9 ∨ i = 10 ∨ i = 11 ∨ i = 12 ∨ i = 13 ∨ i = 14 ∨ i = 15 ∨ i = 16 ∨ i = 17 ∨ i = 18 ∨ i = 19 ∨ i = 20 ∨ i = 21 ∨ i = 22 ∨ i = 23 ∨ i = 24 ∨ i = 25 := by
        rcases Nat.lt_or_ge i 26 with h | h
        · omega
        · rw [Array.getElem?_eq_none h] at ho
          cases ho
      rcases hin with rfl | rfl | rfl | rfl | rfl | rfl | rfl | rfl | rfl | rfl | rfl | rfl | rfl | rfl | rfl | rfl | rfl | rfl | rfl | rfl | rfl | rfl | rfl | rfl | rfl | rfl
      · simp only [List.getElem?_toArray, List.getElem?_cons_zero, Option.some.injEq] at ho
        subst ho
        have v0 : az.eval (.tmp 8) = .bool true := (hf 8 (by kernel_rfl)).trans (by kernel_rfl)
        have u0 : az.tmps[8]?.getD undef = .bool true := by rw [← Array.getD_eq_getD_getElem?]; exact v0
        clear v0
        clear hd hf
        replace hK : ∀ w', (fun wz => Below w.heap.size w wz) w' → K (az.put (some 14) (.bool true)) w' := hK
        have HK := Lib.hid hK
        clear hK
        show if Region.wanted _ (yielded _ az.tmps) = true then Oper.wp _ _ az wz K _ else _
        go_simp
        exact HK.out _ hR
      · simp only [List.getElem?_toArray, List.getElem?_cons_zero, List.getElem?_cons_succ, Option.some.injEq] at ho
        subst ho
        have v0 : az.eval (.tmp 14) = .bool true := hd 0 14 (by kernel_rfl) (by kernel_rfl)
        have u0 : az.tmps[14]?.getD undef = .bool true := by rw [← Array.getD_eq_getD_getElem?]; exact v0
        clear v0
        clear hd hf
        replace hK : ∀ w', (fun wz => Below w.heap.size w wz) w' → K (az.put (some 15) (.bool true)) w' := hK
        have HK := Lib.hid hK
        clear hK
        show if Region.wanted _ (yielded _ az.tmps) = true then Oper.wp _ _ az wz K _ else _
        go_simp
        exact HK.out _ hR
      · simp only [List.getElem?_toArray, List.getElem?_cons_zero, List.getElem?_cons_succ, Option.some.injEq] at ho
        subst ho
        have v0 : az.eval (.tmp 0) = .pointer (some ⟨b1, 0, none⟩) := (hf 0 (by kernel_rfl)).trans (by kernel_rfl)
        have u0 : az.tmps[0]?.getD undef = .pointer (some ⟨b1, 0, none⟩) := by rw [← Array.getD_eq_getD_getElem?]; exact v0
        clear v0
        have v1 : az.eval (.tmp 15) = .bool true := hd 1 15 (by kernel_rfl) (by kernel_rfl)
        have g1 := tmp_bool v1
        have u1 : az.tmps[15]?.getD undef = .bool true := by rw [← Array.getD_eq_getD_getElem?]; exact v1
        clear v1
        clear hd hf
        replace hK : ∀ w', (fun wz => Below w.heap.size w wz) w' → K (az.put (some 16) (.pointer (some ⟨b1, 0, none⟩))) w' := hK
        have HK := Lib.hid hK
        clear hK
        show if Region.wanted _ (yielded _ az.tmps) = true then Oper.wp _ _ az wz K _ else _
        go_simp
        exact HK.out _ hR
      · simp only [List.getElem?_toArray, List.getElem?_cons_zero, List.getElem?_cons_succ, Option.some.injEq] at ho
        subst ho
        have v0 : az.eval (.tmp 16) = .pointer (some ⟨b1, 0, none⟩) := hd 2 16 (by kernel_rfl) (by kernel_rfl)
        have u0 : az.tmps[16]?.getD undef = .pointer (some ⟨b1, 0, none⟩) := by rw [← Array.getD_eq_getD_getElem?]; exact v0
        clear v0
        have v1 : az.eval (.tmp 15) = .bool true := hd 1 15 (by kernel_rfl) (by kernel_rfl)
        have g1 := tmp_bool v1
        have u1 : az.tmps[15]?.getD undef = .bool true := by rw [← Array.getD_eq_getD_getElem?]; exact v1
        clear v1
        clear hd hf
        replace hK : ∀ w', (fun wz => Below w.heap.size w wz) w' → K (az.put (some 17) (.pointer (some ⟨b1, 0, none⟩))) w' := hK
        have HK := Lib.hid hK
        clear hK
        show if Region.wanted _ (yielded _ az.tmps) = true then Oper.wp _ _ az wz K _ else _
        go_simp
        exact HK.out _ hR
      · simp only [List.getElem?_toArray, List.getElem?_cons_zero, List.getElem?_cons_succ, Option.some.injEq] at ho
        subst ho
        have v0 : az.eval (.tmp 17) = .pointer (some ⟨b1, 0, none⟩) := hd 3 17 (by kernel_rfl) (by kernel_rfl)
        have u0 : az.tmps[17]?.getD undef = .pointer (some ⟨b1, 0, none⟩) := by rw [← Array.getD_eq_getD_getElem?]; exact v0
        clear v0
        have v1 : az.eval (.tmp 15) = .bool true := hd 1 15 (by kernel_rfl) (by kernel_rfl)
        have g1 := tmp_bool v1
        have u1 : az.tmps[15]?.getD undef = .bool true := by rw [← Array.getD_eq_getD_getElem?]; exact v1
        clear v1
        clear hd hf
        replace hK : ∀ w', (fun wz => Below w.heap.size w wz) w' → K (az.put (some 18) (.pointer (some ⟨b1, 0, none⟩))) w' := hK
        have HK := Lib.hid hK
        clear hK
        show if Region.wanted _ (yielded _ az.tmps) = true then Oper.wp _ _ az wz K _ else _
        go_simp
        exact HK.out _ hR
      · simp only [List.getElem?_toArray, List.getElem?_cons_zero, List.getElem?_cons_succ, Option.some.injEq] at ho
        subst ho
        have v0 : az.eval (.tmp 18) = .pointer (some ⟨b1, 0, none⟩) := hd 4 18 (by kernel_rfl) (by kernel_rfl)
        have u0 : az.tmps[18]?.getD undef = .pointer (some ⟨b1, 0, none⟩) := by rw [← Array.getD_eq_getD_getElem?]; exact v0
        clear v0
        have v1 : az.eval (.tmp 15) = .bool true := hd 1 15 (by kernel_rfl) (by kernel_rfl)
        have g1 := tmp_bool v1
        have u1 : az.tmps[15]?.getD undef = .bool true := by rw [← Array.getD_eq_getD_getElem?]; exact v1
        clear v1
        clear hd hf
        replace hK : ∀ w', (fun wz => Below w.heap.size w wz) w' → K (az.put (some 19) (.slice sa1 r1.length sc1)) w' := hK
        have HK := Lib.hid hK
        clear hK
        have c0 := (hcell ((hR.block _ (heap_lt HA.out)).trans HA.out) 0 _ rfl).1
        show if Region.wanted _ (yielded _ az.tmps) = true then Oper.wp _ _ az wz K _ else _
        go_simp
        exact HK.out _ hR
      · simp only [List.getElem?_toArray, List.getElem?_cons_zero, List.getElem?_cons_succ, Option.some.injEq] at ho
        subst ho
        have v0 : az.eval (.tmp 7) = .pointer (some ⟨b2, 0, none⟩) := (hf 7 (by kernel_rfl)).trans (by kernel_rfl)
        have u0 : az.tmps[7]?.getD undef = .pointer (some ⟨b2, 0, none⟩) := by rw [← Array.getD_eq_getD_getElem?]; exact v0
        clear v0
        have v1 : az.eval (.tmp 15) = .bool true := hd 1 15 (by kernel_rfl) (by kernel_rfl)
        have g1 := tmp_bool v1
        have u1 : az.tmps[15]?.getD undef = .bool true := by rw [← Array.getD_eq_getD_getElem?]; exact v1
        clear v1
        clear hd hf
        replace hK : ∀ w', (fun wz => Below w.heap.size w wz) w' → K (az.put (some 20) (.pointer (some ⟨b2, 0, none⟩))) w' := hK
        have HK := Lib.hid hK
        clear hK
        show if Region.wanted _ (yielded _ az.tmps) = true then Oper.wp _ _ az wz K _ else _
        go_simp
        exact HK.out _ hR
      · simp only [List.getElem?_toArray, List.getElem?_cons_zero, List.getElem?_cons_succ, Option.some.injEq] at ho
        subst ho
        have v0 : az.eval (.tmp 20) = .pointer (some ⟨b2, 0, none⟩) := hd 6 20 (by kernel_rfl) (by kernel_rfl)
        have u0 : az.tmps[20]?.getD undef = .pointer (some ⟨b2, 0, none⟩) := by rw [← Array.getD_eq_getD_getElem?]; exact v0
        clear v0
        have v1 : az.eval (.tmp 15) = .bool true := hd 1 15 (by kernel_rfl) (by kernel_rfl)
        have g1 := tmp_bool v1
        have u1 : az.tmps[15]?.getD undef = .bool true := by rw [← Array.getD_eq_getD_getElem?]; exact v1
        clear v1
        clear hd hf
        replace hK : ∀ w', (fun wz => Below w.heap.size w wz) w' → K (az.put (some 21) (.pointer (some ⟨b2, 0, none⟩))) w' := hK
        have HK := Lib.hid hK
        clear hK
        show if Region.wanted _ (yielded _ az.tmps) = true then Oper.wp _ _ az wz K _ else _
        go_simp
        exact HK.out _ hR
      · simp only [List.getElem?_toArray, List.getElem?_cons_zero, List.getElem?_cons_succ, Option.some.injEq] at ho
        subst ho
        have v0 : az.eval (.tmp 21) = .pointer (some ⟨b2, 0, none⟩) := hd 7 21 (by kernel_rfl) (by kernel_rfl)
        have u0 : az.tmps[21]?.getD undef = .pointer (some ⟨b2, 0, none⟩) := by rw [← Array.getD_eq_getD_getElem?]; exact v0
        clear v0
        have v1 : az.eval (.tmp 15) = .bool true := hd 1 15 (by kernel_rfl) (by kernel_rfl)
        have g1 := tmp_bool v1
        have u1 : az.tmps[15]?.getD undef = .bool true := by rw [← Array.getD_eq_getD_getElem?]; exact v1
        clear v1
        clear hd hf
        replace hK : ∀ w', (fun wz => Below w.heap.size w wz) w' → K (az.put (some 22) (.pointer (some ⟨b2, 0, none⟩))) w' := hK
        have HK := Lib.hid hK
        clear hK
        show if Region.wanted _ (yielded _ az.tmps) = true then Oper.wp _ _ az wz K _ else _
        go_simp
        exact HK.out _ hR
      · simp only [List.getElem?_toArray, List.getElem?_cons_zero, List.getElem?_cons_succ, Option.some.injEq] at ho
        subst ho
        have v0 : az.eval (.tmp 22) = .pointer (some ⟨b2, 0, none⟩) := hd 8 22 (by kernel_rfl) (by kernel_rfl)
        have u0 : az.tmps[22]?.getD undef = .pointer (some ⟨b2, 0, none⟩) := by rw [← Array.getD_eq_getD_getElem?]; exact v0
        clear v0
        have v1 : az.eval (.tmp 15) = .bool true := hd 1 15 (by kernel_rfl) (by kernel_rfl)
        have g1 := tmp_bool v1
        have u1 : az.tmps[15]?.getD undef = .bool true := by rw [← Array.getD_eq_getD_getElem?]; exact v1
        clear v1
        clear hd hf
        replace hK : ∀ w', (fun wz => Below w.heap.size w wz) w' → K (az.put (some 23) (.slice sa2 r2.length sc2)) w' := hK
        have HK := Lib.hid hK
        clear hK
        have c0 := (hcell ((hR.block _ (heap_lt HB.out)).trans HB.out) 0 _ rfl).1
        show if Region.wanted _ (yielded _ az.tmps) = true then Oper.wp _ _ az wz K _ else _
        go_simp
        exact HK.out _ hR
      · simp only [List.getElem?_toArray, List.getElem?_cons_zero, List.getElem?_cons_succ, Option.some.injEq] at ho
        subst ho
        have v0 : az.eval (.tmp 2) = v := (hf 2 (by kernel_rfl)).trans (by kernel_rfl)
        have u0 : az.tmps[2]?.getD undef = v := by rw [← Array.getD_eq_getD_getElem?]; exact v0
        clear v0
        have v1 : az.eval (.tmp 15) = .bool true := hd 1 15 (by kernel_rfl) (by kernel_rfl)
        have g1 := tmp_bool v1
        have u1 : az.tmps[15]?.getD undef = .bool true := by rw [← Array.getD_eq_getD_getElem?]; exact v1
        clear v1
        clear hd hf
        replace hK : ∀ w', (fun wz => Below w.heap.size w wz) w' → K (az.put (some 24) (v)) w' := hK
        have HK := Lib.hid hK
        clear hK
        show if Region.wanted _ (yielded _ az.tmps) = true then Oper.wp _ _ az wz K _ else _
        go_simp
        exact HK.out _ hR
      · simp only [List.getElem?_toArray, List.getElem?_cons_zero, List.getElem?_cons_succ, Option.some.injEq] at ho
        subst ho
        have v0 : az.eval (.tmp 19) = .slice sa1 r1.length sc1 := hd 5 19 (by kernel_rfl) (by kernel_rfl)
        have u0 : az.tmps[19]?.getD undef = .slice sa1 r1.length sc1 := by rw [← Array.getD_eq_getD_getElem?]; exact v0
        clear v0
        have v1 : az.eval (.tmp 23) = .slice sa2 r2.length sc2 := hd 9 23 (by kernel_rfl) (by kernel_rfl)
        have u1 : az.tmps[23]?.getD undef = .slice sa2 r2.length sc2 := by rw [← Array.getD_eq_getD_getElem?]; exact v1
        clear v1
        have v2 : az.eval (.tmp 24) = v := hd 10 24 (by kernel_rfl) (by kernel_rfl)
        have u2 : az.tmps[24]?.getD undef = v := by rw [← Array.getD_eq_getD_getElem?]; exact v2
        clear v2
        have v3 : az.eval (.tmp 15) = .bool true := hd 1 15 (by kernel_rfl) (by kernel_rfl)
        have g3 := tmp_bool v3
        have u3 : az.tmps[15]?.getD undef = .bool true := by rw [← Array.getD_eq_getD_getElem?]; exact v3
        clear v3
        clear hd hf
        replace hK : ∀ w', (fun wz => Below w.heap.size w wz) w' → K (az.put (some 25) (.bool true)) w' := hK
        have HK := Lib.hid hK
        clear hK
        show if Region.wanted _ (yielded _ az.tmps) = true then Oper.wp _ _ az wz K _ else _
        go_simp
        refine (cs48 SubT eok sa1 sa2 r1.length sc1 r2.length sc2 r1 r2 P1 P2 v wz HG.out.1 HG.out.2 (HROW.out.1.below hR) (HROW.out.2.below hR)).mono ?_
        rintro e w5 hD
        obtain ⟨he, hB5⟩ := hD.ex
        rw [HDD.out] at he
        obtain rfl := he.symm
        go_simp
        exact HK.out _ (hR.trans (hB5.mono hR.size))
      · simp only [List.getElem?_toArray, List.getElem?_cons_zero, List.getElem?_cons_succ, Option.some.injEq] at ho
        subst ho
        have v0 : az.eval (.tmp 15) = .bool true := hd 1 15 (by kernel_rfl) (by kernel_rfl)
        have u0 : az.tmps[15]?.getD undef = .bool true := by rw [← Array.getD_eq_getD_getElem?]; exact v0
        clear v0
        have v1 : az.eval (.tmp 25) = .bool true := hd 11 25 (by kernel_rfl) (by kernel_rfl)
        have u1 : az.tmps[25]?.getD undef = .bool true := by rw [← Array.getD_eq_getD_getElem?]; exact v1
        clear v1
        clear hd hf
        replace hK : ∀ w', (fun wz => Below w.heap.size w wz) w' → K (az.put (some 26) (.bool true)) w' := hK
        have HK := Lib.hid hK
        clear hK
        show if Region.wanted _ (yielded _ az.tmps) = true then Oper.wp _ _ az wz K _ else _
        go_simp
        exact HK.out _ hR
      · simp only [List.getElem?_toArray, List.getElem?_cons_zero, List.getElem?_cons_succ, Option.some.injEq] at ho
        subst ho
        have v0 : az.eval (.tmp 26) = .bool true := hd 12 26 (by kernel_rfl) (by kernel_rfl)
        have u0 : az.tmps[26]?.getD undef = .bool true := by rw [← Array.getD_eq_getD_getElem?]; exact v0
        clear v0
        clear hd hf
        replace hK : ∀ w', (fun wz => Below w.heap.size w wz) w' → K (az.put (some 27) (.bool true)) w' := hK
        have HK := Lib.hid hK
        clear hK
        show if Region.wanted _ (yielded _ az.tmps) = true then Oper.wp _ _ az wz K _ else _
        go_simp
        exact HK.out _ hR
      · simp only [List.getElem?_toArray, List.getElem?_cons_zero, List.getElem?_cons_succ, Option.some.injEq] at ho
        subst ho
        have v0 : az.eval (.tmp 0) = .pointer (some ⟨b1, 0, none⟩) := (hf 0 (by kernel_rfl)).trans (by kernel_rfl)
        have u0 : az.tmps[0]?.getD undef = .pointer (some ⟨b1, 0, none⟩) := by rw [← Array.getD_eq_getD_getElem?]; exact v0
        clear v0
        have v1 : az.eval (.tmp 27) = .bool true := hd 13 27 (by kernel_rfl) (by kernel_rfl)
        have g1 := tmp_bool v1
        have u1 : az.tmps[27]?.getD undef = .bool true := by rw [← Array.getD_eq_getD_getElem?]; exact v1
        clear v1
        clear hd hf
        replace hK : ∀ w', (fun wz => Below w.heap.size w wz) w' → K (az.put (some 28) (.pointer (some ⟨b1, 0, none⟩))) w' := hK
        have HK := Lib.hid hK
        clear hK
        show if Region.wanted _ (yielded _ az.tmps) = true then Oper.wp _ _ az wz K _ else _
        go_simp
        exact HK.out _ hR
      · simp only [List.getElem?_toArray, List.getElem?_cons_zero, List.getElem?_cons_succ, Option.some.injEq] at ho
        subst ho
        have v0 : az.eval (.tmp 28) = .pointer (some ⟨b1, 0, none⟩) := hd 14 28 (by kernel_rfl) (by kernel_rfl)
        have u0 : az.tmps[28]?.getD undef = .pointer (some ⟨b1, 0, none⟩) := by rw [← Array.getD_eq_getD_getElem?]; exact v0
        clear v0
        have v1 : az.eval (.tmp 27) = .bool true := hd 13 27 (by kernel_rfl) (by kernel_rfl)
        have g1 := tmp_bool v1
        have u1 : az.tmps[27]?.getD undef = .bool true := by rw [← Array.getD_eq_getD_getElem?]; exact v1
        clear v1
        clear hd hf
        replace hK : ∀ w', (fun wz => Below w.heap.size w wz) w' → K (az.put (some 29) (.pointer (some ⟨b1, 0, none⟩))) w' := hK
        have HK := Lib.hid hK
        clear hK
        show if Region.wanted _ (yielded _ az.tmps) = true then Oper.wp _ _ az wz K _ else _
        go_simp
        exact HK.out _ hR
      · simp only [List.getElem?_toArray, List.getElem?_cons_zero, List.getElem?_cons_succ, Option.some.injEq] at ho
        subst ho
        have v0 : az.eval (.tmp 29) = .pointer (some ⟨b1, 0, none⟩) := hd 15 29 (by kernel_rfl) (by kernel_rfl)
        have u0 : az.tmps[29]?.getD undef = .pointer (some ⟨b1, 0, none⟩) := by rw [← Array.getD_eq_getD_getElem?]; exact v0
        clear v0
        have v1 : az.eval (.tmp 27) = .bool true := hd 13 27 (by kernel_rfl) (by kernel_rfl)
        have g1 := tmp_bool v1
        have u1 : az.tmps[27]?.getD undef = .bool true := by rw [← Array.getD_eq_getD_getElem?]; exact v1
        clear v1
        clear hd hf
        replace hK : ∀ w', (fun wz => Below w.heap.size w wz) w' → K (az.put (some 30) (.pointer (some ⟨b1, 1, none⟩))) w' := hK
        have HK := Lib.hid hK
        clear hK
        show if Region.wanted _ (yielded _ az.tmps) = true then Oper.wp _ _ az wz K _ else _
        go_simp
        exact HK.out _ hR
      · simp only [List.getElem?_toArray, List.getElem?_cons_zero, List.getElem?_cons_succ, Option.some.injEq] at ho
        subst ho
        have v0 : az.eval (.tmp 30) = .pointer (some ⟨b1, 1, none⟩) := hd 16 30 (by kernel_rfl) (by kernel_rfl)
        have u0 : az.tmps[30]?.getD undef = .pointer (some ⟨b1, 1, none⟩) := by rw [← Array.getD_eq_getD_getElem?]; exact v0
        clear v0
        have v1 : az.eval (.tmp 27) = .bool true := hd 13 27 (by kernel_rfl) (by kernel_rfl)
        have g1 := tmp_bool v1
        have u1 : az.tmps[27]?.getD undef = .bool true := by rw [← Array.getD_eq_getD_getElem?]; exact v1
        clear v1
        clear hd hf
        replace hK : ∀ w', (fun wz => Below w.heap.size w wz) w' → K (az.put (some 31) (.slice none 0 0)) w' := hK
        have HK := Lib.hid hK
        clear hK
        have c1 := (hcell ((hR.block _ (heap_lt HA.out)).trans HA.out) 1 _ rfl).1
        show if Region.wanted _ (yielded _ az.tmps) = true then Oper.wp _ _ az wz K _ else _
        go_simp
        exact HK.out _ hR
      · simp only [List.getElem?_toArray, List.getElem?_cons_zero, List.getElem?_cons_succ, Option.some.injEq] at ho
        subst ho
        have v0 : az.eval (.tmp 7) = .pointer (some ⟨b2, 0, none⟩) := (hf 7 (by kernel_rfl)).trans (by kernel_rfl)
        have u0 : az.tmps[7]?.getD undef = .pointer (some ⟨b2, 0, none⟩) := by rw [← Array.getD_eq_getD_getElem?]; exact v0
        clear v0
        have v1 : az.eval (.tmp 27) = .bool true := hd 13 27 (by kernel_rfl) (by kernel_rfl)
        have g1 := tmp_bool v1
        have u1 : az.tmps[27]?.getD undef = .bool true := by rw [← Array.getD_eq_getD_getElem?]; exact v1
        clear v1
        clear hd hf
        replace hK : ∀ w', (fun wz => Below w.heap.size w wz) w' → K (az.put (some 32) (.pointer (some ⟨b2, 0, none⟩))) w' := hK
        have HK := Lib.hid hK
        clear hK
        show if Region.wanted _ (yielded _ az.tmps) = true then Oper.wp _ _ az wz K _ else _
        go_simp
        exact HK.out _ hR
      · simp only [List.getElem?_toArray, List.getElem?_cons_zero, List.getElem?_cons_succ, Option.some.injEq] at ho
        subst ho
        have v0 : az.eval (.tmp 32) = .pointer (some ⟨b2, 0, none⟩) := hd 18 32 (by kernel_rfl) (by kernel_rfl)
        have u0 : az.tmps[32]?.getD undef = .pointer (some ⟨b2, 0, none⟩) := by rw [← Array.getD_eq_getD_getElem?]; exact v0
        clear v0
        have v1 : az.eval (.tmp 27) = .bool true := hd 13 27 (by kernel_rfl) (by kernel_rfl)
        have g1 := tmp_bool v1
        have u1 : az.tmps[27]?.getD undef = .bool true := by rw [← Array.getD_eq_getD_getElem?]; exact v1
        clear v1
        clear hd hf
        replace hK : ∀ w', (fun wz => Below w.heap.size w wz) w' → K (az.put (some 33) (.pointer (some ⟨b2, 0, none⟩))) w' := hK
        have HK := Lib.hid hK
        clear hK
        show if Region.wanted _ (yielded _ az.tmps) = true then Oper.wp _ _ az wz K _ else _
        go_simp
        exact HK.out _ hR
      · simp only [List.getElem?_toArray, List.getElem?_cons_zero, List.getElem?_cons_succ, Option.some.injEq] at ho
        subst ho
        have v0 : az.eval (.tmp 33) = .pointer (some ⟨b2, 0, none⟩) := hd 19 33 (by kernel_rfl) (by kernel_rfl)
        have u0 : az.tmps[33]?.getD undef = .pointer (some ⟨b2, 0, none⟩) := by rw [← Array.getD_eq_getD_getElem?]; exact v0
        clear v0
        have v1 : az.eval (.tmp 27) = .bool true := hd 13 27 (by kernel_rfl) (by kernel_rfl)
        have g1 := tmp_bool v1
        have u1 : az.tmps[27]?.getD undef = .bool true := by rw [← Array.getD_eq_getD_getElem?]; exact v1
        clear v1
        clear hd hf
        replace hK : ∀ w', (fun wz => Below w.heap.size w wz) w' → K (az.put (some 34) (.pointer (some ⟨b2, 1, none⟩))) w' := hK
        have HK := Lib.hid hK
        clear hK
        show if Region.wanted _ (yielded _ az.tmps) = true then Oper.wp _ _ az wz K _ else _
        go_simp
        exact HK.out _ hR
      · simp only [List.getElem?_toArray, List.getElem?_cons_zero, List.getElem?_cons_succ, Option.some.injEq] at ho
        subst ho
        have v0 : az.eval (.tmp 34) = .pointer (some ⟨b2, 1, none⟩) := hd 20 34 (by kernel_rfl) (by kernel_rfl)
        have u0 : az.tmps[34]?.getD undef = .pointer (some ⟨b2, 1, none⟩) := by rw [← Array.getD_eq_getD_getElem?]; exact v0
        clear v0
        have v1 : az.eval (.tmp 27) = .bool true := hd 13 27 (by kernel_rfl) (by kernel_rfl)
        have g1 := tmp_bool v1
        have u1 : az.tmps[27]?.getD undef = .bool true := by rw [← Array.getD_eq_getD_getElem?]; exact v1
        clear v1
        clear hd hf
        replace hK : ∀ w', (fun wz => Below w.heap.size w wz) w' → K (az.put (some 35) (.slice none 0 0)) w' := hK
        have HK := Lib.hid hK
        clear hK
        have c1 := (hcell ((hR.block _ (heap_lt HB.out)).trans HB.out) 1 _ rfl).1
        show if Region.wanted _ (yielded _ az.tmps) = true then Oper.wp _ _ az wz K _ else _
        go_simp
        exact HK.out _ hR
      · simp only [List.getElem?_toArray, List.getElem?_cons_zero, List.getElem?_cons_succ, Option.some.injEq] at ho
        subst ho
        have v0 : az.eval (.tmp 2) = v := (hf 2 (by kernel_rfl)).trans (by kernel_rfl)
        have u0 : az.tmps[2]?.getD undef = v := by rw [← Array.getD_eq_getD_getElem?]; exact v0
        clear v0
        have v1 : az.eval (.tmp 27) = .bool true := hd 13 27 (by kernel_rfl) (by kernel_rfl)
        have g1 := tmp_bool v1
        have u1 : az.tmps[27]?.getD undef = .bool true := by rw [← Array.getD_eq_getD_getElem?]; exact v1
        clear v1
        clear hd hf
        replace hK : ∀ w', (fun wz => Below w.heap.size w wz) w' → K (az.put (some 36) (v)) w' := hK
        have HK := Lib.hid hK
        clear hK
        show if Region.wanted _ (yielded _ az.tmps) = true then Oper.wp _ _ az wz K _ else _
        go_simp
        exact HK.out _ hR
      · simp only [List.getElem?_toArray, List.getElem?_cons_zero, List.getElem?_cons_succ, Option.some.injEq] at ho
        subst ho
        have v0 : az.eval (.tmp 31) = .slice none 0 0 := hd 17 31 (by kernel_rfl) (by kernel_rfl)
        have u0 : az.tmps[31]?.getD undef = .slice none 0 0 := by rw [← Array.getD_eq_getD_getElem?]; exact v0
        clear v0
        have v1 : az.eval (.tmp 35) = .slice none 0 0 := hd 21 35 (by kernel_rfl) (by kernel_rfl)
        have u1 : az.tmps[35]?.getD undef = .slice none 0 0 := by rw [← Array.getD_eq_getD_getElem?]; exact v1
        clear v1
        have v2 : az.eval (.tmp 36) = v := hd 22 36 (by kernel_rfl) (by kernel_rfl)
        have u2 : az.tmps[36]?.getD undef = v := by rw [← Array.getD_eq_getD_getElem?]; exact v2
        clear v2
        have v3 : az.eval (.tmp 27) = .bool true := hd 13 27 (by kernel_rfl) (by kernel_rfl)
        have g3 := tmp_bool v3
        have u3 : az.tmps[27]?.getD undef = .bool true := by rw [← Array.getD_eq_getD_getElem?]; exact v3
        clear v3
        clear hd hf
        replace hK : ∀ w', (fun wz => Below w.heap.size w wz) w' → K (az.put (some 37) (.bool true)) w' := hK
        have HK := Lib.hid hK
        clear hK
        show if Region.wanted _ (yielded _ az.tmps) = true then Oper.wp _ _ az wz K _ else _
        go_simp
        refine (e49nil _ _).mono ?_
        rintro _ _ ⟨rfl, rfl⟩
        go_simp
        exact HK.out _ hR
      · simp only [List.getElem?_toArray, List.getElem?_cons_zero, List.getElem?_cons_succ, Option.some.injEq] at ho
        subst ho
        have v0 : az.eval (.tmp 27) = .bool true := hd 13 27 (by kernel_rfl) (by kernel_rfl)
        have u0 : az.tmps[27]?.getD undef = .bool true := by rw [← Array.getD_eq_getD_getElem?]; exact v0
        clear v0
        have v1 : az.eval (.tmp 37) = .bool true := hd 23 37 (by kernel_rfl) (by kernel_rfl)
        have u1 : az.tmps[37]?.getD undef = .bool true := by rw [← Array.getD_eq_getD_getElem?]; exact v1
        clear v1
        clear hd hf
        replace hK : ∀ w', (fun wz => Below w.heap.size w wz) w' → K (az.put (some 38) (.bool true)) w' := hK
        have HK := Lib.hid hK
        clear hK
        show if Region.wanted _ (yielded _ az.tmps) = true then Oper.wp _ _ az wz K _ else _
        go_simp
        exact HK.out _ hR
      · simp only [List.getElem?_toArray, List.getElem?_cons_zero, List.getElem?_cons_succ, Option.some.injEq] at ho
        subst ho
        have v0 : az.eval (.tmp 38) = .bool true := hd 24 38 (by kernel_rfl) (by kernel_rfl)
        have u0 : az.tmps[38]?.getD undef = .bool true := by rw [← Array.getD_eq_getD_getElem?]; exact v0
        clear v0
        clear hd hf
        replace hK : ∀ w', (fun wz => Below w.heap.size w wz) w' → K (az.put (some 6) (.bool true)) w' := hK
        have HK := Lib.hid hK
        clear hK
        show if Region.wanted _ (yielded _ az.tmps) = true then Oper.wp _ _ az wz K _ else _
        go_simp
        exact HK.out _ hR
    case h0e => exact (Below.refl _ _).drew
    case hende =>
      intro wz hR
      have HR := hid hR
      clear hR
      simp only [List.foldl_cons, List.foldl_nil, Act.put, List.setIfInBounds_toArray, List.set_cons_zero, List.set_cons_succ]
      go_wp2_with fail
      go_ret
      exact ⟨rfl, HR.out⟩
end Go.Proofs.Ytphimfimnakclaa
