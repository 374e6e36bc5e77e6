/-
  Keys compared, places compared, the guard. Conditions: each theorem's own.
-/
import Derived.Test.YtphimfimnakclaaRh
import Derived.Test.YtphimfimnakclaaRj
namespace Go.Proofs.Ytphimfimnakclaa
open Go.RowKit Go.Lib Go.ChangeMaps
open Go.Maps (Keyed IsMap)
theorem RowL.cellI {w : World} {P : Nat → Prop} {a : Option Addr} {n c : Nat} {ms : List Int} (h : RowL IntT w P (.slice a n c) ms) {i : Nat} (hi : i < ms.length) : ∃ g, a = some ⟨g, 0, none⟩ ∧ g < w.heap.size ∧ w.cell? ⟨g, i, none⟩ = some (.int .i64 ms[i]) := by
  obtain ⟨g, ha, _, hg, hE⟩ := h.at'.2 i hi
  refine ⟨g, ha, hg, ?_⟩
  have : w.cell? ⟨g, i * 1 + 0, none⟩ = some (.int .i64 ms[i]) := hE
  simpa using this
set_option maxHeartbeats 16000000 in
set_option maxRecDepth 100000 in
theorem ek17 (a1 a2 : Option Addr) (n1 k1 n2 k2 : Nat) (x1 x2 : List Int) (P1 P2 : Nat → Prop) (w : World) (hlen : x1.length ≤ 1000000) (hr1 : RowL IntT w P1 (.slice a1 n1 k1) x1) (hr2 : RowL IntT w P2 (.slice a2 n2 k2) x2) :
    Calls Try.prog 17 #[.slice a1 n1 k1, .slice a2 n2 k2] w fun e w' => DdR (decide (x1 = x2)) w e w' := by
  obtain ⟨rfl, _⟩ := hr1.at'
  obtain ⟨rfl, _⟩ := hr2.at'
  have HR1 := hid hr1
  have HR2 := hid hr2
  clear hr1 hr2
  by_cases hl : x1.length = x2.length
  · obtain ⟨n, hn1⟩ : ∃ n, n = x1.length := ⟨_, rfl⟩
    have hn2 : n = x2.length := hn1.trans hl
    rw [← hn1] at HR1 hlen ⊢
    rw [← hn2] at HR2 ⊢
    have HN := hid (And.intro hn1 hn2)
    clear hn1 hn2 hl
    have HL0 := hid (show EqL w (fun k => x1.getD k 0 = x2.getD k 0) n n (.int .i64 0) w from ⟨0, by simp, rfl, (fun k hk => by omega), Below.refl _ _⟩)
    go_enter Try.func17, Try.ntmps17
    go_wp2_with fail
    go_loopg [5] n (fun g v5 wx => EqL w (fun k => x1.getD k 0 = x2.getD k 0) n g v5 wx)
    case atStart => exact HL0.out
    case round =>
      obtain ⟨i, hig, rfl, hf, hb⟩ := hrel.ex
      clear hrel HL0
      cases gk with
      | zero =>
        have hi : i = n := by omega
        have hcd : ¬ ((i : Int) < (n : Int)) := by omega
        have HQ := hid (And.intro hi (And.intro hf hb))
        clear hi hb hig hf
        go_wp2_with fail
        go_ret
        refine ⟨?_, HQ.out.2.2⟩
        have e : x1 = x2 := eq_of_getD (d := 0) (by rw [← HN.out.1, ← HN.out.2]) (fun k hk => HQ.out.2.1 k (by rw [HQ.out.1, HN.out.1]; exact hk))
        rw [e]
        simp
      | succ g =>
        have hil : i < n := by omega
        have hcd : (i : Int) < (n : Int) := by omega
        have hil1 : i < x1.length := by rw [← HN.out.1]; exact hil
        have hil2 : i < x2.length := by rw [← HN.out.2]; exact hil
        obtain ⟨b1, rfl, hbl1, q1⟩ := HR1.out.cellI hil1
        obtain ⟨b2, rfl, hbl2, q2⟩ := HR2.out.cellI hil2
        have hd1 : x1.getD i 0 = x1[i] := getD_at hil1
        have hd2 : x2.getD i 0 = x2[i] := getD_at hil2
        generalize x1[i] = x at *
        generalize x2[i] = y at *
        have HQ := hid (And.intro (Nat.lt_of_lt_of_le hbl1 hb.size) (And.intro ((cellLow (hb.block _ hbl1) _).trans q1) (And.intro (Nat.lt_of_lt_of_le hbl2 hb.size) ((cellLow (hb.block _ hbl2) _).trans q2))))
        obtain ⟨d, hdd⟩ : ∃ d, (x != y) = d := ⟨_, rfl⟩
        have HDD := hid hdd
        have HD := hid (And.intro hf (And.intro hd1 hd2))
        have HB := hid hb
        have e8 : IntKind.i64.wrap ((i : Int) + 1) = ((i + 1 : Nat) : Int) := by rw [IntKind.wrap_i64]; omega
        clear hdd hf hd1 hd2 q1 q2 hb
        go_wp2_with fail
        refine wp_region_rel [(some 17, .slice (some ⟨b1, 0, none⟩) n k1), (some 18, .int .i64 (i : Nat)), (some 19, .pointer (some ⟨b1, i, none⟩)), (some 20, .int .i64 x), (some 21, .slice (some ⟨b2, 0, none⟩) n k2), (some 22, .int .i64 (i : Nat)), (some 23, .pointer (some ⟨b2, i, none⟩)), (some 24, .int .i64 y), (some 25, .bool d)] (fun wz => Below wr.heap.size wr wz) 26 (by kernel_rfl) (by kernel_rfl) (by kernel_rfl) (by kernel_rfl) ?h06 (by kernel_rfl) ?hop6 ?hend6
        case hop6 =>
          intro i o az wz ho hR hd hf K hK
          have hin : i = 0 ∨ i = 1 ∨ i = 2 ∨ i = 3 ∨ i = 4 ∨ i = 5 ∨ i = 6 ∨ i = 7 ∨ i = 8 := by
            rcases Nat.lt_or_ge i 9 with h | h
            · omega
            · rw [Array.getElem?_eq_none h] at ho
              cases ho
          rcases hin with rfl | rfl | rfl | rfl | rfl | rfl | rfl | rfl | rfl
          · simp only [List.getElem?_toArray, List.getElem?_cons_zero, Option.some.injEq] at ho
            subst ho
            have v0 : az.eval (.tmp 0) = .slice (some ⟨b1, 0, none⟩) n k1 := (hf 0 (by kernel_rfl)).trans (by kernel_rfl)
            have u0 : az.tmps[0]?.getD undef = .slice (some ⟨b1, 0, none⟩) n k1 := by rw [← Array.getD_eq_getD_getElem?]; exact v0
            clear v0
            clear hd hf
            replace hK : ∀ w', (fun wz => Below wr.heap.size wr wz) w' → K (az.put (some 17) (.slice (some ⟨b1, 0, none⟩) n k1)) w' := hK
            have HK := Lib.hid hK
            clear hK
            show if Region.wanted _ (yielded _ az.tmps) = true then Oper.wp _ _ az wz K _ else _
            go_simp
            exact HK.out _ hR
          · simp only [List.getElem?_toArray, List.getElem?_cons_zero, List.getElem?_cons_succ, Option.some.injEq] at ho
            subst ho
            have v0 : az.eval (.tmp 5) = .int .i64 (i : Nat) := (hf 5 (by kernel_rfl)).trans (by kernel_rfl)
            have u0 : az.tmps[5]?.getD undef = .int .i64 (i : Nat) := by rw [← Array.getD_eq_getD_getElem?]; exact v0
            clear v0
            clear hd hf
            replace hK : ∀ w', (fun wz => Below wr.heap.size wr wz) w' → K (az.put (some 18) (.int .i64 (i : Nat))) w' := hK
            have HK := Lib.hid hK
            clear hK
            show if Region.wanted _ (yielded _ az.tmps) = true then Oper.wp _ _ az wz K _ else _
            go_simp
            exact HK.out _ hR
          · simp only [List.getElem?_toArray, List.getElem?_cons_zero, List.getElem?_cons_succ, Option.some.injEq] at ho
            subst ho
            have v0 : az.eval (.tmp 17) = .slice (some ⟨b1, 0, none⟩) n k1 := hd 0 17 (by kernel_rfl) (by kernel_rfl)
            have u0 : az.tmps[17]?.getD undef = .slice (some ⟨b1, 0, none⟩) n k1 := by rw [← Array.getD_eq_getD_getElem?]; exact v0
            clear v0
            have v1 : az.eval (.tmp 18) = .int .i64 (i : Nat) := hd 1 18 (by kernel_rfl) (by kernel_rfl)
            have u1 : az.tmps[18]?.getD undef = .int .i64 (i : Nat) := by rw [← Array.getD_eq_getD_getElem?]; exact v1
            clear v1
            clear hd hf
            replace hK : ∀ w', (fun wz => Below wr.heap.size wr wz) w' → K (az.put (some 19) (.pointer (some ⟨b1, i, none⟩))) w' := hK
            have HK := Lib.hid hK
            clear hK
            have hjl := hil
            show if Region.wanted _ (yielded _ az.tmps) = true then Oper.wp _ _ az wz K _ else _
            go_simp
            exact HK.out _ hR
          · simp only [List.getElem?_toArray, List.getElem?_cons_zero, List.getElem?_cons_succ, Option.some.injEq] at ho
            subst ho
            have v0 : az.eval (.tmp 19) = .pointer (some ⟨b1, i, none⟩) := hd 2 19 (by kernel_rfl) (by kernel_rfl)
            have u0 : az.tmps[19]?.getD undef = .pointer (some ⟨b1, i, none⟩) := by rw [← Array.getD_eq_getD_getElem?]; exact v0
            clear v0
            clear hd hf
            replace hK : ∀ w', (fun wz => Below wr.heap.size wr wz) w' → K (az.put (some 20) (.int .i64 x)) w' := hK
            have HK := Lib.hid hK
            clear hK
            have c0 := (cellLow (hR.block _ HQ.out.1) _).trans HQ.out.2.1
            show if Region.wanted _ (yielded _ az.tmps) = true then Oper.wp _ _ az wz K _ else _
            go_simp
            exact HK.out _ hR
          · simp only [List.getElem?_toArray, List.getElem?_cons_zero, List.getElem?_cons_succ, Option.some.injEq] at ho
            subst ho
            have v0 : az.eval (.tmp 1) = .slice (some ⟨b2, 0, none⟩) n k2 := (hf 1 (by kernel_rfl)).trans (by kernel_rfl)
            have u0 : az.tmps[1]?.getD undef = .slice (some ⟨b2, 0, none⟩) n k2 := by rw [← Array.getD_eq_getD_getElem?]; exact v0
            clear v0
            clear hd hf
            replace hK : ∀ w', (fun wz => Below wr.heap.size wr wz) w' → K (az.put (some 21) (.slice (some ⟨b2, 0, none⟩) n k2)) w' := hK
            have HK := Lib.hid hK
            clear hK
            show if Region.wanted _ (yielded _ az.tmps) = true then Oper.wp _ _ az wz K _ else _
            go_simp
            exact HK.out _ hR
          · simp only [List.getElem?_toArray, List.getElem?_cons_zero, List.getElem?_cons_succ, Option.some.injEq] at ho
            subst ho
            have v0 : az.eval (.tmp 5) = .int .i64 (i : Nat) := (hf 5 (by kernel_rfl)).trans (by kernel_rfl)
            have u0 : az.tmps[5]?.getD undef = .int .i64 (i : Nat) := by rw [← Array.getD_eq_getD_getElem?]; exact v0
            clear v0
            clear hd hf
            replace hK : ∀ w', (fun wz => Below wr.heap.size wr wz) w' → K (az.put (some 22) (.int .i64 (i : Nat))) w' := hK
            have HK := Lib.hid hK
            clear hK
            show if Region.wanted _ (yielded _ az.tmps) = true then Oper.wp _ _ az wz K _ else _
            go_simp
            exact HK.out _ hR
          · simp only [List.getElem?_toArray, List.getElem?_cons_zero, List.getElem?_cons_succ, Option.some.injEq] at ho
            subst ho
            have v0 : az.eval (.tmp 21) = .slice (some ⟨b2, 0, none⟩) n k2 := hd 4 21 (by kernel_rfl) (by kernel_rfl)
            have u0 : az.tmps[21]?.getD undef = .slice (some ⟨b2, 0, none⟩) n k2 := by rw [← Array.getD_eq_getD_getElem?]; exact v0
            clear v0
            have v1 : az.eval (.tmp 22) = .int .i64 (i : Nat) := hd 5 22 (by kernel_rfl) (by kernel_rfl)
            have u1 : az.tmps[22]?.getD undef = .int .i64 (i : Nat) := by rw [← Array.getD_eq_getD_getElem?]; exact v1
            clear v1
            clear hd hf
            replace hK : ∀ w', (fun wz => Below wr.heap.size wr wz) w' → K (az.put (some 23) (.pointer (some ⟨b2, i, none⟩))) w' := hK
            have HK := Lib.hid hK
            clear hK
            have hjl := hil
            show if Region.wanted _ (yielded _ az.tmps) = true then Oper.wp _ _ az wz K _ else _
            go_simp
            exact HK.out _ hR
          · simp only [List.getElem?_toArray, List.getElem?_cons_zero, List.getElem?_cons_succ, Option.some.injEq] at ho
            subst ho
            have v0 : az.eval (.tmp 23) = .pointer (some ⟨b2, i, none⟩) := hd 6 23 (by kernel_rfl) (by kernel_rfl)
            have u0 : az.tmps[23]?.getD undef = .pointer (some ⟨b2, i, none⟩) := by rw [← Array.getD_eq_getD_getElem?]; exact v0
            clear v0
            clear hd hf
            replace hK : ∀ w', (fun wz => Below wr.heap.size wr wz) w' → K (az.put (some 24) (.int .i64 y)) w' := hK
            have HK := Lib.hid hK
            clear hK
            have c0 := (cellLow (hR.block _ HQ.out.2.2.1) _).trans HQ.out.2.2.2
            show if Region.wanted _ (yielded _ az.tmps) = true then Oper.wp _ _ az wz K _ else _
            go_simp
            exact HK.out _ hR
          · simp only [List.getElem?_toArray, List.getElem?_cons_zero, List.getElem?_cons_succ, Option.some.injEq] at ho
            subst ho
            have v0 : az.eval (.tmp 20) = .int .i64 x := hd 3 20 (by kernel_rfl) (by kernel_rfl)
            have u0 : az.tmps[20]?.getD undef = .int .i64 x := by rw [← Array.getD_eq_getD_getElem?]; exact v0
            clear v0
            have v1 : az.eval (.tmp 24) = .int .i64 y := hd 7 24 (by kernel_rfl) (by kernel_rfl)
            have u1 : az.tmps[24]?.getD undef = .int .i64 y := by rw [← Array.getD_eq_getD_getElem?]; exact v1
            clear v1
            clear hd hf
            replace hK : ∀ w', (fun wz => Below wr.heap.size wr wz) w' → K (az.put (some 25) (.bool d)) w' := hK
            have HK := Lib.hid hK
            clear hK
            have hdd := HDD.out
            show if Region.wanted _ (yielded _ az.tmps) = true then Oper.wp _ _ az wz K _ else _
            go_simp
            exact HK.out _ hR
        case h06 => exact (Below.refl _ _).drew
        case hend6 =>
          intro wz2 hR
          have HR := hid (HB.out.trans (hR.mono HB.out.size))
          clear hR
          simp only [List.foldl_cons, List.foldl_nil, Act.put, List.setIfInBounds_toArray, List.set_cons_zero, List.set_cons_succ]
          cases d
          · go_wp2_with fail
            go_roundg g
            case measure => omega
            case rel =>
              refine ⟨i + 1, by omega, rfl, fun k hk => ?_, HR.out⟩
              by_cases e : k < i
              · exact HD.out.1 k e
              · have e2 : k = i := by omega
                subst e2
                show x1.getD k 0 = x2.getD k 0
                rw [HD.out.2.1, HD.out.2.2]
                simpa using HDD.out
          · go_wp2_with fail
            go_ret
            refine ⟨?_, HR.out⟩
            have e : x1.getD i 0 ≠ x2.getD i 0 := by
              rw [HD.out.2.1, HD.out.2.2]
              simpa using HDD.out
            rw [ne_of_getD e]
            rfl
  · have hcd : ¬ ((x1.length : Int) = (x2.length : Int)) := by omega
    have g9 : ((x1.length : Int) == (x2.length : Int)) = false := by simp; omega
    have HLN := hid hl
    clear hl
    go_enter Try.func17, Try.ntmps17
    go_wp2_with fail
    go_ret
    refine ⟨?_, Below.refl _ _⟩
    have e : x1 ≠ x2 := by
      rintro rfl
      exact HLN.out rfl
    simp [e]
set_option maxHeartbeats 16000000 in
set_option maxRecDepth 100000 in
/-- the places are those that were wanted -/
theorem sl13 (a1 a2 : Option Addr) (c1 c2 : Nat) (l : List Int) (P : Nat → Prop) (w : World) (hn : l.length ≤ 4096) (hx : ∀ x ∈ l, 0 ≤ x ∧ x < 1000000) (h1 : Locs w a1 l) (h2 : RowL IntT w P (.slice a2 l.length c2) l) :
    Calls Try.prog 13 #[.slice a1 l.length c1, .slice a2 l.length c2] w fun e w' => DdR true w e w' := by
  have HL1 := hid h1
  have HL2 := hid h2
  have HX := hid hx
  have HL0 := hid (show Lo10 w l.length l.length (.int .i64 0) w from ⟨0, by simp, rfl, Below.refl _ _⟩)
  clear h1 h2 hx
  go_enter Try.func13, Try.ntmps13
  go_wp2_with fail
  go_loopg [5] l.length (fun g v5 wx => Lo10 w l.length g v5 wx)
  case atStart => exact HL0.out
  case round =>
    obtain ⟨i, hig, rfl, hb⟩ := hrel.ex
    clear hrel HL0
    have HB := hid hb
    clear hb
    cases gk with
    | zero =>
      have hcd : ¬ ((i : Int) < (l.length : Int)) := by omega
      go_wp2_with fail
      go_ret
      exact ⟨rfl, HB.out⟩
    | succ g =>
      have hil : i < l.length := by omega
      have hcd : (i : Int) < (l.length : Int) := by omega
      obtain ⟨g1, o1, rfl, hg1, q1⟩ := HL1.out i hil
      obtain ⟨g2, rfl, hg2, q2⟩ := HL2.out.cellI hil
      have hwx := HX.out l[i] (List.getElem_mem hil)
      generalize l[i] = x at *
      have HWX := hid (show IntKind.i32.wrap x = x by
        unfold IntKind.wrap
        simp [IntKind.bits, IntKind.signed]
        omega)
      have H1 := hid (And.intro hg1 q1)
      have H2 := hid (And.intro hg2 q2)
      have e4 : IntKind.i64.wrap ((i : Int) + 1) = ((i + 1 : Nat) : Int) := by rw [IntKind.wrap_i64]; omega
      clear hg1 hg2 q1 q2 hwx
      go_wp2_with fail
      refine wp_region_rel [(some 17, .slice (some ⟨g1, o1, none⟩) l.length c1), (some 18, .int .i64 (i : Nat)), (some 19, .pointer (some ⟨g1, o1 + i * 2, none⟩)), (some 20, .pointer (some ⟨g1, o1 + i * 2 + 1, none⟩)), (some 21, .pointer (some ⟨g1, o1 + i * 2 + 1, none⟩)), (some 22, .int .i32 x), (some 23, .slice (some ⟨g2, 0, none⟩) l.length c2), (some 24, .int .i64 (i : Nat)), (some 25, .pointer (some ⟨g2, i, none⟩)), (some 26, .int .i64 x), (some 27, .int .i32 x), (some 28, .bool false)] (fun wz => Below w.heap.size w wz) 29 (by kernel_rfl) (by kernel_rfl) (by kernel_rfl) (by kernel_rfl) ?h06 (by kernel_rfl) ?hop6 ?hend6
      case hop6 =>
        intro i o az wz ho hR hd hf K hK
        have hin : i = 0 ∨ i = 1 ∨ i = 2 ∨ i = 3 ∨ i = 4 ∨ i = 5 ∨ i = 6 ∨ i = 7 ∨ i = 8 ∨ i = 9 ∨ i = 10 ∨ i = 11 := by
          rcases Nat.lt_or_ge i 12 with h | h
          · omega
          · rw [Array.getElem?_eq_none h] at ho
            cases ho
        rcases hin with rfl | rfl | rfl | rfl | rfl | rfl | rfl | rfl | rfl | rfl | rfl | rfl
        · simp only [List.getElem?_toArray, List.getElem?_cons_zero, Option.some.injEq] at ho
          subst ho
          have v0 : az.eval (.tmp 0) = .slice (some ⟨g1, o1, none⟩) l.length c1 := (hf 0 (by kernel_rfl)).trans (by kernel_rfl)
          have u0 : az.tmps[0]?.getD undef = .slice (some ⟨g1, o1, none⟩) l.length c1 := by rw [← Array.getD_eq_getD_getElem?]; exact v0
          clear v0
          clear hd hf
          replace hK : ∀ w', (fun wz => Below w.heap.size w wz) w' → K (az.put (some 17) (.slice (some ⟨g1, o1, none⟩) l.length c1)) w' := hK
          have HK := Lib.hid hK
          clear hK
          show if Region.wanted _ (yielded _ az.tmps) = true then Oper.wp _ _ az wz K _ else _
          go_simp
          exact HK.out _ hR
        · simp only [List.getElem?_toArray, List.getElem?_cons_zero, List.getElem?_cons_succ, Option.some.injEq] at ho
          subst ho
          have v0 : az.eval (.tmp 5) = .int .i64 (i : Nat) := (hf 5 (by kernel_rfl)).trans (by kernel_rfl)
          have u0 : az.tmps[5]?.getD undef = .int .i64 (i : Nat) := by rw [← Array.getD_eq_getD_getElem?]; exact v0
          clear v0
          clear hd hf
          replace hK : ∀ w', (fun wz => Below w.heap.size w wz) w' → K (az.put (some 18) (.int .i64 (i : Nat))) w' := hK
          have HK := Lib.hid hK
          clear hK
          show if Region.wanted _ (yielded _ az.tmps) = true then Oper.wp _ _ az wz K _ else _
          go_simp
          exact HK.out _ hR
        · simp only [List.getElem?_toArray, List.getElem?_cons_zero, List.getElem?_cons_succ, Option.some.injEq] at ho
          subst ho
          have v0 : az.eval (.tmp 17) = .slice (some ⟨g1, o1, none⟩) l.length c1 := hd 0 17 (by kernel_rfl) (by kernel_rfl)
          have u0 : az.tmps[17]?.getD undef = .slice (some ⟨g1, o1, none⟩) l.length c1 := by rw [← Array.getD_eq_getD_getElem?]; exact v0
          clear v0
          have v1 : az.eval (.tmp 18) = .int .i64 (i : Nat) := hd 1 18 (by kernel_rfl) (by kernel_rfl)
          have u1 : az.tmps[18]?.getD undef = .int .i64 (i : Nat) := by rw [← Array.getD_eq_getD_getElem?]; exact v1
          clear v1
          clear hd hf
          replace hK : ∀ w', (fun wz => Below w.heap.size w wz) w' → K (az.put (some 19) (.pointer (some ⟨g1, o1 + i * 2, none⟩))) w' := hK
          have HK := Lib.hid hK
          clear hK
          have hjl := hil
          show if Region.wanted _ (yielded _ az.tmps) = true then Oper.wp _ _ az wz K _ else _
          go_simp
          exact HK.out _ hR
        · simp only [List.getElem?_toArray, List.getElem?_cons_zero, List.getElem?_cons_succ, Option.some.injEq] at ho
          subst ho
          have v0 : az.eval (.tmp 19) = .pointer (some ⟨g1, o1 + i * 2, none⟩) := hd 2 19 (by kernel_rfl) (by kernel_rfl)
          have u0 : az.tmps[19]?.getD undef = .pointer (some ⟨g1, o1 + i * 2, none⟩) := by rw [← Array.getD_eq_getD_getElem?]; exact v0
          clear v0
          clear hd hf
          replace hK : ∀ w', (fun wz => Below w.heap.size w wz) w' → K (az.put (some 20) (.pointer (some ⟨g1, o1 + i * 2 + 1, none⟩))) w' := hK
          have HK := Lib.hid hK
          clear hK
          show if Region.wanted _ (yielded _ az.tmps) = true then Oper.wp _ _ az wz K _ else _
          go_simp
          exact HK.out _ hR
        · simp only [List.getElem?_toArray, List.getElem?_cons_zero, List.getElem?_cons_succ, Option.some.injEq] at ho
          subst ho
          have v0 : az.eval (.tmp 20) = .pointer (some ⟨g1, o1 + i * 2 + 1, none⟩) := hd 3 20 (by kernel_rfl) (by kernel_rfl)
          have u0 : az.tmps[20]?.getD undef = .pointer (some ⟨g1, o1 + i * 2 + 1, none⟩) := by rw [← Array.getD_eq_getD_getElem?]; exact v0
          clear v0
          clear hd hf
          replace hK : ∀ w', (fun wz => Below w.heap.size w wz) w' → K (az.put (some 21) (.pointer (some ⟨g1, o1 + i * 2 + 1, none⟩))) w' := hK
          have HK := Lib.hid hK
          clear hK
          show if Region.wanted _ (yielded _ az.tmps) = true then Oper.wp _ _ az wz K _ else _
          go_simp
          exact HK.out _ hR
        · simp only [List.getElem?_toArray, List.getElem?_cons_zero, List.getElem?_cons_succ, Option.some.injEq] at ho
          subst ho
          have v0 : az.eval (.tmp 21) = .pointer (some ⟨g1, o1 + i * 2 + 1, none⟩) := hd 4 21 (by kernel_rfl) (by kernel_rfl)
          have u0 : az.tmps[21]?.getD undef = .pointer (some ⟨g1, o1 + i * 2 + 1, none⟩) := by rw [← Array.getD_eq_getD_getElem?]; exact v0
          clear v0
          clear hd hf
          replace hK : ∀ w', (fun wz => Below w.heap.size w wz) w' → K (az.put (some 22) (.int .i32 x)) w' := hK
          have HK := Lib.hid hK
          clear hK
          have c0 := (cellLow (hR.block _ H1.out.1) _).trans H1.out.2
          have hjl := hil
          show if Region.wanted _ (yielded _ az.tmps) = true then Oper.wp _ _ az wz K _ else _
          go_simp
          exact HK.out _ hR
        · simp only [List.getElem?_toArray, List.getElem?_cons_zero, List.getElem?_cons_succ, Option.some.injEq] at ho
          subst ho
          have v0 : az.eval (.tmp 1) = .slice (some ⟨g2, 0, none⟩) l.length c2 := (hf 1 (by kernel_rfl)).trans (by kernel_rfl)
          have u0 : az.tmps[1]?.getD undef = .slice (some ⟨g2, 0, none⟩) l.length c2 := by rw [← Array.getD_eq_getD_getElem?]; exact v0
          clear v0
          clear hd hf
          replace hK : ∀ w', (fun wz => Below w.heap.size w wz) w' → K (az.put (some 23) (.slice (some ⟨g2, 0, none⟩) l.length c2)) w' := hK
          have HK := Lib.hid hK
          clear hK
          show if Region.wanted _ (yielded _ az.tmps) = true then Oper.wp _ _ az wz K _ else _
          go_simp
          exact HK.out _ hR
        · simp only [List.getElem?_toArray, List.getElem?_cons_zero, List.getElem?_cons_succ, Option.some.injEq] at ho
          subst ho
          have v0 : az.eval (.tmp 5) = .int .i64 (i : Nat) := (hf 5 (by kernel_rfl)).trans (by kernel_rfl)
          have u0 : az.tmps[5]?.getD undef = .int .i64 (i : Nat) := by rw [← Array.getD_eq_getD_getElem?]; exact v0
          clear v0
          clear hd hf
          replace hK : ∀ w', (fun wz => Below w.heap.size w wz) w' → K (az.put (some 24) (.int .i64 (i : Nat))) w' := hK
          have HK := Lib.hid hK
          clear hK
          show if Region.wanted _ (yielded _ az.tmps) = true then Oper.wp _ _ az wz K _ else _
          go_simp
          exact HK.out _ hR
        · simp only [List.getElem?_toArray, List.getElem?_cons_zero, List.getElem?_cons_succ, Option.some.injEq] at ho
          subst ho
          have v0 : az.eval (.tmp 23) = .slice (some ⟨g2, 0, none⟩) l.length c2 := hd 6 23 (by kernel_rfl) (by kernel_rfl)
          have u0 : az.tmps[23]?.getD undef = .slice (some ⟨g2, 0, none⟩) l.length c2 := by rw [← Array.getD_eq_getD_getElem?]; exact v0
          clear v0
          have v1 : az.eval (.tmp 24) = .int .i64 (i : Nat) := hd 7 24 (by kernel_rfl) (by kernel_rfl)
          have u1 : az.tmps[24]?.getD undef = .int .i64 (i : Nat) := by rw [← Array.getD_eq_getD_getElem?]; exact v1
          clear v1
          clear hd hf
          replace hK : ∀ w', (fun wz => Below w.heap.size w wz) w' → K (az.put (some 25) (.pointer (some ⟨g2, i, none⟩))) w' := hK
          have HK := Lib.hid hK
          clear hK
          have hjl := hil
          show if Region.wanted _ (yielded _ az.tmps) = true then Oper.wp _ _ az wz K _ else _
          go_simp
          exact HK.out _ hR
        · simp only [List.getElem?_toArray, List.getElem?_cons_zero, List.getElem?_cons_succ, Option.some.injEq] at ho
          subst ho
          have v0 : az.eval (.tmp 25) = .pointer (some ⟨g2, i, none⟩) := hd 8 25 (by kernel_rfl) (by kernel_rfl)
          have u0 : az.tmps[25]?.getD undef = .pointer (some ⟨g2, i, none⟩) := by rw [← Array.getD_eq_getD_getElem?]; exact v0
          clear v0
          clear hd hf
          replace hK : ∀ w', (fun wz => Below w.heap.size w wz) w' → K (az.put (some 26) (.int .i64 x)) w' := hK
          have HK := Lib.hid hK
          clear hK
          have c0 := (cellLow (hR.block _ H2.out.1) _).trans H2.out.2
          have hjl := hil
          show if Region.wanted _ (yielded _ az.tmps) = true then Oper.wp _ _ az wz K _ else _
          go_simp
          exact HK.out _ hR
        · simp only [List.getElem?_toArray, List.getElem?_cons_zero, List.getElem?_cons_succ, Option.some.injEq] at ho
          subst ho
          have v0 : az.eval (.tmp 26) = .int .i64 x := hd 9 26 (by kernel_rfl) (by kernel_rfl)
          have u0 : az.tmps[26]?.getD undef = .int .i64 x := by rw [← Array.getD_eq_getD_getElem?]; exact v0
          clear v0
          clear hd hf
          replace hK : ∀ w', (fun wz => Below w.heap.size w wz) w' → K (az.put (some 27) (.int .i32 x)) w' := hK
          have HK := Lib.hid hK
          clear hK
          have hwx := HWX.out
          show if Region.wanted _ (yielded _ az.tmps) = true then Oper.wp _ _ az wz K _ else _
          go_simp
          exact HK.out _ hR
        · simp only [List.getElem?_toArray, List.getElem?_cons_zero, List.getElem?_cons_succ, Option.some.injEq] at ho
          subst ho
          have v0 : az.eval (.tmp 22) = .int .i32 x := hd 5 22 (by kernel_rfl) (by kernel_rfl)
          have u0 : az.tmps[22]?.getD undef = .int .i32 x := by rw [← Array.getD_eq_getD_getElem?]; exact v0
          clear v0
          have v1 : az.eval (.tmp 27) = .int .i32 x := hd 10 27 (by kernel_rfl) (by kernel_rfl)
          have u1 : az.tmps[27]?.getD undef = .int .i32 x := by rw [← Array.getD_eq_getD_getElem?]; exact v1
          clear v1
          clear hd hf
          replace hK : ∀ w', (fun wz => Below w.heap.size w wz) w' → K (az.put (some 28) (.bool false)) w' := hK
          have HK := Lib.hid hK
          clear hK
          show if Region.wanted _ (yielded _ az.tmps) = true then Oper.wp _ _ az wz K _ else _
          go_simp
          exact HK.out _ hR
      case h06 => exact HB.out.drew
      case hend6 =>
        intro wz hR
        have HR := hid hR
        clear hR
        simp only [List.foldl_cons, List.foldl_nil, Act.put, List.setIfInBounds_toArray, List.set_cons_zero, List.set_cons_succ]
        go_wp2_with fail
        go_roundg g
        case measure => omega
        case rel => exact ⟨i + 1, by omega, rfl, HR.out⟩
theorem bytes11 (a0 a1 a2 a3 a4 a5 a6 a7 a8 a9 : Option Addr) (n0 n1 n2 n3 n4 n5 n6 n7 n8 n9 k0 k1 k2 k3 k4 k5 k6 k7 k8 k9 : Nat) (w : World) :
    Calls Try.prog 11 #[.slice a0 n0 k0, .slice a1 n1 k1, .slice a2 n2 k2, .slice a3 n3 k3, .slice a4 n4 k4, .slice a5 n5 k5, .slice a6 n6 k6, .slice a7 n7 k7, .slice a8 n8 k8, .slice a9 n9 k9] w fun e w' => (∃ b, e = .returned (.bool b)) ∧ w' = w := by
  go_enter Try.func11, Try.ntmps11
  go_wp2_with fail
  all_goals (go_ret; exact ⟨⟨_, rfl⟩, rfl⟩)
end Go.Proofs.Ytphimfimnakclaa
