/-
  Equal of lists of complex selectors. Conditions: each theorem's own.
-/
import Derived.Test.YtphimfimnakclaaQv
namespace Go.Proofs.Ytphimfimnakclaa
open Go.RowKit Go.Lib
set_option maxHeartbeats 16000000 in
set_option maxRecDepth 100000 in
theorem cs48 (S : Elt Nat 3) (hS : EqOK S) (a1 a2 : Option Addr) (n1 k1 n2 k2 : Nat) (x1 x2 : Rl) (P1 P2 : Nat → Prop) (v : Value) (w : World) (hg1 : Good x1) (hg2 : Good x2) (hr1 : RowL (CxT S) w P1 (.slice a1 n1 k1) x1) (hr2 : RowL (CxT S) w P2 (.slice a2 n2 k2) x2) :
    Calls Try.prog 48 #[.slice a1 n1 k1, .slice a2 n2 k2, v] w fun e w' => DdR (decide (x1 = x2)) w e w' := by
  obtain ⟨rfl, _⟩ := hr1.at'
  obtain ⟨rfl, _⟩ := hr2.at'
  have HR1 := hid hr1
  have HR2 := hid hr2
  have HS := hid hS
  have HG := hid (And.intro hg1 hg2)
  clear hr1 hr2 hS hg1 hg2
  by_cases hl : x1.length = x2.length
  · obtain ⟨n, hn1⟩ : ∃ n, n = x1.length := ⟨_, rfl⟩
    have hn2 : n = x2.length := hn1.trans hl
    rw [← hn1] at HR1 ⊢
    rw [← hn2] at HR2 ⊢
    have HN := hid (And.intro hn1 hn2)
    have hn3 : n ≤ 3 := by have := HG.out.1.1; omega
    clear hn1 hn2 hl
    have HL0 := hid (show EqL w (fun k => x1.getD k [] = x2.getD k []) n n (.int .i64 0) w from ⟨0, by simp, rfl, (fun k hk => by omega), Below.refl _ _⟩)
    go_enter Try.func48, Try.ntmps48
    go_wp2_with fail
    go_loopg [16] n (fun g v16 wx => EqL w (fun k => x1.getD k [] = x2.getD k []) n g v16 wx)
    case atStart => exact HL0.out
    case round =>
      obtain ⟨i, hig, rfl, hf, hb⟩ := hrel.ex
      clear hrel HL0
      cases gk with
      | zero =>
        have hi : i = n := by omega
        have hcd : ¬ ((i : Int) < (n : Int)) := by omega
        have HQ := hid (And.intro hi (And.intro hf hb))
        clear hi hb hig hf
        go_wp2_with fail
        go_ret
        refine ⟨?_, HQ.out.2.2⟩
        have e : x1 = x2 := eq_of_getD (d := []) (by rw [← HN.out.1, ← HN.out.2]) (fun k hk => HQ.out.2.1 k (by rw [HQ.out.1, HN.out.1]; exact hk))
        rw [e]
        simp
      | succ g =>
        have hil : i < n := by omega
        have hcd : (i : Int) < (n : Int) := by omega
        have hil1 : i < x1.length := by rw [← HN.out.1]; exact hil
        have hil2 : i < x2.length := by rw [← HN.out.2]; exact hil
        obtain ⟨b1, rfl, hpb1, hbl1, s1, q1, hrow1⟩ := HR1.out.at'.2 i hil1
        obtain ⟨b2, rfl, hpb2, hbl2, s2, r1, hrow2⟩ := HR2.out.at'.2 i hil2
        have hd1 : x1.getD i [] = x1[i] := getD_at hil1
        have hd2 : x2.getD i [] = x2[i] := getD_at hil2
        have hm1 := HG.out.1.2 x1[i] (List.getElem_mem hil1)
        have hm2 := HG.out.2.2 x2[i] (List.getElem_mem hil2)
        generalize x1[i] = cx1 at *
        generalize x2[i] = cx2 at *
        obtain ⟨va1, vc1, rfl, _⟩ := id hrow1
        obtain ⟨va2, vc2, rfl, _⟩ := id hrow2
        have c1 : wr.cell? ⟨b1, i, none⟩ = some (.slice va1 cx1.length vc1) := (hb.cell (p := ⟨b1, i, none⟩) hbl1).trans (by simpa using q1)
        obtain ⟨O3, hO3⟩ : ∃ O, O = (Obj.cells #[.slice va1 cx1.length vc1] 56) := ⟨_, rfl⟩
        obtain ⟨W3, hW3⟩ : ∃ X, X = wr.alloc O3 := ⟨_, rfl⟩
        have hb3 : Below wr.heap.size wr W3 := by rw [hW3]; exact (Below.refl _ _).alloc (Nat.le_refl _) _
        have hX0 : W3.heap[wr.heap.size]? = some (Obj.cells #[.slice va1 cx1.length vc1] 56) := by rw [hW3, ← hO3]; exact heap_alloc_new _ _
        have hbw3 := hb.trans (hb3.mono hb.size)
        have hb43 : b2 < W3.heap.size := Nat.lt_of_lt_of_le hbl2 hbw3.size
        have hX2 : W3.cell? ⟨b2, i, none⟩ = some (.slice va2 cx2.length vc2) := (hbw3.cell (p := ⟨b2, i, none⟩) hbl2).trans (by simpa using r1)
        have HBX := hid (And.intro hbw3 hb)
        have HX := hid (And.intro hX0 (And.intro hb43 hX2))
        have HROW := hid (And.intro hrow1 hrow2)
        have HGX := hid (And.intro hm1 hm2)
        obtain ⟨d, hdd⟩ : ∃ d, decide (cx1 = cx2) = d := ⟨_, rfl⟩
        have HDD := hid hdd
        have HD := hid (And.intro hdd (And.intro hf (And.intro hd1 hd2)))
        have e8 : IntKind.i64.wrap ((i : Int) + 1) = ((i + 1 : Nat) : Int) := by rw [IntKind.wrap_i64]; omega
        clear hdd hf hd1 hd2 hpb1 hpb2 hrow1 hrow2 hm1 hm2 q1 r1 hb3 hX0 hbw3 hb43 hX2 hb
        go_wp2_with fail
        rw [← hO3, ← hW3]
        clear c1 hO3 hW3
        refine wp_region_rel [(some 21, .agg #[.slice va1 cx1.length vc1]), (some 22, .slice (some ⟨b2, 0, none⟩) n k2), (some 23, .int .i64 (i : Nat)), (some 24, .pointer (some ⟨b2, i, none⟩)), (some 25, .agg #[.slice va2 cx2.length vc2]), (some 26, v), (some 27, .bool d), (some 28, .bool (!d))] (fun wz => Below W3.heap.size W3 wz) 30 (by kernel_rfl) (by kernel_rfl) (by kernel_rfl) (by kernel_rfl) ?h06 (by kernel_rfl) ?hop6 ?hend6
        case hop6 =>
          intro i o az wz ho hR hd hf K hK
          have hin : i = 0 ∨ i = 1 ∨ i = 2 ∨ i = 3 ∨ i = 4 ∨ i = 5 ∨ i = 6 ∨ i = 7 := by
            rcases Nat.lt_or_ge i 8 with h | h
            · omega
            · rw [Array.getElem?_eq_none h] at ho
              cases ho
          rcases hin with rfl | rfl | rfl | rfl | rfl | rfl | rfl | rfl
          · simp only [List.getElem?_toArray, List.getElem?_cons_zero, Option.some.injEq] at ho
            subst ho
            have v0 : az.eval (.tmp 8) = .pointer (some ⟨wr.heap.size, 0, none⟩) := (hf 8 (by kernel_rfl)).trans (by kernel_rfl)
            have u0 : az.tmps[8]?.getD undef = .pointer (some ⟨wr.heap.size, 0, none⟩) := by rw [← Array.getD_eq_getD_getElem?]; exact v0
            clear v0
            clear hd hf
            replace hK : ∀ w', (fun wz => Below W3.heap.size W3 wz) w' → K (az.put (some 21) (.agg #[.slice va1 cx1.length vc1])) w' := hK
            have HK := Lib.hid hK
            clear hK
            have c0 := (hcell ((hR.block _ (heap_lt HX.out.1)).trans HX.out.1) 0 _ rfl).1
            show if Region.wanted _ (yielded _ az.tmps) = true then Oper.wp _ _ az wz K _ else _
            go_simp
            exact HK.out _ hR
          · simp only [List.getElem?_toArray, List.getElem?_cons_zero, List.getElem?_cons_succ, Option.some.injEq] at ho
            subst ho
            have v0 : az.eval (.tmp 1) = .slice (some ⟨b2, 0, none⟩) n k2 := (hf 1 (by kernel_rfl)).trans (by kernel_rfl)
            have u0 : az.tmps[1]?.getD undef = .slice (some ⟨b2, 0, none⟩) n k2 := by rw [← Array.getD_eq_getD_getElem?]; exact v0
            clear v0
            clear hd hf
            replace hK : ∀ w', (fun wz => Below W3.heap.size W3 wz) w' → K (az.put (some 22) (.slice (some ⟨b2, 0, none⟩) n k2)) w' := hK
            have HK := Lib.hid hK
            clear hK
            show if Region.wanted _ (yielded _ az.tmps) = true then Oper.wp _ _ az wz K _ else _
            go_simp
            exact HK.out _ hR
          · simp only [List.getElem?_toArray, List.getElem?_cons_zero, List.getElem?_cons_succ, Option.some.injEq] at ho
            subst ho
            have v0 : az.eval (.tmp 7) = .int .i64 (i : Nat) := (hf 7 (by kernel_rfl)).trans (by kernel_rfl)
            have u0 : az.tmps[7]?.getD undef = .int .i64 (i : Nat) := by rw [← Array.getD_eq_getD_getElem?]; exact v0
            clear v0
            clear hd hf
            replace hK : ∀ w', (fun wz => Below W3.heap.size W3 wz) w' → K (az.put (some 23) (.int .i64 (i : Nat))) w' := hK
            have HK := Lib.hid hK
            clear hK
            show if Region.wanted _ (yielded _ az.tmps) = true then Oper.wp _ _ az wz K _ else _
            go_simp
            exact HK.out _ hR
          · simp only [List.getElem?_toArray, List.getElem?_cons_zero, List.getElem?_cons_succ, Option.some.injEq] at ho
            subst ho
            have v0 : az.eval (.tmp 22) = .slice (some ⟨b2, 0, none⟩) n k2 := hd 1 22 (by kernel_rfl) (by kernel_rfl)
            have u0 : az.tmps[22]?.getD undef = .slice (some ⟨b2, 0, none⟩) n k2 := by rw [← Array.getD_eq_getD_getElem?]; exact v0
            clear v0
            have v1 : az.eval (.tmp 23) = .int .i64 (i : Nat) := hd 2 23 (by kernel_rfl) (by kernel_rfl)
            have u1 : az.tmps[23]?.getD undef = .int .i64 (i : Nat) := by rw [← Array.getD_eq_getD_getElem?]; exact v1
            clear v1
            clear hd hf
            replace hK : ∀ w', (fun wz => Below W3.heap.size W3 wz) w' → K (az.put (some 24) (.pointer (some ⟨b2, i, none⟩))) w' := hK
            have HK := Lib.hid hK
            clear hK
            have hjl := hil
            show if Region.wanted _ (yielded _ az.tmps) = true then Oper.wp _ _ az wz K _ else _
            go_simp
            exact HK.out _ hR
          · simp only [List.getElem?_toArray, List.getElem?_cons_zero, List.getElem?_cons_succ, Option.some.injEq] at ho
            subst ho
            have v0 : az.eval (.tmp 24) = .pointer (some ⟨b2, i, none⟩) := hd 3 24 (by kernel_rfl) (by kernel_rfl)
            have u0 : az.tmps[24]?.getD undef = .pointer (some ⟨b2, i, none⟩) := by rw [← Array.getD_eq_getD_getElem?]; exact v0
            clear v0
            clear hd hf
            replace hK : ∀ w', (fun wz => Below W3.heap.size W3 wz) w' → K (az.put (some 25) (.agg #[.slice va2 cx2.length vc2])) w' := hK
            have HK := Lib.hid hK
            clear hK
            have c0 : wz.cell? ⟨b2, i, none⟩ = some (.slice va2 cx2.length vc2) := (cellLow (hR.block _ HX.out.2.1) _).trans HX.out.2.2
            show if Region.wanted _ (yielded _ az.tmps) = true then Oper.wp _ _ az wz K _ else _
            go_simp
            exact HK.out _ hR
          · simp only [List.getElem?_toArray, List.getElem?_cons_zero, List.getElem?_cons_succ, Option.some.injEq] at ho
            subst ho
            have v0 : az.eval (.tmp 2) = v := (hf 2 (by kernel_rfl)).trans (by kernel_rfl)
            have u0 : az.tmps[2]?.getD undef = v := by rw [← Array.getD_eq_getD_getElem?]; exact v0
            clear v0
            clear hd hf
            replace hK : ∀ w', (fun wz => Below W3.heap.size W3 wz) w' → K (az.put (some 26) (v)) w' := hK
            have HK := Lib.hid hK
            clear hK
            show if Region.wanted _ (yielded _ az.tmps) = true then Oper.wp _ _ az wz K _ else _
            go_simp
            exact HK.out _ hR
          · simp only [List.getElem?_toArray, List.getElem?_cons_zero, List.getElem?_cons_succ, Option.some.injEq] at ho
            subst ho
            have v0 : az.eval (.tmp 21) = .agg #[.slice va1 cx1.length vc1] := hd 0 21 (by kernel_rfl) (by kernel_rfl)
            have u0 : az.tmps[21]?.getD undef = .agg #[.slice va1 cx1.length vc1] := by rw [← Array.getD_eq_getD_getElem?]; exact v0
            clear v0
            have v1 : az.eval (.tmp 25) = .agg #[.slice va2 cx2.length vc2] := hd 4 25 (by kernel_rfl) (by kernel_rfl)
            have u1 : az.tmps[25]?.getD undef = .agg #[.slice va2 cx2.length vc2] := by rw [← Array.getD_eq_getD_getElem?]; exact v1
            clear v1
            have v2 : az.eval (.tmp 26) = v := hd 5 26 (by kernel_rfl) (by kernel_rfl)
            have u2 : az.tmps[26]?.getD undef = v := by rw [← Array.getD_eq_getD_getElem?]; exact v2
            clear v2
            clear hd hf
            replace hK : ∀ w', (fun wz => Below W3.heap.size W3 wz) w' → K (az.put (some 27) (.bool d)) w' := hK
            have HK := Lib.hid hK
            clear hK
            show if Region.wanted _ (yielded _ az.tmps) = true then Oper.wp _ _ az wz K _ else _
            go_simp
            refine (ce43 S HS.out va1 va2 cx1.length vc1 cx2.length vc2 cx1 cx2 P1 P2 v wz HGX.out.1 HGX.out.2 (HROW.out.1.below (HBX.out.1.trans (hR.mono HBX.out.1.size))) (HROW.out.2.below (HBX.out.1.trans (hR.mono HBX.out.1.size)))).mono ?_
            rintro e w5 hD
            obtain ⟨he, hB5⟩ := hD.ex
            rw [HDD.out] at he
            obtain rfl := he.symm
            go_simp
            exact HK.out _ (hR.trans (hB5.mono hR.size))
          · simp only [List.getElem?_toArray, List.getElem?_cons_zero, List.getElem?_cons_succ, Option.some.injEq] at ho
            subst ho
            have v0 : az.eval (.tmp 27) = .bool d := hd 6 27 (by kernel_rfl) (by kernel_rfl)
            have u0 : az.tmps[27]?.getD undef = .bool d := by rw [← Array.getD_eq_getD_getElem?]; exact v0
            clear v0
            clear hd hf
            replace hK : ∀ w', (fun wz => Below W3.heap.size W3 wz) w' → K (az.put (some 28) (.bool (!d))) w' := hK
            have HK := Lib.hid hK
            clear hK
            show if Region.wanted _ (yielded _ az.tmps) = true then Oper.wp _ _ az wz K _ else _
            go_simp
            exact HK.out _ hR
        case h06 => exact (Below.refl _ _).drew
        case hend6 =>
          intro wz2 hR
          have HR := hid hR
          clear hR
          simp only [List.foldl_cons, List.foldl_nil, Act.put, List.setIfInBounds_toArray, List.set_cons_zero, List.set_cons_succ]
          cases d
          · go_wp2_with fail
            go_ret
            refine ⟨?_, HBX.out.1.trans (HR.out.mono HBX.out.1.size)⟩
            have e : x1.getD i [] ≠ x2.getD i [] := by
              rw [HD.out.2.2.1, HD.out.2.2.2]
              exact of_decide_eq_false HD.out.1
            rw [ne_of_getD e]
            rfl
          · go_wp2_with fail
            go_roundg g
            case measure => omega
            case rel =>
              refine ⟨i + 1, by omega, rfl, fun k hk => ?_, HBX.out.1.trans (HR.out.mono HBX.out.1.size)⟩
              by_cases e : k < i
              · exact HD.out.2.1 k e
              · have e2 : k = i := by omega
                subst e2
                show x1.getD k [] = x2.getD k []
                rw [HD.out.2.2.1, HD.out.2.2.2]
                exact of_decide_eq_true HD.out.1
  · have hcd : ¬ ((x1.length : Int) = (x2.length : Int)) := by omega
    have g9 : ((x1.length : Int) == (x2.length : Int)) = false := by simp; omega
    have HLN := hid hl
    clear hl
    go_enter Try.func48, Try.ntmps48
    go_wp2_with fail
    go_ret
    refine ⟨?_, Below.refl _ _⟩
    have e : x1 ≠ x2 := by
      rintro rfl
      exact HLN.out rfl
    simp [e]
end Go.Proofs.Ytphimfimnakclaa
