/-
  The walk of the law. Conditions: each theorem's own.
-/
import Derived.Test.YtjebnjjhdefejaaFmtMl
namespace Go.Proofs.YtjebnjjhdefejaaFmt
open Go.RowKit Go.Lib Go.ChangeMaps
set_option maxHeartbeats 16000000 in
set_option maxRecDepth 100000 in
theorem law3 (a0 : Option Addr) (n k0 : Nat) (z0 : List Int) (a1 : Option Addr) (m k1 : Nat) (z1 : List Int) (w : World) (w0 : IsRow .u8 w a0 n k0 z0) (w1 : IsRow .u16 w a1 m k1 z1) :
    Calls Tryf.prog 3 #[.slice a0 n k0, .slice a1 m k1] w fun e w' => e = .returned (.bool true) ∧ Below w.heap.size w w' := by
  have HR := hid (And.intro w0 w1)
  clear w0 w1
  go_enter Tryf.func3, Tryf.ntmps3
  go_wp2_with fail
  refine (bytes4 a0 a1 n m k0 k1 w).mono ?_
  rintro e w9 ⟨⟨b, rfl⟩, hw9⟩
  obtain rfl := hw9.symm
  clear hw9
  cases b with
  | false =>
    go_wp2_with fail
    go_ret
    exact ⟨rfl, Below.refl _ _⟩
  | true =>
    by_cases hn : 4096 < n
    · have hn' : (4096 : Int) < (n : Int) := by omega
      go_wp2_with fail
      go_ret
      exact ⟨rfl, Below.refl _ _⟩
    · by_cases hm : 4096 < m
      · have hn' : ¬ (4096 : Int) < (n : Int) := by omega
        have hm' : (4096 : Int) < (m : Int) := by omega
        go_wp2_with fail
        go_ret
        exact ⟨rfl, Below.refl _ _⟩
      · have hn' : ¬ (4096 : Int) < (n : Int) := by omega
        have hm' : ¬ (4096 : Int) < (m : Int) := by omega
        go_upto_region 5 with fail
        clear hn' hm'
        go_wp2_with fail
        refine (cloneu8 a0 n k0 z0 w (by omega) HR.out.1).mono ?_
        rintro e wA ⟨⟨a2, c2, rfl, rA⟩, hA⟩
        have HA := hid (And.intro rA hA)
        have CB := hid (cloneu16 a1 m k1 z1 wA (by omega) (HR.out.2.below hA))
        clear rA hA
        go_wp2_with fail
        refine CB.out.mono ?_
        rintro e wB ⟨⟨a3, c3, rfl, rB⟩, hB⟩
        obtain ⟨par, hpar⟩ : ∃ par, par = parF true z1 m := ⟨_, rfl⟩
        obtain ⟨kd, hkd⟩ : ∃ kd, kd = kdF par n z0 := ⟨_, rfl⟩
        have CC := sh7 true a2 a3 n m c2 c3 z0 z1 wB (by omega) (by omega) (HA.out.1.below (Nat.le_refl _) hB) rB
        rw [← hpar, ← hkd] at CC
        have CC := hid CC
        have HP := hid (And.intro (show ∀ k p, par k = some p → p < k from fun k p h => parF_lt (by rw [← hpar]; exact h)) (And.intro (show ∀ i, kd i ≤ 2 from fun i => by rw [hkd]; exact kdF_le _ _ _ _) (show ∀ i, kd i = 0 → ofP par n (some i) = [] from fun i => by rw [hkd]; exact kdF_zero _ _ _ _)))
        have HB := hid (HA.out.2.trans (hB.mono HA.out.2.size))
        clear rB hB hpar hkd CB
        go_upto_region 7 with fail
        go_wp2_with fail
        refine CC.out.mono ?_
        rintro e wC hR
        obtain ⟨kb, kc, cb, cc, ra, rc, pb, pc, rfl, hT, hC⟩ := hR.ex
        obtain ⟨W4, hW4⟩ : ∃ X, X = wC.alloc (.cells (treeC n kb kc cb cc ra (ofP par n none).length rc pb pc) 30) := ⟨_, rfl⟩
        have hb4 : Below wC.heap.size wC W4 := by rw [hW4]; exact (Below.refl _ _).alloc (Nat.le_refl _) _
        have ht4 : W4.heap[wC.heap.size]? = some (.cells (treeC n kb kc cb cc ra (ofP par n none).length rc pb pc) 30 (0, 0)) := by rw [hW4]; exact heap_alloc_new _ _
        have hT4 := hT.below (Nat.le_refl _) hb4
        have hw4 : Below w.heap.size w W4 := HB.out.trans ((hC.trans (hb4.mono hC.size)).mono HB.out.size)
        obtain ⟨tb, htb⟩ : ∃ tb, tb = wC.heap.size := ⟨_, rfl⟩
        rw [← htb] at ht4
        have CD := hid (un8 n par kd kb kc cb cc ra (ofP par n none).length rc pb pc tb W4 (by omega) hT4 HP.out.1 ht4)
        have HT4 := hid (And.intro hT4 (And.intro ht4 hw4))
        have HW4 := hid hW4
        have HTB := hid htb
        obtain ⟨L, hL⟩ : ∃ L, L = (ofP par n none).length := ⟨_, rfl⟩
        clear hR CC hT hC hb4 ht4 hT4 hw4 hW4 htb
        go_upto_region 8 with fail
        rw [← HW4.out, ← HTB.out]
        rw [← hL]
        have HLL := hid hL
        clear hL
        go_wp2_with fail
        refine CD.out.mono ?_
        rintro e wD hR
        obtain ⟨⟨z, rfl⟩, hD⟩ := hR.ex
        obtain ⟨hT4, ht4, hw4⟩ := HT4.out
        have hwD : Below w.heap.size w wD := hw4.trans (hD.mono hw4.size)
        have HD := hid (And.intro hD hwD)
        clear hR CD hT4 ht4 hw4 hD hwD
        by_cases hz : 262144 < z
        · go_wp2_with fail
          go_ret
          exact ⟨rfl, HD.out.2⟩
        · obtain ⟨hT4, ht4, hw4⟩ := HT4.out
          obtain ⟨hD, hwD⟩ := HD.out
          have hTD := hT4.below (Nat.le_refl _) hD
          have htD := (hD.block _ (heap_lt ht4)).trans ht4
          obtain ⟨W5, hW5⟩ : ∃ X, X = wD.alloc (mkO (.bool false) (n * 1) 4) := ⟨_, rfl⟩
          have hb5 : Below wD.heap.size wD W5 := by rw [hW5]; exact (Below.refl _ _).alloc (Nat.le_refl _) _
          have mk5 := mkSn 34 4 _ 1 1 Tryf.underlying34 info_BOOL (by decide) n (by omega) wD
          rw [← hW5] at mk5
          have ht5 := (hb5.block _ (heap_lt htD)).trans htD
          have hT5 := hTD.below (Nat.le_refl _) hb5
          have t2 := (hcell ht5 2 _ rfl).1
          have htl := heap_lt ht5
          rw [← HLL.out] at t2
          have HF := hid (show FlI w wD n kd (ofP par n none) L (.int .i64 0) W5 by
            rw [hW5, HLL.out]
            exact FlI.start w wD n kd _ hwD)
          have HT5 := hid (And.intro hT5 (And.intro ht5 (And.intro htD (And.intro hTD (And.intro hwD hb5)))))
          clear hT4 ht4 hw4 hD hwD hTD htD hW5 hb5 ht5 hT5
          go_upto_region 11 with fail
          clear mk5 hz
          go_upto_region 12 with fail
          clear t2
          go_loopg [50] L (fun g v wx => FlI w wD n kd (ofP par n none) g v wx)
          case atStart => exact HF.out
          case round =>
            obtain ⟨pre, rest, barr, he, hrg, rfl, q1, q2, q3, hbD, hbw⟩ := hrel.ex
            obtain ⟨hT5, ht5, htD, hTD, hwD, hb5⟩ := HT5.out
            have htr := (hbD.block _ (heap_lt htD)).trans htD
            have hTr := hTD.below (Nat.le_refl _) hbD
            clear hrel HF
            cases gk with
            | zero =>
              obtain ⟨WR, hWR⟩ : ∃ X, X = wr := ⟨_, rfl⟩
              subst hWR
              obtain rfl : rest = [] := List.length_eq_zero_iff.1 hrg
              rw [List.append_nil] at he
              subst he
              rw [← HLL.out]
              have hcd : ¬ (L : Int) < (L : Int) := by omega
              obtain ⟨hlt, hkd, hk0⟩ := HP.out
              have CF := fo9 n par kd (by omega) hlt hkd hk0 tb kb kc cb cc ra _ rc pb pc rfl WR hTr htr
              obtain ⟨ts, hts⟩ : ∃ ts, ts = (ofP par n none).map (treeM par kd n n) := ⟨_, rfl⟩
              have htl : ts.length = L := by rw [hts, List.length_map, ← HLL.out]
              rw [← hts] at CF
              have CF := hid CF
              have HTS := hid (And.intro hts htl)
              have HFL := hid (And.intro q1 (And.intro q3 (And.intro hbD (And.intro hbw hwD.size))))
              clear hT5 ht5 htD hTD hwD hb5 htr hTr hlt hkd hk0 q1 q2 q3 hbD hbw hrg hts htl
              go_upto_region 17 with fail
              clear hcd
              go_wp2_with fail
              refine CF.out.mono ?_
              rintro e wE hR
              obtain ⟨rfl, hKE, hE⟩ := hR.ex
              rw [HTS.out.2] at hKE ⊢
              have HE := hid (And.intro hKE hE)
              clear hR CF hKE hE
              go_wp2_with fail
              refine (np10 wE).mono ?_
              rintro e wF hR
              obtain ⟨pb2, rfl, p1, p2, hF⟩ := hR.ex
              have HPB := hid (And.intro p1 (And.intro p2 hF))
              clear hR p1 p2 hF
              go_wp2_with fail
              refine (on12 wF).mono ?_
              rintro e wG hR
              obtain ⟨sb1, g1, rfl, o1, o2, o3, hG⟩ := hR.ex
              have HG := hid (And.intro o1 (And.intro o2 (And.intro o3 hG)))
              clear hR o1 o2 o3 hG
              go_wp2_with fail
              refine (nc11 (some ⟨sb1, 0, none⟩) none 1 0 1 0 wG).mono ?_
              rintro e wH hR
              obtain ⟨cb1, rfl, n1, n2, hH⟩ := hR.ex
              obtain ⟨hKE, hE⟩ := HE.out
              obtain ⟨p1, p2, hF⟩ := HPB.out
              obtain ⟨o1, o2, o3, hG⟩ := HG.out
              have hctx := ctx_new p2 o1 o2 o3 hG n1 n2 hH
              have sF := hF.size
              have sG := hG.size
              have sH := hH.size
              have hEH : Below wE.heap.size wE wH := hF.trans ((hG.mono sF).trans (hH.mono (by omega)))
              obtain ⟨-, arr, k1, k2, k3, k4, k5, k6⟩ := kids_row (hKE.keep (Nat.le_refl _) hEH.size (fun g _ hg => hEH.block g hg))
              have hpr := prem n ts wH WR.heap.size wE.heap.size WR.heap.size L arr cb1 _ _ _ 0 _ 1 pb2 k2 k3 hEH.size k4 k5 k1 (by rw [HTS.out.2, HLL.out]; have := ofP_len par n none; omega) k6 hctx ⟨Or.inr (by omega), Or.inr p1, (fun g hg => by cases hg), fun g hg => Or.inr (by omega)⟩ (by omega) (by rw [HTS.out.1, cnt_forest par kd n HP.out.1]; omega)
              have CR := zr13 hpr
              rw [HTS.out.2] at CR
              have CR := hid CR
              have HH := hid (And.intro n1 (And.intro n2 hH))
              clear hR n1 n2 hH hKE hE p1 p2 hF o1 o2 o3 hG hctx sF sG sH hEH k1 k2 k3 k4 k5 k6 hpr
              go_upto_region 21 with fail
              go_wp2_with fail
              refine CR.out.mono ?_
              rintro e wI hR
              obtain ⟨lw1, n1', arr1, rfl, _, _, hc1, hI, _, hr1, _, hk1⟩ := hR.ex
              obtain ⟨hKE, hE⟩ := HE.out
              obtain ⟨p1, p2, hF⟩ := HPB.out
              obtain ⟨o1, o2, o3, hG⟩ := HG.out
              obtain ⟨m1, m2, hH⟩ := HH.out
              obtain ⟨f1, f3, hbD, hbw, hwD⟩ := HFL.out
              rw [HTS.out.1] at hk1
              have hLB := LB.made hbw hbD hwD f1 f3 hE hF hG hH p1 m1 hc1.par hI hr1 hk1
              have hKR : (keptM ts).length = (rootD par kd n).length := by rw [HTS.out.1, kept_roots]; simp
              have hKL : (rootD par kd n).length ≤ L := by rw [← hKR, ← HTS.out.2]; exact keptM_len ts
              rw [hKR]
              have HLB := hid hLB
              obtain ⟨R, hR2⟩ : ∃ R, R = rootD par kd n := ⟨_, rfl⟩
              rw [← hR2] at hKL ⊢
              have HRR := hid hR2
              obtain ⟨K, hK⟩ : ∃ K, K = R.length := ⟨_, rfl⟩
              rw [← hK] at hKL ⊢
              have HK := hid hK
              have hKL' : ¬ (L : Int) < (K : Int) := by omega
              clear hR CR hc1 hI hr1 hk1 hKE hE p1 p2 hF o1 o2 o3 hG m1 m2 hH f1 f3 hbD hbw hwD hLB hKR hR2 hK HE HPB HG HH HFL
              have hKn : K ≤ 2000000 := by have h1 := HLL.out; have h2 := ofP_len par n none; omega
              have mk6 := mkSn 44 21 _ 1 4 Tryf.underlying44 info_I32 (by decide) K hKn wI
              obtain ⟨larr, l1, l2, l3⟩ := made_cells (.int .i32 0) rfl K 21 wI
              obtain ⟨W6, hW6⟩ : ∃ X, X = wI.alloc (mkO (.int .i32 0) (K * 1) 21) := ⟨_, rfl⟩
              rw [← hW6] at mk6 l1
              have hb6 : Below wI.heap.size wI W6 := by rw [hW6]; exact (Below.refl _ _).alloc (Nat.le_refl _) _
              have HL2 := hid (show Lo2 wI R K (.int .i64 0) W6 from ⟨0, larr, by have := HK.out; omega, rfl, l1, by rw [l2, ← HK.out], fun i _ h => by omega, hb6⟩)
              clear hW6 l1 l2 l3 hb6 hKn
              go_upto_region 25 with fail
              clear mk6 hKL'
              go_upto_region 26 with fail
              have hdec : decide (L < K) = false := decide_eq_false (by omega)
              rw [hdec]
              clear hdec
              go_loopg [15] K (fun g v wx => Lo2 wI R g v wx)
              case atStart => exact HL2.out
              case round =>
                obtain ⟨j, larr, hjg, rfl, q1, q2, q3, hb⟩ := hrel.ex
                have hL := HLB.out.below hb
                clear hrel HL2
                cases gk with
                | zero =>
                  have hKK := HK.out
                  obtain rfl : j = K := by omega
                  obtain ⟨W5, hW5'⟩ : ∃ X, X = wr := ⟨_, rfl⟩
                  subst hW5'
                  have hcd : ¬ (j : Int) < (j : Int) := by omega
                  have HQ := hid (And.intro q1 (And.intro q2 (And.intro q3 (And.intro hb (And.intro hL hKK)))))
                  clear hjg q1 q2 q3 hb hL hKK
                  go_upto_region 36 with fail
                  clear hcd
                  go_wp2_with fail
                  refine (on12 W5).mono ?_
                  rintro e wG2 hR
                  obtain ⟨sb2, g2, rfl, o1, o2, o3, hG2⟩ := hR.ex
                  have HG2 := hid (And.intro o1 (And.intro o2 (And.intro o3 hG2)))
                  clear hR o1 o2 o3 hG2
                  go_wp2_with fail
                  refine (nc11 (some ⟨sb2, 0, none⟩) none 1 0 1 0 wG2).mono ?_
                  rintro e wH2 hR
                  obtain ⟨cb2, rfl, n1, n2, hH2⟩ := hR.ex
                  obtain ⟨q1, q2, q3, hb, hL, hKK⟩ := HQ.out
                  obtain ⟨o1, o2, o3, hG2⟩ := HG2.out
                  have hjl : (rootD par kd n).length ≤ L := by rw [← HRR.out, ← hKK]; exact hKL
                  obtain ⟨arr2, hask⟩ := second_ask hL (by omega) hjl o1 o2 o3 hG2 n1 n2 hH2
                  have CS := zr13 hask
                  have htl2 : ((rootD par kd n).map fun (i : Nat) => Tr.mk (i : Int) 0 []).length = j := by rw [List.length_map, ← HRR.out, ← hKK]
                  rw [htl2] at CS
                  have CS := hid CS
                  have HTL := hid htl2
                  have HH2 := hid (And.intro n1 (And.intro n2 hH2))
                  clear hR n1 n2 hH2 q1 q2 q3 hb hL hKK o1 o2 o3 hG2 hjl hask htl2
                  go_upto_region 37 with fail
                  go_wp2_with fail
                  refine CS.out.mono ?_
                  rintro e wJ hR
                  obtain ⟨lw2, n2', arr3, rfl, _, hn2, hc2, hJ, _, hr2, _, hk2⟩ := hR.ex
                  obtain ⟨q1, q2, q3, hb, hL, hKK⟩ := HQ.out
                  obtain ⟨o1, o2, o3, hG2⟩ := HG2.out
                  obtain ⟨m1, m2, hH2⟩ := HH2.out
                  have hrI : WR.heap.size < wI.heap.size := by
                    obtain ⟨_, h, _⟩ := HLB.out.row
                    exact heap_lt h
                  have hLC := second_done HRR.out hL hrI hG2 m1 hH2 q1 (fun i h hi => q3 i h (by omega)) (by omega) hc2 hJ hr2 hk2
                  rw [keptM_mk, HTL.out]
                  have HLC := hid hLC
                  have H3 := hid (show Lo3 wJ j j (.int .i64 0) wJ from ⟨0, by omega, rfl, Below.refl _ _⟩)
                  clear hR CS hn2 hc2 hJ hr2 hk2 q1 q2 q3 hb hL hKK o1 o2 o3 hG2 m1 m2 hH2 hrI hLC HQ HG2 HH2
                  go_upto_region 40 with fail
                  go_upto_region 41 with fail
                  go_loopg [20] j (fun g v wx => Lo3 wJ j g v wx)
                  case atStart => exact H3.out
                  case round =>
                    obtain ⟨i, hig, rfl, hb⟩ := hrel.ex
                    have hC := HLC.out.below hb
                    clear hrel H3
                    cases gk with
                    | zero =>
                      obtain rfl : i = j := by omega
                      have hcd : ¬ (i : Int) < (i : Int) := by omega
                      obtain ⟨pw, pn, ca, cc2, hcx⟩ := hC.ctx
                      have CL := hid (ld16 cb2 pw pn ca 0 cc2 wr hcx)
                      have HB := hid hC.bel
                      clear hC hcx hb
                      go_wp2_with fail
                      refine CL.out.mono ?_
                      rintro e w5 hR
                      obtain ⟨rfl, hw5⟩ := hR.ex
                      obtain rfl := hw5.symm
                      clear hR CL
                      go_wp2_with fail
                      go_ret
                      exact ⟨rfl, HB.out⟩
                    | succ g =>
                      have hKK := HK.out
                      have hiR : i < R.length := by omega
                      have hc : (i : Int) < (j : Int) := by omega
                      have hjL : (i : Int) < (j : Int) := hc
                      have hKn : j ≤ 4096 := by have h1 := HLL.out; have h2 := ofP_len par n none; omega
                      have e1 : IntKind.i64.wrap ((i : Int) + 1) = ((i + 1 : Nat) : Int) := by rw [IntKind.wrap_i64]; omega
                      obtain ⟨arr, a1, a2⟩ := hC.row
                      obtain ⟨larr2, l1, l2⟩ := hC.locs
                      obtain ⟨b, d0, d1⟩ := a2 i hiR
                      obtain ⟨x, hx⟩ : ∃ x, x = R[i] := ⟨_, rfl⟩
                      have l3 := l2 i hiR
                      rw [← hx] at d1 l3
                      have HQ := hid (And.intro hig (And.intro a1 (And.intro l1 (And.intro d0 (And.intro d1 (And.intro l3 (And.intro hb hC)))))))
                      have HE := hid (And.intro hc e1)
                      clear hig a1 a2 l1 l2 d0 d1 l3 hx hb hC hKK hKn e1 hiR
                      go_upto_region 43 with fail
                      clear hc
                      refine wp_region_rel [(some 161, .slice (some ⟨WR.heap.size, 0, none⟩) j L), (some 162, .int .i64 (i : Nat)), (some 163, .pointer (some ⟨WR.heap.size, i * 2, none⟩)), (some 164, .agg #[.iface 129 (.pointer (some ⟨b, 0, none⟩)), .int .i32 (x : Int)]), (some 165, .int .i32 (x : Int)), (some 166, .slice (some ⟨wI.heap.size, 0, none⟩) j j), (some 167, .int .i64 (i : Nat)), (some 168, .pointer (some ⟨wI.heap.size, i, none⟩)), (some 169, .int .i32 (x : Int)), (some 170, .bool false)] (fun X => Below wr.heap.size wr X) 185 (by kernel_rfl) (by kernel_rfl) (by kernel_rfl) (by kernel_rfl) ?h043 (by kernel_rfl) ?hop43 ?hend43
                      case hop43 =>
                        intro i o az wz ho hR hd hf KK hK
                        have hin : i = 0 ∨ i = 1 ∨ i = 2 ∨ i = 3 ∨ i = 4 ∨ i = 5 ∨ i = 6 ∨ i = 7 ∨ i = 8 ∨ i = 9 := by
                          rcases Nat.lt_or_ge i 10 with h | h
                          · omega
                          · rw [Array.getElem?_eq_none h] at ho
                            cases ho
                        rcases hin with rfl | rfl | rfl | rfl | rfl | rfl | rfl | rfl | rfl | rfl
                        · simp only [List.getElem?_toArray, List.getElem?_cons_zero, Option.some.injEq] at ho
                          subst ho
                          have v0 : az.eval (.tmp 19) = .slice (some ⟨WR.heap.size, 0, none⟩) j L := (hf 19 (by kernel_rfl)).trans (by kernel_rfl)
                          have u0 : az.tmps[19]?.getD undef = .slice (some ⟨WR.heap.size, 0, none⟩) j L := by rw [← Array.getD_eq_getD_getElem?]; exact v0
                          clear v0
                          clear hd hf
                          replace hK : ∀ w', (fun X => Below wr.heap.size wr X) w' → KK (az.put (some 161) (.slice (some ⟨WR.heap.size, 0, none⟩) j L)) w' := hK
                          have HK2 := Lib.hid hK
                          clear hK
                          show if Region.wanted _ (yielded _ az.tmps) = true then Oper.wp _ _ az wz KK _ else _
                          go_simp
                          exact HK2.out _ hR
                        · simp only [List.getElem?_toArray, List.getElem?_cons_zero, List.getElem?_cons_succ, Option.some.injEq] at ho
                          subst ho
                          have v0 : az.eval (.tmp 20) = .int .i64 (i : Nat) := (hf 20 (by kernel_rfl)).trans (by kernel_rfl)
                          have u0 : az.tmps[20]?.getD undef = .int .i64 (i : Nat) := by rw [← Array.getD_eq_getD_getElem?]; exact v0
                          clear v0
                          clear hd hf
                          replace hK : ∀ w', (fun X => Below wr.heap.size wr X) w' → KK (az.put (some 162) (.int .i64 (i : Nat))) w' := hK
                          have HK2 := Lib.hid hK
                          clear hK
                          show if Region.wanted _ (yielded _ az.tmps) = true then Oper.wp _ _ az wz KK _ else _
                          go_simp
                          exact HK2.out _ hR
                        · simp only [List.getElem?_toArray, List.getElem?_cons_zero, List.getElem?_cons_succ, Option.some.injEq] at ho
                          subst ho
                          have v0 : az.eval (.tmp 161) = .slice (some ⟨WR.heap.size, 0, none⟩) j L := hd 0 161 (by kernel_rfl) (by kernel_rfl)
                          have u0 : az.tmps[161]?.getD undef = .slice (some ⟨WR.heap.size, 0, none⟩) j L := by rw [← Array.getD_eq_getD_getElem?]; exact v0
                          clear v0
                          have v1 : az.eval (.tmp 162) = .int .i64 (i : Nat) := hd 1 162 (by kernel_rfl) (by kernel_rfl)
                          have u1 : az.tmps[162]?.getD undef = .int .i64 (i : Nat) := by rw [← Array.getD_eq_getD_getElem?]; exact v1
                          clear v1
                          clear hd hf
                          replace hK : ∀ w', (fun X => Below wr.heap.size wr X) w' → KK (az.put (some 163) (.pointer (some ⟨WR.heap.size, i * 2, none⟩))) w' := hK
                          have HK2 := Lib.hid hK
                          clear hK
                          show if Region.wanted _ (yielded _ az.tmps) = true then Oper.wp _ _ az wz KK _ else _
                          go_simp
                          exact HK2.out _ hR
                        · simp only [List.getElem?_toArray, List.getElem?_cons_zero, List.getElem?_cons_succ, Option.some.injEq] at ho
                          subst ho
                          have v0 : az.eval (.tmp 163) = .pointer (some ⟨WR.heap.size, i * 2, none⟩) := hd 2 163 (by kernel_rfl) (by kernel_rfl)
                          have u0 : az.tmps[163]?.getD undef = .pointer (some ⟨WR.heap.size, i * 2, none⟩) := by rw [← Array.getD_eq_getD_getElem?]; exact v0
                          clear v0
                          clear hd hf
                          replace hK : ∀ w', (fun X => Below wr.heap.size wr X) w' → KK (az.put (some 164) (.agg #[.iface 129 (.pointer (some ⟨b, 0, none⟩)), .int .i32 (x : Int)])) w' := hK
                          have HK2 := Lib.hid hK
                          clear hK
                          obtain ⟨hig, a1, l1, d0, d1, l3, hb, hC⟩ := HQ.out
                          have y := (hR.block _ (heap_lt a1)).trans a1
                          have r0 := (hcell y _ _ d0).1
                          have r1 := (hcell y _ _ d1).1
                          have hy := heap_lt y
                          clear y
                          clear hig a1 l1 d0 d1 l3 hb hC
                          show if Region.wanted _ (yielded _ az.tmps) = true then Oper.wp _ _ az wz KK _ else _
                          go_simp
                          exact HK2.out _ hR
                        · simp only [List.getElem?_toArray, List.getElem?_cons_zero, List.getElem?_cons_succ, Option.some.injEq] at ho
                          subst ho
                          have v0 : az.eval (.tmp 164) = .agg #[.iface 129 (.pointer (some ⟨b, 0, none⟩)), .int .i32 (x : Int)] := hd 3 164 (by kernel_rfl) (by kernel_rfl)
                          have u0 : az.tmps[164]?.getD undef = .agg #[.iface 129 (.pointer (some ⟨b, 0, none⟩)), .int .i32 (x : Int)] := by rw [← Array.getD_eq_getD_getElem?]; exact v0
                          clear v0
                          clear hd hf
                          replace hK : ∀ w', (fun X => Below wr.heap.size wr X) w' → KK (az.put (some 165) (.int .i32 (x : Int))) w' := hK
                          have HK2 := Lib.hid hK
                          clear hK
                          show if Region.wanted _ (yielded _ az.tmps) = true then Oper.wp _ _ az wz KK _ else _
                          go_simp
                          refine (lo14 b (x : Int) wz).mono ?_
                          rintro e w' hq
                          obtain ⟨rfl, hq2⟩ := hq.ex
                          exact HK2.out _ (hR.trans (hq2.mono hR.size))
                        · simp only [List.getElem?_toArray, List.getElem?_cons_zero, List.getElem?_cons_succ, Option.some.injEq] at ho
                          subst ho
                          have v0 : az.eval (.tmp 14) = .slice (some ⟨wI.heap.size, 0, none⟩) j j := (hf 14 (by kernel_rfl)).trans (by kernel_rfl)
                          have u0 : az.tmps[14]?.getD undef = .slice (some ⟨wI.heap.size, 0, none⟩) j j := by rw [← Array.getD_eq_getD_getElem?]; exact v0
                          clear v0
                          clear hd hf
                          replace hK : ∀ w', (fun X => Below wr.heap.size wr X) w' → KK (az.put (some 166) (.slice (some ⟨wI.heap.size, 0, none⟩) j j)) w' := hK
                          have HK2 := Lib.hid hK
                          clear hK
                          show if Region.wanted _ (yielded _ az.tmps) = true then Oper.wp _ _ az wz KK _ else _
                          go_simp
                          exact HK2.out _ hR
                        · simp only [List.getElem?_toArray, List.getElem?_cons_zero, List.getElem?_cons_succ, Option.some.injEq] at ho
                          subst ho
                          have v0 : az.eval (.tmp 20) = .int .i64 (i : Nat) := (hf 20 (by kernel_rfl)).trans (by kernel_rfl)
                          have u0 : az.tmps[20]?.getD undef = .int .i64 (i : Nat) := by rw [← Array.getD_eq_getD_getElem?]; exact v0
                          clear v0
                          clear hd hf
                          replace hK : ∀ w', (fun X => Below wr.heap.size wr X) w' → KK (az.put (some 167) (.int .i64 (i : Nat))) w' := hK
                          have HK2 := Lib.hid hK
                          clear hK
                          show if Region.wanted _ (yielded _ az.tmps) = true then Oper.wp _ _ az wz KK _ else _
                          go_simp
                          exact HK2.out _ hR
                        · simp only [List.getElem?_toArray, List.getElem?_cons_zero, List.getElem?_cons_succ, Option.some.injEq] at ho
                          subst ho
                          have v0 : az.eval (.tmp 166) = .slice (some ⟨wI.heap.size, 0, none⟩) j j := hd 5 166 (by kernel_rfl) (by kernel_rfl)
                          have u0 : az.tmps[166]?.getD undef = .slice (some ⟨wI.heap.size, 0, none⟩) j j := by rw [← Array.getD_eq_getD_getElem?]; exact v0
                          clear v0
                          have v1 : az.eval (.tmp 167) = .int .i64 (i : Nat) := hd 6 167 (by kernel_rfl) (by kernel_rfl)
                          have u1 : az.tmps[167]?.getD undef = .int .i64 (i : Nat) := by rw [← Array.getD_eq_getD_getElem?]; exact v1
                          clear v1
                          clear hd hf
                          replace hK : ∀ w', (fun X => Below wr.heap.size wr X) w' → KK (az.put (some 168) (.pointer (some ⟨wI.heap.size, i, none⟩))) w' := hK
                          have HK2 := Lib.hid hK
                          clear hK
                          show if Region.wanted _ (yielded _ az.tmps) = true then Oper.wp _ _ az wz KK _ else _
                          go_simp
                          exact HK2.out _ hR
                        · simp only [List.getElem?_toArray, List.getElem?_cons_zero, List.getElem?_cons_succ, Option.some.injEq] at ho
                          subst ho
                          have v0 : az.eval (.tmp 168) = .pointer (some ⟨wI.heap.size, i, none⟩) := hd 7 168 (by kernel_rfl) (by kernel_rfl)
                          have u0 : az.tmps[168]?.getD undef = .pointer (some ⟨wI.heap.size, i, none⟩) := by rw [← Array.getD_eq_getD_getElem?]; exact v0
                          clear v0
                          clear hd hf
                          replace hK : ∀ w', (fun X => Below wr.heap.size wr X) w' → KK (az.put (some 169) (.int .i32 (x : Int))) w' := hK
                          have HK2 := Lib.hid hK
                          clear hK
                          obtain ⟨hig, a1, l1, d0, d1, l3, hb, hC⟩ := HQ.out
                          have y := (hR.block _ (heap_lt l1)).trans l1
                          have s0 := (hcell y _ _ l3).1
                          have hy := heap_lt y
                          clear y
                          clear hig a1 l1 d0 d1 l3 hb hC
                          show if Region.wanted _ (yielded _ az.tmps) = true then Oper.wp _ _ az wz KK _ else _
                          go_simp
                          exact HK2.out _ hR
                        · simp only [List.getElem?_toArray, List.getElem?_cons_zero, List.getElem?_cons_succ, Option.some.injEq] at ho
                          subst ho
                          have v0 : az.eval (.tmp 165) = .int .i32 (x : Int) := hd 4 165 (by kernel_rfl) (by kernel_rfl)
                          have u0 : az.tmps[165]?.getD undef = .int .i32 (x : Int) := by rw [← Array.getD_eq_getD_getElem?]; exact v0
                          clear v0
                          have v1 : az.eval (.tmp 169) = .int .i32 (x : Int) := hd 8 169 (by kernel_rfl) (by kernel_rfl)
                          have u1 : az.tmps[169]?.getD undef = .int .i32 (x : Int) := by rw [← Array.getD_eq_getD_getElem?]; exact v1
                          clear v1
                          clear hd hf
                          replace hK : ∀ w', (fun X => Below wr.heap.size wr X) w' → KK (az.put (some 170) (.bool false)) w' := hK
                          have HK2 := Lib.hid hK
                          clear hK
                          show if Region.wanted _ (yielded _ az.tmps) = true then Oper.wp _ _ az wz KK _ else _
                          go_simp
                          exact HK2.out _ hR
                      case h043 => exact (Below.refl _ _).drew
                      intro wz hwz
                      simp only [List.foldl_cons, List.foldl_nil]
                      simp only [Act.put, List.setIfInBounds_toArray, List.set_cons_zero, List.set_cons_succ]
                      have HWZ := hid hwz
                      clear hwz
                      obtain ⟨hig, a1, l1, d0, d1, l3, hb, hC⟩ := HQ.out
                      have az := (HWZ.out.block _ (heap_lt a1)).trans a1
                      have r0 := (hcell az _ _ d0).1
                      have r1 := (hcell az _ _ d1).1
                      have hrz := heap_lt az
                      have CK := hid (ki15 b (x : Int) wz)
                      clear hig a1 l1 d0 d1 l3 hb hC az
                      go_upto_region 45 with fail
                      go_wp2_with fail
                      refine CK.out.mono ?_
                      rintro e w6 hR
                      obtain ⟨rfl, hb6⟩ := hR.ex
                      have hz := HWZ.out.size
                      have HN := hid (show Lo3 wJ j g (.int .i64 ((i + 1 : Nat) : Int)) w6 from ⟨i + 1, by have := HQ.out.1; omega, rfl, HQ.out.2.2.2.2.2.2.1.trans ((HWZ.out.trans (hb6.mono hz)).mono HQ.out.2.2.2.2.2.2.1.size)⟩)
                      obtain ⟨hc, e1⟩ := HE.out
                      clear hR CK r0 r1 hrz hb6 hz
                      go_wp2_with fail
                      go_roundg g
                      case measure => omega
                      case rel => exact HN.out
                | succ g =>
                  have hKK := HK.out
                  have hjR : j < R.length := by omega
                  have hc : (j : Int) < (K : Int) := by omega
                  have hKn : K ≤ 4096 := by have h1 := HLL.out; have h2 := ofP_len par n none; omega
                  have e1 : IntKind.i64.wrap ((j : Int) + 1) = ((j + 1 : Nat) : Int) := by rw [IntKind.wrap_i64]; omega
                  obtain ⟨arr, a1, a2⟩ := hL.row
                  rw [← HRR.out] at a2
                  obtain ⟨b, d0, d1⟩ := a2 j hjR
                  obtain ⟨x, hx⟩ : ∃ x, x = R[j] := ⟨_, rfl⟩
                  rw [← hx] at d1
                  have r0 := (hcell a1 _ _ d0).1
                  have r1 := (hcell a1 _ _ d1).1
                  have hrb := heap_lt a1
                  have hjL : (j : Int) < (L : Int) := by omega
                  have CL := hid (lo14 b (x : Int) wr)
                  have HQ := hid (And.intro hjg (And.intro q1 (And.intro q2 (And.intro q3 (And.intro hb (And.intro a1 (And.intro d0 (And.intro d1 (And.intro hx (And.intro hL hjR))))))))))
                  clear hjg q1 q2 q3 hb a1 a2 d0 d1 hx hL hKK hKn
                  go_upto_region 28 with fail
                  go_wp2_with fail
                  refine CL.out.mono ?_
                  rintro e w2 hR
                  obtain ⟨rfl, hb2⟩ := hR.ex
                  obtain ⟨hjg, q1, q2, q3, hb, a1, d0, d1, hx, hL, hjR⟩ := HQ.out
                  have q12 := (hb2.block _ (heap_lt q1)).trans q1
                  have a12 := (hb2.block _ (heap_lt a1)).trans a1
                  obtain ⟨y0, hy0⟩ : ∃ y, larr[j]? = some y := ⟨_, Array.getElem?_eq_getElem (by omega)⟩
                  obtain ⟨s0, s0f⟩ := hcell q12 j _ hy0
                  have hsl := heap_lt q12
                  have hrl := hL.row
                  obtain ⟨W3, hW3⟩ : ∃ X, X = w2.setCell ⟨wI.heap.size, j, none⟩ (.int .i32 (x : Int)) := ⟨_, rfl⟩
                  have hlI := HLB.out.row
                  have hne : WR.heap.size ≠ wI.heap.size := by
                    obtain ⟨_, h, _⟩ := HLB.out.row
                    have := heap_lt h
                    omega
                  have hne2 : wD.heap.size ≠ wI.heap.size := by
                    obtain ⟨_, h, _⟩ := HLB.out.flags
                    have := heap_lt h
                    omega
                  have a13 : W3.heap[WR.heap.size]? = some (.cells arr 51 (0, 0)) := by rw [hW3]; exact (hother _ _ _ hne).trans a12
                  have r30 := (hcell a13 _ _ d0).1
                  have r31 := (hcell a13 _ _ d1).1
                  have hrb3 := heap_lt a13
                  have CK := hid (ki15 b (x : Int) W3)
                  have HQ2 := hid (And.intro hb2 (And.intro hne (And.intro hne2 hW3)))
                  have HW3 := hid hW3
                  clear hjg q1 q2 q3 hb a1 d0 d1 hx hL hR CL q12 a12 hy0 hrl hW3 hlI hne hne2 a13 hb2 r0 r1 hrb
                  go_upto_region 29 with fail
                  rw [← HW3.out]
                  clear s0 s0f hsl HW3
                  go_wp2_with fail
                  refine CK.out.mono ?_
                  rintro e w4 hR
                  obtain ⟨rfl, hb4⟩ := hR.ex
                  obtain ⟨hjg, q1, q2, q3, hb, a1, d0, d1, hx, hL, hjR⟩ := HQ.out
                  obtain ⟨hb2, hne, hne2, hW3⟩ := HQ2.out
                  rw [hW3] at hb4
                  have hb4' : Below w2.heap.size (w2.setCell ⟨wI.heap.size, j, none⟩ (.int .i32 (x : Int))) w4 := hb4.mono (by simp [World.setCell])
                  obtain ⟨hnx, larr', l1, l2⟩ := Lo2.next hjg q1 q2 q3 hb hb2 (z := (x : Int)) (by rw [hx]) hb4'
                  have lj := l2 j hjR (by omega)
                  rw [← hx] at lj
                  obtain ⟨s4, _⟩ := hcell l1 j _ lj
                  have hs4 := heap_lt l1
                  obtain ⟨barr, b1, b2⟩ := (HLB.out.below (show Below wI.heap.size wI w4 from by
                    obtain ⟨_, _, _, _, _, _, _, h⟩ := hnx.ex
                    exact h)).flags
                  have hjr : j < (rootD par kd n).length := by rw [← HRR.out]; exact hjR
                  have hxr : x = (rootD par kd n)[j] := by
                    rw [hx]
                    congr 1
                  obtain ⟨x1, x2, x3⟩ := rootD_lt hjr
                  rw [← hxr] at x1 x2 x3
                  have hbx := b2 x x1
                  have hdec : decide (x ∈ ofP par n none ∧ kd x = 0) = true := decide_eq_true ⟨mem_ofP.2 ⟨x1, x2⟩, x3⟩
                  rw [hdec] at hbx
                  obtain ⟨f4, _⟩ := hcell b1 x _ hbx
                  have hf4 := heap_lt b1
                  have hx0 : ¬ (x : Int) < 0 := by omega
                  have hxn : (x : Int) < (n : Int) := by omega
                  have hxn' : ¬ (n : Int) ≤ (x : Int) := by omega
                  have e3 : IntKind.i64.wrap (x : Int) = (x : Int) := by rw [IntKind.wrap_i64]; omega
                  have HNX := hid hnx
                  have HL1 := hid (And.intro l1 (And.intro l2 (And.intro hx hjR)))
                  clear hjg q1 q2 q3 hb a1 d0 d1 hx hL hb2 hne hne2 hW3 hb4 hb4' hnx l1 l2 lj b1 b2 hjr hxr x1 x2 x3 hbx hdec hR CK r30 r31 hrb3
                  go_upto_region 32 with fail
                  go_upto_region 34 with fail
                  clear f4 hf4 hx0 hxn hxn' e3
                  have HC := hid (And.intro hc e1)
                  clear hc e1
                  by_cases hj0 : 0 < j
                  · have hj1 : (0 : Int) < (j : Int) := by omega
                    obtain ⟨i, hi⟩ : ∃ i, i = j - 1 := ⟨_, rfl⟩
                    obtain ⟨l1, l2, hx, hjR⟩ := HL1.out
                    have hiR : i < R.length := by omega
                    have li := l2 i hiR (by omega)
                    obtain ⟨y, hy⟩ : ∃ y, y = R[i] := ⟨_, rfl⟩
                    rw [← hy] at li
                    obtain ⟨s5, _⟩ := hcell l1 i _ li
                    have hKn : K ≤ 4096 := by have h1 := HLL.out; have h2 := ofP_len par n none; omega
                    have hjn0 : j < K := by have := HC.out.1; omega
                    have e4 : IntKind.i64.wrap ((j : Int) - 1) = (i : Int) := by rw [IntKind.wrap_i64]; omega
                    have hjn : (j : Int) < (K : Int) := HC.out.1
                    have hin : (i : Int) < (K : Int) := by omega
                    have hyx : y < x := by
                      have h1 := rootD_sorted par kd n (i := i) (j := j) (by omega) (by rw [← HRR.out]; exact hjR)
                      have h2 : (rootD par kd n)[i]'(by rw [← HRR.out]; exact hiR) = R[i] := by congr 1; exact HRR.out.symm
                      have h3 : (rootD par kd n)[j]'(by rw [← HRR.out]; exact hjR) = R[j] := by congr 1; exact HRR.out.symm
                      rw [h2, h3, ← hy, ← hx] at h1
                      exact h1
                    have hyx' : ¬ (x : Int) ≤ (y : Int) := by omega
                    have HI := hid hi
                    clear l1 l2 hx hjR hi li hyx hy hiR hKn hjn0
                    refine wp_region_rel [(some 130, .int .i64 (j : Nat)), (some 131, .bool true), (some 132, .bool true), (some 133, .slice (some ⟨wI.heap.size, 0, none⟩) K K), (some 134, .int .i64 (j : Nat)), (some 135, .pointer (some ⟨wI.heap.size, j, none⟩)), (some 136, .int .i32 (x : Int)), (some 137, .slice (some ⟨wI.heap.size, 0, none⟩) K K), (some 138, .int .i64 (j : Nat)), (some 139, .int .i64 (i : Nat)), (some 140, .pointer (some ⟨wI.heap.size, i, none⟩)), (some 141, .int .i32 (y : Int)), (some 142, .bool false), (some 143, .bool false)] (fun X => X = w4.drew) 185 (by kernel_rfl) (by kernel_rfl) (by kernel_rfl) (by kernel_rfl) ?h034p (by kernel_rfl) ?hop34p ?hend34p
                    case hop34p =>
                      intro i o az wz ho hR hd hf KK hK
                      have hin : i = 0 ∨ i = 1 ∨ i = 2 ∨ i = 3 ∨ i = 4 ∨ i = 5 ∨ i = 6 ∨ i = 7 ∨ i = 8 ∨ i = 9 ∨ i = 10 ∨ i = 11 ∨ i = 12 ∨ i = 13 := by
                        rcases Nat.lt_or_ge i 14 with h | h
                        · omega
                        · rw [Array.getElem?_eq_none h] at ho
                          cases ho
                      rcases hin with rfl | rfl | rfl | rfl | rfl | rfl | rfl | rfl | rfl | rfl | rfl | rfl | rfl | rfl
                      · simp only [List.getElem?_toArray, List.getElem?_cons_zero, Option.some.injEq] at ho
                        subst ho
                        have v0 : az.eval (.tmp 15) = .int .i64 (j : Nat) := (hf 15 (by kernel_rfl)).trans (by kernel_rfl)
                        have u0 : az.tmps[15]?.getD undef = .int .i64 (j : Nat) := by rw [← Array.getD_eq_getD_getElem?]; exact v0
                        clear v0
                        clear hd hf
                        replace hK : ∀ w', (fun X => X = w4.drew) w' → KK (az.put (some 130) (.int .i64 (j : Nat))) w' := hK
                        have HK := Lib.hid hK
                        clear hK
                        obtain rfl : wz = w4.drew := hR
                        show if Region.wanted _ (yielded _ az.tmps) = true then Oper.wp _ _ az (w4.drew) KK _ else _
                        go_simp
                        exact HK.out _ rfl
                      · simp only [List.getElem?_toArray, List.getElem?_cons_zero, List.getElem?_cons_succ, Option.some.injEq] at ho
                        subst ho
                        have v0 : az.eval (.tmp 130) = .int .i64 (j : Nat) := hd 0 130 (by kernel_rfl) (by kernel_rfl)
                        have u0 : az.tmps[130]?.getD undef = .int .i64 (j : Nat) := by rw [← Array.getD_eq_getD_getElem?]; exact v0
                        clear v0
                        clear hd hf
                        replace hK : ∀ w', (fun X => X = w4.drew) w' → KK (az.put (some 131) (.bool true)) w' := hK
                        have HK := Lib.hid hK
                        clear hK
                        obtain rfl : wz = w4.drew := hR
                        show if Region.wanted _ (yielded _ az.tmps) = true then Oper.wp _ _ az (w4.drew) KK _ else _
                        go_simp
                        exact HK.out _ rfl
                      · simp only [List.getElem?_toArray, List.getElem?_cons_zero, List.getElem?_cons_succ, Option.some.injEq] at ho
                        subst ho
                        have v0 : az.eval (.tmp 131) = .bool true := hd 1 131 (by kernel_rfl) (by kernel_rfl)
                        have u0 : az.tmps[131]?.getD undef = .bool true := by rw [← Array.getD_eq_getD_getElem?]; exact v0
                        clear v0
                        clear hd hf
                        replace hK : ∀ w', (fun X => X = w4.drew) w' → KK (az.put (some 132) (.bool true)) w' := hK
                        have HK := Lib.hid hK
                        clear hK
                        obtain rfl : wz = w4.drew := hR
                        show if Region.wanted _ (yielded _ az.tmps) = true then Oper.wp _ _ az (w4.drew) KK _ else _
                        go_simp
                        exact HK.out _ rfl
                      · simp only [List.getElem?_toArray, List.getElem?_cons_zero, List.getElem?_cons_succ, Option.some.injEq] at ho
                        subst ho
                        have v0 : az.eval (.tmp 14) = .slice (some ⟨wI.heap.size, 0, none⟩) K K := (hf 14 (by kernel_rfl)).trans (by kernel_rfl)
                        have u0 : az.tmps[14]?.getD undef = .slice (some ⟨wI.heap.size, 0, none⟩) K K := by rw [← Array.getD_eq_getD_getElem?]; exact v0
                        clear v0
                        have v1 : az.eval (.tmp 132) = .bool true := hd 2 132 (by kernel_rfl) (by kernel_rfl)
                        have g1 := tmp_bool v1
                        have u1 : az.tmps[132]?.getD undef = .bool true := by rw [← Array.getD_eq_getD_getElem?]; exact v1
                        clear v1
                        clear hd hf
                        replace hK : ∀ w', (fun X => X = w4.drew) w' → KK (az.put (some 133) (.slice (some ⟨wI.heap.size, 0, none⟩) K K)) w' := hK
                        have HK := Lib.hid hK
                        clear hK
                        obtain rfl : wz = w4.drew := hR
                        show if Region.wanted _ (yielded _ az.tmps) = true then Oper.wp _ _ az (w4.drew) KK _ else _
                        go_simp
                        exact HK.out _ rfl
                      · simp only [List.getElem?_toArray, List.getElem?_cons_zero, List.getElem?_cons_succ, Option.some.injEq] at ho
                        subst ho
                        have v0 : az.eval (.tmp 15) = .int .i64 (j : Nat) := (hf 15 (by kernel_rfl)).trans (by kernel_rfl)
                        have u0 : az.tmps[15]?.getD undef = .int .i64 (j : Nat) := by rw [← Array.getD_eq_getD_getElem?]; exact v0
                        clear v0
                        have v1 : az.eval (.tmp 132) = .bool true := hd 2 132 (by kernel_rfl) (by kernel_rfl)
                        have g1 := tmp_bool v1
                        have u1 : az.tmps[132]?.getD undef = .bool true := by rw [← Array.getD_eq_getD_getElem?]; exact v1
                        clear v1
                        clear hd hf
                        replace hK : ∀ w', (fun X => X = w4.drew) w' → KK (az.put (some 134) (.int .i64 (j : Nat))) w' := hK
                        have HK := Lib.hid hK
                        clear hK
                        obtain rfl : wz = w4.drew := hR
                        show if Region.wanted _ (yielded _ az.tmps) = true then Oper.wp _ _ az (w4.drew) KK _ else _
                        go_simp
                        exact HK.out _ rfl
                      · simp only [List.getElem?_toArray, List.getElem?_cons_zero, List.getElem?_cons_succ, Option.some.injEq] at ho
                        subst ho
                        have v0 : az.eval (.tmp 133) = .slice (some ⟨wI.heap.size, 0, none⟩) K K := hd 3 133 (by kernel_rfl) (by kernel_rfl)
                        have u0 : az.tmps[133]?.getD undef = .slice (some ⟨wI.heap.size, 0, none⟩) K K := by rw [← Array.getD_eq_getD_getElem?]; exact v0
                        clear v0
                        have v1 : az.eval (.tmp 134) = .int .i64 (j : Nat) := hd 4 134 (by kernel_rfl) (by kernel_rfl)
                        have u1 : az.tmps[134]?.getD undef = .int .i64 (j : Nat) := by rw [← Array.getD_eq_getD_getElem?]; exact v1
                        clear v1
                        have v2 : az.eval (.tmp 132) = .bool true := hd 2 132 (by kernel_rfl) (by kernel_rfl)
                        have g2 := tmp_bool v2
                        have u2 : az.tmps[132]?.getD undef = .bool true := by rw [← Array.getD_eq_getD_getElem?]; exact v2
                        clear v2
                        clear hd hf
                        replace hK : ∀ w', (fun X => X = w4.drew) w' → KK (az.put (some 135) (.pointer (some ⟨wI.heap.size, j, none⟩))) w' := hK
                        have HK := Lib.hid hK
                        clear hK
                        obtain rfl : wz = w4.drew := hR
                        show if Region.wanted _ (yielded _ az.tmps) = true then Oper.wp _ _ az (w4.drew) KK _ else _
                        go_simp
                        exact HK.out _ rfl
                      · simp only [List.getElem?_toArray, List.getElem?_cons_zero, List.getElem?_cons_succ, Option.some.injEq] at ho
                        subst ho
                        have v0 : az.eval (.tmp 135) = .pointer (some ⟨wI.heap.size, j, none⟩) := hd 5 135 (by kernel_rfl) (by kernel_rfl)
                        have u0 : az.tmps[135]?.getD undef = .pointer (some ⟨wI.heap.size, j, none⟩) := by rw [← Array.getD_eq_getD_getElem?]; exact v0
                        clear v0
                        have v1 : az.eval (.tmp 132) = .bool true := hd 2 132 (by kernel_rfl) (by kernel_rfl)
                        have g1 := tmp_bool v1
                        have u1 : az.tmps[132]?.getD undef = .bool true := by rw [← Array.getD_eq_getD_getElem?]; exact v1
                        clear v1
                        clear hd hf
                        replace hK : ∀ w', (fun X => X = w4.drew) w' → KK (az.put (some 136) (.int .i32 (x : Int))) w' := hK
                        have HK := Lib.hid hK
                        clear hK
                        obtain rfl : wz = w4.drew := hR
                        show if Region.wanted _ (yielded _ az.tmps) = true then Oper.wp _ _ az (w4.drew) KK _ else _
                        go_simp
                        exact HK.out _ rfl
                      · simp only [List.getElem?_toArray, List.getElem?_cons_zero, List.getElem?_cons_succ, Option.some.injEq] at ho
                        subst ho
                        have v0 : az.eval (.tmp 14) = .slice (some ⟨wI.heap.size, 0, none⟩) K K := (hf 14 (by kernel_rfl)).trans (by kernel_rfl)
                        have u0 : az.tmps[14]?.getD undef = .slice (some ⟨wI.heap.size, 0, none⟩) K K := by rw [← Array.getD_eq_getD_getElem?]; exact v0
                        clear v0
                        have v1 : az.eval (.tmp 132) = .bool true := hd 2 132 (by kernel_rfl) (by kernel_rfl)
                        have g1 := tmp_bool v1
                        have u1 : az.tmps[132]?.getD undef = .bool true := by rw [← Array.getD_eq_getD_getElem?]; exact v1
                        clear v1
                        clear hd hf
                        replace hK : ∀ w', (fun X => X = w4.drew) w' → KK (az.put (some 137) (.slice (some ⟨wI.heap.size, 0, none⟩) K K)) w' := hK
                        have HK := Lib.hid hK
                        clear hK
                        obtain rfl : wz = w4.drew := hR
                        show if Region.wanted _ (yielded _ az.tmps) = true then Oper.wp _ _ az (w4.drew) KK _ else _
                        go_simp
                        exact HK.out _ rfl
                      · simp only [List.getElem?_toArray, List.getElem?_cons_zero, List.getElem?_cons_succ, Option.some.injEq] at ho
                        subst ho
                        have v0 : az.eval (.tmp 15) = .int .i64 (j : Nat) := (hf 15 (by kernel_rfl)).trans (by kernel_rfl)
                        have u0 : az.tmps[15]?.getD undef = .int .i64 (j : Nat) := by rw [← Array.getD_eq_getD_getElem?]; exact v0
                        clear v0
                        have v1 : az.eval (.tmp 132) = .bool true := hd 2 132 (by kernel_rfl) (by kernel_rfl)
                        have g1 := tmp_bool v1
                        have u1 : az.tmps[132]?.getD undef = .bool true := by rw [← Array.getD_eq_getD_getElem?]; exact v1
                        clear v1
                        clear hd hf
                        replace hK : ∀ w', (fun X => X = w4.drew) w' → KK (az.put (some 138) (.int .i64 (j : Nat))) w' := hK
                        have HK := Lib.hid hK
                        clear hK
                        obtain rfl : wz = w4.drew := hR
                        show if Region.wanted _ (yielded _ az.tmps) = true then Oper.wp _ _ az (w4.drew) KK _ else _
                        go_simp
                        exact HK.out _ rfl
                      · simp only [List.getElem?_toArray, List.getElem?_cons_zero, List.getElem?_cons_succ, Option.some.injEq] at ho
                        subst ho
                        have v0 : az.eval (.tmp 138) = .int .i64 (j : Nat) := hd 8 138 (by kernel_rfl) (by kernel_rfl)
                        have u0 : az.tmps[138]?.getD undef = .int .i64 (j : Nat) := by rw [← Array.getD_eq_getD_getElem?]; exact v0
                        clear v0
                        have v1 : az.eval (.tmp 132) = .bool true := hd 2 132 (by kernel_rfl) (by kernel_rfl)
                        have g1 := tmp_bool v1
                        have u1 : az.tmps[132]?.getD undef = .bool true := by rw [← Array.getD_eq_getD_getElem?]; exact v1
                        clear v1
                        clear hd hf
                        replace hK : ∀ w', (fun X => X = w4.drew) w' → KK (az.put (some 139) (.int .i64 (i : Nat))) w' := hK
                        have HK := Lib.hid hK
                        clear hK
                        obtain rfl : wz = w4.drew := hR
                        show if Region.wanted _ (yielded _ az.tmps) = true then Oper.wp _ _ az (w4.drew) KK _ else _
                        go_simp
                        exact HK.out _ rfl
                      · simp only [List.getElem?_toArray, List.getElem?_cons_zero, List.getElem?_cons_succ, Option.some.injEq] at ho
                        subst ho
                        have v0 : az.eval (.tmp 137) = .slice (some ⟨wI.heap.size, 0, none⟩) K K := hd 7 137 (by kernel_rfl) (by kernel_rfl)
                        have u0 : az.tmps[137]?.getD undef = .slice (some ⟨wI.heap.size, 0, none⟩) K K := by rw [← Array.getD_eq_getD_getElem?]; exact v0
                        clear v0
                        have v1 : az.eval (.tmp 139) = .int .i64 (i : Nat) := hd 9 139 (by kernel_rfl) (by kernel_rfl)
                        have u1 : az.tmps[139]?.getD undef = .int .i64 (i : Nat) := by rw [← Array.getD_eq_getD_getElem?]; exact v1
                        clear v1
                        have v2 : az.eval (.tmp 132) = .bool true := hd 2 132 (by kernel_rfl) (by kernel_rfl)
                        have g2 := tmp_bool v2
                        have u2 : az.tmps[132]?.getD undef = .bool true := by rw [← Array.getD_eq_getD_getElem?]; exact v2
                        clear v2
                        clear hd hf
                        replace hK : ∀ w', (fun X => X = w4.drew) w' → KK (az.put (some 140) (.pointer (some ⟨wI.heap.size, i, none⟩))) w' := hK
                        have HK := Lib.hid hK
                        clear hK
                        obtain rfl : wz = w4.drew := hR
                        show if Region.wanted _ (yielded _ az.tmps) = true then Oper.wp _ _ az (w4.drew) KK _ else _
                        go_simp
                        exact HK.out _ rfl
                      · simp only [List.getElem?_toArray, List.getElem?_cons_zero, List.getElem?_cons_succ, Option.some.injEq] at ho
                        subst ho
                        have v0 : az.eval (.tmp 140) = .pointer (some ⟨wI.heap.size, i, none⟩) := hd 10 140 (by kernel_rfl) (by kernel_rfl)
                        have u0 : az.tmps[140]?.getD undef = .pointer (some ⟨wI.heap.size, i, none⟩) := by rw [← Array.getD_eq_getD_getElem?]; exact v0
                        clear v0
                        have v1 : az.eval (.tmp 132) = .bool true := hd 2 132 (by kernel_rfl) (by kernel_rfl)
                        have g1 := tmp_bool v1
                        have u1 : az.tmps[132]?.getD undef = .bool true := by rw [← Array.getD_eq_getD_getElem?]; exact v1
                        clear v1
                        clear hd hf
                        replace hK : ∀ w', (fun X => X = w4.drew) w' → KK (az.put (some 141) (.int .i32 (y : Int))) w' := hK
                        have HK := Lib.hid hK
                        clear hK
                        obtain rfl : wz = w4.drew := hR
                        show if Region.wanted _ (yielded _ az.tmps) = true then Oper.wp _ _ az (w4.drew) KK _ else _
                        go_simp
                        exact HK.out _ rfl
                      · simp only [List.getElem?_toArray, List.getElem?_cons_zero, List.getElem?_cons_succ, Option.some.injEq] at ho
                        subst ho
                        have v0 : az.eval (.tmp 136) = .int .i32 (x : Int) := hd 6 136 (by kernel_rfl) (by kernel_rfl)
                        have u0 : az.tmps[136]?.getD undef = .int .i32 (x : Int) := by rw [← Array.getD_eq_getD_getElem?]; exact v0
                        clear v0
                        have v1 : az.eval (.tmp 141) = .int .i32 (y : Int) := hd 11 141 (by kernel_rfl) (by kernel_rfl)
                        have u1 : az.tmps[141]?.getD undef = .int .i32 (y : Int) := by rw [← Array.getD_eq_getD_getElem?]; exact v1
                        clear v1
                        have v2 : az.eval (.tmp 132) = .bool true := hd 2 132 (by kernel_rfl) (by kernel_rfl)
                        have g2 := tmp_bool v2
                        have u2 : az.tmps[132]?.getD undef = .bool true := by rw [← Array.getD_eq_getD_getElem?]; exact v2
                        clear v2
                        clear hd hf
                        replace hK : ∀ w', (fun X => X = w4.drew) w' → KK (az.put (some 142) (.bool false)) w' := hK
                        have HK := Lib.hid hK
                        clear hK
                        obtain rfl : wz = w4.drew := hR
                        show if Region.wanted _ (yielded _ az.tmps) = true then Oper.wp _ _ az (w4.drew) KK _ else _
                        go_simp
                        exact HK.out _ rfl
                      · simp only [List.getElem?_toArray, List.getElem?_cons_zero, List.getElem?_cons_succ, Option.some.injEq] at ho
                        subst ho
                        have v0 : az.eval (.tmp 132) = .bool true := hd 2 132 (by kernel_rfl) (by kernel_rfl)
                        have u0 : az.tmps[132]?.getD undef = .bool true := by rw [← Array.getD_eq_getD_getElem?]; exact v0
                        clear v0
                        have v1 : az.eval (.tmp 142) = .bool false := hd 12 142 (by kernel_rfl) (by kernel_rfl)
                        have u1 : az.tmps[142]?.getD undef = .bool false := by rw [← Array.getD_eq_getD_getElem?]; exact v1
                        clear v1
                        clear hd hf
                        replace hK : ∀ w', (fun X => X = w4.drew) w' → KK (az.put (some 143) (.bool false)) w' := hK
                        have HK := Lib.hid hK
                        clear hK
                        obtain rfl : wz = w4.drew := hR
                        show if Region.wanted _ (yielded _ az.tmps) = true then Oper.wp _ _ az (w4.drew) KK _ else _
                        go_simp
                        exact HK.out _ rfl
                    case h034p => exact rfl
                    intro wz hwz
                    obtain rfl : wz = w4.drew := hwz
                    simp only [List.foldl_cons, List.foldl_nil]
                    simp only [Act.put, List.setIfInBounds_toArray, List.set_cons_zero, List.set_cons_succ]
                    clear hj0 hj1 e4 hin hyx' s4 s5
                    obtain ⟨hc, e1⟩ := HC.out
                    go_wp2_with fail
                    go_roundg g
                    case measure => omega
                    case rel => exact HNX.out.drew
                  · have hj1 : ¬ (0 : Int) < (j : Int) := by omega
                    refine wp_region_rel [(some 130, .int .i64 (j : Nat)), (some 131, .bool false), (some 132, .bool false), (some 133, undef), (some 134, undef), (some 135, undef), (some 136, undef), (some 137, undef), (some 138, undef), (some 139, undef), (some 140, undef), (some 141, undef), (some 142, undef), (some 143, .bool false)] (fun X => X = w4.drew) 185 (by kernel_rfl) (by kernel_rfl) (by kernel_rfl) (by kernel_rfl) ?h034z (by kernel_rfl) ?hop34z ?hend34z
                    case hop34z =>
                      intro i o az wz ho hR hd hf KK hK
                      have hin : i = 0 ∨ i = 1 ∨ i = 2 ∨ i = 3 ∨ i = 4 ∨ i = 5 ∨ i = 6 ∨ i = 7 ∨ i = 8 ∨ i = 9 ∨ i = 10 ∨ i = 11 ∨ i = 12 ∨ i = 13 := by
                        rcases Nat.lt_or_ge i 14 with h | h
                        · omega
                        · rw [Array.getElem?_eq_none h] at ho
                          cases ho
                      rcases hin with rfl | rfl | rfl | rfl | rfl | rfl | rfl | rfl | rfl | rfl | rfl | rfl | rfl | rfl
                      · simp only [List.getElem?_toArray, List.getElem?_cons_zero, Option.some.injEq] at ho
                        subst ho
                        have v0 : az.eval (.tmp 15) = .int .i64 (j : Nat) := (hf 15 (by kernel_rfl)).trans (by kernel_rfl)
                        have u0 : az.tmps[15]?.getD undef = .int .i64 (j : Nat) := by rw [← Array.getD_eq_getD_getElem?]; exact v0
                        clear v0
                        clear hd hf
                        replace hK : ∀ w', (fun X => X = w4.drew) w' → KK (az.put (some 130) (.int .i64 (j : Nat))) w' := hK
                        have HK := Lib.hid hK
                        clear hK
                        obtain rfl : wz = w4.drew := hR
                        show if Region.wanted _ (yielded _ az.tmps) = true then Oper.wp _ _ az (w4.drew) KK _ else _
                        go_simp
                        exact HK.out _ rfl
                      · simp only [List.getElem?_toArray, List.getElem?_cons_zero, List.getElem?_cons_succ, Option.some.injEq] at ho
                        subst ho
                        have v0 : az.eval (.tmp 130) = .int .i64 (j : Nat) := hd 0 130 (by kernel_rfl) (by kernel_rfl)
                        have u0 : az.tmps[130]?.getD undef = .int .i64 (j : Nat) := by rw [← Array.getD_eq_getD_getElem?]; exact v0
                        clear v0
                        clear hd hf
                        replace hK : ∀ w', (fun X => X = w4.drew) w' → KK (az.put (some 131) (.bool false)) w' := hK
                        have HK := Lib.hid hK
                        clear hK
                        obtain rfl : wz = w4.drew := hR
                        show if Region.wanted _ (yielded _ az.tmps) = true then Oper.wp _ _ az (w4.drew) KK _ else _
                        go_simp
                        exact HK.out _ rfl
                      · simp only [List.getElem?_toArray, List.getElem?_cons_zero, List.getElem?_cons_succ, Option.some.injEq] at ho
                        subst ho
                        have v0 : az.eval (.tmp 131) = .bool false := hd 1 131 (by kernel_rfl) (by kernel_rfl)
                        have u0 : az.tmps[131]?.getD undef = .bool false := by rw [← Array.getD_eq_getD_getElem?]; exact v0
                        clear v0
                        clear hd hf
                        replace hK : ∀ w', (fun X => X = w4.drew) w' → KK (az.put (some 132) (.bool false)) w' := hK
                        have HK := Lib.hid hK
                        clear hK
                        obtain rfl : wz = w4.drew := hR
                        show if Region.wanted _ (yielded _ az.tmps) = true then Oper.wp _ _ az (w4.drew) KK _ else _
                        go_simp
                        exact HK.out _ rfl
                      · simp only [List.getElem?_toArray, List.getElem?_cons_zero, List.getElem?_cons_succ, Option.some.injEq] at ho
                        subst ho
                        have v0 : az.eval (.tmp 14) = .slice (some ⟨wI.heap.size, 0, none⟩) K K := (hf 14 (by kernel_rfl)).trans (by kernel_rfl)
                        have u0 : az.tmps[14]?.getD undef = .slice (some ⟨wI.heap.size, 0, none⟩) K K := by rw [← Array.getD_eq_getD_getElem?]; exact v0
                        clear v0
                        have v1 : az.eval (.tmp 132) = .bool false := hd 2 132 (by kernel_rfl) (by kernel_rfl)
                        have g1 := tmp_bool v1
                        have u1 : az.tmps[132]?.getD undef = .bool false := by rw [← Array.getD_eq_getD_getElem?]; exact v1
                        clear v1
                        clear hd hf
                        replace hK : ∀ w', (fun X => X = w4.drew) w' → KK (az.put (some 133) (undef)) w' := hK
                        have HK := Lib.hid hK
                        clear hK
                        obtain rfl : wz = w4.drew := hR
                        show if Region.wanted _ (yielded _ az.tmps) = true then Oper.wp _ _ az (w4.drew) KK _ else _
                        go_simp
                        exact HK.out _ rfl
                      · simp only [List.getElem?_toArray, List.getElem?_cons_zero, List.getElem?_cons_succ, Option.some.injEq] at ho
                        subst ho
                        have v0 : az.eval (.tmp 15) = .int .i64 (j : Nat) := (hf 15 (by kernel_rfl)).trans (by kernel_rfl)
                        have u0 : az.tmps[15]?.getD undef = .int .i64 (j : Nat) := by rw [← Array.getD_eq_getD_getElem?]; exact v0
                        clear v0
                        have v1 : az.eval (.tmp 132) = .bool false := hd 2 132 (by kernel_rfl) (by kernel_rfl)
                        have g1 := tmp_bool v1
                        have u1 : az.tmps[132]?.getD undef = .bool false := by rw [← Array.getD_eq_getD_getElem?]; exact v1
                        clear v1
                        clear hd hf
                        replace hK : ∀ w', (fun X => X = w4.drew) w' → KK (az.put (some 134) (undef)) w' := hK
                        have HK := Lib.hid hK
                        clear hK
                        obtain rfl : wz = w4.drew := hR
                        show if Region.wanted _ (yielded _ az.tmps) = true then Oper.wp _ _ az (w4.drew) KK _ else _
                        go_simp
                        exact HK.out _ rfl
                      · simp only [List.getElem?_toArray, List.getElem?_cons_zero, List.getElem?_cons_succ, Option.some.injEq] at ho
                        subst ho
                        have v0 : az.eval (.tmp 133) = undef := hd 3 133 (by kernel_rfl) (by kernel_rfl)
                        have u0 : az.tmps[133]?.getD undef = undef := by rw [← Array.getD_eq_getD_getElem?]; exact v0
                        clear v0
                        have v1 : az.eval (.tmp 134) = undef := hd 4 134 (by kernel_rfl) (by kernel_rfl)
                        have u1 : az.tmps[134]?.getD undef = undef := by rw [← Array.getD_eq_getD_getElem?]; exact v1
                        clear v1
                        have v2 : az.eval (.tmp 132) = .bool false := hd 2 132 (by kernel_rfl) (by kernel_rfl)
                        have g2 := tmp_bool v2
                        have u2 : az.tmps[132]?.getD undef = .bool false := by rw [← Array.getD_eq_getD_getElem?]; exact v2
                        clear v2
                        clear hd hf
                        replace hK : ∀ w', (fun X => X = w4.drew) w' → KK (az.put (some 135) (undef)) w' := hK
                        have HK := Lib.hid hK
                        clear hK
                        obtain rfl : wz = w4.drew := hR
                        show if Region.wanted _ (yielded _ az.tmps) = true then Oper.wp _ _ az (w4.drew) KK _ else _
                        go_simp
                        exact HK.out _ rfl
                      · simp only [List.getElem?_toArray, List.getElem?_cons_zero, List.getElem?_cons_succ, Option.some.injEq] at ho
                        subst ho
                        have v0 : az.eval (.tmp 135) = undef := hd 5 135 (by kernel_rfl) (by kernel_rfl)
                        have u0 : az.tmps[135]?.getD undef = undef := by rw [← Array.getD_eq_getD_getElem?]; exact v0
                        clear v0
                        have v1 : az.eval (.tmp 132) = .bool false := hd 2 132 (by kernel_rfl) (by kernel_rfl)
                        have g1 := tmp_bool v1
                        have u1 : az.tmps[132]?.getD undef = .bool false := by rw [← Array.getD_eq_getD_getElem?]; exact v1
                        clear v1
                        clear hd hf
                        replace hK : ∀ w', (fun X => X = w4.drew) w' → KK (az.put (some 136) (undef)) w' := hK
                        have HK := Lib.hid hK
                        clear hK
                        obtain rfl : wz = w4.drew := hR
                        show if Region.wanted _ (yielded _ az.tmps) = true then Oper.wp _ _ az (w4.drew) KK _ else _
                        go_simp
                        exact HK.out _ rfl
                      · simp only [List.getElem?_toArray, List.getElem?_cons_zero, List.getElem?_cons_succ, Option.some.injEq] at ho
                        subst ho
                        have v0 : az.eval (.tmp 14) = .slice (some ⟨wI.heap.size, 0, none⟩) K K := (hf 14 (by kernel_rfl)).trans (by kernel_rfl)
                        have u0 : az.tmps[14]?.getD undef = .slice (some ⟨wI.heap.size, 0, none⟩) K K := by rw [← Array.getD_eq_getD_getElem?]; exact v0
                        clear v0
                        have v1 : az.eval (.tmp 132) = .bool false := hd 2 132 (by kernel_rfl) (by kernel_rfl)
                        have g1 := tmp_bool v1
                        have u1 : az.tmps[132]?.getD undef = .bool false := by rw [← Array.getD_eq_getD_getElem?]; exact v1
                        clear v1
                        clear hd hf
                        replace hK : ∀ w', (fun X => X = w4.drew) w' → KK (az.put (some 137) (undef)) w' := hK
                        have HK := Lib.hid hK
                        clear hK
                        obtain rfl : wz = w4.drew := hR
                        show if Region.wanted _ (yielded _ az.tmps) = true then Oper.wp _ _ az (w4.drew) KK _ else _
                        go_simp
                        exact HK.out _ rfl
                      · simp only [List.getElem?_toArray, List.getElem?_cons_zero, List.getElem?_cons_succ, Option.some.injEq] at ho
                        subst ho
                        have v0 : az.eval (.tmp 15) = .int .i64 (j : Nat) := (hf 15 (by kernel_rfl)).trans (by kernel_rfl)
                        have u0 : az.tmps[15]?.getD undef = .int .i64 (j : Nat) := by rw [← Array.getD_eq_getD_getElem?]; exact v0
                        clear v0
                        have v1 : az.eval (.tmp 132) = .bool false := hd 2 132 (by kernel_rfl) (by kernel_rfl)
                        have g1 := tmp_bool v1
                        have u1 : az.tmps[132]?.getD undef = .bool false := by rw [← Array.getD_eq_getD_getElem?]; exact v1
                        clear v1
                        clear hd hf
                        replace hK : ∀ w', (fun X => X = w4.drew) w' → KK (az.put (some 138) (undef)) w' := hK
                        have HK := Lib.hid hK
                        clear hK
                        obtain rfl : wz = w4.drew := hR
                        show if Region.wanted _ (yielded _ az.tmps) = true then Oper.wp _ _ az (w4.drew) KK _ else _
                        go_simp
                        exact HK.out _ rfl
                      · simp only [List.getElem?_toArray, List.getElem?_cons_zero, List.getElem?_cons_succ, Option.some.injEq] at ho
                        subst ho
                        have v0 : az.eval (.tmp 138) = undef := hd 8 138 (by kernel_rfl) (by kernel_rfl)
                        have u0 : az.tmps[138]?.getD undef = undef := by rw [← Array.getD_eq_getD_getElem?]; exact v0
                        clear v0
                        have v1 : az.eval (.tmp 132) = .bool false := hd 2 132 (by kernel_rfl) (by kernel_rfl)
                        have g1 := tmp_bool v1
                        have u1 : az.tmps[132]?.getD undef = .bool false := by rw [← Array.getD_eq_getD_getElem?]; exact v1
                        clear v1
                        clear hd hf
                        replace hK : ∀ w', (fun X => X = w4.drew) w' → KK (az.put (some 139) (undef)) w' := hK
                        have HK := Lib.hid hK
                        clear hK
                        obtain rfl : wz = w4.drew := hR
                        show if Region.wanted _ (yielded _ az.tmps) = true then Oper.wp _ _ az (w4.drew) KK _ else _
                        go_simp
                        exact HK.out _ rfl
                      · simp only [List.getElem?_toArray, List.getElem?_cons_zero, List.getElem?_cons_succ, Option.some.injEq] at ho
                        subst ho
                        have v0 : az.eval (.tmp 137) = undef := hd 7 137 (by kernel_rfl) (by kernel_rfl)
                        have u0 : az.tmps[137]?.getD undef = undef := by rw [← Array.getD_eq_getD_getElem?]; exact v0
                        clear v0
                        have v1 : az.eval (.tmp 139) = undef := hd 9 139 (by kernel_rfl) (by kernel_rfl)
                        have u1 : az.tmps[139]?.getD undef = undef := by rw [← Array.getD_eq_getD_getElem?]; exact v1
                        clear v1
                        have v2 : az.eval (.tmp 132) = .bool false := hd 2 132 (by kernel_rfl) (by kernel_rfl)
                        have g2 := tmp_bool v2
                        have u2 : az.tmps[132]?.getD undef = .bool false := by rw [← Array.getD_eq_getD_getElem?]; exact v2
                        clear v2
                        clear hd hf
                        replace hK : ∀ w', (fun X => X = w4.drew) w' → KK (az.put (some 140) (undef)) w' := hK
                        have HK := Lib.hid hK
                        clear hK
                        obtain rfl : wz = w4.drew := hR
                        show if Region.wanted _ (yielded _ az.tmps) = true then Oper.wp _ _ az (w4.drew) KK _ else _
                        go_simp
                        exact HK.out _ rfl
                      · simp only [List.getElem?_toArray, List.getElem?_cons_zero, List.getElem?_cons_succ, Option.some.injEq] at ho
                        subst ho
                        have v0 : az.eval (.tmp 140) = undef := hd 10 140 (by kernel_rfl) (by kernel_rfl)
                        have u0 : az.tmps[140]?.getD undef = undef := by rw [← Array.getD_eq_getD_getElem?]; exact v0
                        clear v0
                        have v1 : az.eval (.tmp 132) = .bool false := hd 2 132 (by kernel_rfl) (by kernel_rfl)
                        have g1 := tmp_bool v1
                        have u1 : az.tmps[132]?.getD undef = .bool false := by rw [← Array.getD_eq_getD_getElem?]; exact v1
                        clear v1
                        clear hd hf
                        replace hK : ∀ w', (fun X => X = w4.drew) w' → KK (az.put (some 141) (undef)) w' := hK
                        have HK := Lib.hid hK
                        clear hK
                        obtain rfl : wz = w4.drew := hR
                        show if Region.wanted _ (yielded _ az.tmps) = true then Oper.wp _ _ az (w4.drew) KK _ else _
                        go_simp
                        exact HK.out _ rfl
                      · simp only [List.getElem?_toArray, List.getElem?_cons_zero, List.getElem?_cons_succ, Option.some.injEq] at ho
                        subst ho
                        have v0 : az.eval (.tmp 136) = undef := hd 6 136 (by kernel_rfl) (by kernel_rfl)
                        have u0 : az.tmps[136]?.getD undef = undef := by rw [← Array.getD_eq_getD_getElem?]; exact v0
                        clear v0
                        have v1 : az.eval (.tmp 141) = undef := hd 11 141 (by kernel_rfl) (by kernel_rfl)
                        have u1 : az.tmps[141]?.getD undef = undef := by rw [← Array.getD_eq_getD_getElem?]; exact v1
                        clear v1
                        have v2 : az.eval (.tmp 132) = .bool false := hd 2 132 (by kernel_rfl) (by kernel_rfl)
                        have g2 := tmp_bool v2
                        have u2 : az.tmps[132]?.getD undef = .bool false := by rw [← Array.getD_eq_getD_getElem?]; exact v2
                        clear v2
                        clear hd hf
                        replace hK : ∀ w', (fun X => X = w4.drew) w' → KK (az.put (some 142) (undef)) w' := hK
                        have HK := Lib.hid hK
                        clear hK
                        obtain rfl : wz = w4.drew := hR
                        show if Region.wanted _ (yielded _ az.tmps) = true then Oper.wp _ _ az (w4.drew) KK _ else _
                        go_simp
                        exact HK.out _ rfl
                      · simp only [List.getElem?_toArray, List.getElem?_cons_zero, List.getElem?_cons_succ, Option.some.injEq] at ho
                        subst ho
                        have v0 : az.eval (.tmp 132) = .bool false := hd 2 132 (by kernel_rfl) (by kernel_rfl)
                        have u0 : az.tmps[132]?.getD undef = .bool false := by rw [← Array.getD_eq_getD_getElem?]; exact v0
                        clear v0
                        have v1 : az.eval (.tmp 142) = undef := hd 12 142 (by kernel_rfl) (by kernel_rfl)
                        have u1 : az.tmps[142]?.getD undef = undef := by rw [← Array.getD_eq_getD_getElem?]; exact v1
                        clear v1
                        clear hd hf
                        replace hK : ∀ w', (fun X => X = w4.drew) w' → KK (az.put (some 143) (.bool false)) w' := hK
                        have HK := Lib.hid hK
                        clear hK
                        obtain rfl : wz = w4.drew := hR
                        show if Region.wanted _ (yielded _ az.tmps) = true then Oper.wp _ _ az (w4.drew) KK _ else _
                        go_simp
                        exact HK.out _ rfl
                    case h034z => exact rfl
                    intro wz hwz
                    obtain rfl : wz = w4.drew := hwz
                    simp only [List.foldl_cons, List.foldl_nil]
                    simp only [Act.put, List.setIfInBounds_toArray, List.set_cons_zero, List.set_cons_succ]
                    clear hj0 hj1 s4
                    obtain ⟨hc, e1⟩ := HC.out
                    go_wp2_with fail
                    go_roundg g
                    case measure => omega
                    case rel => exact HNX.out.drew
            | succ g =>
              obtain ⟨k, rest, rfl⟩ : ∃ k rs, rest = k :: rs := by
                cases rest with
                | nil => simp at hrg
                | cons t rs => exact ⟨t, rs, rfl⟩
              have hLn : L ≤ n := by rw [HLL.out]; exact ofP_len _ _ _
              have hLL := HLL.out
              have hpl : pre.length < L := by rw [HLL.out, he]; simp
              have hc : ((pre.length : Nat) : Int) < (L : Int) := by omega
              have e1 : IntKind.i64.wrap (((pre.length : Nat) : Int) + 1) = ((pre.length + 1 : Nat) : Int) := by rw [IntKind.wrap_i64]; omega
              have hkm : k ∈ ofP par n none := by rw [he]; simp
              obtain ⟨hkn, hkp⟩ := mem_ofP.1 hkm
              have hrr := hTr.roots
              obtain ⟨cg, rfl, hcg, hcc⟩ := hrr.cellI (i := pre.length) (by simp; omega)
              have hkv : (ints (ofP par n none))[pre.length]'(by simp; omega) = (k : Int) := by simp [he]
              rw [hkv] at hcc
              have kk0 := hTr.kind k hkn
              have hkl := hTr.lt.1
              obtain ⟨t0, _⟩ := hcell htr 0 _ rfl
              have htrl := heap_lt htr
              obtain ⟨b0, hb0⟩ : ∃ y, barr[k]? = some y := ⟨_, Array.getElem?_eq_getElem (by omega)⟩
              obtain ⟨s0, s0f⟩ := hcell q1 k _ hb0
              have hsl := heap_lt q1
              have hkn' : (k : Int) < (n : Int) := by omega
              obtain ⟨hn1, hn2⟩ := FlI.next he hkn q1 q2 q3 hbD hbw hwD.size
              have hgr : rest.length = g := by simpa using hrg
              rw [hgr] at hn1 hn2
              obtain ⟨j, hj⟩ : ∃ j, j = pre.length := ⟨_, rfl⟩
              rw [← hj] at hc e1 hcc hn1 hn2 ⊢
              have HN1 := hid hn1
              have HN2 := hid hn2
              obtain ⟨Y, hY⟩ : ∃ Y, Y = kd k := ⟨_, rfl⟩
              rw [← hY] at kk0
              have HY := hid hY
              clear hT5 ht5 htD hTD hwD hb5 htr hTr hpl hLn hLL hkm hkn hkp hrr hkv q1 q2 q3 hbD hbw hrg he hj hgr hb0 hn1 hn2 hY
              by_cases h0 : Y = 0
              · have HR2 := hid (HN1.out (by rw [← HY.out]; exact h0))
                have hb0 : ((Y : Int) == 0) = true := by rw [h0]; rfl
                have H0 := hid h0
                clear h0 HN1 HN2
                go_wp2_with fail
                go_roundg g
                case measure => omega
                case rel => exact HR2.out
              · have HR2 := hid (HN2.out (by rw [← HY.out]; exact h0))
                have hb0 : ((Y : Int) == 0) = false := by rw [beq_eq_false_iff_ne]; omega
                have H0 := hid h0
                clear h0 HN1 HN2
                go_wp2_with fail
                go_roundg g
                case measure => omega
                case rel => exact HR2.out
end Go.Proofs.YtjebnjjhdefejaaFmt
