/-
  The first law, walked. Conditions: each theorem's own.
-/
import Derived.Test.YtgjoklbljmpkgaaFmtGt
import Derived.Test.YtgjoklbljmpkgaaFmtGp
import Derived.BigQuiet
namespace Go.Proofs.YtgjoklbljmpkgaaFmt
open Go.RowKit Go.Lib Go.ChangeMaps
set_option maxHeartbeats 80000000 in
set_option maxRecDepth 100000 in
theorem walk3 (sa : Option Addr) (n cap pc : Nat) (g : Bool) (ws : List NM) (w : World) (hN : NamesAt sa n ws w) (hn : n ≤ maxLen) (hcap : sa = none → cap = 0) (hpc : pc ≤ 255) (hT : Tabs w) (h7 : 7 ≤ w.heap.size) :
    Calls Tryf.prog 3 #[.slice sa n cap, .int .u8 pc, .bool g] w fun e w' => e = .returned (.bool true) ∧ Below w.heap.size w w' := by
  obtain rfl := hN.len.symm
  have HN := hid hN
  have HT := hid hT
  have C5 := hid (zz5 sa ws.length cap ws pc g w hN hn)
  clear hN hT
  go_enter Tryf.func3, Tryf.ntmps3
  go_wp2_with fail
  refine C5.out.mono ?_
  rintro e w1 ⟨⟨b, rfl, hb5⟩, hw⟩
  obtain rfl := hw.symm
  cases b with
  | false =>
    go_wp2_with fail
    go_ret
    exact ⟨rfl, Below.refl _ _⟩
  | true =>
    have HS := hid (hb5 rfl)
    clear hb5 C5
    by_cases h4 : (4096 : Int) < ws.length
    · go_wp2_with fail
      go_ret
      exact ⟨rfl, Below.refl _ _⟩
    · have C6 := hid (zz6 sa ws.length cap ws w HN.out (by omega) HS.out)
      go_wp2_with fail
      refine C6.out.mono ?_
      rintro e w1 ⟨⟨k, rfl⟩, hw⟩
      obtain rfl := hw.symm
      by_cases h6 : (1048576 : Int) < k
      · go_wp2_with fail
        go_ret
        exact ⟨rfl, Below.refl _ _⟩
      · go_upto_region 7 with fail
        clear C6
        go_cut [42] (fun v42 wx => FR ws w v42 wx)
        case first =>
          rename_i J KK hJ hKK
          by_cases h2 : (2 : Int) ≤ ws.length
          · obtain ⟨gx, o, rfl, hgl, hgc⟩ := HN.out.cell (ws.length - 2) (by omega)
            have C7 := hid (fold7 (ba ws[ws.length - 2]) tFrom w (by decide) good_from)
            have hw2 : IntKind.i64.wrap ((ws.length : Int) - 2) = ((ws.length - 2 : Nat) : Int) := by rw [IntKind.wrap_i64]; unfold maxLen at hn; omega
            have hix : ws.length - 2 < ws.length := by omega
            go_wp2_with fail
            refine C7.out.mono ?_
            rintro e w1 ⟨⟨b, rfl, hb⟩, hbel⟩
            go_wp2_with fail
            refine Met.intro (hJ _ _ ?_)
            repeat apply Exists.intro
            refine ⟨⟨b, rfl, hbel, fun hbf i hi hi2 hF => ?_⟩, rfl⟩
            obtain rfl : i = ws.length - 2 := by omega
            rw [hb.2 hF] at hbf
            cases hbf
          · go_wp2_with fail
            refine Met.intro (hJ _ _ ?_)
            repeat apply Exists.intro
            exact ⟨⟨false, rfl, Below.refl _ _, fun _ i hi hi2 => by omega⟩, rfl⟩
        case rest =>
          obtain ⟨b, rfl, hbel, hno⟩ := hcut.ex
          clear hcut
          cases b with
          | true =>
            go_wp2_with fail
            go_ret
            exact ⟨rfl, hbel⟩
          | false =>
            have HNO := hid (hno rfl)
            have HBE := hid hbel
            have C8 := hid (copy8 sa ws.length cap ws wc (HN.out.below' hbel) (by omega) hcap)
            clear hno hbel
            have hcv : IntKind.i64.wrap (pc : Int) = pc := by rw [IntKind.wrap_i64]; omega
            go_wp2_with fail
            refine C8.out.mono ?_
            rintro e w2 ⟨sb, cb, rfl, hN3, hb3⟩
            have hbw2 := HBE.out.trans (hb3.mono HBE.out.size)
            have C9 := zz9 H13_of sb cb pc g false ws ws w2 hpc hN3.words (by omega) ⟨Nat.le_refl _, fun i h => rfl, HNO.out, Or.inl ⟨rfl, rfl⟩⟩ HS.out (by omega) (HT.out.below hbw2) (by have := hbw2.size; omega)
            rw [show (g && !false) = g by cases g <;> rfl] at C9
            have C9 := hid C9
            have HN3 := hid hN3
            have HB2 := hid hbw2
            clear hN3 hb3 hbw2 HBE C8 HNO HS
            go_wp2_with fail
            refine C9.out.mono ?_
            rintro e w3 ⟨hb4, P, S1, S2, S3, rfl, l1, l2, l3, l4, hrows, hsyms⟩
            obtain ⟨V, hV⟩ : ∃ V : Nat, (if g then (dist (flat pc ws)).length else 0 : Nat) = V := ⟨_, rfl⟩
            rw [hV]
            have hF := mkFA (g := g) HB2.out HN3.out hb4 l1 l2 l3 l4 hrows hsyms hV
            have HF := hid hF
            clear hrows hsyms C9 hb4 hF l1 l2 l3 l4 HN3 HB2
            have m33 := mkS 33 3 _ 1 8 Tryf.underlying33 info3 (by decide) ws.length (by omega)
            go_upto_block 0 with fail
            have hs4 : (w3.alloc (resA pc (dist (flat pc ws)).length P S1 S2 S3 V g)).heap.size = w3.heap.size + 1 := by simp
            generalize w3.alloc (resA pc (dist (flat pc ws)).length P S1 S2 S3 V g) = w4 at *
            have HD0 := hid (mkDI0 ws w4 (by omega))
            have HF9 := hid (HF.out.low (w' := w4.alloc (mkO (.int .i64 0) ws.length 3)) ⟨rfl, rfl, rfl⟩ (by simp) (fun q hq => (World.grownBy_alloc w4 _ none).block q hq (by simp)))
            have hs9 : (w4.alloc (mkO (.int .i64 0) ws.length 3)).heap.size = w4.heap.size + 1 := by simp
            have hM4 : w3.heap.size < w4.heap.size := by omega
            have HNL := hid (show ∀ i (h : i < ws.length), ∃ q o, sb = some ⟨q, o, none⟩ ∧ q < w4.heap.size ∧ (w4.alloc (mkO (.int .i64 0) ws.length 3)).cell? ⟨q, o + i, none⟩ = some (.string (ba ws[i])) from fun i hi => by
              obtain ⟨q, o, e1, e2, e3⟩ := HF.out.nm.cell i hi
              exact ⟨q, o, e1, e2, (cellLow ((World.grownBy_alloc w4 _ none).block q e2 (by simp)) _).trans e3⟩)
            have HFL := hid (show ∀ wx : World, (wx.os = (w4.alloc (mkO (.int .i64 0) ws.length 3)).os ∧ wx.tape = (w4.alloc (mkO (.int .i64 0) ws.length 3)).tape ∧ wx.output = (w4.alloc (mkO (.int .i64 0) ws.length 3)).output) → w4.heap.size < wx.heap.size → (∀ q, q < w4.heap.size → wx.heap[q]? = (w4.alloc (mkO (.int .i64 0) ws.length 3)).heap[q]?) → FA sb ws pc g g w3.heap.size P S1 S2 S3 w wx from
              fun wx ho hsz hl => HF.out.low ho (by omega) (fun q hq => (hl q hq).trans ((World.grownBy_alloc w4 _ none).block q hq (by simp))))
            clear HF
            generalize w4.alloc (mkO (.int .i64 0) ws.length 3) = w9 at *
            generalize w4.heap.size = MI at *
            generalize w3.heap.size = M at *
            obtain rfl : MI = M + 1 := by omega
            clear m33 hV hs4
            go_cut [9, 10] (fun v9 v10 wx => DI ws (M + 1) w9 ws.length v9 v10 wx)
            case first =>
              as_aux_lemma =>
              rename_i J KK hJ hKK
              go_wp2_with fail
              go_loopg [9, 10, 12] ws.length (fun g v9 v10 v12 wx => D1I ws (M + 1) w9 g v9 v10 v12 wx)
              case atStart => exact ⟨0, by omega, by first | rfl | simp, HD0.out⟩
              case round =>
                obtain ⟨i, hig, rfl, hD⟩ := hrel.ex
                clear hrel
                obtain ⟨sD, cD, sC, cC, rfl, rfl⟩ := hD.shapes
                have HD := hid hD
                clear hD
                cases gk with
                | zero =>
                  obtain rfl : i = ws.length := by omega
                  have hcmp : ¬ ((ws.length : Int) < (ws.length : Int)) := by omega
                  have hz := HD.out
                  rw [List.take_length] at hz
                  have HZ := hid hz
                  clear HD hz
                  go_wp2_with fail
                  refine Met.intro (hJ _ _ ?_)
                  repeat apply Exists.intro
                  exact ⟨HZ.out, rfl⟩
                | succ gi =>
                  have hi : i < ws.length := by omega
                  have hcmp : (i : Int) < (ws.length : Int) := by omega
                  go_upto_block 2 with fail
                  go_cut [13] (fun v13 wx => D2E ws ws[i] (M + 1) w9 i (.slice sD (dist (ws.take i)).length cD) (.slice sC (dist (ws.take i)).length cC) v13 wx)
                  case first =>
                    rename_i J KK hJ hKK
                    go_wp2_with fail
                    go_loopg [13] (dist (ws.take i)).length (fun g v13 wx => D2I ws ws[i] (M + 1) w9 i (.slice sD (dist (ws.take i)).length cD) (.slice sC (dist (ws.take i)).length cC) g v13 wx)
                    case atStart => exact ⟨0, by omega, by first | rfl | simp, by omega, HD.out⟩
                    case round =>
                      clear HD
                      obtain ⟨j, hjg, rfl, hji, hD⟩ := hrel.ex
                      clear hrel
                      have HD := hid hD
                      clear hD
                      cases gk with
                      | zero =>
                        have hcmp2 : decide ((j : Int) < ((dist (ws.take i)).length : Int)) = false := decide_eq_false (by omega)
                        have hje : (dist (ws.take i)).idxOf ws[i] = j := by
                          have := List.idxOf_le_length (l := dist (ws.take i)) (a := ws[i])
                          omega
                        have hjn : ¬ (j < (dist (ws.take i)).length) := by omega
                        have hjd : decide (j < (dist (ws.take i)).length) = false := decide_eq_false hjn
                        have hjz : ¬ ((j : Int) < ((dist (ws.take i)).length : Int)) := by omega
                        clear hjg
                        go_wp2_with fail
                        go_quiet (fail)
                        go_wp2_with fail
                        refine Met.intro (hJ _ _ ?_)
                        repeat apply Exists.intro
                        exact ⟨⟨by rw [← idx_all hi, hje], HD.out.drewN _⟩, rfl⟩
                      | succ gj =>
                        have hj : j < (dist (ws.take i)).length := by omega
                        have hcmp2 : decide ((j : Int) < ((dist (ws.take i)).length : Int)) = true := decide_eq_true (by omega)
                        obtain ⟨q, rfl, hql, hqc⟩ := HD.out.cellD hj
                        obtain ⟨g2, o, rfl, hgl, hgc⟩ := HNL.out i hi
                        have q0 : wr.cell? ⟨g2, o + i, none⟩ = some (.string (ba ws[i])) := (cellLow (HD.out.low g2 hgl) _).trans hgc
                        have hgs : g2 < wr.heap.size := Nat.lt_trans hgl HD.out.sz
                        clear hgl hgc
                        by_cases e : (dist (ws.take i))[j] = ws[i]
                        · have he := hid (idx_here hj hji e)
                          rw [e] at hqc
                          go_wp2_with fail
                          go_quiet (fail)
                          go_wp2_with fail
                          refine Met.intro (hJ _ _ ?_)
                          repeat apply Exists.intro
                          exact ⟨⟨by rw [← idx_all hi, he.out], HD.out.drewN _⟩, rfl⟩
                        · have hne := ba_ne e
                          have he := hid (idx_next hj hji e)
                          have hw1 : IntKind.i64.wrap ((j : Int) + 1) = ((j + 1 : Nat) : Int) := by rw [IntKind.wrap_i64]; have := dist_len (ws.take i); rw [List.length_take] at this; omega
                          clear e hji
                          go_wp2_with fail
                          go_quiet (fail)
                          go_wp2_with fail
                          go_roundg gj
                          case measure => omega
                          case rel => exact ⟨j + 1, by omega, by simp, he.out, HD.out.drewN _⟩
                  case rest =>
                    clear HD
                    obtain ⟨hv, hD⟩ := hcut.ex
                    obtain rfl := hv.symm
                    clear hcut
                    have HD := hid hD
                    clear hD
                    go_upto_if 80 with fail
                    go_cut [9, 10] (fun v9 v10 wx => DM ws (M + 1) w9 i v9 v10 wx)
                    case first =>
                      rename_i J KK hJ hKK
                      by_cases hm : ws[i] ∈ ws.take i
                      · have hlt := idx_lt (ws.take i) ws[i] hm
                        have hia := idx_all hi
                        have hcmp3 : (((dist ws).idxOf ws[i] : Int) == ((dist (ws.take i)).length : Int)) = false := beq_eq_false_iff_ne.2 (by omega)
                        clear hlt hia
                        go_wp2_with fail
                        refine Met.intro (hJ _ _ ?_)
                        repeat apply Exists.intro
                        exact ⟨HD.out.toHit hi hm, rfl⟩
                      · have hlt : (dist (ws.take i)).idxOf ws[i] = (dist (ws.take i)).length := List.idxOf_eq_length (fun h => hm ((mem_dist _ _).1 h))
                        have hia := idx_all hi
                        have hcmp3 : (((dist ws).idxOf ws[i] : Int) == ((dist (ws.take i)).length : Int)) = true := beq_iff_eq.2 (by omega)
                        obtain ⟨g1, c1, w1, g2, c2, w2, a1, a2, hDM⟩ := HD.out.miss hi (by omega) hm
                        obtain ⟨gn, o, rfl, hgl, hgc⟩ := HNL.out i hi
                        have q0 : wc.cell? ⟨gn, o + i, none⟩ = some (.string (ba ws[i])) := (cellLow (HD.out.low gn hgl) _).trans hgc
                        have hgs : gn < wc.heap.size := Nat.lt_trans hgl HD.out.sz
                        have A1 := hid a1
                        have A2 := hid a2
                        have HDM := hid hDM
                        clear hlt hia hgl hgc a1 a2 hDM
                        go_wp2_with (at_builtin; go_loud (first | refine list_run rfl _ _ 22 rfl (.slice sD (dist (ws.take i)).length cD) (.slice (some ⟨wc.heap.size, 0, none⟩) 1 1) _ w1 rfl rfl A1.out ?_ | refine list_run rfl _ _ 29 rfl (.slice sC (dist (ws.take i)).length cC) (.slice (some ⟨w1.heap.size, 0, none⟩) 1 1) _ w2 rfl rfl A2.out ?_))
                        refine Met.intro (hJ _ _ ?_)
                        repeat apply Exists.intro
                        exact ⟨HDM.out, rfl⟩
                    case rest =>
                      clear HD
                      obtain ⟨gC, cC2, rfl, hgs, hil, hc, hf, ⟨x, hx⟩, hfx, hne⟩ := hcut.facts hi
                      have HS := hid (hcut.store hi)
                      have hcc : (ws.take i).count ws[i] ≤ 4096 := Nat.le_trans List.count_le_length (by rw [List.length_take]; omega)
                      have hw1 : IntKind.u32.wrap (((ws.take i).count ws[i] : Int) + 1) = (((ws.take i).count ws[i] + 1 : Nat) : Int) := by rw [IntKind.wrap_u32]; omega
                      have hw2 : IntKind.i64.wrap ((i : Int) + 1) = ((i + 1 : Nat) : Int) := by rw [IntKind.wrap_i64]; omega
                      have hM1 : M + 1 < wc.heap.size := hcut.sz
                      have hne2 : M + 1 ≠ gC := Ne.symm hne
                      clear hcut
                      go_wp2_with fail
                      go_roundg gi
                      case measure => omega
                      case rel => exact ⟨i + 1, by omega, by simp, HS.out⟩
            case rest =>
              clear HD0 HF9 HNL
              obtain ⟨sD, cD, sC, cC, rfl, rfl⟩ := hcut.shapesF
              have HCS := hid (mkCS HFL.out hcut)
              clear hcut HFL
              have HD := hid (dist_flat' pc ws)
              obtain ⟨N, hN⟩ : ∃ N, (dist ws).length = N := ⟨_, rfl⟩
              obtain ⟨D, hD⟩ : ∃ D, (dist (flat pc ws)).length = D := ⟨_, rfl⟩
              rw [hN]
              have HNN := hid hN
              have HDD := hid hD
              clear hN hD
              go_upto_if 104 with fail
              go_cut [14] (fun v14 wx => KD D wc v14 wx)
              case first =>
                rename_i J KK hJ hKK
                rcases HD.out with ⟨h0, hd⟩ | ⟨h0, hd⟩
                · have hc0 : ((pc : Int) == 0) = true := by simp [h0]
                  obtain rfl : D = 0 := HDD.out.symm.trans hd
                  clear hd h0
                  go_wp2_with fail
                  refine Met.intro (hJ _ _ ?_)
                  repeat apply Exists.intro
                  exact ⟨⟨rfl, rfl⟩, rfl⟩
                · have hc0 : ((pc : Int) == 0) = false := by simp; omega
                  have hND : N = D := by rw [← HDD.out, hd, HNN.out]
                  subst hND
                  clear hd
                  go_wp2_with fail
                  refine Met.intro (hJ _ _ ?_)
                  repeat apply Exists.intro
                  exact ⟨⟨rfl, rfl⟩, rfl⟩
              case rest =>
                obtain ⟨rfl, hw⟩ := hcut.ex
                obtain rfl := hw.symm
                clear hcut hw
                obtain ⟨V, hV⟩ : ∃ V : Nat, (if g then D else 0 : Nat) = V := ⟨_, rfl⟩
                have hcc := HCS.out.fa.c
                rw [HDD.out, hV] at hcc
                obtain ⟨c0, c1, c2, c3, c4, c5⟩ := six hcc
                clear hcc
                go_upto_if 133 with fail
                go_cut [15] (fun v15 wx => KD V wc v15 wx)
                case first =>
                  rename_i J KK hJ hKK
                  cases g with
                  | true =>
                    go_wp2_with fail
                    refine Met.intro (hJ _ _ ?_)
                    repeat apply Exists.intro
                    exact ⟨⟨by rw [← hV]; rfl, rfl⟩, rfl⟩
                  | false =>
                    go_wp2_with fail
                    refine Met.intro (hJ _ _ ?_)
                    repeat apply Exists.intro
                    exact ⟨⟨by rw [← hV]; rfl, rfl⟩, rfl⟩
                case rest =>
                  obtain ⟨rfl, hw⟩ := hcut.ex
                  obtain rfl := hw.symm
                  clear hcut hw hV
                  go_wp2_with fail
                  go_loopg [16] D (fun gk v16 wx => C3I ws pc g M (M + 1) P S1 S2 S3 sb sD sC w D gk v16 wx)
                  case atStart => exact ⟨0, by omega, by first | rfl | simp, HCS.out⟩
                  case round =>
                    clear HCS c0 c1 c2 c3 c4 c5
                    obtain ⟨j, hjg, rfl, hC⟩ := hrel.ex
                    clear hrel
                    have HC := hid hC
                    clear hC
                    cases gk with
                    | zero =>
                      obtain rfl : j = D := by omega
                      have hcmp : ¬ ((j : Int) < (j : Int)) := by omega
                      go_wp2_with fail
                      go_loopg [17] pc (fun gk v17 wx => C3I ws pc g M (M + 1) P S1 S2 S3 sb sD sC w pc gk v17 wx)
                      case atStart => exact ⟨0, by omega, by first | rfl | simp, HC.out⟩
                      case round =>
                        clear HC
                        obtain ⟨i, hig, rfl, hC⟩ := hrel.ex
                        clear hrel
                        have HC := hid hC
                        clear hC
                        cases gk with
                        | zero =>
                          obtain rfl : i = pc := by omega
                          have hcmp2 : ¬ ((i : Int) < (i : Int)) := by omega
                          have HB := hid HC.out.fa.bel
                          go_wp2_with fail
                          go_ret
                          exact ⟨rfl, HB.out⟩
                        | succ go =>
                          have hi : i < pc := by omega
                          have hcmp2 : (i : Int) < (pc : Int) := by omega
                          have hcc := HC.out.fa.c
                          obtain ⟨c0, -, -, -, -, -⟩ := six hcc
                          obtain ⟨q, e1, e2, e3⟩ := HC.out.fa.rows i hi
                          have HR := hid (RW.mk e2 e3)
                          have hl := HC.out.fa.lt
                          obtain ⟨l0, l1, -, -, -⟩ := hl
                          clear hcc e3
                          go_wp2_with fail
                          go_loopg [19] ws.length (fun gk v19 wx => C5I ws pc g M (M + 1) P S1 S2 S3 sb sD sC w q gk v19 wx)
                          case atStart => exact ⟨0, by omega, by first | rfl | simp, HC.out, HR.out⟩
                          case round =>
                            clear HC HR c0 e1 e2 l0 l1
                            obtain ⟨k2, hkg, rfl, hC, hR⟩ := hrel.ex
                            clear hrel
                            have HC := hid hC
                            have HR := hid hR
                            clear hC hR
                            cases gk with
                            | zero =>
                              obtain rfl : k2 = ws.length := by omega
                              have hcmp3 : ¬ ((ws.length : Int) < (ws.length : Int)) := by omega
                              have hw1 : IntKind.i64.wrap ((i : Int) + 1) = ((i + 1 : Nat) : Int) := by rw [IntKind.wrap_i64]; omega
                              go_wp2_with fail
                              go_roundg go
                              case measure => omega
                              case rel => exact ⟨i + 1, by omega, by simp, HC.out⟩
                            | succ gi =>
                              have hk : k2 < ws.length := by omega
                              have hcmp3 : (k2 : Int) < (ws.length : Int) := by omega
                              have e3 := HR.out.c k2 hk
                              have e2 := HR.out.lt
                              have e4 := HC.out.ix k2 hk
                              have e5 := HC.out.mi
                              have hle : (dist ws).idxOf ws[k2] ≤ 4096 := Nat.le_trans List.idxOf_le_length (Nat.le_trans (dist_len ws) (by omega))
                              obtain ⟨I, hI⟩ : ∃ I, (dist ws).idxOf ws[k2] = I := ⟨_, rfl⟩
                              rw [hI] at e3 e4 hle
                              have hwi : IntKind.u32.wrap (I : Int) = (I : Int) := by rw [IntKind.wrap_u32]; omega
                              have hw1 : IntKind.i64.wrap ((k2 : Int) + 1) = ((k2 + 1 : Nat) : Int) := by rw [IntKind.wrap_i64]; omega
                              clear hI hle
                              go_wp2_with fail
                              go_quiet (fail)
                              go_wp2_with fail
                              go_roundg gi
                              case measure => omega
                              case rel => exact ⟨k2 + 1, by omega, by simp, HC.out.drewN _, HR.out.drewN _⟩
                    | succ gj =>
                      have hj : j < D := by omega
                      have hcmp : (j : Int) < (D : Int) := by omega
                      have hp : pc ≠ 0 ∧ dist (flat pc ws) = dist ws := by
                        rcases HD.out with ⟨_, h0⟩ | h
                        · have := HDD.out; omega
                        · exact h
                      have hND : N = D := by rw [← HDD.out, ← HNN.out, hp.2]
                      have hjN : j < N := by omega
                      have hjN' : (j : Int) < (N : Int) := by omega
                      have hcc := HC.out.fa.c
                      rw [HDD.out] at hcc
                      obtain ⟨-, c1, c2, c3, -, -⟩ := six hcc
                      obtain ⟨l0, -⟩ := HC.out.fa.lt
                      obtain ⟨q1, q2, nm, cn, rfl, rfl, l1, l2, l3, l4, l5, hcn, b1, b2, b3, b4, b5⟩ := HC.out.cells hp.2 j (by rw [HDD.out]; exact hj)
                      obtain ⟨pr, hpr⟩ : ∃ pr : Nat, pc * cn = pr := ⟨_, rfl⟩
                      rw [hpr] at b3
                      have hprle : pr ≤ 255 * 4096 := by rw [← hpr]; exact Nat.mul_le_mul hpc (by omega)
                      have hprI : (cn : Int) * (pc : Int) = (pr : Int) := by rw [← hpr, Int.natCast_mul, Int.mul_comm]
                      have hwm : IntKind.u32.wrap ((cn : Int) * (pc : Int)) = (pr : Int) := by rw [hprI, IntKind.wrap_u32]; omega
                      have hwc : IntKind.u32.wrap (pc : Int) = (pc : Int) := by rw [IntKind.wrap_u32]; omega
                      have hDle : D ≤ 4096 := by
                        have := dist_len ws
                        have := HNN.out
                        omega
                      have hw1 : IntKind.i64.wrap ((j : Int) + 1) = ((j + 1 : Nat) : Int) := by rw [IntKind.wrap_i64]; omega
                      clear hp hcc hpr hprle hprI hcn
                      go_wp2_with fail
                      go_quiet (fail)
                      go_wp2_with fail
                      go_quiet (fail)
                      go_wp2_with fail
                      go_roundg gj
                      case measure => omega
                      case rel => exact ⟨j + 1, by omega, by simp, HC.out.drewN _⟩
end Go.Proofs.YtgjoklbljmpkgaaFmt
