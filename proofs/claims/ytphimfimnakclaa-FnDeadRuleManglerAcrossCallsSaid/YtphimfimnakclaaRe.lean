/-
  Dead and duplicate rules removed. Conditions: each theorem's own.
-/
import Derived.Test.YtphimfimnakclaaRd
namespace Go.Proofs.Ytphimfimnakclaa
open Go.RowKit Go.Lib Go.ChangeMaps
open Go.Maps (Keyed IsMap)
set_option maxHeartbeats 16000000 in
set_option maxRecDepth 100000 in
theorem rm9 (D : Nat → Prop) (B rb Rb n kc : Nat) (a : Option Addr) (ms : List (Int × Rl)) (E0 : List Rl) (G0 : Gh) (si : Int) (w : World) (hrem : Rem D B rb E0 G0 w) (hn : n ≤ 4096) (hnk : n ≤ kc) (hE : E0.length ≤ 4096) (hcs : G0.cs.length ≤ 100) (hb0 : 0 < n → Rb < B) (ha : 0 < n → a = some ⟨Rb, 0, none⟩) (hrul : Rul D Rb n ms n [] w) :
    Calls Try.prog 9 #[.pointer (some ⟨rb, 0, none⟩), .int .u32 si, .slice a n kc, .slice none 0 0] w fun e w' => Rm9 D B rb Rb (runR ms E0).1 (runR ms E0).2 G0.cs.length w e w' := by
  obtain ⟨g1, c1, w2, happ, hc2, hf2, hrem2, hbel2⟩ := hrem.call si (by omega)
  obtain ⟨ca, cc, hvc, hcl⟩ := hrem.co.shape
  rw [List.length_map] at hvc hcl
  have hh := hrem.hb
  obtain ⟨ia, ib, sym, sa, sb, hrb⟩ := hh
  rw [hvc] at happ hc2 hrb
  generalize hnc : G0.cs.length = nc at *
  have d1 := (hcell hrb 1 _ rfl).1
  have e1 := wrap32 nc (by omega)
  obtain ⟨W, hW⟩ : ∃ W, W = w2.setCell ⟨rb, 1, none⟩ (.slice (some ⟨g1, 0, none⟩) (nc + 1) c1) := ⟨_, rfl⟩
  rw [← hW] at hrem2 hbel2
  have HINV := hid (show Lo9 D B rb Rb n ms E0 (nc + 1) w n (.int .i64 (n : Nat)) (.int .i64 ((n : Int) - 1)) W from ⟨_, n, [], E0, _, rfl, rfl, rfl, rfl, hrem2, hrul.keep hbel2.size (fun hn => hbel2.block _ (hb0 hn)) (fun g hg _ => hbel2.block _ (hrem.dlt g hg)), FrX.of hbel2 (Nat.le_refl _), by rw [← hrul.len, List.drop_length]; rfl, by simp [hnc], by omega, hb0⟩)
  have e2 : IntKind.i64.wrap ((n : Int) - 1) = (n : Int) - 1 := by rw [IntKind.wrap_i64]; omega
  have HA := hid ha
  have HAPP := hid happ
  clear hrem hrb hvc hcl happ hb0 ha hrul hrem2 hbel2
  go_enter Try.func9, Try.ntmps9
  go_wp2_with fail
  go_step3
  go_wp2_with (at_builtin; go_loud (refine list_run rfl _ _ 30 rfl (.slice ca nc cc) (.slice (some ⟨w.heap.size, 0, none⟩) 1 1) _ w2 rfl rfl HAPP.out ?_))
  go_step3
  go_wp2_with fail
  rw [← hW]
  clear hW d1 e1 e2 hf2 hc2
  go_loopg [11, 12] n (fun g v11 v12 wx => Lo9 D B rb Rb n ms E0 (nc + 1) w g v11 v12 wx)
  case atStart => exact HINV.out
  case round =>
    obtain ⟨z, s, out, E, G, rfl, hz, rfl, hs, hI⟩ := hrel.ex
    clear hrel HINV
    cases gk with
    | zero =>
      have hcd : ¬ (0 : Int) ≤ z := by omega
      have HI := hid hI
      have hol := hI.rul.ol
      have hsn : s ≤ n := by omega
      have hsk : s ≤ kc := by omega
      have hns : n - s = out.length := by omega
      have HS := hid hs
      clear hI hz hs
      go_wp2_with fail
      all_goals go_ret
      all_goals
        refine Rm9.of HI.out HS.out _ _ (fun h => ?_)
        first
        | (rw [HA.out (by have := HS.out; omega)]; exact congrArg some (add0 _ _))
        | (exfalso; have := HS.out; omega)
    | succ g =>
      obtain rfl : z = (g : Int) := by omega
      clear hz
      have hol := hI.rul.ol
      have hml := hI.rul.len
      have hgm : g < ms.length := by omega
      obtain ⟨b, k0, k1, hd, hgd⟩ := hI.rul.at' hgm
      have hrd := runR_drop ms E0 g hgm
      rw [← hI.run] at hrd
      generalize hx : ms[g] = x at *
      obtain ⟨loc, r⟩ := x
      have hcd : (0 : Int) ≤ (g : Int) := by omega
      have HI := hid hI
      have HD := hid hd
      have HG := hid hgd
      have HRD := hid hrd
      obtain rfl := HA.out (by omega)
      obtain ⟨W1, hW1⟩ : ∃ X, X = wr.alloc (.cells #[ifc 63 b, .int .i32 loc] 47) := ⟨_, rfl⟩
      have hb1 : Below wr.heap.size wr W1 := by rw [hW1]; exact (Below.refl _ _).alloc (Nat.le_refl _) _
      have hN1 : W1.heap[wr.heap.size]? = some (.cells #[ifc 63 b, .int .i32 loc] 47 (0, 0)) := by rw [hW1]; exact heap_alloc_new _ _
      obtain ⟨sx, hbh, hrow⟩ := hd.ex
      obtain ⟨sa, sc, rfl, _⟩ := id hrow
      have hbh1 := (hb1.block _ hd.lt).trans hbh
      have m0 := (hcell hbh1 0 _ rfl).1
      have CD := hid (ad16 sa r.length sc r D W1 hgd (hrow.below hb1))
      have tf := as63
      have HB1 := hid (And.intro hb1 hN1)
      have hgb : g < n := by omega
      clear hI hd hgd hrd hb1 hN1 hbh hrow hbh1
      have m1 := m0
      rw [hW1] at m1
      have e3 : IntKind.i64.wrap ((g : Int) - 1) = (g : Int) - 1 := by rw [IntKind.wrap_i64]; omega
      go_wp2_with fail
      rw [← hW1]
      clear hW1 m0 m1 k0 k1
      refine CD.out.mono ?_
      rintro e W5 hR
      obtain ⟨rfl, hB⟩ := hR.ex
      have hb5 := HB1.out.1.trans (hB.mono HB1.out.1.size)
      have hN5 := (hB.block _ (heap_lt HB1.out.2)).trans HB1.out.2
      have HB5 := hid (And.intro hb5 hN5)
      clear hR hB CD HB1
      by_cases hdd : deadR r = true
      · rw [hdd]
        clear hb5 hN5
        go_wp2_with fail
        go_roundg g
        case measure => omega
        case rel =>
          refine ⟨_, s, out, E, G, rfl, rfl, rfl, hs, (HI.out.below HB5.out.1).skip ?_⟩
          rw [HRD.out]
          unfold stepR
          rw [if_pos (Or.inl hdd)]
      · have hdf : deadR r = false := by simpa using hdd
        rw [hdf]
        have HDD := hid hdd
        have hd5 := HD.out.keep hb5.size (fun q hq hl => hb5.block q hl)
        obtain ⟨s5, hbh5, hrow5⟩ := hd5.ex
        have CH := hid (h47 b r s5 D W5 HG.out hbh5 hrow5)
        have c5 := (hcell hN5 0 _ rfl).1
        have mh := mhaR
        have wsz : wr.heap.size < W5.heap.size := heap_lt hN5
        clear hdd hdf hb5 hN5 hd5 hbh5 hrow5 tf
        go_wp2_with fail
        refine CH.out.mono ?_
        rintro e W6 hR
        obtain ⟨rfl, hB⟩ := hR.ex
        have hb6 := HB5.out.1.trans (hB.mono HB5.out.1.size)
        have hN6 := (hB.block _ (heap_lt HB5.out.2)).trans HB5.out.2
        have hI6 := HI.out.below hb6
        have hlk := hI6.rem.look (hRule_range r)
        obtain ⟨ga, gc, hbv, hgl⟩ := (hI6.rem.bo _ (hRule_range r)).shape
        have hle := hI6.rem.len _ (hRule_range r)
        rw [List.length_map] at hbv hgl
        rw [hbv] at hlk
        obtain ⟨ja, jb, jy, js, jt, hrb6⟩ := hI6.rem.hb
        have c6 := (hcell hrb6 0 _ rfl).1
        obtain ⟨es, hes⟩ : ∃ es, es = G.ms (hRule r) := ⟨_, rfl⟩
        rw [← hes] at hbv hlk hle
        obtain ⟨L, hL⟩ : ∃ L, L = es.length := ⟨_, rfl⟩
        rw [← hL] at hbv hlk hle
        obtain ⟨W7, hW7⟩ : ∃ X, X = W6.alloc (.cells #[.slice ga L gc] 72) := ⟨_, rfl⟩
        have hb7 : Below W6.heap.size W6 W7 := by rw [hW7]; exact (Below.refl _ _).alloc (Nat.le_refl _) _
        have hN7 : W7.heap[W6.heap.size]? = some (.cells #[.slice ga L gc] 72 (0, 0)) := by rw [hW7]; exact heap_alloc_new _ _
        have hBwr : B ≤ wr.heap.size := HI.out.rem.Ble
        have hBW6 : B ≤ W6.heap.size := hI6.rem.Ble
        have hb67 := hb6.trans (hb7.mono hb6.size)
        have HLI := hid (show In9 D B rb Rb n ms E0 (nc + 1) w (g + 1) out E G wr.heap.size W6.heap.size b loc r es (.slice ga L gc) L (.int .i64 0) W7 from
          ⟨0, by rw [hL]; simp, rfl, (fun j _ hj => by omega), hI6.below hb7, HD.out.keep hb67.size (fun q hq hl => hb67.block q hl), (hb7.block _ (heap_lt hN6)).trans hN6, hN7, hBwr, hBW6⟩)
        have HES := hid (And.intro hes (And.intro hL hbv))
        have hL2 : L ≤ 16384 := by have := HI.out.el; omega
        have hcbv := (hcell hN7 0 _ rfl).1
        rw [hW7] at hcbv
        clear CH hR hB hb6 hN6 hI6 hgl hle hrb6 hes hL hbv hb7 hN7 hBwr hBW6 hb67 mh c5
        go_wp2_with fail
        rw [← hW7]
        clear hW7 hcbv hlk c6
        go_loopg [84] L (fun g2 v84 wx => In9 D B rb Rb n ms E0 (nc + 1) w (g + 1) out E G wr.heap.size W6.heap.size b loc r es (.slice ga L gc) g2 v84 wx)
        case atStart => exact HLI.out
        case round =>
          obtain ⟨k, hkg, rfl, hf, hI, hd, hNp, hNq, hBp, hBq⟩ := hrel.ex
          clear hrel HLI
          cases gk with
          | zero =>
            have hk : k = L := by rw [HES.out.2.1]; omega
            have hcd : ¬ ((k : Int) < (L : Int)) := by omega
            obtain ⟨t, hst⟩ : ∃ t, s = t + 1 := ⟨s - 1, by omega⟩
            have hstI : (s : Int) - 1 = (t : Int) := by omega
            have e5 : IntKind.i64.wrap ((s : Int) - 1) = (t : Int) := by rw [IntKind.wrap_i64]; omega
            have htn : t < n := by omega
            have htI : (t : Int) < (n : Int) := by omega
            have hq2 := hNq
            rw [← HES.out.2.2] at hq2
            obtain ⟨gn, cn, w2, hap, hq3, hr3, w4, hup, hrem4, hb4, hk4⟩ := hI.rem.put (cc := nc) (by rw [hI.nc']; omega) hd HG.out (by have := hI.el; omega) hq2 hBq
            rw [HES.out.2.2, ← HES.out.1, ← HES.out.2.1] at hap
            rw [← HES.out.1, ← HES.out.2.1] at hup hrem4
            obtain ⟨ia', ib', sy', sa', sb', hrbw⟩ := hI.rem.hb
            have hr4 := hr3.trans hrbw
            have hq4 := hq3.trans hNq
            have hqne : W6.heap.size ≠ rb := fun e => by rw [e, hrbw] at hNq; injection hNq with hNq; injection hNq with _ hNq; exact absurd hNq (by decide)
            obtain ⟨nv, hnv⟩ : ∃ v, v = Value.slice (some ⟨gn, 0, none⟩) (L + 1) cn := ⟨_, rfl⟩
            obtain ⟨W9, hW9⟩ : ∃ X, X = w2.setCell ⟨W6.heap.size, 0, none⟩ nv := ⟨_, rfl⟩
            have c13 := (hcell hNp 0 _ rfl).1
            have c18 := (hcell hNq 0 _ rfl).1
            obtain ⟨y18, y18f⟩ := hcell hq4 0 _ rfl
            have hr9 := (show W9.heap[rb]? = w2.heap[rb]? by rw [hW9]; exact hother w2 0 nv (Ne.symm hqne)).trans hr4
            have hq9 : W9.heap[W6.heap.size]? = some (.cells #[nv] 72 (0, 0)) := by rw [hW9]; have := hset hq4 0 nv; exact this
            have z0 := (hcell hr9 0 _ rfl).1
            have z1 := (hcell hq9 0 _ rfl).1
            have hp4 := (hk4 _ _ _ _ hNp (by decide) (fun e => by rw [e, hNq] at hNp; injection hNp with hNp; injection hNp with _ hNp; exact absurd hNp (by decide))).trans hNp
            have p0 := (hcell hp4 0 _ rfl).1
            have p1 := (hcell hp4 1 _ rfl).1
            have hd4 : Dat D w4 b r := hd.keep hb4.size (fun q hq _ => hb4.block q (hI.rem.dlt q hq))
            have hu4 : Rul D Rb n ms (g + 1) out w4 := hI.rul.keep hb4.size (fun hn => hb4.block _ (hI.rB hn)) (fun q hq _ => hb4.block q (hI.rem.dlt q hq))
            obtain ⟨j0, r0, r0f⟩ := hu4.spot (j := t * 2) (by omega)
            obtain ⟨j1, r1, r1f⟩ := hu4.spot (j := t * 2 + 1) (by omega)
            have hall : ¬ (deadR r = true ∨ r ∈ E) := by
              rintro (h | h)
              · exact HDD.out h
              · obtain ⟨x, hx1, hx2⟩ := (hI.rem.mod _ (hRule_range r) r).2 ⟨h, rfl⟩
                rw [← HES.out.1] at hx1
                obtain ⟨j, hj, rfl⟩ := List.getElem_of_mem hx1
                exact hf j hj (by omega) hx2
            have hfin : Inv9 D B rb Rb n ms E0 (nc + 1) w g ((loc, r) :: out) (r :: E) (G.put (hRule r) nv (b, nc, r)) ((w4.setCell ⟨Rb, t * 2, none⟩ (ifc 63 b)).setCell ⟨Rb, t * 2 + 1, none⟩ (.int .i32 loc)) := by
              have hRB := hI.rB (by omega)
              obtain ⟨arr, ha1, ha2, _⟩ := hu4.ex (by omega)
              have o : ∀ q, q ≠ Rb → ((w4.setCell ⟨Rb, t * 2, none⟩ (ifc 63 b)).setCell ⟨Rb, t * 2 + 1, none⟩ (.int .i32 loc)).heap[q]? = w4.heap[q]? := fun q hq => (hother _ _ _ hq).trans (hother _ _ _ hq)
              refine ⟨?_, hu4.store (x := (loc, r)) hd4 HG.out (by omega), hI.fr.trans ((FrX.of hb4 (Nat.le_refl _)).trans ((FrX.set _ _ (Or.inl rfl)).trans (FrX.set _ _ (Or.inl rfl)))), ?_, hI.nc', by have := hI.el; simp; omega, hI.rB⟩
              · rw [hnv]
                exact hrem4.other ha1 (by decide) (by decide) (by decide) hu4.nD (by simp [World.setCell]) (fun q _ hq => o q hq)
              · rw [HRD.out]
                unfold stepR
                rw [if_neg hall]
            rw [← hnv] at hup
            rw [← hW9] at hup
            have HFIN := hid hfin
            have HAP := hid hap
            rw [hnv] at hW9
            rw [hnv] at z1 hup
            have r2 : (w4.setCell ⟨Rb, t * 2, none⟩ (ifc 63 b)).cell? ⟨Rb, t * 2 + 1, none⟩ = some j1 ∧ (w4.setCell ⟨Rb, t * 2, none⟩ (ifc 63 b)).frozen? ⟨Rb, t * 2 + 1, none⟩ = false := by
              obtain ⟨arr, ha1, ha2, _⟩ := hu4.ex (by omega)
              have e := hset ha1 (t * 2) (ifc 63 b)
              have e1 : arr[t * 2 + 1]? = some j1 := by simpa [World.cell?, ha1] using r1
              exact hcell e _ _ (by rw [Array.getElem?_setIfInBounds_ne (by omega)]; exact e1)
            obtain ⟨r2, r2f⟩ := r2
            clear hI hd hNp hNq hBp hBq hf hq2 hap hq3 hr3 hrem4 hb4 hk4 hrbw hr4 hq4 hqne hr9 hq9 hp4 hd4 hu4 hall hfin hkg
            go_wp2_with (at_builtin; go_loud (refine list_run rfl _ _ 70 rfl (.slice ga L gc) (.slice (some ⟨wr.heap.size, 0, none⟩) 1 1) _ w2 rfl rfl HAP.out ?_))
            rw [← hW9]
            clear hW9 c13 c18 y18 y18f
            refine wp_region_dl [(some 137, .pointer (some ⟨rb, 0, none⟩)), (some 138, .pointer (some ⟨rb, 0, none⟩)), (some 139, .pointer (some ⟨rb, 0, none⟩)), (some 140, .map (some G.mb)), (some 141, .int .u32 (hRule r)), (some 142, .agg #[.slice (some ⟨gn, 0, none⟩) (L + 1) cn]), (none, undef)] [6] (fun j => ([W9.drew, w4] : List World).getD j W9.drew) (fun i => [0, 0, 0, 0, 0, 0, 0].getD i 0) (fun i => [0, 0, 0, 0, 0, 0, 0].getD i 0) 152 (by kernel_rfl) (by kernel_rfl) (by kernel_rfl) (by kernel_rfl) (by decide) (by kernel_rfl) rfl (by kernel_rfl) ?hop28 ?hend28
            case hop28 =>
              intro i o j a ho h1 h2 hd hf K hK
              have hin : i = 0 ∨ i = 1 ∨ i = 2 ∨ i = 3 ∨ i = 4 ∨ i = 5 ∨ i = 6 := by
                rcases Nat.lt_or_ge i 7 with h | h
                · omega
                · rw [Array.getElem?_eq_none h] at ho
                  cases ho
              rcases hin with rfl | rfl | rfl | rfl | rfl | rfl | rfl
              · simp only [List.getElem?_toArray, List.getElem?_cons_zero, Option.some.injEq] at ho
                subst ho
                have v0 : a.eval (.tmp 0) = .pointer (some ⟨rb, 0, none⟩) := (hf 0 (by kernel_rfl)).trans (by kernel_rfl)
                have u0 : a.tmps[0]?.getD undef = .pointer (some ⟨rb, 0, none⟩) := by rw [← Array.getD_eq_getD_getElem?]; exact v0
                clear v0
                have hj : j = 0 := by simp at h1 h2; omega
                clear h1 h2 hd hf
                rcases hj with rfl
                · replace hK : K (a.put (some 137) (.pointer (some ⟨rb, 0, none⟩))) (W9.drew) := hK
                  have HK := Lib.hid hK
                  clear hK
                  show if Region.wanted _ (yielded _ a.tmps) = true then Oper.wp _ _ a (W9.drew) K _ else _
                  go_simp
                  exact HK.out
              · simp only [List.getElem?_toArray, List.getElem?_cons_zero, List.getElem?_cons_succ, Option.some.injEq] at ho
                subst ho
                have v0 : a.eval (.tmp 137) = .pointer (some ⟨rb, 0, none⟩) := hd 0 137 (by kernel_rfl) (by kernel_rfl)
                have u0 : a.tmps[137]?.getD undef = .pointer (some ⟨rb, 0, none⟩) := by rw [← Array.getD_eq_getD_getElem?]; exact v0
                clear v0
                have hj : j = 0 := by simp at h1 h2; omega
                clear h1 h2 hd hf
                rcases hj with rfl
                · replace hK : K (a.put (some 138) (.pointer (some ⟨rb, 0, none⟩))) (W9.drew) := hK
                  have HK := Lib.hid hK
                  clear hK
                  show if Region.wanted _ (yielded _ a.tmps) = true then Oper.wp _ _ a (W9.drew) K _ else _
                  go_simp
                  exact HK.out
              · simp only [List.getElem?_toArray, List.getElem?_cons_zero, List.getElem?_cons_succ, Option.some.injEq] at ho
                subst ho
                have v0 : a.eval (.tmp 138) = .pointer (some ⟨rb, 0, none⟩) := hd 1 138 (by kernel_rfl) (by kernel_rfl)
                have u0 : a.tmps[138]?.getD undef = .pointer (some ⟨rb, 0, none⟩) := by rw [← Array.getD_eq_getD_getElem?]; exact v0
                clear v0
                have hj : j = 0 := by simp at h1 h2; omega
                clear h1 h2 hd hf
                rcases hj with rfl
                · replace hK : K (a.put (some 139) (.pointer (some ⟨rb, 0, none⟩))) (W9.drew) := hK
                  have HK := Lib.hid hK
                  clear hK
                  show if Region.wanted _ (yielded _ a.tmps) = true then Oper.wp _ _ a (W9.drew) K _ else _
                  go_simp
                  exact HK.out
              · simp only [List.getElem?_toArray, List.getElem?_cons_zero, List.getElem?_cons_succ, Option.some.injEq] at ho
                subst ho
                have v0 : a.eval (.tmp 139) = .pointer (some ⟨rb, 0, none⟩) := hd 2 139 (by kernel_rfl) (by kernel_rfl)
                have u0 : a.tmps[139]?.getD undef = .pointer (some ⟨rb, 0, none⟩) := by rw [← Array.getD_eq_getD_getElem?]; exact v0
                clear v0
                have hj : j = 0 := by simp at h1 h2; omega
                clear h1 h2 hd hf
                rcases hj with rfl
                · replace hK : K (a.put (some 140) (.map (some G.mb))) (W9.drew) := hK
                  have HK := Lib.hid hK
                  clear hK
                  show if Region.wanted _ (yielded _ a.tmps) = true then Oper.wp _ _ a (W9.drew) K _ else _
                  go_simp
                  exact HK.out
              · simp only [List.getElem?_toArray, List.getElem?_cons_zero, List.getElem?_cons_succ, Option.some.injEq] at ho
                subst ho
                have v0 : a.eval (.tmp 16) = .int .u32 (hRule r) := (hf 16 (by kernel_rfl)).trans (by kernel_rfl)
                have u0 : a.tmps[16]?.getD undef = .int .u32 (hRule r) := by rw [← Array.getD_eq_getD_getElem?]; exact v0
                clear v0
                have hj : j = 0 := by simp at h1 h2; omega
                clear h1 h2 hd hf
                rcases hj with rfl
                · replace hK : K (a.put (some 141) (.int .u32 (hRule r))) (W9.drew) := hK
                  have HK := Lib.hid hK
                  clear hK
                  show if Region.wanted _ (yielded _ a.tmps) = true then Oper.wp _ _ a (W9.drew) K _ else _
                  go_simp
                  exact HK.out
              · simp only [List.getElem?_toArray, List.getElem?_cons_zero, List.getElem?_cons_succ, Option.some.injEq] at ho
                subst ho
                have v0 : a.eval (.tmp 18) = .pointer (some ⟨W6.heap.size, 0, none⟩) := (hf 18 (by kernel_rfl)).trans (by kernel_rfl)
                have u0 : a.tmps[18]?.getD undef = .pointer (some ⟨W6.heap.size, 0, none⟩) := by rw [← Array.getD_eq_getD_getElem?]; exact v0
                clear v0
                have hj : j = 0 := by simp at h1 h2; omega
                clear h1 h2 hd hf
                rcases hj with rfl
                · replace hK : K (a.put (some 142) (.agg #[.slice (some ⟨gn, 0, none⟩) (L + 1) cn])) (W9.drew) := hK
                  have HK := Lib.hid hK
                  clear hK
                  show if Region.wanted _ (yielded _ a.tmps) = true then Oper.wp _ _ a (W9.drew) K _ else _
                  go_simp
                  exact HK.out
              · simp only [List.getElem?_toArray, List.getElem?_cons_zero, List.getElem?_cons_succ, Option.some.injEq] at ho
                subst ho
                have v0 : a.eval (.tmp 140) = .map (some G.mb) := hd 3 140 (by kernel_rfl) (by kernel_rfl)
                have u0 : a.tmps[140]?.getD undef = .map (some G.mb) := by rw [← Array.getD_eq_getD_getElem?]; exact v0
                clear v0
                have v1 : a.eval (.tmp 141) = .int .u32 (hRule r) := hd 4 141 (by kernel_rfl) (by kernel_rfl)
                have u1 : a.tmps[141]?.getD undef = .int .u32 (hRule r) := by rw [← Array.getD_eq_getD_getElem?]; exact v1
                clear v1
                have v2 : a.eval (.tmp 142) = .agg #[.slice (some ⟨gn, 0, none⟩) (L + 1) cn] := hd 5 142 (by kernel_rfl) (by kernel_rfl)
                have u2 : a.tmps[142]?.getD undef = .agg #[.slice (some ⟨gn, 0, none⟩) (L + 1) cn] := by rw [← Array.getD_eq_getD_getElem?]; exact v2
                clear v2
                have hj : j = 0 := by simp at h1 h2; omega
                clear h1 h2 hd hf
                rcases hj with rfl
                · replace hK : K (a.put (none) (undef)) (w4) := hK
                  have HK := Lib.hid hK
                  clear hK
                  show if Region.wanted _ (yielded _ a.tmps) = true then Oper.wp _ _ a (W9.drew) K _ else _
                  go_simp
                  exact HK.out
            simp only [List.foldl_cons, List.foldl_nil, List.length_cons, List.length_nil, List.getD_cons_succ, List.getD_cons_zero, Nat.zero_add]
            simp only [Act.put, List.setIfInBounds_toArray, List.set_cons_zero, List.set_cons_succ]
            clear hup z0 z1
            go_wp2_with fail
            go_roundg g
            case measure => omega
            case rel => exact ⟨_, t, _, _, _, rfl, rfl, rfl, by simp; omega, HFIN.out⟩
          | succ g3 =>
            have hkL : k < L := by rw [HES.out.2.1]; omega
            have hke : k < es.length := by omega
            have hcd : (k : Int) < (L : Int) := by omega
            have hbo := hI.rem.bo _ (hRule_range r)
            rw [HES.out.2.2, ← HES.out.1] at hbo
            obtain ⟨gq, rfl, hcells⟩ := hbo.cells2 k (by simpa using hke)
            have hdat := hI.rem.dat _ (hRule_range r) es[k] (by rw [← HES.out.1]; exact List.getElem_mem hke)
            have hmem := (hI.rem.mod _ (hRule_range r) es[k].2.2).1 ⟨es[k], by rw [← HES.out.1]; exact List.getElem_mem hke, rfl⟩
            have hcells0 := hcells 0 (by omega)
            have hcells1 := hcells 1 (by omega)
            have hmap : (es.map env)[k]'(by simpa using hke) = env es[k] := List.getElem_map env
            rw [hmap] at hcells0 hcells1
            generalize hent : es[k] = x at *
            obtain ⟨b', c', r'⟩ := x
            have c0 : wr.cell? ⟨gq, k * 2, none⟩ = some (ifc 63 b') := hcells0
            have c1 : wr.cell? ⟨gq, k * 2 + 1, none⟩ = some (.int .u32 (c' : Nat)) := hcells1
            obtain ⟨hcc, hd', hg'⟩ := hdat
            rw [hI.nc'] at hcc
            have e4 : IntKind.i64.wrap ((k : Int) + 1) = ((k + 1 : Nat) : Int) := by rw [IntKind.wrap_i64]; omega
            obtain ⟨W8, hW8⟩ : ∃ X, X = wr.alloc (.cells #[ifc 63 b', .int .u32 (c' : Nat)] 74) := ⟨_, rfl⟩
            have hb8 : Below wr.heap.size wr W8 := by rw [hW8]; exact (Below.refl _ _).alloc (Nat.le_refl _) _
            have hN8 : W8.heap[wr.heap.size]? = some (.cells #[ifc 63 b', .int .u32 (c' : Nat)] 74 (0, 0)) := by rw [hW8]; exact heap_alloc_new _ _
            have kd : ∀ {b r}, Dat D wr b r → Dat D W8 b r := fun hd => hd.keep hb8.size (fun q _ hl => hb8.block q hl)
            have HIW := hid (And.intro (hI.below hb8) (And.intro (kd hd) (And.intro (kd hd') (And.intro ((hb8.block _ (heap_lt hNp)).trans hNp) (And.intro ((hb8.block _ (heap_lt hNq)).trans hNq) hN8)))))
            have HF := hid (And.intro hf (And.intro hent (And.intro hg' (And.intro hmem (And.intro hBp hBq)))))
            clear hbo hcells hmem hcells0 hcells1 hmap hd hd' hb8 hN8 hNp hNq hBp hBq hf hent hg' hI kd
            by_cases hne : c' = nc
            · have g9 : ((c' : Int) != (nc : Int)) = false := by simp [hne]
              have HNE := hid hne
              clear hne
              have hT := HIW.out
              have c13 := (hcell hT.2.2.2.1 0 _ rfl).1
              have c20 := (hcell hT.2.2.2.2.2 0 _ rfl).1
              rw [hW8] at c13 c20
              obtain ⟨sr, hhr, hrowr⟩ := hT.2.1.ex
              obtain ⟨sr', hhr', hrowr'⟩ := hT.2.2.1.ex
              have CE := hid (er46 b b' r r' sr sr' (.pointer none) D D W8 HG.out HF.out.2.2.1 hhr hhr' hrowr hrowr')
              have HT := hid (And.intro hT.1 (And.intro hT.2.1 (And.intro hT.2.2.1 (And.intro hT.2.2.2.1 hT.2.2.2.2.1))))
              have me := meqR
              clear hT hhr hrowr hhr' hrowr'
              go_wp2_with fail
              rw [← hW8]
              clear hW8 c0 c1 c13 c20 me g9 hcd
              refine CE.out.mono ?_
              rintro e W10 hR
              obtain ⟨rfl, hB⟩ := hR.ex
              have HB10 := hid hB
              clear hR hB CE
              by_cases hrr : r = r'
              · have hrt : decide (r = r') = true := by simpa using hrr
                rw [hrt]
                have HRR := hid hrr
                clear hrt hrr
                go_wp2_with fail
                go_roundg g
                case measure => omega
                case rel =>
                  refine ⟨_, s, out, E, G, rfl, rfl, rfl, hs, (HT.out.1.below HB10.out).skip ?_⟩
                  rw [HRD.out]
                  unfold stepR
                  rw [if_pos (Or.inr (by have h := HF.out.2.2.2.1.1; rw [← HRR.out] at h; exact h))]
              · have hrt : decide (r = r') = false := by simpa using hrr
                rw [hrt]
                have HRR := hid hrr
                clear hrt hrr
                go_wp2_with fail
                go_roundg g3
                case measure => omega
                case rel =>
                  have hs10 := HB10.out.size
                  refine ⟨k + 1, by omega, rfl, fun j hj hjk => ?_, HT.out.1.below HB10.out, HT.out.2.1.keep hs10 (fun q _ hl => HB10.out.block q hl), (HB10.out.block _ (heap_lt HT.out.2.2.2.1)).trans HT.out.2.2.2.1, (HB10.out.block _ (heap_lt HT.out.2.2.2.2)).trans HT.out.2.2.2.2, HF.out.2.2.2.2.1, HF.out.2.2.2.2.2⟩
                  by_cases e : j < k
                  · exact HF.out.1 j hj e
                  · have e2 : j = k := by omega
                    subst e2
                    rw [HF.out.2.1]
                    exact fun e => HRR.out e.symm
            · have g9 : ((c' : Int) != (nc : Int)) = true := by simp; omega
              have HNE := hid hne
              clear hne
              go_wp2_with fail
              rw [← hW8]
              have hT := HIW.out
              obtain ⟨ia', ib', sy', sa', sb', hrb8⟩ := hT.1.rem.hb
              obtain ⟨va, vcap, hvs, hvl⟩ := hT.1.rem.co.shape
              rw [List.length_map, hT.1.nc'] at hvs hvl
              have hco := hT.1.rem.co
              rw [hvs] at hco hrb8
              have hcl8 : c' < G.cs.length := by rw [hT.1.nc']; exact hcc
              obtain ⟨vq, rfl, hvc⟩ := hco.cells2 c' (by simpa using hcl8)
              have hv0 := hvc 0 (by omega)
              have hv1 := hvc 1 (by omega)
              have hmap : (G.cs.map cev)[c']'(by simpa using hcl8) = cev G.cs[c'] := List.getElem_map cev
              rw [hmap] at hv0 hv1
              generalize G.cs[c'] = n2 at *
              have w0 : W8.cell? ⟨vq, c' * 2, none⟩ = some (.slice none 0 0) := hv0
              have w1 : W8.cell? ⟨vq, c' * 2 + 1, none⟩ = some (.int .u32 n2) := hv1
              have hvq : vq < W8.heap.size := by
                rcases Nat.lt_or_ge vq W8.heap.size with h | h
                · exact h
                · unfold World.cell? at w0
                  rw [Array.getElem?_eq_none h] at w0
                  cases w0
              have w2' := (hcell hrb8 1 _ rfl).1
              have w3' := (hcell hT.2.2.2.2.2 1 _ rfl).1
              have low : ∀ (q o : Nat), q < W8.heap.size → (W8.alloc (.cells #[.slice none 0 0, .int .u32 0] 62)).cell? ⟨q, o, none⟩ = W8.cell? ⟨q, o, none⟩ := fun q o hq => cellLow (Below.heap_alloc _ _ _ hq) o
              have x0 := (low vq _ hvq).trans w0
              have x1 := (low vq _ hvq).trans w1
              have x2 := (low rb _ (heap_lt hrb8)).trans w2'
              have x3 := (low wr.heap.size _ (heap_lt hT.2.2.2.2.2)).trans w3'
              have hccI : (c' : Int) < ((nc + 1 : Nat) : Int) := by omega
              have hccJ : (c' : Int) < (nc : Int) + 1 := by omega
              obtain ⟨W9, hW9⟩ : ∃ X, X = (W8.alloc (.cells #[.slice none 0 0, .int .u32 n2] 62)).drew := ⟨_, rfl⟩
              have hb9 : Below W8.heap.size W8 W9 := by rw [hW9]; exact ((Below.refl _ _).alloc (Nat.le_refl _) _).drew
              have hN9 : W9.heap[W8.heap.size]? = some (.cells #[.slice none 0 0, .int .u32 n2] 62 (0, 0)) := by rw [hW9]; exact heap_alloc_new _ _
              have hrb9 := (hb9.block _ (heap_lt hrb8)).trans hrb8
              have HC := hid (chk (n1 := si) hrb9 hN9)
              have hbr : rb < W8.heap.size := heap_lt hrb8
              have o4 : ∀ q, q ≠ rb → q < W8.heap.size → ((((W9.setCell ⟨rb, 2, none⟩ (.slice none 0 0)).setCell ⟨rb, 3, none⟩ (.slice none 0 0)).setCell ⟨rb, 5, none⟩ (.int .u32 si)).setCell ⟨rb, 6, none⟩ (.int .u32 n2)).heap[q]? = W8.heap[q]? := fun q h1 h2 => (hother _ _ _ h1).trans ((hother _ _ _ h1).trans ((hother _ _ _ h1).trans ((hother _ _ _ h1).trans (hb9.block q h2))))
              have tne : ∀ q arr e fz, W8.heap[q]? = some (.cells arr e fz) → e ≠ 39 → q ≠ rb := fun q arr e fz h1 h2 h3 => by
                rw [h3, hrb8] at h1; injection h1 with h1; injection h1 with _ h1; exact h2 h1.symm
              obtain ⟨X4, hX4⟩ : ∃ X, X = (((W9.setCell ⟨rb, 2, none⟩ (.slice none 0 0)).setCell ⟨rb, 3, none⟩ (.slice none 0 0)).setCell ⟨rb, 5, none⟩ (.int .u32 si)).setCell ⟨rb, 6, none⟩ (.int .u32 n2) := ⟨_, rfl⟩
              have hIX : Inv9 D B rb Rb n ms E0 (nc + 1) w (g + 1) out E G X4 := by
                rw [hX4]
                exact ((((hT.1.below hb9).setRb (by omega) _).setRb (by omega) _).setRb (by omega) _).setRb (by omega) _
              rw [← hX4] at o4
              have szX : W8.heap.size ≤ X4.heap.size := by
                rw [hX4]
                have := hb9.size
                simpa [World.setCell] using this
              have kX : ∀ {b r}, Dat D W8 b r → Dat D X4 b r := fun hd => hd.keep szX (fun q hq hl => o4 q (by have := hT.1.rem.dlt q hq; have := hT.1.rem.rge; omega) hl)
              have pX := (o4 _ (tne _ _ _ _ hT.2.2.2.1 (by decide)) (heap_lt hT.2.2.2.1)).trans hT.2.2.2.1
              have qX := (o4 _ (tne _ _ _ _ hT.2.2.2.2.1 (by decide)) (heap_lt hT.2.2.2.2.1)).trans hT.2.2.2.2.1
              have tX := (o4 _ (tne _ _ _ _ hT.2.2.2.2.2 (by decide)) (heap_lt hT.2.2.2.2.2)).trans hT.2.2.2.2.2
              have c13 := (hcell pX 0 _ rfl).1
              have c20 := (hcell tX 0 _ rfl).1
              obtain ⟨sr, hhr, hrowr⟩ := (kX hT.2.1).ex
              obtain ⟨sr', hhr', hrowr'⟩ := (kX hT.2.2.1).ex
              have CE := hid (er46 b b' r r' sr sr' (.pointer (some ⟨rb, 2, none⟩)) D D X4 HG.out HF.out.2.2.1 hhr hhr' hrowr hrowr')
              have HT := hid (And.intro hIX (And.intro (kX hT.2.1) (And.intro (kX hT.2.2.1) (And.intro pX qX))))
              have HCC := hid (And.intro c13 c20)
              clear hT hhr hrowr hhr' hrowr' hco hvs hvl hvc hv0 hv1 hmap hcl8 low hb9 hN9 hrb9 o4 tne hIX szX kX pX qX tX c13 c20 hrb8 hW8 c0 c1
              refine wp_region_dl [(some 95, .pointer (some ⟨rb, 0, none⟩)), (some 96, .pointer (some ⟨rb, 0, none⟩)), (some 97, .pointer (some ⟨rb, 1, none⟩)), (some 98, .slice (some ⟨vq, 0, none⟩) (nc + 1) vcap), (some 99, .pointer (some ⟨wr.heap.size, 1, none⟩)), (some 100, .int .u32 (c' : Nat)), (some 101, .pointer (some ⟨vq, c' * 2, none⟩)), (some 102, .agg #[.slice none 0 0, .int .u32 n2]), (some 22, .pointer (some ⟨W8.heap.size, 0, none⟩)), (none, undef)] [8, 9] (fun j => ([W8.drew, (W8.alloc (.cells #[.slice none 0 0, .int .u32 0] 62)).drew, (W8.alloc (.cells #[.slice none 0 0, .int .u32 n2] 62)).drew] : List World).getD j W8.drew) (fun i => [0, 0, 0, 0, 0, 0, 0, 0, 0, 1].getD i 0) (fun i => [1, 1, 1, 1, 1, 1, 1, 1, 0, 1].getD i 0) 152 (by kernel_rfl) (by kernel_rfl) (by kernel_rfl) (by kernel_rfl) (by decide) (by kernel_rfl) rfl (by kernel_rfl) ?hop20 ?hend20
              case hop20 =>
                intro i o j a ho h1 h2 hd hf K hK
                have hin : i = 0 ∨ i = 1 ∨ i = 2 ∨ i = 3 ∨ i = 4 ∨ i = 5 ∨ i = 6 ∨ i = 7 ∨ i = 8 ∨ i = 9 := by
                  rcases Nat.lt_or_ge i 10 with h | h
                  · omega
                  · rw [Array.getElem?_eq_none h] at ho
                    cases ho
                rcases hin with rfl | rfl | rfl | rfl | rfl | rfl | rfl | rfl | rfl | rfl
                · simp only [List.getElem?_toArray, List.getElem?_cons_zero, Option.some.injEq] at ho
                  subst ho
                  have v0 : a.eval (.tmp 0) = .pointer (some ⟨rb, 0, none⟩) := (hf 0 (by kernel_rfl)).trans (by kernel_rfl)
                  have u0 : a.tmps[0]?.getD undef = .pointer (some ⟨rb, 0, none⟩) := by rw [← Array.getD_eq_getD_getElem?]; exact v0
                  clear v0
                  have hj : j = 0 ∨ j = 1 := by simp at h1 h2; omega
                  clear h1 h2 hd hf
                  rcases hj with rfl | rfl
                  · replace hK : K (a.put (some 95) (.pointer (some ⟨rb, 0, none⟩))) (W8.drew) := hK
                    have HK := Lib.hid hK
                    clear hK
                    show if Region.wanted _ (yielded _ a.tmps) = true then Oper.wp _ _ a (W8.drew) K _ else _
                    go_simp
                    exact HK.out
                  · replace hK : K (a.put (some 95) (.pointer (some ⟨rb, 0, none⟩))) ((W8.alloc (.cells #[.slice none 0 0, .int .u32 0] 62)).drew) := hK
                    have HK := Lib.hid hK
                    clear hK
                    show if Region.wanted _ (yielded _ a.tmps) = true then Oper.wp _ _ a ((W8.alloc (.cells #[.slice none 0 0, .int .u32 0] 62)).drew) K _ else _
                    go_simp
                    exact HK.out
                · simp only [List.getElem?_toArray, List.getElem?_cons_zero, List.getElem?_cons_succ, Option.some.injEq] at ho
                  subst ho
                  have v0 : a.eval (.tmp 95) = .pointer (some ⟨rb, 0, none⟩) := hd 0 95 (by kernel_rfl) (by kernel_rfl)
                  have u0 : a.tmps[95]?.getD undef = .pointer (some ⟨rb, 0, none⟩) := by rw [← Array.getD_eq_getD_getElem?]; exact v0
                  clear v0
                  have hj : j = 0 ∨ j = 1 := by simp at h1 h2; omega
                  clear h1 h2 hd hf
                  rcases hj with rfl | rfl
                  · replace hK : K (a.put (some 96) (.pointer (some ⟨rb, 0, none⟩))) (W8.drew) := hK
                    have HK := Lib.hid hK
                    clear hK
                    show if Region.wanted _ (yielded _ a.tmps) = true then Oper.wp _ _ a (W8.drew) K _ else _
                    go_simp
                    exact HK.out
                  · replace hK : K (a.put (some 96) (.pointer (some ⟨rb, 0, none⟩))) ((W8.alloc (.cells #[.slice none 0 0, .int .u32 0] 62)).drew) := hK
                    have HK := Lib.hid hK
                    clear hK
                    show if Region.wanted _ (yielded _ a.tmps) = true then Oper.wp _ _ a ((W8.alloc (.cells #[.slice none 0 0, .int .u32 0] 62)).drew) K _ else _
                    go_simp
                    exact HK.out
                · simp only [List.getElem?_toArray, List.getElem?_cons_zero, List.getElem?_cons_succ, Option.some.injEq] at ho
                  subst ho
                  have v0 : a.eval (.tmp 96) = .pointer (some ⟨rb, 0, none⟩) := hd 1 96 (by kernel_rfl) (by kernel_rfl)
                  have u0 : a.tmps[96]?.getD undef = .pointer (some ⟨rb, 0, none⟩) := by rw [← Array.getD_eq_getD_getElem?]; exact v0
                  clear v0
                  have hj : j = 0 ∨ j = 1 := by simp at h1 h2; omega
                  clear h1 h2 hd hf
                  rcases hj with rfl | rfl
                  · replace hK : K (a.put (some 97) (.pointer (some ⟨rb, 1, none⟩))) (W8.drew) := hK
                    have HK := Lib.hid hK
                    clear hK
                    show if Region.wanted _ (yielded _ a.tmps) = true then Oper.wp _ _ a (W8.drew) K _ else _
                    go_simp
                    exact HK.out
                  · replace hK : K (a.put (some 97) (.pointer (some ⟨rb, 1, none⟩))) ((W8.alloc (.cells #[.slice none 0 0, .int .u32 0] 62)).drew) := hK
                    have HK := Lib.hid hK
                    clear hK
                    show if Region.wanted _ (yielded _ a.tmps) = true then Oper.wp _ _ a ((W8.alloc (.cells #[.slice none 0 0, .int .u32 0] 62)).drew) K _ else _
                    go_simp
                    exact HK.out
                · simp only [List.getElem?_toArray, List.getElem?_cons_zero, List.getElem?_cons_succ, Option.some.injEq] at ho
                  subst ho
                  have v0 : a.eval (.tmp 97) = .pointer (some ⟨rb, 1, none⟩) := hd 2 97 (by kernel_rfl) (by kernel_rfl)
                  have u0 : a.tmps[97]?.getD undef = .pointer (some ⟨rb, 1, none⟩) := by rw [← Array.getD_eq_getD_getElem?]; exact v0
                  clear v0
                  have hj : j = 0 ∨ j = 1 := by simp at h1 h2; omega
                  clear h1 h2 hd hf
                  rcases hj with rfl | rfl
                  · replace hK : K (a.put (some 98) (.slice (some ⟨vq, 0, none⟩) (nc + 1) vcap)) (W8.drew) := hK
                    have HK := Lib.hid hK
                    clear hK
                    show if Region.wanted _ (yielded _ a.tmps) = true then Oper.wp _ _ a (W8.drew) K _ else _
                    go_simp
                    exact HK.out
                  · replace hK : K (a.put (some 98) (.slice (some ⟨vq, 0, none⟩) (nc + 1) vcap)) ((W8.alloc (.cells #[.slice none 0 0, .int .u32 0] 62)).drew) := hK
                    have HK := Lib.hid hK
                    clear hK
                    show if Region.wanted _ (yielded _ a.tmps) = true then Oper.wp _ _ a ((W8.alloc (.cells #[.slice none 0 0, .int .u32 0] 62)).drew) K _ else _
                    go_simp
                    exact HK.out
                · simp only [List.getElem?_toArray, List.getElem?_cons_zero, List.getElem?_cons_succ, Option.some.injEq] at ho
                  subst ho
                  have v0 : a.eval (.tmp 20) = .pointer (some ⟨wr.heap.size, 0, none⟩) := (hf 20 (by kernel_rfl)).trans (by kernel_rfl)
                  have u0 : a.tmps[20]?.getD undef = .pointer (some ⟨wr.heap.size, 0, none⟩) := by rw [← Array.getD_eq_getD_getElem?]; exact v0
                  clear v0
                  have hj : j = 0 ∨ j = 1 := by simp at h1 h2; omega
                  clear h1 h2 hd hf
                  rcases hj with rfl | rfl
                  · replace hK : K (a.put (some 99) (.pointer (some ⟨wr.heap.size, 1, none⟩))) (W8.drew) := hK
                    have HK := Lib.hid hK
                    clear hK
                    show if Region.wanted _ (yielded _ a.tmps) = true then Oper.wp _ _ a (W8.drew) K _ else _
                    go_simp
                    exact HK.out
                  · replace hK : K (a.put (some 99) (.pointer (some ⟨wr.heap.size, 1, none⟩))) ((W8.alloc (.cells #[.slice none 0 0, .int .u32 0] 62)).drew) := hK
                    have HK := Lib.hid hK
                    clear hK
                    show if Region.wanted _ (yielded _ a.tmps) = true then Oper.wp _ _ a ((W8.alloc (.cells #[.slice none 0 0, .int .u32 0] 62)).drew) K _ else _
                    go_simp
                    exact HK.out
                · simp only [List.getElem?_toArray, List.getElem?_cons_zero, List.getElem?_cons_succ, Option.some.injEq] at ho
                  subst ho
                  have v0 : a.eval (.tmp 99) = .pointer (some ⟨wr.heap.size, 1, none⟩) := hd 4 99 (by kernel_rfl) (by kernel_rfl)
                  have u0 : a.tmps[99]?.getD undef = .pointer (some ⟨wr.heap.size, 1, none⟩) := by rw [← Array.getD_eq_getD_getElem?]; exact v0
                  clear v0
                  have hj : j = 0 ∨ j = 1 := by simp at h1 h2; omega
                  clear h1 h2 hd hf
                  rcases hj with rfl | rfl
                  · replace hK : K (a.put (some 100) (.int .u32 (c' : Nat))) (W8.drew) := hK
                    have HK := Lib.hid hK
                    clear hK
                    show if Region.wanted _ (yielded _ a.tmps) = true then Oper.wp _ _ a (W8.drew) K _ else _
                    go_simp
                    exact HK.out
                  · replace hK : K (a.put (some 100) (.int .u32 (c' : Nat))) ((W8.alloc (.cells #[.slice none 0 0, .int .u32 0] 62)).drew) := hK
                    have HK := Lib.hid hK
                    clear hK
                    show if Region.wanted _ (yielded _ a.tmps) = true then Oper.wp _ _ a ((W8.alloc (.cells #[.slice none 0 0, .int .u32 0] 62)).drew) K _ else _
                    go_simp
                    exact HK.out
                · simp only [List.getElem?_toArray, List.getElem?_cons_zero, List.getElem?_cons_succ, Option.some.injEq] at ho
                  subst ho
                  have v0 : a.eval (.tmp 98) = .slice (some ⟨vq, 0, none⟩) (nc + 1) vcap := hd 3 98 (by kernel_rfl) (by kernel_rfl)
                  have u0 : a.tmps[98]?.getD undef = .slice (some ⟨vq, 0, none⟩) (nc + 1) vcap := by rw [← Array.getD_eq_getD_getElem?]; exact v0
                  clear v0
                  have v1 : a.eval (.tmp 100) = .int .u32 (c' : Nat) := hd 5 100 (by kernel_rfl) (by kernel_rfl)
                  have u1 : a.tmps[100]?.getD undef = .int .u32 (c' : Nat) := by rw [← Array.getD_eq_getD_getElem?]; exact v1
                  clear v1
                  have hj : j = 0 ∨ j = 1 := by simp at h1 h2; omega
                  clear h1 h2 hd hf
                  rcases hj with rfl | rfl
                  · replace hK : K (a.put (some 101) (.pointer (some ⟨vq, c' * 2, none⟩))) (W8.drew) := hK
                    have HK := Lib.hid hK
                    clear hK
                    show if Region.wanted _ (yielded _ a.tmps) = true then Oper.wp _ _ a (W8.drew) K _ else _
                    go_simp
                    exact HK.out
                  · replace hK : K (a.put (some 101) (.pointer (some ⟨vq, c' * 2, none⟩))) ((W8.alloc (.cells #[.slice none 0 0, .int .u32 0] 62)).drew) := hK
                    have HK := Lib.hid hK
                    clear hK
                    show if Region.wanted _ (yielded _ a.tmps) = true then Oper.wp _ _ a ((W8.alloc (.cells #[.slice none 0 0, .int .u32 0] 62)).drew) K _ else _
                    go_simp
                    exact HK.out
                · simp only [List.getElem?_toArray, List.getElem?_cons_zero, List.getElem?_cons_succ, Option.some.injEq] at ho
                  subst ho
                  have v0 : a.eval (.tmp 101) = .pointer (some ⟨vq, c' * 2, none⟩) := hd 6 101 (by kernel_rfl) (by kernel_rfl)
                  have u0 : a.tmps[101]?.getD undef = .pointer (some ⟨vq, c' * 2, none⟩) := by rw [← Array.getD_eq_getD_getElem?]; exact v0
                  clear v0
                  have hj : j = 0 ∨ j = 1 := by simp at h1 h2; omega
                  clear h1 h2 hd hf
                  rcases hj with rfl | rfl
                  · replace hK : K (a.put (some 102) (.agg #[.slice none 0 0, .int .u32 n2])) (W8.drew) := hK
                    have HK := Lib.hid hK
                    clear hK
                    show if Region.wanted _ (yielded _ a.tmps) = true then Oper.wp _ _ a (W8.drew) K _ else _
                    go_simp
                    exact HK.out
                  · replace hK : K (a.put (some 102) (.agg #[.slice none 0 0, .int .u32 n2])) ((W8.alloc (.cells #[.slice none 0 0, .int .u32 0] 62)).drew) := hK
                    have HK := Lib.hid hK
                    clear hK
                    show if Region.wanted _ (yielded _ a.tmps) = true then Oper.wp _ _ a ((W8.alloc (.cells #[.slice none 0 0, .int .u32 0] 62)).drew) K _ else _
                    go_simp
                    exact HK.out
                · simp only [List.getElem?_toArray, List.getElem?_cons_zero, List.getElem?_cons_succ, Option.some.injEq] at ho
                  subst ho
                  have hj : j = 0 := by simp at h1 h2; omega
                  clear h1 h2 hd hf
                  rcases hj with rfl
                  · replace hK : K (a.put (some 22) (.pointer (some ⟨W8.heap.size, 0, none⟩))) ((W8.alloc (.cells #[.slice none 0 0, .int .u32 0] 62)).drew) := hK
                    have HK := Lib.hid hK
                    clear hK
                    show if Region.wanted _ (yielded _ a.tmps) = true then Oper.wp _ _ a (W8.drew) K _ else _
                    go_simp
                    exact HK.out
                · simp only [List.getElem?_toArray, List.getElem?_cons_zero, List.getElem?_cons_succ, Option.some.injEq] at ho
                  subst ho
                  have v0 : a.eval (.tmp 22) = .pointer (some ⟨W8.heap.size, 0, none⟩) := hd 8 22 (by kernel_rfl) (by kernel_rfl)
                  have u0 : a.tmps[22]?.getD undef = .pointer (some ⟨W8.heap.size, 0, none⟩) := by rw [← Array.getD_eq_getD_getElem?]; exact v0
                  clear v0
                  have v1 : a.eval (.tmp 102) = .agg #[.slice none 0 0, .int .u32 n2] := hd 7 102 (by kernel_rfl) (by kernel_rfl)
                  have u1 : a.tmps[102]?.getD undef = .agg #[.slice none 0 0, .int .u32 n2] := by rw [← Array.getD_eq_getD_getElem?]; exact v1
                  clear v1
                  have hj : j = 1 := by simp at h1 h2; omega
                  clear h1 h2 hd hf
                  rcases hj with rfl
                  · replace hK : K (a.put (none) (undef)) ((W8.alloc (.cells #[.slice none 0 0, .int .u32 n2] 62)).drew) := hK
                    have HK := Lib.hid hK
                    clear hK
                    show if Region.wanted _ (yielded _ a.tmps) = true then Oper.wp _ _ a ((W8.alloc (.cells #[.slice none 0 0, .int .u32 0] 62)).drew) K _ else _
                    go_simp
                    exact HK.out
              simp only [List.foldl_cons, List.foldl_nil, List.length_cons, List.length_nil, List.getD_cons_succ, List.getD_cons_zero, Nat.zero_add, Nat.reduceAdd]
              simp only [Act.put, List.setIfInBounds_toArray, List.set_cons_zero, List.set_cons_succ]
              rw [← hW9]
              clear hW9 w0 w1 w2' w3' x0 x1 x2 x3 hccI hccJ
              obtain ⟨⟨f1, f2⟩, f3, ⟨f4, f5⟩, ⟨f6, f7⟩, f8, ⟨f9, f10⟩⟩ := HC.out
              have g13 := HCC.out.1
              have g20 := HCC.out.2
              rw [hX4] at g13 g20
              have me := meqR
              go_wp2_with fail
              rw [← hX4]
              clear hX4 f1 f2 f3 f4 f5 f6 f7 f8 f9 f10 g13 g20 me g9 hcd hvq hbr
              refine CE.out.mono ?_
              rintro e W10 hR
              obtain ⟨rfl, hB⟩ := hR.ex
              have HB10 := hid hB
              clear hR hB CE
              by_cases hrr : r = r'
              · have hrt : decide (r = r') = true := by simpa using hrr
                rw [hrt]
                have HRR := hid hrr
                clear hrt hrr
                go_wp2_with fail
                go_roundg g
                case measure => omega
                case rel =>
                  refine ⟨_, s, out, E, G, rfl, rfl, rfl, hs, (HT.out.1.below HB10.out).skip ?_⟩
                  rw [HRD.out]
                  unfold stepR
                  rw [if_pos (Or.inr (by have h := HF.out.2.2.2.1.1; rw [← HRR.out] at h; exact h))]
              · have hrt : decide (r = r') = false := by simpa using hrr
                rw [hrt]
                have HRR := hid hrr
                clear hrt hrr
                go_wp2_with fail
                go_roundg g3
                case measure => omega
                case rel =>
                  have hs10 := HB10.out.size
                  refine ⟨k + 1, by omega, rfl, fun j hj hjk => ?_, HT.out.1.below HB10.out, HT.out.2.1.keep hs10 (fun q _ hl => HB10.out.block q hl), (HB10.out.block _ (heap_lt HT.out.2.2.2.1)).trans HT.out.2.2.2.1, (HB10.out.block _ (heap_lt HT.out.2.2.2.2)).trans HT.out.2.2.2.2, HF.out.2.2.2.2.1, HF.out.2.2.2.2.2⟩
                  by_cases e : j < k
                  · exact HF.out.1 j hj e
                  · have e2 : j = k := by omega
                    subst e2
                    rw [HF.out.2.1]
                    exact fun e => HRR.out e.symm
end Go.Proofs.Ytphimfimnakclaa
