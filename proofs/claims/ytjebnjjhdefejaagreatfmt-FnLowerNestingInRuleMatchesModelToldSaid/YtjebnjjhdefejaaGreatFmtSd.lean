/-
  The removal, with what it leaves. Conditions: each theorem's own.
-/
import Derived.Test.YtjebnjjhdefejaaGreatFmtSc
namespace Go.Proofs.YtjebnjjhdefejaaGreatFmt
open Go.RowKit Go.Lib Go.ChangeMaps
set_option maxHeartbeats 16000000 in
set_option maxRecDepth 100000 in
theorem rem19S (d : Nat) (H : PCtxS d) : PRemS d := by
  rintro ts w lo hi rb cap arr cb pw pn lw n S m pb out P hlo hrb hhi hrow hsz hcap hts hK hC hOff hmd hnn hOS hPO
  obtain ⟨L, hL⟩ : ∃ L, L = ts.length := ⟨_, rfl⟩
  rw [← hL] at hsz hcap hts ⊢
  have HL := hid hL
  have HINV := hid (show ReJ d rb arr ts lo hi cb pw pn lw n S m pb out P w L (.int .i64 0) (.int .i64 0) w from ⟨[], ts, 0, 0, rb + 1, lw, n, arr, rfl, hL.symm, rfl, rfl, rfl, rfl, Nat.le_refl _, Nat.le_refl _, hC, FrM.refl _ _, Or.inl rfl, hrow, rfl, (fun j hj => by simp [keptM] at hj), Nat.le_refl _, hK, P, by simpa using hOS, fun g hg => Or.inl hg⟩)
  have HPO := hid hPO
  have HW := hid (And.intro hhi (And.intro hrow (And.intro hsz (And.intro hC (And.intro hOff hnn)))))
  clear hL hrow hK hC hOff hnn hhi hsz hOS hPO
  go_enter Tryz.func27, Tryz.ntmps27
  go_wp2_with fail
  obtain ⟨wo, hwo⟩ : ∃ wo, wo = w := ⟨_, rfl⟩
  go_loopg [7, 12] L (fun g v7 v12 wx => ReJ d rb arr ts lo hi cb pw pn lw n S m pb out P w g v7 v12 wx)
  case atStart => exact HINV.out
  case round =>
    obtain ⟨pre, rest, i, kk, mid, lw', n', arr', hpr, hrg, hpi, rfl, rfl, hkk, hn1, hn2, hC, hF, hO, hrow, hs', hkp, hmid, hK, Pi, hPiS, hPiP⟩ := hrel.ex
    have HPi := hid (And.intro hPiS hPiP)
    clear hPiS hPiP
    clear hrel HINV
    have hll : pre.length + rest.length = L := by rw [HL.out, hpr]; simp
    have hlw := HW.out
    have hki : kk ≤ i := by rw [← hkk, ← hpi]; exact keptM_len pre
    have hC0 := hid hC
    have hhi := HW.out.1
    have hcw := HW.out.2.2.2.1
    have hoff := HW.out.2.2.2.2.1
    have hws := hF.size
    have hK0 := hid hK
    cases gk with
    | zero =>
      have hcd : ¬ ((i : Int) < (L : Int)) := by omega
      have hkL : (kk : Int) ≤ (cap : Int) := by omega
      have HF := hid (And.intro hpr (And.intro hpi (And.intro hkk (And.intro hn1 (And.intro hn2 (And.intro hC (And.intro hF (And.intro hO (And.intro hrow (And.intro hs' (And.intro hkp hrg)))))))))))
      clear hpr hpi hkk hn1 hn2 hC hF hO hrow hs' hkp hrg hK hlw hhi hcw hoff hws hmid hll
      go_wp2_with fail
      obtain ⟨hpr, hpi, hkk, hn1, hn2, hC, hF, hO, hrow, hs', hkp, hrg⟩ := HF.out
      obtain rfl : rest = [] := List.length_eq_zero_iff.1 hrg
      rw [List.append_nil] at hpr
      subst hpr
      refine bodyPost_ret (v := .slice (some ⟨rb, 0, none⟩) kk cap) (by simp [results, Tryz.results27, go_sem]) rfl ?_
      refine ⟨lw', n', arr', _, by rw [hkk], hn1, by simp [cntTL] at hn2 ⊢; omega, hC, hF, hO, hrow, hs', hkp, HPi.out.1, fun g hg => by
        rcases HPi.out.2 g hg with h | h | h
        · exact Or.inl h
        · exact Or.inr (Or.inl ⟨h.1, by have := hK0.out.le; omega⟩)
        · exact Or.inr (Or.inr h)⟩
    | succ g =>
      have hrg0 := hrg
      have HRG := hid hrg
      clear hrg0
      obtain ⟨t, rs, rfl⟩ : ∃ t rs, rest = t :: rs := by
        cases rest with
        | nil => simp at hrg
        | cons t rs => exact ⟨t, rs, rfl⟩
      obtain ⟨mid2, v, hmm, ha0, ha1, hT, hK2⟩ := hK
      obtain ⟨TT, vb, rfl⟩ := hT.shape
      have hcd : ((i : Int) < (L : Int)) := by simp at hll; omega
      have hiL : i < L := by simp at hll; omega
      have e1 : IntKind.i64.wrap ((i : Int) + 1) = ((i + 1 : Nat) : Int) := by rw [IntKind.wrap_i64]; omega
      have e2 : IntKind.i64.wrap ((kk : Int) + 1) = ((kk + 1 : Nat) : Int) := by rw [IntKind.wrap_i64]; omega
      have c0 := (hcell hrow (i * 2) _ ha0).1
      have c1 := (hcell hrow (i * 2 + 1) _ ha1).1
      have hle2 := hK2.le
      obtain ⟨tl, htl⟩ : ∃ tl, tl = t.loc := ⟨_, rfl⟩
      rw [← htl] at c1
      obtain ⟨W2, hW2⟩ : ∃ X, X = wr.alloc (.cells #[.iface TT (.pointer (some ⟨vb, 0, none⟩)), .int .i32 tl] 39) := ⟨_, rfl⟩
      have hb2 : Below wr.heap.size wr W2 := by rw [hW2]; exact (Below.refl _ _).alloc (Nat.le_refl _) _
      have hN2 : W2.heap[wr.heap.size]? = some (.cells #[.iface TT (.pointer (some ⟨vb, 0, none⟩)), .int .i32 tl] 39 (0, 0)) := by rw [hW2]; exact heap_alloc_new _ _
      have hmh : mid2 ≤ hi := hle2
      have hcnt := cntTL_cons d t rs
      have hO' : lw'.ownBlock = lw.ownBlock ∨ ∃ g, lw'.ownBlock = some g ∧ hi ≤ g := hO.imp id fun ⟨g, e, hg⟩ => ⟨g, e, by omega⟩
      have hoff2 : Off mid mid2 cb pb lw' S := hoff.sub (by omega) hmh hO'
      have CL := hid (H t W2 mid mid2 (.iface TT (.pointer (some ⟨vb, 0, none⟩))) cb pw pn lw' n' S m pb (out ++ pre.flatMap (lowM d true)) Pi (InT.keep d mid mid2 _ t hb2.size (fun q q1 q2 => hb2.block q (by omega)) hT) (by have := hb2.size; omega) (hC.below hb2) hoff2 hmd (by have := HW.out.2.2.2.2.2; omega) (HPi.out.1.below hb2) (fun g hg => by
        have h1 := (HPi.out.1.sP g hg).1
        rcases HPi.out.2 g hg with h | h | h
        · have := HPO.out g h; omega
        · have := HW.out.2.2.2.2.1.1; omega
        · have h2 := heap_lt HW.out.2.2.2.1.cx; omega))
      rw [← htl] at CL
      have HF := hid (And.intro hpr (And.intro hpi (And.intro hkk (And.intro hn1 (And.intro hn2 (And.intro hC (And.intro hF (And.intro hO (And.intro hrow (And.intro hs' (And.intro hkp (And.intro hmm (And.intro hmh (And.intro hK2 (And.intro hT (And.intro hb2 (And.intro hN2 (And.intro htl (And.intro hmid (And.intro hki (And.intro hll (And.intro hoff hoff2))))))))))))))))))))))
      clear hpr hpi hkk hn1 hn2 hC hF hO hrow hs' hkp hmm hmh hK2 hT hb2 hN2 htl hlw hhi hcw hoff hws hmid hki hll hrg hle2 hcnt hO' hoff2 ha0 ha1
      go_upto_region 5 with fail
      rw [← hW2]
      clear c0 c1 hW2
      have n0 := (hcell HF.out.2.2.2.2.2.2.2.2.2.2.2.2.2.2.2.2.1 0 _ rfl).1
      have n1 := (hcell HF.out.2.2.2.2.2.2.2.2.2.2.2.2.2.2.2.2.1 1 _ rfl).1
      go_wp2_with fail
      refine CL.out.mono ?_
      rintro e W3 hR
      obtain ⟨lw3, n3, P3, rfl, h31, h32, h3c, h3F, h3O, h3S, h3P⟩ := hR.ex
      have HS3 := hid (And.intro h3S h3P)
      clear h3S h3P
      clear hR CL n0 n1
      obtain ⟨hpr, hpi, hkk, hn1, hn2, hC, hF, hO, hrow, hs', hkp, hmm, hmh, hK2, hT, hb2, hN2, htl, hmid, hki, hll, hoff, hoff2⟩ := HF.out
      have hhi := HW.out.1
      have hws := hF.size
      have hsz2 := hb2.size
      have hnm : ∀ q, q < W2.heap.size → (q < mid ∨ mid2 ≤ q) → q ≠ cb → lw'.ownBlock ≠ some q → W3.heap[q]? = W2.heap[q]? := fun q q1 q2 q3 q4 => h3F.block q q1 (by
        rintro (q5 | q5 | q5)
        · omega
        · exact q3 q5
        · exact q4 q5)
      have hbx : wr.heap.size < W2.heap.size := heap_lt hN2
      have hN3 : W3.heap[wr.heap.size]? = some (.cells #[.iface TT (.pointer (some ⟨vb, 0, none⟩)), .int .i32 tl] 39 (0, 0)) := (hnm _ hbx (Or.inr (by omega)) (by have := hC.old (Or.inr (Or.inr (Or.inl rfl))); omega) (fun e => by have := hC.ownlt e; omega)).trans hN2
      have hrb3 : W3.heap[rb]? = some (.cells arr' 39 (0, 0)) := (hnm rb (by omega) (Or.inl (by omega)) (by have := hoff.1; omega) (fun e => by
        have := (hoff.sub (Nat.le_refl _) (Nat.le_refl _) (hO.imp id fun ⟨g, e, hg⟩ => ⟨g, e, by omega⟩)).2.2.1 rb e
        omega)).trans ((hb2.block rb (by omega)).trans hrow)
      have h3Fr : FrM (fun g => wr.heap.size ≤ g ∨ Mod mid mid2 cb lw' g) wr W3 := (FrM.of hb2).trans h3F (fun g _ h => Or.inr h) |> fun h => ⟨h.os, h.tape, h.output, h.size, fun g h1 h2 => h.block g h1 (fun q => h2 q)⟩
      have h3G : OwnG wr lw' lw3 := h3O.imp id fun ⟨g, e, hg⟩ => ⟨g, e, by omega⟩
      have h3o : lw3.ownBlock ≠ some wr.heap.size := fun e => by
        rcases h3O with q | ⟨g, q, hg⟩
        · rw [q] at e; have := hC.ownlt e; omega
        · rw [q] at e; injection e with e; omega
      obtain ⟨y0, y0f⟩ := hcell hN3 0 _ rfl
      have HSZ := hid hsz2
      by_cases hk : t.kind = 0
      · rw [show retV t (.iface TT (.pointer (some ⟨vb, 0, none⟩))) = .agg #[(.iface TT (.pointer (some ⟨vb, 0, none⟩))), .int .i32 t.loc] from if_pos hk, ← htl]
        obtain ⟨b', hvb⟩ := hT.decl hk
        have hTT : TT = 103 := by injection hvb
        subst hTT
        clear hvb
        obtain ⟨y1, y1f⟩ := hcell (hset hN3 0 (.iface 103 (.pointer (some ⟨vb, 0, none⟩)))) 1 _ rfl
        obtain ⟨W4, hW4⟩ : ∃ X, X = (W3.setCell ⟨wr.heap.size, 0, none⟩ (.iface 103 (.pointer (some ⟨vb, 0, none⟩)))).setCell ⟨wr.heap.size, 1, none⟩ (.int .i32 tl) := ⟨_, rfl⟩
        have hN4 : W4.heap[wr.heap.size]? = some (.cells #[.iface 103 (.pointer (some ⟨vb, 0, none⟩)), .int .i32 tl] 39 (0, 0)) := by rw [hW4]; exact hset (hset hN3 0 _) 1 (.int .i32 tl)
        have hrb4 : W4.heap[rb]? = some (.cells arr' 39 (0, 0)) := by rw [hW4]; exact (set2o W3 0 _ _ (by omega)).trans hrb3
        have hF4 : FrM (fun g => g = wr.heap.size ∨ g = rb) W3 W4 := by rw [hW4]; exact set2f _ W3 0 _ _ (Or.inl rfl)
        have r0 := (hcell hN4 0 _ rfl).1
        have r1 := (hcell hN4 1 _ rfl).1
        have hasz : kk * 2 + 1 < arr'.size := by rw [hs']; have := HW.out.2.2.1; omega
        obtain ⟨x0, hx0⟩ : ∃ x, arr'[kk * 2]? = some x := ⟨_, Array.getElem?_eq_getElem (by omega)⟩
        obtain ⟨x1, hx1⟩ : ∃ x, (arr'.setIfInBounds (kk * 2) (.iface 103 (.pointer (some ⟨vb, 0, none⟩))))[kk * 2 + 1]? = some x := ⟨_, Array.getElem?_eq_getElem (by simpa using hasz)⟩
        obtain ⟨t0, t0f⟩ := hcell hrb4 (kk * 2) _ hx0
        obtain ⟨t1, t1f⟩ := hcell (hset hrb4 (kk * 2) (.iface 103 (.pointer (some ⟨vb, 0, none⟩)))) (kk * 2 + 1) _ hx1
        obtain ⟨arr5, h5r, h5s, h5j, h5v⟩ := set2 hrb4 (kk * 2) (.iface 103 (.pointer (some ⟨vb, 0, none⟩))) (.int .i32 tl)
        obtain ⟨W5, hW5⟩ : ∃ X, X = (W4.setCell ⟨rb, kk * 2, none⟩ (.iface 103 (.pointer (some ⟨vb, 0, none⟩)))).setCell ⟨rb, kk * 2 + 1, none⟩ (.int .i32 tl) := ⟨_, rfl⟩
        rw [← hW5] at h5r
        have hF5 : FrM (fun g => g = wr.heap.size ∨ g = rb) W3 W5 := hF4.trans (by rw [hW5]; exact set2f _ W4 (kk * 2) _ _ (Or.inr rfl)) (fun _ _ h => h)
        have hkL : (kk : Int) < (L : Int) := by omega
        have hkm : keptM (pre ++ [t]) = keptM pre ++ [.mk t.loc 0 []] := by rw [keptM_snoc, if_pos hk]
        have hkk' : (keptM (pre ++ [t])).length = kk + 1 := by rw [hkm]; simp [hkk]
        have hkp' : Kept arr5 (pre ++ [t]) := by
          intro j hj
          rw [hkk'] at hj
          by_cases e : j = kk
          · subst e
            obtain ⟨q0, q1⟩ := h5v hasz
            have hg : (keptM (pre ++ [t]))[j]'(by omega) = .mk t.loc 0 [] := by
              simp [hkm, hkk]
            exact ⟨vb, q0, by rw [hg]; exact q1.trans (by rw [htl]; rfl)⟩
          · obtain ⟨b, q0, q1⟩ := hkp j (by omega)
            have hg : (keptM (pre ++ [t]))[j]'(by omega) = (keptM pre)[j]'(by omega) := by
              simp only [hkm]
              rw [List.getElem_append_left]
            exact ⟨b, (h5j _ (by omega) (by omega)).trans q0, by rw [hg]; exact (h5j _ (by omega) (by omega)).trans q1⟩
        have HEND := hid (ReJ.next (kk' := kk + 1) hlo hrb hhi HW.out.2.2.2.2.1 hpr hpi hn1 hn2 hF hO hs' hmid hmm hK2 hrow h31 h32 h3c h3Fr h3G hF5 h5r h5s (fun j hj => h5j j (by omega) (by omega)) hkk' hkp' hC hmh (fun g hg => (HW.out.2.2.2.1.sS g hg).1) HW.out.2.2.2.1.par.lt (heap_lt HW.out.2.2.2.1.cx) h3o HPO.out (fun g hg => ⟨HPi.out.2 g hg, (HPi.out.1.sP g hg).1⟩) HS3.out.1 (fun g hg => (HS3.out.2 g hg).imp id (fun q => q.imp id (fun q => by omega))))
        have hrs : rs.length = g := by simpa using HRG.out
        rw [hrs] at HEND
        have HWS := hid (And.intro hW4 hW5)
        have R0 := hid (And.intro r0 r1)
        rw [hW4] at r0 r1
        have T0 := hid (And.intro t0 (And.intro t0f (And.intro t1 t1f)))
        clear hpr hpi hkk hn1 hn2 hC hF hO hrow hs' hkp hmm hmh hK2 hT hb2 hN2 htl hmid hki hll hoff hoff2 HF hhi hws hsz2 hnm hbx hN3 hrb3 h3Fr h3G h3o h31 h32 h3c h3F h3O hW4 hN4 hrb4 hF4 hasz hx0 hx1 h5r h5s h5j h5v hW5 hF5 hkm hkk' hkp' hk hrs t0 t0f t1 t1f
        go_upto_region 7 with fail
        rw [← HWS.out.1]
        clear y0 y0f y1 y1f r0 r1
        obtain ⟨r0, r1⟩ := R0.out
        obtain ⟨t0, t0f, t1, t1f⟩ := T0.out
        go_upto_region 8 with fail
        rw [← HWS.out.2]
        clear t0 t0f t1 t1f r0 r1
        go_wp2_with fail
        go_roundg g
        case measure => omega
        case rel => exact HEND.out
      · rw [show retV t (.iface TT (.pointer (some ⟨vb, 0, none⟩))) = .agg #[.nilIface, .int .i32 0] from if_neg hk]
        obtain ⟨y1, y1f⟩ := hcell (hset hN3 0 .nilIface) 1 _ rfl
        obtain ⟨W4, hW4⟩ : ∃ X, X = (W3.setCell ⟨wr.heap.size, 0, none⟩ .nilIface).setCell ⟨wr.heap.size, 1, none⟩ (.int .i32 0) := ⟨_, rfl⟩
        have hN4 : W4.heap[wr.heap.size]? = some (.cells #[.nilIface, .int .i32 0] 39 (0, 0)) := by rw [hW4]; exact hset (hset hN3 0 _) 1 (.int .i32 0)
        have hrb4 : W4.heap[rb]? = some (.cells arr' 39 (0, 0)) := by rw [hW4]; exact (set2o W3 0 _ _ (by omega)).trans hrb3
        have hF4 : FrM (fun g => g = wr.heap.size ∨ g = rb) W3 W4 := by rw [hW4]; exact set2f _ W3 0 _ _ (Or.inl rfl)
        have r0 := (hcell hN4 0 _ rfl).1
        have hkm : keptM (pre ++ [t]) = keptM pre := by rw [keptM_snoc, if_neg hk, List.append_nil]
        have hkk' : (keptM (pre ++ [t])).length = kk := by rw [hkm]; exact hkk
        have hkp' : Kept arr' (pre ++ [t]) := by
          unfold Kept
          rw [hkm]
          exact hkp
        have HEND := hid (ReJ.next (kk' := kk) hlo hrb hhi HW.out.2.2.2.2.1 hpr hpi hn1 hn2 hF hO hs' hmid hmm hK2 hrow h31 h32 h3c h3Fr h3G hF4 hrb4 rfl (fun _ _ => rfl) hkk' hkp' hC hmh (fun g hg => (HW.out.2.2.2.1.sS g hg).1) HW.out.2.2.2.1.par.lt (heap_lt HW.out.2.2.2.1.cx) h3o HPO.out (fun g hg => ⟨HPi.out.2 g hg, (HPi.out.1.sP g hg).1⟩) HS3.out.1 (fun g hg => (HS3.out.2 g hg).imp id (fun q => q.imp id (fun q => by omega))))
        have hrs : rs.length = g := by simpa using HRG.out
        rw [hrs] at HEND
        have HWS := hid hW4
        have R0 := hid r0
        rw [hW4] at r0
        clear hpr hpi hkk hn1 hn2 hC hF hO hrow hs' hkp hmm hmh hK2 hT hb2 hN2 htl hmid hki hll hoff hoff2 HF hhi hws hsz2 hnm hbx hN3 hrb3 h3Fr h3G h3o h31 h32 h3c h3F h3O hW4 hN4 hrb4 hF4 hkm hkk' hkp' hk hrs
        go_upto_region 9 with fail
        rw [← HWS.out]
        go_wp2_with fail
        go_roundg g
        case measure => omega
        case rel => exact HEND.out
end Go.Proofs.YtjebnjjhdefejaaGreatFmt
