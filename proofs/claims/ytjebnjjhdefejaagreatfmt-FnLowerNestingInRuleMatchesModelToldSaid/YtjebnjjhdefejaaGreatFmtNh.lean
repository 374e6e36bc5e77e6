/-
  The law: a lowered tree answers the model. Conditions: each theorem's own.
-/
import Derived.Test.YtjebnjjhdefejaaGreatFmtNg
import Derived.Test.YtjebnjjhdefejaaGreatFmtNf
import Derived.Test.YtjebnjjhdefejaaGreatFmtMk
import Derived.Test.YtjebnjjhdefejaaGreatFmtDv
namespace Go.Proofs.YtjebnjjhdefejaaGreatFmt
open Go.RowKit Go.Lib Go.ChangeMaps
theorem kdF_le (par : Nat → Option Nat) (n : Nat) (z : List Int) (i : Nat) : kdF par n z i ≤ 2 := by
  unfold kdF
  split
  · omega
  · have := Nat.mod_lt (z.getD i 0).toNat (show 0 < 3 by omega)
    omega
theorem kdF_zero (par : Nat → Option Nat) (n : Nat) (z : List Int) (i : Nat) (h : kdF par n z i = 0) : ofP par n (some i) = [] := by
  unfold kdF at h
  split at h
  · cases h
  · rename_i q
    apply List.length_eq_zero_iff.1
    omega
theorem IsRow.below {k : IntKind} {w w' : World} {a : Option Addr} {n c : Nat} {z : List Int} (h : IsRow k w a n c z) (hb : Below w.heap.size w w') : IsRow k w' a n c z := by
  rcases h with h | ⟨x, e, hl, hm, hz, hc, hw⟩
  · exact .inl h
  · exact .inr ⟨x, e, hl, hm, hz, fun i hi => by rw [hb.cell (p := x.add i) (addr_lt (hc i hi)).1]; exact hc i hi, hw⟩
/-- one tree of n rules -/
theorem cnt_tree (z : List Int) (m : Nat) (kd : Nat → Nat) (n : Nat) (hn : 0 < n) : cntT n (treeM (parF false z m) kd n n 0) ≤ n := by
  have h := cnt_forest (parF false z m) kd n (fun k p h => parF_lt h)
  have h0 : 0 ∈ ofP (parF false z m) n none := mem_ofP.2 ⟨hn, by simp [parF]⟩
  have h1 := mem_sum (f := fun i => cntT n (treeM (parF false z m) kd n n i)) _ h0
  unfold cntTL at h
  rw [List.map_map] at h
  have h2 : ((ofP (parF false z m) n none).map fun i => cntT n (treeM (parF false z m) kd n n i)).sum = n := h
  omega
/-- the drawn statement under way: b3 the rules ahead made, b4 the lowering done -/
def St (wF : World) (lo mN : Nat) (t : Tr) (n : Nat) (p : Value × Value) (b3 b4 : Bool) (X : World) : Prop :=
  (b3 = false ∧ b4 = false ∧ X = wF.drew) ∨ (b3 = true ∧ b4 = false ∧ OutS X p.1 mN (prefM mN) (fun _ => False) ∧ Below wF.heap.size wF X ∧ ∀ g, p.1.ownBlock = some g → wF.heap.size ≤ g) ∨ (b4 = true ∧ ∃ n' P', OutS X p.2 n' (prefM mN ++ lowM n false t) P' ∧ n' ≤ 1000000 ∧ Below lo wF X)
theorem St.cell {wF : World} {lo mN : Nat} {t : Tr} {n : Nat} {p : Value × Value} {b3 : Bool} {X : World} (h : St wF lo mN t n p b3 false X) : Below wF.heap.size wF X := by
  rcases h with ⟨_, _, rfl⟩ | ⟨_, _, _, h, _⟩ | ⟨h, _⟩
  · exact (Below.refl _ _).drew
  · exact h
  · cases h
/-- the two rows at the end -/
theorem same_end {n mN : Nat} {t : Tr} {w2 : World} {r1 r2 : Value} {n1 n2 : Nat} {P1 P2 : Nat → Prop} (h1 : OutS w2 r1 n1 (prefM mN ++ lowM n false t) P1) (h2 : OutD w2 r2 n2 (prefM mN ++ lowM n false t) P2) (hn : n1 ≤ 1000000) : Calls Tryz.prog 15 #[r1, r2] w2 fun e w' => BoR true w2 e w' := by
  obtain ⟨D1, q1⟩ := outX_row (h1.row fun u hu => by
    rcases List.mem_append.1 hu with h | h
    · rw [prefM_kind mN u h]; omega
    · exact lowM_kind n false t u h)
  obtain ⟨D2, q2⟩ := mdX_row h2.row
  exact samP (D1 + D2) w2 _ r1 r2 _ _ (q1.mono fun c m => OutE_le (by omega) _ _ c m) (q2.mono fun c m => MdE_le (by omega) _ _ c m) (by rw [h1.len]; exact hn)
set_option maxHeartbeats 16000000 in
set_option maxRecDepth 100000 in
theorem law3 (a0 : Option Addr) (n k0 : Nat) (z0 : List Int) (a1 : Option Addr) (m k1 : Nat) (z1 : List Int) (pm : Int) (w : World) (w0 : IsRow .u8 w a0 n k0 z0) (w1 : IsRow .u16 w a1 m k1 z1) :
    Calls Tryz.prog 3 #[.slice a0 n k0, .slice a1 m k1, .int .i64 pm] w fun e w' => e = .returned (.bool true) ∧ Below w.heap.size w w' := by
  have HR := hid (And.intro w0 w1)
  clear w0 w1
  go_enter Tryz.func3, Tryz.ntmps3
  go_wp2_with fail
  refine (bytes4z a0 a1 n m k0 k1 pm w).mono ?_
  rintro e w9 ⟨⟨b, rfl⟩, hw9⟩
  obtain rfl := hw9.symm
  clear hw9
  cases b with
  | false =>
    go_wp2_with fail
    go_ret
    exact ⟨rfl, Below.refl _ _⟩
  | true =>
    by_cases hn : 4096 < n
    · have hn' : (4096 : Int) < (n : Int) := by omega
      go_wp2_with fail
      go_ret
      exact ⟨rfl, Below.refl _ _⟩
    · by_cases hm : 4096 < m
      · have hn' : ¬ (4096 : Int) < (n : Int) := by omega
        have hm' : (4096 : Int) < (m : Int) := by omega
        go_wp2_with fail
        go_ret
        exact ⟨rfl, Below.refl _ _⟩
      · have hn' : ¬ (4096 : Int) < (n : Int) := by omega
        have hm' : ¬ (4096 : Int) < (m : Int) := by omega
        go_upto_region 5 with fail
        clear hn' hm'
        by_cases hp : pm < 0
        · go_wp2_with fail
          go_ret
          exact ⟨rfl, Below.refl _ _⟩
        · by_cases hp2 : 4096 < pm
          · go_wp2_with fail
            go_ret
            exact ⟨rfl, Below.refl _ _⟩
          · go_upto_region 7 with fail
            obtain ⟨mN, rfl⟩ : ∃ mN : Nat, pm = (mN : Int) := ⟨pm.toNat, by omega⟩
            have hmN : mN ≤ 4096 := by omega
            have HMN := hid hmN
            clear hp hp2 hmN
            by_cases hn0 : n = 0
            · subst hn0
              go_wp2_with fail
              go_ret
              exact ⟨rfl, Below.refl _ _⟩
            · have hn0' : ¬ (n : Int) = 0 := by omega
              go_upto_region 9 with fail
              have HN0 := hid (show 0 < n by omega)
              clear hn0 hn0'
              go_wp2_with fail
              refine (cloneu8 a0 n k0 z0 w (by omega) HR.out.1).mono ?_
              rintro e wA ⟨⟨a2, c2, rfl, rA⟩, hA⟩
              have HA := hid (And.intro rA hA)
              have CB := hid (cloneu16 a1 m k1 z1 wA (by omega) (HR.out.2.below hA))
              clear rA hA
              go_wp2_with fail
              refine CB.out.mono ?_
              rintro e wB ⟨⟨a3, c3, rfl, rB⟩, hB⟩
              obtain ⟨par, hpar⟩ : ∃ par, par = parF false z1 m := ⟨_, rfl⟩
              obtain ⟨kd, hkd⟩ : ∃ kd, kd = kdF par n z0 := ⟨_, rfl⟩
              have CC := sh7 false a2 a3 n m c2 c3 z0 z1 wB (by omega) (by omega) (HA.out.1.below (Nat.le_refl _) hB) rB
              rw [← hpar, ← hkd] at CC
              have CC := hid CC
              have HP := hid (And.intro (show ∀ k p, par k = some p → p < k from fun k p h => parF_lt (by rw [← hpar]; exact h)) (And.intro (show ∀ i, kd i ≤ 2 from fun i => by rw [hkd]; exact kdF_le _ _ _ _) (And.intro (show ∀ i, kd i = 0 → ofP par n (some i) = [] from fun i => by rw [hkd]; exact kdF_zero _ _ _ _) (show cntT n (treeM par kd n n 0) ≤ n by rw [hpar]; exact cnt_tree _ _ _ _ HN0.out))))
              have HB := hid (HA.out.2.trans (hB.mono HA.out.2.size))
              clear rB hB hpar hkd CB
              go_upto_region 11 with fail
              go_wp2_with fail
              refine CC.out.mono ?_
              rintro e wC hR
              obtain ⟨kb, kc, cb, cc, ra, rc, pb, pc, rfl, hT, hC⟩ := hR.ex
              obtain ⟨W4, hW4⟩ : ∃ X, X = wC.alloc (.cells (treeC n kb kc cb cc ra (ofP par n none).length rc pb pc) 30) := ⟨_, rfl⟩
              have hb4 : Below wC.heap.size wC W4 := by rw [hW4]; exact (Below.refl _ _).alloc (Nat.le_refl _) _
              have ht4 : W4.heap[wC.heap.size]? = some (.cells (treeC n kb kc cb cc ra (ofP par n none).length rc pb pc) 30 (0, 0)) := by rw [hW4]; exact heap_alloc_new _ _
              have hT4 := hT.below (Nat.le_refl _) hb4
              have hw4 : Below w.heap.size w W4 := HB.out.trans ((hC.trans (hb4.mono hC.size)).mono HB.out.size)
              obtain ⟨tb, htb⟩ : ∃ tb, tb = wC.heap.size := ⟨_, rfl⟩
              rw [← htb] at ht4
              have CD := hid (un8 n par kd kb kc cb cc ra (ofP par n none).length rc pb pc tb W4 (by omega) hT4 HP.out.1 ht4)
              have HT4 := hid (And.intro hT4 (And.intro ht4 hw4))
              have HW4 := hid hW4
              have HTB := hid htb
              clear hR CC hT hC hb4 ht4 hT4 hw4 hW4 htb
              go_upto_region 12 with fail
              rw [← HW4.out, ← HTB.out]
              go_wp2_with fail
              refine CD.out.mono ?_
              rintro e wD hR
              obtain ⟨⟨z, rfl⟩, hD⟩ := hR.ex
              obtain ⟨hT4, ht4, hw4⟩ := HT4.out
              have hwD : Below w.heap.size w wD := hw4.trans (hD.mono hw4.size)
              have hTD := hT4.below (Nat.le_refl _) hD
              have htD := (hD.block _ (heap_lt ht4)).trans ht4
              have HD := hid (And.intro hwD (And.intro hTD htD))
              clear hR CD hT4 ht4 hw4 hD hwD hTD htD
              by_cases hz : 262144 < z
              · go_wp2_with fail
                go_ret
                exact ⟨rfl, HD.out.1⟩
              · obtain ⟨hlt, hkd, hk0, hcnt⟩ := HP.out
                have CE : Calls Tryz.prog 9 #[.pointer (some ⟨tb, 0, none⟩), .int .i64 0] wD fun e w' => BuR n (treeM par kd n n 0) 0 wD e w' := bu17 n par kd (by omega) hlt hkd hk0 tb kb kc cb cc ra (ofP par n none).length rc pb pc n 0 wD HN0.out (by omega) HD.out.2.1 HD.out.2.2
                have CE := hid CE
                clear hlt hkd hk0 hcnt
                go_upto_region 14 with fail
                clear hz
                go_wp2_with fail
                refine CE.out.mono ?_
                rintro e wE hR
                obtain ⟨v, rfl, hTE, hE⟩ := hR.ex
                obtain ⟨TT, vb, rfl⟩ := hTE.shape
                obtain ⟨W6, hW6⟩ : ∃ X, X = wE.alloc (.cells #[.iface TT (.pointer (some ⟨vb, 0, none⟩)), .int .i32 0] 39) := ⟨_, rfl⟩
                have hb6 : Below wE.heap.size wE W6 := by rw [hW6]; exact (Below.refl _ _).alloc (Nat.le_refl _) _
                have hx6 : W6.heap[wE.heap.size]? = some (.cells #[.iface TT (.pointer (some ⟨vb, 0, none⟩)), .int .i32 0] 39 (0, 0)) := by rw [hW6]; exact heap_alloc_new _ _
                obtain ⟨xb, hxb⟩ : ∃ xb, xb = wE.heap.size := ⟨_, rfl⟩
                rw [← hxb] at hx6
                have HE := hid (And.intro hTE (And.intro hE (And.intro hb6 (And.intro hx6 hxb))))
                have HW6 := hid hW6
                have HXB := hid hxb
                clear hR CE hTE hE hb6 hx6 hW6 hxb
                go_upto_region 15 with fail
                rw [← HW6.out, ← HXB.out]
                go_wp2_with fail
                refine (np10 W6).mono ?_
                rintro e wF hR
                obtain ⟨pb2, rfl, p1, p2, hF⟩ := hR.ex
                obtain ⟨hTE, hE, hb6, hx6, hxb⟩ := HE.out
                obtain ⟨t, ht⟩ : ∃ t, t = treeM par kd n n 0 := ⟨_, rfl⟩
                have htl : t.loc = 0 := by rw [ht, treeM_loc]; rfl
                have hcn := HP.out.2.2.2
                rw [← ht] at hTE hcn
                have hEF : Below wE.heap.size wE wF := hb6.trans (hF.mono hb6.size)
                have hs6 := hb6.size
                have hsF := hF.size
                have hsE := hE.size
                have hx6l := heap_lt hx6
                have hlo : wD.heap.size ≤ wE.heap.size := hsE
                have HZL := hid (show ∀ (X : World) (lw : Value), Below wF.heap.size wF X → OutS X lw mN (prefM mN) (fun _ => False) → (∀ g, lw.ownBlock = some g → wF.heap.size ≤ g) → Calls Tryz.prog 11 #[.pointer (some ⟨pb2, 0, none⟩), .agg #[.iface TT (.pointer (some ⟨vb, 0, none⟩)), .int .i32 0], lw] X fun e w' => ZlR n t wD.heap.size wE.heap.size (prefM mN) X e w' from fun X lw h1 h2 h3 => by
                  have hsX := h1.size
                  have hp2 : Par X pb2 := by
                    obtain ⟨parr, a1, a2⟩ := p2.ex
                    exact ⟨parr, (h1.block _ (heap_lt a1)).trans a1, a2⟩
                  have q := zlow n t X wD.heap.size wE.heap.size TT vb lw mN pb2 (prefM mN) (InT.keep n _ _ _ _ (by omega) (fun g _ hg => (h1.block g (by omega)).trans (hEF.block g hg)) hTE) (by omega) h2 hp2 (Or.inr (by omega)) hsE (fun g hg => by have := h3 g hg; omega) (by omega) (by have := HMN.out; omega)
                  rw [htl] at q
                  exact q)
                have hxF := (hF.block _ hx6l).trans hx6
                have x0 := (hcell hxF 0 _ rfl).1
                have x1 := (hcell hxF 1 _ rfl).1
                have hxl := heap_lt hxF
                have HX := hid (And.intro x0 (And.intro x1 hxl))
                have HDF := hid (show Below wD.heap.size wD wF from hE.trans (hEF.mono hsE))
                have HTT := hid (And.intro ht (And.intro hcn hsE))
                clear hR p1 p2 hF hTE hE hb6 hx6 hxb htl hcn hEF hs6 hsF hsE hx6l hxF x0 x1 hxl hlo ht
                go_upto_region 16 with fail
                refine wp_region_st (π := Value × Value) (fun p => [(some 45, .pointer (some ⟨pb2, 0, none⟩)), (some 46, .agg #[.iface TT (.pointer (some ⟨vb, 0, none⟩)), .int .i32 0]), (some 47, .int .i64 (mN : Nat)), (some 48, p.1), (some 49, p.2), (some 10, p.2)]) (undef, undef) (fun p L X => St wF wD.heap.size mN t n p (L 3) (L 4) X) 56 (by kernel_rfl) (by kernel_rfl) (by kernel_rfl) (by kernel_rfl) ?h0st (fun _ => rfl) ?hopst ?hendst
                case h0st => exact Or.inl ⟨rfl, rfl, rfl⟩
                case hopst =>
                  rintro ⟨p3, p4⟩ LL i o az wz ho hLi hed hDC hR hd hf KK hK
                  have hin : i = 0 ∨ i = 1 ∨ i = 2 ∨ i = 3 ∨ i = 4 ∨ i = 5 := by
                    rcases Nat.lt_or_ge i 6 with h | h
                    · omega
                    · rw [Array.getElem?_eq_none h] at ho
                      cases ho
                  rcases hin with rfl | rfl | rfl | rfl | rfl | rfl
                  · simp only [List.getElem?_toArray, List.getElem?_cons_zero, Option.some.injEq] at ho
                    subst ho
                    have v0 : az.eval (.tmp 9) = .pointer (some ⟨pb2, 0, none⟩) := (hf 9 (by kernel_rfl)).trans (by kernel_rfl)
                    have u0 : az.tmps[9]?.getD undef = .pointer (some ⟨pb2, 0, none⟩) := by rw [← Array.getD_eq_getD_getElem?]; exact v0
                    clear v0
                    replace hK : ∀ (q : Value × Value) w', St wF wD.heap.size mN t n q (LL 3) (LL 4) w' → (∀ x, LL x = true → (([(some 45, .pointer (some ⟨pb2, 0, none⟩)), (some 46, .agg #[.iface TT (.pointer (some ⟨vb, 0, none⟩)), .int .i32 0]), (some 47, .int .i64 (mN : Nat)), (some 48, p3), (some 49, p4), (some 10, p4)] : List (Option Tmp × Value)).getD x (none, undef)).2 = (([(some 45, .pointer (some ⟨pb2, 0, none⟩)), (some 46, .agg #[.iface TT (.pointer (some ⟨vb, 0, none⟩)), .int .i32 0]), (some 47, .int .i64 (mN : Nat)), (some 48, q.1), (some 49, q.2), (some 10, q.2)] : List (Option Tmp × Value)).getD x (none, undef)).2) → KK (az.put (some 45) (.pointer (some ⟨pb2, 0, none⟩))) w' := hK
                    have HK2 := Lib.hid hK
                    have hR2 : St wF wD.heap.size mN t n (p3, p4) (LL 3) (LL 4) wz := hR
                    clear hK hd hf hed hDC
                    show if Region.wanted _ (yielded _ az.tmps) = true then Oper.wp _ _ az wz KK _ else _
                    go_simp
                    exact HK2.out (p3, p4) wz hR2 (fun _ _ => rfl)
                  · simp only [List.getElem?_toArray, List.getElem?_cons_zero, List.getElem?_cons_succ, Option.some.injEq] at ho
                    subst ho
                    have v0 : az.eval (.tmp 8) = .pointer (some ⟨xb, 0, none⟩) := (hf 8 (by kernel_rfl)).trans (by kernel_rfl)
                    have u0 : az.tmps[8]?.getD undef = .pointer (some ⟨xb, 0, none⟩) := by rw [← Array.getD_eq_getD_getElem?]; exact v0
                    clear v0
                    replace hK : ∀ (q : Value × Value) w', St wF wD.heap.size mN t n q (LL 3) (LL 4) w' → (∀ x, LL x = true → (([(some 45, .pointer (some ⟨pb2, 0, none⟩)), (some 46, .agg #[.iface TT (.pointer (some ⟨vb, 0, none⟩)), .int .i32 0]), (some 47, .int .i64 (mN : Nat)), (some 48, p3), (some 49, p4), (some 10, p4)] : List (Option Tmp × Value)).getD x (none, undef)).2 = (([(some 45, .pointer (some ⟨pb2, 0, none⟩)), (some 46, .agg #[.iface TT (.pointer (some ⟨vb, 0, none⟩)), .int .i32 0]), (some 47, .int .i64 (mN : Nat)), (some 48, q.1), (some 49, q.2), (some 10, q.2)] : List (Option Tmp × Value)).getD x (none, undef)).2) → KK (az.put (some 46) (.agg #[.iface TT (.pointer (some ⟨vb, 0, none⟩)), .int .i32 0])) w' := hK
                    have HK2 := Lib.hid hK
                    have h4 : LL 4 = false := by
                      cases h : LL 4 with
                      | false => rfl
                      | true => rw [hDC 4 1 h (by kernel_rfl)] at hLi; cases hLi
                    have hR2 : St wF wD.heap.size mN t n (p3, p4) (LL 3) (LL 4) wz := hR
                    have hbz := St.cell (h4 ▸ hR2)
                    obtain ⟨x0, x1, hxl⟩ := HX.out
                    have r0 := (cellLow (hbz.block _ hxl) _).trans x0
                    have r1 := (cellLow (hbz.block _ hxl) _).trans x1
                    have hy := Nat.lt_of_lt_of_le hxl hbz.size
                    have HR2 := hid hR2
                    clear hK hd hf hed hDC x0 x1 hxl hbz hR hR2
                    show if Region.wanted _ (yielded _ az.tmps) = true then Oper.wp _ _ az wz KK _ else _
                    go_simp
                    exact HK2.out (p3, p4) wz HR2.out (fun _ _ => rfl)
                  · simp only [List.getElem?_toArray, List.getElem?_cons_zero, List.getElem?_cons_succ, Option.some.injEq] at ho
                    subst ho
                    have v0 : az.eval (.tmp 2) = .int .i64 (mN : Nat) := (hf 2 (by kernel_rfl)).trans (by kernel_rfl)
                    have u0 : az.tmps[2]?.getD undef = .int .i64 (mN : Nat) := by rw [← Array.getD_eq_getD_getElem?]; exact v0
                    clear v0
                    replace hK : ∀ (q : Value × Value) w', St wF wD.heap.size mN t n q (LL 3) (LL 4) w' → (∀ x, LL x = true → (([(some 45, .pointer (some ⟨pb2, 0, none⟩)), (some 46, .agg #[.iface TT (.pointer (some ⟨vb, 0, none⟩)), .int .i32 0]), (some 47, .int .i64 (mN : Nat)), (some 48, p3), (some 49, p4), (some 10, p4)] : List (Option Tmp × Value)).getD x (none, undef)).2 = (([(some 45, .pointer (some ⟨pb2, 0, none⟩)), (some 46, .agg #[.iface TT (.pointer (some ⟨vb, 0, none⟩)), .int .i32 0]), (some 47, .int .i64 (mN : Nat)), (some 48, q.1), (some 49, q.2), (some 10, q.2)] : List (Option Tmp × Value)).getD x (none, undef)).2) → KK (az.put (some 47) (.int .i64 (mN : Nat))) w' := hK
                    have HK2 := Lib.hid hK
                    have hR2 : St wF wD.heap.size mN t n (p3, p4) (LL 3) (LL 4) wz := hR
                    clear hK hd hf hed hDC
                    show if Region.wanted _ (yielded _ az.tmps) = true then Oper.wp _ _ az wz KK _ else _
                    go_simp
                    exact HK2.out (p3, p4) wz hR2 (fun _ _ => rfl)
                  · simp only [List.getElem?_toArray, List.getElem?_cons_zero, List.getElem?_cons_succ, Option.some.injEq] at ho
                    subst ho
                    have v0 : az.eval (.tmp 47) = .int .i64 (mN : Nat) := hd 2 47 (by kernel_rfl) (by kernel_rfl)
                    have u0 : az.tmps[47]?.getD undef = .int .i64 (mN : Nat) := by rw [← Array.getD_eq_getD_getElem?]; exact v0
                    clear v0
                    replace hK : ∀ (q : Value × Value) w', St wF wD.heap.size mN t n q (true) (LL 4) w' → (∀ x, LL x = true → (([(some 45, .pointer (some ⟨pb2, 0, none⟩)), (some 46, .agg #[.iface TT (.pointer (some ⟨vb, 0, none⟩)), .int .i32 0]), (some 47, .int .i64 (mN : Nat)), (some 48, p3), (some 49, p4), (some 10, p4)] : List (Option Tmp × Value)).getD x (none, undef)).2 = (([(some 45, .pointer (some ⟨pb2, 0, none⟩)), (some 46, .agg #[.iface TT (.pointer (some ⟨vb, 0, none⟩)), .int .i32 0]), (some 47, .int .i64 (mN : Nat)), (some 48, q.1), (some 49, q.2), (some 10, q.2)] : List (Option Tmp × Value)).getD x (none, undef)).2) → KK (az.put (some 48) (q.1)) w' := hK
                    have HK2 := Lib.hid hK
                    have h4 : LL 4 = false := by
                      cases h : LL 4 with
                      | false => rfl
                      | true => rw [hDC 4 3 h (by kernel_rfl)] at hLi; cases hLi
                    have hR2 : St wF wD.heap.size mN t n (p3, p4) (LL 3) (LL 4) wz := hR
                    rw [hLi, h4] at hR2
                    have hv : ∀ (v : Value) x, LL x = true → (([(some 45, .pointer (some ⟨pb2, 0, none⟩)), (some 46, .agg #[.iface TT (.pointer (some ⟨vb, 0, none⟩)), .int .i32 0]), (some 47, .int .i64 (mN : Nat)), (some 48, p3), (some 49, p4), (some 10, p4)] : List (Option Tmp × Value)).getD x (none, undef)).2 = (([(some 45, .pointer (some ⟨pb2, 0, none⟩)), (some 46, .agg #[.iface TT (.pointer (some ⟨vb, 0, none⟩)), .int .i32 0]), (some 47, .int .i64 (mN : Nat)), (some 48, v), (some 49, p4), (some 10, p4)] : List (Option Tmp × Value)).getD x (none, undef)).2 := fun v x hx => by
                      match x with
                      | 0 => rfl
                      | 1 => rfl
                      | 2 => rfl
                      | 3 => rw [hLi] at hx; cases hx
                      | 4 => rfl
                      | 5 => rfl
                      | x + 6 => rfl
                    have hbz := St.cell hR2
                    have HV := hid (And.intro hbz (And.intro hv h4))
                    have CP := hid (pref mN HMN.out wz)
                    clear hK hd hf hed hDC hv hR hR2 hbz h4 hLi
                    show if Region.wanted _ (yielded _ az.tmps) = true then Oper.wp _ _ az wz KK _ else _
                    go_simp
                    refine CP.out.mono ?_
                    rintro e w' hq
                    obtain ⟨v, rfl, q1, q2, q3⟩ := hq.ex
                    obtain ⟨hbz, hv, h4⟩ := HV.out
                    exact HK2.out (v, p4) w' (by
                      rw [h4]
                      exact Or.inr (Or.inl ⟨rfl, rfl, q1, hbz.trans (q2.mono hbz.size), fun g hg => by have := q3 g hg; have := hbz.size; omega⟩)) (hv v)
                  · simp only [List.getElem?_toArray, List.getElem?_cons_zero, List.getElem?_cons_succ, Option.some.injEq] at ho
                    subst ho
                    have v0 : az.eval (.tmp 45) = .pointer (some ⟨pb2, 0, none⟩) := hd 0 45 (by kernel_rfl) (by kernel_rfl)
                    have u0 : az.tmps[45]?.getD undef = .pointer (some ⟨pb2, 0, none⟩) := by rw [← Array.getD_eq_getD_getElem?]; exact v0
                    clear v0
                    have v1 : az.eval (.tmp 46) = .agg #[.iface TT (.pointer (some ⟨vb, 0, none⟩)), .int .i32 0] := hd 1 46 (by kernel_rfl) (by kernel_rfl)
                    have u1 : az.tmps[46]?.getD undef = .agg #[.iface TT (.pointer (some ⟨vb, 0, none⟩)), .int .i32 0] := by rw [← Array.getD_eq_getD_getElem?]; exact v1
                    clear v1
                    have v2 : az.eval (.tmp 48) = p3 := hd 3 48 (by kernel_rfl) (by kernel_rfl)
                    have u2 : az.tmps[48]?.getD undef = p3 := by rw [← Array.getD_eq_getD_getElem?]; exact v2
                    clear v2
                    replace hK : ∀ (q : Value × Value) w', St wF wD.heap.size mN t n q (LL 3) (true) w' → (∀ x, LL x = true → (([(some 45, .pointer (some ⟨pb2, 0, none⟩)), (some 46, .agg #[.iface TT (.pointer (some ⟨vb, 0, none⟩)), .int .i32 0]), (some 47, .int .i64 (mN : Nat)), (some 48, p3), (some 49, p4), (some 10, p4)] : List (Option Tmp × Value)).getD x (none, undef)).2 = (([(some 45, .pointer (some ⟨pb2, 0, none⟩)), (some 46, .agg #[.iface TT (.pointer (some ⟨vb, 0, none⟩)), .int .i32 0]), (some 47, .int .i64 (mN : Nat)), (some 48, q.1), (some 49, q.2), (some 10, q.2)] : List (Option Tmp × Value)).getD x (none, undef)).2) → KK (az.put (some 49) (q.2)) w' := hK
                    have HK2 := Lib.hid hK
                    have h3 : LL 3 = true := hed 3 (by kernel_rfl)
                    have hR2 : St wF wD.heap.size mN t n (p3, p4) (LL 3) (LL 4) wz := hR
                    rw [hLi, h3] at hR2
                    have hG : OutS wz p3 mN (prefM mN) (fun _ => False) ∧ Below wF.heap.size wF wz ∧ ∀ g, p3.ownBlock = some g → wF.heap.size ≤ g := by
                      rcases hR2 with ⟨h, _⟩ | ⟨_, _, h⟩ | ⟨h, _⟩
                      · cases h
                      · exact h
                      · cases h
                    have h5 : LL 5 = false := by
                      cases h : LL 5 with
                      | false => rfl
                      | true => rw [hDC 5 4 h (by kernel_rfl)] at hLi; cases hLi
                    have hv : ∀ (v : Value) x, LL x = true → (([(some 45, .pointer (some ⟨pb2, 0, none⟩)), (some 46, .agg #[.iface TT (.pointer (some ⟨vb, 0, none⟩)), .int .i32 0]), (some 47, .int .i64 (mN : Nat)), (some 48, p3), (some 49, p4), (some 10, p4)] : List (Option Tmp × Value)).getD x (none, undef)).2 = (([(some 45, .pointer (some ⟨pb2, 0, none⟩)), (some 46, .agg #[.iface TT (.pointer (some ⟨vb, 0, none⟩)), .int .i32 0]), (some 47, .int .i64 (mN : Nat)), (some 48, p3), (some 49, v), (some 10, v)] : List (Option Tmp × Value)).getD x (none, undef)).2 := fun v x hx => by
                      match x with
                      | 0 => rfl
                      | 1 => rfl
                      | 2 => rfl
                      | 3 => rfl
                      | 4 => rw [hLi] at hx; cases hx
                      | 5 => rw [h5] at hx; cases hx
                      | x + 6 => rfl
                    have CZ := hid (HZL.out wz p3 hG.2.1 hG.1 hG.2.2)
                    have HV := hid (And.intro hv hG.2.1)
                    clear hK hd hf hed hDC hv hR hR2 hG h3 h5 hLi
                    show if Region.wanted _ (yielded _ az.tmps) = true then Oper.wp _ _ az wz KK _ else _
                    go_simp
                    refine CZ.out.mono ?_
                    rintro e w' hq
                    obtain ⟨v, n', P', rfl, q1, q2, q3⟩ := hq.ex
                    obtain ⟨hv, hbz⟩ := HV.out
                    exact HK2.out (p3, v) w' (Or.inr (Or.inr ⟨rfl, n', P', q1, q2, (hbz.mono HDF.out.size).trans q3⟩)) (hv v)
                  · simp only [List.getElem?_toArray, List.getElem?_cons_zero, List.getElem?_cons_succ, Option.some.injEq] at ho
                    subst ho
                    have v0 : az.eval (.tmp 49) = p4 := hd 4 49 (by kernel_rfl) (by kernel_rfl)
                    have u0 : az.tmps[49]?.getD undef = p4 := by rw [← Array.getD_eq_getD_getElem?]; exact v0
                    clear v0
                    replace hK : ∀ (q : Value × Value) w', St wF wD.heap.size mN t n q (LL 3) (LL 4) w' → (∀ x, LL x = true → (([(some 45, .pointer (some ⟨pb2, 0, none⟩)), (some 46, .agg #[.iface TT (.pointer (some ⟨vb, 0, none⟩)), .int .i32 0]), (some 47, .int .i64 (mN : Nat)), (some 48, p3), (some 49, p4), (some 10, p4)] : List (Option Tmp × Value)).getD x (none, undef)).2 = (([(some 45, .pointer (some ⟨pb2, 0, none⟩)), (some 46, .agg #[.iface TT (.pointer (some ⟨vb, 0, none⟩)), .int .i32 0]), (some 47, .int .i64 (mN : Nat)), (some 48, q.1), (some 49, q.2), (some 10, q.2)] : List (Option Tmp × Value)).getD x (none, undef)).2) → KK (az.put (some 10) (q.2)) w' := hK
                    have HK2 := Lib.hid hK
                    have hR2 : St wF wD.heap.size mN t n (p3, p4) (LL 3) (LL 4) wz := hR
                    clear hK hd hf hed hDC
                    show if Region.wanted _ (yielded _ az.tmps) = true then Oper.wp _ _ az wz KK _ else _
                    go_simp
                    exact HK2.out (p3, p4) wz hR2 (fun _ _ => rfl)
                rintro ⟨p3, p4⟩ LL wX hall hR
                have hG : ∃ n' P', OutS wX p4 n' (prefM mN ++ lowM n false t) P' ∧ n' ≤ 1000000 ∧ Below wD.heap.size wF wX := by
                  have h4 : LL 4 = true := hall 4 (by decide)
                  rcases hR with ⟨_, h, _⟩ | ⟨_, h, _⟩ | ⟨_, h⟩
                  · rw [h4] at h; cases h
                  · rw [h4] at h; cases h
                  · exact h
                clear hR hall
                obtain ⟨nX, PX, hG⟩ := hG
                have HG := hid hG
                obtain ⟨aX, cX, rfl, _⟩ : ∃ a c, p4 = .slice a nX c ∧ nX ≤ c := by
                  obtain ⟨xs, ho, _⟩ := hG.1.ru
                  exact own_shape ho
                clear hG
                simp only [List.foldl_cons, List.foldl_nil]
                simp only [Act.put, List.setIfInBounds_toArray, List.set_cons_zero, List.set_cons_succ]
                obtain ⟨hwD, hTD, htD⟩ := HD.out
                have hDX : Below wD.heap.size wD wX := HDF.out.trans HG.out.2.2
                have hTP : TreeP wX n par kd tb := TreeP.below ⟨kb, kc, cb, cc, ra, _, rc, pb, pc, htD, hTD⟩ hDX
                have HWX := hid (And.intro hTP (hwD.trans (hDX.mono hwD.size)))
                have CM := hid (mpref mN HMN.out wX)
                clear hwD hTD htD hDX hTP
                go_upto_region 17 with fail
                go_wp2_with fail
                refine CM.out.mono ?_
                rintro e wY hR
                obtain ⟨vm, rfl, m1, m2, m3⟩ := hR.ex
                obtain ⟨hlt, hkd, hk0, hcnt⟩ := HP.out
                have CT : Calls Tryz.prog 13 #[.pointer (some ⟨tb, 0, none⟩), .int .i64 0, vm] wY fun e w' => TopMR (prefM mN) (lowM n false (treeM par kd n n 0)) vm (fun _ => False) wY e w' := (both_m n par kd (by omega) hlt hkd tb n).1 0 wY vm mN (prefM mN) _ HN0.out (by omega) (HWX.out.1.below m2) m1 (by have := HMN.out; omega)
                have CT := hid CT
                have HY := hid (And.intro m2 m3)
                clear hR CM m1 m2 m3 hlt hkd hk0 hcnt
                go_wp2_with fail
                refine CT.out.mono ?_
                rintro e wZ hR
                obtain ⟨vz, nz, Pz, rfl, s1, s2, s3, s4⟩ := hR.ex
                obtain ⟨m2, m3⟩ := HY.out
                obtain ⟨hO, hn1, -⟩ := HG.out
                have hXZ : Below wX.heap.size wX wZ := below_grow m2 m2.size s2 m3
                rw [HTT.out.1] at hO
                have CS := hid (same_end (hO.below hXZ) s1 hn1)
                have HZ := hid (HWX.out.2.trans (hXZ.mono HWX.out.2.size))
                clear hR CT s1 s2 s3 s4 m2 m3 hO hn1 hXZ
                go_wp2_with fail
                refine CS.out.mono ?_
                rintro e wV hR
                obtain ⟨rfl, hV⟩ := hR.ex
                have HV := hid (HZ.out.trans (hV.mono HZ.out.size))
                clear hR CS hV
                go_wp2_with fail
                go_ret
                exact ⟨rfl, HV.out⟩
end Go.Proofs.YtjebnjjhdefejaaGreatFmt
