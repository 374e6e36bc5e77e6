/-
  The tree of numbers read from the input. Conditions: each theorem's own.
-/
import Derived.Test.YtjebnjjhdefejaaGreatFmtMc
namespace Go.Proofs.YtjebnjjhdefejaaGreatFmt
open Go.RowKit Go.Lib Go.ChangeMaps
set_option maxHeartbeats 16000000 in
set_option maxRecDepth 100000 in
theorem sh7 (f : Bool) (a0 a1 : Option Addr) (n m k0 k1 : Nat) (z0 z1 : List Int) (w : World) (hn : n ≤ 4096) (hm : m ≤ 4096) (r0 : Row .u8 w a0 n z0) (r1 : Row .u16 w a1 m z1) :
    Calls Tryz.prog 7 #[.slice a0 n k0, .slice a1 m k1, .bool f] w fun e w' => ShR n (parF f z1 m) (kdF (parF f z1 m) n z0) w e w' := by
  obtain ⟨par, hpar⟩ : ∃ par, par = parF f z1 m := ⟨_, rfl⟩
  rw [← hpar]
  have hlt : ∀ k p, par k = some p → p < k := fun k p h => parF_lt (by rw [← hpar]; exact h)
  obtain ⟨W1, hW1⟩ : ∃ X, X = w.alloc (.cells #[.slice none 0 0, .slice none 0 0, .slice none 0 0, .slice none 0 0] 30) := ⟨_, rfl⟩
  have hw1 : Below w.heap.size w W1 := by rw [hW1]; exact (Below.refl _ _).alloc (Nat.le_refl _) _
  have h1r : W1.heap[w.heap.size]? = some (.cells #[.slice none 0 0, .slice none 0 0, .slice none 0 0, .slice none 0 0] 30 (0, 0)) := by rw [hW1]; exact heap_alloc_new _ _
  have s1 : W1.heap.size = w.heap.size + 1 := by rw [hW1]; simp
  obtain ⟨W2, hW2⟩ : ∃ X, X = W1.alloc (mkO (.slice none 0 0) (n * 1) 27) := ⟨_, rfl⟩
  have hw2 : Below W1.heap.size W1 W2 := by rw [hW2]; exact (Below.refl _ _).alloc (Nat.le_refl _) _
  have s2 : W2.heap.size = W1.heap.size + 1 := by rw [hW2]; simp
  obtain ⟨arr, h2a, h2s, h2c⟩ := made_cells (.slice none 0 0) rfl n 27 W1
  rw [← hW2] at h2a
  have mk2 := mkSn 28 27 _ 1 24 Tryz.underlying28 info_INTS (by decide) n (by omega) W1
  rw [← hW2] at mk2
  obtain ⟨W3, hW3⟩ : ∃ X, X = W2.alloc (mkO (.int .i64 0) (n * 1) 3) := ⟨_, rfl⟩
  have hw3 : Below W2.heap.size W2 W3 := by rw [hW3]; exact (Below.refl _ _).alloc (Nat.le_refl _) _
  have s3 : W3.heap.size = W2.heap.size + 1 := by rw [hW3]; simp
  obtain ⟨parr, h3a, h3s, h3c⟩ := made_cells (.int .i64 0) rfl n 3 W2
  rw [← hW3] at h3a
  have mk3 := mkSn 27 3 _ 1 8 Tryz.underlying27 info_I64 (by decide) n (by omega) W2
  rw [← hW3] at mk3
  have h31 := (hw3.block _ (heap_lt ((hw2.block _ (heap_lt h1r)).trans h1r))).trans ((hw2.block _ (heap_lt h1r)).trans h1r)
  have h32 := (hw3.block _ (heap_lt h2a)).trans h2a
  have hw13 : Below w.heap.size w W3 := hw1.trans ((hw2.mono (by omega)).trans (hw3.mono (by omega)))
  rw [s1] at h32 mk2
  rw [s2, s1] at h3a mk3
  have H0 := hid (show Sh1 w n par n (.slice none 0 0) (.int .i64 0) W3 from ⟨0, fun _ => .slice none 0 0, by omega, rfl, rfl, RowsP.start _ _ _ _, ⟨arr, h32, h2s, h2c⟩, ⟨parr, h3a, h3s, fun i hi => by omega⟩, h31, hw13⟩)
  have HR := hid (And.intro r0 (And.intro r1 (And.intro hlt hpar)))
  have HW := hid (And.intro hW1 (And.intro hW2 hW3))
  clear hlt hpar hW1 hw1 h1r s1 hW2 hw2 s2 h2a h2s h2c hW3 hw3 s3 h3a h3s h3c h31 h32 hw13 r0 r1
  go_enter Tryz.func7, Tryz.ntmps7
  go_upto_region 2 with fail
  rw [← HW.out.1]
  go_upto_region 3 with fail
  clear mk2
  go_upto_region 4 with fail
  clear mk3
  go_upto_region 6 with fail
  go_loopg [10, 11] n (fun g v10 v11 wx => Sh1 w n par g v10 v11 wx)
  case atStart => exact H0.out
  case round =>
    obtain ⟨k, V, hkg, rfl, hv10, hD⟩ := hrel.ex
    clear hrel H0
    obtain ⟨r0, r1, hlt, hpar⟩ := HR.out
    obtain ⟨ra, rc, hVn, _⟩ := own_shape (hD.rows.own none (fun p e => by cases e)).1
    obtain rfl := hv10.trans hVn
    clear hv10
    cases gk with
    | zero =>
      obtain rfl : k = n := by omega
      have hcd : ¬ (k : Int) < (k : Int) := by omega
      obtain ⟨W4, hW4⟩ : ∃ X, X = wr := ⟨_, rfl⟩
      subst hW4
      obtain ⟨karr, m1, m2, m3⟩ := made_cells (.int .i64 0) rfl k 3 W4
      obtain ⟨W5, hW5⟩ : ∃ X, X = W4.alloc (mkO (.int .i64 0) (k * 1) 3) := ⟨_, rfl⟩
      rw [← hW5] at m1
      have mk5 := mkSn 27 3 _ 1 8 Tryz.underlying27 info_I64 (by decide) k (by omega) W4
      rw [← hW5] at mk5
      have hb5 : Below W4.heap.size W4 W5 := by rw [hW5]; exact (Below.refl _ _).alloc (Nat.le_refl _) _
      have H2 := hid (show Sh2 W4 k (kdF par k z0) k (.int .i64 0) W5 from ⟨0, karr, by omega, rfl, m1, m2, (fun i hi => by omega), hb5⟩)
      have HD := hid (And.intro hD (And.intro hVn r0))
      clear hD hVn r0 r1 hlt hpar m1 m2 m3 hW5 hb5 hkg
      go_upto_region 23 with fail
      clear mk5
      go_upto_region 24 with fail
      clear hcd
      go_loopg [15] k (fun g v15 wx => Sh2 W4 k (kdF par k z0) g v15 wx)
      case atStart => exact H2.out
      case round =>
        obtain ⟨j, karr, hjg, rfl, q1, q2, q3, hb⟩ := hrel.ex
        clear hrel H2
        cases gk with
        | zero =>
          obtain rfl : j = k := by omega
          have hcd : ¬ (j : Int) < (j : Int) := by omega
          obtain ⟨hD, hVn, r0⟩ := HD.out
          have hres := (hb.block _ (heap_lt hD.res)).trans hD.res
          obtain ⟨x0, x0f⟩ := hcell hres 0 _ rfl
          obtain ⟨x1, x1f⟩ := hcell hres 1 _ rfl
          obtain ⟨x2, x2f⟩ := hcell hres 2 _ rfl
          obtain ⟨x3, x3f⟩ := hcell hres 3 _ rfl
          have hxl := heap_lt hres
          obtain ⟨WF, hWF⟩ : ∃ X, X = (((wr.setCell ⟨w.heap.size, 0, none⟩ (.slice (some ⟨W4.heap.size, 0, none⟩) j j)).setCell ⟨w.heap.size, 1, none⟩ (.slice (some ⟨w.heap.size + 1, 0, none⟩) j j)).setCell ⟨w.heap.size, 2, none⟩ (.slice ra (ofP par j none).length rc)).setCell ⟨w.heap.size, 3, none⟩ (.slice (some ⟨w.heap.size + 1 + 1, 0, none⟩) j j) := ⟨_, rfl⟩
          have o1 := os_set wr ⟨w.heap.size, 0, none⟩ (.slice (some ⟨W4.heap.size, 0, none⟩) j j)
          have o2 := os_ch o1 ⟨w.heap.size, 1, none⟩ (.slice (some ⟨w.heap.size + 1, 0, none⟩) j j)
          have o3 := os_ch o2 ⟨w.heap.size, 2, none⟩ (.slice ra (ofP par j none).length rc)
          have o4 := os_ch o3 ⟨w.heap.size, 3, none⟩ (.slice (some ⟨w.heap.size + 1 + 1, 0, none⟩) j j)
          rw [← hWF] at o4
          have hfin := hD.tree (WF := WF) (kd := kdF par j z0) hb q1 q3 (fun g hg => by rw [hWF]; exact (hother _ _ _ hg).trans ((hother _ _ _ hg).trans ((hother _ _ _ hg).trans (hother _ _ _ hg)))) (by rw [hWF]; simp [World.setCell]) o4 hVn
          have HFIN := hid hfin
          have hresF : WF.heap[w.heap.size]? = some (.cells (treeC j W4.heap.size j (w.heap.size + 1) j ra (ofP par j none).length rc (w.heap.size + 1 + 1) j) 30 (0, 0)) := by
            rw [hWF]
            exact hset (hset (hset (hset hres 0 _) 1 _) 2 _) 3 _
          have f0 := (hcell hresF 0 _ rfl).1
          have f1 := (hcell hresF 1 _ rfl).1
          have f2 := (hcell hresF 2 _ rfl).1
          have f3 := (hcell hresF 3 _ rfl).1
          have HWF := hid hWF
          have HQ := hid (And.intro f0 (And.intro f1 (And.intro f2 f3)))
          clear hD hVn r0 hres o1 o2 o3 o4 hfin hresF hWF q1 q2 q3 hb hjg f0 f1 f2 f3
          go_wp2_with fail
          rw [← HWF.out]
          obtain ⟨f0, f1, f2, f3⟩ := HQ.out
          exact bodyPost_ret (v := .agg (treeC j W4.heap.size j (w.heap.size + 1) j ra (ofP par j none).length rc (w.heap.size + 1 + 1) j)) (by simp [results, Tryz.results7, go_sem, f0, f1, f2, f3]) rfl ⟨_, _, _, _, _, _, _, _, rfl, HFIN.out.1, HFIN.out.2⟩
        | succ g =>
          have hc : (j : Int) < (k : Int) := by omega
          have hcn : j < k := by omega
          have e1 : IntKind.i64.wrap ((j : Int) + 1) = ((j + 1 : Nat) : Int) := by rw [IntKind.wrap_i64]; omega
          obtain ⟨hD, hVn, r0⟩ := HD.out
          have r0' := (r0.below (Nat.le_refl _) hD.bel).below (Nat.le_refl _) (show Below W4.heap.size W4 wr from hb)
          obtain ⟨b0, o0, rfl, lo0, qq⟩ := r0'.cell (by omega)
          have c0 := qq j hcn
          obtain ⟨y0, y1⟩ := wf_u8 (r0'.wf j hcn)
          obtain ⟨x, hx⟩ : ∃ x : Nat, z0.getD j 0 = (x : Int) := ⟨(z0.getD j 0).toNat, by omega⟩
          rw [hx] at c0 y1
          have hkd : kdF par k z0 j = if x % 3 = 0 ∧ 0 < (ofP par k (some j)).length then 1 else x % 3 := by
            unfold kdF
            rw [hx]
            simp
          obtain ⟨arr, a1, a2, a3⟩ := hD.kids
          obtain ⟨ca, cc, hVj, _⟩ := own_shape (hD.rows.own (some j) (fun p q => by injection q with q; omega)).1
          have kx := (hcell ((hb.block _ (heap_lt a1)).trans a1) j _ ((a3 j hcn).trans (by rw [hVj]))).1
          have hkx := heap_lt ((hb.block _ (heap_lt a1)).trans a1)
          have e3 : (x : Int) % 3 = ((x % 3 : Nat) : Int) := by simp
          have e7 : IntKind.i64.wrap ((x % 3 : Nat) : Int) = ((x % 3 : Nat) : Int) := by rw [IntKind.wrap_i64]; omega
          obtain ⟨w0, hw0⟩ : ∃ y, karr[j]? = some y := ⟨_, Array.getElem?_eq_getElem (by omega)⟩
          obtain ⟨s0, s0f⟩ := hcell q1 j _ hw0
          have hsl := heap_lt q1
          obtain ⟨L, hL⟩ : ∃ L, L = (ofP par k (some j)).length := ⟨_, rfl⟩
          rw [← hL] at kx hkd
          obtain ⟨Y, hY⟩ : ∃ Y, Y = x % 3 := ⟨_, rfl⟩
          rw [← hY] at hkd e3 e7
          have HQ := hid (And.intro q1 (And.intro q2 (And.intro q3 hb)))
          have HKD := hid hkd
          clear hD hVn r0 r0' qq y0 y1 hx hkd a1 a2 a3 hVj hw0 q1 q2 q3 hb hL hY
          go_upto_region 27 with fail
          clear e3 e7 c0 lo0
          by_cases hY0 : Y = 0
          · by_cases hL0 : 0 < L
            · have HZ := hid (show ((kdF par k z0 j : Nat) : Int) = 1 by rw [HKD.out, if_pos ⟨hY0, hL0⟩]; rfl)
              have hb0 : ((Y : Int) == 0) = true := by rw [hY0]; rfl
              have hL1 : (0 : Int) < (L : Int) := by omega
              have HY := hid hY0
              clear hY0
              go_wp2_with fail
              go_roundg g
              case measure => omega
              case rel => exact Sh2.next hjg HQ.out.1 HQ.out.2.1 HQ.out.2.2.1 HQ.out.2.2.2 HZ.out
            · have HZ := hid (show ((kdF par k z0 j : Nat) : Int) = (Y : Int) by rw [HKD.out, if_neg (fun q => hL0 q.2)])
              have hb0 : ((Y : Int) == 0) = true := by rw [hY0]; rfl
              have hL1 : ¬ (0 : Int) < (L : Int) := by omega
              have HY := hid hY0
              clear hY0
              go_wp2_with fail
              go_roundg g
              case measure => omega
              case rel => exact Sh2.next hjg HQ.out.1 HQ.out.2.1 HQ.out.2.2.1 HQ.out.2.2.2 HZ.out
          · have HZ := hid (show ((kdF par k z0 j : Nat) : Int) = (Y : Int) by rw [HKD.out, if_neg (fun q => hY0 q.1)])
            have hb0 : ((Y : Int) == 0) = false := by rw [beq_eq_false_iff_ne]; omega
            have HY := hid hY0
            clear hY0
            go_wp2_with fail
            go_roundg g
            case measure => omega
            case rel => exact Sh2.next hjg HQ.out.1 HQ.out.2.1 HQ.out.2.2.1 HQ.out.2.2.2 HZ.out
    | succ g =>
      have hc : (k : Int) < (n : Int) := by omega
      have hcn : k < n := by omega
      have e1 : IntKind.i64.wrap ((k : Int) + 1) = ((k + 1 : Nat) : Int) := by rw [IntKind.wrap_i64]; omega
      have HD := hid (And.intro hD (And.intro hVn hkg))
      clear hD hVn hkg hlt r0 r1
      have hp1 : parV (par k) = parV (parF f z1 m k) := by rw [hpar]
      have HP := hid (And.intro hpar hp1)
      clear hpar hp1
      go_upto_if 31 with fail
      go_cut [12] (fun v wx => ShV (pvF z1 m k : Nat) wr v wx)
      case first =>
        by_cases hkm : k < m
        · have hkm' : (k : Int) < (m : Int) := by omega
          have r1 := HR.out.2.1.below (Nat.le_refl _) HD.out.1.bel
          obtain ⟨b1, o1, rfl, lo1, q1⟩ := r1.cell (by omega)
          have c1 := q1 k hkm
          obtain ⟨y0, y1⟩ := wf_u16 (r1.wf k hkm)
          obtain ⟨x, hx⟩ : ∃ x : Nat, z1.getD k 0 = (x : Int) := ⟨(z1.getD k 0).toNat, by omega⟩
          rw [hx] at c1 y1
          have e7 : IntKind.i64.wrap (x : Int) = (x : Int) := by rw [IntKind.wrap_i64]; omega
          have hpv := hid (show ((pvF z1 m k : Nat) : Int) = x by unfold pvF; rw [if_pos hkm, hx]; simp)
          clear q1 r1 hx y0 y1
          go_wp2_with fail
          go_meet
          exact ⟨by rw [hpv.out], rfl⟩
        · have hkm' : ¬ (k : Int) < (m : Int) := by omega
          have hpv := hid (show ((pvF z1 m k : Nat) : Int) = 0 by unfold pvF; rw [if_neg hkm]; rfl)
          go_wp2_with fail
          go_meet
          exact ⟨by rw [hpv.out], rfl⟩
      case rest =>
        obtain ⟨rfl, hwc⟩ := hcut.ex
        obtain rfl := hwc.symm
        clear hcut
        obtain ⟨X, hX⟩ : ∃ X, X = pvF z1 m k := ⟨_, rfl⟩
        rw [← hX]
        have HX := hid hX
        clear hX
        go_upto_if 37 with fail
        go_cut [13] (fun v wx => ShV (parV (par k)) wr v wx)
        case first =>
          cases f with
          | true =>
            have eY : (X : Int) % ((k : Int) + 1) = ((X % (k + 1) : Nat) : Int) := by simp
            have hP := HP.out.2
            unfold parF at hP
            rw [if_pos rfl, ← HX.out] at hP
            go_upto_if 44 with fail
            rw [eY]
            clear eY
            by_cases he : X % (k + 1) = k
            · rw [if_pos he] at hP
              have HP2 := hid hP
              clear hP
              have hb : (((X % (k + 1) : Nat) : Int) == (k : Int)) = true := by rw [he]; simp
              have HE := hid he
              clear he
              generalize ((X % (k + 1) : Nat) : Int) = Y at *
              go_wp2_with fail
              go_meet
              exact ⟨by rw [HP2.out]; rfl, rfl⟩
            · rw [if_neg he] at hP
              have HP2 := hid hP
              clear hP
              have hb : (((X % (k + 1) : Nat) : Int) == (k : Int)) = false := by
                rw [beq_eq_false_iff_ne]
                omega
              have HE := hid he
              clear he
              have HY := hid (show ((X % (k + 1) : Nat) : Int) = parV (some (X % (k + 1))) from rfl)
              generalize ((X % (k + 1) : Nat) : Int) = Y at *
              go_wp2_with fail
              go_meet
              exact ⟨by rw [HP2.out, HY.out], rfl⟩
          | false =>
            have hP := HP.out.2
            unfold parF at hP
            rw [if_neg (by decide), ← HX.out] at hP
            by_cases hk0 : 0 < k
            · have eY : (X : Int) % (k : Int) = ((X % k : Nat) : Int) := by simp
              have hk0' : (0 : Int) < (k : Int) := by omega
              have hk1 : (k : Int) ≠ 0 := by omega
              rw [if_pos hk0] at hP
              have HP2 := hid hP
              clear hP
              have HY := hid (show ((X % k : Nat) : Int) = parV (some (X % k)) from rfl)
              have HE := hid eY
              clear eY
              go_wp2_with fail
              rw [HE.out]
              go_meet
              exact ⟨by rw [HP2.out, HY.out], rfl⟩
            · have hk0' : ¬ (0 : Int) < (k : Int) := by omega
              rw [if_neg hk0] at hP
              have HP2 := hid hP
              clear hP
              go_wp2_with fail
              go_meet
              exact ⟨by rw [HP2.out]; rfl, rfl⟩
        case rest =>
          obtain ⟨rfl, hwc2⟩ := hcut.ex
          obtain rfl := hwc2.symm
          clear hcut
          obtain ⟨hD, hVn, hkg⟩ := HD.out
          obtain ⟨r0, r1, hlt, hpar⟩ := HR.out
          obtain ⟨v', w6, ha, hg6, hr6, av, cv, hv'⟩ := hD.own hcn hn (fun p h => by have := hlt k p h; omega)
          obtain ⟨parr, q1, q2, q3⟩ := hD.pars
          obtain ⟨arr, b1, b2, b3⟩ := hD.kids
          obtain ⟨xp, hxp⟩ : ∃ x, parr[k]? = some x := ⟨_, Array.getElem?_eq_getElem (by omega)⟩
          obtain ⟨p1, p1f⟩ := hcell q1 k _ hxp
          have hps := heap_lt q1
          have hVk := hD.rows.own (par k) (fun p h => by have := hlt k p h; omega)
          obtain ⟨W5, hW5⟩ : ∃ X, X = wr.setCell ⟨w.heap.size + 1 + 1, k, none⟩ (.int .i64 (parV (par k))) := ⟨_, rfl⟩
          have hz5 : W5.heap.size = wr.heap.size := by rw [hW5]; simp [World.setCell]
          rw [← hW5] at ha hg6
          have h5k : W5.heap[w.heap.size + 1]? = some (.cells arr 27 (0, 0)) := by rw [hW5]; exact (hother _ _ _ (by omega)).trans b1
          have HW5 := hid hW5
          cases hp : par k with
          | none =>
            rw [hp] at ha hv' HW5
            rw [hVn] at ha
            rw [show parV none = (-1 : Int) from rfl] at HW5 ⊢
            have HA := hid ha
            have HN := hid (show ShD w n par (k + 1) (fun o => if o = par k then v' else V o) w6 from hD.toRoot hcn hp (by rw [← hW5]; exact hg6) hr6)
            have HPK := hid hp
            obtain rfl := hv'
            clear hD hVn hlt hpar r0 r1 ha hg6 hr6 q1 q2 q3 b1 b2 b3 hxp hVk hW5 h5k hp hz5
            go_upto_region 19 with fail
            rw [← HW5.out]
            clear p1 p1f hps HX
            go_wp2_with (at_builtin; go_loud (refine list_run rfl _ _ 27 rfl (.slice ra (ofP par k none).length rc) (.slice (some ⟨W5.heap.size, 0, none⟩) 1 1) _ w6 rfl rfl HA.out ?_))
            go_roundg g
            case measure => omega
            case rel => exact ⟨k + 1, _, by omega, rfl, by rw [HPK.out]; rfl, HN.out⟩
          | some p =>
            rw [hp] at ha hv' HW5 hVk
            rw [show parV (some p) = (p : Int) from rfl] at HW5 ⊢
            have hpk := hlt k p hp
            have hpn : p < n := by omega
            obtain ⟨qa, qc, hVp, _⟩ := own_shape hVk.1
            rw [hVp] at ha
            have HA := hid ha
            have HN := hid (show ShD w n par (k + 1) (fun o => if o = par k then v' else V o) (w6.setCell ⟨w.heap.size + 1, p, none⟩ v') from hD.toKid hcn hp hpn (by rw [← hW5]; exact hg6) hr6)
            have HPK := hid hp
            obtain rfl := hv'
            have hg0 : (0 : Int) ≤ (p : Int) := by omega
            have hpn' : (p : Int) < (n : Int) := by omega
            have k5 := (hcell h5k p _ ((b3 p hpn).trans (by rw [hVp]))).1
            have hk5 := heap_lt h5k
            have h6k : w6.heap[w.heap.size + 1]? = some (.cells arr 27 (0, 0)) := (hg6.block _ (by omega) (fun e => by
              rw [hp] at e
              have := hVk.2 _ e.symm
              omega)).trans h5k
            obtain ⟨k6, k6f⟩ := hcell h6k p _ (b3 p hpn)
            have hk6 := heap_lt h6k
            have HVN := hid hVn
            clear hD hVn hlt hpar r0 r1 ha hg6 hr6 q1 q2 q3 b1 b2 b3 hxp hVk hW5 h5k hp h6k hVp hz5
            go_upto_region 19 with fail
            rw [← HW5.out]
            clear p1 p1f hps HX
            go_wp2_with (at_builtin; go_loud (refine list_run rfl _ _ 27 rfl (.slice qa (ofP par k (some p)).length qc) (.slice (some ⟨W5.heap.size, 0, none⟩) 1 1) _ w6 rfl rfl HA.out ?_))
            go_roundg g
            case measure => omega
            case rel => exact ⟨k + 1, _, by omega, rfl, by rw [HPK.out]; simp [HVN.out], HN.out⟩
end Go.Proofs.YtjebnjjhdefejaaGreatFmt
