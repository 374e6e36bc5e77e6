/-
  A tree of rules built. Conditions: each theorem's own.
-/
import Derived.Test.YtjebnjjhdefejaaGreatFmtMh
namespace Go.Proofs.YtjebnjjhdefejaaGreatFmt
open Go.RowKit Go.Lib Go.ChangeMaps
structure BuR (d : Nat) (t : Tr) (l : Int) (w : World) (e : Ending) (w' : World) : Prop where
  ex : ∃ v, e = .returned (.agg #[v, .int .i32 l]) ∧ InT d w' w.heap.size w'.heap.size v t ∧ Below w.heap.size w w'
set_option maxHeartbeats 16000000 in
set_option maxRecDepth 100000 in
theorem bu17 (n : Nat) (par : Nat → Option Nat) (kd : Nat → Nat) (hn : n ≤ 4096) (hlt : ∀ k p, par k = some p → p < k) (hkd : ∀ i, kd i ≤ 2) (hk0 : ∀ i, kd i = 0 → ofP par n (some i) = []) (tb kb kc cb cc : Nat) (ra : Option Addr) (rl rc pb pc : Nat) :
    ∀ (d i : Nat) (w : World), i < n → n ≤ i + d → TreeAt w n par kd kb cb ra rc pb → w.heap[tb]? = some (.cells (treeC n kb kc cb cc ra rl rc pb pc) 30 (0, 0)) →
      Calls Tryz.prog 9 #[.pointer (some ⟨tb, 0, none⟩), .int .i64 (i : Int)] w fun e w' => BuR d (treeM par kd n d i) (i : Int) w e w'
  | 0, i, w, hi, hd, _, _ => by omega
  | d + 1, i, w, hi, hd, hT, ht => by
    have IH := hid (bu17 n par kd hn hlt hkd hk0 tb kb kc cb cc ra rl rc pb pc d)
    obtain ⟨W1, hW1⟩ : ∃ X, X = w.alloc (.cells #[.nilIface, .int .i32 0] 39) := ⟨_, rfl⟩
    have s1 : W1.heap.size = w.heap.size + 1 := by rw [hW1]; simp
    have hb1 : Below w.heap.size w W1 := by rw [hW1]; exact (Below.refl _ _).alloc (Nat.le_refl _) _
    have h1 : W1.heap[w.heap.size]? = some (.cells #[.nilIface, .int .i32 0] 39 (0, 0)) := by rw [hW1]; exact heap_alloc_new _ _
    obtain ⟨ks, hks⟩ : ∃ ks, ks = ofP par n (some i) := ⟨_, rfl⟩
    have hkl : ks.length ≤ n := by rw [hks]; exact ofP_len _ _ _
    obtain ⟨L, hL⟩ : ∃ L, L = ks.length := ⟨_, rfl⟩
    have hT1 := hT.below (Nat.le_refl _) hb1
    have ht1 := (hb1.block _ (heap_lt ht)).trans ht
    obtain ⟨ca, cc', c1, hr1⟩ := hT1.kids i hi
    rw [← hks, ← hL] at c1 hr1
    have t1 := (hcell ht1 1 _ rfl).1
    have htl1 := heap_lt ht1
    have hcl1 := hT1.lt.2.1
    obtain ⟨W2, hW2⟩ : ∃ X, X = W1.alloc (mkO (.agg #[.nilIface, .int .i32 0]) (L * 2) 39) := ⟨_, rfl⟩
    have mk2 := mkS0 43 39 _ 2 24 Tryz.underlying43 info_RULE (by decide) L (by omega) W1
    rw [← hW2] at mk2
    have hb2 : Below W1.heap.size W1 W2 := by rw [hW2]; exact (Below.refl _ _).alloc (Nat.le_refl _) _
    have t2 := (cellLow (hb2.block _ htl1) 1).trans t1
    have c2 := (cellLow (hb2.block _ hcl1) i).trans c1
    have htl2 := heap_lt ((hb2.block _ htl1).trans ht1)
    have hcl2 : cb < W2.heap.size := Nat.lt_of_lt_of_le hcl1 hb2.size
    have hi' : (i : Int) < (n : Int) := by omega
    have H0 := hid (show BuS d W1 (treeM par kd n d) ks L (.slice (some ⟨W1.heap.size, 0, none⟩) 0 L) (.int .i64 0) W2 by
      rw [hW2, hL]
      exact BuS.start d W1 (treeM par kd n d) ks (by omega))
    have HT := hid (And.intro hT1 (And.intro ht1 (And.intro hb1 (And.intro h1 (And.intro s1 (And.intro hr1 hb2))))))
    have HK := hid (And.intro hks (And.intro hkl hL))
    have HW := hid hW1
    have HP := hid (And.intro hlt (And.intro hkd hk0))
    clear hlt hkd hk0 hT ht hW1 s1 hb1 h1 hks hkl hL hT1 ht1 hr1 hW2 hb2
    go_enter Tryz.func9, Tryz.ntmps9
    go_upto_region 1 with fail
    rw [← HW.out]
    go_upto_region 2 with fail
    clear mk2 t1 c1
    go_upto_region 3 with fail
    clear t2 c2
    go_loopg [5, 25] L (fun g v5 v25 wx => BuS d W1 (treeM par kd n d) ks g v5 v25 wx)
    case atStart => exact H0.out
    case round =>
      obtain ⟨hT1, ht1, hb1, h1, s1, hr1, hb2⟩ := HT.out
      cases gk with
      | zero =>
        obtain ⟨hv5, hK, hb⟩ := hrel.done
        obtain ⟨pre, rest, xs, he, hrg, rfl, _⟩ := hrel.ex
        obtain rfl : rest = [] := List.length_eq_zero_iff.1 hrg
        rw [List.append_nil] at he
        have hpl : pre.length = L := by rw [← he, ← HK.out.2.2]
        subst hv5
        rw [← HK.out.2.2] at hK ⊢
        rw [hpl]
        clear hrel H0 hrg he hpl
        have hcd : ¬ (L : Int) < (L : Int) := by omega
        have htr := (hb.block _ htl1).trans ht1
        have hTr := hT1.below (Nat.le_refl _) hb
        have k0 := hTr.kind i hi
        have hkl := hTr.lt.1
        obtain ⟨t0, _⟩ := hcell htr 0 _ rfl
        have htrl := heap_lt htr
        have h1r := (hb.block _ (heap_lt h1)).trans h1
        have hbw : Below w.heap.size w wr := hb1.trans (hb.mono (by omega))
        obtain ⟨r0, r0f⟩ := hcell h1r 0 _ rfl
        obtain ⟨r1, r1f⟩ := hcell h1r 1 _ rfl
        have hrl := heap_lt h1r
        have e5 : IntKind.i32.wrap (i : Int) = (i : Int) := by rw [IntKind.wrap_i32]; omega
        have HB := hid (And.intro hK (And.intro hb (And.intro hbw (And.intro h1r s1))))
        obtain ⟨hlt, hkd, hk0⟩ := HP.out
        obtain ⟨hks, hkl', hL⟩ := HK.out
        clear hT1 ht1 hb1 h1 hr1 hb2 hK hb htr hTr hbw s1
        obtain ⟨K, hKK⟩ : ∃ K, K = kd i := ⟨_, rfl⟩
        rw [← hKK] at k0
        have hK2 := hkd i
        rw [← hKK] at hK2
        have hmod : treeM par kd n (d + 1) i = .mk (i : Int) K (ks.map (treeM par kd n d)) := by rw [hKK, hks]; rfl
        have HM := hid hmod
        have HE := hid (show K = 0 → ks = [] from fun h => hks.trans (hk0 i (by rw [← hKK]; exact h)))
        clear r0 r0f r1 r1f hrl
        rcases (by omega : K = 0 ∨ K = 1 ∨ K = 2) with rfl | rfl | rfl
        · have HE2 := hid (HE.out rfl)
          clear HE
          have C := hid (de23 (i : Int) wr)
          clear hlt hkd hk0 hks hkl' hL hKK hK2 hmod h1r
          go_wp2_with fail
          refine C.out.mono ?_
          rintro e w2 hR
          obtain ⟨b, rfl, hb2⟩ := hR.ex
          obtain ⟨hK, hb, hbw, h1r, s1⟩ := HB.out
          have h12 := (hb2.block _ (heap_lt h1r)).trans h1r
          obtain ⟨r0, r0f⟩ := hcell h12 0 _ rfl
          obtain ⟨r1, r1f⟩ := hcell h12 1 _ rfl
          have hrl := heap_lt h12
          have H2 := hid (And.intro hb2 h12)
          clear hR C hK hb hbw h1r s1 hb2 h12 k0 t0 e5
          go_wp2_with fail
          obtain ⟨hK, hb, hbw, h1r, s1⟩ := HB.out
          obtain ⟨hb2, h12⟩ := H2.out
          have hF := hset (hset h12 0 (.iface 103 (.pointer (some ⟨b, 0, none⟩)))) 1 (.int .i32 (i : Int))
          have f0 := (hcell hF 0 _ rfl).1
          have f1 := (hcell hF 1 _ rfl).1
          have hbF : Below w.heap.size w ((w2.setCell ⟨w.heap.size, 0, none⟩ (.iface 103 (.pointer (some ⟨b, 0, none⟩)))).setCell ⟨w.heap.size, 1, none⟩ (.int .i32 (i : Int))) := ((hbw.trans (hb2.mono hbw.size)).setCell (p := ⟨w.heap.size, 0, none⟩) (Nat.le_refl _) _).setCell (p := ⟨w.heap.size, 1, none⟩) (Nat.le_refl _) _
          rw [HM.out]
          exact bodyPost_ret (v := .agg #[.iface 103 (.pointer (some ⟨b, 0, none⟩)), .int .i32 (i : Int)]) (by simp [results, Tryz.results9, go_sem, f0, f1]) rfl ⟨_, rfl, Or.inl ⟨rfl, by rw [HE2.out]; rfl, b, rfl⟩, hbF⟩
        · clear HE
          have C := hid (sl24 (i : Int) (some ⟨W1.heap.size, 0, none⟩) L L wr)
          clear hlt hkd hk0 hks hkl' hL hKK hK2 hmod h1r
          go_wp2_with fail
          refine C.out.mono ?_
          rintro e w2 hR
          obtain ⟨b, sb, g, rfl, q1, q2, q3, q4, q5, q6, hb2⟩ := hR.ex
          obtain ⟨hK, hb, hbw, h1r, s1⟩ := HB.out
          have h12 := (hb2.block _ (heap_lt h1r)).trans h1r
          obtain ⟨r0, r0f⟩ := hcell h12 0 _ rfl
          obtain ⟨r1, r1f⟩ := hcell h12 1 _ rfl
          have hrl := heap_lt h12
          have hwl := heap_lt h1r
          rw [s1] at hK q3
          have hF := hset (hset h12 0 (.iface 110 (.pointer (some ⟨b, 0, none⟩)))) 1 (.int .i32 (i : Int))
          have f0 := (hcell hF 0 _ rfl).1
          have f1 := (hcell hF 1 _ rfl).1
          have H2 := hid (InT.style (v0 := .iface 110 (.pointer (some ⟨b, 0, none⟩))) (v1 := .int .i32 (i : Int)) (i := (i : Int)) hK hbw hb2 hwl q1 q3 q4 q5 q6)
          have HF := hid (And.intro f0 f1)
          clear hR C hK hb hbw h1r s1 hb2 h12 k0 t0 e5 q1 q2 q3 q4 q5 q6 hwl hF f0 f1
          go_wp2_with fail
          obtain ⟨f0, f1⟩ := HF.out
          rw [HM.out]
          exact bodyPost_ret (v := .agg #[.iface 110 (.pointer (some ⟨b, 0, none⟩)), .int .i32 (i : Int)]) (by simp [results, Tryz.results9, go_sem, f0, f1]) rfl ⟨_, rfl, H2.out.1, H2.out.2⟩
        · clear HE
          have C := hid (ka25 (i : Int) (some ⟨W1.heap.size, 0, none⟩) L L wr)
          clear hlt hkd hk0 hks hkl' hL hKK hK2 hmod h1r
          go_wp2_with fail
          refine C.out.mono ?_
          rintro e w2 hR
          obtain ⟨b, arr, rfl, q1, q3, q4, q5, hb2⟩ := hR.ex
          obtain ⟨hK, hb, hbw, h1r, s1⟩ := HB.out
          have h12 := (hb2.block _ (heap_lt h1r)).trans h1r
          obtain ⟨r0, r0f⟩ := hcell h12 0 _ rfl
          obtain ⟨r1, r1f⟩ := hcell h12 1 _ rfl
          have hrl := heap_lt h12
          have hwl := heap_lt h1r
          rw [s1] at hK
          have hF := hset (hset h12 0 (.iface 115 (.pointer (some ⟨b, 0, none⟩)))) 1 (.int .i32 (i : Int))
          have f0 := (hcell hF 0 _ rfl).1
          have f1 := (hcell hF 1 _ rfl).1
          rw [s1] at q4
          have H2 := hid (InT.atrule (v0 := .iface 115 (.pointer (some ⟨b, 0, none⟩))) (v1 := .int .i32 (i : Int)) (i := (i : Int)) hK hbw hb2 hwl q1 q3 q4 q5)
          have HF := hid (And.intro f0 f1)
          clear hR C hK hb hbw h1r s1 hb2 h12 k0 t0 e5 q1 q3 q4 q5 hwl hF f0 f1
          go_wp2_with fail
          obtain ⟨f0, f1⟩ := HF.out
          rw [HM.out]
          exact bodyPost_ret (v := .agg #[.iface 115 (.pointer (some ⟨b, 0, none⟩)), .int .i32 (i : Int)]) (by simp [results, Tryz.results9, go_sem, f0, f1]) rfl ⟨_, rfl, H2.out.1, H2.out.2⟩
      | succ g =>
        obtain ⟨pre, rest, xs, he, hrg, rfl, rfl, ho, hK, hb⟩ := hrel.ex
        obtain ⟨k, rest, rfl⟩ : ∃ k rs, rest = k :: rs := by
          cases rest with
          | nil => simp at hrg
          | cons t rs => exact ⟨t, rs, rfl⟩
        obtain ⟨hks, hkl', hL⟩ := HK.out
        obtain ⟨hlt, hkd, hk0⟩ := HP.out
        have hpl : pre.length < L := by rw [hL, he]; simp
        have hc : ((pre.length : Nat) : Int) < (L : Int) := by omega
        have e1 : IntKind.i64.wrap (((pre.length : Nat) : Int) + 1) = ((pre.length + 1 : Nat) : Int) := by rw [IntKind.wrap_i64]; omega
        have hkm : k ∈ ofP par n (some i) := by rw [← hks, he]; simp
        obtain ⟨hkn, hkp⟩ := mem_ofP.1 hkm
        have hik := hlt k i hkp
        have hrr := hr1.below hb
        obtain ⟨cg, rfl, hcg, hcc⟩ := hrr.cellI (i := pre.length) (by simp; omega)
        have hkv : (ints ks)[pre.length]'(by simp; omega) = (k : Int) := by simp [he]
        rw [hkv] at hcc
        have htr := (hb.block _ htl1).trans ht1
        have hTr := hT1.below (Nat.le_refl _) hb
        have C := hid (IH.out k wr hkn (by omega) hTr htr)
        have hgr : rest.length = g := by simpa using hrg
        have HN := hid (fun (w1 : World) (v : Value) (q1 : Below wr.heap.size wr w1) (q2 : InT d w1 wr.heap.size w1.heap.size v (treeM par kd n d k)) => BuS.next he ho hK hb q1 q2 (treeM_loc _ _ _ _ _))
        have HL := hid (And.intro hL hgr)
        obtain ⟨j, hj⟩ : ∃ j, j = pre.length := ⟨_, rfl⟩
        have S1 := hid s1
        rw [← hL, ← hj] at HN
        rw [← hL]
        rw [← hj] at hc e1 hcc ⊢
        clear hrel H0 hT1 ht1 hb1 h1 s1 hr1 hb2 hks hkl' hL hlt hkd hk0 hpl hkm hkn hkp hik hrr hkv htr hTr ho hK hb he hj hgr hrg
        go_upto_region 5 with fail
        clear hcc hcg
        go_wp2_with fail
        refine C.out.mono ?_
        rintro e w1 hR
        obtain ⟨v, rfl, hTv, hb1⟩ := hR.ex
        obtain ⟨w3, ha, hn3⟩ := HN.out w1 v hb1 hTv
        obtain ⟨TT, vb, rfl⟩ := hTv.shape
        have HA := hid ha
        have HN3 := hid hn3
        clear hR C HN hTv hb1 ha hn3
        go_wp2_with (at_builtin; go_loud (refine list_run rfl _ _ 43 rfl (.slice (some ⟨W1.heap.size, 0, none⟩) j L) (.slice (some ⟨w1.heap.size, 0, none⟩) 1 1) _ w3 rfl rfl HA.out ?_))
        rw [HL.out.2] at HN3
        go_roundg g
        case measure => omega
        case rel => exact HN3.out
end Go.Proofs.YtjebnjjhdefejaaGreatFmt
