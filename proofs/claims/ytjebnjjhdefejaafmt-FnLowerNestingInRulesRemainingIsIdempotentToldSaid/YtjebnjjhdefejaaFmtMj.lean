/-
  A forest of rules built. Conditions: each theorem's own.
-/
import Derived.Test.YtjebnjjhdefejaaFmtMi
namespace Go.Proofs.YtjebnjjhdefejaaFmt
open Go.RowKit Go.Lib Go.ChangeMaps
structure FoR (d : Nat) (ts : List Tr) (w : World) (e : Ending) (w' : World) : Prop where
  ex : e = .returned (.slice (some ⟨w.heap.size, 0, none⟩) ts.length ts.length) ∧ KidsR (fun lo hi => InT d w' lo hi) w' w.heap.size w'.heap.size (.slice (some ⟨w.heap.size, 0, none⟩) ts.length ts.length) ts ∧ Below w.heap.size w w'
set_option maxHeartbeats 16000000 in
set_option maxRecDepth 100000 in
theorem fo9 (n : Nat) (par : Nat → Option Nat) (kd : Nat → Nat) (hn : n ≤ 4096) (hlt : ∀ k p, par k = some p → p < k) (hkd : ∀ i, kd i ≤ 2) (hk0 : ∀ i, kd i = 0 → ofP par n (some i) = []) (tb kb kc cb cc : Nat) (ra : Option Addr) (rl rc pb pc : Nat) (hrl : rl = (ofP par n none).length)
    (w : World) (hT : TreeAt w n par kd kb cb ra rc pb) (ht : w.heap[tb]? = some (.cells (treeC n kb kc cb cc ra rl rc pb pc) 30 (0, 0))) :
    Calls Tryf.prog 9 #[.pointer (some ⟨tb, 0, none⟩)] w fun e w' => FoR n ((ofP par n none).map (treeM par kd n n)) w e w' := by
  have IH := hid (bu17 n par kd hn hlt hkd hk0 tb kb kc cb cc ra rl rc pb pc n)
  obtain ⟨ks, hks⟩ : ∃ ks, ks = ofP par n none := ⟨_, rfl⟩
  have hkl : ks.length ≤ n := by rw [hks]; exact ofP_len _ _ _
  rw [← hks]
  rw [← hks] at hrl
  subst hrl
  obtain ⟨L, hL⟩ : ∃ L, L = ks.length := ⟨_, rfl⟩
  have hr := hT.roots
  rw [← hks] at hr
  have t1 := (hcell ht 2 _ rfl).1
  have htl := heap_lt ht
  obtain ⟨W2, hW2⟩ : ∃ X, X = w.alloc (mkO (.agg #[.nilIface, .int .i32 0]) (L * 2) 51) := ⟨_, rfl⟩
  have mk2 := mkS0 35 51 _ 2 24 Tryf.underlying35 info_RULE (by decide) L (by omega) w
  rw [← hW2] at mk2
  have hb2 : Below w.heap.size w W2 := by rw [hW2]; exact (Below.refl _ _).alloc (Nat.le_refl _) _
  have t2 := (cellLow (hb2.block _ htl) 2).trans t1
  have htl2 := heap_lt ((hb2.block _ htl).trans ht)
  have H0 := hid (show BuS n w (treeM par kd n n) ks L (.slice (some ⟨w.heap.size, 0, none⟩) 0 L) (.int .i64 0) W2 by
    rw [hW2, hL]
    exact BuS.start n w (treeM par kd n n) ks (by omega))
  have HT := hid (And.intro hT (And.intro ht (And.intro hr hb2)))
  have HK := hid (And.intro hks (And.intro hkl hL))
  rw [← hL] at t1 t2
  clear hlt hkd hk0 hT ht hks hkl hL hr hW2 hb2
  go_enter Tryf.func9, Tryf.ntmps9
  go_upto_region 2 with fail
  clear mk2 t1
  go_upto_region 3 with fail
  clear t2
  go_loopg [3, 17] L (fun g v3 v17 wx => BuS n w (treeM par kd n n) ks g v3 v17 wx)
  case atStart => exact H0.out
  case round =>
    obtain ⟨hT, ht, hr, hb2⟩ := HT.out
    cases gk with
    | zero =>
      obtain ⟨hv5, hK, hb⟩ := hrel.done
      obtain ⟨pre, rest, xs, he, hrg, rfl, _⟩ := hrel.ex
      obtain rfl : rest = [] := List.length_eq_zero_iff.1 hrg
      rw [List.append_nil] at he
      have hpl : pre.length = L := by rw [← he, ← HK.out.2.2]
      subst hv5
      rw [← HK.out.2.2] at hK ⊢
      rw [hpl]
      have HB := hid (And.intro hK hb)
      have hcd : ¬ (L : Int) < (L : Int) := by omega
      clear hrel H0 hrg he hpl hT ht hr hb2 hK hb
      go_wp2_with fail
      have hml : (ks.map (treeM par kd n n)).length = L := by rw [List.length_map, ← HK.out.2.2]
      exact bodyPost_ret (v := .slice (some ⟨w.heap.size, 0, none⟩) L L) (by simp [results, Tryf.results9, go_sem]) rfl ⟨by rw [hml], by rw [hml]; exact HB.out.1, HB.out.2⟩
    | succ g =>
      obtain ⟨pre, rest, xs, he, hrg, rfl, rfl, ho, hK, hb⟩ := hrel.ex
      obtain ⟨k, rest, rfl⟩ : ∃ k rs, rest = k :: rs := by
        cases rest with
        | nil => simp at hrg
        | cons t rs => exact ⟨t, rs, rfl⟩
      obtain ⟨hks, hkl', hL⟩ := HK.out
      have hpl : pre.length < L := by rw [hL, he]; simp
      have hc : ((pre.length : Nat) : Int) < (L : Int) := by omega
      have e1 : IntKind.i64.wrap (((pre.length : Nat) : Int) + 1) = ((pre.length + 1 : Nat) : Int) := by rw [IntKind.wrap_i64]; omega
      have hkm : k ∈ ofP par n none := by rw [← hks, he]; simp
      obtain ⟨hkn, hkp⟩ := mem_ofP.1 hkm
      have hrr := hr.below hb
      obtain ⟨cg, rfl, hcg, hcc⟩ := hrr.cellI (i := pre.length) (by simp; omega)
      have hkv : (ints ks)[pre.length]'(by simp; omega) = (k : Int) := by simp [he]
      rw [hkv] at hcc
      have htr := (hb.block _ htl).trans ht
      have hTr := hT.below (Nat.le_refl _) hb
      have C := hid (IH.out k wr hkn (by omega) hTr htr)
      have hgr : rest.length = g := by simpa using hrg
      have HN := hid (fun (w1 : World) (v : Value) (q1 : Below wr.heap.size wr w1) (q2 : InT n w1 wr.heap.size w1.heap.size v (treeM par kd n n k)) => BuS.next he ho hK hb q1 q2 (treeM_loc _ _ _ _ _))
      have HL := hid (And.intro hL hgr)
      obtain ⟨j, hj⟩ : ∃ j, j = pre.length := ⟨_, rfl⟩
      rw [← hL, ← hj] at HN
      rw [← hL]
      rw [← hj] at hc e1 hcc ⊢
      clear hrel H0 hT ht hr hb2 hks hkl' hL hpl hkm hkn hkp hrr hkv htr hTr ho hK hb he hj hgr hrg
      go_upto_region 5 with fail
      clear hcc hcg
      go_wp2_with fail
      refine C.out.mono ?_
      rintro e w1 hR
      obtain ⟨v, rfl, hTv, hb1⟩ := hR.ex
      obtain ⟨w3, ha, hn3⟩ := HN.out w1 v hb1 hTv
      obtain ⟨TT, vb, rfl⟩ := hTv.shape
      have HA := hid ha
      have HN3 := hid hn3
      clear hR C HN hTv hb1 ha hn3
      go_wp2_with (at_builtin; go_loud (refine list_run rfl _ _ 35 rfl (.slice (some ⟨w.heap.size, 0, none⟩) j L) (.slice (some ⟨w1.heap.size, 0, none⟩) 1 1) _ w3 rfl rfl HA.out ?_))
      rw [HL.out.2] at HN3
      go_roundg g
      case measure => omega
      case rel => exact HN3.out
end Go.Proofs.YtjebnjjhdefejaaFmt
