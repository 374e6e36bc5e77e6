/-
  The model of a lowering inside a style rule. Conditions: each theorem's own.
-/
import Derived.Test.YtjebnjjhdefejaaGreatFmtNc
namespace Go.Proofs.YtjebnjjhdefejaaGreatFmt
open Go.RowKit Go.Lib Go.ChangeMaps
theorem ctx_fin {d : Nat} {i : Int} {ts : List Tr} {w w' : World} {v' : Value} (q : FinR d i ts [] (.slice none 0 0) (fun _ => False) w v' w') (hF : (finM d i ts).length ≤ 1000000) : ∃ n' a c, v' = .slice a n' c ∧
    (n' = 0 → CtxMR false (lowM (d + 1) true (.mk i 2 ts)) w (.returned (.tuple #[.bool false, .slice none 0 0])) w') ∧
    (0 < n' → CtxMR false (lowM (d + 1) true (.mk i 2 ts)) w (.returned (.tuple #[.bool false, .slice (some ⟨w'.heap.size, 0, none⟩) 1 1])) (w'.alloc (.cells #[.int .i32 i, .int .i64 2, v'] 97))) := by
  obtain ⟨n', P', q1, q2, q3, q4⟩ := q.ex
  obtain ⟨a, c, e, _⟩ := q1.shape
  have hl := q1.len
  have hb : Below w.heap.size w w' := ⟨q2.os, q2.tape, q2.output, q2.size, fun g hg => q2.block g hg (by simp [Value.ownBlock])⟩
  rw [List.nil_append] at q1 hl
  refine ⟨n', a, c, e, fun h0 => ?_, fun h0 => ?_⟩
  · have he : finM d i ts = [] := List.length_eq_zero_iff.1 (by omega)
    exact ⟨_, 0, _, rfl, by rw [lowM_2, if_pos he]; exact OutD.nil w', hb, fun g hg => (by cases hg), fun g (hg : False) => hg.elim⟩
  · have he : finM d i ts ≠ [] := fun h => by rw [h] at hl; simp at hl; omega
    have hr := q1.row
    refine ⟨_, 1, _, rfl, by rw [lowM_2, if_neg he]; exact one_ownD (by rw [e]; rfl) hr hF (fun g hg => hg.elim (fun h => (q1.sP g h).1) (fun h => q1.ownlt h)), hb.alloc q2.size _, fun g hg => ?_, fun g hg => ?_⟩
    · have h1 : w'.heap.size = g := Option.some.inj hg
      have := q2.size
      omega
    · rcases hg with h | h
      · exact (q4 g h).elim (fun h => h.elim) id
      · rcases q3 with q | ⟨g', q, hq⟩
        · rw [q] at h; cases h
        · rw [q] at h; have := Option.some.inj h; omega
set_option maxHeartbeats 16000000 in
set_option maxRecDepth 100000 in
theorem ctx_m (n : Nat) (par : Nat → Option Nat) (kd : Nat → Nat) (hn : n ≤ 4096) (hlt : ∀ k p, par k = some p → p < k) (hkd : ∀ i, kd i ≤ 2) (tb d : Nat) (HT : MTop n par kd tb (d + 1)) (HC : MCtx n par kd tb d) : MCtx n par kd tb (d + 1) := by
  intro i w hi hd hT hk
  have HT := hid HT
  have HU := hid (And.intro hi (And.intro hd hT))
  obtain ⟨kb, kc, cb, cc, ra, rl, rc, pb, pc, ht, hTA⟩ := hT.ex
  obtain ⟨ks, hks⟩ : ∃ ks, ks = ofP par n (some i) := ⟨_, rfl⟩
  have hkl : ks.length ≤ n := by rw [hks]; exact ofP_len _ _ _
  obtain ⟨L, hL⟩ : ∃ L, L = ks.length := ⟨_, rfl⟩
  obtain ⟨K, hK⟩ : ∃ K, K = kd i := ⟨_, rfl⟩
  have hK2 : K ≤ 2 := by rw [hK]; exact hkd i
  obtain ⟨ca, cc', c1, hr1⟩ := hTA.kids i hi
  rw [← hks, ← hL] at c1 hr1
  have k0 := hTA.kind i hi
  rw [← hK] at k0
  obtain ⟨t0, _⟩ := hcell ht 0 _ rfl
  obtain ⟨t1, _⟩ := hcell ht 1 _ rfl
  have htl := heap_lt ht
  obtain ⟨hbl, hcl, _⟩ := hTA.lt
  have hi' : (i : Int) < (n : Int) := by omega
  have e5 : IntKind.i32.wrap (i : Int) = (i : Int) := by rw [IntKind.wrap_i32]; omega
  have hmod : treeM par kd n (d + 1) i = .mk (i : Int) K (ks.map (treeM par kd n d)) := by rw [hK, hks]; rfl
  have hcnt : cntT (d + 1) (treeM par kd n (d + 1) i) = 1 + cntTL d (ks.map (treeM par kd n d)) := by rw [hmod]; rfl
  have HM := hid hmod
  have HKK := hid hk
  rw [hcnt] at hk
  rw [hmod, ← hK]
  have hkids : ∀ c ∈ ks, c < n ∧ n ≤ c + d ∧ cntT d (treeM par kd n d c) ≤ cntTL d (ks.map (treeM par kd n d)) := fun c hc => by
    obtain ⟨h1, h2⟩ := mem_ofP.1 (hks ▸ hc)
    have := hlt c i h2
    refine ⟨h1, by omega, ?_⟩
    have h3 := mem_sum (f := fun c => cntT d (treeM par kd n d c)) ks hc
    show _ ≤ ((ks.map (treeM par kd n d)).map (cntT d)).sum
    rw [List.map_map]
    exact h3
  have HH := hid (And.intro True.intro (And.intro hT (And.intro hk (And.intro hkids (And.intro (And.intro hkl hn) (And.intro hL hr1))))))
  clear hkids hcnt hmod hks hT hTA hr1 hkl hk ht hd hkd hlt hn
  rcases (by omega : K = 0 ∨ K = 1 ∨ K = 2) with rfl | rfl | rfl
  · have HR := hid (show CtxMR true (lowM (d + 1) true (.mk (i : Int) 0 (ks.map (treeM par kd n d)))) w (.returned (.tuple #[.bool true, .slice none 0 0])) w from ⟨_, 0, _, rfl, by simpa [lowM] using OutD.nil w, Below.refl _ _, fun g hg => (by cases hg), fun g (hg : False) => hg.elim⟩)
    clear hK hK2 HC HT c1 t1 hL HU HM HKK
    go_enter Tryz.func20, Tryz.ntmps20
    go_wp2_with fail
    exact bodyPost_ret (v := .tuple #[.bool true, .slice none 0 0]) (by simp [results, Tryz.results20, go_sem]) rfl HR.out
  · have C := hid (HT.out i w (.slice none 0 0) 0 [] (fun _ => False) HU.out.1 HU.out.2.1 HU.out.2.2 (OutD.nil w) (by have := HKK.out; omega))
    rw [HM.out] at C
    clear hK hK2 HC HT c1 t1 hL HU HM HKK HH
    go_enter Tryz.func20, Tryz.ntmps20
    go_wp2_with fail
    refine C.out.mono ?_
    rintro e w1 hR
    obtain ⟨v, n', P', rfl, q1, q2, q3, q4⟩ := hR.ex
    have HR := hid (show CtxMR false (lowM (d + 1) true (.mk (i : Int) 1 (ks.map (treeM par kd n d)))) w (.returned (.tuple #[.bool false, v])) w1 from ⟨v, n', P', rfl, by rw [lowM_1] at q1 ⊢; simpa using q1, ⟨q2.os, q2.tape, q2.output, q2.size, fun g hg => q2.block g hg (by simp [Value.ownBlock])⟩, fun g hg => by
      rcases q3 with h | ⟨g', h, hq⟩
      · rw [h] at hg; cases hg
      · rw [h] at hg; have := Option.some.inj hg; omega, fun g hg => (q4 g hg).elim (fun h => h.elim) id⟩)
    clear hR C q1 q2 q3 q4
    go_wp2_with fail
    exact bodyPost_ret (v := .tuple #[.bool false, v]) (by simp [results, Tryz.results20, go_sem]) rfl HR.out
  · clear hK hK2 HT HU HM HKK
    have H0 := hid (show MdL d w ks (treeM par kd n d) L (.slice none 0 0) (.slice none 0 0) (.int .i64 0) w by rw [hL]; exact MdL.start _ _ _ _)
    have HCC := hid HC
    clear HC hL
    go_enter Tryz.func20, Tryz.ntmps20
    go_upto_region 9 with fail
    clear k0 t0 t1 c1 htl hbl hcl hi'
    go_loopg [6, 7, 35] L (fun g v6 v7 v35 wx => MdL d w ks (treeM par kd n d) g v6 v7 v35 wx)
    case atStart => exact H0.out
    case round =>
      obtain ⟨_hv, hT, hk, hkids, ⟨hkl, hn4⟩, hL, hr1⟩ := HH.out
      cases gk with
      | zero =>
        obtain ⟨pre, rest, _, _, _, he, hrg, rfl, _⟩ := hrel.ex
        obtain rfl : rest = [] := List.length_eq_zero_iff.1 hrg
        rw [List.append_nil] at he
        have hpl : pre.length = L := by rw [← he, ← hL]
        obtain ⟨KK, ka, kc', hvk, hKL, hKe, hz, hp⟩ := hrel.fin (OutD.nil w) (i : Int) (by omega) (by omega)
        subst hvk
        rw [hpl]
        have hcd : ¬ (L : Int) < (L : Int) := by omega
        have HE := hid (lowM_2 d (i : Int) (ks.map (treeM par kd n d)))
        have HF := hid (show (finM d (i : Int) (ks.map (treeM par kd n d))).length ≤ 1000000 by
          have h1 := flat_len d true (ks.map (treeM par kd n d))
          unfold finM
          rw [List.length_append]
          have hx : (if keptM (ks.map (treeM par kd n d)) = [] then [] else [Tr.mk (i : Int) 1 (keptM (ks.map (treeM par kd n d)))]).length ≤ 1 := by split <;> simp
          omega)
        have HFN := hid (fun (v' : Value) (w' : World) (q : FinR d (i : Int) (ks.map (treeM par kd n d)) [] (.slice none 0 0) (fun _ => False) w v' w') => ctx_fin (i := (i : Int)) q HF.out)
        clear hrel H0 _hv hT hk hkids hkl hn4 hL hr1 he hpl hrg hKL hKe HF HE
        by_cases hK : KK = 0
        · subst hK
          obtain ⟨v', w', q1, q2⟩ := hz rfl
          obtain ⟨n', a9, c9, rfl, r1, r2⟩ := HFN.out v' w' q2
          have HA := hid q1
          clear q1 q2 hz hp HFN
          by_cases hn0 : n' = 0
          · subst hn0
            have HR := hid (r1 rfl)
            clear r1 r2
            go_wp2_with (at_builtin; go_loud (refine list_run rfl _ _ 46 rfl (.slice none 0 0) u7 _ w' rfl rfl HA.out ?_))
            exact bodyPost_ret (v := .tuple #[.bool false, .slice none 0 0]) (by simp [results, Tryz.results20, go_sem]) rfl HR.out
          · have hc : ¬ (n' : Int) = 0 := by omega
            have HR := hid (r2 (by omega))
            clear r1 r2 hn0
            go_wp2_with (at_builtin; go_loud (refine list_run rfl _ _ 46 rfl (.slice none 0 0) u7 _ w' rfl rfl HA.out ?_))
            exact bodyPost_ret (v := .tuple #[.bool false, .slice (some ⟨w'.heap.size, 0, none⟩) 1 1]) (by simp [results, Tryz.results20, go_sem]) rfl HR.out
        · have hc : (0 : Int) < (KK : Int) := by omega
          obtain ⟨v2, w2, q1, ⟨a2, c2, rfl⟩, v', w', q2, q3⟩ := hp (by omega)
          obtain ⟨n', a9, c9, rfl, r1, r2⟩ := HFN.out v' w' q3
          have HA := hid q1
          have HB := hid q2
          clear q1 q2 q3 hz hp hK HFN
          go_upto_region 19 with (at_builtin; go_loud (refine list_run rfl _ _ 46 rfl (.slice none 0 0) (.slice (some ⟨wr.heap.size, 0, none⟩) 1 1) _ w2 rfl rfl HA.out ?_))
          clear hc
          by_cases hn0 : n' = 0
          · subst hn0
            have HR := hid (r1 rfl)
            clear r1 r2
            go_wp2_with (at_builtin; go_loud (refine list_run rfl _ _ 46 rfl (.slice a2 (0 + 1) c2) u7 _ w' rfl rfl HB.out ?_))
            exact bodyPost_ret (v := .tuple #[.bool false, .slice none 0 0]) (by simp [results, Tryz.results20, go_sem]) rfl HR.out
          · have hc : ¬ (n' : Int) = 0 := by omega
            have HR := hid (r2 (by omega))
            clear r1 r2 hn0
            go_wp2_with (at_builtin; go_loud (refine list_run rfl _ _ 46 rfl (.slice a2 (0 + 1) c2) u7 _ w' rfl rfl HB.out ?_))
            exact bodyPost_ret (v := .tuple #[.bool false, .slice (some ⟨w'.heap.size, 0, none⟩) 1 1]) (by simp [results, Tryz.results20, go_sem]) rfl HR.out
      | succ g =>
        obtain ⟨pre, rest, nk, na, Pa, he, hrg, rfl, p1, p2, p3, p4, p5, p6⟩ := hrel.ex
        obtain ⟨c, rest, rfl⟩ : ∃ c rs, rest = c :: rs := by
          cases rest with
          | nil => simp at hrg
          | cons t rs => exact ⟨t, rs, rfl⟩
        have hpl : pre.length < L := by rw [hL, he]; simp
        have hc : ((pre.length : Nat) : Int) < (L : Int) := by omega
        have e1 : IntKind.i64.wrap (((pre.length : Nat) : Int) + 1) = ((pre.length + 1 : Nat) : Int) := by rw [IntKind.wrap_i64]; omega
        have hcm : c ∈ ks := by rw [he]; simp
        obtain ⟨m1, m2, m3⟩ := hkids c hcm
        have hrr := hr1.below p3
        obtain ⟨cg, rfl, hcg, hcc⟩ := hrr.cellI (i := pre.length) (by simp; omega)
        have hkv : (ints ks)[pre.length]'(by simp; omega) = (c : Int) := by simp [he]
        rw [hkv] at hcc
        have hTr := hT.below p3
        have C := hid (HCC.out c wr m1 m2 hTr (by omega))
        have ec : IntKind.i32.wrap (c : Int) = (c : Int) := by rw [IntKind.wrap_i32]; omega
        have hgr : rest.length = g := by simpa using hrg
        have hd0 : 0 < d := by omega
        have hkk := treeM_kind par kd n d c hd0
        have hll := treeM_loc par kd n d c
        have hpl1 := p1.len
        have hpl2 := p2.len
        have hkm := keptM_len (pre.map (treeM par kd n d))
        rw [List.length_map] at hkm
        have hfl := flat_len d true (pre.map (treeM par kd n d))
        have hcl : cntTL d (pre.map (treeM par kd n d)) + cntT d (treeM par kd n d c) ≤ cntTL d (ks.map (treeM par kd n d)) := by
          rw [he]
          simp [cntTL]
        have hlm := lowM_len d true (treeM par kd n d c)
        obtain ⟨b, hb⟩ : ∃ b, b = decide (kd c = 0) := ⟨_, rfl⟩
        rw [← hb] at C
        have HS := hid (fun (w1 : World) (s : Value) (ns : Nat) (Ps : Nat → Prop) (q0 : b = true) (q1 : OutD w1 s ns (lowM d true (treeM par kd n d c)) Ps) (q2 : Below wr.heap.size wr w1) q3 q4 => MdL.stay he p1 p2 p3 p4 p5 p6 (hkk.trans (by rw [hb] at q0; exact of_decide_eq_true q0)) hll q1 q2 q3 q4 (by have := q1.len; omega) (by omega))
        have HN := hid (fun (w1 : World) (s : Value) (ns : Nat) (Ps : Nat → Prop) (q0 : b = false) (q1 : OutD w1 s ns (lowM d true (treeM par kd n d c)) Ps) (q2 : Below wr.heap.size wr w1) q4 => MdL.hoist he p1 p2 p3 p4 p5 p6 (by rw [hkk]; rw [hb] at q0; exact of_decide_eq_false q0) q1 q2 q4 (by have := q1.len; omega))
        rw [hgr] at HS HN
        obtain ⟨j, hj⟩ : ∃ j, j = pre.length := ⟨_, rfl⟩
        rw [← hj] at hc e1 hcc HS HN ⊢
        obtain ⟨ka, kc', rfl, _⟩ := p1.shape
        clear hrel H0 _hv hT hk hkids hkl hn4 hL hr1 he hrg p1 p2 p3 p4 p5 p6 hpl hcm m1 m2 m3 hrr hkv hTr hgr hd0 hkk hll hpl1 hpl2 hkm hfl hcl hlm hb hj
        cases b with
        | false =>
          clear HS ec
          go_upto_region 11 with fail
          clear hcc hcg hc
          go_wp2_with fail
          refine C.out.mono ?_
          rintro e w1 hR
          obtain ⟨s, ns, Ps, rfl, q1, q2, q3, q4⟩ := hR.ex
          obtain ⟨v3, w3, r1, r2⟩ := HN.out w1 s ns Ps (by trivial) q1 q2 q4
          have HA := hid r1
          have HR := hid r2
          clear hR C HN q1 q2 q3 q4 r1 r2
          go_wp2_with (at_builtin; go_loud (refine list_run rfl _ _ 46 rfl u7 s _ w3 rfl rfl HA.out ?_))
          go_roundg g
          case measure => omega
          case rel => exact HR.out
        | true =>
          clear HN
          go_upto_region 11 with fail
          clear hcc hcg hc
          go_wp2_with fail
          refine C.out.mono ?_
          rintro e w1 hR
          obtain ⟨s, ns, Ps, rfl, q1, q2, q3, q4⟩ := hR.ex
          obtain ⟨v2, w2, r1, ⟨a2, c2, rfl⟩, v3, w3, r2, r3⟩ := HS.out w1 s ns Ps (by trivial) q1 q2 q3 q4
          have HA := hid r1
          have HB := hid r2
          have HR := hid r3
          clear hR C HS q1 q2 q3 q4 r1 r2 r3
          go_upto_region 14 with (at_builtin; go_loud (refine list_run rfl _ _ 46 rfl (.slice ka nk kc') (.slice (some ⟨w1.heap.size, 0, none⟩) 1 1) _ w2 rfl rfl HA.out ?_))
          go_wp2_with (at_builtin; go_loud (refine list_run rfl _ _ 46 rfl u7 s _ w3 rfl rfl HB.out ?_))
          go_roundg g
          case measure => omega
          case rel => exact HR.out
theorem both_m (n : Nat) (par : Nat → Option Nat) (kd : Nat → Nat) (hn : n ≤ 4096) (hlt : ∀ k p, par k = some p → p < k) (hkd : ∀ i, kd i ≤ 2) (tb : Nat) : ∀ d, MTop n par kd tb d ∧ MCtx n par kd tb d
  | 0 => ⟨fun i w v k out P hi hd => absurd hd (by omega), fun i w hi hd => absurd hd (by omega)⟩
  | d + 1 => by
    obtain ⟨h1, h2⟩ := both_m n par kd hn hlt hkd tb d
    have h3 := top_m n par kd hn hlt hkd tb d h1 h2
    exact ⟨h3, ctx_m n par kd hn hlt hkd tb d h3 h2⟩
end Go.Proofs.YtjebnjjhdefejaaGreatFmt
