/-
  The model of an at-rule's and a style rule's lowering. Conditions: each theorem's own.
-/
import Derived.Test.YtjebnjjhdefejaaGreatFmtNb
namespace Go.Proofs.YtjebnjjhdefejaaGreatFmt
open Go.RowKit Go.Lib Go.ChangeMaps
theorem lowM_1 (d : Nat) (b : Bool) (l : Int) (ts : List Tr) : lowM (d + 1) b (.mk l 1 ts) = finM d l ts := by simp [lowM, finM]
theorem lowM_2 (d : Nat) (l : Int) (ts : List Tr) : lowM (d + 1) true (.mk l 2 ts) = if finM d l ts = [] then [] else [.mk l 2 (finM d l ts)] := by simp [lowM, finM]
theorem treeM_kind (par : Nat → Option Nat) (kd : Nat → Nat) (n d i : Nat) (h : 0 < d) : (treeM par kd n d i).kind = kd i := by
  cases d with
  | zero => omega
  | succ d => rfl
theorem treeM_succ (par : Nat → Option Nat) (kd : Nat → Nat) (n d i : Nat) : treeM par kd n (d + 1) i = .mk (i : Int) (kd i) ((ofP par n (some i)).map (treeM par kd n d)) := rfl
theorem mem_sum {f : Nat → Nat} {c : Nat} : ∀ (l : List Nat), c ∈ l → f c ≤ (l.map f).sum
  | [], h => by cases h
  | a :: l, h => by
    rcases List.mem_cons.1 h with rfl | h
    · simp
    · have := mem_sum (f := f) l h
      simp only [List.map_cons, List.sum_cons]
      omega
set_option maxHeartbeats 16000000 in
set_option maxRecDepth 100000 in
theorem top_m (n : Nat) (par : Nat → Option Nat) (kd : Nat → Nat) (hn : n ≤ 4096) (hlt : ∀ k p, par k = some p → p < k) (hkd : ∀ i, kd i ≤ 2) (tb d : Nat) (HT : MTop n par kd tb d) (HC : MCtx n par kd tb d) : MTop n par kd tb (d + 1) := by
  intro i w v k out P hi hd hT hv hk
  obtain ⟨kb, kc, cb, cc, ra, rl, rc, pb, pc, ht, hTA⟩ := hT.ex
  obtain ⟨ks, hks⟩ : ∃ ks, ks = ofP par n (some i) := ⟨_, rfl⟩
  have hkl : ks.length ≤ n := by rw [hks]; exact ofP_len _ _ _
  obtain ⟨L, hL⟩ : ∃ L, L = ks.length := ⟨_, rfl⟩
  obtain ⟨K, hK⟩ : ∃ K, K = kd i := ⟨_, rfl⟩
  have hK2 : K ≤ 2 := by rw [hK]; exact hkd i
  obtain ⟨ca, cc', c1, hr1⟩ := hTA.kids i hi
  rw [← hks, ← hL] at c1 hr1
  have k0 := hTA.kind i hi
  rw [← hK] at k0
  obtain ⟨t0, _⟩ := hcell ht 0 _ rfl
  obtain ⟨t1, _⟩ := hcell ht 1 _ rfl
  have htl := heap_lt ht
  obtain ⟨hbl, hcl, _⟩ := hTA.lt
  have hi' : (i : Int) < (n : Int) := by omega
  have e5 : IntKind.i32.wrap (i : Int) = (i : Int) := by rw [IntKind.wrap_i32]; omega
  have hmod : treeM par kd n (d + 1) i = .mk (i : Int) K (ks.map (treeM par kd n d)) := by rw [hK, hks]; rfl
  have hcnt : cntT (d + 1) (treeM par kd n (d + 1) i) = 1 + cntTL d (ks.map (treeM par kd n d)) := by rw [hmod]; rfl
  rw [hcnt] at hk
  rw [hmod]
  obtain ⟨va, vc, rfl, _⟩ := hv.shape
  have hkids : ∀ c ∈ ks, c < n ∧ n ≤ c + d ∧ cntT d (treeM par kd n d c) ≤ cntTL d (ks.map (treeM par kd n d)) := fun c hc => by
    obtain ⟨h1, h2⟩ := mem_ofP.1 (hks ▸ hc)
    have := hlt c i h2
    refine ⟨h1, by omega, ?_⟩
    have h3 := mem_sum (f := fun c => cntT d (treeM par kd n d c)) ks hc
    show _ ≤ ((ks.map (treeM par kd n d)).map (cntT d)).sum
    rw [List.map_map]
    exact h3
  have HH := hid (And.intro hv (And.intro hT (And.intro hk (And.intro hkids (And.intro (And.intro hkl hn) (And.intro hL hr1))))))
  clear hkids hcnt hmod hks hT hTA hr1 hkl hk ht hd hkd hlt hn
  rcases (by omega : K = 0 ∨ K = 1 ∨ K = 2) with rfl | rfl | rfl
  · clear hK hK2
    obtain ⟨v', w', q1, q2, q3, q4⟩ := app_oneD (kids := []) (P2 := fun _ => False) HH.out.1 (i : Int) 0 (kv := .slice none 0 0) rfl (RowL.nil _ _ _ _) (by simp) (fun g h => h.elim) (by have := HH.out.2.2.1; omega)
    have HA := hid q1
    have HR := hid (show TopMR out (lowM (d + 1) false (.mk (i : Int) 0 (ks.map (treeM par kd n d)))) (.slice va k vc) P w (.returned v') w' from ⟨v', k + 1, _, rfl, by simpa [lowM] using q2, q3, q4, fun g (hg : P g ∨ False) => hg.elim Or.inl (fun h => h.elim)⟩)
    obtain ⟨a9, c9, rfl, _⟩ := q2.shape
    clear q1 q2 q3 q4 hv HT HC c1 t1 hL
    go_enter Tryz.func13, Tryz.ntmps13
    go_wp2_with (at_builtin; go_loud (refine list_run rfl _ _ 46 rfl (.slice va k vc) (.slice (some ⟨w.heap.size, 0, none⟩) 1 1) _ w' rfl rfl HA.out ?_))
    exact bodyPost_ret (v := .slice a9 (k + 1) c9) (by simp [results, Tryz.results13, go_sem]) rfl HR.out
  · clear hK hK2 HT hv
    have H0 := hid (show MdL d w ks (treeM par kd n d) L (.slice none 0 0) (.slice none 0 0) (.int .i64 0) w by rw [hL]; exact MdL.start _ _ _ _)
    have HCC := hid HC
    clear HC hL
    go_enter Tryz.func13, Tryz.ntmps13
    go_upto_region 15 with fail
    clear k0 t0 t1 c1 htl hbl hcl hi'
    go_loopg [10, 11, 65] L (fun g v10 v11 v65 wx => MdL d w ks (treeM par kd n d) g v10 v11 v65 wx)
    case atStart => exact H0.out
    case round =>
      obtain ⟨hv, hT, hk, hkids, ⟨hkl, hn4⟩, hL, hr1⟩ := HH.out
      cases gk with
      | zero =>
        obtain ⟨pre, rest, _, _, _, he, hrg, rfl, _⟩ := hrel.ex
        obtain rfl : rest = [] := List.length_eq_zero_iff.1 hrg
        rw [List.append_nil] at he
        have hpl : pre.length = L := by rw [← he, ← hL]
        obtain ⟨KK, ka, kc', hvk, hKL, hKe, hz, hp⟩ := hrel.fin hv (i : Int) (by omega) (by omega)
        subst hvk
        rw [hpl]
        have hcd : ¬ (L : Int) < (L : Int) := by omega
        have HE := hid (lowM_1 d false (i : Int) (ks.map (treeM par kd n d)))
        clear hrel H0 hv hT hk hkids hkl hn4 hL hr1 he hpl hrg hKL hKe
        by_cases hK : KK = 0
        · subst hK
          obtain ⟨v', w', q1, q2⟩ := hz rfl
          have HA := hid q1
          have HQ := hid q2
          obtain ⟨n', P', q3, _⟩ := q2.ex
          obtain ⟨a9, c9, rfl, _⟩ := q3.shape
          clear q1 q2 q3 hz hp
          go_wp2_with (at_builtin; go_loud (refine list_run rfl _ _ 46 rfl (.slice va k vc) u11 _ w' rfl rfl HA.out ?_))
          exact bodyPost_ret (v := .slice a9 n' c9) (by simp [results, Tryz.results13, go_sem]) rfl (by
            obtain ⟨n', P', q3, q4, q5, q6⟩ := HQ.out.ex
            rw [HE.out]
            exact ⟨_, n', P', rfl, q3, q4, q5, q6⟩)
        · have hc : (0 : Int) < (KK : Int) := by omega
          obtain ⟨v2, w2, q1, ⟨a2, c2, rfl⟩, v', w', q2, q3⟩ := hp (by omega)
          have HA := hid q1
          have HB := hid q2
          have HQ := hid q3
          obtain ⟨n', P', q4, _⟩ := q3.ex
          obtain ⟨a9, c9, rfl, _⟩ := q4.shape
          clear q1 q2 q3 q4 hz hp hK
          go_upto_region 24 with (at_builtin; go_loud (refine list_run rfl _ _ 46 rfl (.slice va k vc) (.slice (some ⟨wr.heap.size, 0, none⟩) 1 1) _ w2 rfl rfl HA.out ?_))
          go_wp2_with (at_builtin; go_loud (refine list_run rfl _ _ 46 rfl (.slice a2 (k + 1) c2) u11 _ w' rfl rfl HB.out ?_))
          exact bodyPost_ret (v := .slice a9 n' c9) (by simp [results, Tryz.results13, go_sem]) rfl (by
            obtain ⟨n', P', q3, q4, q5, q6⟩ := HQ.out.ex
            rw [HE.out]
            exact ⟨_, n', P', rfl, q3, q4, q5, q6⟩)
      | succ g =>
        obtain ⟨pre, rest, nk, na, Pa, he, hrg, rfl, p1, p2, p3, p4, p5, p6⟩ := hrel.ex
        obtain ⟨c, rest, rfl⟩ : ∃ c rs, rest = c :: rs := by
          cases rest with
          | nil => simp at hrg
          | cons t rs => exact ⟨t, rs, rfl⟩
        have hpl : pre.length < L := by rw [hL, he]; simp
        have hc : ((pre.length : Nat) : Int) < (L : Int) := by omega
        have e1 : IntKind.i64.wrap (((pre.length : Nat) : Int) + 1) = ((pre.length + 1 : Nat) : Int) := by rw [IntKind.wrap_i64]; omega
        have hcm : c ∈ ks := by rw [he]; simp
        obtain ⟨m1, m2, m3⟩ := hkids c hcm
        have hrr := hr1.below p3
        obtain ⟨cg, rfl, hcg, hcc⟩ := hrr.cellI (i := pre.length) (by simp; omega)
        have hkv : (ints ks)[pre.length]'(by simp; omega) = (c : Int) := by simp [he]
        rw [hkv] at hcc
        have hTr := hT.below p3
        have C := hid (HCC.out c wr m1 m2 hTr (by omega))
        have ec : IntKind.i32.wrap (c : Int) = (c : Int) := by rw [IntKind.wrap_i32]; omega
        have hgr : rest.length = g := by simpa using hrg
        have hd0 : 0 < d := by omega
        have hkk := treeM_kind par kd n d c hd0
        have hll := treeM_loc par kd n d c
        have hpl1 := p1.len
        have hpl2 := p2.len
        have hkm := keptM_len (pre.map (treeM par kd n d))
        rw [List.length_map] at hkm
        have hfl := flat_len d true (pre.map (treeM par kd n d))
        have hcl : cntTL d (pre.map (treeM par kd n d)) + cntT d (treeM par kd n d c) ≤ cntTL d (ks.map (treeM par kd n d)) := by
          rw [he]
          simp [cntTL]
        have hlm := lowM_len d true (treeM par kd n d c)
        obtain ⟨b, hb⟩ : ∃ b, b = decide (kd c = 0) := ⟨_, rfl⟩
        rw [← hb] at C
        have HS := hid (fun (w1 : World) (s : Value) (ns : Nat) (Ps : Nat → Prop) (q0 : b = true) (q1 : OutD w1 s ns (lowM d true (treeM par kd n d c)) Ps) (q2 : Below wr.heap.size wr w1) q3 q4 => MdL.stay he p1 p2 p3 p4 p5 p6 (hkk.trans (by rw [hb] at q0; exact of_decide_eq_true q0)) hll q1 q2 q3 q4 (by have := q1.len; omega) (by omega))
        have HN := hid (fun (w1 : World) (s : Value) (ns : Nat) (Ps : Nat → Prop) (q0 : b = false) (q1 : OutD w1 s ns (lowM d true (treeM par kd n d c)) Ps) (q2 : Below wr.heap.size wr w1) q4 => MdL.hoist he p1 p2 p3 p4 p5 p6 (by rw [hkk]; rw [hb] at q0; exact of_decide_eq_false q0) q1 q2 q4 (by have := q1.len; omega))
        rw [hgr] at HS HN
        obtain ⟨j, hj⟩ : ∃ j, j = pre.length := ⟨_, rfl⟩
        rw [← hj] at hc e1 hcc HS HN ⊢
        obtain ⟨ka, kc', rfl, _⟩ := p1.shape
        clear hrel H0 hv hT hk hkids hkl hn4 hL hr1 he hrg p1 p2 p3 p4 p5 p6 hpl hcm m1 m2 m3 hrr hkv hTr hgr hd0 hkk hll hpl1 hpl2 hkm hfl hcl hlm hb hj
        cases b with
        | false =>
          clear HS ec
          go_upto_region 17 with fail
          clear hcc hcg hc
          go_wp2_with fail
          refine C.out.mono ?_
          rintro e w1 hR
          obtain ⟨s, ns, Ps, rfl, q1, q2, q3, q4⟩ := hR.ex
          obtain ⟨v3, w3, r1, r2⟩ := HN.out w1 s ns Ps (by trivial) q1 q2 q4
          have HA := hid r1
          have HR := hid r2
          clear hR C HN q1 q2 q3 q4 r1 r2
          go_wp2_with (at_builtin; go_loud (refine list_run rfl _ _ 46 rfl u11 s _ w3 rfl rfl HA.out ?_))
          go_roundg g
          case measure => omega
          case rel => exact HR.out
        | true =>
          clear HN
          go_upto_region 17 with fail
          clear hcc hcg hc
          go_wp2_with fail
          refine C.out.mono ?_
          rintro e w1 hR
          obtain ⟨s, ns, Ps, rfl, q1, q2, q3, q4⟩ := hR.ex
          obtain ⟨v2, w2, r1, ⟨a2, c2, rfl⟩, v3, w3, r2, r3⟩ := HS.out w1 s ns Ps (by trivial) q1 q2 q3 q4
          have HA := hid r1
          have HB := hid r2
          have HR := hid r3
          clear hR C HS q1 q2 q3 q4 r1 r2 r3
          go_upto_region 20 with (at_builtin; go_loud (refine list_run rfl _ _ 46 rfl (.slice ka nk kc') (.slice (some ⟨w1.heap.size, 0, none⟩) 1 1) _ w2 rfl rfl HA.out ?_))
          go_wp2_with (at_builtin; go_loud (refine list_run rfl _ _ 46 rfl u11 s _ w3 rfl rfl HB.out ?_))
          go_roundg g
          case measure => omega
          case rel => exact HR.out
  · clear hK hK2 HC hv
    have H0 := hid (show LsI d w ks (treeM par kd n d) L (.slice none 0 0) (.int .i64 0) w by rw [hL]; exact LsI.start _ _ _ _)
    have HTT := hid HT
    clear HT hL
    go_enter Tryz.func13, Tryz.ntmps13
    go_upto_region 7 with fail
    clear k0 t0 t1 c1 htl hbl hcl hi'
    go_loopg [7, 41] L (fun g v7 v41 wx => LsI d w ks (treeM par kd n d) g v7 v41 wx)
    case atStart => exact H0.out
    case round =>
      obtain ⟨hv, hT, hk, hkids, ⟨hkl, hn4⟩, hL, hr1⟩ := HH.out
      obtain ⟨pre, rest, nl, Pl, he, hrg, rfl, p1, p2, p3, p4⟩ := hrel.ex
      cases gk with
      | zero =>
        obtain rfl : rest = [] := List.length_eq_zero_iff.1 hrg
        rw [List.append_nil] at he
        subst he
        have hfl := flat_len d false (ks.map (treeM par kd n d))
        have hvr := hv.below p2
        have hpl := p1.len
        obtain ⟨la, lc, rfl, _⟩ := p1.shape
        obtain ⟨v', w', q1, q2, q3, q4⟩ := app_oneD hvr (i : Int) 2 (kv := .slice la nl lc) rfl p1.row (by omega) (fun g hg => by
          rcases hg with h | h
          · exact ⟨(p1.sP g h).1, fun e => by have := p4 g h; have := hv.ownlt e.symm; omega⟩
          · exact ⟨p1.ownlt h, fun e => by have := p3 g h; have := hv.ownlt e.symm; omega⟩) (by omega)
        have hs := p2.size
        rw [← hL]
        have hcd : ¬ (L : Int) < (L : Int) := by omega
        have HA := hid q1
        have HR := hid (show TopMR out (lowM (d + 1) false (.mk (i : Int) 2 (ks.map (treeM par kd n d)))) (.slice va k vc) P w (.returned v') w' from ⟨v', k + 1, _, rfl, by simpa [lowM] using q2, ⟨q3.os.trans p2.os, q3.tape.trans p2.tape, q3.output.trans p2.output, by have := q3.size; omega, fun g hg hr => (q3.block g (by omega) hr).trans (p2.block g hg)⟩, q4.imp id fun ⟨g, h, hq⟩ => ⟨g, h, by omega⟩, fun g hg => by
          rcases hg with h | h | h
          · exact Or.inl h
          · exact Or.inr (p4 g h)
          · exact Or.inr (p3 g h)⟩)
        obtain ⟨a9, c9, rfl, _⟩ := q2.shape
        clear hrel H0 hv hT hk hkids hkl hn4 hL hr1 hrg p1 p2 p3 p4 hfl hvr hpl q1 q2 q3 q4 hs
        go_wp2_with (at_builtin; go_loud (refine list_run rfl _ _ 46 rfl (.slice va k vc) (.slice (some ⟨wr.heap.size, 0, none⟩) 1 1) _ w' rfl rfl HA.out ?_))
        exact bodyPost_ret (v := .slice a9 (k + 1) c9) (by simp [results, Tryz.results13, go_sem]) rfl HR.out
      | succ g =>
        obtain ⟨c, rest, rfl⟩ : ∃ c rs, rest = c :: rs := by
          cases rest with
          | nil => simp at hrg
          | cons t rs => exact ⟨t, rs, rfl⟩
        have hpl : pre.length < L := by rw [hL, he]; simp
        have hc : ((pre.length : Nat) : Int) < (L : Int) := by omega
        have e1 : IntKind.i64.wrap (((pre.length : Nat) : Int) + 1) = ((pre.length + 1 : Nat) : Int) := by rw [IntKind.wrap_i64]; omega
        have hcm : c ∈ ks := by rw [he]; simp
        obtain ⟨m1, m2, m3⟩ := hkids c hcm
        have hrr := hr1.below p2
        obtain ⟨cg, rfl, hcg, hcc⟩ := hrr.cellI (i := pre.length) (by simp; omega)
        have hkv : (ints ks)[pre.length]'(by simp; omega) = (c : Int) := by simp [he]
        rw [hkv] at hcc
        have hTr := hT.below p2
        have hpl2 := p1.len
        have hfl := flat_len d false (pre.map (treeM par kd n d))
        have hcl : cntTL d (pre.map (treeM par kd n d)) + cntT d (treeM par kd n d c) ≤ cntTL d (ks.map (treeM par kd n d)) := by
          rw [he]
          simp [cntTL]
        obtain ⟨la, lc, rfl, _⟩ := p1.shape
        have C := hid (HTT.out c wr (.slice la nl lc) nl _ Pl m1 m2 hTr p1 (by omega))
        have hgr : rest.length = g := by simpa using hrg
        have HN := hid (fun (w1 : World) (v1 : Value) (n1 : Nat) (P1 : Nat → Prop) q1 q2 q3 q4 => LsI.next (d := d) (f := treeM par kd n d) (w1 := w1) (v1 := v1) (n1 := n1) (P1 := P1) he p2 p3 p4 q1 q2 q3 q4)
        rw [hgr] at HN
        obtain ⟨j, hj⟩ : ∃ j, j = pre.length := ⟨_, rfl⟩
        rw [← hj] at hc e1 hcc HN ⊢
        clear hrel H0 hv hT hk hkids hkl hn4 hL hr1 he hrg p1 p2 p3 p4 hpl hcm m1 m2 m3 hrr hkv hTr hgr hpl2 hfl hcl hj
        go_upto_region 9 with fail
        clear hcc hcg hc
        go_wp2_with fail
        refine C.out.mono ?_
        rintro e w1 hR
        obtain ⟨v1, n1, P1, rfl, q1, q2, q3, q4⟩ := hR.ex
        have HR := hid (HN.out w1 v1 n1 P1 q1 q2 q3 q4)
        clear hR C HN q1 q2 q3 q4
        go_wp2_with fail
        go_roundg g
        case measure => omega
        case rel => exact HR.out
end Go.Proofs.YtjebnjjhdefejaaGreatFmt
