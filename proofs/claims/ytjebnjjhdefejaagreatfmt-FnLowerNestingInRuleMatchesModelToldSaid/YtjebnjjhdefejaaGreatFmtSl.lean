/-
  An at-rule outside any style rule. Conditions: each theorem's own.
-/
import Derived.Test.YtjebnjjhdefejaaGreatFmtSk
namespace Go.Proofs.YtjebnjjhdefejaaGreatFmt
open Go.RowKit Go.Lib Go.ChangeMaps
/-- rules lowered one by one, outside any style rule -/
structure TopI (d rb : Nat) (arr : Array Value) (ts : List Tr) (hi : Nat) (W : World) (g : Nat) (v19 v149 : Value) (wx : World) : Prop where
  ex : ∃ pre rest i mid nk Pk, ts = pre ++ rest ∧ rest.length = g ∧ pre.length = i ∧ v149 = .int .i64 (i : Nat) ∧ nk + cntTL d rest ≤ cntTL d ts ∧ FrM (fun g => rb + 1 ≤ g ∧ g < mid) W wx ∧ (∀ g, v19.ownBlock = some g → W.heap.size ≤ g) ∧ OutS wx v19 nk (pre.flatMap (lowM d false)) Pk ∧ (∀ g, Pk g → (rb + 1 ≤ g ∧ g < mid) ∨ W.heap.size ≤ g) ∧ rb + 1 ≤ mid ∧ KidsAt (fun lo hi => InT d wx lo hi) arr mid hi i rest
theorem TopI.next {d rb : Nat} {arr : Array Value} {ts pre rest : List Tr} {t : Tr} {hi i mid mid2 nk n3 : Nat} {W wr W2 w3 : World} {v19 lw3 : Value} {Pk P3 : Nat → Prop} (hhi : hi ≤ W.heap.size) (e : ts = pre ++ t :: rest) (hi' : pre.length = i) (hn : nk + cntTL d (t :: rest) ≤ cntTL d ts) (hF : FrM (fun g => rb + 1 ≤ g ∧ g < mid) W wr) (ho : ∀ g, v19.ownBlock = some g → W.heap.size ≤ g) (hPk : ∀ g, Pk g → (rb + 1 ≤ g ∧ g < mid) ∨ W.heap.size ≤ g) (hm : rb + 1 ≤ mid) (hmm : mid ≤ mid2) (hK : KidsAt (fun lo hi => InT d wr lo hi) arr mid2 hi (i + 1) rest) (hb2 : Below wr.heap.size wr W2)
    (h3n : n3 ≤ nk + cntT d t) (h3F : FrM (fun g => (mid ≤ g ∧ g < mid2) ∨ v19.ownBlock = some g) W2 w3) (h3O : OwnG W2 v19 lw3) (h3S : OutS w3 lw3 n3 (pre.flatMap (lowM d false) ++ lowM d false t) P3) (h3P : ∀ g, P3 g → Pk g ∨ (mid ≤ g ∧ g < mid2) ∨ W2.heap.size ≤ g) : TopI d rb arr ts hi W rest.length lw3 (.int .i64 ((i + 1 : Nat) : Int)) w3 := by
  have s1 := hF.size
  have s2 := hb2.size
  have s3 := h3F.size
  have hle := hK.le
  refine ⟨pre ++ [t], rest, i + 1, mid2, n3, P3, by rw [e]; simp, rfl, by simp [hi'], rfl, by rw [cntTL_cons] at hn; omega, ⟨h3F.os.trans (hb2.os.trans hF.os), h3F.tape.trans (hb2.tape.trans hF.tape), h3F.output.trans (hb2.output.trans hF.output), by omega, fun g g1 g2 => (h3F.block g (by omega) ?_).trans ((hb2.block g (by omega)).trans (hF.block g g1 (by omega)))⟩, fun g hg => ?_, by rw [List.flatMap_append]; simpa using h3S, fun g hg => ?_, by omega, hK.keep rest mid2 hi (i + 1) mid2 hi (Nat.le_refl _) (Nat.le_refl _) (fun lo2 hi2 v u a1 a2 a3 => InT.keep d lo2 hi2 v u (by omega) (fun g g1 g2 => (h3F.block g (by omega) ?_).trans (hb2.block g (by omega))) a3)⟩
  · rintro (h | h)
    · omega
    · have := ho g h; omega
  · rcases h3O with h | ⟨g', h, hq⟩
    · exact ho g (h ▸ hg)
    · rw [h] at hg; have := Option.some.inj hg; omega
  · rcases h3P g hg with h | h | h
    · rcases hPk g h with q | q
      · exact Or.inl ⟨q.1, by omega⟩
      · exact Or.inr q
    · exact Or.inl ⟨by omega, h.2⟩
    · exact Or.inr (by omega)
  · rintro (h | h)
    · omega
    · have := ho g h; omega
set_option maxHeartbeats 16000000 in
set_option maxRecDepth 100000 in
/-- an at-rule -/
theorem top_at (d : Nat) (H : PTop d) (kids : List Tr) (l : Int) (w : World) (lo mid hi b : Nat) (rs : Value) (arr4 : Array Value) (lw : Value) (n pb : Nat) (out : List Tr) (P : Nat → Prop) (h1 : lo ≤ mid) (h2 : mid ≤ b) (h3 : b < hi) (h4 : hi ≤ w.heap.size) (hb : w.heap[b]? = some (.cells arr4 117 (0, 0))) (ha2 : arr4[2]? = some rs) (ha4 : arr4.size = 4) (hk : KidsR (fun lo hi => InT d w lo hi) w lo mid rs kids) (hOS : OutS w lw n out P) (hp : Par w pb) (hpb : pb < lo ∨ hi ≤ pb) (hlw : ∀ g, lw.ownBlock = some g → g < lo ∨ hi ≤ g) (hP : ∀ g, P g → g < lo ∨ hi ≤ g) (hd : 1 + d ≤ 10000) (hn : n + (1 + cntTL d kids) ≤ 1000000) :
    Calls Tryz.prog 19 #[.pointer (some ⟨pb, 0, none⟩), .agg #[.iface 115 (.pointer (some ⟨b, 0, none⟩)), .int .i32 l], lw] w fun e w' => TopRS (d + 1) (.mk l 2 kids) lo hi lw n out P w e w' := by
  obtain ⟨la, lc, rfl, hlc⟩ : ∃ a c, lw = .slice a n c ∧ n ≤ c := by
    obtain ⟨xs, ho, _⟩ := hOS.ru
    exact own_shape ho
  obtain ⟨rb, cap, arr, rfl, hkc, hlr, hrh, hrow, hsz, hK⟩ := hk
  obtain ⟨W1, hW1⟩ : ∃ X, X = w.alloc (.cells #[.iface 115 (.pointer (some ⟨b, 0, none⟩)), .int .i32 l] 39) := ⟨_, rfl⟩
  have hb1 : Below w.heap.size w W1 := by rw [hW1]; exact (Below.refl _ _).alloc (Nat.le_refl _) _
  have h11 : W1.heap[w.heap.size]? = some (.cells #[.iface 115 (.pointer (some ⟨b, 0, none⟩)), .int .i32 l] 39 (0, 0)) := by rw [hW1]; exact heap_alloc_new _ _
  have s1 : W1.heap.size = w.heap.size + 1 := by rw [hW1]; simp
  have c0 := (hcell h11 0 _ rfl).1
  have hbW := (hb1.block _ (heap_lt hb)).trans hb
  have b2 := (hcell hbW 2 _ ha2).1
  have hbl := heap_lt hbW
  obtain ⟨L, hL⟩ : ∃ L, L = kids.length := ⟨_, rfl⟩
  rw [← hL] at b2
  have H0 := hid (show TopI d rb arr kids mid W1 L (.slice none 0 0) (.int .i64 0) W1 from ⟨[], kids, 0, rb + 1, 0, fun _ => False, rfl, hL.symm, rfl, rfl, by omega, FrM.refl _ _, (fun g hg => by cases hg), OutS.nil W1, (fun g hg => hg.elim), Nat.le_refl _, hK.keep kids (rb + 1) mid 0 lo mid (by omega) (Nat.le_refl _) (fun lo2 hi2 v t q1 q2 q3 => InT.keep d lo2 hi2 v t hb1.size (fun g g1 g2 => hb1.block g (by omega)) q3)⟩)
  have hlen := hK.len
  have HH := hid (And.intro h1 (And.intro h2 (And.intro h3 (And.intro h4 (And.intro hb (And.intro ha2 (And.intro ha4 (And.intro hlr (And.intro hrh (And.intro hrow (And.intro hOS (And.intro hp (And.intro hpb (And.intro hlw (And.intro hP (And.intro hd (And.intro hn (And.intro hb1 (And.intro s1 (And.intro h11 (And.intro hbW (And.intro hL hlen))))))))))))))))))))))
  have HW := hid hW1
  have t1 := asK_S
  have t2 := asK_K
  clear h1 h2 h3 h4 hb ha2 ha4 hlr hrh hrow hOS hp hpb hlw hP hd hn hb1 s1 h11 hbW hL hlen hsz hK hW1 hkc hlc
  go_enter Tryz.func19, Tryz.ntmps19
  go_upto_region 1 with fail
  rw [← HW.out]
  go_upto_region 33 with fail
  clear t1 t2 c0 b2 hbl
  go_loopg [19, 149] L (fun g v19 v149 wx => TopI d rb arr kids mid W1 g v19 v149 wx)
  case atStart => exact H0.out
  case round =>
    obtain ⟨pre, rest, i, mk, nk, Pk, he, hrg, hpi, rfl, hnk, hF, hown, hS, hPk, hmk, hK⟩ := hrel.ex
    clear hrel H0
    obtain ⟨ka, kc, rfl, _⟩ : ∃ a c, u19 = .slice a nk c ∧ nk ≤ c := by
      obtain ⟨xs, ho, _⟩ := hS.ru
      exact own_shape ho
    obtain ⟨h1, h2, h3, h4, hb, ha2, ha4, hlr, hrh, hrow, hOS, hp, hpb, hlw, hP, hd, hn, hb1, s1, h11, hbW, hL, hlen⟩ := HH.out
    cases gk with
    | zero =>
      obtain rfl : rest = [] := List.length_eq_zero_iff.1 hrg
      rw [List.append_nil] at he
      subst he
      have hcd : ¬ (i : Int) < (L : Int) := by omega
      have hle := hK.le
      have hs1 := hF.size
      have hbl := heap_lt hb
      have hbr := (hF.block b (by omega) (by omega)).trans hbW
      have hxr := (hF.block w.heap.size (by omega) (by omega)).trans h11
      obtain ⟨g2, g2f⟩ := hcell hbr 2 _ ha2
      have hbrl := heap_lt hbr
      obtain ⟨W8, hW8⟩ : ∃ X, X = wr.setCell ⟨b, 2, none⟩ (.slice ka nk kc) := ⟨_, rfl⟩
      have k8 : ∀ g, g ≠ b → W8.heap[g]? = wr.heap[g]? := fun g hg => by rw [hW8]; exact hother _ _ _ hg
      have hz8 : W8.heap.size = wr.heap.size := by rw [hW8]; simp [World.setCell]
      have ho8 : W8.os = wr.os ∧ W8.tape = wr.tape ∧ W8.output = wr.output := by rw [hW8]; exact ⟨rfl, rfl, rfl⟩
      have hb8 : W8.heap[b]? = some (.cells (arr4.setIfInBounds 2 (.slice ka nk kc)) 117 (0, 0)) := by rw [hW8]; exact hset hbr 2 _
      have hx8 := (k8 w.heap.size (by omega)).trans hxr
      have x0 := (hcell hx8 0 _ rfl).1
      have x1 := (hcell hx8 1 _ rfl).1
      have h8S := hS.keep (w' := W8) (by omega) (fun g hg => k8 g (by
        rcases hg with hg | hg
        · have := hPk g hg; omega
        · have := hown g hg; omega))
      have h8O := (((hOS.below hb1).frame hF (fun g hg q => by
        rcases hg with hg | hg
        · have := hP g hg; omega
        · have := hlw g hg; omega))).keep (w' := W8) (by omega) (fun g hg => k8 g (by
        rcases hg with hg | hg
        · have := hP g hg; omega
        · have := hlw g hg; omega))
      have hbA : Below W8.heap.size W8 (W8.alloc (.cells #[.iface 115 (.pointer (some ⟨b, 0, none⟩)), .int .i32 l] 39)) := (Below.refl _ _).alloc (Nat.le_refl _) _
      have hnew := heap_alloc_new W8 (.cells #[.iface 115 (.pointer (some ⟨b, 0, none⟩)), .int .i32 l] 39)
      obtain ⟨v9, w9, ha9, hS9, hg9, hat9⟩ := appS9 hbA hnew h8S h8O (fun t ht => by
        obtain ⟨u, _, ht⟩ := List.mem_flatMap.1 ht
        exact lowM_kind d false u t ht) hb8 (by rw [Array.getElem?_setIfInBounds, if_pos rfl, if_pos (by omega)]) (fun g hg e => by
        have q1 := hOS.ownlt e.symm
        have q2 := hlw g e.symm
        rcases hg with hg | hg | hg
        · have := hPk g hg; omega
        · have := hown g hg; omega
        · omega) (by omega)
      have hsA := hbA.size
      have hOG : OwnG w (.slice la n lc) v9 := hat9.imp id fun ⟨g, e, hq⟩ => ⟨g, e, by omega⟩
      have hFR : FrM (fun g => (lo ≤ g ∧ g < hi) ∨ (Value.slice la n lc).ownBlock = some g) w w9 := ⟨hg9.os.trans (hbA.os.trans (ho8.1.trans (hF.os.trans hb1.os))), hg9.tape.trans (hbA.tape.trans (ho8.2.1.trans (hF.tape.trans hb1.tape))), hg9.output.trans (hbA.output.trans (ho8.2.2.trans (hF.output.trans hb1.output))), by have := hg9.size; omega, fun g q1 q2 => (hg9.block g (by omega) (fun e => q2 (Or.inr e.symm))).trans ((hbA.block g (by omega)).trans ((k8 g (by rintro rfl; exact q2 (Or.inl ⟨by omega, h3⟩))).trans ((hF.block g (by omega) (fun q => q2 (Or.inl ⟨by omega, by omega⟩))).trans (hb1.block g q1))))⟩
      have hlow : lowM (d + 1) false (.mk l 2 kids) = [.mk l 2 (kids.flatMap (lowM d false))] := by simp [lowM]
      have hcnt : cntT (d + 1) (.mk l 2 kids) = 1 + cntTL d kids := rfl
      have hfin : TopRS (d + 1) (.mk l 2 kids) lo hi (.slice la n lc) n out P w (.returned v9) w9 := ⟨v9, n + 1, _, rfl, by omega, by rw [hcnt]; omega, hFR, hOG, by rw [hlow]; exact hS9, fun g hg => by
        rcases hg with hg | hg | hg | hg
        · exact Or.inl hg
        · rcases hPk g hg with q | q
          · exact Or.inr (Or.inl ⟨by omega, by omega⟩)
          · exact Or.inr (Or.inr (by omega))
        · have := hown g hg; exact Or.inr (Or.inr (by omega))
        · exact Or.inr (Or.inl ⟨by omega, by omega⟩)⟩
      obtain ⟨a9, c9, rfl, _⟩ : ∃ a c, v9 = .slice a (n + 1) c ∧ n + 1 ≤ c := by
        obtain ⟨xs, ho, _⟩ := hS9.ru
        exact own_shape ho
      have HFIN := hid hfin
      have HA9 := hid ha9
      have HW8 := hid hW8
      have HX := hid (And.intro x0 x1)
      clear hpi hnk hF hown hS hPk hmk h1 h2 h3 h4 hb ha2 ha4 hlr hrh hrow hOS hp hpb hlw hP hd hn hb1 s1 h11 hbW hL hlen hrg hK hle hs1 hbl hbr hxr hW8 k8 hz8 ho8 hb8 hx8 x0 x1 h8S h8O hbA hnew ha9 hS9 hg9 hat9 hsA hOG hFR hlow hcnt hfin
      go_upto_region 37 with fail
      clear hcd
      go_upto_region 56 with fail
      rw [← HW8.out]
      clear g2 g2f hbrl HW8
      obtain ⟨x0, x1⟩ := HX.out
      go_wp2_with (at_builtin; go_loud (refine list_run rfl _ _ 43 rfl (.slice la n lc) (.slice (some ⟨W8.heap.size, 0, none⟩) 1 1) _ w9 rfl rfl HA9.out ?_))
      exact bodyPost_ret (v := .slice a9 (n + 1) c9) (by simp [results, Tryz.results19, go_sem]) rfl HFIN.out
    | succ g =>
      obtain ⟨t, rs, rfl⟩ : ∃ t rs, rest = t :: rs := by
        cases rest with
        | nil => simp at hrg
        | cons t rs => exact ⟨t, rs, rfl⟩
      obtain ⟨mid2, v, hmm, a0, a1, hT, hK2⟩ := hK
      obtain ⟨TT, vb, rfl⟩ := hT.shape
      have hiL : i < L := by rw [hL, he, List.length_append, hpi]; simp
      have hc : (i : Int) < (L : Int) := by omega
      have hLn : L ≤ 1000000 := by omega
      have e1 : IntKind.i64.wrap ((i : Int) + 1) = ((i + 1 : Nat) : Int) := by rw [IntKind.wrap_i64]; omega
      have hs1 := hF.size
      have hle2 := hK2.le
      have hrr := (hF.block rb (by omega) (by omega)).trans ((hb1.block rb (by omega)).trans hrow)
      have r0 := (hcell hrr _ _ a0).1
      have r1 := (hcell hrr _ _ a1).1
      have hrl := heap_lt hrr
      obtain ⟨tl, htl⟩ : ∃ tl, tl = t.loc := ⟨_, rfl⟩
      rw [← htl] at r1
      obtain ⟨W2, hW2⟩ : ∃ X, X = wr.alloc (.cells #[.iface TT (.pointer (some ⟨vb, 0, none⟩)), .int .i32 tl] 39) := ⟨_, rfl⟩
      have hb2 : Below wr.heap.size wr W2 := by rw [hW2]; exact (Below.refl _ _).alloc (Nat.le_refl _) _
      have hN2 : W2.heap[wr.heap.size]? = some (.cells #[.iface TT (.pointer (some ⟨vb, 0, none⟩)), .int .i32 tl] 39 (0, 0)) := by rw [hW2]; exact heap_alloc_new _ _
      have n0 := (hcell hN2 0 _ rfl).1
      have n1 := (hcell hN2 1 _ rfl).1
      have hp2 : Par W2 pb := by
        obtain ⟨parr, p1, p2⟩ := hp.ex
        have hpl := heap_lt p1
        exact ⟨parr, (hb2.block _ (by omega)).trans ((hF.block _ (by omega) (by omega)).trans ((hb1.block _ hpl).trans p1)), p2⟩
      have hcc := cntTL_cons d t rs
      have CL := H t W2 mk mid2 (.iface TT (.pointer (some ⟨vb, 0, none⟩))) (.slice ka nk kc) nk pb _ Pk (InT.keep d mk mid2 _ t hb2.size (fun q q1 q2 => hb2.block q (by omega)) hT) (by have := hb2.size; omega) (hS.below hb2) hp2 (by omega) (fun g hg => by have := hown g hg; omega) (fun g hg => by have := hPk g hg; omega) hd (by omega)
      rw [← htl] at CL
      have CL := hid CL
      have hgr : rs.length = g := by simpa using hrg
      have HN := hid (fun (w3 : World) (lw3 : Value) (n3 : Nat) (P3 : Nat → Prop) q1 q2 q3 q4 q5 => TopI.next (w3 := w3) (lw3 := lw3) (n3 := n3) (P3 := P3) (show mid ≤ W1.heap.size by omega) he hpi hnk hF hown hPk hmk hmm hK2 hb2 q1 q2 q3 q4 q5)
      rw [hgr] at HN
      have HW2 := hid hW2
      clear he hrg hpi hnk hF hown hS hPk hmk h1 h2 h3 h4 hb ha2 ha4 hlr hrh hrow hOS hp hpb hlw hP hd hn hb1 s1 h11 hbW hL hlen hmm a0 a1 hT hK2 hiL hLn hs1 hle2 hrr htl hW2 hb2 hN2 hp2 hcc hgr
      go_upto_region 35 with fail
      rw [← HW2.out]
      clear r0 r1 hrl HW2
      go_wp2_with fail
      refine CL.out.mono ?_
      rintro e w3 hR
      obtain ⟨lw3, n3, P3, rfl, q0, q1, q2, q3, q4, q5⟩ := hR.ex
      have HR := hid (HN.out w3 lw3 n3 P3 q1 q2 q3 q4 q5)
      clear hR CL HN q0 q1 q2 q3 q4 q5 n0 n1
      go_wp2_with fail
      go_roundg g
      case measure => omega
      case rel => exact HR.out
theorem top_succ (d : Nat) (H : PTop d) : PTop (d + 1) := by
  intro t w lo hi v lw n pb out P hT hhi hOS hp hpb hlw hP hd hn
  obtain ⟨loc, kind, kids⟩ := t
  have hcnt : cntT (d + 1) (.mk loc kind kids) = 1 + cntTL d kids := rfl
  have hT' := hT
  rcases hT' with ⟨k, k2, b, rfl⟩ | ⟨k, _⟩ | ⟨k, b, rs, arr, mid, rfl, h1, h2, h3, -, hb, ha, ha4, hk⟩
  · have hk0 : kind = 0 := k
    have hk1 : kids = [] := k2
    subst hk0
    subst hk1
    refine (top_decl b loc pb w lw n out P hOS (by rw [hcnt] at hn; omega)).mono ?_
    rintro e w' ⟨lw', rfl, q1, q2, q3⟩
    refine ⟨lw', n + 1, P, rfl, by omega, by rw [hcnt]; omega, ⟨q1.os, q1.tape, q1.output, q1.size, fun g g1 g2 => q1.block g g1 (fun e => g2 (Or.inr e.symm))⟩, q2, by simpa [lowM] using q3, fun g hg => Or.inl hg⟩
  · have hk1 : kind = 1 := k
    subst hk1
    exact top_style d loc kids w lo hi v lw n pb out P hT hhi hOS hp hpb hlw hP (by omega) hn
  · have hk2 : kind = 2 := k
    subst hk2
    exact top_at d H kids loc w lo mid hi b rs arr lw n pb out P h1 h2 h3 hhi hb ha ha4 hk hOS hp hpb hlw hP (by omega) (by rw [← hcnt]; exact hn)
theorem ptop : ∀ d, PTop d
  | 0 => fun _ _ _ _ _ _ _ _ _ _ h => h.elim
  | d + 1 => top_succ d (ptop d)
end Go.Proofs.YtjebnjjhdefejaaGreatFmt
