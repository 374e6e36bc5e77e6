/-
  The lowering of every tree, with what it leaves. Conditions: each theorem's own.
-/
import Derived.Test.YtjebnjjhdefejaaGreatFmtSh
import Derived.Test.YtjebnjjhdefejaaGreatFmtSi
import Derived.Test.YtjebnjjhdefejaaGreatFmtSj
namespace Go.Proofs.YtjebnjjhdefejaaGreatFmt
open Go.RowKit Go.Lib Go.ChangeMaps
theorem pctxS_succ (d : Nat) (H : PCtxS d) : PCtxS (d + 1) := by
  have HR := rem19S d H
  have HL := low34S d HR
  intro t w lo hi v cb pw pn lw n S m pb out P hT hhi hC hOff hmd hnn hOS hPO
  obtain ⟨loc, kind, kids⟩ := t
  have hcnt : cntT (d + 1) (.mk loc kind kids) = 1 + cntTL d kids := rfl
  rw [hcnt] at hnn
  rcases hT with ⟨k, k2, b, rfl⟩ | ⟨k, b, s, rs, x, mid, rfl, h1, h2, h3, -, hb, ⟨sb, sc, rfl, h5, h6, u, hs, hu, ua, uc, rfl, huc⟩, hk⟩ | ⟨k, b, rs, arr, mid, rfl, h1, h2, h3, -, hb, ha, ha4, hk⟩
  · refine (ctx26d (.pointer (some ⟨pb, 0, none⟩)) b cb loc w).mono ?_
    rintro e w' ⟨rfl, hb⟩
    have hk0 : kind = 0 := k
    exact ⟨lw, n, P, by rw [show retV (.mk loc kind kids) _ = _ from if_pos k]; rfl, Nat.le_refl _, Nat.le_add_right _ _, hC.below hb, FrM.of hb, Or.inl rfl, by subst hk0; simp only [lowM, if_true, List.append_nil]; exact hOS.below hb, fun g hg => Or.inl hg⟩
  · have hk1 : kind = 1 := k
    subst hk1
    refine (ctx26sS d HL kids w lo mid hi b sb sc loc rs x ua uc cb pw pn lw n S m pb h1 h2 h3 hhi hb h5 h6 hs huc hu hk hC hOff (by omega) (by omega) out P hOS hPO).mono ?_
    rintro e w' ⟨lw', n', P', rfl, q1, q2, q3, q4, q5, q6, q7⟩
    exact ⟨lw', n', P', by rw [show retV (.mk loc 1 kids) _ = _ from if_neg (show ¬ (1 = 0) by decide)], q1, q2, q3, q4, q5, q6, q7⟩
  · have hk2 : kind = 2 := k
    subst hk2
    have hfin : ∀ e w', KatRS d kids loc lo hi cb pw pn lw n S m pb out P w e w' → CtxRS (d + 1) (.mk loc 2 kids) lo hi (.iface 115 (.pointer (some ⟨b, 0, none⟩))) cb pw pn lw n S m pb out P w e w' := by
      rintro e w' ⟨lw', n', P', rfl, q1, q2, q3, q4, q5, q6, q7⟩
      exact ⟨lw', n', P', by rw [show retV (.mk loc 2 kids) _ = _ from if_neg (show ¬ (2 = 0) by decide)], q1, q2, q3, q4, q5, q6, q7⟩
    by_cases hK : 0 < (keptM kids).length
    · exact (ctx26k_sS d HR kids w lo mid hi b loc rs arr cb pw pn lw n S m pb h1 h2 h3 hhi hb ha ha4 hk hC hOff (by omega) (by omega) out P hOS hPO hK).mono hfin
    · exact (ctx26k_zS d HR kids w lo mid hi b loc rs arr cb pw pn lw n S m pb h1 h2 h3 hhi hb ha ha4 hk hC hOff (by omega) (by omega) out P hOS hPO hK).mono hfin
/-- every tree, whatever its depth -/
theorem pctxS : ∀ d, PCtxS d
  | 0 => fun _ _ _ _ _ _ _ _ _ _ _ _ _ _ _ h => h.elim
  | d + 1 => pctxS_succ d (pctxS d)
theorem plowS (d : Nat) : PLowS d := low34S d (rem19S d (pctxS d))
/-- a rule lowered outside any style rule -/
structure TopRS (d : Nat) (t : Tr) (lo hi : Nat) (lw : Value) (n : Nat) (out : List Tr) (P : Nat → Prop) (w : World) (e : Ending) (w' : World) : Prop where
  ex : ∃ lw' n' P', e = .returned lw' ∧ n ≤ n' ∧ n' ≤ n + cntT d t ∧ FrM (fun g => (lo ≤ g ∧ g < hi) ∨ lw.ownBlock = some g) w w' ∧ OwnG w lw lw' ∧ OutS w' lw' n' (out ++ lowM d false t) P' ∧ ∀ g, P' g → P g ∨ (lo ≤ g ∧ g < hi) ∨ w.heap.size ≤ g
def PTop (d : Nat) : Prop := ∀ (t : Tr) (w : World) (lo hi : Nat) (v lw : Value) (n pb : Nat) (out : List Tr) (P : Nat → Prop), InT d w lo hi v t → hi ≤ w.heap.size → OutS w lw n out P → Par w pb → (pb < lo ∨ hi ≤ pb) → (∀ g, lw.ownBlock = some g → g < lo ∨ hi ≤ g) → (∀ g, P g → g < lo ∨ hi ≤ g) → 1 + d ≤ 10000 → n + cntT d t ≤ 1000000 →
  Calls Tryz.prog 19 #[.pointer (some ⟨pb, 0, none⟩), .agg #[v, .int .i32 t.loc], lw] w fun e w' => TopRS d t lo hi lw n out P w e w'
/-- a style rule -/
theorem top_style (d : Nat) (loc : Int) (kids : List Tr) (w : World) (lo hi : Nat) (v lw : Value) (n pb : Nat) (out : List Tr) (P : Nat → Prop) (hT : InT (d + 1) w lo hi v (.mk loc 1 kids)) (hhi : hi ≤ w.heap.size) (hOS : OutS w lw n out P) (hp : Par w pb) (hpb : pb < lo ∨ hi ≤ pb) (hlw : ∀ g, lw.ownBlock = some g → g < lo ∨ hi ≤ g) (hP : ∀ g, P g → g < lo ∨ hi ≤ g) (hd : 1 + d ≤ 10000) (hn : n + cntT (d + 1) (.mk loc 1 kids) ≤ 1000000) :
    Calls Tryz.prog 19 #[.pointer (some ⟨pb, 0, none⟩), .agg #[v, .int .i32 loc], lw] w fun e w' => TopRS (d + 1) (.mk loc 1 kids) lo hi lw n out P w e w' := by
  have hcnt : cntT (d + 1) (.mk loc 1 kids) = 1 + cntTL d kids := rfl
  rw [hcnt] at hn
  rcases hT with ⟨k, _⟩ | ⟨k, b, s, rs, x, mid, rfl, h1, h2, h3, -, hb, ⟨sb, sc, rfl, h5, h6, u, hs, hu, ua, uc, rfl, huc⟩, hk⟩ | ⟨k, _⟩
  · cases k
  · have hkl : kids.length ≤ 1000000 := by
      obtain ⟨rb, cap, arr, e, q1, q2, q3, q4, q5, q6⟩ := hk
      have h7 : kids.length ≤ cntTL d kids := q6.len
      omega
    refine (plowS d kids w lo mid b sb sc 1 x rs _ _ lw n pb loc out P ⟨hb, hs, hu, Nat.le_refl _, hk, hkl, by omega, hOS.ru, hp, Or.inr h2, Or.inr h5, hpb.imp id (fun q => by omega), fun g hg => (hlw g hg).imp id (fun q => by omega), fun g hg => ⟨by omega, hg.2.2.2, hg.2.2.1, fun e => by have := hlw g e.symm; omega, Or.inr hg.1⟩, by omega, by omega⟩ hOS (fun g hg => by have := hP g hg; exact ⟨by omega, by omega, by omega⟩)).mono ?_
    rintro e w' ⟨lw', n', P', rfl, q1, q2, q3, q4, q5, q6⟩
    refine ⟨lw', n', P', rfl, q1, by rw [hcnt]; exact q2, ⟨q3.os, q3.tape, q3.output, q3.size, fun g g1 g2 => q3.block g g1 ?_⟩, q4, by rw [lowM_style] at q5 ⊢; exact q5, fun g hg => ?_⟩
    · rintro (h | h | h | h)
      · exact g2 (Or.inl ⟨h.1, by omega⟩)
      · exact g2 (Or.inl ⟨by omega, by omega⟩)
      · exact g2 (Or.inl ⟨by omega, by omega⟩)
      · exact g2 (Or.inr h)
    · rcases q6 g hg with h | h | h | h
      · exact Or.inl h
      · exact Or.inr (Or.inl ⟨h.1, by omega⟩)
      · exact Or.inr (Or.inl ⟨by omega, by omega⟩)
      · exact Or.inr (Or.inr h)
  · cases k
set_option maxHeartbeats 16000000 in
set_option maxRecDepth 100000 in
/-- a declaration -/
theorem top_decl (b : Nat) (l : Int) (pb : Nat) (w : World) (lw : Value) (n : Nat) (out : List Tr) (P : Nat → Prop) (hOS : OutS w lw n out P) (hn : n + 1 ≤ 1000000) :
    Calls Tryz.prog 19 #[.pointer (some ⟨pb, 0, none⟩), .agg #[.iface 103 (.pointer (some ⟨b, 0, none⟩)), .int .i32 l], lw] w fun e w' => ∃ lw', e = .returned lw' ∧ w.grownBy w' lw.ownBlock ∧ OwnG w lw lw' ∧ OutS w' lw' (n + 1) (out ++ [.mk l 0 []]) P := by
  obtain ⟨la, lc, rfl, hlc⟩ : ∃ a c, lw = .slice a n c ∧ n ≤ c := by
    obtain ⟨xs, ho, _⟩ := hOS.ru
    exact own_shape ho
  obtain ⟨W1, hW1⟩ : ∃ X, X = w.alloc (.cells #[.iface 103 (.pointer (some ⟨b, 0, none⟩)), .int .i32 l] 39) := ⟨_, rfl⟩
  have hb1 : Below w.heap.size w W1 := by rw [hW1]; exact (Below.refl _ _).alloc (Nat.le_refl _) _
  have h1 : W1.heap[w.heap.size]? = some (.cells #[.iface 103 (.pointer (some ⟨b, 0, none⟩)), .int .i32 l] 39 (0, 0)) := by rw [hW1]; exact heap_alloc_new _ _
  have hb2 : Below W1.heap.size W1 (W1.alloc (.cells #[.iface 103 (.pointer (some ⟨b, 0, none⟩)), .int .i32 l] 39)) := (Below.refl _ _).alloc (Nat.le_refl _) _
  have hnew := heap_alloc_new W1 (.cells #[.iface 103 (.pointer (some ⟨b, 0, none⟩)), .int .i32 l] 39)
  obtain ⟨v2, w2, ha, hS2, hg2, hat⟩ := app_twoS (w := W1.alloc (.cells #[.iface 103 (.pointer (some ⟨b, 0, none⟩)), .int .i32 l] 39)) (k := 1) (c := 1) (out2 := [.mk l 0 []]) ((hOS.below hb1).below hb2) (one_ownS hnew rfl rfl (Or.inr ⟨Nat.zero_le _, 1, rfl, Or.inl ⟨rfl, rfl, b, rfl⟩⟩)) rfl (by omega)
  have c0 := (hcell h1 0 _ rfl).1
  have c1 := (hcell h1 1 _ rfl).1
  have hgW : w.grownBy w2 (Value.slice la n lc).ownBlock := grown_below (hb1.trans (hb2.mono hb1.size)) hg2
  have hOG : OwnG w (.slice la n lc) v2 := hat.imp id fun ⟨g, e, hq⟩ => ⟨g, e, by have := hb2.size; have := hb1.size; omega⟩
  have hSF : OutS w2 v2 (n + 1) (out ++ [.mk l 0 []]) P := ⟨by have := hOS.len; simp; omega, hS2, fun g hg => ⟨by have := (hOS.sP g hg).1; have := hgW.size; omega, fun e => by
    rcases hOG with h | ⟨g', h, hq⟩
    · exact (hOS.sP g hg).2 (e.trans h)
    · rw [h] at e
      have := Option.some.inj e
      have := (hOS.sP g hg).1
      omega⟩⟩
  obtain ⟨a2, c2, rfl, _⟩ : ∃ a c, v2 = .slice a (n + 1) c ∧ n + 1 ≤ c := by
    obtain ⟨xs, ho, _⟩ := hSF.ru
    exact own_shape ho
  have HA := hid ha
  have HF := hid (And.intro hgW (And.intro hOG hSF))
  have HW := hid hW1
  have t1 := asD_S
  have t2 := asD_K
  have t3 := asD_M
  have t4 := asD_L
  clear hOS hW1 hb1 h1 hb2 hnew ha hS2 hg2 hat hgW hOG hSF hlc
  go_enter Tryz.func19, Tryz.ntmps19
  go_upto_region 1 with fail
  rw [← HW.out]
  go_wp2_with (at_builtin; go_loud (refine list_run rfl _ _ 43 rfl (.slice la n lc) (.slice (some ⟨W1.heap.size, 0, none⟩) 1 1) _ w2 rfl rfl HA.out ?_))
  exact bodyPost_ret (v := .slice a2 (n + 1) c2) (by simp [results, Tryz.results19, go_sem]) rfl ⟨_, rfl, HF.out.1, HF.out.2.1, HF.out.2.2⟩
end Go.Proofs.YtjebnjjhdefejaaGreatFmt
