/-
  A style rule in a lowering, with what it leaves. Conditions: each theorem's own.
-/
import Derived.Test.YtjebnjjhdefejaaGreatFmtSg
import Derived.Test.YtjebnjjhdefejaaGreatFmtLt
namespace Go.Proofs.YtjebnjjhdefejaaGreatFmt
open Go.RowKit Go.Lib Go.ChangeMaps
structure StyKS (d : Nat) (kids : List Tr) (l : Int) (lo hi cb : Nat) (pw pn lw : Value) (n : Nat) (S : Nat → Prop) (m pb : Nat) (out : List Tr) (P : Nat → Prop) (w : World) (e : Ending) (w' : World) : Prop where
  ex : ∃ lw' n' P', e = .returned (.agg #[.nilIface, .int .i32 0]) ∧ n ≤ n' ∧ n' ≤ n + (1 + cntTL d kids) ∧ CtxOK w' cb pw pn lw' n' S m pb ∧ FrM (Mod lo hi cb lw) w w' ∧ OwnG w lw lw' ∧ OutS w' lw' n' (out ++ lowM (d + 1) true (.mk l 1 kids)) P' ∧ ∀ g, P' g → P g ∨ (lo ≤ g ∧ g < hi) ∨ w.heap.size ≤ g
structure StyRS (d : Nat) (kids : List Tr) (l : Int) (w X : World) (lo mid b sb cb : Nat) (lw : Value) (n : Nat) (out : List Tr) (P : Nat → Prop) (p : Option Addr × Nat × Nat × World) : Prop where
  facts : p.2.2.2.cell? ⟨w.heap.size + 1, 0, none⟩ = some (.pointer (some ⟨cb, 0, none⟩)) ∧ w.heap.size + 1 < p.2.2.2.heap.size ∧ p.2.2.2.cell? ⟨cb, 2, none⟩ = some lw ∧ p.2.2.2.frozen? ⟨cb, 2, none⟩ = false ∧ cb < p.2.2.2.heap.size
  n1 : n ≤ p.2.1
  n2 : p.2.1 ≤ n + (1 + cntTL d kids)
  own : OwnRu p.2.2.2 (.slice p.1 p.2.1 p.2.2.1) p.2.1
  fr : FrM (fun g => (lo ≤ g ∧ g < mid) ∨ g = b ∨ g = sb ∨ lw.ownBlock = some g) X p.2.2.2
  og : OwnG X lw (.slice p.1 p.2.1 p.2.2.1)
  outS : ∃ P', OutS p.2.2.2 (.slice p.1 p.2.1 p.2.2.1) p.2.1 (out ++ lowM (d + 1) true (.mk l 1 kids)) P' ∧ ∀ g, P' g → P g ∨ (lo ≤ g ∧ g < mid) ∨ g = b ∨ X.heap.size ≤ g
theorem sty_finS {w W X X' : World} {sb b : Nat} {l : Int} {cb : Nat} {u : Value} {lo mid hi : Nat} {pw pn lw lw' : Value} {n n' : Nat} {S P P' : Nat → Prop} {m pb : Nat} {out outN : List Tr} (hC : CtxOK w cb pw pn lw n S m pb) (hOff : Off lo hi cb pb lw S) (h1 : lo ≤ mid) (h2 : mid ≤ b) (h3 : b < hi) (h4 : hi ≤ w.heap.size) (hst : StS w W sb b l cb u) (hX : Below W.heap.size W X) (hOS : OutS w lw n out P) (hPO : ∀ g, P g → (g < lo ∨ hi ≤ g) ∧ g ≠ cb) (hS : OutS X' lw' n' outN P') (hP : ∀ g, P' g → P g ∨ (lo ≤ g ∧ g < mid) ∨ g = b ∨ X.heap.size ≤ g) (hG : OwnG X lw lw') :
    OutS (((X'.setCell ⟨cb, 2, none⟩ lw').setCell ⟨w.heap.size + 1 + 1, 0, none⟩ .nilIface).setCell ⟨w.heap.size + 1 + 1, 1, none⟩ (.int .i32 0)) lw' n' outN P' ∧ ∀ g, P' g → P g ∨ (lo ≤ g ∧ g < hi) ∨ w.heap.size ≤ g := by
  have s1 := hst.fr.size
  have s2 := hX.size
  have hcl := heap_lt hC.cx
  have hb6 := heap_lt hst.b6
  have hcb := hOff.1
  have hcbo : some cb ≠ lw.ownBlock := fun e => by
    obtain ⟨xs, ho, _⟩ := hC.own
    obtain ⟨cur, q⟩ := own_type ho e.symm
    rw [hC.cx] at q
    injection q with q
    injection q with _ q _
    exact absurd q (by decide)
  refine ⟨hS.keep (by simp [World.setCell]) (fun g hg => ?_), fun g hg => ?_⟩
  · have hne : g ≠ cb ∧ g ≠ w.heap.size + 1 + 1 := by
      rcases hg with hg | hg
      · rcases hP g hg with h | h | h | h
        · have := (hOS.sP g h).1; exact ⟨(hPO g h).2, by omega⟩
        · exact ⟨by omega, by omega⟩
        · exact ⟨by omega, by omega⟩
        · exact ⟨by omega, by omega⟩
      · rcases hG with e | ⟨g', e, hq⟩
        · rw [hg] at e
          have := hC.ownlt e.symm
          exact ⟨by rintro rfl; exact hcbo e, by omega⟩
        · rw [e] at hg
          have := Option.some.inj hg
          exact ⟨by omega, by omega⟩
    exact (set2o _ 0 _ _ hne.2).trans (hother _ _ _ hne.1)
  · rcases hP g hg with h | h | h | h
    · exact Or.inl h
    · exact Or.inr (Or.inl ⟨h.1, by omega⟩)
    · exact Or.inr (Or.inl ⟨by omega, by omega⟩)
    · exact Or.inr (Or.inr (by omega))
set_option maxHeartbeats 16000000 in
set_option maxRecDepth 100000 in
theorem ctx26sS (d : Nat) (H : PLowS d) (kids : List Tr) (w : World) (lo mid hi b sb sc : Nat) (l : Int) (rs x : Value) (a0 : Option Addr) (c0 : Nat) (cb : Nat) (pw pn lw : Value) (n : Nat) (S : Nat → Prop) (m pb : Nat) (h1 : lo ≤ mid) (h2 : mid ≤ b) (h3 : b < hi) (h4 : hi ≤ w.heap.size) (hb : w.heap[b]? = some (.cells #[.slice (some ⟨sb, 0, none⟩) 1 sc, rs, x] 114 (0, 0))) (h5 : mid ≤ sb) (h6 : sb < hi) (hs : w.heap[sb]? = some (.cells #[.slice a0 1 c0] 120 (0, 0))) (hc0 : 1 ≤ c0) (hu : RowL CpH w (fun g => mid ≤ g ∧ g < hi ∧ g ≠ sb ∧ g ≠ b) (.slice a0 1 c0) (us 1)) (hk : KidsR (fun lo hi => InT d w lo hi) w lo mid rs kids) (hC : CtxOK w cb pw pn lw n S m pb) (hOff : Off lo hi cb pb lw S) (hmd : m + 1 + d ≤ 10000) (hnn : n + 1 + cntTL d kids ≤ 1000000) (out : List Tr) (PP : Nat → Prop) (hOS : OutS w lw n out PP) (hPO : ∀ g, PP g → (g < lo ∨ hi ≤ g) ∧ g ≠ cb) :
    Calls Tryz.prog 35 #[.pointer (some ⟨pb, 0, none⟩), .agg #[.iface 110 (.pointer (some ⟨b, 0, none⟩)), .int .i32 l], .pointer (some ⟨cb, 0, none⟩)] w fun e w' => StyKS d kids l lo hi cb pw pn lw n S m pb out PP w e w' := by
  obtain ⟨P, hP⟩ : ∃ P : Nat → Prop, P = fun g => mid ≤ g ∧ g < hi ∧ g ≠ sb ∧ g ≠ b := ⟨_, rfl⟩
  rw [← hP] at hu
  have hPs : ∀ g, P g → g < w.heap.size ∧ g ≠ sb := fun g hg => by rw [hP] at hg; exact ⟨by omega, hg.2.2.1⟩
  obtain ⟨an, cn, rfl⟩ : ∃ a c, pn = .slice a 1 c := by
    obtain ⟨a, c, e, _⟩ := hC.rn
    exact ⟨a, c, e⟩
  obtain ⟨la, lc, rfl, hlc⟩ : ∃ a c, lw = .slice a n c ∧ n ≤ c := by
    obtain ⟨xs, ho, _⟩ := hC.own
    exact own_shape ho
  have HOS := hid (And.intro hOS hPO)
  clear hOS hPO
  have hbs : b ≠ sb := by
    rintro rfl
    rw [hs] at hb
    injection hb with hb
    injection hb with _ hb _
    exact absurd hb (by decide)
  have hbl := heap_lt hb
  have hsl := heap_lt hs
  obtain ⟨W1, hW1⟩ : ∃ X, X = w.alloc (.cells #[.iface 110 (.pointer (some ⟨b, 0, none⟩)), .int .i32 l] 39) := ⟨_, rfl⟩
  have hw1 : Below w.heap.size w W1 := by rw [hW1]; exact (Below.refl _ _).alloc (Nat.le_refl _) _
  have h11 : W1.heap[w.heap.size]? = some (.cells #[.iface 110 (.pointer (some ⟨b, 0, none⟩)), .int .i32 l] 39 (0, 0)) := by rw [hW1]; exact heap_alloc_new _ _
  have s1 : W1.heap.size = w.heap.size + 1 := by rw [hW1]; simp
  obtain ⟨W2, hW2⟩ : ∃ X, X = W1.alloc (.cells #[.pointer (some ⟨cb, 0, none⟩)] 141) := ⟨_, rfl⟩
  have hw2 : Below W1.heap.size W1 W2 := by rw [hW2]; exact (Below.refl _ _).alloc (Nat.le_refl _) _
  have h22 : W2.heap[W1.heap.size]? = some (.cells #[.pointer (some ⟨cb, 0, none⟩)] 141 (0, 0)) := by rw [hW2]; exact heap_alloc_new _ _
  obtain ⟨W3, hW3⟩ : ∃ X, X = W2.alloc (.cells #[.nilIface, .int .i32 0] 39) := ⟨_, rfl⟩
  have hw3 : Below W2.heap.size W2 W3 := by rw [hW3]; exact (Below.refl _ _).alloc (Nat.le_refl _) _
  have s2 : W2.heap.size = W1.heap.size + 1 := by rw [hW2]; simp
  have h31 := (hw3.block _ (heap_lt ((hw2.block _ (heap_lt h11)).trans h11))).trans ((hw2.block _ (heap_lt h11)).trans h11)
  have h32 := (hw3.block _ (heap_lt h22)).trans h22
  have h33 : W3.heap[W2.heap.size]? = some (.cells #[.nilIface, .int .i32 0] 39 (0, 0)) := by rw [hW3]; exact heap_alloc_new _ _
  rw [s2, s1] at h33
  rw [s1] at h32
  have hw13 : Below w.heap.size w W3 := hw1.trans ((hw2.mono (by omega)).trans (hw3.mono (by omega)))
  have hst3 : StS w W3 sb b l cb (.slice a0 1 c0) := ⟨FrM.of hw13, (hw13.block _ hsl).trans hs, h31, h32, h33⟩
  have c4 := (hcell h31 0 _ rfl).1
  have kb3 := (hw13.block _ hbl).trans hb
  have k3 := (hcell kb3 0 _ rfl).1
  have hP3 : Keep w W3 P P := ⟨hw13.size, fun g hg _ => hw13.block g (hPs g hg).1, fun g hg _ => hg⟩
  have CT := hid (ct27 (some ⟨sb, 0, none⟩) 1 sc 1 (fun g => P g ∨ g = sb) W3 (by decide) ⟨_, sc, rfl, fun i hi => by
    have hi0 : i = 0 := by simp at hi; omega
    subst hi0
    refine ⟨sb, rfl, Or.inr rfl, heap_lt hst3.hs, a0, c0, (hcell hst3.hs 0 _ rfl).1, hc0, ?_⟩
    exact (hu.keep hP3).keep ⟨Nat.le_refl _, fun _ _ _ => rfl, fun g hg _ => Or.inl hg⟩⟩)
  have t1 := asR_S
  have HW := hid (And.intro hW1 (And.intro hW2 hW3))
  have HH := hid (And.intro h1 (And.intro h2 (And.intro h3 (And.intro h4 (And.intro hb (And.intro h5 (And.intro h6 (And.intro hs (And.intro hc0 (And.intro hu (And.intro hk (And.intro hC (And.intro hOff (And.intro hmd (And.intro hnn hlc)))))))))))))))
  have HX := hid (And.intro hst3 (And.intro hw13 (And.intro hbl (And.intro hsl (And.intro hbs (And.intro hP (And.intro hPs kb3)))))))
  clear hW1 hW2 hW3 h1 h2 h3 h4 hb h5 h6 hs hc0 hu hk hC hOff hmd hnn hlc hst3 hw13 hbl hsl hbs hP hPs kb3 hw1 h11 s1 hw2 h22 hw3 s2 h31 h32 h33 hP3
  go_enter Tryz.func35, Tryz.ntmps35
  go_upto_region 1 with fail
  rw [← HW.out.1, ← HW.out.2.1, ← HW.out.2.2]
  go_upto_region 5 with fail
  clear c4 t1
  go_wp2_with fail
  refine CT.out.mono ?_
  rintro e W4 hR
  obtain ⟨rfl, hb4⟩ := hR.ex
  clear hR CT k3
  obtain ⟨hst3, hw13, hbl, hsl, hbs, hP, hPs, kb3⟩ := HX.out
  have hst4 := hst3.below hsl hb4
  have kb4 := (hb4.block _ (heap_lt kb3)).trans kb3
  have k4 := (hcell kb4 0 _ rfl).1
  have u4 := (hcell hst4.hs 0 _ rfl).1
  have hu4 : RowL CpH W4 P (.slice a0 1 c0) (us 1) := HH.out.2.2.2.2.2.2.2.2.2.1.keep ⟨hst4.fr.size, fun g hg hl => hst4.fr.block g hl (hPs g hg).2, fun g hg _ => hg⟩
  have CI := hid (ir28 a0 1 c0 1 P W4 (by decide) (Nat.le_refl _) hu4)
  have HST4 := hid (And.intro hst4 (And.intro kb4 hu4))
  clear hst3 hw13 hbl hsl hbs hP hPs kb3 hst4 kb4 hb4 hu4
  go_upto_region 7 with fail
  go_loopg [57] 1 (fun g v wx => Sl1 w W4 P sb b l cb g v wx)
  case atStart => exact ⟨Or.inl ⟨rfl, rfl, rfl⟩⟩
  case round =>
    rcases hrel.ex with ⟨hg, rfl, rfl⟩ | ⟨hg, rfl, q6, c6, nb, ub, sc6, hB⟩
    · obtain rfl := hg
      clear hrel
      go_upto_region 10 with fail
      go_wp2_with fail
      refine CI.out.mono ?_
      rintro e W5 hR
      obtain ⟨rfl, hb5⟩ := hR.ex
      obtain ⟨hst3, hw13, hbl, hsl, hbs, hP, hPs, kb3⟩ := HX.out
      obtain ⟨hst4, kb4, hu4⟩ := HST4.out
      clear hR CI k4 u4
      have hst5 := hst4.below hsl hb5
      have hu5 : RowL CpH W5 P (.slice a0 1 c0) (us 1) := hu4.below hb5
      obtain ⟨g0, cs, rfl, hpg, hgl, hcl, hcc, hc1, hcE⟩ := cp_cells hu5 (by decide)
      obtain ⟨e0, ⟨s0, e1, hs0⟩, e2, e3, e4, e5⟩ := hcE 0 (by decide)
      obtain ⟨ub, vb, sc6, rfl, -⟩ := hov_at hs0
      have x1 := heap_alloc_new W5 (.cells #[.int .i32 l] 37)
      have x2 := heap_alloc_new (W5.alloc (.cells #[.int .i32 l] 37)) (.cells #[.pointer none, .slice none 0 0, .slice (some ⟨W5.heap.size, 0, none⟩) 1 1, .int .i32 0, .int .u8 0, .bool false] 134)
      have hz1 : (W5.alloc (.cells #[.int .i32 l] 37)).heap.size = W5.heap.size + 1 := by simp
      rw [hz1] at x2
      have hb2 : Below W5.heap.size W5 (((W5.alloc (.cells #[.int .i32 l] 37)).alloc (.cells #[.pointer none, .slice none 0 0, .slice (some ⟨W5.heap.size, 0, none⟩) 1 1, .int .i32 0, .int .u8 0, .bool false] 134)).drew) := (((Below.refl _ _).alloc (Nat.le_refl _) _).alloc (by simp) _).drew
      have hz2 : (((W5.alloc (.cells #[.int .i32 l] 37)).alloc (.cells #[.pointer none, .slice none 0 0, .slice (some ⟨W5.heap.size, 0, none⟩) 1 1, .int .i32 0, .int .u8 0, .bool false] 134)).drew).heap.size = W5.heap.size + 2 := by show ((W5.alloc (.cells #[.int .i32 l] 37)).alloc (.cells #[.pointer none, .slice none 0 0, .slice (some ⟨W5.heap.size, 0, none⟩) 1 1, .int .i32 0, .int .u8 0, .bool false] 134)).heap.size = _; simp
      have hn2 : (((W5.alloc (.cells #[.int .i32 l] 37)).alloc (.cells #[.pointer none, .slice none 0 0, .slice (some ⟨W5.heap.size, 0, none⟩) 1 1, .int .i32 0, .int .u8 0, .bool false] 134)).drew).heap[W5.heap.size]? = some (.cells #[.int .i32 l] 37 (0, 0)) := (Below.heap_alloc _ _ _ (by omega)).trans x1
      obtain ⟨v6, w6, ha6, ho6, hg6, hat6⟩ := own_app 118 134 _ 6 72 Tryz.underlying118 info_CP rfl (by decide) (by decide) (((W5.alloc (.cells #[.int .i32 l] 37)).alloc (.cells #[.pointer none, .slice none 0 0, .slice (some ⟨W5.heap.size, 0, none⟩) 1 1, .int .i32 0, .int .u8 0, .bool false] 134)).drew) (.slice (some ⟨W5.heap.size + 1, 0, none⟩) 1 1) 1 (ampC W5.heap.size) ⟨rfl, Or.inr ⟨W5.heap.size + 1, 1, _, rfl, Nat.zero_le _, x2, Nat.le_refl _, by decide, rfl, rfl⟩⟩ ⟨g0, 0, none⟩ 1 c0 cs hcl (fun j u hj => by
        have hj' : j < cs.length := (List.getElem?_eq_some_iff.1 hj).1
        rw [add0, cellLow (hb2.block g0 hgl), hcc j (by omega)]
        exact hj) hc1 (by decide)
      obtain ⟨g6, c6, rfl, hB⟩ := StB.made hst5 hsl hPs hb2 hn2 hz2 ho6 hg6 (fun q hq => by
        rcases hat6 with e | e
        · rw [e] at hq; have : W5.heap.size + 1 = q := Option.some.inj hq; omega
        · rw [e] at hq; have h7 : (((W5.alloc (.cells #[.int .i32 l] 37)).alloc (.cells #[.pointer none, .slice none 0 0, .slice (some ⟨W5.heap.size, 0, none⟩) 1 1, .int .i32 0, .int .u8 0, .bool false] 134)).drew).heap.size = q := Option.some.inj hq; omega) (fun j hj => by
        rcases (by omega : j = 0 ∨ j = 1 ∨ j = 2 ∨ j = 3 ∨ j = 4 ∨ j = 5) with rfl | rfl | rfl | rfl | rfl | rfl
        · exact e0
        · exact e1
        · exact e2
        · exact e3
        · exact e4
        · exact e5) hs0
      have l5 := (hcell hst5.b4 1 _ rfl).1
      have hN5 := heap_lt hst5.b4
      have u5 := (hcell hst5.hs 0 _ rfl).1
      have hS5 := heap_lt hst5.hs
      have hs6 : w6.heap[sb]? = some (.cells #[.slice (some ⟨g0, 0, none⟩) 1 c0] 120 (0, 0)) := (hg6.block sb (by have := hb2.size; omega) (fun e => by have : sb = W5.heap.size + 1 := Option.some.inj e; omega)).trans ((hb2.block sb hS5).trans hst5.hs)
      obtain ⟨x6, xf6⟩ := hcell hs6 0 _ rfl
      have hS6 := heap_lt hs6
      have HA6 := hid ha6
      have HB := hid hB
      clear hst3 hw13 hbl hsl hbs hP hPs kb3 hst4 kb4 hu4 hst5 hu5 hpg hgl hcl hcc hc1 hcE e0 e1 e2 e3 e4 e5 hs0 x1 x2 hz1 hz2 hb2 hn2 ha6 ho6 hg6 hat6 hs6 hB hb5
      go_upto_region 11 with fail
      refine wp_region_dl [(some 70, .pointer (some ⟨sb, 0, none⟩)), (some 71, .pointer (some ⟨w.heap.size, 1, none⟩)), (some 72, .agg #[.int .i32 l]), (some 73, .slice (some ⟨W5.heap.size, 0, none⟩) 1 1), (some 74, .agg #[.pointer none, .slice none 0 0, .slice (some ⟨W5.heap.size, 0, none⟩) 1 1, .int .i32 0, .int .u8 0, .bool false]), (some 75, .slice (some ⟨W5.heap.size + 1, 0, none⟩) 1 1), (some 76, .pointer (some ⟨sb, 0, none⟩)), (some 77, .pointer (some ⟨sb, 0, none⟩)), (some 78, .pointer (some ⟨sb, 0, none⟩)), (some 79, .slice (some ⟨g0, 0, none⟩) 1 c0), (some 80, .slice (some ⟨g6, 0, none⟩) 2 c6), (some 81, .pointer (some ⟨sb, 0, none⟩)), (some 82, .pointer (some ⟨sb, 0, none⟩)), (none, undef)] [3, 5, 10, 13] (fun j => ([W5.drew, (W5.alloc (.cells #[.int .i32 l] 37)).drew, ((W5.alloc (.cells #[.int .i32 l] 37)).alloc (.cells #[.pointer none, .slice none 0 0, .slice (some ⟨W5.heap.size, 0, none⟩) 1 1, .int .i32 0, .int .u8 0, .bool false] 134)).drew, w6, w6.setCell ⟨sb, 0, none⟩ (.slice (some ⟨g6, 0, none⟩) 2 c6)] : List World).getD j W5.drew) (fun i => [0, 0, 0, 0, 1, 1, 0, 0, 0, 0, 2, 0, 0, 3].getD i 0) (fun i => [3, 0, 0, 0, 1, 1, 2, 2, 2, 2, 2, 3, 3, 3].getD i 0) 461 (by kernel_rfl) (by kernel_rfl) (by kernel_rfl) (by kernel_rfl) (by decide) (by kernel_rfl) rfl (by kernel_rfl) ?hop11 ?hend11
      case hop11 =>
        intro i o j a ho h1 h2 hd hf K hK
        have hin : i = 0 ∨ i = 1 ∨ i = 2 ∨ i = 3 ∨ i = 4 ∨ i = 5 ∨ i = 6 ∨ i = 7 ∨ i = 8 ∨ i = 9 ∨ i = 10 ∨ i = 11 ∨ i = 12 ∨ i = 13 := by
          rcases Nat.lt_or_ge i 14 with h | h
          · omega
          · rw [Array.getElem?_eq_none h] at ho
            cases ho
        rcases hin with rfl | rfl | rfl | rfl | rfl | rfl | rfl | rfl | rfl | rfl | rfl | rfl | rfl | rfl
        · simp only [List.getElem?_toArray, List.getElem?_cons_zero, Option.some.injEq] at ho
          subst ho
          have v0 : a.eval (.tmp 11) = .pointer (some ⟨sb, 0, none⟩) := (hf 11 (by kernel_rfl)).trans (by kernel_rfl)
          have u0 : a.tmps[11]?.getD undef = .pointer (some ⟨sb, 0, none⟩) := by rw [← Array.getD_eq_getD_getElem?]; exact v0
          clear v0
          have hj : j = 0 ∨ j = 1 ∨ j = 2 ∨ j = 3 := by simp at h1 h2; omega
          clear h1 h2 hd hf
          rcases hj with rfl | rfl | rfl | rfl
          · replace hK : K (a.put (some 70) (.pointer (some ⟨sb, 0, none⟩))) (W5.drew) := hK
            have HK := Lib.hid hK
            clear hK
            show if Region.wanted _ (yielded _ a.tmps) = true then Oper.wp _ _ a (W5.drew) K _ else _
            go_simp
            exact HK.out
          · replace hK : K (a.put (some 70) (.pointer (some ⟨sb, 0, none⟩))) ((W5.alloc (.cells #[.int .i32 l] 37)).drew) := hK
            have HK := Lib.hid hK
            clear hK
            show if Region.wanted _ (yielded _ a.tmps) = true then Oper.wp _ _ a ((W5.alloc (.cells #[.int .i32 l] 37)).drew) K _ else _
            go_simp
            exact HK.out
          · replace hK : K (a.put (some 70) (.pointer (some ⟨sb, 0, none⟩))) (((W5.alloc (.cells #[.int .i32 l] 37)).alloc (.cells #[.pointer none, .slice none 0 0, .slice (some ⟨W5.heap.size, 0, none⟩) 1 1, .int .i32 0, .int .u8 0, .bool false] 134)).drew) := hK
            have HK := Lib.hid hK
            clear hK
            show if Region.wanted _ (yielded _ a.tmps) = true then Oper.wp _ _ a (((W5.alloc (.cells #[.int .i32 l] 37)).alloc (.cells #[.pointer none, .slice none 0 0, .slice (some ⟨W5.heap.size, 0, none⟩) 1 1, .int .i32 0, .int .u8 0, .bool false] 134)).drew) K _ else _
            go_simp
            exact HK.out
          · replace hK : K (a.put (some 70) (.pointer (some ⟨sb, 0, none⟩))) (w6) := hK
            have HK := Lib.hid hK
            clear hK
            show if Region.wanted _ (yielded _ a.tmps) = true then Oper.wp _ _ a (w6) K _ else _
            go_simp
            exact HK.out
        · simp only [List.getElem?_toArray, List.getElem?_cons_zero, List.getElem?_cons_succ, Option.some.injEq] at ho
          subst ho
          have v0 : a.eval (.tmp 4) = .pointer (some ⟨w.heap.size, 0, none⟩) := (hf 4 (by kernel_rfl)).trans (by kernel_rfl)
          have u0 : a.tmps[4]?.getD undef = .pointer (some ⟨w.heap.size, 0, none⟩) := by rw [← Array.getD_eq_getD_getElem?]; exact v0
          clear v0
          have hj : j = 0 := by simp at h1 h2; omega
          clear h1 h2 hd hf
          rcases hj with rfl
          · replace hK : K (a.put (some 71) (.pointer (some ⟨w.heap.size, 1, none⟩))) (W5.drew) := hK
            have HK := Lib.hid hK
            clear hK
            show if Region.wanted _ (yielded _ a.tmps) = true then Oper.wp _ _ a (W5.drew) K _ else _
            go_simp
            exact HK.out
        · simp only [List.getElem?_toArray, List.getElem?_cons_zero, List.getElem?_cons_succ, Option.some.injEq] at ho
          subst ho
          have v0 : a.eval (.tmp 71) = .pointer (some ⟨w.heap.size, 1, none⟩) := hd 1 71 (by kernel_rfl) (by kernel_rfl)
          have u0 : a.tmps[71]?.getD undef = .pointer (some ⟨w.heap.size, 1, none⟩) := by rw [← Array.getD_eq_getD_getElem?]; exact v0
          clear v0
          have hj : j = 0 := by simp at h1 h2; omega
          clear h1 h2 hd hf
          rcases hj with rfl
          · replace hK : K (a.put (some 72) (.agg #[.int .i32 l])) (W5.drew) := hK
            have HK := Lib.hid hK
            clear hK
            show if Region.wanted _ (yielded _ a.tmps) = true then Oper.wp _ _ a (W5.drew) K _ else _
            go_simp
            exact HK.out
        · simp only [List.getElem?_toArray, List.getElem?_cons_zero, List.getElem?_cons_succ, Option.some.injEq] at ho
          subst ho
          have v0 : a.eval (.tmp 72) = .agg #[.int .i32 l] := hd 2 72 (by kernel_rfl) (by kernel_rfl)
          have u0 : a.tmps[72]?.getD undef = .agg #[.int .i32 l] := by rw [← Array.getD_eq_getD_getElem?]; exact v0
          clear v0
          have hj : j = 0 := by simp at h1 h2; omega
          clear h1 h2 hd hf
          rcases hj with rfl
          · replace hK : K (a.put (some 73) (.slice (some ⟨W5.heap.size, 0, none⟩) 1 1)) ((W5.alloc (.cells #[.int .i32 l] 37)).drew) := hK
            have HK := Lib.hid hK
            clear hK
            show if Region.wanted _ (yielded _ a.tmps) = true then Oper.wp _ _ a (W5.drew) K _ else _
            go_simp
            exact HK.out
        · simp only [List.getElem?_toArray, List.getElem?_cons_zero, List.getElem?_cons_succ, Option.some.injEq] at ho
          subst ho
          have v0 : a.eval (.tmp 73) = .slice (some ⟨W5.heap.size, 0, none⟩) 1 1 := hd 3 73 (by kernel_rfl) (by kernel_rfl)
          have u0 : a.tmps[73]?.getD undef = .slice (some ⟨W5.heap.size, 0, none⟩) 1 1 := by rw [← Array.getD_eq_getD_getElem?]; exact v0
          clear v0
          have hj : j = 1 := by simp at h1 h2; omega
          clear h1 h2 hd hf
          rcases hj with rfl
          · replace hK : K (a.put (some 74) (.agg #[.pointer none, .slice none 0 0, .slice (some ⟨W5.heap.size, 0, none⟩) 1 1, .int .i32 0, .int .u8 0, .bool false])) ((W5.alloc (.cells #[.int .i32 l] 37)).drew) := hK
            have HK := Lib.hid hK
            clear hK
            show if Region.wanted _ (yielded _ a.tmps) = true then Oper.wp _ _ a ((W5.alloc (.cells #[.int .i32 l] 37)).drew) K _ else _
            go_simp
            exact HK.out
        · simp only [List.getElem?_toArray, List.getElem?_cons_zero, List.getElem?_cons_succ, Option.some.injEq] at ho
          subst ho
          have v0 : a.eval (.tmp 74) = .agg #[.pointer none, .slice none 0 0, .slice (some ⟨W5.heap.size, 0, none⟩) 1 1, .int .i32 0, .int .u8 0, .bool false] := hd 4 74 (by kernel_rfl) (by kernel_rfl)
          have u0 : a.tmps[74]?.getD undef = .agg #[.pointer none, .slice none 0 0, .slice (some ⟨W5.heap.size, 0, none⟩) 1 1, .int .i32 0, .int .u8 0, .bool false] := by rw [← Array.getD_eq_getD_getElem?]; exact v0
          clear v0
          have hj : j = 1 := by simp at h1 h2; omega
          clear h1 h2 hd hf
          rcases hj with rfl
          · replace hK : K (a.put (some 75) (.slice (some ⟨W5.heap.size + 1, 0, none⟩) 1 1)) (((W5.alloc (.cells #[.int .i32 l] 37)).alloc (.cells #[.pointer none, .slice none 0 0, .slice (some ⟨W5.heap.size, 0, none⟩) 1 1, .int .i32 0, .int .u8 0, .bool false] 134)).drew) := hK
            have HK := Lib.hid hK
            clear hK
            show if Region.wanted _ (yielded _ a.tmps) = true then Oper.wp _ _ a ((W5.alloc (.cells #[.int .i32 l] 37)).drew) K _ else _
            go_simp
            exact HK.out
        · simp only [List.getElem?_toArray, List.getElem?_cons_zero, List.getElem?_cons_succ, Option.some.injEq] at ho
          subst ho
          have v0 : a.eval (.tmp 11) = .pointer (some ⟨sb, 0, none⟩) := (hf 11 (by kernel_rfl)).trans (by kernel_rfl)
          have u0 : a.tmps[11]?.getD undef = .pointer (some ⟨sb, 0, none⟩) := by rw [← Array.getD_eq_getD_getElem?]; exact v0
          clear v0
          have hj : j = 0 ∨ j = 1 ∨ j = 2 := by simp at h1 h2; omega
          clear h1 h2 hd hf
          rcases hj with rfl | rfl | rfl
          · replace hK : K (a.put (some 76) (.pointer (some ⟨sb, 0, none⟩))) (W5.drew) := hK
            have HK := Lib.hid hK
            clear hK
            show if Region.wanted _ (yielded _ a.tmps) = true then Oper.wp _ _ a (W5.drew) K _ else _
            go_simp
            exact HK.out
          · replace hK : K (a.put (some 76) (.pointer (some ⟨sb, 0, none⟩))) ((W5.alloc (.cells #[.int .i32 l] 37)).drew) := hK
            have HK := Lib.hid hK
            clear hK
            show if Region.wanted _ (yielded _ a.tmps) = true then Oper.wp _ _ a ((W5.alloc (.cells #[.int .i32 l] 37)).drew) K _ else _
            go_simp
            exact HK.out
          · replace hK : K (a.put (some 76) (.pointer (some ⟨sb, 0, none⟩))) (((W5.alloc (.cells #[.int .i32 l] 37)).alloc (.cells #[.pointer none, .slice none 0 0, .slice (some ⟨W5.heap.size, 0, none⟩) 1 1, .int .i32 0, .int .u8 0, .bool false] 134)).drew) := hK
            have HK := Lib.hid hK
            clear hK
            show if Region.wanted _ (yielded _ a.tmps) = true then Oper.wp _ _ a (((W5.alloc (.cells #[.int .i32 l] 37)).alloc (.cells #[.pointer none, .slice none 0 0, .slice (some ⟨W5.heap.size, 0, none⟩) 1 1, .int .i32 0, .int .u8 0, .bool false] 134)).drew) K _ else _
            go_simp
            exact HK.out
        · simp only [List.getElem?_toArray, List.getElem?_cons_zero, List.getElem?_cons_succ, Option.some.injEq] at ho
          subst ho
          have v0 : a.eval (.tmp 76) = .pointer (some ⟨sb, 0, none⟩) := hd 6 76 (by kernel_rfl) (by kernel_rfl)
          have u0 : a.tmps[76]?.getD undef = .pointer (some ⟨sb, 0, none⟩) := by rw [← Array.getD_eq_getD_getElem?]; exact v0
          clear v0
          have hj : j = 0 ∨ j = 1 ∨ j = 2 := by simp at h1 h2; omega
          clear h1 h2 hd hf
          rcases hj with rfl | rfl | rfl
          · replace hK : K (a.put (some 77) (.pointer (some ⟨sb, 0, none⟩))) (W5.drew) := hK
            have HK := Lib.hid hK
            clear hK
            show if Region.wanted _ (yielded _ a.tmps) = true then Oper.wp _ _ a (W5.drew) K _ else _
            go_simp
            exact HK.out
          · replace hK : K (a.put (some 77) (.pointer (some ⟨sb, 0, none⟩))) ((W5.alloc (.cells #[.int .i32 l] 37)).drew) := hK
            have HK := Lib.hid hK
            clear hK
            show if Region.wanted _ (yielded _ a.tmps) = true then Oper.wp _ _ a ((W5.alloc (.cells #[.int .i32 l] 37)).drew) K _ else _
            go_simp
            exact HK.out
          · replace hK : K (a.put (some 77) (.pointer (some ⟨sb, 0, none⟩))) (((W5.alloc (.cells #[.int .i32 l] 37)).alloc (.cells #[.pointer none, .slice none 0 0, .slice (some ⟨W5.heap.size, 0, none⟩) 1 1, .int .i32 0, .int .u8 0, .bool false] 134)).drew) := hK
            have HK := Lib.hid hK
            clear hK
            show if Region.wanted _ (yielded _ a.tmps) = true then Oper.wp _ _ a (((W5.alloc (.cells #[.int .i32 l] 37)).alloc (.cells #[.pointer none, .slice none 0 0, .slice (some ⟨W5.heap.size, 0, none⟩) 1 1, .int .i32 0, .int .u8 0, .bool false] 134)).drew) K _ else _
            go_simp
            exact HK.out
        · simp only [List.getElem?_toArray, List.getElem?_cons_zero, List.getElem?_cons_succ, Option.some.injEq] at ho
          subst ho
          have v0 : a.eval (.tmp 77) = .pointer (some ⟨sb, 0, none⟩) := hd 7 77 (by kernel_rfl) (by kernel_rfl)
          have u0 : a.tmps[77]?.getD undef = .pointer (some ⟨sb, 0, none⟩) := by rw [← Array.getD_eq_getD_getElem?]; exact v0
          clear v0
          have hj : j = 0 ∨ j = 1 ∨ j = 2 := by simp at h1 h2; omega
          clear h1 h2 hd hf
          rcases hj with rfl | rfl | rfl
          · replace hK : K (a.put (some 78) (.pointer (some ⟨sb, 0, none⟩))) (W5.drew) := hK
            have HK := Lib.hid hK
            clear hK
            show if Region.wanted _ (yielded _ a.tmps) = true then Oper.wp _ _ a (W5.drew) K _ else _
            go_simp
            exact HK.out
          · replace hK : K (a.put (some 78) (.pointer (some ⟨sb, 0, none⟩))) ((W5.alloc (.cells #[.int .i32 l] 37)).drew) := hK
            have HK := Lib.hid hK
            clear hK
            show if Region.wanted _ (yielded _ a.tmps) = true then Oper.wp _ _ a ((W5.alloc (.cells #[.int .i32 l] 37)).drew) K _ else _
            go_simp
            exact HK.out
          · replace hK : K (a.put (some 78) (.pointer (some ⟨sb, 0, none⟩))) (((W5.alloc (.cells #[.int .i32 l] 37)).alloc (.cells #[.pointer none, .slice none 0 0, .slice (some ⟨W5.heap.size, 0, none⟩) 1 1, .int .i32 0, .int .u8 0, .bool false] 134)).drew) := hK
            have HK := Lib.hid hK
            clear hK
            show if Region.wanted _ (yielded _ a.tmps) = true then Oper.wp _ _ a (((W5.alloc (.cells #[.int .i32 l] 37)).alloc (.cells #[.pointer none, .slice none 0 0, .slice (some ⟨W5.heap.size, 0, none⟩) 1 1, .int .i32 0, .int .u8 0, .bool false] 134)).drew) K _ else _
            go_simp
            exact HK.out
        · simp only [List.getElem?_toArray, List.getElem?_cons_zero, List.getElem?_cons_succ, Option.some.injEq] at ho
          subst ho
          have v0 : a.eval (.tmp 78) = .pointer (some ⟨sb, 0, none⟩) := hd 8 78 (by kernel_rfl) (by kernel_rfl)
          have u0 : a.tmps[78]?.getD undef = .pointer (some ⟨sb, 0, none⟩) := by rw [← Array.getD_eq_getD_getElem?]; exact v0
          clear v0
          have hj : j = 0 ∨ j = 1 ∨ j = 2 := by simp at h1 h2; omega
          clear h1 h2 hd hf
          rcases hj with rfl | rfl | rfl
          · replace hK : K (a.put (some 79) (.slice (some ⟨g0, 0, none⟩) 1 c0)) (W5.drew) := hK
            have HK := Lib.hid hK
            clear hK
            show if Region.wanted _ (yielded _ a.tmps) = true then Oper.wp _ _ a (W5.drew) K _ else _
            go_simp
            exact HK.out
          · replace hK : K (a.put (some 79) (.slice (some ⟨g0, 0, none⟩) 1 c0)) ((W5.alloc (.cells #[.int .i32 l] 37)).drew) := hK
            have HK := Lib.hid hK
            clear hK
            show if Region.wanted _ (yielded _ a.tmps) = true then Oper.wp _ _ a ((W5.alloc (.cells #[.int .i32 l] 37)).drew) K _ else _
            go_simp
            exact HK.out
          · replace hK : K (a.put (some 79) (.slice (some ⟨g0, 0, none⟩) 1 c0)) (((W5.alloc (.cells #[.int .i32 l] 37)).alloc (.cells #[.pointer none, .slice none 0 0, .slice (some ⟨W5.heap.size, 0, none⟩) 1 1, .int .i32 0, .int .u8 0, .bool false] 134)).drew) := hK
            have HK := Lib.hid hK
            clear hK
            show if Region.wanted _ (yielded _ a.tmps) = true then Oper.wp _ _ a (((W5.alloc (.cells #[.int .i32 l] 37)).alloc (.cells #[.pointer none, .slice none 0 0, .slice (some ⟨W5.heap.size, 0, none⟩) 1 1, .int .i32 0, .int .u8 0, .bool false] 134)).drew) K _ else _
            go_simp
            exact HK.out
        · simp only [List.getElem?_toArray, List.getElem?_cons_zero, List.getElem?_cons_succ, Option.some.injEq] at ho
          subst ho
          have u0 : a.eval (.tmp 75) = .slice (some ⟨W5.heap.size + 1, 0, none⟩) 1 1 := hd 5 75 (by kernel_rfl) (by kernel_rfl)
          have u1 : a.eval (.tmp 79) = .slice (some ⟨g0, 0, none⟩) 1 c0 := hd 9 79 (by kernel_rfl) (by kernel_rfl)
          have hj : j = 2 := by simp at h1 h2; omega
          clear h1 h2 hd hf
          rcases hj with rfl
          · replace hK : K (a.put (some 80) (.slice (some ⟨g6, 0, none⟩) 2 c6)) (w6) := hK
            have HK := Lib.hid hK
            clear hK
            show if Region.wanted _ (yielded _ a.tmps) = true then Oper.wp _ _ a (((W5.alloc (.cells #[.int .i32 l] 37)).alloc (.cells #[.pointer none, .slice none 0 0, .slice (some ⟨W5.heap.size, 0, none⟩) 1 1, .int .i32 0, .int .u8 0, .bool false] 134)).drew) K _ else _
            exact step_run rfl (.tmp 75) (.tmp 79) 118 rfl (.slice (some ⟨W5.heap.size + 1, 0, none⟩) 1 1) (.slice (some ⟨g0, 0, none⟩) 1 c0) _ w6 u0 u1 HA6.out HK.out
        · simp only [List.getElem?_toArray, List.getElem?_cons_zero, List.getElem?_cons_succ, Option.some.injEq] at ho
          subst ho
          have v0 : a.eval (.tmp 70) = .pointer (some ⟨sb, 0, none⟩) := hd 0 70 (by kernel_rfl) (by kernel_rfl)
          have u0 : a.tmps[70]?.getD undef = .pointer (some ⟨sb, 0, none⟩) := by rw [← Array.getD_eq_getD_getElem?]; exact v0
          clear v0
          have hj : j = 0 ∨ j = 1 ∨ j = 2 ∨ j = 3 := by simp at h1 h2; omega
          clear h1 h2 hd hf
          rcases hj with rfl | rfl | rfl | rfl
          · replace hK : K (a.put (some 81) (.pointer (some ⟨sb, 0, none⟩))) (W5.drew) := hK
            have HK := Lib.hid hK
            clear hK
            show if Region.wanted _ (yielded _ a.tmps) = true then Oper.wp _ _ a (W5.drew) K _ else _
            go_simp
            exact HK.out
          · replace hK : K (a.put (some 81) (.pointer (some ⟨sb, 0, none⟩))) ((W5.alloc (.cells #[.int .i32 l] 37)).drew) := hK
            have HK := Lib.hid hK
            clear hK
            show if Region.wanted _ (yielded _ a.tmps) = true then Oper.wp _ _ a ((W5.alloc (.cells #[.int .i32 l] 37)).drew) K _ else _
            go_simp
            exact HK.out
          · replace hK : K (a.put (some 81) (.pointer (some ⟨sb, 0, none⟩))) (((W5.alloc (.cells #[.int .i32 l] 37)).alloc (.cells #[.pointer none, .slice none 0 0, .slice (some ⟨W5.heap.size, 0, none⟩) 1 1, .int .i32 0, .int .u8 0, .bool false] 134)).drew) := hK
            have HK := Lib.hid hK
            clear hK
            show if Region.wanted _ (yielded _ a.tmps) = true then Oper.wp _ _ a (((W5.alloc (.cells #[.int .i32 l] 37)).alloc (.cells #[.pointer none, .slice none 0 0, .slice (some ⟨W5.heap.size, 0, none⟩) 1 1, .int .i32 0, .int .u8 0, .bool false] 134)).drew) K _ else _
            go_simp
            exact HK.out
          · replace hK : K (a.put (some 81) (.pointer (some ⟨sb, 0, none⟩))) (w6) := hK
            have HK := Lib.hid hK
            clear hK
            show if Region.wanted _ (yielded _ a.tmps) = true then Oper.wp _ _ a (w6) K _ else _
            go_simp
            exact HK.out
        · simp only [List.getElem?_toArray, List.getElem?_cons_zero, List.getElem?_cons_succ, Option.some.injEq] at ho
          subst ho
          have v0 : a.eval (.tmp 81) = .pointer (some ⟨sb, 0, none⟩) := hd 11 81 (by kernel_rfl) (by kernel_rfl)
          have u0 : a.tmps[81]?.getD undef = .pointer (some ⟨sb, 0, none⟩) := by rw [← Array.getD_eq_getD_getElem?]; exact v0
          clear v0
          have hj : j = 0 ∨ j = 1 ∨ j = 2 ∨ j = 3 := by simp at h1 h2; omega
          clear h1 h2 hd hf
          rcases hj with rfl | rfl | rfl | rfl
          · replace hK : K (a.put (some 82) (.pointer (some ⟨sb, 0, none⟩))) (W5.drew) := hK
            have HK := Lib.hid hK
            clear hK
            show if Region.wanted _ (yielded _ a.tmps) = true then Oper.wp _ _ a (W5.drew) K _ else _
            go_simp
            exact HK.out
          · replace hK : K (a.put (some 82) (.pointer (some ⟨sb, 0, none⟩))) ((W5.alloc (.cells #[.int .i32 l] 37)).drew) := hK
            have HK := Lib.hid hK
            clear hK
            show if Region.wanted _ (yielded _ a.tmps) = true then Oper.wp _ _ a ((W5.alloc (.cells #[.int .i32 l] 37)).drew) K _ else _
            go_simp
            exact HK.out
          · replace hK : K (a.put (some 82) (.pointer (some ⟨sb, 0, none⟩))) (((W5.alloc (.cells #[.int .i32 l] 37)).alloc (.cells #[.pointer none, .slice none 0 0, .slice (some ⟨W5.heap.size, 0, none⟩) 1 1, .int .i32 0, .int .u8 0, .bool false] 134)).drew) := hK
            have HK := Lib.hid hK
            clear hK
            show if Region.wanted _ (yielded _ a.tmps) = true then Oper.wp _ _ a (((W5.alloc (.cells #[.int .i32 l] 37)).alloc (.cells #[.pointer none, .slice none 0 0, .slice (some ⟨W5.heap.size, 0, none⟩) 1 1, .int .i32 0, .int .u8 0, .bool false] 134)).drew) K _ else _
            go_simp
            exact HK.out
          · replace hK : K (a.put (some 82) (.pointer (some ⟨sb, 0, none⟩))) (w6) := hK
            have HK := Lib.hid hK
            clear hK
            show if Region.wanted _ (yielded _ a.tmps) = true then Oper.wp _ _ a (w6) K _ else _
            go_simp
            exact HK.out
        · simp only [List.getElem?_toArray, List.getElem?_cons_zero, List.getElem?_cons_succ, Option.some.injEq] at ho
          subst ho
          have v0 : a.eval (.tmp 82) = .pointer (some ⟨sb, 0, none⟩) := hd 12 82 (by kernel_rfl) (by kernel_rfl)
          have u0 : a.tmps[82]?.getD undef = .pointer (some ⟨sb, 0, none⟩) := by rw [← Array.getD_eq_getD_getElem?]; exact v0
          clear v0
          have v1 : a.eval (.tmp 80) = .slice (some ⟨g6, 0, none⟩) 2 c6 := hd 10 80 (by kernel_rfl) (by kernel_rfl)
          have u1 : a.tmps[80]?.getD undef = .slice (some ⟨g6, 0, none⟩) 2 c6 := by rw [← Array.getD_eq_getD_getElem?]; exact v1
          clear v1
          have hj : j = 3 := by simp at h1 h2; omega
          clear h1 h2 hd hf
          rcases hj with rfl
          · replace hK : K (a.put (none) (undef)) (w6.setCell ⟨sb, 0, none⟩ (.slice (some ⟨g6, 0, none⟩) 2 c6)) := hK
            have HK := Lib.hid hK
            clear hK
            show if Region.wanted _ (yielded _ a.tmps) = true then Oper.wp _ _ a (w6) K _ else _
            go_simp
            exact HK.out
      simp only [List.foldl_cons, List.foldl_nil, List.length_cons, List.length_nil, List.getD_cons_succ, List.getD_cons_zero, Nat.zero_add, Nat.reduceAdd]
      simp only [Act.put, List.setIfInBounds_toArray, List.set_cons_zero, List.set_cons_succ]
      clear l5 hN5 u5 hS5 x6 xf6 hS6 HA6
      go_wp2_with fail
      go_roundg 0
      case measure => omega
      case rel => exact ⟨Or.inr ⟨rfl, rfl, g6, c6, _, ub, sc6, HB.out⟩⟩
    · obtain rfl := hg
      obtain ⟨W7, hW7⟩ : ∃ X, X = wr := ⟨_, rfl⟩
      subst hW7
      clear hrel CI k4 u4 HST4
      obtain ⟨hst3, hw13, hbl, hsl, hbs, hP, hPs, kb3⟩ := HX.out
      obtain ⟨h1, h2, h3, h4, hb, h5, h6, hs, hc0, hu, hk, hC, hOff, hmd, hnn, hlc⟩ := HH.out
      have hCr : CtxOK W7 cb pw (.slice an 1 cn) (.slice la n lc) n S m pb := hB.st.ok hC (fun g hg => by have := hOff.out hg; omega)
      have kb7 := (hB.st.fr.block _ hbl hbs).trans hb
      have k7 := (hcell kb7 0 _ rfl).1
      have s7 := (hcell hB.st.hs 0 _ rfl).1
      obtain ⟨parr, hp1, hp2⟩ := hCr.par.ex
      have pb7 := (hcell hp1 48 _ hp2).1
      have u7 := (hcell hB.st.b5 0 _ rfl).1
      have cx7 := (hcell hCr.cx 1 _ rfl).1
      obtain ⟨W9, hW9⟩ : ∃ X, X = W7.alloc (mkO (.agg #[.pointer none, .slice none 0 0, .slice none 0 0, .int .i32 0, .int .u8 0, .bool false]) (2 * 6) 134) := ⟨_, rfl⟩
      have hb9 : Below W7.heap.size W7 W9 := by rw [hW9]; exact (Below.refl _ _).alloc (Nat.le_refl _) _
      have mk9 : (Instr.makeSlice 118 (.int .i64 0) (.int .i64 2)).run Tryz.prog W7 = .ok (.slice (some ⟨W7.heap.size, 0, none⟩) 0 2) W9 := by rw [hW9]; exact mkS0 118 134 _ 6 72 Tryz.underlying118 info_CP (by decide) 2 (by decide) W7
      have ho9 : W9.ownsRow 0 134 6 (.slice (some ⟨W7.heap.size, 0, none⟩) 0 2) 0 [] := by rw [hW9]; exact own_made W7 _ (2 * 6) 134 6 2 rfl (by decide)
      have u9 := (cellLow (hb9.block _ (heap_lt hB.st.b5)) 0).trans u7
      have cx9 := (cellLow (hb9.block _ (heap_lt hCr.cx)) 1).trans cx7
      have CM := hid (mu30 (.pointer (some ⟨pb, 0, none⟩)) an cn W9)
      have HB := hid (And.intro hB (And.intro hCr (And.intro kb7 (And.intro hb9 ho9))))
      clear hst3 hw13 hbl hsl hbs hP hPs kb3 h1 h2 h3 h4 hb h5 h6 hs hc0 hu hk hC hOff hmd hnn hlc hB hCr kb7 hp1 hp2 hb9 ho9 hW9
      clear u7 cx7
      go_wp2_with fail
      refine (has29 _).mono ?_
      rintro e w29 ⟨rfl, rfl⟩
      go_upto_region 15 with fail
      clear pb7
      go_loopg [105] 1 (fun g v wx => Sl2 w W7 S P sb b l cb m g v wx)
      case atStart => exact ⟨Or.inl ⟨rfl, rfl, rfl⟩⟩
      case round =>
        rcases hrel.ex with ⟨hg, rfl, rfl⟩ | ⟨hg, rfl, u, hD⟩
        · obtain rfl := hg
          clear hrel
          go_upto_region 19 with fail
          clear mk9 k7 s7
          go_wp2_with fail
          refine CM.out.mono ?_
          rintro e W10 hR
          obtain ⟨q, rfl, hq9, hq10, hb10⟩ := hR.ex
          obtain ⟨hB, hCr, kb7, hb9, ho9⟩ := HB.out
          obtain ⟨hst3, hw13, hbl, hsl, hbs, hP, hPs, kb3⟩ := HX.out
          clear hR CM u9 cx9
          have hb710 : Below W7.heap.size W7 W10 := hb9.trans (hb10.mono hb9.size)
          have hB10 := hB.below hsl hPs hb710
          have hC10 := hCr.below hb710
          have ho10 := own_below ho9 hb10
          have hN10 : W7.heap.size < W10.heap.size := Nat.lt_of_lt_of_le (ho9.lt _ rfl).2 hb10.size
          have s10 := (hcell hB10.st.hs 0 _ rfl).1
          have HB10 := hid (And.intro hB10 (And.intro hC10 (And.intro ho10 (And.intro hN10 (And.intro hq9 (And.intro hq10 (And.intro hb710 hb9)))))))
          clear hB hCr kb7 hb9 ho9 hst3 hw13 hbl hsl hbs hP hPs kb3 hq9 hq10 hb10 hb710 hB10 hC10 ho10 hN10
          go_upto_region 21 with fail
          clear s10
          go_loopg [14, 131] 2 (fun g v14 v131 wx => Sl3 w W10 S P W7.heap.size m g v14 v131 wx)
          case atStart => exact ⟨Or.inl ⟨rfl, rfl, rfl, rfl⟩⟩
          case round =>
            rcases hrel.ex with ⟨hg, rfl, rfl, rfl⟩ | ⟨hg, rfl, hgx, hvN, news, ho, hE⟩ | ⟨hg, rfl, hgx, hvN, xs, ho, hE⟩
            · obtain rfl := hg
              clear hrel
              obtain ⟨hB10, hC10, ho10, hN10, hq9, hq10, hb710, hb9⟩ := HB10.out
              have a0' := hB10.amp 0 _ rfl
              have a1' := hB10.amp 1 _ rfl
              have a2' := hB10.amp 2 _ rfl
              have a3' := hB10.amp 3 _ rfl
              have a4' := hB10.amp 4 _ rfl
              have a5' := hB10.amp 5 _ rfl
              obtain ⟨W11, hW11⟩ : ∃ X, X = W10.alloc (.cells (ampC nb).toArray 134) := ⟨_, rfl⟩
              have hb11 : Below W10.heap.size W10 W11 := by rw [hW11]; exact (Below.refl _ _).alloc (Nat.le_refl _) _
              have hbox : W11.heap[W10.heap.size]? = some (.cells (ampC nb).toArray 134 (0, 0)) := by rw [hW11]; exact heap_alloc_new _ _
              have y0 := (hcell hbox 0 _ rfl).1
              have y1 := (hcell hbox 1 _ rfl).1
              have y2 := (hcell hbox 2 _ rfl).1
              have y3 := (hcell hbox 3 _ rfl).1
              have y4 := (hcell hbox 4 _ rfl).1
              have y5 := (hcell hbox 5 _ rfl).1
              have hC11 := hC10.below hb11
              obtain ⟨-, gp, va, vc, rfl, hSg, hgp, hgc, hmv, hrr⟩ := cx_at hC11.rn
              have hq11 := (hb11.block q (heap_lt hq10)).trans hq10
              have ho11 := own_below ho10 hb11
              have hSo : ∀ g, S g → some g ≠ (Value.slice (some ⟨W7.heap.size, 0, none⟩) 0 2).ownBlock := fun g hg e => by
                have h8 : g = W7.heap.size := Option.some.inj e
                have := (HB.out.2.1.sS g hg).1
                omega
              have hmm : m ≤ 100000 := by have := HH.out.2.2.2.2.2.2.2.2.2.2.2.2.2.1; omega
              have CS := hid (sa31 (.pointer (some ⟨pb, 0, none⟩)) (.slice (some ⟨W7.heap.size, 0, none⟩) 0 2) l nb 1 q gp cn m vc va S W11 hmm hC11.m1 hmv (Nat.lt_of_lt_of_le (heap_lt hB10.hnb.2) hb11.size) (hcell ((hb11.block nb (heap_lt hB10.hnb.2)).trans hB10.hnb.2) 0 _ rfl).1 (heap_lt hq11) hgp (hcell hq11 0 _ rfl).1 hgc hrr ho11 hSo (fun g hg => (hC11.sS g hg).1))
              have hw11 : w.heap.size + 1 + 1 < W11.heap.size := Nat.lt_of_lt_of_le (heap_lt hB10.st.b6) hb11.size
              have H11 := hid (And.intro hb11 (And.intro hN10 (And.intro hw11 hSo)))
              have HW11 := hid hW11
              clear hB10 hC10 ho10 hN10 hq9 hq10 hb710 hb9 hW11 hb11 hbox hC11 hSg hgp hgc hmv hrr hq11 ho11 hSo hmm hw11
              go_upto_region 23 with fail
              rw [← HW11.out]
              clear a0' a1' a2' a3' a4' a5' HW11
              go_wp2_with fail
              refine CS.out.mono ?_
              rintro e w12 hR
              obtain ⟨v', news, rfl, ho, hE, hS', hgr, hat⟩ := hR.ex
              obtain ⟨hb11, hN10, hw11, hSo⟩ := H11.out
              obtain ⟨av, cv, rfl, _⟩ := own_shape ho
              have HREL := hid (Sl3.one (P := P) hb11 hw11 ho hE hS' hgr hat)
              clear hR CS ho hE hS' hgr hat hb11 hN10 hw11 hSo y0 y1 y2 y3 y4 y5
              go_wp2_with fail
              go_roundg 1
              case measure => omega
              case rel => exact HREL.out
            · obtain rfl := hg
              clear hrel
              obtain ⟨hB10, hC10, ho10, hN10, hq9, hq10, hb710, hb9⟩ := HB10.out
              obtain ⟨hst3, hw13, hbl, hsl, hbs, hP, hPs, kb3⟩ := HX.out
              obtain ⟨av, cv, rfl, _⟩ := own_shape ho
              have hg7 := HB.out.1.hg
              have hn7 := heap_lt HB.out.1.hnb.2
              have hBx := hB10.grown hsl hPs hgx (fun q e => by have h8 : W7.heap.size = q := Option.some.inj e; omega)
              have a0' := hBx.hov 0 _ rfl
              have a1' := hBx.hov 1 _ rfl
              have a2' := hBx.hov 2 _ rfl
              have a3' := hBx.hov 3 _ rfl
              have a4' := hBx.hov 4 _ rfl
              have a5' := hBx.hov 5 _ rfl
              obtain ⟨W11, hW11⟩ : ∃ X, X = wr.alloc (.cells (hovC (.slice (some ⟨ub, 0, none⟩) 1 sc6)).toArray 134) := ⟨_, rfl⟩
              have hb11 : Below wr.heap.size wr W11 := by rw [hW11]; exact (Below.refl _ _).alloc (Nat.le_refl _) _
              have hbox : W11.heap[wr.heap.size]? = some (.cells (hovC (.slice (some ⟨ub, 0, none⟩) 1 sc6)).toArray 134 (0, 0)) := by rw [hW11]; exact heap_alloc_new _ _
              have y0 := (hcell hbox 0 _ rfl).1
              have y1 := (hcell hbox 1 _ rfl).1
              have y2 := (hcell hbox 2 _ rfl).1
              have y3 := (hcell hbox 3 _ rfl).1
              have y4 := (hcell hbox 4 _ rfl).1
              have y5 := (hcell hbox 5 _ rfl).1
              have hmm : m ≤ 1000000 := by have := HH.out.2.2.2.2.2.2.2.2.2.2.2.2.2.1; omega
              have CS := hid (sb31 (.pointer (some ⟨pb, 0, none⟩)) (.func (.func 51) #[] #[.pointer (some ⟨q, 0, none⟩)]) 0 (.slice (some ⟨ub, 0, none⟩) 1 sc6) (.slice av m cv) m news P W11 hmm (hBx.row.below hb11) (own_below ho hb11))
              have H11 := hid (And.intro hb11 (And.intro hgx (And.intro hvN (And.intro hE (And.intro ho.1 (And.intro hBx.row (fun q hq e => by
                have := (hPs q hq).1
                have := hBx.st.fr.size
                have h9 := hgx.size
                have h10 : w.heap.size ≤ W7.heap.size := HB.out.1.st.fr.size
                rcases hvN q e.symm with h8 | h8 <;> omega : ∀ q, P q → some q ≠ (Value.slice av m cv).ownBlock)))))))
              have HW11 := hid hW11
              clear hst3 hw13 hbl hsl hbs hP hPs kb3 hB10 hC10 ho10 hN10 hq9 hq10 hb710 hb9 hW11 hb11 hbox hmm hg7 hn7 hBx ho hgx hvN hE
              go_upto_region 23 with fail
              rw [← HW11.out]
              clear a0' a1' a2' a3' a4' a5' HW11
              go_wp2_with fail
              refine CS.out.mono ?_
              rintro e w12 hR
              obtain ⟨v', rfl, ho, hgr, hat⟩ := hR.ex
              obtain ⟨hb11, hgx, hvN, hE, hlen, hrow, hPv⟩ := H11.out
              obtain ⟨av', cv', rfl, _⟩ := own_shape ho
              have HREL := hid (Sl3.two hgx hvN hb11 hE hlen hrow hPv ho hgr hat)
              clear hR CS ho hgr hat hb11 hgx hvN hE hlen hrow hPv y0 y1 y2 y3 y4 y5
              go_wp2_with fail
              go_roundg 0
              case measure => omega
              case rel => exact HREL.out
            · obtain rfl := hg
              clear hrel
              obtain ⟨hB10, hC10, ho10, hN10, hq9, hq10, hb710, hb9⟩ := HB10.out
              obtain ⟨hst3, hw13, hbl, hsl, hbs, hP, hPs, kb3⟩ := HX.out
              obtain ⟨av, cv, rfl, hcv⟩ := own_shape ho
              have hg7 := HB.out.1.hg
              have hn7 := heap_lt HB.out.1.hnb.2
              have hBx := hB10.grown hsl hPs hgx (fun q e => by have h8 : W7.heap.size = q := Option.some.inj e; omega)
              obtain ⟨x7, xf7⟩ := hcell hBx.st.hs 0 _ rfl
              have hS7 := heap_lt hBx.st.hs
              have hrow := row_of_own ho hE (fun g hg => by
                have h10 : w.heap.size ≤ W7.heap.size := HB.out.1.st.fr.size
                refine Or.inr (Or.inr ?_)
                rcases hvN g hg with h8 | h8 <;> omega)
              obtain ⟨W12, hW12⟩ : ∃ X, X = wr.setCell ⟨sb, 0, none⟩ (.slice av (m + 1) cv) := ⟨_, rfl⟩
              have hSs := HH.out.2.2.2.2.2.2.2.2.2.2.2.2.1.2.2.2
              have h56 := HH.out.2.2.2.2.2
              have h12 := HH.out.1
              have HST := hid (show StC w W12 S P sb b l cb m (.slice av (m + 1) cv) by
                rw [hW12]
                exact ⟨hBx.st.set hsl _, ⟨av, cv, rfl, hcv⟩, hrow.keep ⟨by simp [World.setCell], fun g hg _ => hother _ _ _ (by
                  rcases hg with hg | hg | hg
                  · have := hSs g hg; omega
                  · exact (hPs g hg).2
                  · omega), fun g hg _ => hg⟩⟩)
              have HW12 := hid hW12
              clear hst3 hw13 hbl hsl hbs hP hPs kb3 hB10 hC10 ho10 hN10 hq9 hq10 hb710 hb9 hW12 hSs h56 h12 hrow hg7 hn7 hBx ho hgx hvN hE hcv
              go_upto_region 26 with fail
              rw [← HW12.out]
              clear x7 xf7 hS7 HW12
              go_wp2_with fail
              go_roundg 0
              case measure => omega
              case rel => exact ⟨Or.inr ⟨rfl, rfl, _, HST.out⟩⟩
        · obtain rfl := hg
          clear hrel mk9 k7 s7 u9 cx9 CM
          obtain ⟨W9', hW9⟩ : ∃ X, X = wr := ⟨_, rfl⟩
          subst hW9
          obtain ⟨hst3, hw13, hbl, hsl, hbs, hP, hPs, kb3⟩ := HX.out
          obtain ⟨h1, h2, h3, h4, hb, h5, h6, hs, hc0, hu, hk, hC, hOff, hmd, hnn, hlc⟩ := HH.out
          obtain ⟨au, cu, rfl, hcu⟩ := hD.shape
          have kb9 := (hD.st.fr.block _ hbl hbs).trans hb
          have k9 := (hcell kb9 0 _ rfl).1
          have hm1 := hC.m1
          have CT := hid (ct27 (some ⟨sb, 0, none⟩) 1 sc (m + 1) (fun g => (S g ∨ P g ∨ w.heap.size + 1 + 1 < g) ∨ g = sb) W9' (by omega) ⟨_, sc, rfl, fun i hi => by
            have hi0 : i = 0 := by simp at hi; omega
            subst hi0
            refine ⟨sb, rfl, Or.inr rfl, heap_lt hD.st.hs, au, cu, (hcell hD.st.hs 0 _ rfl).1, hcu, ?_⟩
            exact hD.row.keep ⟨Nat.le_refl _, fun _ _ _ => rfl, fun g hg _ => Or.inl hg⟩⟩)
          have HD := hid hD
          have HM1 := hid hm1
          obtain ⟨M, hM⟩ : ∃ M, M = m + 1 := ⟨_, rfl⟩
          have g1 : 1 < M := by omega
          have g2 : ¬ 65280 < M := by omega
          have g3 : (1 : Int) < (M : Int) := by omega
          have g4 : ¬ (65280 : Int) < (M : Int) := by omega
          rw [← hM] at CT
          clear hst3 hw13 hbl hsl hbs hP hPs kb3 h1 h2 h3 h4 hb h5 h6 hs hc0 hu hk hC hOff hmd hnn hlc hD hm1 kb9 hcu hM
          go_upto_region 58 with fail
          go_wp2_with fail
          refine CT.out.mono ?_
          rintro e W9 hR
          obtain ⟨rfl, hbX⟩ := hR.ex
          clear hR CT k9
          obtain ⟨hst3, hw13, hbl, hsl, hbs, hP, hPs, kb3⟩ := HX.out
          obtain ⟨h1, h2, h3, h4, hb, h5, h6, hs, hc0, hu, hk, hC, hOff, hmd, hnn, hlc⟩ := HH.out
          have hst9 := HD.out.st.below hsl hbX
          have hbd : Below W9'.heap.size W9' W9.drew := hbX.drew
          have CL := hid (H kids W9.drew lo mid b sb sc (m + 1) x rs _ _ (.slice la n lc) n pb l out PP (sty_ask hP h1 h2 h3 h4 hb hbs h5 h6 hk hC hOff hmd hnn HD.out hbd) ((HOS.out.1.frame HD.out.st.fr (fun g hg q => by
            rcases hg with hg | hg
            · have := (HOS.out.2 g hg).1; omega
            · have := hOff.2.2.1 g hg; omega)).below hbd) (fun g hg => by
            have h := (HOS.out.2 g hg).1
            exact ⟨by omega, by omega, by omega⟩))
          have HFS := hid (fun (w' : World) (lw' : Value) (n' : Nat) (outN : List Tr) (P' : Nat → Prop) (hS : OutS w' lw' n' outN P') (hP' : ∀ g, P' g → PP g ∨ (lo ≤ g ∧ g < mid) ∨ g = b ∨ W9.drew.heap.size ≤ g) (hG : OwnG W9.drew (.slice la n lc) lw') => sty_finS hC hOff h1 h2 h3 h4 HD.out.st hbd HOS.out.1 HOS.out.2 hS hP' hG)
          have HRP := hid (fun (w' : World) (hF : FrM (fun g => (lo ≤ g ∧ g < mid) ∨ g = b ∨ g = sb ∨ (Value.slice la n lc).ownBlock = some g) W9.drew w') => sty_facts hC hOff h1 h2 h3 h4 h5 h6 HD.out.st hbd hF)
          have HFIN := hid (fun (w' : World) (lw' : Value) (n' : Nat) (hF : FrM (fun g => (lo ≤ g ∧ g < mid) ∨ g = b ∨ g = sb ∨ (Value.slice la n lc).ownBlock = some g) W9.drew w') (ho : OwnRu w' lw' n') (hG : OwnG W9.drew (.slice la n lc) lw') => sty_fin hC hOff h1 h2 h3 h5 h6 HD.out.st hbd hF ho hG)
          have hC9 := (HD.out.st.ok hC (fun g hg => by have := hOff.out hg; omega)).below hbX
          have u5 := (hcell hst9.b5 0 _ rfl).1
          have l80 := (hcell hst9.b4 0 _ rfl).1
          have l81 := (hcell hst9.b4 1 _ rfl).1
          have c29 := (hcell hC9.cx 2 _ rfl).1
          have hN5 := heap_lt hst9.b5
          have hN4 := heap_lt hst9.b4
          have hNc := heap_lt hC9.cx
          clear hst3 hw13 hbl hsl hbs hP hPs kb3 h1 h2 h3 h4 hb h5 h6 hs hc0 hu hk hC hOff hmd hnn hlc hst9 hbd hC9 hbX
          go_upto_region 62 with fail
          clear g1 g2 g3 g4
          refine wp_region_dc (π := Option Addr × Nat × Nat × World) (fun p => StyRS d kids l w W9.drew lo mid b sb cb (.slice la n lc) n out PP p) (none, 0, 0, W9.drew) (fun p => [(some 255, .pointer (some ⟨cb, 0, none⟩)), (some 256, .pointer (some ⟨pb, 0, none⟩)), (some 257, .agg #[.iface 110 (.pointer (some ⟨b, 0, none⟩)), .int .i32 l]), (some 258, .pointer (some ⟨cb, 0, none⟩)), (some 259, .pointer (some ⟨cb, 0, none⟩)), (some 260, .pointer (some ⟨cb, 2, none⟩)), (some 261, .slice la n lc), (some 262, .slice p.1 p.2.1 p.2.2.1), (some 263, .pointer (some ⟨cb, 0, none⟩)), (some 264, .pointer (some ⟨cb, 2, none⟩)), (none, undef)]) [0, 1, 2, 3, 4, 5, 6, 8, 9] [7, 10] (fun p j => ([W9.drew, p.2.2.2, p.2.2.2.setCell ⟨cb, 2, none⟩ (.slice p.1 p.2.1 p.2.2.1)] : List World).getD j W9.drew) (fun i => [0, 0, 0, 0, 0, 0, 0, 0, 0, 0, 1].getD i 0) (fun i => [1, 0, 0, 0, 0, 0, 0, 0, 1, 1, 1].getD i 0) 461 7 0 (by kernel_rfl) (by kernel_rfl) (by kernel_rfl) (by kernel_rfl) (by decide) (by kernel_rfl) (by kernel_rfl) (by kernel_rfl) (fun _ _ => rfl) ?hws62 rfl (fun _ => rfl) ?hop62 ?hcall62 ?hend62
          case hws62 =>
            intro p p' j hj
            have hj : j = 0 := by omega
            rcases hj with rfl
            rfl
          case hop62 =>
            intro p i o j a hne ho h1 h2 hR hd hf K hK
            have hin : i = 0 ∨ i = 1 ∨ i = 2 ∨ i = 3 ∨ i = 4 ∨ i = 5 ∨ i = 6 ∨ i = 7 ∨ i = 8 ∨ i = 9 ∨ i = 10 := by
              rcases Nat.lt_or_ge i 11 with h | h
              · omega
              · rw [Array.getElem?_eq_none h] at ho
                cases ho
            rcases hin with rfl | rfl | rfl | rfl | rfl | rfl | rfl | rfl | rfl | rfl | rfl
            · simp only [List.getElem?_toArray, List.getElem?_cons_zero, Option.some.injEq] at ho
              subst ho
              clear hne
              have v0 : a.eval (.tmp 5) = .pointer (some ⟨w.heap.size + 1, 0, none⟩) := (hf 5 (by kernel_rfl)).trans (by kernel_rfl)
              have u0 : a.tmps[5]?.getD undef = .pointer (some ⟨w.heap.size + 1, 0, none⟩) := by rw [← Array.getD_eq_getD_getElem?]; exact v0
              clear v0
              have hj : j = 0 ∨ j = 1 := by simp at h1 h2; omega
              clear h1 h2 hd hf
              rcases hj with rfl | rfl
              · replace hK : K (a.put (some 255) (.pointer (some ⟨cb, 0, none⟩))) (W9.drew) := hK
                have HK := Lib.hid hK
                clear hK
                show if Region.wanted _ (yielded _ a.tmps) = true then Oper.wp _ _ a (W9.drew) K _ else _
                clear hR
                go_simp
                exact HK.out
              · replace hK : K (a.put (some 255) (.pointer (some ⟨cb, 0, none⟩))) (p.2.2.2) := hK
                have HK := Lib.hid hK
                clear hK
                show if Region.wanted _ (yielded _ a.tmps) = true then Oper.wp _ _ a (p.2.2.2) K _ else _
                have hr := hR (by decide)
                clear hR
                obtain ⟨u5, hu5, c2, c2f, hcl⟩ := hr.facts
                clear hr
                go_simp
                exact HK.out
            · simp only [List.getElem?_toArray, List.getElem?_cons_zero, List.getElem?_cons_succ, Option.some.injEq] at ho
              subst ho
              clear hne
              have v0 : a.eval (.tmp 0) = .pointer (some ⟨pb, 0, none⟩) := (hf 0 (by kernel_rfl)).trans (by kernel_rfl)
              have u0 : a.tmps[0]?.getD undef = .pointer (some ⟨pb, 0, none⟩) := by rw [← Array.getD_eq_getD_getElem?]; exact v0
              clear v0
              have hj : j = 0 := by simp at h1 h2; omega
              clear h1 h2 hd hf
              rcases hj with rfl
              · replace hK : K (a.put (some 256) (.pointer (some ⟨pb, 0, none⟩))) (W9.drew) := hK
                have HK := Lib.hid hK
                clear hK
                show if Region.wanted _ (yielded _ a.tmps) = true then Oper.wp _ _ a (W9.drew) K _ else _
                clear hR
                go_simp
                exact HK.out
            · simp only [List.getElem?_toArray, List.getElem?_cons_zero, List.getElem?_cons_succ, Option.some.injEq] at ho
              subst ho
              clear hne
              have v0 : a.eval (.tmp 4) = .pointer (some ⟨w.heap.size, 0, none⟩) := (hf 4 (by kernel_rfl)).trans (by kernel_rfl)
              have u0 : a.tmps[4]?.getD undef = .pointer (some ⟨w.heap.size, 0, none⟩) := by rw [← Array.getD_eq_getD_getElem?]; exact v0
              clear v0
              have hj : j = 0 := by simp at h1 h2; omega
              clear h1 h2 hd hf
              rcases hj with rfl
              · replace hK : K (a.put (some 257) (.agg #[.iface 110 (.pointer (some ⟨b, 0, none⟩)), .int .i32 l])) (W9.drew) := hK
                have HK := Lib.hid hK
                clear hK
                show if Region.wanted _ (yielded _ a.tmps) = true then Oper.wp _ _ a (W9.drew) K _ else _
                clear hR
                go_simp
                exact HK.out
            · simp only [List.getElem?_toArray, List.getElem?_cons_zero, List.getElem?_cons_succ, Option.some.injEq] at ho
              subst ho
              clear hne
              have v0 : a.eval (.tmp 5) = .pointer (some ⟨w.heap.size + 1, 0, none⟩) := (hf 5 (by kernel_rfl)).trans (by kernel_rfl)
              have u0 : a.tmps[5]?.getD undef = .pointer (some ⟨w.heap.size + 1, 0, none⟩) := by rw [← Array.getD_eq_getD_getElem?]; exact v0
              clear v0
              have hj : j = 0 := by simp at h1 h2; omega
              clear h1 h2 hd hf
              rcases hj with rfl
              · replace hK : K (a.put (some 258) (.pointer (some ⟨cb, 0, none⟩))) (W9.drew) := hK
                have HK := Lib.hid hK
                clear hK
                show if Region.wanted _ (yielded _ a.tmps) = true then Oper.wp _ _ a (W9.drew) K _ else _
                clear hR
                go_simp
                exact HK.out
            · simp only [List.getElem?_toArray, List.getElem?_cons_zero, List.getElem?_cons_succ, Option.some.injEq] at ho
              subst ho
              clear hne
              have v0 : a.eval (.tmp 258) = .pointer (some ⟨cb, 0, none⟩) := hd 3 258 (by kernel_rfl) (by kernel_rfl)
              have u0 : a.tmps[258]?.getD undef = .pointer (some ⟨cb, 0, none⟩) := by rw [← Array.getD_eq_getD_getElem?]; exact v0
              clear v0
              have hj : j = 0 := by simp at h1 h2; omega
              clear h1 h2 hd hf
              rcases hj with rfl
              · replace hK : K (a.put (some 259) (.pointer (some ⟨cb, 0, none⟩))) (W9.drew) := hK
                have HK := Lib.hid hK
                clear hK
                show if Region.wanted _ (yielded _ a.tmps) = true then Oper.wp _ _ a (W9.drew) K _ else _
                clear hR
                go_simp
                exact HK.out
            · simp only [List.getElem?_toArray, List.getElem?_cons_zero, List.getElem?_cons_succ, Option.some.injEq] at ho
              subst ho
              clear hne
              have v0 : a.eval (.tmp 259) = .pointer (some ⟨cb, 0, none⟩) := hd 4 259 (by kernel_rfl) (by kernel_rfl)
              have u0 : a.tmps[259]?.getD undef = .pointer (some ⟨cb, 0, none⟩) := by rw [← Array.getD_eq_getD_getElem?]; exact v0
              clear v0
              have hj : j = 0 := by simp at h1 h2; omega
              clear h1 h2 hd hf
              rcases hj with rfl
              · replace hK : K (a.put (some 260) (.pointer (some ⟨cb, 2, none⟩))) (W9.drew) := hK
                have HK := Lib.hid hK
                clear hK
                show if Region.wanted _ (yielded _ a.tmps) = true then Oper.wp _ _ a (W9.drew) K _ else _
                clear hR
                go_simp
                exact HK.out
            · simp only [List.getElem?_toArray, List.getElem?_cons_zero, List.getElem?_cons_succ, Option.some.injEq] at ho
              subst ho
              clear hne
              have v0 : a.eval (.tmp 260) = .pointer (some ⟨cb, 2, none⟩) := hd 5 260 (by kernel_rfl) (by kernel_rfl)
              have u0 : a.tmps[260]?.getD undef = .pointer (some ⟨cb, 2, none⟩) := by rw [← Array.getD_eq_getD_getElem?]; exact v0
              clear v0
              have hj : j = 0 := by simp at h1 h2; omega
              clear h1 h2 hd hf
              rcases hj with rfl
              · replace hK : K (a.put (some 261) (.slice la n lc)) (W9.drew) := hK
                have HK := Lib.hid hK
                clear hK
                show if Region.wanted _ (yielded _ a.tmps) = true then Oper.wp _ _ a (W9.drew) K _ else _
                clear hR
                go_simp
                exact HK.out
            · exact absurd rfl hne
            · simp only [List.getElem?_toArray, List.getElem?_cons_zero, List.getElem?_cons_succ, Option.some.injEq] at ho
              subst ho
              clear hne
              have v0 : a.eval (.tmp 255) = .pointer (some ⟨cb, 0, none⟩) := hd 0 255 (by kernel_rfl) (by kernel_rfl)
              have u0 : a.tmps[255]?.getD undef = .pointer (some ⟨cb, 0, none⟩) := by rw [← Array.getD_eq_getD_getElem?]; exact v0
              clear v0
              have hj : j = 0 ∨ j = 1 := by simp at h1 h2; omega
              clear h1 h2 hd hf
              rcases hj with rfl | rfl
              · replace hK : K (a.put (some 263) (.pointer (some ⟨cb, 0, none⟩))) (W9.drew) := hK
                have HK := Lib.hid hK
                clear hK
                show if Region.wanted _ (yielded _ a.tmps) = true then Oper.wp _ _ a (W9.drew) K _ else _
                clear hR
                go_simp
                exact HK.out
              · replace hK : K (a.put (some 263) (.pointer (some ⟨cb, 0, none⟩))) (p.2.2.2) := hK
                have HK := Lib.hid hK
                clear hK
                show if Region.wanted _ (yielded _ a.tmps) = true then Oper.wp _ _ a (p.2.2.2) K _ else _
                have hr := hR (by decide)
                clear hR
                obtain ⟨u5, hu5, c2, c2f, hcl⟩ := hr.facts
                clear hr
                go_simp
                exact HK.out
            · simp only [List.getElem?_toArray, List.getElem?_cons_zero, List.getElem?_cons_succ, Option.some.injEq] at ho
              subst ho
              clear hne
              have v0 : a.eval (.tmp 263) = .pointer (some ⟨cb, 0, none⟩) := hd 8 263 (by kernel_rfl) (by kernel_rfl)
              have u0 : a.tmps[263]?.getD undef = .pointer (some ⟨cb, 0, none⟩) := by rw [← Array.getD_eq_getD_getElem?]; exact v0
              clear v0
              have hj : j = 0 ∨ j = 1 := by simp at h1 h2; omega
              clear h1 h2 hd hf
              rcases hj with rfl | rfl
              · replace hK : K (a.put (some 264) (.pointer (some ⟨cb, 2, none⟩))) (W9.drew) := hK
                have HK := Lib.hid hK
                clear hK
                show if Region.wanted _ (yielded _ a.tmps) = true then Oper.wp _ _ a (W9.drew) K _ else _
                clear hR
                go_simp
                exact HK.out
              · replace hK : K (a.put (some 264) (.pointer (some ⟨cb, 2, none⟩))) (p.2.2.2) := hK
                have HK := Lib.hid hK
                clear hK
                show if Region.wanted _ (yielded _ a.tmps) = true then Oper.wp _ _ a (p.2.2.2) K _ else _
                have hr := hR (by decide)
                clear hR
                obtain ⟨u5, hu5, c2, c2f, hcl⟩ := hr.facts
                clear hr
                go_simp
                exact HK.out
            · simp only [List.getElem?_toArray, List.getElem?_cons_zero, List.getElem?_cons_succ, Option.some.injEq] at ho
              subst ho
              clear hne
              have v0 : a.eval (.tmp 264) = .pointer (some ⟨cb, 2, none⟩) := hd 9 264 (by kernel_rfl) (by kernel_rfl)
              have u0 : a.tmps[264]?.getD undef = .pointer (some ⟨cb, 2, none⟩) := by rw [← Array.getD_eq_getD_getElem?]; exact v0
              clear v0
              have v1 : a.eval (.tmp 262) = .slice p.1 p.2.1 p.2.2.1 := hd 7 262 (by kernel_rfl) (by kernel_rfl)
              have u1 : a.tmps[262]?.getD undef = .slice p.1 p.2.1 p.2.2.1 := by rw [← Array.getD_eq_getD_getElem?]; exact v1
              clear v1
              have hj : j = 1 := by simp at h1 h2; omega
              clear h1 h2 hd hf
              rcases hj with rfl
              · replace hK : K (a.put (none) (undef)) (p.2.2.2.setCell ⟨cb, 2, none⟩ (.slice p.1 p.2.1 p.2.2.1)) := hK
                have HK := Lib.hid hK
                clear hK
                show if Region.wanted _ (yielded _ a.tmps) = true then Oper.wp _ _ a (p.2.2.2) K _ else _
                have hr := hR (by decide)
                clear hR
                obtain ⟨u5, hu5, c2, c2f, hcl⟩ := hr.facts
                clear hr
                go_simp
                exact HK.out
          case hcall62 =>
            intro o a ho hd hf K hK
            simp only [List.getElem?_toArray, List.getElem?_cons_zero, List.getElem?_cons_succ, Option.some.injEq] at ho
            subst ho
            have v0 : a.eval (.tmp 256) = .pointer (some ⟨pb, 0, none⟩) := hd 1 256 (by kernel_rfl) (by kernel_rfl)
            have u0 : a.tmps[256]?.getD undef = .pointer (some ⟨pb, 0, none⟩) := by rw [← Array.getD_eq_getD_getElem?]; exact v0
            clear v0
            have v1 : a.eval (.tmp 257) = .agg #[.iface 110 (.pointer (some ⟨b, 0, none⟩)), .int .i32 l] := hd 2 257 (by kernel_rfl) (by kernel_rfl)
            have u1 : a.tmps[257]?.getD undef = .agg #[.iface 110 (.pointer (some ⟨b, 0, none⟩)), .int .i32 l] := by rw [← Array.getD_eq_getD_getElem?]; exact v1
            clear v1
            have v2 : a.eval (.tmp 261) = .slice la n lc := hd 6 261 (by kernel_rfl) (by kernel_rfl)
            have u2 : a.tmps[261]?.getD undef = .slice la n lc := by rw [← Array.getD_eq_getD_getElem?]; exact v2
            clear v2
            replace hK : ∀ p : Option Addr × Nat × Nat × World, (fun p => StyRS d kids l w W9.drew lo mid b sb cb (.slice la n lc) n out PP p) p → K (a.put (some 262) (.slice p.1 p.2.1 p.2.2.1)) (p.2.2.2) := hK
            have HK := Lib.hid hK
            clear hK hd hf
            show if Region.wanted _ (yielded _ a.tmps) = true then Oper.wp _ _ a (W9.drew) K _ else _
            go_simp
            refine CL.out.mono ?_
            rintro e w' hR
            obtain ⟨lw', n', P', rfl, q1, q2, q4, q5, q6, q7⟩ := hR.ex
            have q3 := q6.ru
            obtain ⟨a', c', rfl, _⟩ : ∃ a c, lw' = .slice a n' c ∧ n' ≤ c := by
              obtain ⟨xs, ho, _⟩ := q3
              exact own_shape ho
            obtain ⟨f1, f2, f3, f4, f5, _⟩ := HRP.out w' q4
            exact HK.out (a', n', c', w') ⟨⟨f1, f2, f3, f4, f5⟩, q1, q2, q3, q4, q5, P', q6, q7⟩
          intro p hR
          simp only [List.foldl_cons, List.foldl_nil, List.length_cons, List.length_nil, List.getD_cons_succ, List.getD_cons_zero, Nat.zero_add, Nat.reduceAdd]
          simp only [Act.put, List.setIfInBounds_toArray, List.set_cons_zero, List.set_cons_succ]
          obtain ⟨pa, pn', pc, w10⟩ := p
          obtain ⟨hfacts, q1, q2, q3, q4, q5, P', q6, q7⟩ := hR
          obtain ⟨_, _, _, _, _, n90, n91, nf90, nf91, hN9⟩ := HRP.out w10 q4
          have hcbl : w.heap.size + 1 + 1 ≠ cb := by have := heap_lt HH.out.2.2.2.2.2.2.2.2.2.2.2.1.cx; omega
          have hcbl2 : cb ≠ w.heap.size + 1 + 1 := Ne.symm hcbl
          have HF := hid (And.intro q1 (And.intro q2 (HFIN.out w10 _ pn' q4 q3 q5)))
          have HFX := hid (HFS.out w10 _ pn' _ P' q6 q7 q5)
          clear HFS q6 q7 hfacts q1 q2 q3 q4 q5 CL HFIN HRP u5 l80 l81 c29 hN5 hN4 hNc
          go_wp2_with fail
          exact bodyPost_ret (v := .agg #[.nilIface, .int .i32 0]) (by simp [results, Tryz.results35, go_sem, n90, n91]) rfl ⟨_, pn', P', rfl, HF.out.1, HF.out.2.1, HF.out.2.2.1, HF.out.2.2.2.1, HF.out.2.2.2.2, HFX.out.1, HFX.out.2⟩
end Go.Proofs.YtjebnjjhdefejaaGreatFmt
