/-
  An ampersand replaced by the parent. Conditions: each theorem's own.
-/
import Derived.Test.YtjebnjjhdefejaaGreatFmtLg
namespace Go.Proofs.YtjebnjjhdefejaaGreatFmt
open Go.RowKit Go.Lib Go.ChangeMaps
theorem os_ch {w w' : World} (h : w'.os = w.os ∧ w'.tape = w.tape ∧ w'.output = w.output) (a : Addr) (v : Value) : (w'.setCell a v).os = w.os ∧ (w'.setCell a v).tape = w.tape ∧ (w'.setCell a v).output = w.output :=
  ⟨(os_set _ _ _).1.trans h.1, (os_set _ _ _).2.1.trans h.2.1, (os_set _ _ _).2.2.trans h.2.2⟩
theorem three {f : Nat → Option Value} {a b c : Value} (h0 : f 0 = some a) (h1 : f 1 = some b) (h2 : f 2 = some c) : ∀ (j : Nat) (u : Value), [a, b, c][j]? = some u → f j = some u
  | 0, u, hj => by simp at hj; rw [← hj]; exact h0
  | 1, u, hj => by simp at hj; rw [← hj]; exact h1
  | 2, u, hj => by simp at hj; rw [← hj]; exact h2
  | j + 3, u, hj => by simp at hj
theorem st6 {w : World} {b : Nat} {e : TypeId} {a0 a1 a2 a3 a4 a5 : Value} (h : w.heap[b]? = some (.cells #[a0, a1, a2, a3, a4, a5] e (0, 0))) (v0 v1 v2 v3 v4 v5 : Value) :
    (w.cell? ⟨b, 0, none⟩ = some a0 ∧ w.frozen? ⟨b, 0, none⟩ = false) ∧ ((w.setCell ⟨b, 0, none⟩ v0).cell? ⟨b, 1, none⟩ = some a1 ∧ (w.setCell ⟨b, 0, none⟩ v0).frozen? ⟨b, 1, none⟩ = false) ∧ (((w.setCell ⟨b, 0, none⟩ v0).setCell ⟨b, 1, none⟩ v1).cell? ⟨b, 2, none⟩ = some a2 ∧ ((w.setCell ⟨b, 0, none⟩ v0).setCell ⟨b, 1, none⟩ v1).frozen? ⟨b, 2, none⟩ = false) ∧ ((((w.setCell ⟨b, 0, none⟩ v0).setCell ⟨b, 1, none⟩ v1).setCell ⟨b, 2, none⟩ v2).cell? ⟨b, 3, none⟩ = some a3 ∧ (((w.setCell ⟨b, 0, none⟩ v0).setCell ⟨b, 1, none⟩ v1).setCell ⟨b, 2, none⟩ v2).frozen? ⟨b, 3, none⟩ = false) ∧ (((((w.setCell ⟨b, 0, none⟩ v0).setCell ⟨b, 1, none⟩ v1).setCell ⟨b, 2, none⟩ v2).setCell ⟨b, 3, none⟩ v3).cell? ⟨b, 4, none⟩ = some a4 ∧ ((((w.setCell ⟨b, 0, none⟩ v0).setCell ⟨b, 1, none⟩ v1).setCell ⟨b, 2, none⟩ v2).setCell ⟨b, 3, none⟩ v3).frozen? ⟨b, 4, none⟩ = false) ∧ ((((((w.setCell ⟨b, 0, none⟩ v0).setCell ⟨b, 1, none⟩ v1).setCell ⟨b, 2, none⟩ v2).setCell ⟨b, 3, none⟩ v3).setCell ⟨b, 4, none⟩ v4).cell? ⟨b, 5, none⟩ = some a5 ∧ (((((w.setCell ⟨b, 0, none⟩ v0).setCell ⟨b, 1, none⟩ v1).setCell ⟨b, 2, none⟩ v2).setCell ⟨b, 3, none⟩ v3).setCell ⟨b, 4, none⟩ v4).frozen? ⟨b, 5, none⟩ = false) ∧ ((((((w.setCell ⟨b, 0, none⟩ v0).setCell ⟨b, 1, none⟩ v1).setCell ⟨b, 2, none⟩ v2).setCell ⟨b, 3, none⟩ v3).setCell ⟨b, 4, none⟩ v4).setCell ⟨b, 5, none⟩ v5).heap[b]? = some (.cells #[v0, v1, v2, v3, v4, v5] e (0, 0)) := by
  have h1 := hset h 0 v0
  have h2 := hset h1 1 v1
  have h3 := hset h2 2 v2
  have h4 := hset h3 3 v3
  have h5 := hset h4 4 v4
  have h6 := hset h5 5 v5
  exact ⟨hcell h 0 _ rfl, hcell h1 1 _ rfl, hcell h2 2 _ rfl, hcell h3 3 _ rfl, hcell h4 4 _ rfl, hcell h5 5 _ rfl, h6⟩
set_option maxHeartbeats 16000000 in
set_option maxRecDepth 100000 in
/-- '&' alone, the parent one complex selector of m compounds -/
theorem sa31 (p rv : Value) (x : Int) (nb nc q g c m vc : Nat) (va : Option Addr) (P : Nat → Prop) (w : World) (hm : m ≤ 100000) (hm1 : 1 ≤ m) (hmv : m ≤ vc) (hnb : nb < w.heap.size) (hx : w.cell? ⟨nb, 0, none⟩ = some (.int .i32 x))
    (hq : q < w.heap.size) (hg : g < w.heap.size) (h1 : w.cell? ⟨q, 0, none⟩ = some (.slice (some ⟨g, 0, none⟩) 1 c)) (h2 : w.cell? ⟨g, 0, none⟩ = some (.slice va m vc)) (hr : RowL CpH w P (.slice va m vc) (us m)) (ho : w.ownsRow 0 134 6 rv 0 []) (hPo : ∀ g, P g → some g ≠ rv.ownBlock) (hPl : ∀ g, P g → g < w.heap.size) :
    Calls Tryz.prog 25 #[p, .agg #[.pointer none, .slice none 0 0, .slice (some ⟨nb, 0, none⟩) 1 nc, .int .i32 0, .int .u8 0, .bool false], .func (.func 51) #[] #[.pointer (some ⟨q, 0, none⟩)], rv, .int .u8 0] w fun e w' => AmR m rv P w e w' := by
  obtain ⟨ra, rc, rfl, hrc⟩ := own_shape ho
  obtain ⟨W, hW⟩ : ∃ W, W = w.alloc (.cells #[.pointer none, .slice none 0 0, .slice (some ⟨nb, 0, none⟩) 1 nc, .int .i32 0, .int .u8 0, .bool false] 134) := ⟨_, rfl⟩
  have hbW : Below w.heap.size w W := by rw [hW]; exact (Below.refl _ _).alloc (Nat.le_refl _) _
  have hN : W.heap[w.heap.size]? = some (.cells #[.pointer none, .slice none 0 0, .slice (some ⟨nb, 0, none⟩) 1 nc, .int .i32 0, .int .u8 0, .bool false] 134 (0, 0)) := by rw [hW]; exact heap_alloc_new _ _
  have HL0 := hid (show Lam w W (.slice ra 0 rc) (.slice (some ⟨nb, 0, none⟩) 1 nc) m P 1 (.slice ra 0 rc) (.int .i64 0) W from ⟨0, rfl, rfl, fun _ => ⟨rfl, rfl⟩, (fun h => by cases h)⟩)
  have HB := hid (And.intro hbW hN)
  have HR := hid (And.intro hr (And.intro ho (And.intro hPo hPl)))
  have HC := hid (And.intro hnb (And.intro hx (And.intro hq (And.intro hg (And.intro h1 h2)))))
  clear hbW hN hr ho hPo hPl hx h1 h2
  go_enter Tryz.func25, Tryz.ntmps25
  go_wp2_with fail
  rw [← hW]
  clear hW
  go_loopg [3, 30] 1 (fun g v3 v30 wx => Lam w W (.slice ra 0 rc) (.slice (some ⟨nb, 0, none⟩) 1 nc) m P g v3 v30 wx)
  case atStart => exact HL0.out
  case round =>
    obtain ⟨k, hkg, rfl, h0, h1⟩ := hrel.ex
    clear hrel HL0
    cases gk with
    | zero =>
      obtain rfl : k = 1 := by omega
      obtain ⟨nu, nc2, news, hown, hE, hPv, hbox, hhov, hgr, hat, hne⟩ := h1 rfl
      obtain ⟨sa, sc, hsv, hsc⟩ := own_shape hown
      subst hsv
      clear h0 h1
      obtain ⟨wo, hwo⟩ : ∃ wo, wo = wr := ⟨_, rfl⟩
      subst hwo
      obtain ⟨ub, b, sc2, hub, hpu, hu, u0, u1, u2, hpb, hb, hh⟩ := hov_at hhov
      injection hub with hub1 _ hub3
      injection hub1 with hub1
      injection hub1 with hub1 _ _
      subst hub1 hub3
      have hnw : nu ≠ w.heap.size := by
        rcases hpu with h | h
        · have := HR.out.2.2.2 nu h; omega
        · omega
      obtain ⟨X, hX⟩ : ∃ X, X = wo.setCell ⟨w.heap.size, 2, none⟩ (.slice none 0 0) := ⟨_, rfl⟩
      obtain ⟨f2, f2f⟩ := hcell hbox 2 _ rfl
      have hNX : X.heap[w.heap.size]? = some (.cells #[.pointer none, .slice (some ⟨nu, 0, none⟩) 1 nc2, .slice none 0 0, .int .i32 0, .int .u8 0, .bool false] 134 (0, 0)) := by rw [hX]; exact hset hbox 2 _
      have hXo : ∀ q, q ≠ w.heap.size → X.heap[q]? = wo.heap[q]? := fun q hq => by rw [hX]; exact hother _ _ _ hq
      have hXs : X.heap.size = wo.heap.size := by rw [hX]; simp [World.setCell]
      have hXos : X.os = wo.os ∧ X.tape = wo.tape ∧ X.output = wo.output := by rw [hX]; exact os_ch ⟨rfl, rfl, rfl⟩ _ _
      have y1 := (hcell hNX 1 _ rfl).1
      have HX1 := hid hX
      have HX := hid (And.intro hNX (And.intro hXo (And.intro hXs hXos)))
      have HU := hid (And.intro hu (And.intro u0 (And.intro u1 u2)))
      have HZ := hid (And.intro hown (And.intro hE (And.intro hPv (And.intro hhov (And.intro hgr (And.intro hat hne))))))
      have HL2 := hid (show LoI X 1 1 (.int .i64 0) X from ⟨0, rfl, rfl, Below.refl _ _⟩)
      have hm1' : m - 1 + 1 = m := by omega
      clear hown hE hPv hhov hgr hat hne hbox hNX hXo hXs hXos hX hu u0 u1 u2 hh hpu hpb hb
      have y1' := y1
      rw [HX1.out] at y1'
      go_wp2_with fail
      rw [← HX1.out]
      clear y1 y1' f2 f2f
      go_loopg [147] 1 (fun g v147 wx => LoI X 1 g v147 wx)
      case atStart => exact HL2.out
      case round =>
        obtain ⟨k, hkg, rfl, hb⟩ := hrel.ex
        clear hrel HL2
        cases gk with
        | zero =>
          obtain rfl : k = 1 := by omega
          have hN2 := (hb.block _ (heap_lt HX.out.1)).trans HX.out.1
          have c0 := (hcell hN2 0 _ rfl).1
          have c1 := (hcell hN2 1 _ rfl).1
          have c2 := (hcell hN2 2 _ rfl).1
          have c3 := (hcell hN2 3 _ rfl).1
          have c4 := (hcell hN2 4 _ rfl).1
          have c5 := (hcell hN2 5 _ rfl).1
          obtain ⟨hown, hE, hPv, hhov, hgr, hat, hne⟩ := HZ.out
          have hXs := HX.out.2.2.1
          have hsz := hb.size
          have hgs := hgr.size
          have keepo : ∀ q, q < wo.heap.size → q ≠ w.heap.size → wr.heap[q]? = wo.heap[q]? := fun q h1 h2 => (hb.block q (by omega)).trans (HX.out.2.1 q h2)
          obtain ⟨v', w2, happ, ho2, hg2, hat2⟩ := own_app1 118 134 _ 6 72 Tryz.underlying118 info_CP rfl (by decide) (by decide) wr (.slice sa (m - 1) sc) (m - 1) news (own_keep hown (fun q hq => keepo q (hown.lt q hq).2 (hne q hq))) [.pointer none, .slice (some ⟨nu, 0, none⟩) 1 nc2, .slice none 0 0, .int .i32 0, .int .u8 0, .bool false] rfl (by intro u hu; simp at hu; rcases hu with rfl | rfl | rfl | rfl | rfl | rfl <;> rfl) (by omega)
          have hs2 := hg2.size
          have keep2 : ∀ q, q < wo.heap.size → q ≠ w.heap.size → some q ≠ (Value.slice sa (m - 1) sc).ownBlock → w2.heap[q]? = wo.heap[q]? := fun q h1 h2 h3 => (hg2.block q (by omega) h3).trans (keepo q h1 h2)
          have hnl : news.length = (m - 1) * 6 := hown.1
          have hPw : ∀ q, P q → q < w.heap.size := HR.out.2.2.2
          have hv' : ∀ q, q < wo.heap.size → some q ≠ (Value.slice sa (m - 1) sc).ownBlock → some q ≠ v'.ownBlock := fun q h1 h2 e => by
            rcases hat2 with h | ⟨g9, h, h9⟩
            · rw [h] at e; exact h2 e
            · rw [h] at e; injection e with e; omega
          have hE2 : ∀ i, i < m → CpH.E w2 (fun g => P g ∨ (w.heap.size ≤ g ∧ some g ≠ v'.ownBlock)) (fun t => (news ++ [Value.pointer none, .slice (some ⟨nu, 0, none⟩) 1 nc2, .slice none 0 0, .int .i32 0, .int .u8 0, .bool false])[i * 6 + t]?) () := fun i hi => by
            by_cases e : i < m - 1
            · refine CpH.loc (fun t ht => ?_) (CpH.keep (P' := fun g => P g ∨ (w.heap.size ≤ g ∧ some g ≠ v'.ownBlock)) ⟨by omega, fun q hq hl => keep2 q hl (by have := hPw q hq; omega) (hPv q hq), fun q hq _ => Or.inl hq⟩ (hE i e))
              rw [List.getElem?_append_left (by omega)]
            · have e2 : i = m - 1 := by omega
              subst e2
              have ee : ∀ t, (news ++ [Value.pointer none, .slice (some ⟨nu, 0, none⟩) 1 nc2, .slice none 0 0, .int .i32 0, .int .u8 0, .bool false])[(m - 1) * 6 + t]? = [Value.pointer none, .slice (some ⟨nu, 0, none⟩) 1 nc2, .slice none 0 0, .int .i32 0, .int .u8 0, .bool false][t]? := fun t => by
                rw [List.getElem?_append_right (by omega), hnl, show (m - 1) * 6 + t - (m - 1) * 6 = t by omega]
              refine CpH.loc (c := fun t => [Value.pointer none, .slice (some ⟨nu, 0, none⟩) 1 nc2, .slice none 0 0, .int .i32 0, .int .u8 0, .bool false][t]?) (fun t ht => (ee t).symm) ⟨rfl, ⟨_, rfl, hhov.keep ⟨by omega, fun q hq hl => ?_, fun q hq hl => ?_⟩⟩, rfl, rfl, rfl, rfl⟩
              · rcases hq with h | ⟨h1, h2⟩
                · exact keep2 q hl (by have := hPw q h; omega) (hPv q h)
                · exact keep2 q hl (by omega) h2
              · rcases hq with h | ⟨h1, h2⟩
                · exact Or.inl h
                · exact Or.inr ⟨by omega, hv' q hl h2⟩
          have hPv2 : ∀ g, P g → some g ≠ v'.ownBlock := fun q hq => hv' q (by have := hPw q hq; omega) (hPv q hq)
          have hXo := HX.out.2.2.2
          have hgF : w.grownBy w2 (Value.slice ra 0 rc).ownBlock := ⟨hg2.os.trans (hb.os.trans (hXo.1.trans hgr.os)), hg2.tape.trans (hb.tape.trans (hXo.2.1.trans hgr.tape)), hg2.output.trans (hb.output.trans (hXo.2.2.trans hgr.output)), by omega, fun q h1 h2 => (keep2 q (by omega) (by omega) (fun e => by
            rcases hat with h | ⟨g9, h, h9⟩
            · rw [h] at e; exact h2 e
            · rw [h] at e; injection e with e; omega)).trans (hgr.block q h1 h2)⟩
          have hatF : v'.ownBlock = (Value.slice ra 0 rc).ownBlock ∨ ∃ g, v'.ownBlock = some g ∧ w.heap.size ≤ g := by
            rcases hat2 with h | ⟨g9, h, h9⟩
            · rcases hat with h' | ⟨g9, h', h9⟩
              · exact Or.inl (h.trans h')
              · exact Or.inr ⟨g9, h.trans h', h9⟩
            · exact Or.inr ⟨g9, h, by omega⟩
          rw [hm1'] at ho2
          have HAP := hid happ
          have HF := hid (And.intro ho2 (And.intro hE2 (And.intro hPv2 (And.intro hgF hatF))))
          clear hown hE hPv hhov hgr hat hne keepo happ ho2 hg2 hat2 keep2 hnl hPw hv' hE2 hPv2 hXo hgF hatF hN2 hb
          go_wp2_with (at_builtin; go_loud (refine list_run rfl _ _ 118 rfl (.slice sa (m - 1) sc) (.slice (some ⟨wr.heap.size, 0, none⟩) 1 1) _ w2 rfl rfl HAP.out ?_))
          go_ret
          exact ⟨_, _, rfl, HF.out.1, HF.out.2.1, HF.out.2.2.1, HF.out.2.2.2.1, HF.out.2.2.2.2⟩
        | succ g' =>
          obtain rfl : k = 0 := by omega
          obtain rfl : g' = 0 := by omega
          have hul : nu < X.heap.size := by rw [HX.out.2.2.1]; exact HU.out.1
          have hun := (hb.block nu hul).trans (HX.out.2.1 nu hnw)
          have c0 := (cellLow hun 0).trans HU.out.2.1
          have c1 := (cellLow hun 1).trans HU.out.2.2.1
          have c2 := (cellLow hun 2).trans HU.out.2.2.2
          have ta := asP_L
          have HB5 := hid hb
          clear hb hun
          go_wp2_with fail
          go_roundg 0
          case measure => omega
          case rel => exact ⟨1, rfl, rfl, HB5.out.alloc HB5.out.size _⟩
    | succ g' =>
      obtain rfl : k = 0 := by omega
      obtain rfl : g' = 0 := by omega
      obtain ⟨hv, hw⟩ := h0 rfl
      have hv3 := hv.symm
      subst hv3
      subst hw
      clear h0 h1
      have n0 := (cellLow (HB.out.1.block _ HC.out.1) 0).trans HC.out.2.1
      have HM := hid (fun wz (hb : Below w.heap.size w wz) => mu37 (.int .i32 x) q g c m vc va wz (Nat.lt_of_lt_of_le HC.out.2.2.1 hb.size) (Nat.lt_of_lt_of_le HC.out.2.2.2.1 hb.size) ((cellLow (hb.block _ HC.out.2.2.1) 0).trans HC.out.2.2.2.2.1) ((cellLow (hb.block _ HC.out.2.2.2.1) 0).trans HC.out.2.2.2.2.2))
      go_wp2_with fail
      have hbA : Below w.heap.size w (W.alloc (.cells #[.int .i32 x] 37)) := HB.out.1.alloc HB.out.1.size _
      have hbB : Below W.heap.size W (W.alloc (.cells #[.int .i32 x] 37)) := (Below.refl _ _).alloc (Nat.le_refl _) _
      refine (HM.out _ hbA).mono ?_
      rintro e w2 hR
      obtain ⟨rfl, hB2⟩ := hR.ex
      have hB2w := hbA.trans (hB2.mono hbA.size)
      have hB2W := hbB.trans (hB2.mono hbB.size)
      clear hR n0 HM hbA hB2 hbB
      obtain ⟨kk, hkk⟩ : ∃ kk, m = kk + 1 := ⟨m - 1, by omega⟩
      have hkI : (m : Int) - 1 = (kk : Int) := by omega
      have e1 : IntKind.i64.wrap ((m : Int) - 1) = (kk : Int) := by rw [IntKind.wrap_i64]; omega
      have hkv : (kk : Int) ≤ (vc : Int) := by omega
      have hkv2 : kk ≤ vc := by omega
      have hkm : (kk : Int) < (m : Int) := by omega
      have hkm2 : kk < m := by omega
      obtain ⟨g2, cs, rfl, hPg, hg2, hcl, hcs, hc1, hcE⟩ := cp_cells HR.out.1 (by omega)
      obtain ⟨e0k, ⟨sk, e1k, hsk⟩, e2k, e3k, e4k, e5k⟩ := hcE kk hkm2
      obtain ⟨ub, b, sc, rfl, hpu, hu, u0, u1, u2, hpb, hb, hh⟩ := hov_at hsk
      -- the boxes of the replacement and of the single
      obtain ⟨W4, hW4⟩ : ∃ X, X = (w2.alloc (.cells #[.slice (some ⟨g2, 0, none⟩) m vc] 120)).alloc (.cells #[.pointer none, .slice none 0 0, .slice none 0 0, .int .i32 0, .int .u8 0, .bool false] 134) := ⟨_, rfl⟩
      have hT := two_alloc w2 (.cells #[.slice (some ⟨g2, 0, none⟩) m vc] 120) (.cells #[.pointer none, .slice none 0 0, .slice none 0 0, .int .i32 0, .int .u8 0, .bool false] 134)
      rw [← hW4] at hT
      obtain ⟨hb4, hs4, hN13, hN14⟩ := hT
      have hb4w := hB2w.trans (hb4.mono hB2w.size)
      have hws : w.heap.size < w2.heap.size := Nat.lt_of_lt_of_le (heap_lt HB.out.2) hB2W.size
      have hbox4 := (hb4.block _ hws).trans ((hB2W.block _ (heap_lt HB.out.2)).trans HB.out.2)
      have y4 := (hcell hbox4 4 _ rfl).1
      have y13 := (hcell hN13 0 _ rfl).1
      obtain ⟨v1, w5, hap1, hown1, hgr1, hat1⟩ := own_app 118 134 _ 6 72 Tryz.underlying118 info_CP rfl (by decide) (by decide) W4 (.slice ra 0 rc) 0 [] (own_below HR.out.2.1 hb4w) ⟨g2, 0, none⟩ kk vc (cs.take (kk * 6)) (by rw [List.length_take]; omega) (fun j u hj => by
        rw [add0, cellLow (hb4w.block _ hg2)]
        rw [List.getElem?_take] at hj
        split at hj
        · rw [hcs j (by omega)]; exact hj
        · cases hj) (fun u hu => hc1 u (List.mem_of_mem_take hu)) (by omega)
      rw [Nat.zero_add] at hown1
      have hrv : ∀ q, q < W4.heap.size → (Value.slice ra 0 rc).ownBlock = some q → q < w.heap.size := fun q _ h => (HR.out.2.1.lt q h).2
      have k5 : ∀ q, q < W4.heap.size → (P q ∨ w.heap.size ≤ q) → w5.heap[q]? = W4.heap[q]? := fun q h1 h2 => hgr1.block q h1 (fun e => by
        rcases h2 with h2 | h2
        · exact HR.out.2.2.1 q h2 e
        · have := hrv q h1 e.symm; omega)
      have hs24 : w2.heap.size + 2 = W4.heap.size := hs4.symm
      have hbox5 := (k5 w.heap.size (by omega) (Or.inr (Nat.le_refl _))).trans hbox4
      have hN14' := (k5 (w2.heap.size + 1) (by omega) (Or.inr (by omega))).trans hN14
      have hN13' := (k5 w2.heap.size (by omega) (Or.inr (by omega))).trans hN13
      have y13' := (hcell hN13' 0 _ rfl).1
      have hg24 : g2 < W4.heap.size := by omega
      have kg2 : ∀ o, w5.cell? ⟨g2, o, none⟩ = w.cell? ⟨g2, o, none⟩ := fun o => (cellLow (k5 g2 hg24 (Or.inl hPg)) o).trans (cellLow (hb4w.block _ hg2) o)
      have z0 : w5.cell? ⟨g2, kk * 6, none⟩ = some (.pointer none) := by rw [kg2, hcs _ (by omega)]; exact e0k
      have z1 : w5.cell? ⟨g2, kk * 6 + 1, none⟩ = some (.slice (some ⟨ub, 0, none⟩) 1 sc) := by rw [kg2, hcs _ (by omega)]; exact e1k
      have z2 : w5.cell? ⟨g2, kk * 6 + 2, none⟩ = some (.slice none 0 0) := by rw [kg2, hcs _ (by omega)]; exact e2k
      have z3 : w5.cell? ⟨g2, kk * 6 + 3, none⟩ = some (.int .i32 0) := by rw [kg2, hcs _ (by omega)]; exact e3k
      have z4 : w5.cell? ⟨g2, kk * 6 + 4, none⟩ = some (.int .u8 0) := by rw [kg2, hcs _ (by omega)]; exact e4k
      have z5 : w5.cell? ⟨g2, kk * 6 + 5, none⟩ = some (.bool false) := by rw [kg2, hcs _ (by omega)]; exact e5k
      -- the single's store
      obtain ⟨⟨s0, s0f⟩, ⟨s1, s1f⟩, ⟨s2, s2f⟩, ⟨s3, s3f⟩, ⟨s4, s4f⟩, ⟨s5, s5f⟩, hN6⟩ := st6 hN14' (.pointer none) (.slice (some ⟨ub, 0, none⟩) 1 sc) (.slice none 0 0) (.int .i32 0) (.int .u8 0) (.bool false)
      obtain ⟨W6, hW6⟩ : ∃ X, X = (((((w5.setCell ⟨w2.heap.size + 1, 0, none⟩ (.pointer none)).setCell ⟨w2.heap.size + 1, 1, none⟩ (.slice (some ⟨ub, 0, none⟩) 1 sc)).setCell ⟨w2.heap.size + 1, 2, none⟩ (.slice none 0 0)).setCell ⟨w2.heap.size + 1, 3, none⟩ (.int .i32 0)).setCell ⟨w2.heap.size + 1, 4, none⟩ (.int .u8 0)).setCell ⟨w2.heap.size + 1, 5, none⟩ (.bool false) := ⟨_, rfl⟩
      rw [← hW6] at hN6
      have hw6 : ∀ q, q ≠ w2.heap.size + 1 → W6.heap[q]? = w5.heap[q]? := fun q hq => by
        rw [hW6]
        exact (hother _ _ _ hq).trans ((hother _ _ _ hq).trans ((hother _ _ _ hq).trans ((hother _ _ _ hq).trans ((hother _ _ _ hq).trans (hother _ _ _ hq)))))
      have hz6 : W6.heap.size = w5.heap.size := by rw [hW6]; simp [World.setCell]
      have hbox6 := (hw6 w.heap.size (by omega)).trans hbox5
      have hN136 := (hw6 w2.heap.size (by omega)).trans hN13'
      have x3 := (hcell hN6 3 _ rfl).1
      have x4 := (hcell hN6 4 _ rfl).1
      obtain ⟨b3, b3f⟩ := hcell hbox6 3 _ rfl
      have hbox6' := hset hbox6 3 (.int .i32 0)
      obtain ⟨b4, b4f⟩ := hcell hbox6' 4 _ rfl
      have hbox7 := hset hbox6' 4 (.int .u8 0)
      obtain ⟨W7, hW7⟩ : ∃ X, X = (W6.setCell ⟨w.heap.size, 3, none⟩ (.int .i32 0)).setCell ⟨w.heap.size, 4, none⟩ (.int .u8 0) := ⟨_, rfl⟩
      have hw7 : ∀ q, q ≠ w.heap.size → W7.heap[q]? = W6.heap[q]? := fun q hq => by rw [hW7]; exact (hother _ _ _ hq).trans (hother _ _ _ hq)
      have hz7 : W7.heap.size = W6.heap.size := by rw [hW7]; simp [World.setCell]
      rw [← hW7] at hbox7
      have hN7 := (hw7 (w2.heap.size + 1) (by omega)).trans hN6
      have t0 := (hcell hN7 0 _ rfl).1
      have t1 := (hcell hN7 1 _ rfl).1
      have hs5 := hgr1.size
      have hub7 : W7.heap[ub]? = w.heap[ub]? := (hw7 ub (by omega)).trans ((hw6 ub (by omega)).trans ((k5 ub (by omega) (Or.inl hpu)).trans (hb4w.block _ hu)))
      obtain ⟨v8, w8, hap2, hown2, hgr2, hat2⟩ := own_app 128 127 _ 3 24 Tryz.underlying128 info_SUB rfl (by decide) (by decide) W7 (.slice none 0 0) 0 [] (World.ownsRow_nil _ _ _ _) ⟨ub, 0, none⟩ 1 sc [.iface 121 (.pointer (some ⟨b, 0, none⟩)), .int .i32 0, .int .i32 0] rfl (three (f := fun j => W7.cell? ((⟨ub, 0, none⟩ : Addr).add j)) ((congrArg W7.cell? (add0 ub 0)).trans ((cellLow hub7 0).trans u0)) ((congrArg W7.cell? (add0 ub 1)).trans ((cellLow hub7 1).trans u1)) ((congrArg W7.cell? (add0 ub 2)).trans ((cellLow hub7 2).trans u2))) (by intro u hu; simp at hu; rcases hu with rfl | rfl | rfl <;> rfl) (by omega)
      rw [Nat.zero_add] at hown2
      obtain ⟨g8, c8, hv8, hc8, hg8⟩ : ∃ g8 c8, v8 = .slice (some ⟨g8, 0, none⟩) 1 c8 ∧ 1 ≤ c8 ∧ g8 = W7.heap.size := by
        have ho2 := hown2.2
        rcases ho2 with ⟨_, h0⟩ | ⟨g8, c8, cur, hv8, _, _, hc8, _⟩
        · cases h0
        · refine ⟨g8, c8, hv8, hc8, ?_⟩
          rcases hat2 with h | h
          · rw [hv8] at h; cases h
          · rw [hv8] at h; injection h
      subst hv8
      have hs8 := hgr2.size
      have k8 : ∀ q, q < W7.heap.size → w8.heap[q]? = W7.heap[q]? := fun q hq => hgr2.block q hq (fun e => by cases e)
      have hbox8 := (k8 w.heap.size (by omega)).trans hbox7
      obtain ⟨q1, q1f⟩ := hcell hbox8 1 _ rfl
      have hap3 := app_none 128 127 _ 3 24 Tryz.underlying128 info_SUB (some ⟨g8, 0, none⟩) 1 c8 hc8 w8
      obtain ⟨W9, hW9⟩ : ∃ X, X = w8.setCell ⟨w.heap.size, 1, none⟩ (.slice (some ⟨g8, 0, none⟩) 1 c8) := ⟨_, rfl⟩
      have hbox9 := hset hbox8 1 (.slice (some ⟨g8, 0, none⟩) 1 c8)
      rw [← hW9] at hbox9
      have hw9 : ∀ q, q ≠ w.heap.size → W9.heap[q]? = w8.heap[q]? := fun q hq => by rw [hW9]; exact hother _ _ _ hq
      have hz9 : W9.heap.size = w8.heap.size := by rw [hW9]; simp [World.setCell]
      have hF : ∀ q, q < w.heap.size → some q ≠ (Value.slice ra 0 rc).ownBlock → W9.heap[q]? = w.heap[q]? := fun q h1 h2 => (hw9 q (by omega)).trans ((k8 q (by omega)).trans ((hw7 q (by omega)).trans ((hw6 q (by omega)).trans ((hgr1.block q (by omega) h2).trans (hb4w.block _ h1)))))
      have o5 : w5.os = w.os ∧ w5.tape = w.tape ∧ w5.output = w.output := ⟨hgr1.os.trans hb4w.os, hgr1.tape.trans hb4w.tape, hgr1.output.trans hb4w.output⟩
      have o6 : W6.os = w.os ∧ W6.tape = w.tape ∧ W6.output = w.output := by
        rw [hW6]
        exact os_ch (os_ch (os_ch (os_ch (os_ch (os_ch o5 _ _) _ _) _ _) _ _) _ _) _ _
      have o7 : W7.os = w.os ∧ W7.tape = w.tape ∧ W7.output = w.output := by
        rw [hW7]
        exact os_ch (os_ch o6 _ _) _ _
      have o8 : w8.os = w.os ∧ w8.tape = w.tape ∧ w8.output = w.output := ⟨hgr2.os.trans o7.1, hgr2.tape.trans o7.2.1, hgr2.output.trans o7.2.2⟩
      have hos9 : W9.os = w.os ∧ W9.tape = w.tape ∧ W9.output = w.output := by
        rw [hW9]
        exact os_ch o8 _ _
      have hv1ge : ∀ q, v1.ownBlock = some q → (Value.slice ra 0 rc).ownBlock = some q ∨ q = W4.heap.size := fun q hq => by
        rcases hat1 with h | h
        · exact Or.inl (h ▸ hq)
        · rw [h] at hq; injection hq with hq; exact Or.inr hq.symm
      have hPv1 : ∀ q, P q → some q ≠ v1.ownBlock := fun q hq e => by
        rcases hv1ge q e.symm with h | h
        · exact HR.out.2.2.1 q hq h.symm
        · have := HR.out.2.2.2 q hq; omega
      have hown9 : W9.ownsRow 0 134 6 v1 kk (cs.take (kk * 6)) := own_keep hown1 (fun q hq => by
        have hlt := (hown1.lt q hq).2
        rcases hv1ge q hq with h | h
        · have := (HR.out.2.1.lt q h).2
          exact (hw9 q (by omega)).trans ((k8 q (by omega)).trans ((hw7 q (by omega)).trans (hw6 q (by omega))))
        · exact (hw9 q (by omega)).trans ((k8 q (by omega)).trans ((hw7 q (by omega)).trans (hw6 q (by omega)))))
      have hE9 : ∀ i, i < kk → CpH.E W9 P (fun t => (cs.take (kk * 6))[i * 6 + t]?) () := fun i hi => CpH.loc (fun t ht => by
        rw [List.getElem?_take, if_pos (by omega)]) (CpH.keep (P' := P) ⟨by omega, fun q hq hl => hF q hl (HR.out.2.2.1 q hq), fun q hq _ => hq⟩ (hcE i (by omega)))
      have hhov9 : RowL HovT W9 (fun q => P q ∨ (w.heap.size < q ∧ some q ≠ v1.ownBlock)) (.slice (some ⟨g8, 0, none⟩) 1 c8) [()] := by
        have hne8 : some g8 ≠ v1.ownBlock := fun e => by
          have := (hown1.lt g8 e.symm).2
          omega
        refine ⟨_, _, rfl, fun i hi => ?_⟩
        have hi0 : i = 0 := by simp at hi; omega
        subst hi0
        have cc : ∀ j, j < 3 → W9.cell? ⟨g8, 0 * 3 + j, none⟩ = [Value.iface 121 (.pointer (some ⟨b, 0, none⟩)), .int .i32 0, .int .i32 0][j]? := fun j hj => by
          have := World.ownsRow.cellAt hown2 j (by omega)
          rw [show 0 * 3 + j = j by omega]
          exact (cellLow (hw9 g8 (by omega)) j).trans this
        refine ⟨g8, rfl, Or.inr ⟨by omega, hne8⟩, by have := (hown2.lt g8 rfl).2; omega, b, cc 0 (by omega), cc 1 (by omega), cc 2 (by omega), Or.inl hpb, by omega, ?_⟩
        exact (hF b hb (HR.out.2.2.1 b hpb)).trans hh
      have HFIN := hid (show Lam w W (.slice ra 0 rc) (.slice (some ⟨nb, 0, none⟩) 1 nc) m P 0 v1 (.int .i64 1) W9 from ⟨1, rfl, rfl, (fun h => by cases h), fun _ => ⟨g8, c8, cs.take (kk * 6), by rw [show m - 1 = kk by omega]; exact hown9, by rw [show m - 1 = kk by omega]; exact hE9, hPv1, hbox9, hhov9, ⟨hos9.1, hos9.2.1, hos9.2.2, by omega, hF⟩, (by
        rcases hat1 with h | h
        · exact Or.inl h
        · exact Or.inr ⟨_, h, by omega⟩), fun q hq e => by
          rcases hv1ge q hq with h | h
          · have := (HR.out.2.1.lt q h).2; omega
          · omega⟩⟩)
      obtain ⟨v1a, v1c, hv1, _⟩ := own_shape hown1
      subst hv1
      have HAP1 := hid hap1
      have HAP2 := hid hap2
      have HAP3 := hid hap3
      have HWS := hid (And.intro hW4 (And.intro hW6 (And.intro hW7 hW9)))
      have y4' := y4
      have y13x := y13
      rw [hW4] at y4' y13x
      have HY4 := hid y4
      have HY13 := hid y13
      clear y4 y13
      have HKK := hid hkk
      clear hkk hs4 hown1 hgr1 hat1 hown2 hgr2 hat2 hap1 hap2 hap3 hW4 hW7 hW9 hb4 hN13 hN14 hb4w hws hbox4 hrv k5 hs24 hbox5 hN14' hN13' kg2 hN6 hw6 hz6 hbox6 hN136 hbox6' hbox7 hw7 hz7 hN7 hs5 hub7 hg8 hs8 k8 hbox8 hbox9 hw9 hz9 hF o5 o6 o7 o8 hos9 hv1ge hPv1 hown9 hE9 hhov9 hcs hc1 hcE e0k e1k e2k e3k e4k e5k hsk u0 u1 u2 hh hcl hB2w hB2W hPg hpu hpb
      clear hW6
      obtain ⟨dm, hdm⟩ : ∃ dm, ((m : Int) == 1) = dm := ⟨_, rfl⟩
      cases dm
      all_goals
        go_upto_region 8 with fail
        rw [← HWS.out.1]
        have y13 := HY13.out
        clear y4' y13x
        go_upto_region 9 with (at_builtin; go_loud (refine list_run rfl _ _ 118 rfl (.slice ra 0 rc) (.slice (some ⟨g2, 0, none⟩) kk vc) _ w5 rfl rfl HAP1.out ?_))
        clear y13
        go_upto_region 10 with fail
        rw [← HWS.out.2.1]
        clear s0 s0f s1 s1f s2 s2f s3 s3f s4 s4f s5 s5f z0 z1 z2 z3 z4 z5 y13'
        go_upto_region 19 with fail
        rw [← HWS.out.2.2.1]
        clear x3 x4 b3 b3f b4 b4f
        go_upto_region 26 with (at_builtin; go_loud (refine list_run rfl _ _ 128 rfl (.slice none 0 0) (.slice (some ⟨ub, 0, none⟩) 1 sc) _ w8 rfl rfl HAP2.out ?_))
        clear t0 t1
        go_upto_region 28 with (at_builtin; go_loud (refine list_run rfl _ _ 128 rfl (.slice (some ⟨g8, 0, none⟩) 1 c8) (.slice none 0 0) _ w8 rfl rfl HAP3.out ?_))
        rw [← HWS.out.2.2.2]
        clear q1 q1f
        go_wp2_with fail
        go_roundg 0
        case measure => omega
        case rel => exact HFIN.out
end Go.Proofs.YtjebnjjhdefejaaGreatFmt
