/-
  The rules built. Conditions: each theorem's own.
-/
import Derived.Test.YtphimfimnakclaaQj
namespace Go.Proofs.Ytphimfimnakclaa
open Go.RowKit Go.Lib
theorem St3.shape {B : Nat} {v1 v2 v3 : Value} {rs : List Rl} {w : World} (h : St3 B v1 v2 v3 rs w) : ∃ a1 c1 a2 c2 a3 c3, v1 = .slice a1 rs.length c1 ∧ v2 = .slice a2 rs.length c2 ∧ v3 = .slice a3 rs.length c3 := by
  obtain ⟨xs, x1, x2, _⟩ := h.rows
  obtain ⟨ks, y1, y2, _⟩ := h.keys
  obtain ⟨a1, c1, e1, _⟩ := x1.shape
  obtain ⟨a2, c2, e2, _⟩ := y1.shape
  obtain ⟨a3, c3, e3, _⟩ := h.deads.shape
  exact ⟨a1, c1, a2, c2, a3, c3, by rw [e1, x2], by rw [e2, y2], by rw [e3]; simp⟩
set_option maxHeartbeats 16000000 in
set_option maxRecDepth 100000 in
theorem br7 (a0 a1 a2 a3 a4 : Option Addr) (n0 n1 n2 n3 n4 k0 k1 k2 k3 k4 : Nat) (z0 z1 z2 z3 z4 : List Int) (w : World) (h0 : n0 ≤ 4096) (h1 : n1 ≤ 65536) (h2 : n2 ≤ 65536) (h3 : n3 ≤ 65536) (h4 : n4 ≤ 65536)
    (r0 : Row .u8 w a0 n0 z0) (r1 : Row .u8 w a1 n1 z1) (r2 : Row .u8 w a2 n2 z2) (r3 : Row .u8 w a3 n3 z3) (r4 : Row .u8 w a4 n4 z4) :
    Calls Try.prog 7 #[.slice a0 n0 k0, .slice a1 n1 k1, .slice a2 n2 k2, .slice a3 n3 k3, .slice a4 n4 k4] w fun e w' => BrR w e w' := by
  obtain ⟨w1, w2, w3, hw1, hw2, hw3, m1, m2, m3, hst, hbl⟩ := St3.start w n0 h0
  have HL0 := hid (show OuL w n0 n0 (.slice (some ⟨w.heap.size, 0, none⟩) 0 n0) (.slice (some ⟨w1.heap.size, 0, none⟩) 0 n0) (.slice (some ⟨w2.heap.size, 0, none⟩) 0 n0) (.int .i64 0) (.int .i64 0) (.int .i64 0) (.int .i64 0) w3 from ⟨[], 0, 0, 0, by simp, rfl, rfl, rfl, rfl, by omega, by omega, by omega, (fun r hr => by cases hr), hst, hbl⟩)
  have HR0 := hid r0
  have HR1 := hid r1
  have HR2 := hid r2
  have HR3 := hid r3
  have HR4 := hid r4
  clear hw1 hw2 hw3 hst hbl r0 r1 r2 r3 r4
  go_enter Try.func7, Try.ntmps7
  go_wp2_with fail
  clear m1 m2 m3
  go_loopg [13, 14, 15, 16, 17, 18, 19] n0 (fun g v13 v14 v15 v16 v17 v18 v19 wx => OuL w n0 g v13 v14 v15 v16 v17 v18 v19 wx)
  case atStart => exact HL0.out
  case round =>
    obtain ⟨rs, c, p, j, hg, rfl, rfl, rfl, rfl, hc1, hp1, hj1, hgood, hst, hbl⟩ := hrel.ex
    clear hrel HL0
    obtain ⟨b1, d1, b2, d2, b3, d3, g1, g2, g3⟩ := hst.shape
    obtain rfl := g1.symm
    obtain rfl := g2.symm
    obtain rfl := g3.symm
    cases gk with
    | zero =>
      have hc : ¬ ((rs.length : Int) < (n0 : Int)) := by omega
      have HQ := hid (And.intro hgood (And.intro hst hbl))
      clear hgood hst hbl
      go_wp2_with fail
      exact bodyPost_ret (v := .tuple #[.slice b1 rs.length d1, .slice b2 rs.length d2, .slice b3 rs.length d3]) (by simp [results, Try.results7, go_sem]) rfl ⟨rs, _, _, _, rfl, by omega, HQ.out.1, HQ.out.2.1, HQ.out.2.2⟩
    | succ g =>
      obtain ⟨ws, rfl⟩ : ∃ X, X = wr := ⟨_, rfl⟩
      have hc : (rs.length : Int) < (n0 : Int) := by omega
      obtain ⟨b, o, rfl, lo, q⟩ := HR0.out.cell (by omega)
      have q1 := q rs.length (by omega)
      obtain ⟨y0, y1⟩ := wf_u8 (HR0.out.wf rs.length (by omega))
      have cc : ws.cell? ⟨b, o + rs.length, none⟩ = some (.int .u8 (z0.getD rs.length 0)) := (hbl.cell (p := ⟨b, o + rs.length, none⟩) lo).trans q1
      obtain ⟨x, hx⟩ : ∃ x : Nat, z0.getD rs.length 0 = (x : Int) := ⟨(z0.getD rs.length 0).toNat, by omega⟩
      rw [hx] at cc y0 y1
      obtain ⟨n, hn, hn3⟩ : ∃ n : Nat, (x : Int) % 4 = (n : Int) ∧ n ≤ 3 := ⟨x % 4, by omega, by omega⟩
      obtain ⟨wa, hwa⟩ : ∃ X, X = ws.alloc (.cells #[.int .i64 ((x : Int) % 4)] 3) := ⟨_, rfl⟩
      have ba : Below ws.heap.size ws wa := by rw [hwa]; exact (Below.refl _ _).alloc (Nat.le_refl _) _
      have m5 := mkS0 53 56 _ 1 24 Try.underlying53 info56 (by decide) n (by omega) wa
      obtain ⟨wb, hwb⟩ : ∃ X, X = wa.alloc (mkO (.agg #[.slice none 0 0]) (n * 1) 56) := ⟨_, rfl⟩
      have bb : Below wa.heap.size wa wb := by rw [hwb]; exact (Below.refl _ _).alloc (Nat.le_refl _) _
      have k5 := (BO.lit ((x : Int) % 4) ws)
      rw [← hwa] at k5
      have k5' := k5.below bb
      rw [hn] at k5'
      have s5 := (BO.made (CxT SubT) 56 (.agg #[.slice none 0 0]) n ws.heap.size wa (by omega) ba.size)
      have sa : wa.heap.size = ws.heap.size + 1 := by rw [hwa]; simp
      rw [← hwb] at s5 m5
      rw [← hn] at m5
      rw [sa] at m5 s5
      rw [hwa] at m5
      have HI0 := hid (show InL ws n c p j n (.int .i64 c) (.int .i64 p) (.int .i64 j) (.slice (some ⟨ws.heap.size, 0, none⟩) 1 1) (.slice (some ⟨ws.heap.size + 1, 0, none⟩) 0 n) (.bool true) (.int .i64 0) wb from ⟨[], c, p, j, by simp, rfl, rfl, rfl, rfl, by simp, by simp, by simp, rfl, (fun r hr => by cases hr), s5, by simpa using k5', ba.trans (bb.mono ba.size)⟩)
      have e7 : IntKind.i64.wrap (x : Int) = (x : Int) := by rw [IntKind.wrap_i64]; omega
      have HN := hid (And.intro hn hn3)
      have HQ := hid (And.intro hgood (And.intro hst hbl))
      clear hwb hwa sa ba bb k5 k5' s5 hn hn3 hgood hst hbl q q1 hx
      go_wp2_with fail
      clear m5 cc
      go_loopg [16, 17, 18, 21, 22, 23, 24] n (fun g v16 v17 v18 v21 v22 v23 v24 wx => InL ws n c p j g v16 v17 v18 v21 v22 v23 v24 wx)
      case atStart => exact HI0.out
      case round =>
        obtain ⟨r, c', p', j', hrg, rfl, rfl, rfl, rfl, hc2, hp2, hj2, rfl, hgc, hbo, hkb, hblw⟩ := hrel.ex
        clear hrel HI0
        obtain ⟨va, vc, hv, hvc⟩ := hbo.shape
        obtain rfl := hv.symm
        have hkl := keyR_len r hgc
        obtain ⟨qa, qc, hq, hqc⟩ := hkb.shape
        have e2 : ((n : Int) :: r.flatMap keyX).length = (r.flatMap keyX).length + 1 := by rw [List.length_cons]
        rw [e2] at hq
        obtain ⟨L, hL⟩ : ∃ L, (r.flatMap keyX).length = L := ⟨_, rfl⟩
        rw [hL] at hq hkl e2
        obtain rfl := hq.symm
        obtain ⟨d, hd⟩ : ∃ d, deadR r = d := ⟨_, rfl⟩
        rw [hd]
        have HD := hid hd
        have E2 := hid e2
        clear hd e2 hL hqc
        cases gk with
        | zero =>
          have hrn : r.length = n := by omega
          have hn := HN.out.1
          have hc : ¬ ((r.length : Int) < (x : Int) % 4) := by rw [hn]; omega
          clear hn
          have C15 := hid (ru15 (rs.length : Nat) va r.length vc wr)
          have e8 : IntKind.i32.wrap (rs.length : Int) = (rs.length : Int) := by
            unfold IntKind.wrap
            simp [IntKind.bits, IntKind.signed]
            omega
          have HH := hid (And.intro hbo (And.intro hkb (And.intro hblw (And.intro hgc hrn))))
          clear hbo hkb hblw hgc hrn HR1 HR2 HR3 HR4
          go_wp2_with fail
          refine C15.out.mono ?_
          rintro e w5 hR5
          clear C15
          obtain ⟨b5, rfl, hb5, hh5, hB5⟩ := hR5.ex
          clear hR5
          obtain ⟨hbo, hkb, hblw, hgc, hrn⟩ := HH.out
          obtain ⟨hgood, hst, hbl⟩ := HQ.out
          have hB0 := hblw.trans (hB5.mono hblw.size)
          have hst5 := hst.keep hB0
          have hws := hblw.size
          have lo1 : ∀ v, (∃ g, v = some g ∧ g < ws.heap.size) ∨ v = none → ∀ g, ws.heap.size ≤ g → some g ≠ v := fun v hv g hg e => by
            rcases hv with ⟨g', e', l'⟩ | e'
            · rw [e'] at e; injection e with e; omega
            · rw [e'] at e; cases e
          obtain ⟨xs, x1, x2, _⟩ := hst.rows
          obtain ⟨ks, y1', y2', _⟩ := hst.keys
          have g1 := x1.ge
          have g2 := y1'.ge
          have g3 := hst.deads.ge
          have hFr : ∀ g, ws.heap.size ≤ g → NT w5 g → F3 w.heap.size (.slice b1 rs.length d1) (.slice b2 rs.length d2) (.slice b3 rs.length d3) w5 g := fun g l1 l2 =>
            ⟨by have := hbl.size; omega, l2, fun e => by have := g1 g e.symm; omega, fun e => by have := g2 g e.symm; omega, fun e => by have := g3 g e.symm; omega⟩
          have hrow := (hbo.done (by decide)).keep (w' := w5) (P' := F3 w.heap.size (.slice b1 rs.length d1) (.slice b2 rs.length d2) (.slice b3 rs.length d3) w5) ⟨hB5.size, fun g _ hg => hB5.block g hg, fun g hp hg => hFr g hp.1 (hp.2.of (hB5.block g hg))⟩
          have hkr := (hkb.below hB5).doneI (B' := w.heap.size) hbl.size
          rw [← hrn] at hkr
          obtain ⟨q1, l1, w6, q2, l2, w7, q3, l3, w8, p1, p2, p3, hst8, hB8⟩ := St3.push hst5 (x0 := .iface 63 (.pointer (some ⟨b5, 0, none⟩))) (s := .slice qa (L + 1) qc) (r := r) rfl rfl ⟨rfl, b5, _, rfl, hFr b5 (by omega) (nt_of hh5 (by decide)), heap_lt hh5, hh5, hrow⟩ hkr (by omega)
          rw [HD.out] at p3
          have P1 := hid p1
          have P2 := hid p2
          have P3 := hid p3
          have HS8 := hid (And.intro hst8 ((hbl.trans (hB0.mono hbl.size)).trans hB8))
          have hgr : Good r := ⟨by have := HN.out; omega, hgc⟩
          have HG := hid (And.intro hgood hgr)
          have hr3 : r.length ≤ 3 := hgr.1
          clear hbo hkb hblw hgc hrn hgood hst hbl hB0 hst5 hws lo1 x1 x2 y1' y2' g1 g2 g3 hFr hrow hkr p1 p2 p3 hst8 hB8 hgr hh5 hB5 hb5
          go_wp2_with (at_builtin; first | (refine list_run rfl _ _ 24 rfl (.slice b1 rs.length d1) (.slice (some ⟨w5.heap.size, 0, none⟩) 1 1) _ w6 rfl rfl P1.out ?_) | (refine list_run rfl _ _ 25 rfl (.slice b2 rs.length d2) (.slice (some ⟨w6.heap.size, 0, none⟩) 1 1) _ w7 rfl rfl P2.out ?_) | (refine list_run rfl _ _ 26 rfl (.slice b3 rs.length d3) (.slice (some ⟨w7.heap.size, 0, none⟩) 1 1) _ w8 rfl rfl P3.out ?_))
          go_roundg g
          case measure => omega
          case rel =>
            refine ⟨rs ++ [r], c', p', j', by first | (simp; done) | (simp; omega), by simp, rfl, rfl, rfl, by simp; omega, by simp; omega, by simp; omega, ?_, by simpa using HS8.out.1, HS8.out.2⟩
            intro q hq
            rcases List.mem_append.1 hq with q1 | q1
            · exact HG.out.1 q q1
            · rw [List.mem_singleton.1 q1]
              exact HG.out.2
        | succ g' =>
          have hn := HN.out.1
          have hn3 := HN.out.2
          have hc : (r.length : Int) < (x : Int) % 4 := by rw [hn]; omega
          have hr3 : r.length ≤ 3 := by omega
          have hrs : rs.length ≤ 4096 := by omega
          clear hn hn3
          have hbW := HQ.out.2.2.trans (hblw.mono HQ.out.2.2.size)
          have hbN : Below wr.heap.size wr (wr.alloc (.cells #[.slice none 0 0] 56)) := (Below.refl _ _).alloc (Nat.le_refl _) _
          have hk1 := hkb.below hbN
          have hW1 := hbW.trans (hbN.mono hbW.size)
          have hs1 : (wr.alloc (.cells #[Value.slice none 0 0] 56)).heap.size = wr.heap.size + 1 := by simp
          have hN1 : (wr.alloc (.cells #[.slice none 0 0] 56)).heap[wr.heap.size]? = some (.cells #[.slice none 0 0] 56 (0, 0)) := heap_alloc_new _ _
          have C14 := hid (cx14 a1 a2 a3 a4 n1 n2 n3 n4 k1 k2 k3 k4 z1 z2 z3 z4 c' p' j' ws.heap.size _ _ w (wr.alloc (.cells #[.slice none 0 0] 56)) h1 h2 h3 h4 (by omega) (by omega) (by omega) HR1.out HR2.out HR3.out HR4.out hW1 HQ.out.2.2.size hk1 (by rw [E2.out]; omega))
          have HH := hid (And.intro hbo (And.intro hk1 (And.intro hblw (And.intro hgc (And.intro hN1 (And.intro hs1 hbN))))))
          have e5 : IntKind.i64.wrap ((r.length : Int) + 1) = ((r.length + 1 : Nat) : Int) := by rw [IntKind.wrap_i64]; omega
          clear hbo hkb hk1 hblw hgc hbW hbN hW1 hs1 hN1
          go_wp2_with fail
          refine C14.out.mono ?_
          rintro e w5 hR5
          clear C14
          obtain ⟨cx, s, kv5, rfl, hso, hcx3, hm3, hrow, hK5⟩ := hR5.ex
          clear hR5
          obtain ⟨hbo, hk1, hblw, hgc, hN1, hs1, hbN⟩ := HH.out
          obtain ⟨sa, sc, hse, _⟩ := id hrow
          subst hse
          have hgs5 := hK5.gr.size
          have hws := hblw.size
          have blk5 : ∀ q, q < wr.heap.size → NT wr q → w5.heap[q]? = wr.heap[q]? := fun q q1 q2 => (hK5.gr.block q (by omega) (own_ne3 hk1 (q2.of (Below.heap_alloc _ _ _ q1)))).trans (Below.heap_alloc _ _ _ q1)
          have hN5 : w5.heap[wr.heap.size]? = some (.cells #[.slice none 0 0] 56 (0, 0)) := (hK5.gr.block _ (by omega) (own_ne3 hk1 (nt_of hN1 (by decide)))).trans hN1
          have hB5 : Below ws.heap.size ws w5 := hK5.base (hblw.trans (hbN.mono hblw.size)) (Nat.le_refl _) (fun g hg => (hk1.ge g hg).1)
          obtain ⟨u0, f0⟩ := hcell hN5 0 _ rfl
          obtain ⟨w6, hw6⟩ : ∃ X, X = w5.setCell ⟨wr.heap.size, 0, none⟩ (.slice sa cx.length sc) := ⟨_, rfl⟩
          have y := hset hN5 0 (.slice sa cx.length sc)
          have so : ∀ g, g ≠ wr.heap.size → w6.heap[g]? = w5.heap[g]? := fun g hg => by rw [hw6]; exact hother _ _ _ hg
          have hos6 : w6.os = w5.os ∧ w6.tape = w5.tape ∧ w6.output = w5.output := by rw [hw6]; exact os_set _ _ _
          have hsz6 : w6.heap.size = w5.heap.size := by rw [hw6]; simp [World.setCell]
          have hB6 : Below ws.heap.size ws w6 := by rw [hw6]; exact hB5.setCell hws _
          rw [← hw6] at y
          have y0 := (hcell y 0 _ rfl).1
          have hk6 := hK5.bo.keepI (w' := w6) (by omega) (fun g hg => so g (by
            rintro rfl
            exact own_ne3 hK5.bo (nt_of hN5 (by decide)) hg.symm))
          have hvo : ∀ g, (Value.slice va r.length vc).ownBlock = some g → ws.heap.size ≤ g ∧ g < wr.heap.size ∧ NT wr g := fun g hg => by
            obtain ⟨cur, hcur⟩ := hbo.typ g hg
            exact ⟨(hbo.ge g hg).1, (hbo.ge g hg).2, nt_of hcur (by decide)⟩
          have hbo6 := hbo.keepO (w' := w6) (by omega) (fun g hg => (so g (by have := hvo g hg; omega)).trans (blk5 g (hvo g hg).2.1 (hvo g hg).2.2)) (fun g q1 q2 q3 => (so g (by omega)).trans (blk5 g q2 q3))
          have hrow6 := hrow.keep (w' := w6) (P' := Fr ws.heap.size (.slice va r.length vc) w6) ⟨by omega, fun g hg _ => so g (by have := hg.1; omega), fun g hg _ => ⟨by have := hg.1; omega, fun q => by have := hvo g q.symm; have := hg.1; omega, hg.2.of (so g (by have := hg.1; omega))⟩⟩
          obtain ⟨g7, k7, w7, ha7, hbo7, hg7, hat7⟩ := hbo6.app 53 56 _ 24 [.slice sa cx.length sc] cx Try.underlying53 info56 rfl (by decide) (by decide) rfl (by intro u hu; simp at hu; rcases hu with rfl; rfl) ⟨_, rfl, hrow6⟩ (by omega)
          have hz6 : (w6.alloc (.cells [Value.slice sa cx.length sc].toArray 56)).heap.size = w6.heap.size + 1 := by simp
          have hs7 := hg7.size
          have blk7 : ∀ q, q < w6.heap.size → some q ≠ (Value.slice va r.length vc).ownBlock → w7.heap[q]? = w6.heap[q]? := fun q h1 h2 => (hg7.block q (by omega) h2).trans (Below.heap_alloc _ _ _ h1)
          have hk7 := hk6.keepI (w' := w7) (by omega) (fun g hg => blk7 g (hk6.ge g hg).2 (own_ne hk6 hbo6 (by decide) g hg))
          have hB7 : Below ws.heap.size ws w7 := hB6.trans ⟨hg7.os, hg7.tape, hg7.output, by omega, fun g hg => blk7 g (by omega) (fun e => by have := hvo g e.symm; omega)⟩
          have hkk : (((n : Int) :: r.flatMap keyX) ++ keyX cx) = (n : Int) :: (r ++ [cx]).flatMap keyX := by simp
          rw [hkk] at hk7
          have HA7 := hid ha7
          have HF := hid (And.intro hbo7 (And.intro hk7 hB7))
          have HW6 := hid hw6
          have HM := hid (show GoodC cx from ⟨hcx3, hm3⟩)
          have HGC := hid hgc
          have hsl := sumL_le cx hm3
          obtain ⟨S, hS⟩ : ∃ S, sumL cx = S := ⟨_, rfl⟩
          rw [hS] at hsl
          rw [hS]
          obtain ⟨dk, hdk⟩ : ∃ d, (cx.any fun m => m.any deadK) = d := ⟨_, rfl⟩
          rw [hdk]
          have HDK := hid hdk
          have Y := hid y0
          clear hdk hS hkk hm3 hbo hk1 hblw hgc hN1 hs1 hbN hrow hgs5 hws blk5 hN5 hB5 y so hos6 hsz6 hB6 hw6 y0 hk6 hvo hbo6 hrow6 ha7 hbo7 hg7 hat7 hz6 hs7 blk7 hk7 hB7 hK5
          go_upto_region 20 with fail
          rw [← HW6.out]
          have y0 := Y.out
          clear HW6 Y u0 f0
          cases dk
          all_goals
            go_wp2_with (at_builtin; go_loud (refine list_run rfl _ _ 53 rfl (.slice va r.length vc) (.slice (some ⟨w6.heap.size, 0, none⟩) 1 1) _ w7 rfl rfl HA7.out ?_))
            go_roundg g'
            case measure => omega
            case rel =>
              refine ⟨r ++ [cx], c' + 1, p' + cx.length, j' + S, by first | (simp; done) | (simp; omega), by simp, by first | rfl | simp, by first | rfl | simp, by first | rfl | simp, by simp; omega, by simp; omega, by simp; omega, ?_, ?_, by simpa using HF.out.1, HF.out.2.1, HF.out.2.2⟩
              · have h1 := HD.out
                have h2 := HDK.out
                simp only [deadR] at h1
                simp [deadR, h1, h2]
              · intro q hq
                rcases List.mem_append.1 hq with q1 | q1
                · exact HGC.out q q1
                · rw [List.mem_singleton.1 q1]
                  exact HM.out
end Go.Proofs.Ytphimfimnakclaa
