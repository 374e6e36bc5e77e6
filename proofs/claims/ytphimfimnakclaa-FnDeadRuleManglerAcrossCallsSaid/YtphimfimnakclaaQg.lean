/-
  A complex selector built. Conditions: each theorem's own.
-/
import Derived.Test.YtphimfimnakclaaQf
namespace Go.Proofs.Ytphimfimnakclaa
open Go.RowKit Go.Lib
abbrev keyC (m : List Nat) : List Int := (m.length : Int) :: ints m
abbrev keyX (cx : List (List Nat)) : List Int := (cx.length : Int) :: cx.flatMap keyC
def sumL (cx : List (List Nat)) : Nat := (cx.map List.length).sum
theorem sumL_snoc (cx : List (List Nat)) (m : List Nat) : sumL (cx ++ [m]) = sumL cx + m.length := by simp [sumL]
theorem sumL_le : ∀ (cx : List (List Nat)), (∀ m ∈ cx, m.length ≤ 3) → sumL cx ≤ 3 * cx.length
  | [], _ => by simp [sumL]
  | m :: l, h => by
    have h1 := sumL_le l (fun x hx => h x (List.mem_cons_of_mem _ hx))
    have h2 := h m (List.mem_cons.2 (Or.inl rfl))
    simp only [sumL, List.map_cons, List.sum_cons, List.length_cons] at *
    omega
theorem flat_len : ∀ (cx : List (List Nat)), (cx.flatMap keyC).length = cx.length + sumL cx
  | [] => by simp [sumL]
  | m :: l => by
    have h1 := flat_len l
    have h2 : sumL (m :: l) = m.length + sumL l := by simp [sumL]
    have h3 : (keyC m).length = m.length + 1 := by simp
    rw [List.flatMap_cons, List.length_append, h1, h2, h3, List.length_cons]
    omega
theorem KS.trans {Bk : Nat} {kv k1 k2 : Value} {s1 s2 : List Int} {w w1 w2 : World} (h : KS Bk kv w k1 s1 w1) (h' : KS Bk k1 w1 k2 s2 w2) : KS Bk kv w k2 s2 w2 := by
  have hs := h.gr.size
  refine ⟨h'.bo, ⟨h'.gr.os.trans h.gr.os, h'.gr.tape.trans h.gr.tape, h'.gr.output.trans h.gr.output, Nat.le_trans hs h'.gr.size, fun g h1 h2 => ?_⟩, fun g hg => ?_⟩
  · refine (h'.gr.block g (by omega) (fun e => ?_)).trans (h.gr.block g h1 h2)
    rcases h.at' g e.symm with q | q
    · exact h2 q.symm
    · omega
  · rcases h'.at' g hg with q | q
    · exact h.at' g q
    · exact Or.inr (by omega)
structure CxR (Bk : Nat) (kv : Value) (ks : List Int) (c p j : Nat) (w : World) (e : Ending) (w' : World) : Prop where
  ex : ∃ (cx : List (List Nat)) (s kv' : Value), e = .returned (.tuple #[.agg #[s], .int .i64 ((c + 1 : Nat) : Int), .int .i64 ((p + cx.length : Nat) : Int), .int .i64 ((j + sumL cx : Nat) : Int), .bool (cx.any fun m => m.any deadK), kv']) ∧ s.oneCell' = true ∧ cx.length ≤ 3 ∧ (∀ m ∈ cx, m.length ≤ 3) ∧ RowL (CpT SubT) w' (New w w') s cx ∧ KS Bk kv w kv' (ks ++ keyX cx) w'
structure CxL (Bk : Nat) (kv : Value) (ks : List Int) (p j n : Nat) (w : World) (g : Nat) (v5 v6 v7 v23 v24 v25 : Value) (wx : World) : Prop where
  ex : ∃ cx : List (List Nat), cx.length + g = n ∧ v25 = .int .i64 (cx.length : Nat) ∧ v5 = .int .i64 ((p + cx.length : Nat) : Int) ∧ v6 = .int .i64 ((j + sumL cx : Nat) : Int) ∧ v24 = .bool (cx.any fun m => m.any deadK) ∧ (∀ m ∈ cx, m.length ≤ 3) ∧ BO (CpT SubT) 85 (w.heap.size + 1) v23 cx wx ∧ KS Bk kv w v7 (ks ++ (n : Int) :: cx.flatMap keyC) wx ∧ wx.heap[w.heap.size]? = some (.cells #[.slice none 0 0] 56 (0, 0))
theorem one_os (w : World) (a : Addr) (v : Value) : (w.setCell a v).os = w.os ∧ (w.setCell a v).tape = w.tape ∧ (w.setCell a v).output = w.output := os_set w a v
set_option maxHeartbeats 16000000 in
set_option maxRecDepth 100000 in
theorem cx14 (a3 a0 a1 a2 : Option Addr) (n3 n0 n1 n2 c3 c0 c1 c2 : Nat) (z3 z0 z1 z2 : List Int) (c p j Bk : Nat) (kv : Value) (ks : List Int) (W0 w : World) (h3 : n3 ≤ 65536) (h0 : n0 ≤ 65536) (h1 : n1 ≤ 65536) (h2 : n2 ≤ 65536) (hcc : c ≤ 400000) (hp : p ≤ 400000) (hj : j ≤ 400000)
    (r3 : Row .u8 W0 a3 n3 z3) (r0 : Row .u8 W0 a0 n0 z0) (r1 : Row .u8 W0 a1 n1 z1) (r2 : Row .u8 W0 a2 n2 z2) (hW0 : Below W0.heap.size W0 w) (hBk : W0.heap.size ≤ Bk) (hkb : BO IntT 3 Bk kv ks w) (hkl : ks.length ≤ 500) :
    Calls Try.prog 14 #[.slice a3 n3 c3, .slice a0 n0 c0, .slice a1 n1 c1, .slice a2 n2 c2, .int .i64 c, .int .i64 p, .int .i64 j, kv] w fun e w' => CxR Bk kv ks c p j w e w' := by
  obtain ⟨ka, kc, hks, hkcap⟩ := hkb.shape
  obtain ⟨W, hW⟩ : ∃ W, W = w.alloc (.cells #[.slice none 0 0] 56) := ⟨_, rfl⟩
  have hWb : Below w.heap.size w W := by rw [hW]; exact (Below.refl _ _).alloc (Nat.le_refl _) _
  have hWs : W.heap.size = w.heap.size + 1 := by rw [hW]; simp
  have hWr : W.heap[w.heap.size]? = some (.cells #[.slice none 0 0] 56 (0, 0)) := by rw [hW]; exact heap_alloc_new _ _
  have hW0W := hW0.trans (hWb.mono hW0.size)
  have hkge : ∀ g, kv.ownBlock = some g → Bk ≤ g := fun g e => (hkb.ge g e).1
  have hKW : KS Bk kv w kv ks W := (KS.start hkb).below hWb
  obtain ⟨x, hx⟩ : ∃ x, atZ z3 n3 c = x := ⟨_, rfl⟩
  have C18 := hid (at18 a3 n3 c3 z3 c W h3 (by omega) (r3.below (Nat.le_refl _) hW0W))
  rw [hx] at C18
  obtain ⟨n, hn, hn3⟩ : ∃ n : Nat, (x : Int) % 4 = (n : Int) ∧ n ≤ 3 := ⟨x % 4, by omega, by omega⟩
  obtain ⟨g2, k2, w2, ha2, hK2, hs2, hb2, ho2⟩ := hKW.app ((x : Int) % 4) (by omega)
  rw [hn] at hK2
  have m54 := mkS0 54 85 _ 6 72 Try.underlying54 info85 (by decide) n (by omega) w2
  rw [← hn] at m54
  have hbo3 := BO.made (CpT SubT) 85 (.agg zCp) n (w.heap.size + 1) w2 (by omega) (by omega)
  have hB3 : Below w2.heap.size w2 (w2.alloc (mkO (.agg zCp) (n * 6) 85)) := (Below.refl _ _).alloc (Nat.le_refl _) _
  have hK3 := hK2.below hB3
  have hR3 : (w2.alloc (mkO (.agg zCp) (n * 6) 85)).heap[w.heap.size]? = some (.cells #[.slice none 0 0] 56 (0, 0)) := (hB3.block _ (by omega)).trans ((hb2 _ (by omega) (nt_of hWr (by decide))).trans hWr)
  subst hks
  have HL0 := hid (show CxL Bk (.slice ka ks.length kc) ks p j n w n (.int .i64 p) (.int .i64 j) (.slice (some ⟨g2, 0, none⟩) (ks.length + 1) k2) (.slice (some ⟨w2.heap.size, 0, none⟩) 0 n) (.bool false) (.int .i64 0) (w2.alloc (mkO (.agg zCp) (n * 6) 85)) from ⟨[], by simp, rfl, by simp, by simp [sumL], rfl, (fun m hm => by cases hm), hbo3, hK3, hR3⟩)
  have HA2 := hid ha2
  have HR0 := hid r0
  have HR1 := hid r1
  have HR2 := hid r2
  have HW0 := hid hW0
  have HG := hid hkge
  have HN := hid hn
  have HWS := hid hWs
  clear hbo3 hB3 hK3 hR3 hK2 hb2 ho2 ha2 hKW hkb r3 r0 r1 r2 hW0 hW0W hWb hWr hkge hx hn hWs
  go_enter Try.func14, Try.ntmps14
  go_wp2_with fail
  rw [← hW]
  clear hW
  refine C18.out.mono ?_
  rintro e w1 ⟨rfl, hw⟩
  obtain rfl := hw.symm
  clear C18
  go_wp2_with (at_builtin; go_loud (refine list_run rfl _ _ 50 rfl (.slice ka ks.length kc) (.slice (some ⟨W.heap.size, 0, none⟩) 1 1) _ w2 rfl rfl HA2.out ?_))
  clear m54 HA2
  go_loopg [5, 6, 7, 23, 24, 25] n (fun g v5 v6 v7 v23 v24 v25 wx => CxL Bk (.slice ka ks.length kc) ks p j n w g v5 v6 v7 v23 v24 v25 wx)
  case atStart => exact HL0.out
  case round =>
    obtain ⟨cx, hmg, rfl, rfl, rfl, rfl, hm3, hbo, hK, hres⟩ := hrel.ex
    clear hrel HL0
    obtain ⟨va, vc, hv, hvc⟩ := hbo.shape
    obtain rfl := hv.symm
    have hsl := sumL_le cx hm3
    have hfl := flat_len cx
    obtain ⟨qa, qc, hq, hqc⟩ := hK.bo.shape
    have e2 : (ks ++ (n : Int) :: cx.flatMap keyC).length = ks.length + 1 + (cx.length + sumL cx) := by rw [List.length_append, List.length_cons, hfl]; omega
    rw [e2] at hq hqc
    have E2 := hid e2
    clear e2 hfl
    obtain rfl := hq.symm
    have hlt := heap_lt hres
    generalize hS : sumL cx = S at *
    have HSS := hid hS
    clear hS
    obtain ⟨dm, hdm⟩ : ∃ d, (cx.any fun m => m.any deadK) = d := ⟨_, rfl⟩
    rw [hdm]
    have HDM := hid hdm
    have HM3 := hid hm3
    clear hdm hm3
    cases gk with
    | zero =>
      have hmn : cx.length = n := by omega
      have hc : ¬ ((cx.length : Int) < (x : Int) % 4) := by rw [HN.out]; omega
      obtain ⟨r0, k0⟩ : wr.cell? ⟨w.heap.size, 0, none⟩ = some (.slice none 0 0) ∧ wr.frozen? ⟨w.heap.size, 0, none⟩ = false := hcell hres 0 _ rfl
      have y := hset hres 0 (.slice va cx.length vc)
      have y0 : (wr.setCell ⟨w.heap.size, 0, none⟩ (.slice va cx.length vc)).cell? ⟨w.heap.size, 0, none⟩ = some (.slice va cx.length vc) := (hcell y 0 _ rfl).1
      have so : ∀ g, g ≠ w.heap.size → (wr.setCell ⟨w.heap.size, 0, none⟩ (.slice va cx.length vc)).heap[g]? = wr.heap[g]? := fun g hg => hother _ _ _ hg
      have ss : (wr.setCell ⟨w.heap.size, 0, none⟩ (.slice va cx.length vc)).heap.size = wr.heap.size := by simp [World.setCell]
      have hrow := (hbo.done (by decide)).keep (w' := wr.setCell ⟨w.heap.size, 0, none⟩ (.slice va cx.length vc)) (P' := New w (wr.setCell ⟨w.heap.size, 0, none⟩ (.slice va cx.length vc))) ⟨by omega, fun g hg _ => so g (by omega), fun g hg _ => ⟨by omega, hg.2.of (so g (by omega))⟩⟩
      have hKS := hK.step (w2 := wr.setCell ⟨w.heap.size, 0, none⟩ (.slice va cx.length vc)) (os_set _ _ _) (by omega) (fun g hg => so g (by omega)) (fun g hg => so g (by
        rintro rfl
        exact own_ne3 hK.bo (nt_of hres (by decide)) hg.symm))
      have HQ1 := hid hrow
      have HQ2 := hid hKS
      have Y0 := hid y0
      have HMN := hid hmn
      have e5 : IntKind.i64.wrap ((c : Int) + 1) = ((c + 1 : Nat) : Int) := by rw [IntKind.wrap_i64]; omega
      clear y y0 hrow hKS so ss hres hbo hK hmg hmn HR1 HR2
      go_wp2_with fail
      exact bodyPost_ret (v := .tuple #[.agg #[.slice va cx.length vc], .int .i64 ((c + 1 : Nat) : Int), .int .i64 ((p + cx.length : Nat) : Int), .int .i64 ((j + S : Nat) : Int), .bool dm, .slice qa (ks.length + 1 + (cx.length + S)) qc]) (by simp [results, Try.results14, go_sem, Y0.out]) rfl (by
        have e1 := HMN.out
        have e2 := HQ2.out
        have e3 := HDM.out
        have e4 := HSS.out
        rw [← e1] at e2
        rw [← e3, ← e4]
        rw [← e4] at e2
        exact ⟨cx, _, _, rfl, rfl, by omega, HM3.out, HQ1.out, e2⟩)
    | succ g =>
      have hc : (cx.length : Int) < (x : Int) % 4 := by rw [HN.out]; omega
      have hbN : Below wr.heap.size wr (wr.alloc (.cells zCp 85)) := (Below.refl _ _).alloc (Nat.le_refl _) _
      have hK1 := hK.below hbN
      have hW1 := hK1.base HW0.out hBk HG.out
      have hs1 : (wr.alloc (.cells zCp 85)).heap.size = wr.heap.size + 1 := by simp
      have hN1 : (wr.alloc (.cells zCp 85)).heap[wr.heap.size]? = some (.cells zCp 85 (0, 0)) := heap_alloc_new _ _
      have C19 := hid (cp19 a0 a1 a2 n0 n1 n2 c0 c1 c2 z0 z1 z2 (p + cx.length) (j + S) Bk _ _ W0 (wr.alloc (.cells zCp 85)) h0 h1 h2 (by omega) (by omega) HR0.out HR1.out HR2.out hW1 hBk hK1.bo (by rw [E2.out]; omega))
      have hcl : cx.length ≤ 3 := by omega
      have HH := hid (And.intro hbo (And.intro hK (And.intro hK1 (And.intro hN1 (And.intro hres hs1)))))
      have e5 : IntKind.i64.wrap ((cx.length : Int) + 1) = ((cx.length + 1 : Nat) : Int) := by rw [IntKind.wrap_i64]; omega
      have e6 : IntKind.i64.wrap (((p : Int) + (cx.length : Int)) + 1) = (p : Int) + ((cx.length + 1 : Nat) : Int) := by rw [IntKind.wrap_i64]; omega
      clear hbN hK1 hW1 hs1 hN1 hbo hK hres
      go_wp2_with fail
      refine C19.out.mono ?_
      rintro e w5 hR5
      clear C19
      obtain ⟨m, s, kv5, rfl, hm3, hrow, hK5⟩ := hR5.ex
      clear hR5
      obtain ⟨hbo, hK, hK1, hN1, hres, hs1⟩ := HH.out
      obtain ⟨sa, sc, hse, _⟩ := id hrow
      subst hse
      have hgs5 := hK5.gr.size
      have blk5 : ∀ q, q < wr.heap.size → NT wr q → w5.heap[q]? = wr.heap[q]? := fun q q1 q2 => (hK5.gr.block q (by omega) (own_ne3 hK.bo q2)).trans (Below.heap_alloc _ _ _ q1)
      have hN5 : w5.heap[wr.heap.size]? = some (.cells zCp 85 (0, 0)) := (hK5.gr.block _ (by omega) (own_ne3 hK1.bo (nt_of hN1 (by decide)))).trans hN1
      have hres5 := (blk5 _ hlt (nt_of hres (by decide))).trans hres
      have hKt := hK1.trans hK5
      obtain ⟨r0, k0⟩ := hcell hN5 0 _ rfl
      obtain ⟨r1, k1⟩ := hcell hN5 1 _ rfl
      obtain ⟨r2, k2'⟩ := hcell hN5 2 _ rfl
      obtain ⟨r3, k3⟩ := hcell hN5 3 _ rfl
      obtain ⟨r4, k4⟩ := hcell hN5 4 _ rfl
      obtain ⟨r5, k5⟩ := hcell hN5 5 _ rfl
      obtain ⟨w6, hw6⟩ : ∃ X, X = six w5 wr.heap.size (.pointer none) (.slice sa m.length sc) (.slice none 0 0) (.int .i32 0) (.int .u8 0) (.bool false) := ⟨_, rfl⟩
      have y := six_heap hN5 (.pointer none) (.slice sa m.length sc) (.slice none 0 0) (.int .i32 0) (.int .u8 0) (.bool false)
      have so : ∀ g, g ≠ wr.heap.size → w6.heap[g]? = w5.heap[g]? := fun g hg => by rw [hw6]; exact six_other _ hg _ _ _ _ _ _
      have hos6 : w6.os = w5.os ∧ w6.tape = w5.tape ∧ w6.output = w5.output := by rw [hw6]; exact six_os _ _ _ _ _ _ _ _
      have hsz6 : w6.heap.size = w5.heap.size := by rw [hw6]; exact six_size _ _ _ _ _ _ _ _
      rw [← hw6] at y
      have hw6' := hw6
      simp only [six] at hw6'
      have y0 := (hcell y 0 _ rfl).1
      have y1 := (hcell y 1 _ rfl).1
      have y2 := (hcell y 2 _ rfl).1
      have y3 := (hcell y 3 _ rfl).1
      have y4 := (hcell y 4 _ rfl).1
      have y5 := (hcell y 5 _ rfl).1
      have hK6 := hKt.step (w2 := w6) hos6 (by omega) (fun g hg => so g (by omega)) (fun g hg => so g (by
        rintro rfl
        exact own_ne3 hK5.bo (nt_of hN5 (by decide)) hg.symm))
      have hvo : ∀ g, (Value.slice va cx.length vc).ownBlock = some g → w.heap.size + 1 ≤ g ∧ g < wr.heap.size ∧ NT wr g := fun g hg => by
        obtain ⟨cur, hcur⟩ := hbo.typ g hg
        exact ⟨(hbo.ge g hg).1, (hbo.ge g hg).2, nt_of hcur (by decide)⟩
      have hbo6 := hbo.keepO (w' := w6) (by omega) (fun g hg => (so g (by have := hvo g hg; omega)).trans (blk5 g (hvo g hg).2.1 (hvo g hg).2.2)) (fun g q1 q2 q3 => (so g (by omega)).trans (blk5 g q2 q3))
      have hres6 := (so w.heap.size (by omega)).trans hres5
      have hrow6 := hrow.keep (w' := w6) (P' := Fr (w.heap.size + 1) (.slice va cx.length vc) w6) ⟨by omega, fun g hg _ => so g (by have := hg.1; omega), fun g hg _ => ⟨by have := hg.1; omega, fun q => by have := hvo g q.symm; have := hg.1; omega, hg.2.of (so g (by have := hg.1; omega))⟩⟩
      obtain ⟨g7, k7, w7, ha7, hbo7, hg7, hat7⟩ := hbo6.app 54 85 _ 72 [.pointer none, .slice sa m.length sc, .slice none 0 0, .int .i32 0, .int .u8 0, .bool false] m Try.underlying54 info85 rfl (by decide) (by decide) rfl (by intro u hu; simp at hu; rcases hu with rfl | rfl | rfl | rfl | rfl | rfl <;> rfl) ⟨rfl, ⟨_, rfl, hrow6⟩, rfl, rfl, rfl, rfl⟩ (by omega)
      have hz6 : (w6.alloc (.cells [Value.pointer none, .slice sa m.length sc, .slice none 0 0, .int .i32 0, .int .u8 0, .bool false].toArray 85)).heap.size = w6.heap.size + 1 := by simp
      have hs7 := hg7.size
      have blk7 : ∀ q, q < w6.heap.size → some q ≠ (Value.slice va cx.length vc).ownBlock → w7.heap[q]? = w6.heap[q]? := fun q h1 h2 => (hg7.block q (by omega) h2).trans (Below.heap_alloc _ _ _ h1)
      have hK7 := hK6.step (w2 := w7) ⟨hg7.os, hg7.tape, hg7.output⟩ (by omega) (fun q hq => blk7 q (by have := hK6.gr.size; omega) (fun e => by have := hvo q e.symm; omega)) (fun q hq => blk7 q (hK6.bo.ge q hq).2 (fun e => by
          obtain ⟨c1, hc1⟩ := hK6.bo.typ q hq
          obtain ⟨c2, hc2⟩ := hbo6.typ q e.symm
          rw [hc1] at hc2
          injection hc2 with hc2
          injection hc2 with _ hc2
          exact absurd hc2 (by decide)))
      have hres7 := (blk7 w.heap.size (heap_lt hres6) (fun e => by have := hvo _ e.symm; omega)).trans hres6
      have e9 : j + sumL (cx ++ [m]) = j + S + m.length := by rw [sumL_snoc, HSS.out]; omega
      have hkk : (ks ++ (n : Int) :: cx.flatMap keyC) ++ (m.length : Int) :: ints m = ks ++ (n : Int) :: (cx ++ [m]).flatMap keyC := by simp
      rw [hkk] at hK7
      have HA7 := hid ha7
      have HF := hid (And.intro hbo7 (And.intro hK7 hres7))
      have HW6 := hid hw6'
      have HM := hid hm3
      obtain ⟨dk, hdk⟩ : ∃ d, m.any deadK = d := ⟨_, rfl⟩
      rw [hdk]
      have HDK := hid hdk
      have HE9 := hid e9
      have Y := hid (And.intro y0 (And.intro y1 (And.intro y2 (And.intro y3 (And.intro y4 y5)))))
      clear hdk e9 hkk hm3 hbo hK hK1 hN1 hres hs1 hrow hgs5 blk5 hN5 hres5 hKt y so hos6 hsz6 hw6 hw6' y0 y1 y2 y3 y4 y5 hK6 hvo hbo6 hres6 hrow6 ha7 hbo7 hg7 hat7 hz6 hs7 blk7 hK7 hres7 hK5
      go_upto_region 11 with fail
      rw [← HW6.out]
      obtain ⟨y0, y1, y2, y3, y4, y5⟩ := Y.out
      clear HW6 Y r0 r1 r2 r3 r4 r5 k0 k1 k2' k3 k4 k5
      cases dk
      all_goals
        go_wp2_with (at_builtin; go_loud (refine list_run rfl _ _ 54 rfl (.slice va cx.length vc) (.slice (some ⟨w6.heap.size, 0, none⟩) 1 1) _ w7 rfl rfl HA7.out ?_))
        go_roundg g
        case measure => omega
        case rel =>
          refine ⟨cx ++ [m], by first | (simp; done) | (simp; omega), by simp, by first | (simp; done) | (simp; omega), by rw [HE9.out]; first | rfl | (simp; done) | (simp; omega), ?_, ?_, by simpa using HF.out.1, HF.out.2.1, HF.out.2.2⟩
          · have h1 := HDM.out
            have h2 := HDK.out
            simp [h1, h2]
          · intro q hq
            rcases List.mem_append.1 hq with q1 | q1
            · exact HM3.out q q1
            · rw [List.mem_singleton.1 q1]
              exact HM.out
end Go.Proofs.Ytphimfimnakclaa
