/-
  A compound selector built. Conditions: each theorem's own.
-/
import Derived.Test.YtphimfimnakclaaQe
namespace Go.Proofs.Ytphimfimnakclaa
open Go.RowKit Go.Lib
abbrev zCp : Array Value := #[.pointer none, .slice none 0 0, .slice none 0 0, .int .i32 0, .int .u8 0, .bool false]
abbrev ints (m : List Nat) : List Int := List.map (fun (k : Nat) => (k : Int)) m
structure CpR (Bk : Nat) (kv : Value) (ks : List Int) (j : Nat) (w : World) (e : Ending) (w' : World) : Prop where
  ex : ∃ (m : List Nat) (s kv' : Value), e = .returned (.tuple #[.agg #[.pointer none, s, .slice none 0 0, .int .i32 0, .int .u8 0, .bool false], .int .i64 ((j + m.length : Nat) : Int), .bool (m.any deadK), kv']) ∧ m.length ≤ 3 ∧ RowL SubT w' (New w w') s m ∧ KS Bk kv w kv' (ks ++ (m.length : Int) :: ints m) w'
structure CpL (Bk : Nat) (kv : Value) (ks : List Int) (j n : Nat) (w : World) (g : Nat) (v4 v5 v17 v18 v19 : Value) (wx : World) : Prop where
  ex : ∃ m : List Nat, m.length + g = n ∧ v19 = .int .i64 (m.length : Nat) ∧ v4 = .int .i64 ((j + m.length : Nat) : Int) ∧ v18 = .bool (m.any deadK) ∧ BO SubT 96 (w.heap.size + 1) v17 m wx ∧ KS Bk kv w v5 (ks ++ (n : Int) :: ints m) wx ∧ wx.heap[w.heap.size]? = some (.cells zCp 85 (0, 0))
theorem KS.base {Bk : Nat} {kv kv' : Value} {ks : List Int} {W0 w w' : World} (h : KS Bk kv w kv' ks w') (hW : Below W0.heap.size W0 w) (hB : W0.heap.size ≤ Bk) (hk : ∀ g, kv.ownBlock = some g → Bk ≤ g) : Below W0.heap.size W0 w' :=
  ⟨h.gr.os.trans hW.os, h.gr.tape.trans hW.tape, h.gr.output.trans hW.output, Nat.le_trans hW.size h.gr.size, fun g hg => (h.gr.block g (Nat.lt_of_lt_of_le hg hW.size) (fun e => by have := hk g e.symm; omega)).trans (hW.block g hg)⟩
theorem own_ne3 {w : World} {kv : Value} {Bk : Nat} {ks : List Int} (h : BO IntT 3 Bk kv ks w) {b : Nat} (hb : NT w b) : some b ≠ kv.ownBlock := fun e => by
  obtain ⟨cur, hc⟩ := h.typ b e.symm
  exact hb _ _ hc
def six (w : World) (b : Nat) (v0 v1 v2 v3 v4 v5 : Value) : World := (((((w.setCell ⟨b, 0, none⟩ v0).setCell ⟨b, 1, none⟩ v1).setCell ⟨b, 2, none⟩ v2).setCell ⟨b, 3, none⟩ v3).setCell ⟨b, 4, none⟩ v4).setCell ⟨b, 5, none⟩ v5
theorem six_heap {w : World} {b : Nat} {u0 u1 u2 u3 u4 u5 : Value} {e : TypeId} (h : w.heap[b]? = some (.cells #[u0, u1, u2, u3, u4, u5] e (0, 0))) (v0 v1 v2 v3 v4 v5 : Value) : (six w b v0 v1 v2 v3 v4 v5).heap[b]? = some (.cells #[v0, v1, v2, v3, v4, v5] e (0, 0)) := by
  have := hset (hset (hset (hset (hset (hset h 0 v0) 1 v1) 2 v2) 3 v3) 4 v4) 5 v5
  simpa [six] using this
theorem six_other (w : World) {b g : Nat} (h : g ≠ b) (v0 v1 v2 v3 v4 v5 : Value) : (six w b v0 v1 v2 v3 v4 v5).heap[g]? = w.heap[g]? := by
  unfold six
  rw [hother _ _ _ h, hother _ _ _ h, hother _ _ _ h, hother _ _ _ h, hother _ _ _ h, hother _ _ _ h]
theorem os_set (w : World) (a : Addr) (v : Value) : (w.setCell a v).os = w.os ∧ (w.setCell a v).tape = w.tape ∧ (w.setCell a v).output = w.output := ⟨rfl, rfl, rfl⟩
theorem six_os (w : World) (b : Nat) (v0 v1 v2 v3 v4 v5 : Value) : (six w b v0 v1 v2 v3 v4 v5).os = w.os ∧ (six w b v0 v1 v2 v3 v4 v5).tape = w.tape ∧ (six w b v0 v1 v2 v3 v4 v5).output = w.output :=
  ⟨(os_set _ _ _).1.trans ((os_set _ _ _).1.trans ((os_set _ _ _).1.trans ((os_set _ _ _).1.trans ((os_set _ _ _).1.trans ((os_set _ _ _).1))))), (os_set _ _ _).2.1.trans ((os_set _ _ _).2.1.trans ((os_set _ _ _).2.1.trans ((os_set _ _ _).2.1.trans ((os_set _ _ _).2.1.trans ((os_set _ _ _).2.1))))), (os_set _ _ _).2.2.trans ((os_set _ _ _).2.2.trans ((os_set _ _ _).2.2.trans ((os_set _ _ _).2.2.trans ((os_set _ _ _).2.2.trans ((os_set _ _ _).2.2)))))⟩
theorem six_size (w : World) (b : Nat) (v0 v1 v2 v3 v4 v5 : Value) : (six w b v0 v1 v2 v3 v4 v5).heap.size = w.heap.size := by simp [six, World.setCell]
set_option maxHeartbeats 16000000 in
set_option maxRecDepth 100000 in
theorem cp19 (a0 a1 a2 : Option Addr) (n0 n1 n2 c0 c1 c2 : Nat) (z0 z1 z2 : List Int) (p j Bk : Nat) (kv : Value) (ks : List Int) (W0 w : World) (h0 : n0 ≤ 65536) (h1 : n1 ≤ 65536) (h2 : n2 ≤ 65536) (hp : p ≤ 500000) (hj : j ≤ 500000)
    (r0 : Row .u8 W0 a0 n0 z0) (r1 : Row .u8 W0 a1 n1 z1) (r2 : Row .u8 W0 a2 n2 z2) (hW0 : Below W0.heap.size W0 w) (hBk : W0.heap.size ≤ Bk) (hkb : BO IntT 3 Bk kv ks w) (hkl : ks.length ≤ 1000) :
    Calls Try.prog 19 #[.slice a0 n0 c0, .slice a1 n1 c1, .slice a2 n2 c2, .int .i64 p, .int .i64 j, kv] w fun e w' => CpR Bk kv ks j w e w' := by
  obtain ⟨ka, kc, hks, hkcap⟩ := hkb.shape
  obtain ⟨W, hW⟩ : ∃ W, W = w.alloc (.cells #[.pointer none, .slice none 0 0, .slice none 0 0, .int .i32 0, .int .u8 0, .bool false] 85) := ⟨_, rfl⟩
  have hWb : Below w.heap.size w W := by rw [hW]; exact (Below.refl _ _).alloc (Nat.le_refl _) _
  have hWs : W.heap.size = w.heap.size + 1 := by rw [hW]; simp
  have hWr : W.heap[w.heap.size]? = some (.cells zCp 85 (0, 0)) := by rw [hW]; exact heap_alloc_new _ _
  have hW0W := hW0.trans (hWb.mono hW0.size)
  have hkge : ∀ g, kv.ownBlock = some g → Bk ≤ g := fun g e => (hkb.ge g e).1
  have hKW : KS Bk kv w kv ks W := (KS.start hkb).below hWb
  obtain ⟨x, hx⟩ : ∃ x, atZ z0 n0 p = x := ⟨_, rfl⟩
  have C18 := hid (at18 a0 n0 c0 z0 p W h0 (by omega) (r0.below (Nat.le_refl _) hW0W))
  rw [hx] at C18
  obtain ⟨n, hn, hn3⟩ : ∃ n : Nat, (x : Int) % 4 = (n : Int) ∧ n ≤ 3 := ⟨x % 4, by omega, by omega⟩
  obtain ⟨g2, k2, w2, ha2, hK2, hs2, hb2, ho2⟩ := hKW.app ((x : Int) % 4) (by omega)
  rw [hn] at hK2
  have m80 := mkS0 80 96 _ 3 24 Try.underlying80 info96 (by decide) n (by omega) w2
  rw [← hn] at m80
  have hbo3 := BO.made SubT 96 (.agg #[.nilIface, .int .i32 0, .int .i32 0]) n (w.heap.size + 1) w2 (by omega) (by omega)
  have hB3 : Below w2.heap.size w2 (w2.alloc (mkO (.agg #[.nilIface, .int .i32 0, .int .i32 0]) (n * 3) 96)) := (Below.refl _ _).alloc (Nat.le_refl _) _
  have hK3 := hK2.below hB3
  have hR3 : (w2.alloc (mkO (.agg #[.nilIface, .int .i32 0, .int .i32 0]) (n * 3) 96)).heap[w.heap.size]? = some (.cells zCp 85 (0, 0)) := (hB3.block _ (by omega)).trans ((hb2 _ (by omega) (nt_of hWr (by decide))).trans hWr)
  subst hks
  have HL0 := hid (show CpL Bk (.slice ka ks.length kc) ks j n w n (.int .i64 j) (.slice (some ⟨g2, 0, none⟩) (ks.length + 1) k2) (.slice (some ⟨w2.heap.size, 0, none⟩) 0 n) (.bool false) (.int .i64 0) (w2.alloc (mkO (.agg #[.nilIface, .int .i32 0, .int .i32 0]) (n * 3) 96)) from ⟨[], by simp, rfl, by simp, rfl, hbo3, hK3, hR3⟩)
  have HA2 := hid ha2
  have HR1 := hid r1
  have HR2 := hid r2
  have HW0 := hid hW0
  have HG := hid hkge
  have HN := hid hn
  have HWS := hid hWs
  clear hbo3 hB3 hK3 hR3 hK2 hb2 ho2 ha2 hKW hkb r0 r1 r2 hW0 hW0W hWb hWr hkge hx hn hWs
  go_enter Try.func19, Try.ntmps19
  go_wp2_with fail
  rw [← hW]
  clear hW
  refine C18.out.mono ?_
  rintro e w1 ⟨rfl, hw⟩
  obtain rfl := hw.symm
  clear C18
  go_wp2_with (at_builtin; go_loud (refine list_run rfl _ _ 50 rfl (.slice ka ks.length kc) (.slice (some ⟨W.heap.size, 0, none⟩) 1 1) _ w2 rfl rfl HA2.out ?_))
  clear m80 HA2
  go_loopg [4, 5, 17, 18, 19] n (fun g v4 v5 v17 v18 v19 wx => CpL Bk (.slice ka ks.length kc) ks j n w g v4 v5 v17 v18 v19 wx)
  case atStart => exact HL0.out
  case round =>
    obtain ⟨m, hmg, rfl, rfl, rfl, hbo, hK, hres⟩ := hrel.ex
    clear hrel HL0
    obtain ⟨va, vc, hv, hvc⟩ := hbo.shape
    obtain rfl := hv.symm
    obtain ⟨qa, qc, hq, hqc⟩ := hK.bo.shape
    have e2 : (ks ++ (n : Int) :: ints m).length = ks.length + 1 + m.length := by simp; omega
    rw [e2] at hq hqc
    have E2 := hid e2
    clear e2
    obtain rfl := hq.symm
    have hlt := heap_lt hres
    cases gk with
    | zero =>
      have hmn : m.length = n := by omega
      have hc : ¬ ((m.length : Int) < (x : Int) % 4) := by rw [HN.out]; omega
      obtain ⟨r0, k0⟩ := hcell hres 0 _ rfl
      obtain ⟨r1, k1⟩ := hcell hres 1 _ rfl
      obtain ⟨r2, k2'⟩ := hcell hres 2 _ rfl
      obtain ⟨r3, k3⟩ := hcell hres 3 _ rfl
      obtain ⟨r4, k4⟩ := hcell hres 4 _ rfl
      obtain ⟨r5, k5⟩ := hcell hres 5 _ rfl
      have y := six_heap hres (.pointer none) (.slice va m.length vc) (.slice none 0 0) (.int .i32 0) (.int .u8 0) (.bool false)
      have y0 := (hcell y 0 _ rfl).1
      have y1 := (hcell y 1 _ rfl).1
      have y2 := (hcell y 2 _ rfl).1
      have y3 := (hcell y 3 _ rfl).1
      have y4 := (hcell y 4 _ rfl).1
      have y5 := (hcell y 5 _ rfl).1
      have so : ∀ g, g ≠ w.heap.size → (six wr w.heap.size (.pointer none) (.slice va m.length vc) (.slice none 0 0) (.int .i32 0) (.int .u8 0) (.bool false)).heap[g]? = wr.heap[g]? := fun g hg => six_other _ hg _ _ _ _ _ _
      have hrow := (hbo.done (by decide)).keep (w' := six wr w.heap.size (.pointer none) (.slice va m.length vc) (.slice none 0 0) (.int .i32 0) (.int .u8 0) (.bool false)) (P' := New w (six wr w.heap.size (.pointer none) (.slice va m.length vc) (.slice none 0 0) (.int .i32 0) (.int .u8 0) (.bool false))) ⟨by rw [six_size]; exact Nat.le_refl _, fun g hg _ => so g (by omega), fun g hg _ => ⟨by omega, hg.2.of (so g (by omega))⟩⟩
      have hKS := hK.step (w2 := six wr w.heap.size (.pointer none) (.slice va m.length vc) (.slice none 0 0) (.int .i32 0) (.int .u8 0) (.bool false)) (six_os _ _ _ _ _ _ _ _) (by rw [six_size]; exact Nat.le_refl _) (fun g hg => so g (by omega)) (fun g hg => so g (by
        rintro rfl
        exact own_ne3 hK.bo (nt_of hres (by decide)) hg.symm))
      simp only [six] at y0 y1 y2 y3 y4 y5 hrow hKS
      have HQ1 := hid hrow
      have HQ2 := hid hKS
      have Y0 := hid y0
      have Y1 := hid y1
      have Y2 := hid y2
      have Y3 := hid y3
      have Y4 := hid y4
      have Y5 := hid y5
      have HMN := hid hmn
      clear y y0 y1 y2 y3 y4 y5 hrow hKS so hres hbo hK hmg hmn HR1 HR2
      obtain ⟨dm, hdm⟩ : ∃ d, m.any deadK = d := ⟨_, rfl⟩
      rw [hdm]
      have HDM := hid hdm
      clear hdm
      go_wp2_with fail
      exact bodyPost_ret (v := .tuple #[.agg #[.pointer none, .slice va m.length vc, .slice none 0 0, .int .i32 0, .int .u8 0, .bool false], .int .i64 ((j + m.length : Nat) : Int), .bool dm, .slice qa (ks.length + 1 + m.length) qc]) (by simp [results, Try.results19, go_sem, Y0.out, Y1.out, Y2.out, Y3.out, Y4.out, Y5.out]) rfl (by
        have e1 := HMN.out
        have e2 := HQ2.out
        have e3 := HDM.out
        rw [← e1] at e2
        rw [← e3]
        exact ⟨m, _, _, rfl, by omega, HQ1.out, e2⟩)
    | succ g =>
      have hc : (m.length : Int) < (x : Int) % 4 := by rw [HN.out]; omega
      have hWb := hK.base HW0.out hBk HG.out
      have R1 := HR1.out.below (Nat.le_refl _) hWb
      have R2 := HR2.out.below (Nat.le_refl _) hWb
      have C21 := hid (dead21 a1 a2 n1 n2 c1 c2 z1 z2 (j + m.length) wr h1 h2 (by omega) R1 R2)
      have C22 := hid (key22 a1 a2 n1 n2 c1 c2 z1 z2 (j + m.length) wr h1 h2 (by omega) R1 R2)
      have HB0 := hid hWb
      clear R1 R2 hWb
      generalize hkz : keyZ z1 z2 n1 n2 (j + m.length) = K at *
      have HKZ := hid hkz
      clear hkz
      obtain ⟨g5, k5, w5, ha5, hK5, hs5, hb5, ho5⟩ := hK.app (K : Int) (by rw [E2.out]; omega)
      rw [E2.out] at ha5 hK5
      have hres5 := (hb5 _ hlt (nt_of hres (by decide))).trans hres
      have hbo5 := hbo.keepO (w' := w5) hs5 (fun g hg => hb5 g (hbo.ge g hg).2 (by obtain ⟨cur, hcur⟩ := hbo.typ g hg; exact nt_of hcur (by decide))) (fun g _ h1 h2 => hb5 g h1 h2)
      have hWb5 := hK5.base HW0.out hBk HG.out
      have C23 := hid (sub23 a1 a2 n1 n2 c1 c2 z1 z2 (j + m.length) w5 h1 h2 (by omega) (HR1.out.below (Nat.le_refl _) hWb5) (HR2.out.below (Nat.le_refl _) hWb5))
      rw [HKZ.out] at C23
      have HA5 := hid ha5
      have HS5 := hid (And.intro hres5 (And.intro hbo5 hK5))
      have e5 : IntKind.i64.wrap ((m.length : Int) + 1) = ((m.length + 1 : Nat) : Int) := by rw [IntKind.wrap_i64]; omega
      have e6 : IntKind.i64.wrap (((j : Int) + (m.length : Int)) + 1) = (j : Int) + ((m.length + 1 : Nat) : Int) := by rw [IntKind.wrap_i64]; omega
      have hml : m.length ≤ 3 := by omega
      obtain ⟨dm, hdm⟩ : ∃ d, m.any deadK = d := ⟨_, rfl⟩
      obtain ⟨dk, hdk⟩ : ∃ d, deadK K = d := ⟨_, rfl⟩
      rw [hdm]
      rw [hdk] at C21
      have HDM := hid (And.intro hdm hdk)
      clear hres5 hbo5 hK5 hres hbo hK hb5 ho5 ha5 hWb5 hdm hdk
      go_wp2_with fail
      refine C21.out.mono ?_
      rintro e w1 ⟨rfl, hw⟩
      obtain rfl := hw.symm
      clear C21
      cases dk
      all_goals
        go_wp2_with fail
        refine C22.out.mono ?_
        rintro e w1 ⟨rfl, hw⟩
        obtain rfl := hw.symm
        clear C22
        go_wp2_with (at_builtin; go_loud (refine list_run rfl _ _ 50 rfl (.slice qa (ks.length + 1 + m.length) qc) (.slice (some ⟨wr.heap.size, 0, none⟩) 1 1) _ w5 rfl rfl HA5.out ?_))
        refine C23.out.mono ?_
        rintro e w6 hR6
        obtain ⟨c6, rfl, ho6, hE6, hb6⟩ := hR6.ex
        obtain ⟨hres5, hbo5, hK5⟩ := HS5.out
        have hbo6 := hbo5.below hb6
        have hK6 := hK5.below hb6
        have hres6 := (hb6.block _ (heap_lt hres5)).trans hres5
        have hfr := hbo5.fresh
        obtain ⟨g7, k7, w7, ha7, hbo7, hg7, hat7⟩ := hbo6.app 80 96 _ 24 [c6, .int .i32 0, .int .i32 0] K Try.underlying80 info96 rfl (by decide) (by decide) rfl (by intro u hu; simp at hu; rcases hu with rfl | rfl | rfl <;> first | exact ho6 | rfl) (SubT.keep (Keep.weak w6 fun g hp _ => ⟨(hfr g hp.1).1, (hfr g hp.1).2, hp.2⟩) hE6) (by omega)
        have hz6 : (w6.alloc (.cells [c6, Value.int .i32 0, .int .i32 0].toArray 96)).heap.size = w6.heap.size + 1 := by simp
        have hs7 := hg7.size
        have hs6 := hb6.size
        have blk7 : ∀ q, q < w6.heap.size → some q ≠ (Value.slice va m.length vc).ownBlock → w7.heap[q]? = w6.heap[q]? := fun q h1 h2 => (hg7.block q (by omega) h2).trans (Below.heap_alloc _ _ _ h1)
        have hlow : ∀ q, (Value.slice va m.length vc).ownBlock = some q → w.heap.size + 1 ≤ q := fun q hq => (hbo6.ge q hq).1
        have hK7 := hK6.step (w2 := w7) ⟨hg7.os, hg7.tape, hg7.output⟩ (by omega) (fun q hq => blk7 q (by have := hK6.gr.size; omega) (fun e => by have := hlow q e.symm; omega)) (fun q hq => blk7 q (hK6.bo.ge q hq).2 (fun e => by
          obtain ⟨c1, hc1⟩ := hK6.bo.typ q hq
          obtain ⟨c2, hc2⟩ := hbo6.typ q e.symm
          rw [hc1] at hc2
          injection hc2 with hc2
          injection hc2 with _ hc2
          exact absurd hc2 (by decide)))
        have hres7 := (blk7 w.heap.size (heap_lt hres6) (fun e => by have := hlow _ e.symm; omega)).trans hres6
        have HA7 := hid ha7
        have HF := hid (And.intro hbo7 (And.intro hK7 hres7))
        clear hfr hbo5 hbo6 hK5 hK6 hres5 hres6 hE6 hb6 ha7 hbo7 hg7 hat7 hz6 hs7 hs6 blk7 hlow hK7 hres7 hR6 C23
        go_wp2_with (at_builtin; go_loud (refine list_run rfl _ _ 80 rfl (.slice va m.length vc) (.slice (some ⟨w6.heap.size, 0, none⟩) 1 1) _ w7 rfl rfl HA7.out ?_))
        go_roundg g
        case measure => omega
        case rel =>
          refine ⟨m ++ [K], by first | (simp; done) | (simp; omega), by simp, by first | (simp; done) | (simp; omega), ?_, by simpa using HF.out.1, ?_, HF.out.2.2⟩
          · have := HDM.out
            simp [this.1, this.2]
          · have := HF.out.2.1
            simpa using this
end Go.Proofs.Ytphimfimnakclaa
