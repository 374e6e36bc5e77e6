/-
  The contract of the selector list's parser. Conditions: the cursor and the bytes.
-/
import Derived.Test.YtlhcgnlbhncfkaaCc
import Derived.Deep.QuietTactic
import Derived.Deep.LoopGhost
namespace Go.Proofs.Ytlhcgnlbhncfkaa
open Go.ChangeShapes Go.WideShapes Go.ChangeAt Go.RowKit

theorem info131 : (Try.prog.info? 131).map (fun i => (i.zero, i.size, decide (i.bytes ≤ 128))) = some (some (.agg #[.slice none 0 0]), 1, true) := by kernel_rfl
theorem info72b : (Try.prog.info? 72).map (fun i => (i.zero, i.size, decide (i.bytes ≤ 128))) = some (some (.agg #[.nilIface, .int .i32 0, .int .i32 0]), 3, true) := by kernel_rfl
def curI (w : World) (C : Nat) : Nat := match w.cell? ⟨C, 1, none⟩ with
  | some (.int _ i) => i.toNat
  | _ => 0
theorem Cur.curI {w : World} {C : Nat} {ops : Value} {i : Nat} (h : Cur w C ops i) : curI w C = i := by
  unfold Ytlhcgnlbhncfkaa.curI
  rw [h.c1]
  simp
/-- the parser's loop -/
structure Lt (d : Nat) (w0 : World) (C : Nat) (a : Option Addr) (N cap : Nat) (z : List Int) (i0 : Nat) (vl vc vs : Value) (w : World) : Prop where
  ex : ∃ i nl nc ns xl xc xs kl kc ks, i0 ≤ i ∧ i ≤ N ∧ nl ≤ i ∧ nc ≤ i ∧ ns ≤ i ∧ kl + kc + ks + toks z i0 = toks z i ∧ PL d w0 C a N cap i vl vc vs nl nc ns xl xc xs kl kc ks w
/-- what the parser gives -/
structure Parsed (d : Nat) (w : World) (C : Nat) (a : Option Addr) (N cap : Nat) (z : List Int) (i0 : Nat) (e : Ending) (w' : World) : Prop where
  ex : ∃ g n c i' k, e = .returned (.slice (some ⟨g, 0, none⟩) n c) ∧ 0 < n ∧ n ≤ 65537 ∧ i0 ≤ i' ∧ i' ≤ N ∧ Cur w' C (.slice a N cap) i' ∧ k + toks z i0 = toks z i' ∧ CL d w' (fun g => w.heap.size ≤ g) (.slice (some ⟨g, 0, none⟩) n c) k
  grow : w.grownBy w' (some C)
theorem below_drewN' {B : Nat} {a w : World} (h : Below B a w) (n : Nat) : Below B a (w.drewN n) := h.trans ⟨rfl, rfl, rfl, Nat.le_refl _, fun _ _ => rfl⟩
theorem own_shape {w : World} {base : Nat} {e : TypeId} {size : Nat} {v : Value} {n : Nat} {xs : List Value} (h : w.ownsRow base e size v n xs) : ∃ a c, v = .slice a n c := by
  rcases h.2 with ⟨rfl, rfl⟩ | ⟨g, cap, cur, rfl, _⟩
  · exact ⟨_, _, rfl⟩
  · exact ⟨_, _, rfl⟩
theorem own_shape1 {w : World} {base : Nat} {e : TypeId} {size : Nat} {v : Value} {n : Nat} {xs : List Value} (h : w.ownsRow base e size v (n + 1) xs) : ∃ g c, v = .slice (some ⟨g, 0, none⟩) (n + 1) c := by
  rcases h.2 with ⟨_, h0⟩ | ⟨g, cap, cur, rfl, _⟩
  · omega
  · exact ⟨_, _, rfl⟩
set_option maxRecDepth 20000 in
set_option maxHeartbeats 4000000 in
theorem list21 (N : Nat) (hN : N ≤ 65536) (a : Option Addr) (cap : Nat) (z : List Int) : ∀ (d : Nat) (w : World) (C i0 dep : Nat) (dv : Int), dv = (dep : Int) → Row .u8 w a N z → Cur w C (.slice a N cap) i0 → i0 ≤ N → N - i0 < d → dep ≤ i0 →
    Calls Try.prog 21 #[.pointer (some ⟨C, 0, none⟩), .int .i64 dv] w fun e w' => Parsed d w C a N cap z i0 e w'
  | 0, _, _, _, _, _, _, _, _, _, h, _ => by omega
  | d + 1, w, C, i0, dep, dv, hdv, r0, hc0, hi0, hd, hdep => by
    subst hdv
    have IH := Lib.hid (list21 N hN a cap z d)
    obtain ⟨i131, hi131⟩ : ∃ i, Try.prog.info? 131 = some i := by cases h : Try.prog.info? 131 with
      | some i => exact ⟨i, rfl⟩
      | none => have := info131; rw [h] at this; cases this
    have hi131' := info131
    rw [hi131] at hi131'
    simp at hi131'
    obtain ⟨z11, z12, z13⟩ := hi131'
    obtain ⟨i33, hi33⟩ : ∃ i, Try.prog.info? 33 = some i := by cases h : Try.prog.info? 33 with
      | some i => exact ⟨i, rfl⟩
      | none => have := info33; rw [h] at this; cases this
    have hi33' := info33
    rw [hi33] at hi33'
    simp at hi33'
    obtain ⟨z31, z32, z33⟩ := hi33'
    obtain ⟨i72, hi72⟩ : ∃ i, Try.prog.info? 72 = some i := by cases h : Try.prog.info? 72 with
      | some i => exact ⟨i, rfl⟩
      | none => have := info72b; rw [h] at this; cases this
    have hi72' := info72b
    rw [hi72] at hi72'
    simp at hi72'
    obtain ⟨z71, z72, z73⟩ := hi72'
    have R0 := Lib.hid r0
    have HC0 := Lib.hid hc0
    have clt := hc0.lt
    clear r0 hc0
    go_enter Try.func21, Try.ntmps21
    go_wp2_with (at_make; go_loud (refine wpList_make_own _ rfl _ _ 59 rfl w.heap.size 131 i131 _ 1 (by kernel_rfl) hi131 z11 z12 .i64 .i64 0 0 rfl rfl rfl ?d1 ?d2 ?d3 ?_))
    case d1 => omega
    case d2 => unfold maxLen; omega
    case d3 => omega
    intro w1 ho1 hg1
    have HL := Lib.hid (show Lt d w C a N cap z i0 (.slice (some ⟨w.heap.size, 0, none⟩) 0 0) (.slice none 0 0) (.slice none 0 0) w1 from ⟨⟨i0, 0, 0, 0, [], [], [], 0, 0, 0, Nat.le_refl _, hi0, by omega, by omega, by omega, by omega, ho1, World.ownsRow_nil _ _ _ _, World.ownsRow_nil _ _ _ _, RowK.nil _ _, RowK.nil _ _, RowK.nil _ _, HC0.out.block (hg1.block C clt (by simp)), ⟨hg1.os, hg1.tape, hg1.output, hg1.size, fun k hk _ => hg1.block k hk (by simp)⟩, clt⟩⟩)
    clear ho1 hg1
    go_wp2_with fail
    go_loopw [5, 6, 7] (fun vl vc vs wr => Lt d w C a N cap z i0 vl vc vs wr) (fun _ _ _ wr => N - curI wr C)
    case atStart => exact HL.out
    case round =>
      obtain ⟨i, nl, nc, ns, xl, xc, xs, kl, kc, ks, h1, h2, h3, h4, h5, h6, h7⟩ := hrel.ex
      have hcur := Lib.hid h7.cur.curI
      have H7 := Lib.hid h7
      clear hrel HL h7
      have c0 := H7.out.cur.c0
      have c1 := H7.out.cur.c1
      by_cases hlt : i < N
      · have R1 := R0.out.cur HC0.out H7.out.grow
        obtain ⟨b, o, rfl, lb, q⟩ := R1.cell (by omega)
        have x := q i hlt
        obtain ⟨y0, y1⟩ := wf_u8 (R1.wf i hlt)
        have hsucc := Lib.hid (toks_succ z i)
        have htok := Lib.hid (show tok z i = if z.getD i 0 % 5 ≤ 1 then 1 else 0 from rfl)
        clear q R1
        generalize z.getD i 0 = X at *
        go_wp2_with fail
        go_quiet (fail)
        obtain ⟨W, hW⟩ : ∃ W, W = wr.drewN nq := ⟨_, rfl⟩
        have H8 := Lib.hid (show PL d w C (some ⟨b, o, none⟩) N cap i _ _ _ nl nc ns xl xc xs kl kc ks W from by rw [hW]; exact H7.out.below (below_drewN' (Below.refl _ _) _))
        have xW : W.cell? ⟨b, o + i, none⟩ = some (.int .u8 X) := by rw [hW]; exact x
        have hsW : W.heap.size = wr.heap.size := by rw [hW]; rfl
        rw [← hW]
        clear hW c0 c1 x
        have c0 := H8.out.cur.c0
        have c1 := H8.out.cur.c1
        go_wp2_with fail
        go_quiet (fail)
        obtain ⟨V, hV⟩ : ∃ V, V = W.drewN nq := ⟨_, rfl⟩
        have H9 := Lib.hid (show PL d w C (some ⟨b, o, none⟩) N cap i _ _ _ nl nc ns xl xc xs kl kc ks V from by rw [hV]; exact H8.out.below (below_drewN' (Below.refl _ _) _))
        have hsV : V.heap.size = wr.heap.size := by rw [hV]; exact hsW
        rw [← hV]
        clear hV c0 c1 xW H7 H8 hsW
        have c0 := H9.out.cur.c0
        have c1 := H9.out.cur.c1
        have fz := H9.out.cur.fz 1
        obtain ⟨m5, hX, hm5⟩ : ∃ m : Nat, X % 5 = (m : Int) ∧ (m = 0 ∨ m = 1 ∨ m = 2 ∨ m = 3 ∨ m = 4) := ⟨(X % 5).toNat, by omega, by omega⟩
        have HHa := H9.out.step (i + 1)
        rw [show ((i + 1 : Nat) : Int) = (i : Int) + 1 by omega] at HHa
        have HH := Lib.hid HHa
        obtain ⟨a7, c7, e7⟩ := own_shape H9.out.os
        subst e7
        obtain ⟨a6, c6, e6⟩ := own_shape H9.out.oc
        subst e6
        obtain ⟨a5, c5, e5⟩ := own_shape H9.out.ol
        subst e5
        have KE0 := Lib.hid h6
        clear HHa H9 h6
        rcases hm5 with rfl | rfl | rfl | rfl | rfl
        · -- the byte is 0 modulo 5
          have hX2 : X % 5 = 0 := hX
          have hT : toks z (i + 1) = toks z i + 1 := by rw [hsucc.out, htok.out, hX2]; rfl
          have KE := Lib.hid (show kl + kc + ks + 1 + toks z i0 = toks z (i + 1) from by have := KE0.out; omega)
          clear htok hsucc KE0 hT hX
          go_wp2_with fail
          refine (leaf26 _).mono ?_
          rintro e w2 ⟨⟨bl, rfl⟩, hb2⟩
          have HG := Lib.hid (HH.out.below hb2)
          clear hb2 HH
          have hbs1 := Lib.hid (Nat.mul_le_mul (show ns + 1 ≤ 200000 by omega) z73)
          go_wp2_with (at_builtin; go_loud (refine wpList_append_own_at _ rfl _ _ 26 rfl w.heap.size 72 i72 (.agg #[.nilIface, .int .i32 0, .int .i32 0]) 3 i72.bytes (by kernel_rfl) hi72 z71 z72 rfl rfl (by decide) (Value.slice a7 ns c7) ns xs rfl (HG.out.os.alloc _) _ 1 1 [.iface 135 (.pointer (some ⟨bl, 0, none⟩)), .int .i32 0, .int .i32 0] rfl rfl ?a11 ?a12 ?a13 ?a14 ?a15 ?_))
          case a11 =>
            intro j u hj
            exact fresh_cells _ _ _ _ (by first | rfl | (simp [*]; done) | simp) j u (by exact hj)
          case a12 => intro u hu; simp at hu; rcases hu with rfl | rfl | rfl <;> rfl
          case a13 => unfold maxLen; omega
          case a14 => have := hbs1.out; omega
          case a15 => have := HG.out.grow.size; simp at this ⊢; omega
          intro vn1 wn1 ho1 hg1 _ hat1
          have H2 := Lib.hid ((HG.out.alloc _).subs (k := 1) (by omega) ⟨rfl, rfl, .inl ⟨bl, rfl, rfl⟩⟩ ho1 hg1 (hat1.imp id fun h => h.trans (by first | (simp; done) | (simp [hsV]; done) | (simp [hsW]; done))))
          clear ho1 hg1 hat1 HG
          go_wp2_with fail
          go_roundw
          case rel => exact ⟨i + 1, nl, nc, (ns + 1), xl, xc, _, kl, kc, (ks + 1), by omega, by omega, by omega, by omega, by omega, by have := KE.out; omega, H2.out⟩
          case measure => rw [H2.out.cur.curI, hcur.out]; omega
        · -- the byte is 1 modulo 5
          have hX2 : X % 5 = 1 := hX
          have hT : toks z (i + 1) = toks z i + 1 := by rw [hsucc.out, htok.out, hX2]; rfl
          have KE := Lib.hid (show kl + kc + ks + 1 + toks z i0 = toks z (i + 1) from by have := KE0.out; omega)
          clear htok hsucc KE0 hT hX
          have RS := R0.out.cur HC0.out HH.out.grow
          have szw := HH.out.grow.size
          go_wp2_with fail
          refine (IH.out _ C (i + 1) (dep + 1) _ (by omega) RS HH.out.cur (by omega) (by omega) (by omega)).mono ?_
          rintro e w2 ⟨⟨g2, n2, cc2, i2, k2, rfl, hn0, hn2, hi2, hi3, hcu2, hk2, hcl2⟩, hgr2⟩
          have HG := Lib.hid (HH.out.move hgr2 hcu2)
          have K2 := Lib.hid hk2
          have CL2 := Lib.hid hcl2
          have ltl := Lib.hid (fun g h => (HH.out.ol.lt g h).2)
          have ltc := Lib.hid (fun g h => (HH.out.oc.lt g h).2)
          have lts := Lib.hid (fun g h => (HH.out.os.lt g h).2)
          have TM := toks_mono z hi2
          clear hgr2 hcu2 hk2 hcl2 HH RS
          go_wp2_with fail
          refine (is27 _ _ _ _).mono ?_
          rintro e w3 ⟨⟨b3, rfl, hcell3, hge3, hlt3⟩, hb3⟩
          have hs2 := HG.out.grow.size
          have FB : Fr w (Value.slice a5 nl c5) (Value.slice a6 nc c6) (Value.slice a7 ns c7) b3 := ⟨by omega, fun e => by have := (HG.out.ol.lt b3 e.symm).2; omega, fun e => by have := (HG.out.oc.lt b3 e.symm).2; omega, fun e => by have := (HG.out.os.lt b3 e.symm).2; omega⟩
          have kp : Keep w2 w3 (fun g => (V.setCell ⟨C, 1, none⟩ (.int .i64 ((i : Int) + 1))).heap.size ≤ g) (Fr w (Value.slice a5 nl c5) (Value.slice a6 nc c6) (Value.slice a7 ns c7)) := ⟨hb3.size, fun g _ hg => hb3.block g hg, fun g hp _ => ⟨Nat.le_trans szw hp, fun e => by have := ltl.out g e.symm; omega, fun e => by have := ltc.out g e.symm; omega, fun e => by have := lts.out g e.symm; omega⟩⟩
          have CL3 := Lib.hid (CL.keep kp d CL2.out)
          have HG3 := Lib.hid (HG.out.below hb3)
          have FB3 := Lib.hid FB
          clear hb3 HG CL2 FB kp ltl ltc lts
          have hbs2 := Lib.hid (Nat.mul_le_mul (show ns + 1 ≤ 200000 by omega) z73)
          go_wp2_with (at_builtin; go_loud (refine wpList_append_own_at _ rfl _ _ 26 rfl w.heap.size 72 i72 (.agg #[.nilIface, .int .i32 0, .int .i32 0]) 3 i72.bytes (by kernel_rfl) hi72 z71 z72 rfl rfl (by decide) (Value.slice a7 ns c7) ns xs rfl (HG3.out.os.alloc _) _ 1 1 [.iface 139 (.pointer (some ⟨b3, 0, none⟩)), .int .i32 0, .int .i32 0] rfl rfl ?a21 ?a22 ?a23 ?a24 ?a25 ?_))
          case a21 =>
            intro j u hj
            exact fresh_cells _ _ _ _ (by first | rfl | (simp [*]; done) | simp) j u (by exact hj)
          case a22 => intro u hu; simp at hu; rcases hu with rfl | rfl | rfl <;> rfl
          case a23 => unfold maxLen; omega
          case a24 => have := hbs2.out; omega
          case a25 => have := HG3.out.grow.size; simp at this ⊢; omega
          intro vn2 wn2 ho2 hg2 _ hat2
          have ka := Keep.below (Fr w (Value.slice a5 nl c5) (Value.slice a6 nc c6) (Value.slice a7 ns c7)) ((Below.refl w3.heap.size w3).alloc (Nat.le_refl _) (.cells #[.iface 139 (.pointer (some ⟨b3, 0, none⟩)), .int .i32 0, .int .i32 0] 72))
          have H2 := Lib.hid ((HG3.out.alloc _).subs (k := 1 + k2) (by omega) ⟨rfl, rfl, .inr ⟨b3, _, k2, rfl, FB3.out, by simp; omega, (ka.cell FB3.out hlt3 0).trans hcell3, CL.keep ka d CL3.out, rfl⟩⟩ ho2 hg2 (hat2.imp id fun h => h.trans (by first | (simp; done) | (simp [hsV]; done) | (simp [hsW]; done))))
          clear ho2 hg2 hat2 HG3 ka
          have K4 := Lib.hid (show kl + kc + (ks + (1 + k2)) + toks z i0 = toks z i2 from by have h1 := KE.out; have h2 := K2.out; omega)
          go_wp2_with fail
          go_roundw
          case rel => exact ⟨i2, nl, nc, (ns + 1), xl, xc, _, kl, kc, (ks + (1 + k2)), by omega, by omega, by omega, by omega, by omega, by have := K4.out; omega, H2.out⟩
          case measure => rw [H2.out.cur.curI, hcur.out]; omega
        · -- the byte is 2 modulo 5
          have hX2 : X % 5 = 2 := hX
          have hT : toks z (i + 1) = toks z i + 0 := by rw [hsucc.out, htok.out, hX2]; rfl
          have KE := Lib.hid (show kl + kc + ks + 0 + toks z i0 = toks z (i + 1) from by have := KE0.out; omega)
          clear htok hsucc KE0 hT hX
          have hbs3 := Lib.hid (Nat.mul_le_mul (show nc + 1 ≤ 200000 by omega) z33)
          go_wp2_with (at_builtin; go_loud (refine wpList_append_own_at _ rfl _ _ 63 rfl w.heap.size 33 i33 (.agg #[.pointer none, .slice none 0 0, .slice none 0 0, .int .i32 0, .int .u8 0, .bool false]) 6 i33.bytes (by kernel_rfl) hi33 z31 z32 rfl rfl (by decide) (Value.slice a6 nc c6) nc xc rfl (HH.out.oc.alloc _) _ 1 1 [.pointer none, (Value.slice a7 ns c7), .slice none 0 0, .int .i32 0, .int .u8 0, .bool false] rfl rfl ?a31 ?a32 ?a33 ?a34 ?a35 ?_))
          case a31 =>
            intro j u hj
            exact fresh_cells _ _ _ _ (by first | rfl | (simp [*]; done) | simp) j u (by exact hj)
          case a32 => intro u hu; simp at hu; rcases hu with rfl | rfl | rfl | rfl | rfl | rfl <;> rfl
          case a33 => unfold maxLen; omega
          case a34 => have := hbs3.out; omega
          case a35 => have := HH.out.grow.size; simp at this ⊢; omega
          intro vn3 wn3 ho3 hg3 _ hat3
          have H2 := Lib.hid ((HH.out.alloc _).comp (by omega) ho3 hg3 (hat3.imp id fun h => h.trans (by first | (simp; done) | (simp [hsV]; done) | (simp [hsW]; done))))
          clear ho3 hg3 hat3 HH
          go_wp2_with fail
          go_roundw
          case rel => exact ⟨i + 1, nl, (nc + 1), 0, xl, _, [], kl, (kc + ks), 0, by omega, by omega, by omega, by omega, by omega, by have := KE.out; omega, H2.out⟩
          case measure => rw [H2.out.cur.curI, hcur.out]; omega
        · -- the byte is 3 modulo 5
          have hX2 : X % 5 = 3 := hX
          have hT : toks z (i + 1) = toks z i + 0 := by rw [hsucc.out, htok.out, hX2]; rfl
          have KE := Lib.hid (show kl + kc + ks + 0 + toks z i0 = toks z (i + 1) from by have := KE0.out; omega)
          clear htok hsucc KE0 hT hX
          have hbs4 := Lib.hid (Nat.mul_le_mul (show nc + 1 ≤ 200000 by omega) z33)
          go_wp2_with (at_builtin; go_loud (refine wpList_append_own_at _ rfl _ _ 63 rfl w.heap.size 33 i33 (.agg #[.pointer none, .slice none 0 0, .slice none 0 0, .int .i32 0, .int .u8 0, .bool false]) 6 i33.bytes (by kernel_rfl) hi33 z31 z32 rfl rfl (by decide) (Value.slice a6 nc c6) nc xc rfl (HH.out.oc.alloc _) _ 1 1 [.pointer none, (Value.slice a7 ns c7), .slice none 0 0, .int .i32 0, .int .u8 0, .bool false] rfl rfl ?a41 ?a42 ?a43 ?a44 ?a45 ?_))
          case a41 =>
            intro j u hj
            exact fresh_cells _ _ _ _ (by first | rfl | (simp [*]; done) | simp) j u (by exact hj)
          case a42 => intro u hu; simp at hu; rcases hu with rfl | rfl | rfl | rfl | rfl | rfl <;> rfl
          case a43 => unfold maxLen; omega
          case a44 => have := hbs4.out; omega
          case a45 => have := HH.out.grow.size; simp at this ⊢; omega
          intro vn4 wn4 ho4 hg4 _ hat4
          have HF := Lib.hid ((HH.out.alloc _).comp (by omega) ho4 hg4 (hat4.imp id fun h => h.trans (by first | (simp; done) | (simp [hsV]; done) | (simp [hsW]; done))))
          clear ho4 hg4 hat4 HH
          obtain ⟨af, cf, rfl⟩ := own_shape HF.out.oc
          have hbs5 := Lib.hid (Nat.mul_le_mul (show nl + 1 ≤ 200000 by omega) z13)
          go_wp2_with (at_builtin; go_loud (refine wpList_append_own_at _ rfl _ _ 59 rfl w.heap.size 131 i131 (.agg #[.slice none 0 0]) 1 i131.bytes (by kernel_rfl) hi131 z11 z12 rfl rfl (by decide) (Value.slice a5 nl c5) nl xl rfl (HF.out.ol.alloc _) _ 1 1 [.slice af (nc + 1) cf] rfl rfl ?a51 ?a52 ?a53 ?a54 ?a55 ?_))
          case a51 =>
            intro j u hj
            exact fresh_cells _ _ _ _ (by first | rfl | (simp [*]; done) | simp) j u (by exact hj)
          case a52 => intro u hu; simp at hu; subst hu <;> rfl
          case a53 => unfold maxLen; omega
          case a54 => have := hbs5.out; omega
          case a55 => have := HF.out.grow.size; simp at this ⊢; omega
          intro vn5 wn5 ho5 hg5 _ hat5
          have H2 := Lib.hid ((HF.out.alloc _).list (by omega) ho5 hg5 (hat5.imp id fun h => h.trans (by first | (simp; done) | (simp [hsV]; done) | (simp [hsW]; done))))
          clear ho5 hg5 hat5 HF
          go_wp2_with fail
          go_roundw
          case rel => exact ⟨i + 1, (nl + 1), 0, 0, _, [], [], (kl + (kc + ks)), 0, 0, by omega, by omega, by omega, by omega, by omega, by have := KE.out; omega, H2.out⟩
          case measure => rw [H2.out.cur.curI, hcur.out]; omega
        · -- the byte is 4 modulo 5
          have hX2 : X % 5 = 4 := hX
          have hT : toks z (i + 1) = toks z i + 0 := by rw [hsucc.out, htok.out, hX2]; rfl
          have KE := Lib.hid (show kl + kc + ks + 0 + toks z i0 = toks z (i + 1) from by have := KE0.out; omega)
          clear htok hsucc KE0 hT hX
          by_cases hd0 : dep = 0
          · have hdv1 : ((dep : Int) == 0) = true := by simp; omega
            clear hd0
            have hbs6 := Lib.hid (Nat.mul_le_mul (show nc + 1 ≤ 200000 by omega) z33)
            go_wp2_with (at_builtin; go_loud (refine wpList_append_own_at _ rfl _ _ 63 rfl w.heap.size 33 i33 (.agg #[.pointer none, .slice none 0 0, .slice none 0 0, .int .i32 0, .int .u8 0, .bool false]) 6 i33.bytes (by kernel_rfl) hi33 z31 z32 rfl rfl (by decide) (Value.slice a6 nc c6) nc xc rfl (HH.out.oc.alloc _) _ 1 1 [.pointer none, (Value.slice a7 ns c7), .slice none 0 0, .int .i32 0, .int .u8 0, .bool false] rfl rfl ?a61 ?a62 ?a63 ?a64 ?a65 ?_))
            case a61 =>
              intro j u hj
              exact fresh_cells _ _ _ _ (by first | rfl | (simp [*]; done) | simp) j u (by exact hj)
            case a62 => intro u hu; simp at hu; rcases hu with rfl | rfl | rfl | rfl | rfl | rfl <;> rfl
            case a63 => unfold maxLen; omega
            case a64 => have := hbs6.out; omega
            case a65 => have := HH.out.grow.size; simp at this ⊢; omega
            intro vn6 wn6 ho6 hg6 _ hat6
            have H2 := Lib.hid ((HH.out.alloc _).comp (by omega) ho6 hg6 (hat6.imp id fun h => h.trans (by first | (simp; done) | (simp [hsV]; done) | (simp [hsW]; done))))
            clear ho6 hg6 hat6 HH
            go_wp2_with fail
            go_roundw
            case rel => exact ⟨i + 1, nl, (nc + 1), 0, xl, _, [], kl, (kc + ks), 0, by omega, by omega, by omega, by omega, by omega, by have := KE.out; omega, H2.out⟩
            case measure => rw [H2.out.cur.curI, hcur.out]; omega
          · have hdv0 : ¬ (dep : Int) = 0 := by omega
            have hdv1 : ((dep : Int) == 0) = false := by simp; omega
            have hbs7 := Lib.hid (Nat.mul_le_mul (show nc + 1 ≤ 200000 by omega) z33)
            go_wp2_with (at_builtin; go_loud (refine wpList_append_own_at _ rfl _ _ 63 rfl w.heap.size 33 i33 (.agg #[.pointer none, .slice none 0 0, .slice none 0 0, .int .i32 0, .int .u8 0, .bool false]) 6 i33.bytes (by kernel_rfl) hi33 z31 z32 rfl rfl (by decide) (Value.slice a6 nc c6) nc xc rfl (HH.out.oc.alloc _) _ 1 1 [.pointer none, (Value.slice a7 ns c7), .slice none 0 0, .int .i32 0, .int .u8 0, .bool false] rfl rfl ?a71 ?a72 ?a73 ?a74 ?a75 ?_))
            case a71 =>
              intro j u hj
              exact fresh_cells _ _ _ _ (by first | rfl | (simp [*]; done) | simp) j u (by exact hj)
            case a72 => intro u hu; simp at hu; rcases hu with rfl | rfl | rfl | rfl | rfl | rfl <;> rfl
            case a73 => unfold maxLen; omega
            case a74 => have := hbs7.out; omega
            case a75 => have := HH.out.grow.size; simp at this ⊢; omega
            intro vn7 wn7 ho7 hg7 _ hat7
            have HF := Lib.hid ((HH.out.alloc _).comp (by omega) ho7 hg7 (hat7.imp id fun h => h.trans (by first | (simp; done) | (simp [hsV]; done) | (simp [hsW]; done))))
            clear ho7 hg7 hat7 HH
            obtain ⟨af, cf, rfl⟩ := own_shape HF.out.oc
            have hbs8 := Lib.hid (Nat.mul_le_mul (show nl + 1 ≤ 200000 by omega) z13)
            go_wp2_with (at_builtin; go_loud (refine wpList_append_own_at _ rfl _ _ 59 rfl w.heap.size 131 i131 (.agg #[.slice none 0 0]) 1 i131.bytes (by kernel_rfl) hi131 z11 z12 rfl rfl (by decide) (Value.slice a5 nl c5) nl xl rfl (HF.out.ol.alloc _) _ 1 1 [.slice af (nc + 1) cf] rfl rfl ?a81 ?a82 ?a83 ?a84 ?a85 ?_))
            case a81 =>
              intro j u hj
              exact fresh_cells _ _ _ _ (by first | rfl | (simp [*]; done) | simp) j u (by exact hj)
            case a82 => intro u hu; simp at hu; subst hu <;> rfl
            case a83 => unfold maxLen; omega
            case a84 => have := hbs8.out; omega
            case a85 => have := HF.out.grow.size; simp at this ⊢; omega
            intro vn8 wn8 ho8 hg8 _ hat8
            have HE := Lib.hid ((HF.out.alloc _).list (by omega) ho8 hg8 (hat8.imp id fun h => h.trans (by first | (simp; done) | (simp [hsV]; done) | (simp [hsW]; done))))
            clear ho8 hg8 hat8 HF
            obtain ⟨ge, ce, rfl⟩ := own_shape1 HE.out.ol
            go_wp2_with fail
            exact bodyPost_ret (v := .slice (some ⟨ge, 0, none⟩) (nl + 1) ce) (by simp [results, Try.results21, go_sem]) rfl ⟨⟨ge, nl + 1, ce, (i + 1), kl + (kc + ks), rfl, by omega, by omega, by omega, by omega, HE.out.cur, by have := KE.out; omega, HE.out.final⟩, HE.out.grow⟩
      · have e : i = N := by omega
        go_wp2_with fail
        go_quiet (fail)
        obtain ⟨W, hW⟩ : ∃ W, W = wr.drewN nq := ⟨_, rfl⟩
        have H8 := Lib.hid (show PL d w C a N cap i _ _ _ nl nc ns xl xc xs kl kc ks W from by rw [hW]; exact H7.out.below (below_drewN' (Below.refl _ _) _))
        have hsW : W.heap.size = wr.heap.size := by rw [hW]; rfl
        rw [← hW]
        clear hW c0 c1 H7
        obtain ⟨a7, c7, e7⟩ := own_shape H8.out.os
        subst e7
        obtain ⟨a6, c6, e6⟩ := own_shape H8.out.oc
        subst e6
        obtain ⟨a5, c5, e5⟩ := own_shape H8.out.ol
        subst e5
        have KE := Lib.hid h6
        clear h6
        have hbs9 := Lib.hid (Nat.mul_le_mul (show nc + 1 ≤ 200000 by omega) z33)
        go_wp2_with (at_builtin; go_loud (refine wpList_append_own_at _ rfl _ _ 63 rfl w.heap.size 33 i33 (.agg #[.pointer none, .slice none 0 0, .slice none 0 0, .int .i32 0, .int .u8 0, .bool false]) 6 i33.bytes (by kernel_rfl) hi33 z31 z32 rfl rfl (by decide) (Value.slice a6 nc c6) nc xc rfl (H8.out.oc.alloc _) _ 1 1 [.pointer none, (Value.slice a7 ns c7), .slice none 0 0, .int .i32 0, .int .u8 0, .bool false] rfl rfl ?a91 ?a92 ?a93 ?a94 ?a95 ?_))
        case a91 =>
          intro j u hj
          exact fresh_cells _ _ _ _ (by first | rfl | (simp [*]; done) | simp) j u (by exact hj)
        case a92 => intro u hu; simp at hu; rcases hu with rfl | rfl | rfl | rfl | rfl | rfl <;> rfl
        case a93 => unfold maxLen; omega
        case a94 => have := hbs9.out; omega
        case a95 => have := H8.out.grow.size; simp at this ⊢; omega
        intro vn9 wn9 ho9 hg9 _ hat9
        have HF := Lib.hid ((H8.out.alloc _).comp (by omega) ho9 hg9 (hat9.imp id fun h => h.trans (by first | (simp; done) | (simp [hsV]; done) | (simp [hsW]; done))))
        clear ho9 hg9 hat9 H8
        obtain ⟨af, cf, rfl⟩ := own_shape HF.out.oc
        have hbs10 := Lib.hid (Nat.mul_le_mul (show nl + 1 ≤ 200000 by omega) z13)
        go_wp2_with (at_builtin; go_loud (refine wpList_append_own_at _ rfl _ _ 59 rfl w.heap.size 131 i131 (.agg #[.slice none 0 0]) 1 i131.bytes (by kernel_rfl) hi131 z11 z12 rfl rfl (by decide) (Value.slice a5 nl c5) nl xl rfl (HF.out.ol.alloc _) _ 1 1 [.slice af (nc + 1) cf] rfl rfl ?a101 ?a102 ?a103 ?a104 ?a105 ?_))
        case a101 =>
          intro j u hj
          exact fresh_cells _ _ _ _ (by first | rfl | (simp [*]; done) | simp) j u (by exact hj)
        case a102 => intro u hu; simp at hu; subst hu <;> rfl
        case a103 => unfold maxLen; omega
        case a104 => have := hbs10.out; omega
        case a105 => have := HF.out.grow.size; simp at this ⊢; omega
        intro vn10 wn10 ho10 hg10 _ hat10
        have HE := Lib.hid ((HF.out.alloc _).list (by omega) ho10 hg10 (hat10.imp id fun h => h.trans (by first | (simp; done) | (simp [hsV]; done) | (simp [hsW]; done))))
        clear ho10 hg10 hat10 HF
        obtain ⟨ge, ce, rfl⟩ := own_shape1 HE.out.ol
        go_wp2_with fail
        exact bodyPost_ret (v := .slice (some ⟨ge, 0, none⟩) (nl + 1) ce) (by simp [results, Try.results21, go_sem]) rfl ⟨⟨ge, nl + 1, ce, i, kl + (kc + ks), rfl, by omega, by omega, by omega, by omega, HE.out.cur, by have := KE.out; omega, HE.out.final⟩, HE.out.grow⟩
end Go.Proofs.Ytlhcgnlbhncfkaa
