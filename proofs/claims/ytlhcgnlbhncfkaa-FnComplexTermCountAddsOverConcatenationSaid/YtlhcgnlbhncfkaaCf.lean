/-
  The contract of the top compound's parser, and the walk of the law on the compound's term count. Conditions: the bytes.
-/
import Derived.Test.YtlhcgnlbhncfkaaCe
namespace Go.Proofs.Ytlhcgnlbhncfkaa
open Go.ChangeShapes Go.WideShapes Go.ChangeAt Go.RowKit

/-- the top parser's loop -/
structure Lz (d : Nat) (W : World) (C : Nat) (a : Option Addr) (N cap : Nat) (z : List Int) (vs : Value) (w : World) : Prop where
  ex : ∃ i ns xs ks, i ≤ N ∧ ns ≤ i ∧ ks = toks z i ∧ PL d W C a N cap i (.slice none 0 0) (.slice none 0 0) vs 0 0 ns [] [] xs 0 0 ks w
/-- what the top parser gives -/
structure Topped (d : Nat) (w : World) (C : Nat) (k : Nat) (e : Ending) (w' : World) : Prop where
  ex : ∃ s, e = .returned (.agg #[.pointer none, s, .slice none 0 0, .int .i32 0, .int .u8 0, .bool false]) ∧ RowOf 3 (SubE (CL d w' (fun g => w.heap.size ≤ g)) w' (fun g => w.heap.size ≤ g)) w' (fun g => w.heap.size ≤ g) s k
  grow : w.grownBy w' (some C)
set_option maxRecDepth 20000 in
set_option maxHeartbeats 4000000 in
theorem top10 (N : Nat) (hN : N ≤ 65536) (a : Option Addr) (cap : Nat) (z : List Int) (w : World) (C : Nat) (r0 : Row .u8 w a N z) (hc0 : Cur w C (.slice a N cap) 0) :
    Calls Try.prog 10 #[.pointer (some ⟨C, 0, none⟩)] w fun e w' => Topped (N + 1) w C (toks z N) e w' := by
  have IH := Lib.hid (list21 N hN a cap z (N + 1))
  obtain ⟨d, hd⟩ : ∃ d, d = N + 1 := ⟨_, rfl⟩
  rw [← hd] at IH ⊢
  have hdN : N < d := by omega
  clear hd
  obtain ⟨i72, hi72⟩ : ∃ i, Try.prog.info? 72 = some i := by cases h : Try.prog.info? 72 with
    | some i => exact ⟨i, rfl⟩
    | none => have := info72b; rw [h] at this; cases this
  have hi72' := info72b
  rw [hi72] at hi72'
  simp at hi72'
  obtain ⟨z71, z72, z73⟩ := hi72'
  obtain ⟨W, hW⟩ : ∃ W, W = w.alloc (.cells #[.pointer none, .slice none 0 0, .slice none 0 0, .int .i32 0, .int .u8 0, .bool false] 33) := ⟨_, rfl⟩
  have bW : Below w.heap.size w W := by rw [hW]; exact (Below.refl _ _).alloc (Nat.le_refl _) _
  have hcW : W.heap[w.heap.size]? = some (.cells #[.pointer none, .slice none 0 0, .slice none 0 0, .int .i32 0, .int .u8 0, .bool false] 33 (0, 0)) := by rw [hW]; exact Go.heap_alloc_new _ _
  have hsW : W.heap.size = w.heap.size + 1 := by rw [hW]; simp
  have clt := hc0.lt
  have R0 := Lib.hid (r0.below (Nat.le_refl _) bW)
  have HC0 := Lib.hid (hc0.block (bW.block C clt))
  have BW := Lib.hid bW
  have HCW := Lib.hid hcW
  have HL := Lib.hid (show Lz d W C a N cap z (.slice none 0 0) W from ⟨0, 0, [], 0, by omega, by omega, rfl, ⟨World.ownsRow_nil _ _ _ _, World.ownsRow_nil _ _ _ _, World.ownsRow_nil _ _ _ _, RowK.nil _ _, RowK.nil _ _, RowK.nil _ _, HC0.out, ⟨rfl, rfl, rfl, Nat.le_refl _, fun _ _ _ => rfl⟩, by omega⟩⟩)
  have HSW := Lib.hid hsW
  clear r0 hc0 bW hcW hsW
  go_enter Try.func10, Try.ntmps10
  go_wp2_with fail
  rw [← hW]
  clear hW
  go_loopw [3] (fun vs wr => Lz d W C a N cap z vs wr) (fun _ wr => N - curI wr C)
  case atStart => exact HL.out
  case round =>
    obtain ⟨i, ns, xs, ks, h1, h2, h3, h7⟩ := hrel.ex
    have hcur := Lib.hid h7.cur.curI
    have H7 := Lib.hid h7
    clear hrel HL h7
    have c0 := H7.out.cur.c0
    have c1 := H7.out.cur.c1
    by_cases hlt : i < N
    · have R1 := R0.out.cur HC0.out H7.out.grow
      obtain ⟨b, o, rfl, lb, q⟩ := R1.cell (by omega)
      have x := q i hlt
      obtain ⟨y0, y1⟩ := wf_u8 (R1.wf i hlt)
      have hsucc := Lib.hid (toks_succ z i)
      have htok := Lib.hid (show tok z i = if z.getD i 0 % 5 ≤ 1 then 1 else 0 from rfl)
      clear q R1
      generalize z.getD i 0 = X at *
      go_wp2_with fail
      go_quiet (fail)
      obtain ⟨U, hU⟩ : ∃ U, U = wr.drewN nq := ⟨_, rfl⟩
      have H8 := Lib.hid (show PL d W C (some ⟨b, o, none⟩) N cap i _ _ _ 0 0 ns [] [] xs 0 0 ks U from by rw [hU]; exact H7.out.below (below_drewN' (Below.refl _ _) _))
      have xU : U.cell? ⟨b, o + i, none⟩ = some (.int .u8 X) := by rw [hU]; exact x
      have hsU : U.heap.size = wr.heap.size := by rw [hU]; rfl
      rw [← hU]
      clear hU c0 c1 x
      have c0 := H8.out.cur.c0
      have c1 := H8.out.cur.c1
      go_wp2_with fail
      go_quiet (fail)
      obtain ⟨V, hV⟩ : ∃ V, V = U.drewN nq := ⟨_, rfl⟩
      have H9 := Lib.hid (show PL d W C (some ⟨b, o, none⟩) N cap i _ _ _ 0 0 ns [] [] xs 0 0 ks V from by rw [hV]; exact H8.out.below (below_drewN' (Below.refl _ _) _))
      have hsV : V.heap.size = wr.heap.size := by rw [hV]; exact hsU
      rw [← hV]
      clear hV c0 c1 xU H7 H8 hsU
      have c0 := H9.out.cur.c0
      have c1 := H9.out.cur.c1
      have fz := H9.out.cur.fz 1
      obtain ⟨m5, hX, hm5⟩ : ∃ m : Nat, X % 5 = (m : Int) ∧ (m = 0 ∨ m = 1 ∨ 2 ≤ m ∧ m ≤ 4) := ⟨(X % 5).toNat, by omega, by omega⟩
      have HHa := H9.out.step (i + 1)
      rw [show ((i + 1 : Nat) : Int) = (i : Int) + 1 by omega] at HHa
      have HH := Lib.hid HHa
      obtain ⟨a7, c7, e7⟩ := own_shape H9.out.os
      subst e7
      clear HHa H9
      rcases hm5 with rfl | rfl | ⟨hm1, hm2⟩
      · have hX2 : X % 5 = 0 := hX
        have hT : toks z (i + 1) = toks z i + 1 := by rw [hsucc.out, htok.out, hX2]; rfl
        clear htok hsucc hX
        go_wp2_with fail
        refine (leaf26 _).mono ?_
        rintro e w2 ⟨⟨bl, rfl⟩, hb2⟩
        have HG := Lib.hid (HH.out.below hb2)
        clear hb2 HH
        have hbs1 := Lib.hid (Nat.mul_le_mul (show ns + 1 ≤ 200000 by omega) z73)
        go_wp2_with (at_builtin; go_loud (refine wpList_append_own_at _ rfl _ _ 26 rfl W.heap.size 72 i72 (.agg #[.nilIface, .int .i32 0, .int .i32 0]) 3 i72.bytes (by kernel_rfl) hi72 z71 z72 rfl rfl (by decide) (Value.slice a7 ns c7) ns xs rfl (HG.out.os.alloc _) _ 1 1 [.iface 135 (.pointer (some ⟨bl, 0, none⟩)), .int .i32 0, .int .i32 0] rfl rfl ?a11 ?a12 ?a13 ?a14 ?a15 ?_))
        case a11 =>
          intro j u hj
          exact fresh_cells _ _ _ _ (by first | rfl | (simp [*]; done) | simp) j u (by exact hj)
        case a12 => intro u hu; simp at hu; rcases hu with rfl | rfl | rfl <;> rfl
        case a13 => unfold maxLen; omega
        case a14 => have := hbs1.out; omega
        case a15 => have := HG.out.grow.size; simp at this ⊢; omega
        intro vn1 wn1 ho1 hg1 _ hat1
        have H2 := Lib.hid ((HG.out.alloc _).subs (k := 1) (by omega) ⟨rfl, rfl, .inl ⟨bl, rfl, rfl⟩⟩ ho1 hg1 (hat1.imp id fun h => h.trans (by first | (simp; done) | (simp [hsV]; done))))
        clear ho1 hg1 hat1 HG
        go_wp2_with fail
        go_roundw
        case rel => exact ⟨i + 1, (ns + 1), _, (ks + 1), by omega, by omega, by rw [h3, hT], H2.out⟩
        case measure => rw [H2.out.cur.curI, hcur.out]; omega
      · have hX2 : X % 5 = 1 := hX
        have hT : toks z (i + 1) = toks z i + 1 := by rw [hsucc.out, htok.out, hX2]; rfl
        clear htok hsucc hX
        have RS := R0.out.cur HC0.out HH.out.grow
        have szw := HH.out.grow.size
        go_wp2_with fail
        refine (IH.out _ C (i + 1) 1 _ (by omega) RS HH.out.cur (by omega) (by omega) (by omega)).mono ?_
        rintro e w2 ⟨⟨g2, n2, cc2, i2, k2, rfl, hn0, hn2, hi2, hi3, hcu2, hk2, hcl2⟩, hgr2⟩
        have HG := Lib.hid (HH.out.move hgr2 hcu2)
        have K2 := Lib.hid hk2
        have CL2 := Lib.hid hcl2
        have lts := Lib.hid (fun g h => (HH.out.os.lt g h).2)
        clear hgr2 hcu2 hk2 hcl2 HH RS
        go_wp2_with fail
        refine (is27 _ _ _ _).mono ?_
        rintro e w3 ⟨⟨b3, rfl, hcell3, hge3, hlt3⟩, hb3⟩
        have hs2 := HG.out.grow.size
        have FB : Fr W (.slice none 0 0) (.slice none 0 0) (Value.slice a7 ns c7) b3 := ⟨by omega, by simp [Value.ownBlock], by simp [Value.ownBlock], fun e => by have := (HG.out.os.lt b3 e.symm).2; omega⟩
        have kp : Keep w2 w3 (fun g => (V.setCell ⟨C, 1, none⟩ (.int .i64 ((i : Int) + 1))).heap.size ≤ g) (Fr W (.slice none 0 0) (.slice none 0 0) (Value.slice a7 ns c7)) := ⟨hb3.size, fun g _ hg => hb3.block g hg, fun g hp _ => ⟨Nat.le_trans szw hp, by simp [Value.ownBlock], by simp [Value.ownBlock], fun e => by have := lts.out g e.symm; omega⟩⟩
        have CL3 := Lib.hid (CL.keep kp d CL2.out)
        have HG3 := Lib.hid (HG.out.below hb3)
        have FB3 := Lib.hid FB
        clear hb3 HG CL2 FB kp lts
        have hbs2 := Lib.hid (Nat.mul_le_mul (show ns + 1 ≤ 200000 by omega) z73)
        go_wp2_with (at_builtin; go_loud (refine wpList_append_own_at _ rfl _ _ 26 rfl W.heap.size 72 i72 (.agg #[.nilIface, .int .i32 0, .int .i32 0]) 3 i72.bytes (by kernel_rfl) hi72 z71 z72 rfl rfl (by decide) (Value.slice a7 ns c7) ns xs rfl (HG3.out.os.alloc _) _ 1 1 [.iface 139 (.pointer (some ⟨b3, 0, none⟩)), .int .i32 0, .int .i32 0] rfl rfl ?a21 ?a22 ?a23 ?a24 ?a25 ?_))
        case a21 =>
          intro j u hj
          exact fresh_cells _ _ _ _ (by first | rfl | (simp [*]; done) | simp) j u (by exact hj)
        case a22 => intro u hu; simp at hu; rcases hu with rfl | rfl | rfl <;> rfl
        case a23 => unfold maxLen; omega
        case a24 => have := hbs2.out; omega
        case a25 => have := HG3.out.grow.size; simp at this ⊢; omega
        intro vn2 wn2 ho2 hg2 _ hat2
        have ka := Keep.below (Fr W (.slice none 0 0) (.slice none 0 0) (Value.slice a7 ns c7)) ((Below.refl w3.heap.size w3).alloc (Nat.le_refl _) (.cells #[.iface 139 (.pointer (some ⟨b3, 0, none⟩)), .int .i32 0, .int .i32 0] 72))
        have H2 := Lib.hid ((HG3.out.alloc _).subs (k := 1 + k2) (by omega) ⟨rfl, rfl, .inr ⟨b3, _, k2, rfl, FB3.out, by simp; omega, (ka.cell FB3.out hlt3 0).trans hcell3, CL.keep ka d CL3.out, rfl⟩⟩ ho2 hg2 (hat2.imp id fun h => h.trans (by first | (simp; done) | (simp [hsV]; done))))
        clear ho2 hg2 hat2 HG3 ka
        go_wp2_with fail
        go_roundw
        case rel => exact ⟨i2, (ns + 1), _, (ks + (1 + k2)), by omega, by omega, by have := K2.out; omega, H2.out⟩
        case measure => rw [H2.out.cur.curI, hcur.out]; omega
      · have hX2 : ¬ X % 5 ≤ 1 := by omega
        have hT : toks z (i + 1) = toks z i + 0 := by rw [hsucc.out, htok.out, if_neg hX2]
        clear htok hsucc hX
        have g1 : ¬ X % 5 = 0 := by omega
        have g2 : ¬ X % 5 = 1 := by omega
        have g3 : (X % 5 == 0) = false := by simp [g1]
        have g4 : (X % 5 == 1) = false := by simp [g2]
        go_wp2_with fail
        go_roundw
        case rel => exact ⟨i + 1, ns, _, ks, by omega, by omega, by rw [h3, hT]; rfl, HH.out⟩
        case measure => rw [HH.out.cur.curI, hcur.out]; omega
    · have e : i = N := by omega
      go_wp2_with fail
      go_quiet (fail)
      obtain ⟨U, hU⟩ : ∃ U, U = wr.drewN nq := ⟨_, rfl⟩
      have H8 := Lib.hid (show PL d W C a N cap i _ _ _ 0 0 ns [] [] xs 0 0 ks U from by rw [hU]; exact H7.out.below (below_drewN' (Below.refl _ _) _))
      rw [← hU]
      clear hU c0 c1 H7
      have hsW := HSW.out
      have hcR : U.heap[w.heap.size]? = some (.cells #[.pointer none, .slice none 0 0, .slice none 0 0, .int .i32 0, .int .u8 0, .bool false] 33 (0, 0)) := (H8.out.grow.block w.heap.size (by omega) (by intro e; injection e with e; omega)).trans HCW.out
      obtain ⟨a7, c7, e7⟩ := own_shape H8.out.os
      subst e7
      have x0 := (cells_read hcR 0 (by decide)).1
      have x1 := (cells_read hcR 1 (by decide)).1
      have x2 := (cells_read hcR 2 (by decide)).1
      have x3 := (cells_read hcR 3 (by decide)).1
      have x4 := (cells_read hcR 4 (by decide)).1
      have x5 := (cells_read hcR 5 (by decide)).1
      have k0 := (cells_read hcR 0 (by decide)).2
      have k1 := (cells_read hcR 1 (by decide)).2
      have k2 := (cells_read hcR 2 (by decide)).2
      have k3 := (cells_read hcR 3 (by decide)).2
      have k4 := (cells_read hcR 4 (by decide)).2
      have k5 := (cells_read hcR 5 (by decide)).2
      have sg := six_grown U w.heap.size (.pointer none) (.slice a7 ns c7) (.slice none 0 0) (.int .i32 0) (.int .u8 0) (.bool false)
      obtain ⟨y0, y1, y2, y3, y4, y5⟩ := six_read hcR rfl (.pointer none) (.slice a7 ns c7) (.slice none 0 0) (.int .i32 0) (.int .u8 0) (.bool false)
      have gr : w.grownBy (six U w.heap.size (.pointer none) (.slice a7 ns c7) (.slice none 0 0) (.int .i32 0) (.int .u8 0) (.bool false)) (some C) :=
        ((grown_below BW.out (some C)).andThen H8.out.grow (fun j hj => .inr hj)).andThen sg (fun j hj => .inl (by injection hj with hj; omega))
      have kp : Keep U (six U w.heap.size (.pointer none) (.slice a7 ns c7) (.slice none 0 0) (.int .i32 0) (.int .u8 0) (.bool false)) (fun g => W.heap.size ≤ g) (fun g => w.heap.size ≤ g) := ⟨sg.size, fun g hp hg => sg.block g hg (by intro e; injection e with e; omega), fun g hp _ => by omega⟩
      have fs := H8.out.finalSubs.keep kp fun c k => SubE.keep kp fun sl k => CL.keep kp d
      simp only [six] at y0 y1 y2 y3 y4 y5 gr fs
      have Y0 := Lib.hid y0
      have Y1 := Lib.hid y1
      have Y2 := Lib.hid y2
      have Y3 := Lib.hid y3
      have Y4 := Lib.hid y4
      have Y5 := Lib.hid y5
      have GR := Lib.hid gr
      have FS := Lib.hid fs
      clear y0 y1 y2 y3 y4 y5 gr fs kp sg hcR H8 hsW
      have hkk : ks = toks z N := by rw [h3, e]
      go_wp2_with fail
      exact bodyPost_ret (v := .agg #[.pointer none, .slice a7 ns c7, .slice none 0 0, .int .i32 0, .int .u8 0, .bool false]) (by simp [results, Try.results10, go_sem, Y0.out, Y1.out, Y2.out, Y3.out, Y4.out, Y5.out]) rfl ⟨⟨_, rfl, by rw [← hkk]; exact FS.out⟩, GR.out⟩
end Go.Proofs.Ytlhcgnlbhncfkaa
