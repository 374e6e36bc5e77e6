/-
  The contract of the leading-ampersand law's maker of selectors: the walk. Conditions: the shapes of the lists.
-/
import Derived.Test.YtnlohfbmknedhaaWn
import Derived.Deep.DeepCutAuto
namespace Go.Proofs.Ytnlohfbmknedhaa
open Go.ChangeShapes Go.WideShapes Go.ChangeAt Go.RowKit

/-- a row of compounds of which those from k on are empty -/
structure Upw (B n k : Nat) (w : World) : Prop where
  ex : ∃ d, Cps B n d w ∧ ∀ j, k ≤ j → d j = Cp.zero
/-- the row while compound k is being laid -/
structure Upk (B n k : Nat) (w : World) : Prop where
  ex : ∃ d, Cps B n d w ∧ ∀ j, k + 1 ≤ j → d j = Cp.zero
theorem Upw.upk {B n k : Nat} {w : World} (h : Upw B n k w) : Upk B n k w := by
  obtain ⟨d, h1, h2⟩ := h.ex
  exact ⟨d, h1, fun j hj => h2 j (by omega)⟩
theorem Upk.upw {B n k : Nat} {w : World} (h : Upk B n k w) : Upw B n (k + 1) w := ⟨h.ex⟩
theorem Upk.call {B n k : Nat} {w w' : World} (h : Upk B n k w) (hb : Below w.heap.size w w') : Upk B n k w' := by
  obtain ⟨d, h1, h2⟩ := h.ex
  exact ⟨d, h1.call hb, h2⟩
theorem Upk.size {B n k : Nat} {w : World} (h : Upk B n k w) : B < w.heap.size := by
  obtain ⟨d, h1, h2⟩ := h.ex
  exact h1.size
theorem Upk.cell {B n k : Nat} {w : World} (h : Upk B n k w) (hk : k < n) (o : Nat) (ho : o < 6) : ∃ v, w.cell? ⟨B, k * 6 + o, none⟩ = some v := by
  obtain ⟨d, h1, h2⟩ := h.ex
  exact ⟨_, h1.c k o hk ho⟩
theorem Upk.z {B n k : Nat} {w : World} (h : Upk B n k w) (o : Nat) : w.frozen? ⟨B, o, none⟩ = false := by
  obtain ⟨d, h1, h2⟩ := h.ex
  exact h1.z o
theorem Upk.put {B n k : Nat} {w : World} (h : Upk B n k w) (hk : k < n) (o : Nat) (v : Value) (ho : o < 6)
    (hp : ∀ c : Cp, c.sn ≤ 2 ∧ c.nn ≤ 2 → SubAt w c.sa c.sn → (∀ sb, c.sa = some ⟨sb, 0, none⟩ → B < sb) → ∃ p : Cp, p.at o = v ∧ (∀ o', o' < 6 → o' ≠ o → p.at o' = c.at o') ∧ SubAt w p.sa p.sn ∧ (∀ sb, p.sa = some ⟨sb, 0, none⟩ → B < sb) ∧ p.sn ≤ 2 ∧ p.nn ≤ 2) :
    Upk B n k (w.setCell ⟨B, k * 6 + o, none⟩ v) := by
  obtain ⟨d, h1, h2⟩ := h.ex
  obtain ⟨p, rfl, p2, p3, p4, p5⟩ := hp (d k) (h1.le k hk) (h1.s k hk) (h1.ne k · hk)
  refine ⟨_, h1.put k o p hk ho p2 p3 p4 p5, fun j hj => ?_⟩
  have e : j ≠ k := by omega
  simp only [e, if_false]
  exact h2 j hj
theorem six (o' : Nat) (h : o' < 6) : o' = 0 ∨ o' = 1 ∨ o' = 2 ∨ o' = 3 ∨ o' = 4 ∨ o' = 5 := by omega
theorem Upk.nest {B n k : Nat} {w : World} (h : Upk B n k w) (hk : k < n) (a : Option Addr) (q : Nat) (hq : q ≤ 2) : Upk B n k (w.setCell ⟨B, k * 6 + 2, none⟩ (.slice a q q)) :=
  h.put hk 2 _ (by omega) fun c hc hs hne => ⟨⟨c.ty, c.sa, c.sn, a, q, c.b⟩, rfl, fun o' ho hne => by rcases six o' ho with rfl | rfl | rfl | rfl | rfl | rfl <;> first | rfl | exact absurd rfl hne, hs, hne, hc.1, hq⟩
theorem Upk.comb {B n k : Nat} {w : World} (h : Upk B n k w) (hk : k < n) (v : Int) : Upk B n k ((w.setCell ⟨B, k * 6 + 3, none⟩ (.int .i32 0)).setCell ⟨B, k * 6 + 4, none⟩ (.int .u8 v)) :=
  (h.put hk 3 (.int .i32 0) (by omega) fun c hc hs hne => ⟨c, rfl, fun _ _ _ => rfl, hs, hne, hc⟩).put hk 4 _ (by omega)
    fun c hc hs hne => ⟨⟨c.ty, c.sa, c.sn, c.na, c.nn, v⟩, rfl, fun o' ho hne => by rcases six o' ho with rfl | rfl | rfl | rfl | rfl | rfl <;> first | rfl | exact absurd rfl hne, hs, hne, hc⟩
theorem Upk.type {B n k : Nat} {w : World} (h : Upk B n k w) (hk : k < n) (a : Option Addr) : Upk B n k (w.setCell ⟨B, k * 6, none⟩ (.pointer a)) :=
  h.put hk 0 _ (by omega) fun c hc hs hne => ⟨⟨a, c.sa, c.sn, c.na, c.nn, c.b⟩, rfl, fun o' ho hne => by rcases six o' ho with rfl | rfl | rfl | rfl | rfl | rfl <;> first | rfl | exact absurd rfl hne, hs, hne, hc⟩
theorem Upk.sub {B n k : Nat} {w : World} (h : Upk B n k w) (hk : k < n) (b r : Nat) (hr : r ≤ 2) (hs : SubAt w (some ⟨b, 0, none⟩) r) (hb : B < b) : Upk B n k (w.setCell ⟨B, k * 6 + 1, none⟩ (.slice (some ⟨b, 0, none⟩) r r)) :=
  h.put hk 1 _ (by omega) fun c hc _ _ => ⟨⟨c.ty, some ⟨b, 0, none⟩, r, c.na, c.nn, c.b⟩, rfl, fun o' ho hne => by rcases six o' ho with rfl | rfl | rfl | rfl | rfl | rfl <;> first | rfl | exact absurd rfl hne, hs, fun sb e => by injection e with e; injection e with e; omega, hr, hc.2⟩

theorem Blk.le {b n m : Nat} {w : World} (h : Blk b n w) (hm : m ≤ n) : Blk b m w := ⟨h.size, fun o ho => h.c o (by omega), h.z⟩
structure LM (W : World) (B n : Nat) (i : Value) (wr : World) : Prop where
  ex : ∃ k : Nat, k ≤ n ∧ i = .int .i64 k ∧ Upw B n k wr ∧ Below B W wr
structure LL (w1 : World) (q : Nat) (j : Value) (wz : World) : Prop where
  ex : ∃ k : Nat, k ≤ q ∧ j = .int .i64 k ∧ Blk w1.heap.size q wz ∧ Below w1.heap.size w1 wz
structure LS (w1 : World) (r : Nat) (j : Value) (wz : World) : Prop where
  ex : ∃ k : Nat, k ≤ r ∧ j = .int .i64 k ∧ SbS w1.heap.size r k wz ∧ Below w1.heap.size w1 wz

attribute [local go_sem] make56 make55 make49 in
set_option maxRecDepth 20000 in
set_option maxHeartbeats 4000000 in
theorem build27 (a0 a1 a2 a3 : Option Addr) (n l1 l2 l3 c0 c1 c2 c3 : Nat) (z0 z1 z3 : List Int) (z2 : Nat → Bool) (w : World) (hn : n ≤ 4096) (h1 : l1 ≤ 4096) (h2 : l2 ≤ 4096) (h3 : l3 ≤ 4096) (r0 : Row .u8 w a0 n z0) (r1 : Row .u8 w a1 l1 z1) (r2 : RowB w a2 l2 z2) (r3 : Row .u8 w a3 l3 z3) :
    Calls Try.prog 27 #[.slice a0 n c0, .slice a1 l1 c1, .slice a2 l2 c2, .slice a3 l3 c3] w fun e w' => e = .returned (.agg #[.slice (some ⟨w.heap.size + 1, 0, none⟩) n n]) ∧ (∃ d, Cps (w.heap.size + 1) n d w') ∧ Below w.heap.size w w' := by
  obtain ⟨W, hW⟩ : ∃ W, W = w.alloc (.cells #[.slice none 0 0] 51) := ⟨_, rfl⟩
  have hbW : Below w.heap.size w W := by rw [hW]; exact (Below.refl _ _).alloc (Nat.le_refl _) _
  have hsW : W.heap.size = w.heap.size + 1 := by rw [hW]; simp [go_sem]
  have hcW : W.cell? ⟨w.heap.size, 0, none⟩ = some (.slice none 0 0) := by rw [hW]; simp [go_sem]
  have hzW : W.frozen? ⟨w.heap.size, 0, none⟩ = false := by rw [hW]; simp [go_sem]
  have R0 := Lib.hid (r0.below (Nat.le_refl _) hbW)
  have R1 := Lib.hid (r1.below (Nat.le_refl _) hbW)
  have R2 := Lib.hid (r2.below (Nat.le_refl _) hbW)
  have R3 := Lib.hid (r3.below (Nat.le_refl _) hbW)
  have hst : Cps (w.heap.size + 1) n (fun _ => Cp.zero) (cpsOf n W) := by rw [← hsW]; exact cps_start n W
  have H0 := Lib.hid (⟨⟨0, by omega, rfl, ⟨_, hst, fun _ _ => rfl⟩, (Below.refl _ _).alloc (by omega) _⟩⟩ : LM W (w.heap.size + 1) n (.int .i64 (0 : Nat)) (cpsOf n W))
  have HW := Lib.hid hW
  have HBW := Lib.hid hbW
  have HSW := Lib.hid hsW
  have HCW := Lib.hid hcW
  have HZW := Lib.hid hzW
  clear r0 r1 r2 r3 hst hbW hsW hcW hzW hW
  go_enter Try.func27, Try.ntmps27
  go_wp2_with fail
  rw [← HW.out]
  go_loopw [10, 11, 12, 13, 14, 15, 16] (fun i _ _ _ _ _ _ wr => LM W (w.heap.size + 1) n i wr) (fun i _ _ _ _ _ _ _ => n - (intOf i).toNat)
  case atStart => exact H0.out
  case round =>
    obtain ⟨k, hk, rfl, hU, hB⟩ := hrel.ex
    clear hrel H0
    by_cases hlt : k < n
    · have HU := Lib.hid hU.upk
      have HB := Lib.hid hB
      clear hU hB
      go_wp2_with fail
      with_reducible refine (nest37 a0 n c0 z0 k _ hn (R0.out.below (Nat.le_of_eq HSW.out) HB.out) hlt).mono ?_
      rintro e wx ⟨⟨q, hq, rfl⟩, hw⟩
      obtain rfl := hw.symm
      clear hw
      by_cases hq0 : q = 0
      · subst hq0
        obtain ⟨v3, y3⟩ := HU.out.cell hlt 3 (by omega)
        obtain ⟨v4, y4⟩ := HU.out.cell hlt 4 (by omega)
        have zz := HU.out.z
        go_wp2_with fail
        with_reducible refine (comb40 a1 l1 c1 z1 k _ h1 (by omega) (R1.out.below (Nat.le_of_eq HSW.out) HB.out)).mono ?_
        rintro e wx ⟨⟨bb, rfl⟩, hw⟩
        obtain rfl := hw.symm
        clear hw
        have HU2 := Lib.hid (HU.out.comb hlt bb)
        have HB2 := Lib.hid ((HB.out.setCell (p := ⟨w.heap.size + 1, k * 6 + 3, none⟩) (Nat.le_refl _) (.int .i32 0)).setCell (p := ⟨w.heap.size + 1, k * 6 + 4, none⟩) (Nat.le_refl _) (.int .u8 bb))
        go_wp2_with fail
        with_reducible refine (type38 a2 l2 c2 z2 k _ h2 (by omega) (R2.out.below (Nat.le_of_eq HSW.out) HB2.out)).mono ?_
        generalize tyB l2 z2 k = T
        rintro e wx ⟨rfl, hw⟩
        obtain rfl := hw.symm
        clear hw y3 y4 zz HU HB
        generalize ((wr.setCell ⟨w.heap.size + 1, k * 6 + 3, none⟩ (.int .i32 0)).setCell ⟨w.heap.size + 1, k * 6 + 4, none⟩ (.int .u8 bb)) = w2 at *
        cases T
        · go_wp2_with fail
          with_reducible refine (cls39 a3 l3 c3 z3 k _ h3 (by omega) (R3.out.below (Nat.le_of_eq HSW.out) HB2.out)).mono ?_
          rintro e wx ⟨⟨r, hr, rfl⟩, hw⟩
          obtain rfl := hw.symm
          clear hw
          by_cases hr0 : r = 0
          · subst hr0
            go_wp2_with fail
            go_roundw
            case rel => exact ⟨k + 1, by omega, by go_num, HU2.out.upw, HB2.out⟩
            case measure => simp [intOf]; omega
          · have hr1 : (0 : Int) < (r : Int) := by omega
            have hr2 : decide (0 < r) = true := decide_eq_true (by omega)
            have hr3 : decide ((0 : Int) < (r : Int)) = true := decide_eq_true hr1
            have hr4 : r ≤ 4096 := by omega
            have HS0 := Lib.hid (⟨⟨0, by omega, rfl, ⟨Blk.made w2 _ _ _ (by simp), fun j hj => by omega⟩, (Below.refl _ _).alloc (Nat.le_refl _) _⟩⟩ : LS w2 r (.int .i64 (0 : Nat)) (subsOf r w2))
            go_wp2_with fail
            go_loopw [16] (fun j wz => LS w2 r j wz) (fun j _ => r - (intOf j).toNat)
            case atStart => exact HS0.out
            case round =>
              obtain ⟨j, hj, rfl, hS, hbz⟩ := hrel.ex
              clear hrel HS0
              by_cases hjr : j < r
              · have HS := Lib.hid hS
                have HZ := Lib.hid hbz
                have hle := hbz.size
                clear hS hbz
                go_wp2_with fail
                with_reducible refine (class41 _).mono ?_
                rintro e wy ⟨⟨ad, rfl⟩, hby⟩
                have hS2 := HS.out.call hby
                obtain ⟨s0, t0⟩ := hS2.blk.c (j * 3) (by omega)
                obtain ⟨s1, t1⟩ := hS2.blk.c (j * 3 + 1) (by omega)
                obtain ⟨s2, t2⟩ := hS2.blk.c (j * 3 + 2) (by omega)
                have tz := hS2.blk.z
                have HN := Lib.hid (hS2.next hjr ad)
                have HZ2 := Lib.hid ((((HZ.out.trans (hby.mono hle)).setCell (p := ⟨w2.heap.size, j * 3, none⟩) (Nat.le_refl _) (.iface 132 (.pointer (some ad)))).setCell (p := ⟨w2.heap.size, j * 3 + 1, none⟩) (Nat.le_refl _) (.int .i32 0)).setCell (p := ⟨w2.heap.size, j * 3 + 2, none⟩) (Nat.le_refl _) (.int .i32 0))
                clear hS2 hby HS HZ
                go_wp2_with fail
                go_roundw
                case rel => first | exact ⟨j + 1, by omega, by go_num, HN.out, HZ2.out⟩ | ((repeat apply Exists.intro); refine ⟨?_, rfl⟩; exact ⟨⟨j + 1, by omega, by go_num, HN.out, HZ2.out⟩⟩)
                case measure => simp [intOf]; omega
              · obtain rfl : j = r := by omega
                obtain ⟨v1, y1⟩ := (HU2.out.call hbz).cell hlt 1 (by omega)
                have zz := (HU2.out.call hbz).z
                have hBl := HU2.out.size
                have HU5 := Lib.hid ((HU2.out.call hbz).sub hlt w2.heap.size j hr hS.t (by omega))
                have HB5 := Lib.hid ((HB2.out.trans (hbz.mono (Nat.le_of_lt hBl))).setCell (p := ⟨w.heap.size + 1, k * 6 + 1, none⟩) (Nat.le_refl _) (.slice (some ⟨w2.heap.size, 0, none⟩) j j))
                clear hS hbz
                go_wp2_with fail
                go_roundw
                case rel => exact ⟨k + 1, by omega, by go_num, HU5.out.upw, HB5.out⟩
                case measure => simp [intOf]; omega

        · obtain ⟨v0, y0⟩ := HU2.out.cell hlt 0 (by omega)
          have zz := HU2.out.z
          have hBl := HU2.out.size
          have y0' : w2.cell? ⟨w.heap.size + 1, k * 6, none⟩ = some v0 := y0
          have HU3 := Lib.hid ((HU2.out.type hlt (some ⟨w2.heap.size, 0, none⟩)).call ((Below.refl _ _).alloc (Nat.le_refl _) (.cells #[.pointer none, .string ⟨#[100, 105, 118]⟩, .int .i32 0, .int .i32 0, .int .u8 29] 121)))
          have HB3 := Lib.hid ((HB2.out.setCell (p := ⟨w.heap.size + 1, k * 6, none⟩) (Nat.le_refl _) (.pointer (some ⟨w2.heap.size, 0, none⟩))).alloc (by simp [go_sem]; omega) (.cells #[.pointer none, .string ⟨#[100, 105, 118]⟩, .int .i32 0, .int .i32 0, .int .u8 29] 121))
          clear y0
          go_wp2_with fail
          clear y0' zz HU2 HB2
          generalize ((w2.setCell ⟨w.heap.size + 1, k * 6, none⟩ (.pointer (some ⟨w2.heap.size, 0, none⟩))).alloc (.cells #[.pointer none, .string ⟨#[100, 105, 118]⟩, .int .i32 0, .int .i32 0, .int .u8 29] 121)) = w3 at *
          with_reducible refine (cls39 a3 l3 c3 z3 k _ h3 (by omega) (R3.out.below (Nat.le_of_eq HSW.out) HB3.out)).mono ?_
          rintro e wx ⟨⟨r, hr, rfl⟩, hw⟩
          obtain rfl := hw.symm
          clear hw
          by_cases hr0 : r = 0
          · subst hr0
            go_wp2_with fail
            go_roundw
            case rel => exact ⟨k + 1, by omega, by go_num, HU3.out.upw, HB3.out⟩
            case measure => simp [intOf]; omega
          · have hr1 : (0 : Int) < (r : Int) := by omega
            have hr2 : decide (0 < r) = true := decide_eq_true (by omega)
            have hr3 : decide ((0 : Int) < (r : Int)) = true := decide_eq_true hr1
            have hr4 : r ≤ 4096 := by omega
            have HS0 := Lib.hid (⟨⟨0, by omega, rfl, ⟨Blk.made w3 _ _ _ (by simp), fun j hj => by omega⟩, (Below.refl _ _).alloc (Nat.le_refl _) _⟩⟩ : LS w3 r (.int .i64 (0 : Nat)) (subsOf r w3))
            go_wp2_with fail
            go_loopw [16] (fun j wz => LS w3 r j wz) (fun j _ => r - (intOf j).toNat)
            case atStart => exact HS0.out
            case round =>
              obtain ⟨j, hj, rfl, hS, hbz⟩ := hrel.ex
              clear hrel HS0
              by_cases hjr : j < r
              · have HS := Lib.hid hS
                have HZ := Lib.hid hbz
                have hle := hbz.size
                clear hS hbz
                go_wp2_with fail
                with_reducible refine (class41 _).mono ?_
                rintro e wy ⟨⟨ad, rfl⟩, hby⟩
                have hS2 := HS.out.call hby
                obtain ⟨s0, t0⟩ := hS2.blk.c (j * 3) (by omega)
                obtain ⟨s1, t1⟩ := hS2.blk.c (j * 3 + 1) (by omega)
                obtain ⟨s2, t2⟩ := hS2.blk.c (j * 3 + 2) (by omega)
                have tz := hS2.blk.z
                have HN := Lib.hid (hS2.next hjr ad)
                have HZ2 := Lib.hid ((((HZ.out.trans (hby.mono hle)).setCell (p := ⟨w3.heap.size, j * 3, none⟩) (Nat.le_refl _) (.iface 132 (.pointer (some ad)))).setCell (p := ⟨w3.heap.size, j * 3 + 1, none⟩) (Nat.le_refl _) (.int .i32 0)).setCell (p := ⟨w3.heap.size, j * 3 + 2, none⟩) (Nat.le_refl _) (.int .i32 0))
                clear hS2 hby HS HZ
                go_wp2_with fail
                go_roundw
                case rel => first | exact ⟨j + 1, by omega, by go_num, HN.out, HZ2.out⟩ | ((repeat apply Exists.intro); refine ⟨?_, rfl⟩; exact ⟨⟨j + 1, by omega, by go_num, HN.out, HZ2.out⟩⟩)
                case measure => simp [intOf]; omega
              · obtain rfl : j = r := by omega
                obtain ⟨v1, y1⟩ := (HU3.out.call hbz).cell hlt 1 (by omega)
                have zz := (HU3.out.call hbz).z
                have hBl := HU3.out.size
                have HU5 := Lib.hid ((HU3.out.call hbz).sub hlt w3.heap.size j hr hS.t (by omega))
                have HB5 := Lib.hid ((HB3.out.trans (hbz.mono (Nat.le_of_lt hBl))).setCell (p := ⟨w.heap.size + 1, k * 6 + 1, none⟩) (Nat.le_refl _) (.slice (some ⟨w3.heap.size, 0, none⟩) j j))
                clear hS hbz
                go_wp2_with fail
                go_roundw
                case rel => exact ⟨k + 1, by omega, by go_num, HU5.out.upw, HB5.out⟩
                case measure => simp [intOf]; omega

      · obtain ⟨wo, rfl⟩ : ∃ wo : World, wo = wr := ⟨_, rfl⟩
        have hq1 : (0 : Int) < (q : Int) := by omega
        have hq4 : q ≤ 4096 := by omega
        have HL0 := Lib.hid (⟨⟨0, by omega, rfl, (Blk.made wo _ _ _ (by simp)).le (by omega), (Below.refl _ _).alloc (Nat.le_refl _) _⟩⟩ : LL wo q (.int .i64 (0 : Nat)) (locsOf q wo))
        go_wp2_with fail
        go_loopw [13] (fun j wz => LL wo q j wz) (fun j _ => q - (intOf j).toNat)
        case atStart => exact HL0.out
        case round =>
          obtain ⟨j, hj, rfl, hS, hbz⟩ := hrel.ex
          clear hrel HL0
          by_cases hjr : j < q
          · obtain ⟨s0, t0⟩ := hS.c j hjr
            have tz := hS.z
            have HN := Lib.hid (fun v => hS.put j v)
            have HZ2 := Lib.hid (fun v => hbz.setCell (p := ⟨wo.heap.size, j, none⟩) (Nat.le_refl _) v)
            clear hS hbz
            go_wp2_with fail
            go_roundw
            case rel => first | exact ⟨j + 1, by omega, by go_num, HN.out _, HZ2.out _⟩ | ((repeat apply Exists.intro); refine ⟨?_, rfl⟩; exact ⟨⟨j + 1, by omega, by go_num, HN.out _, HZ2.out _⟩⟩)
            case measure => simp [intOf]; omega
          · obtain rfl : j = q := by omega
            obtain ⟨v2, y2⟩ := (HU.out.call hbz).cell hlt 2 (by omega)
            have zz := (HU.out.call hbz).z
            have hBl := HU.out.size
            have HU1 := Lib.hid ((HU.out.call hbz).nest hlt (some ⟨wo.heap.size, 0, none⟩) j hq)
            have HB1 := Lib.hid ((HB.out.trans (hbz.mono (Nat.le_of_lt hBl))).setCell (p := ⟨w.heap.size + 1, k * 6 + 2, none⟩) (Nat.le_refl _) (.slice (some ⟨wo.heap.size, 0, none⟩) j j))
            clear hS hbz
            go_upto_region 13 with (fail)
            clear y2 zz HU HB
            generalize wr.setCell ⟨w.heap.size + 1, k * 6 + 2, none⟩ (.slice (some ⟨wo.heap.size, 0, none⟩) j j) = w1 at *
            obtain ⟨v3, y3⟩ := HU1.out.cell hlt 3 (by omega)
            obtain ⟨v4, y4⟩ := HU1.out.cell hlt 4 (by omega)
            have zz := HU1.out.z
            go_wp2_with fail
            with_reducible refine (comb40 a1 l1 c1 z1 k _ h1 (by omega) (R1.out.below (Nat.le_of_eq HSW.out) HB1.out)).mono ?_
            rintro e wx ⟨⟨bb, rfl⟩, hw⟩
            obtain rfl := hw.symm
            clear hw
            have HU2 := Lib.hid (HU1.out.comb hlt bb)
            have HB2 := Lib.hid ((HB1.out.setCell (p := ⟨w.heap.size + 1, k * 6 + 3, none⟩) (Nat.le_refl _) (.int .i32 0)).setCell (p := ⟨w.heap.size + 1, k * 6 + 4, none⟩) (Nat.le_refl _) (.int .u8 bb))
            go_wp2_with fail
            with_reducible refine (type38 a2 l2 c2 z2 k _ h2 (by omega) (R2.out.below (Nat.le_of_eq HSW.out) HB2.out)).mono ?_
            generalize tyB l2 z2 k = T
            rintro e wx ⟨rfl, hw⟩
            obtain rfl := hw.symm
            clear hw y3 y4 zz HU1 HB1
            generalize ((w1.setCell ⟨w.heap.size + 1, k * 6 + 3, none⟩ (.int .i32 0)).setCell ⟨w.heap.size + 1, k * 6 + 4, none⟩ (.int .u8 bb)) = w2 at *
            cases T
            · go_wp2_with fail
              with_reducible refine (cls39 a3 l3 c3 z3 k _ h3 (by omega) (R3.out.below (Nat.le_of_eq HSW.out) HB2.out)).mono ?_
              rintro e wx ⟨⟨r, hr, rfl⟩, hw⟩
              obtain rfl := hw.symm
              clear hw
              by_cases hr0 : r = 0
              · subst hr0
                go_wp2_with fail
                go_roundw
                case rel => exact ⟨k + 1, by omega, by go_num, HU2.out.upw, HB2.out⟩
                case measure => simp [intOf]; omega
              · have hr1 : (0 : Int) < (r : Int) := by omega
                have hr2 : decide (0 < r) = true := decide_eq_true (by omega)
                have hr3 : decide ((0 : Int) < (r : Int)) = true := decide_eq_true hr1
                have hr4 : r ≤ 4096 := by omega
                have HS0 := Lib.hid (⟨⟨0, by omega, rfl, ⟨Blk.made w2 _ _ _ (by simp), fun j hj => by omega⟩, (Below.refl _ _).alloc (Nat.le_refl _) _⟩⟩ : LS w2 r (.int .i64 (0 : Nat)) (subsOf r w2))
                go_wp2_with fail
                go_loopw [16] (fun j wz => LS w2 r j wz) (fun j _ => r - (intOf j).toNat)
                case atStart => exact HS0.out
                case round =>
                  obtain ⟨j, hj, rfl, hS, hbz⟩ := hrel.ex
                  clear hrel HS0
                  by_cases hjr : j < r
                  · have HS := Lib.hid hS
                    have HZ := Lib.hid hbz
                    have hle := hbz.size
                    clear hS hbz
                    go_wp2_with fail
                    with_reducible refine (class41 _).mono ?_
                    rintro e wy ⟨⟨ad, rfl⟩, hby⟩
                    have hS2 := HS.out.call hby
                    obtain ⟨s0, t0⟩ := hS2.blk.c (j * 3) (by omega)
                    obtain ⟨s1, t1⟩ := hS2.blk.c (j * 3 + 1) (by omega)
                    obtain ⟨s2, t2⟩ := hS2.blk.c (j * 3 + 2) (by omega)
                    have tz := hS2.blk.z
                    have HN := Lib.hid (hS2.next hjr ad)
                    have HZ2 := Lib.hid ((((HZ.out.trans (hby.mono hle)).setCell (p := ⟨w2.heap.size, j * 3, none⟩) (Nat.le_refl _) (.iface 132 (.pointer (some ad)))).setCell (p := ⟨w2.heap.size, j * 3 + 1, none⟩) (Nat.le_refl _) (.int .i32 0)).setCell (p := ⟨w2.heap.size, j * 3 + 2, none⟩) (Nat.le_refl _) (.int .i32 0))
                    clear hS2 hby HS HZ
                    go_wp2_with fail
                    go_roundw
                    case rel => first | exact ⟨j + 1, by omega, by go_num, HN.out, HZ2.out⟩ | ((repeat apply Exists.intro); refine ⟨?_, rfl⟩; exact ⟨⟨j + 1, by omega, by go_num, HN.out, HZ2.out⟩⟩)
                    case measure => simp [intOf]; omega
                  · obtain rfl : j = r := by omega
                    obtain ⟨v1, y1⟩ := (HU2.out.call hbz).cell hlt 1 (by omega)
                    have zz := (HU2.out.call hbz).z
                    have hBl := HU2.out.size
                    have HU5 := Lib.hid ((HU2.out.call hbz).sub hlt w2.heap.size j hr hS.t (by omega))
                    have HB5 := Lib.hid ((HB2.out.trans (hbz.mono (Nat.le_of_lt hBl))).setCell (p := ⟨w.heap.size + 1, k * 6 + 1, none⟩) (Nat.le_refl _) (.slice (some ⟨w2.heap.size, 0, none⟩) j j))
                    clear hS hbz
                    go_wp2_with fail
                    go_roundw
                    case rel => exact ⟨k + 1, by omega, by go_num, HU5.out.upw, HB5.out⟩
                    case measure => simp [intOf]; omega

            · obtain ⟨v0, y0⟩ := HU2.out.cell hlt 0 (by omega)
              have zz := HU2.out.z
              have hBl := HU2.out.size
              have y0' : w2.cell? ⟨w.heap.size + 1, k * 6, none⟩ = some v0 := y0
              have HU3 := Lib.hid ((HU2.out.type hlt (some ⟨w2.heap.size, 0, none⟩)).call ((Below.refl _ _).alloc (Nat.le_refl _) (.cells #[.pointer none, .string ⟨#[100, 105, 118]⟩, .int .i32 0, .int .i32 0, .int .u8 29] 121)))
              have HB3 := Lib.hid ((HB2.out.setCell (p := ⟨w.heap.size + 1, k * 6, none⟩) (Nat.le_refl _) (.pointer (some ⟨w2.heap.size, 0, none⟩))).alloc (by simp [go_sem]; omega) (.cells #[.pointer none, .string ⟨#[100, 105, 118]⟩, .int .i32 0, .int .i32 0, .int .u8 29] 121))
              clear y0
              go_wp2_with fail
              clear y0' zz HU2 HB2
              generalize ((w2.setCell ⟨w.heap.size + 1, k * 6, none⟩ (.pointer (some ⟨w2.heap.size, 0, none⟩))).alloc (.cells #[.pointer none, .string ⟨#[100, 105, 118]⟩, .int .i32 0, .int .i32 0, .int .u8 29] 121)) = w3 at *
              with_reducible refine (cls39 a3 l3 c3 z3 k _ h3 (by omega) (R3.out.below (Nat.le_of_eq HSW.out) HB3.out)).mono ?_
              rintro e wx ⟨⟨r, hr, rfl⟩, hw⟩
              obtain rfl := hw.symm
              clear hw
              by_cases hr0 : r = 0
              · subst hr0
                go_wp2_with fail
                go_roundw
                case rel => exact ⟨k + 1, by omega, by go_num, HU3.out.upw, HB3.out⟩
                case measure => simp [intOf]; omega
              · have hr1 : (0 : Int) < (r : Int) := by omega
                have hr2 : decide (0 < r) = true := decide_eq_true (by omega)
                have hr3 : decide ((0 : Int) < (r : Int)) = true := decide_eq_true hr1
                have hr4 : r ≤ 4096 := by omega
                have HS0 := Lib.hid (⟨⟨0, by omega, rfl, ⟨Blk.made w3 _ _ _ (by simp), fun j hj => by omega⟩, (Below.refl _ _).alloc (Nat.le_refl _) _⟩⟩ : LS w3 r (.int .i64 (0 : Nat)) (subsOf r w3))
                go_wp2_with fail
                go_loopw [16] (fun j wz => LS w3 r j wz) (fun j _ => r - (intOf j).toNat)
                case atStart => exact HS0.out
                case round =>
                  obtain ⟨j, hj, rfl, hS, hbz⟩ := hrel.ex
                  clear hrel HS0
                  by_cases hjr : j < r
                  · have HS := Lib.hid hS
                    have HZ := Lib.hid hbz
                    have hle := hbz.size
                    clear hS hbz
                    go_wp2_with fail
                    with_reducible refine (class41 _).mono ?_
                    rintro e wy ⟨⟨ad, rfl⟩, hby⟩
                    have hS2 := HS.out.call hby
                    obtain ⟨s0, t0⟩ := hS2.blk.c (j * 3) (by omega)
                    obtain ⟨s1, t1⟩ := hS2.blk.c (j * 3 + 1) (by omega)
                    obtain ⟨s2, t2⟩ := hS2.blk.c (j * 3 + 2) (by omega)
                    have tz := hS2.blk.z
                    have HN := Lib.hid (hS2.next hjr ad)
                    have HZ2 := Lib.hid ((((HZ.out.trans (hby.mono hle)).setCell (p := ⟨w3.heap.size, j * 3, none⟩) (Nat.le_refl _) (.iface 132 (.pointer (some ad)))).setCell (p := ⟨w3.heap.size, j * 3 + 1, none⟩) (Nat.le_refl _) (.int .i32 0)).setCell (p := ⟨w3.heap.size, j * 3 + 2, none⟩) (Nat.le_refl _) (.int .i32 0))
                    clear hS2 hby HS HZ
                    go_wp2_with fail
                    go_roundw
                    case rel => first | exact ⟨j + 1, by omega, by go_num, HN.out, HZ2.out⟩ | ((repeat apply Exists.intro); refine ⟨?_, rfl⟩; exact ⟨⟨j + 1, by omega, by go_num, HN.out, HZ2.out⟩⟩)
                    case measure => simp [intOf]; omega
                  · obtain rfl : j = r := by omega
                    obtain ⟨v1, y1⟩ := (HU3.out.call hbz).cell hlt 1 (by omega)
                    have zz := (HU3.out.call hbz).z
                    have hBl := HU3.out.size
                    have HU5 := Lib.hid ((HU3.out.call hbz).sub hlt w3.heap.size j hr hS.t (by omega))
                    have HB5 := Lib.hid ((HB3.out.trans (hbz.mono (Nat.le_of_lt hBl))).setCell (p := ⟨w.heap.size + 1, k * 6 + 1, none⟩) (Nat.le_refl _) (.slice (some ⟨w3.heap.size, 0, none⟩) j j))
                    clear hS hbz
                    go_wp2_with fail
                    go_roundw
                    case rel => exact ⟨k + 1, by omega, by go_num, HU5.out.upw, HB5.out⟩
                    case measure => simp [intOf]; omega

    · obtain rfl : k = n := by omega
      obtain ⟨d, hC, _⟩ := hU.ex
      have HC := Lib.hid (show ∃ d, Cps (w.heap.size + 1) k d wr from ⟨d, hC⟩)
      have HCd := Lib.hid hC
      have cR : wr.cell? ⟨w.heap.size, 0, none⟩ = some (.slice none 0 0) := by rw [hB.cell (p := ⟨w.heap.size, 0, none⟩) (by show w.heap.size < _; omega)]; exact HCW.out
      have zR : wr.frozen? ⟨w.heap.size, 0, none⟩ = false := by rw [hB.frozen (p := ⟨w.heap.size, 0, none⟩) (by show w.heap.size < _; omega)]; exact HZW.out
      have HBF := Lib.hid (HBW.out.trans (hB.mono (by omega)))
      clear hC hB hU
      go_wp2_with fail
      refine bodyPost_ret (v := .agg #[.slice (some ⟨w.heap.size + 1, 0, none⟩) k k]) (by simp [results, Try.results27, go_sem, cR]) rfl ⟨rfl, ?_, HBF.out.setCell (Nat.le_refl _) _⟩
      exact ⟨d, HCd.out.other _ _ _ (by omega)⟩
end Go.Proofs.Ytnlohfbmknedhaa
