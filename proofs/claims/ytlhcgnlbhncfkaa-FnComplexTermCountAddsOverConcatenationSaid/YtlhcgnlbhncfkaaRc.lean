/-
  The contract of the dead-selectors law's maker of a compound selector. Conditions: the shapes of the lists.
-/
import Derived.Test.YtlhcgnlbhncfkaaRb
namespace Go.Proofs.Ytlhcgnlbhncfkaa
open Go.ChangeShapes Go.WideShapes Go.ChangeAt Go.RowKit

/-- what zzBuildCompound gives -/
structure Built (w : World) (j : Nat) (e : Ending) (w' : World) : Prop where
  ex : ∃ g n f d key, e = .returned (.tuple #[.agg #[.pointer none, .slice (some ⟨g, 0, none⟩) n n, .slice none 0 0, .int .i32 0, .int .u8 0, .bool false], .int .i64 ((j + n : Nat) : Int), .bool d, key]) ∧ n ≤ 3 ∧ Comp w' g n f
  below : Below w.heap.size w w'

set_option maxRecDepth 20000 in
set_option maxHeartbeats 2000000 in
theorem build32 (a0 a1 a2 : Option Addr) (n0 n1 n2 c0 c1 c2 : Nat) (z0 z1 z2 : List Int) (p j : Nat) (w : World) (h0 : n0 ≤ 65536) (h1 : n1 ≤ 65536) (h2 : n2 ≤ 65536) (hp : p ≤ 65536) (hj : j ≤ 60000) (r0 : Row .u8 w a0 n0 z0) (r1 : Row .u8 w a1 n1 z1) (r2 : Row .u8 w a2 n2 z2) :
    Calls Try.prog 32 #[.slice a0 n0 c0, .slice a1 n1 c1, .slice a2 n2 c2, .int .i64 p, .int .i64 j, .slice none 0 0] w fun e w' => Built w j e w' := by
  obtain ⟨i3, hi3⟩ : ∃ i, Try.prog.info? 3 = some i := by cases h : Try.prog.info? 3 with
    | some i => exact ⟨i, rfl⟩
    | none => have := info3; rw [h] at this; cases this
  have hi3' := info3
  rw [hi3] at hi3'
  simp at hi3'
  obtain ⟨z31, z32, z33⟩ := hi3'
  obtain ⟨i72, hi72⟩ : ∃ i, Try.prog.info? 72 = some i := by cases h : Try.prog.info? 72 with
    | some i => exact ⟨i, rfl⟩
    | none => have := info72; rw [h] at this; cases this
  have hi72' := info72
  rw [hi72] at hi72'
  simp at hi72'
  obtain ⟨z71, z72, z73⟩ := hi72'
  obtain ⟨W, hW⟩ : ∃ W, W = w.alloc (.cells #[.pointer none, .slice none 0 0, .slice none 0 0, .int .i32 0, .int .u8 0, .bool false] 33) := ⟨_, rfl⟩
  have hb : Below w.heap.size w W := by rw [hW]; exact (Below.refl _ _).alloc (Nat.le_refl _) _
  have R0 := Lib.hid (r0.below (Nat.le_refl _) hb)
  have R1 := Lib.hid (r1.below (Nat.le_refl _) hb)
  have R2 := Lib.hid (r2.below (Nat.le_refl _) hb)
  have hs : W.heap.size = w.heap.size + 1 := by rw [hW]; simp
  have hc : W.heap[w.heap.size]? = some (.cells #[.pointer none, .slice none 0 0, .slice none 0 0, .int .i32 0, .int .u8 0, .bool false] 33 (0, 0)) := by rw [hW]; exact Go.heap_alloc_new _ _
  have RW1 := Lib.hid r1
  have RW2 := Lib.hid r2
  have HB := Lib.hid hb
  have HC := Lib.hid hc
  clear r0 r1 r2 hb hc
  go_enter Try.func32, Try.ntmps32
  go_wp2_with fail
  rw [← hW]
  clear hW
  refine (at34 a0 n0 c0 z0 p _ h0 hp R0.out).mono ?_
  rintro e w1 ⟨⟨k, hk, rfl⟩, hw⟩
  obtain rfl := hw.symm
  clear hw
  obtain ⟨n, hn, hn3⟩ : ∃ n : Nat, (k : Int) % 4 = (n : Int) ∧ n ≤ 3 := ⟨k % 4, by omega, by omega⟩
  go_wp2_with (at_builtin; go_loud (refine wpList_append_own _ rfl _ _ 132 rfl (w.heap.size + 1) 3 i3 (.int .i64 0) 1 8 (by kernel_rfl) hi3 z31 z32 z33 rfl (by decide) (.slice none 0 0) 0 [] rfl ⟨rfl, .inl ⟨rfl, rfl⟩⟩ ⟨w.heap.size + 1, 0, none⟩ 1 1 [.int .i64 ((k : Int) % 4)] rfl rfl ?c1 ?c2 ?c3 ?c4 ?c5 ?_))
  case c1 =>
    intro j u hj
    match j, hj with
    | 0, hj => simp at hj; subst hj; simp [Addr.add, ← hs]; omega
  case c2 => intro u hu; simp at hu; subst hu; rfl
  case c3 => unfold maxLen; omega
  case c4 => omega
  case c5 => simp; omega
  intro v1 w1 ho1 hg1 _
  have hb1 : Below W.heap.size W w1 := ((Below.refl _ _).alloc (Nat.le_refl _) _).trans ⟨hg1.os, hg1.tape, hg1.output, hg1.size, fun k hk => hg1.block k (by simp; omega) (by simp [Value.ownBlock])⟩
  have hs1 := hb1.size
  go_wp2_with (at_make; go_loud (refine wpList_make_own _ rfl _ _ 26 rfl (w.heap.size + 1) 72 i72 _ 3 (by kernel_rfl) hi72 z71 z72 .i64 .i64 (n : Int) n rfl rfl rfl ?d1 ?d2 ?d3 ?_))
  case d1 => rw [z73]; omega
  case d2 => unfold maxLen; omega
  case d3 => omega
  intro w2 ho2 hg2
  have hL : Lp w n j (.int .i64 (j : Int)) v1 (.slice (some ⟨w1.heap.size, 0, none⟩) 0 n) (.bool false) (.int .i64 0) w2 := by
    refine ⟨0, false, by omega, rfl, rfl, rfl, ⟨_, [], _, fun _ => false, rfl, ho2, fun j h => by omega, ho1.kept hg2 (by cases v1.ownBlock <;> simp)⟩, ?_, ?_⟩
    · exact (HB.out.trans (hb1.mono (by omega))).trans ⟨hg2.os, hg2.tape, hg2.output, hg2.size, fun k hk => hg2.block k (by omega) (by simp)⟩
    · refine ⟨#[.pointer none, .slice none 0 0, .slice none 0 0, .int .i32 0, .int .u8 0, .bool false], ?_, rfl⟩
      rw [hg2.block _ (by omega) (by simp), hb1.block _ (by omega)]
      exact HC.out
  have HL := Lib.hid hL
  clear hL ho2 hg2 ho1 hg1 hb1 HC R0 R1 R2
  go_wp2_with fail
  go_loopw [4, 5, 17, 18, 19] (fun vj key subs dead vq wr => Lp w n j vj key subs dead vq wr) (fun _ _ _ _ q _ => n - (intOf q).toNat)
  case atStart => exact HL.out
  case round =>
    obtain ⟨q, d, hq, rfl, rfl, rfl, hR⟩ := hrel.ex
    obtain ⟨g, _, _, _, rfl, _⟩ := hR.ex
    clear hrel HL
    obtain ⟨i, hi⟩ : ∃ i, i = j + q := ⟨_, rfl⟩
    rw [← hi]
    have hi2 : i ≤ 65535 := by omega
    have Hi := Lib.hid hi
    clear hi
    by_cases hlt : q < n
    · have r1 := RW1.out.below (Nat.le_refl _) hR.below
      have r2 := RW2.out.below (Nat.le_refl _) hR.below
      have HR := Lib.hid hR
      clear hR
      go_wp2_with fail
      refine (dead35 a1 a2 n1 n2 c1 c2 z1 z2 i _ h1 h2 (by omega) r1 r2).mono ?_
      rintro e w3 ⟨⟨b, rfl⟩, hw⟩
      obtain rfl := hw.symm
      clear hw
      have R1 := Lib.hid r1
      have R2 := Lib.hid r2
      clear r1 r2
      cases b
      all_goals
        go_wp2_with fail
        refine (key36 a1 a2 n1 n2 c1 c2 z1 z2 i _ h1 h2 (by omega) R1.out R2.out).mono ?_
        rintro e w3 ⟨⟨kv, rfl⟩, hw⟩
        obtain rfl := hw.symm
        clear hw
        obtain ⟨_, _, ks, _, _, _, _, o3⟩ := HR.out.ex
        go_wp2_with (at_builtin; go_loud (refine wpList_append_own _ rfl _ _ 132 rfl (w.heap.size + 1) 3 i3 (.int .i64 0) 1 8 (by kernel_rfl) hi3 z31 z32 z33 rfl (by decide) u5 (q + 1) ks rfl (o3.alloc _) ⟨wr.heap.size, 0, none⟩ 1 1 [.int .i64 kv] rfl rfl ?f1 ?f2 ?f3 ?f4 ?f5 ?_))
        case f1 =>
          intro j u hj
          match j, hj with
          | 0, hj => simp at hj; subst hj; simp [Addr.add]
        case f2 => intro u hu; simp at hu; subst hu; rfl
        case f3 => unfold maxLen; omega
        case f4 => omega
        case f5 => have := HR.out.below.size; simp; omega
        intro key' w4 ho4 hg4 _
        have B4 := Lib.hid ((HR.out.alloc _).key hg4 ho4)
        have r1 := RW1.out.below (Nat.le_refl _) B4.out.below
        have r2 := RW2.out.below (Nat.le_refl _) B4.out.below
        clear ho4 hg4 o3 HR R1 R2
        go_wp2_with fail
        refine (sub37 a1 a2 n1 n2 c1 c2 z1 z2 i _ h1 h2 (by omega) r1 r2).mono ?_
        rintro e w5 ⟨⟨T, bb, fv, rfl, hv⟩, hb5⟩
        have B5 := Lib.hid (B4.out.call hb5)
        clear hb5 B4 r1 r2
        obtain ⟨g', xs, ks', f, hse, o1, sc, o3'⟩ := B5.out.ex
        injection hse with hse
        injection hse with hse
        injection hse with hse
        subst hse
        go_wp2_with (at_builtin; go_loud (refine wpList_append_fits _ rfl _ _ 26 rfl (w.heap.size + 1) 72 i72 3 (by kernel_rfl) hi72 z72 g q n xs rfl (o1.alloc _) ⟨w5.heap.size, 0, none⟩ 1 1 [.iface T (.pointer (some ⟨bb, 0, none⟩)), .int .i32 0, .int .i32 0] rfl rfl ?e1 ?e2 ?e3 ?_))
        case e1 =>
          intro j u hj
          match j, hj with
          | 0, hj => simp at hj; subst hj; simp [Addr.add]
          | 1, hj => simp at hj; subst hj; simp [Addr.add]
          | 2, hj => simp at hj; subst hj; simp [Addr.add]
        case e2 => intro u hu; simp at hu; rcases hu with rfl | rfl | rfl <;> rfl
        case e3 => omega
        intro w6 ho6 hg6
        have B6 := Lib.hid ((B5.out.alloc _).sub (hv.call ((Below.refl _ _).alloc (Nat.le_refl _) _)) xs g f (sc.keep (fun T b f h => (((Below.refl _ _).alloc (Nat.le_refl _) _).block b h.lt))) rfl (o1.alloc _) hg6 ho6)
        clear ho6 hg6 o1 sc o3' hv B5
        go_wp2_with fail
        go_roundw
        case rel => exact ⟨q + 1, _, by omega, by have := Hi.out; first | (go_num; omega) | go_num, by go_num, rfl, B6.out⟩
        case measure => simp [intOf]; omega
    · have e : q = n := by omega
      subst e
      obtain ⟨c, hcc, hs6⟩ := hR.res
      obtain ⟨g', f, hse, hC, hgt⟩ := hR.comp
      injection hse with hse
      injection hse with hse
      injection hse with hse
      subst hse
      have x0 := (cells_read hcc 0 (by omega)).1
      have x1 := (cells_read hcc 1 (by omega)).1
      have x2 := (cells_read hcc 2 (by omega)).1
      have x3 := (cells_read hcc 3 (by omega)).1
      have x4 := (cells_read hcc 4 (by omega)).1
      have x5 := (cells_read hcc 5 (by omega)).1
      have k0 := (cells_read hcc 0 (by omega)).2
      have k1 := (cells_read hcc 1 (by omega)).2
      have k2 := (cells_read hcc 2 (by omega)).2
      have k3 := (cells_read hcc 3 (by omega)).2
      have k4 := (cells_read hcc 4 (by omega)).2
      have k5 := (cells_read hcc 5 (by omega)).2
      generalize c[0] = d0 at x0
      generalize c[1] = d1 at x1
      generalize c[2] = d2 at x2
      generalize c[3] = d3 at x3
      generalize c[4] = d4 at x4
      generalize c[5] = d5 at x5
      obtain ⟨y0, y1, y2, y3, y4, y5⟩ := six_read hcc hs6 (.pointer none) (.slice (some ⟨g, 0, none⟩) q q) (.slice none 0 0) (.int .i32 0) (.int .u8 0) (.bool false)
      simp only [six] at y0 y1 y2 y3 y4 y5
      have Y0 := Lib.hid y0
      have Y1 := Lib.hid y1
      have Y2 := Lib.hid y2
      have Y3 := Lib.hid y3
      have Y4 := Lib.hid y4
      have Y5 := Lib.hid y5
      have HCm := Lib.hid (six_comp hC hcc (.pointer none) (.slice (some ⟨g, 0, none⟩) q q) (.slice none 0 0) (.int .i32 0) (.int .u8 0) (.bool false))
      have HBl := Lib.hid (six_below hR.below (Nat.le_refl _) (.pointer none) (.slice (some ⟨g, 0, none⟩) q q) (.slice none 0 0) (.int .i32 0) (.int .u8 0) (.bool false))
      clear y0 y1 y2 y3 y4 y5 hC hR hcc hs6
      go_wp2_with fail
      exact bodyPost_ret (v := .tuple #[.agg #[.pointer none, .slice (some ⟨g, 0, none⟩) q q, .slice none 0 0, .int .i32 0, .int .u8 0, .bool false], .int .i64 ((i : Nat) : Int), .bool d, u5]) (by simp [results, Try.results32, go_sem, Y0.out, Y1.out, Y2.out, Y3.out, Y4.out, Y5.out]) rfl ⟨⟨g, q, f, d, u5, by rw [Hi.out], hn3, HCm.out⟩, HBl.out⟩
end Go.Proofs.Ytlhcgnlbhncfkaa
