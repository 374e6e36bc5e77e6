/-
  Complex selectors counted. Conditions: each theorem's own.
-/
import Derived.Test.YtjebnjjhdefejaaGreatFmtLc
namespace Go.Proofs.YtjebnjjhdefejaaGreatFmt
open Go.RowKit Go.Lib Go.ChangeMaps
theorem cx_at {w : World} {P : Nat → Prop} {a : Option Addr} {n c m : Nat} (h : RowL CxH w P (.slice a n c) [m]) : n = 1 ∧ ∃ g va vc, a = some ⟨g, 0, none⟩ ∧ P g ∧ g < w.heap.size ∧ w.cell? ⟨g, 0, none⟩ = some (.slice va m vc) ∧ m ≤ vc ∧ RowL CpH w P (.slice va m vc) (us m) := by
  obtain ⟨e, hx⟩ := h.at'
  obtain ⟨g, ha, hp, hg, va, vc, hs, hk, hr⟩ := hx 0 (by simp)
  have hs' : w.cell? ⟨g, 0 * 1 + 0, none⟩ = some (.slice va m vc) := hs
  exact ⟨e, g, va, vc, ha, hp, hg, by simpa using hs', hk, hr⟩
structure LoX (w : World) (m g : Nat) (v3 v10 : Value) (wx : World) : Prop where
  ex : ∃ (k : Nat) (z : Int), k + g = 1 ∧ v10 = .int .i64 (k : Nat) ∧ v3 = .int .i64 z ∧ (k = 0 → z = 0 ∧ w = wx) ∧ (k = 1 → z = (m : Int)) ∧ Below w.heap.size w wx
set_option maxHeartbeats 8000000 in
set_option maxRecDepth 100000 in
theorem ct27 (a : Option Addr) (n c m : Nat) (P : Nat → Prop) (w : World) (hm : m ≤ 100000) (h : RowL CxH w P (.slice a n c) [m]) : Calls Tryz.prog 41 #[.slice a n c] w fun e w' => IntR (m : Int) w e w' := by
  obtain ⟨rfl, g, va, vc, rfl, hp, hg, hc, _, hr⟩ := cx_at h
  have HR := hid hr
  obtain ⟨W, hW⟩ : ∃ W, W = w.alloc (.cells #[.slice va m vc] 120) := ⟨_, rfl⟩
  have hbW : Below w.heap.size w W := by rw [hW]; exact (Below.refl _ _).alloc (Nat.le_refl _) _
  have HL0 := hid (show LoC w m m (.int .i64 0) (.int .i64 0) W from ⟨0, by simp, rfl, rfl, hbW⟩)
  clear h hbW hr
  go_enter Tryz.func41, Tryz.ntmps41
  go_wp2_with fail
  go_loopg [3, 10] 1 (fun g v3 v10 wx => LoX w m g v3 v10 wx)
  case atStart => exact ⟨0, 0, rfl, rfl, rfl, fun _ => ⟨rfl, rfl⟩, (fun h => by cases h), Below.refl _ _⟩
  case round =>
    obtain ⟨k, z, hkg, rfl, rfl, h0, h1, hb⟩ := hrel.ex
    clear hrel
    cases gk with
    | zero =>
      obtain rfl : k = 1 := by omega
      obtain rfl := h1 rfl
      have HB := hid hb
      clear hb h0 h1
      go_wp2_with fail
      go_ret
      exact ⟨rfl, HB.out⟩
    | succ g' =>
      obtain rfl : k = 0 := by omega
      obtain rfl : g' = 0 := by omega
      obtain ⟨rfl, hw⟩ := h0 rfl
      subst hw
      clear h0 h1 hb
      go_wp2_with fail
      rw [← hW]
      clear hW hc
      go_loopg [3, 17] m (fun g v3 v17 wx => LoC w m g v3 v17 wx)
      case atStart => exact HL0.out
      case round =>
        obtain ⟨i, hig, rfl, rfl, hb⟩ := hrel.ex
        clear hrel HL0
        cases gk with
        | zero =>
          have hi : i = m := by omega
          have hcd : ¬ ((i : Int) < (m : Int)) := by omega
          have HB := hid (And.intro hi hb)
          clear hi hb hig
          go_wp2_with fail
          go_roundg 0
          case measure => omega
          case rel => exact ⟨1, _, rfl, rfl, rfl, (fun h => by cases h), fun _ => by rw [HB.out.1], HB.out.2⟩
        | succ g4 =>
          have him : i < m := by omega
          have hcd : ((i : Int) < (m : Int)) := by omega
          obtain ⟨q, ub, b, sc, rfl, hF⟩ := cp_at HR.out him
          have hF2 := hF.below hb
          have c0 := hF2.c0
          have c1 := hF2.c1
          have c2 := hF2.c2
          have c3 := hF2.c3
          have c4 := hF2.c4
          have c5 := hF2.c5
          have e1 : IntKind.i64.wrap ((i : Int) + 1) = ((i + 1 : Nat) : Int) := by rw [IntKind.wrap_i64]; omega
          have hb2 := hb.alloc hb.size (.cells #[.pointer none, .slice (some ⟨ub, 0, none⟩) 1 sc, .slice none 0 0, .int .i32 0, .int .u8 0, .bool false] 134)
          have HC := hid (ct35 q i ub b sc _ (hF.below hb2))
          have HB := hid hb2
          clear hb hb2 hF hF2
          go_wp2_with fail
          refine HC.out.mono ?_
          rintro e w5 hR
          obtain ⟨rfl, hB⟩ := hR.ex
          have HB5 := hid (HB.out.trans (hB.mono HB.out.size))
          clear hR hB HC
          go_wp2_with fail
          go_roundg g4
          case measure => omega
          case rel => exact ⟨i + 1, by omega, rfl, rfl, HB5.out⟩

set_option maxHeartbeats 8000000 in
set_option maxRecDepth 100000 in
theorem cn36 (a : Option Addr) (n c m : Nat) (P : Nat → Prop) (w : World) (hm : m ≤ 100000) (h : RowL CpH w P (.slice a n c) (us m)) : Calls Tryz.prog 50 #[.agg #[.slice a n c]] w fun e w' => DdR false w e w' := by
  obtain ⟨rfl, _⟩ := h.at'
  rw [show (us m).length = m by simp] at h ⊢
  have HR := hid h
  obtain ⟨W, hW⟩ : ∃ W, W = w.alloc (.cells #[.slice a m c] 120) := ⟨_, rfl⟩
  have hbW : Below w.heap.size w W := by rw [hW]; exact (Below.refl _ _).alloc (Nat.le_refl _) _
  have HL0 := hid (show LoI w m m (.int .i64 0) W from ⟨0, by simp, rfl, hbW⟩)
  clear h hbW
  go_enter Tryz.func50, Tryz.ntmps50
  go_wp2_with fail
  rw [← hW]
  clear hW
  go_loopg [14] m (fun g v14 wx => LoI w m g v14 wx)
  case atStart => exact HL0.out
  case round =>
    obtain ⟨i, hig, rfl, hb⟩ := hrel.ex
    clear hrel HL0
    cases gk with
    | zero =>
      have hcd : ¬ ((i : Int) < (m : Int)) := by omega
      have HB := hid hb
      clear hb hig
      go_wp2_with fail
      go_ret
      exact ⟨rfl, HB.out⟩
    | succ g4 =>
      have him : i < m := by omega
      have hcd : ((i : Int) < (m : Int)) := by omega
      obtain ⟨q, ub, b, sc, rfl, hF⟩ := cp_at HR.out him
      have hF2 := hF.below hb
      have c0 := hF2.c0
      have c1 := hF2.c1
      have c2 := hF2.c2
      have c3 := hF2.c3
      have c4 := hF2.c4
      have c5 := hF2.c5
      have e1 : IntKind.i64.wrap ((i : Int) + 1) = ((i + 1 : Nat) : Int) := by rw [IntKind.wrap_i64]; omega
      obtain ⟨W2, hW2⟩ : ∃ X, X = wr.alloc (.cells #[.pointer none, .slice (some ⟨ub, 0, none⟩) 1 sc, .slice none 0 0, .int .i32 0, .int .u8 0, .bool false] 134) := ⟨_, rfl⟩
      have hb2 : Below w.heap.size w W2 := by rw [hW2]; exact hb.alloc hb.size _
      have HF := hid hF
      have HL1 := hid (show LoI w 1 1 (.int .i64 0) W2 from ⟨0, rfl, rfl, hb2⟩)
      clear hb hb2 hF hF2
      go_wp2_with fail
      rw [← hW2]
      clear hW2 c0 c1 c2 c3 c4 c5
      go_loopg [25] 1 (fun g v25 wx => LoI w 1 g v25 wx)
      case atStart => exact HL1.out
      case round =>
        obtain ⟨k, hkg, rfl, hb⟩ := hrel.ex
        clear hrel HL1
        cases gk with
        | zero =>
          obtain rfl : k = 1 := by omega
          have HB := hid hb
          clear hb
          go_wp2_with fail
          go_roundg g4
          case measure => omega
          case rel => exact ⟨i + 1, by omega, rfl, HB.out⟩
        | succ g' =>
          obtain rfl : k = 0 := by omega
          obtain rfl : g' = 0 := by omega
          have hF := HF.out.below hb
          have c0 := hF.u0
          have c1 := hF.u1
          have c2 := hF.u2
          have ta := asP_L
          have HB := hid hb
          clear hb hF
          go_wp2_with fail
          go_roundg 0
          case measure => omega
          case rel => exact ⟨1, rfl, rfl, HB.out.alloc HB.out.size _⟩
set_option maxHeartbeats 8000000 in
set_option maxRecDepth 100000 in
theorem ir28 (a : Option Addr) (n c m : Nat) (P : Nat → Prop) (w : World) (hm : m ≤ 100000) (h1 : 1 ≤ m) (h : RowL CpH w P (.slice a n c) (us m)) : Calls Tryz.prog 42 #[.agg #[.slice a n c]] w fun e w' => DdR true w e w' := by
  obtain ⟨rfl, _⟩ := h.at'
  rw [show (us m).length = m by simp] at h ⊢
  obtain ⟨q, ub, b, sc, rfl, hF⟩ := cp_at h (i := 0) (by omega)
  obtain ⟨W, hW⟩ : ∃ W, W = w.alloc (.cells #[.slice (some ⟨q, 0, none⟩) m c] 120) := ⟨_, rfl⟩
  have hbW : Below w.heap.size w W := by rw [hW]; exact (Below.refl _ _).alloc (Nat.le_refl _) _
  have c4 := (hF.below hbW).c4
  have HC := hid (cn36 (some ⟨q, 0, none⟩) m c m P W hm (h.below hbW))
  have HB := hid hbW
  have hm0 : (0 : Int) < (m : Int) := by omega
  have hm1 : 0 < m := h1
  rw [hW] at c4
  simp only [Nat.zero_mul, Nat.zero_add] at c4
  clear h hbW hF
  go_enter Tryz.func42, Tryz.ntmps42
  go_wp2_with fail
  rw [← hW]
  refine HC.out.mono ?_
  rintro e w5 hR
  obtain ⟨rfl, hB⟩ := hR.ex
  have HB5 := hid (HB.out.trans (hB.mono HB.out.size))
  clear hR hB HC c4 hW
  go_wp2_with fail
  go_ret
  exact ⟨rfl, HB5.out⟩
end Go.Proofs.YtjebnjjhdefejaaGreatFmt
