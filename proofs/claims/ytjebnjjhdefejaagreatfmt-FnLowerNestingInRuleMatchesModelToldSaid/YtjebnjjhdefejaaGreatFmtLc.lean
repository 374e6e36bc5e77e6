/-
  Compound selectors counted. Conditions: each theorem's own.
-/
import Derived.Test.YtjebnjjhdefejaaGreatFmtLb
namespace Go.Proofs.YtjebnjjhdefejaaGreatFmt
open Go.RowKit Go.Lib Go.ChangeMaps
/-- what a compound selector shows: its cells, its one subclass selector -/
structure CpF (w : World) (g i ub b sc : Nat) : Prop where
  hg : g < w.heap.size
  c0 : w.cell? ⟨g, i * 6, none⟩ = some (.pointer none)
  c1 : w.cell? ⟨g, i * 6 + 1, none⟩ = some (.slice (some ⟨ub, 0, none⟩) 1 sc)
  c2 : w.cell? ⟨g, i * 6 + 2, none⟩ = some (.slice none 0 0)
  c3 : w.cell? ⟨g, i * 6 + 3, none⟩ = some (.int .i32 0)
  c4 : w.cell? ⟨g, i * 6 + 4, none⟩ = some (.int .u8 0)
  c5 : w.cell? ⟨g, i * 6 + 5, none⟩ = some (.bool false)
  hu : ub < w.heap.size
  u0 : w.cell? ⟨ub, 0, none⟩ = some (.iface 121 (.pointer (some ⟨b, 0, none⟩)))
  u1 : w.cell? ⟨ub, 1, none⟩ = some (.int .i32 0)
  u2 : w.cell? ⟨ub, 2, none⟩ = some (.int .i32 0)
  hb : b < w.heap.size
  hh : w.heap[b]? = some (.cells hov 123 (0, 0))
theorem CpF.below {w w' : World} {g i ub b sc : Nat} (h : CpF w g i ub b sc) (hB : Below w.heap.size w w') : CpF w' g i ub b sc :=
  ⟨Nat.lt_of_lt_of_le h.hg hB.size, (cellLow (hB.block _ h.hg) _).trans h.c0, (cellLow (hB.block _ h.hg) _).trans h.c1, (cellLow (hB.block _ h.hg) _).trans h.c2, (cellLow (hB.block _ h.hg) _).trans h.c3, (cellLow (hB.block _ h.hg) _).trans h.c4, (cellLow (hB.block _ h.hg) _).trans h.c5, Nat.lt_of_lt_of_le h.hu hB.size, (cellLow (hB.block _ h.hu) _).trans h.u0, (cellLow (hB.block _ h.hu) _).trans h.u1, (cellLow (hB.block _ h.hu) _).trans h.u2, Nat.lt_of_lt_of_le h.hb hB.size, (hB.block _ h.hb).trans h.hh⟩
theorem hov_at {w : World} {P : Nat → Prop} {s : Value} (h : RowL HovT w P s [()]) : ∃ ub b sc, s = .slice (some ⟨ub, 0, none⟩) 1 sc ∧ P ub ∧ ub < w.heap.size ∧ w.cell? ⟨ub, 0, none⟩ = some (.iface 121 (.pointer (some ⟨b, 0, none⟩))) ∧ w.cell? ⟨ub, 1, none⟩ = some (.int .i32 0) ∧ w.cell? ⟨ub, 2, none⟩ = some (.int .i32 0) ∧ P b ∧ b < w.heap.size ∧ w.heap[b]? = some (.cells hov 123 (0, 0)) := by
  obtain ⟨a, c, rfl, hx⟩ := h
  obtain ⟨ub, rfl, hp, hu, b, e0, e1, e2, hpb, hb, hh⟩ := hx 0 (by simp)
  exact ⟨ub, b, c, rfl, hp, hu, by simpa using e0, by simpa using e1, by simpa using e2, hpb, hb, hh⟩
theorem cp_at {w : World} {P : Nat → Prop} {a : Option Addr} {n c m : Nat} (h : RowL CpH w P (.slice a n c) (us m)) {i : Nat} (hi : i < m) : ∃ g ub b sc, a = some ⟨g, 0, none⟩ ∧ CpF w g i ub b sc := by
  obtain ⟨g, ha, hp, hg, e0, ⟨s, e1, hs⟩, e2, e3, e4, e5⟩ := h.at'.2 i (by simpa using hi)
  obtain ⟨ub, b, sc, rfl, _, hu, f0, f1, f2, _, hb, hh⟩ := hov_at hs
  exact ⟨g, ub, b, sc, ha, hg, e0, e1, e2, e3, e4, e5, hu, f0, f1, f2, hb, hh⟩
theorem asP_L (v : Value) (w : World) : (Instr.typeAssert (.iface 121 v) 125 154 true).run Tryz.prog w = .ok (.tuple #[.pointer none, .bool false]) w := by kernel_rfl
theorem asP_P (v : Value) (w : World) : (Instr.typeAssert (.iface 121 v) 125 121 true).run Tryz.prog w = .ok (.tuple #[v, .bool true]) w := by kernel_rfl
abbrev cpV (ub sc : Nat) : Value := .agg #[.pointer none, .slice (some ⟨ub, 0, none⟩) 1 sc, .slice none 0 0, .int .i32 0, .int .u8 0, .bool false]
structure IntR (z : Int) (w : World) (e : Ending) (w' : World) : Prop where
  ex : e = .returned (.int .i64 z) ∧ Below w.heap.size w w'
structure LoI (w : World) (n g : Nat) (vi : Value) (wx : World) : Prop where
  ex : ∃ i, i + g = n ∧ vi = .int .i64 (i : Nat) ∧ Below w.heap.size w wx
structure LoC (w : World) (n g : Nat) (vc vi : Value) (wx : World) : Prop where
  ex : ∃ i, i + g = n ∧ vc = .int .i64 (i : Nat) ∧ vi = .int .i64 (i : Nat) ∧ Below w.heap.size w wx
theorem has29 (w : World) : Calls Tryz.prog 36 #[.int .u16 0, .int .u16 256] w fun e w' => e = .returned (.bool false) ∧ w = w' := by
  go_enter Tryz.func36, Tryz.ntmps36
  go_wp2_with fail
  go_ret
  exact ⟨rfl, rfl⟩
set_option maxHeartbeats 4000000 in
set_option maxRecDepth 100000 in
theorem ct35 (g i ub b sc : Nat) (w : World) (h : CpF w g i ub b sc) : Calls Tryz.prog 49 #[cpV ub sc] w fun e w' => IntR 1 w e w' := by
  have HH := hid h
  obtain ⟨W, hW⟩ : ∃ W, W = w.alloc (.cells #[.pointer none, .slice (some ⟨ub, 0, none⟩) 1 sc, .slice none 0 0, .int .i32 0, .int .u8 0, .bool false] 134) := ⟨_, rfl⟩
  have hbW : Below w.heap.size w W := by rw [hW]; exact (Below.refl _ _).alloc (Nat.le_refl _) _
  have HL0 := hid (show LoC w 1 1 (.int .i64 0) (.int .i64 0) W from ⟨0, rfl, rfl, rfl, hbW⟩)
  clear h hbW
  go_enter Tryz.func49, Tryz.ntmps49
  go_wp2_with fail
  rw [← hW]
  clear hW
  go_loopg [3, 11] 1 (fun g v3 v11 wx => LoC w 1 g v3 v11 wx)
  case atStart => exact HL0.out
  case round =>
    obtain ⟨k, hkg, rfl, rfl, hb⟩ := hrel.ex
    clear hrel HL0
    cases gk with
    | zero =>
      obtain rfl : k = 1 := by omega
      have HB := hid hb
      clear hb
      go_wp2_with fail
      go_ret
      exact ⟨rfl, HB.out⟩
    | succ g' =>
      obtain rfl : k = 0 := by omega
      obtain rfl : g' = 0 := by omega
      have hF := HH.out.below hb
      have c0 := hF.u0
      have c1 := hF.u1
      have c2 := hF.u2
      have ta := asP_L
      have HB := hid hb
      clear hb hF
      go_wp2_with fail
      go_roundg 0
      case measure => omega
      case rel => exact ⟨1, rfl, rfl, rfl, HB.out.alloc HB.out.size _⟩
end Go.Proofs.YtjebnjjhdefejaaGreatFmt
