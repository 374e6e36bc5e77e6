/-
  Pseudo-elements; the closure of a parent. Conditions: each theorem's own.
-/
import Derived.Test.YtjebnjjhdefejaaGreatFmtLd
namespace Go.Proofs.YtjebnjjhdefejaaGreatFmt
open Go.RowKit Go.Lib Go.ChangeMaps
set_option maxHeartbeats 8000000 in
set_option maxRecDepth 100000 in
theorem up45 (a : Option Addr) (n c m : Nat) (P : Nat → Prop) (w : World) (hm : m ≤ 100000) (h : RowL CpH w P (.slice a n c) (us m)) : Calls Tryz.prog 26 #[.agg #[.slice a n c]] w fun e w' => DdR false w e w' := by
  obtain ⟨rfl, _⟩ := h.at'
  rw [show (us m).length = m by simp] at h ⊢
  have HR := hid h
  obtain ⟨W, hW⟩ : ∃ W, W = w.alloc (.cells #[.slice a m c] 120) := ⟨_, rfl⟩
  have hbW : Below w.heap.size w W := by rw [hW]; exact (Below.refl _ _).alloc (Nat.le_refl _) _
  have HL0 := hid (show LoI w m m (.int .i64 0) W from ⟨0, by simp, rfl, hbW⟩)
  clear h hbW
  go_enter Tryz.func26, Tryz.ntmps26
  go_wp2_with fail
  rw [← hW]
  clear hW
  go_loopg [12] m (fun g v12 wx => LoI w m g v12 wx)
  case atStart => exact HL0.out
  case round =>
    obtain ⟨i, hig, rfl, hb⟩ := hrel.ex
    clear hrel HL0
    cases gk with
    | zero =>
      have hcd : ¬ ((i : Int) < (m : Int)) := by omega
      have HB := hid hb
      clear hb hig
      go_wp2_with fail
      go_ret
      exact ⟨rfl, HB.out⟩
    | succ g4 =>
      have him : i < m := by omega
      have hcd : ((i : Int) < (m : Int)) := by omega
      obtain ⟨q, ub, b, sc, rfl, hF⟩ := cp_at HR.out him
      have hF2 := hF.below hb
      have c0 := hF2.c0
      have c1 := hF2.c1
      have c2 := hF2.c2
      have c3 := hF2.c3
      have c4 := hF2.c4
      have c5 := hF2.c5
      have e1 : IntKind.i64.wrap ((i : Int) + 1) = ((i + 1 : Nat) : Int) := by rw [IntKind.wrap_i64]; omega
      obtain ⟨W2, hW2⟩ : ∃ X, X = wr.alloc (.cells #[.pointer none, .slice (some ⟨ub, 0, none⟩) 1 sc, .slice none 0 0, .int .i32 0, .int .u8 0, .bool false] 134) := ⟨_, rfl⟩
      have hb2 : Below w.heap.size w W2 := by rw [hW2]; exact hb.alloc hb.size _
      have HF := hid hF
      have HL1 := hid (show LoI w 1 1 (.int .i64 0) W2 from ⟨0, rfl, rfl, hb2⟩)
      clear hb hb2 hF hF2
      go_wp2_with fail
      rw [← hW2]
      clear hW2 c0 c1 c2 c3 c4 c5
      go_loopg [19] 1 (fun g v19 wx => LoI w 1 g v19 wx)
      case atStart => exact HL1.out
      case round =>
        obtain ⟨k, hkg, rfl, hb⟩ := hrel.ex
        clear hrel HL1
        cases gk with
        | zero =>
          obtain rfl : k = 1 := by omega
          have HB := hid hb
          clear hb
          go_wp2_with fail
          go_roundg g4
          case measure => omega
          case rel => exact ⟨i + 1, by omega, rfl, HB.out⟩
        | succ g' =>
          obtain rfl : k = 0 := by omega
          obtain rfl : g' = 0 := by omega
          have hF := HF.out.below hb
          have c0 := hF.u0
          have c1 := hF.u1
          have c2 := hF.u2
          have hF3 := HF.out.below (hb.alloc hb.size (.cells #[.iface 121 (.pointer (some ⟨b, 0, none⟩)), .int .i32 0, .int .i32 0] 127))
          have d0 := (hcell hF3.hh 0 _ rfl).1
          have d2 := (hcell hF3.hh 2 _ rfl).1
          have ta := asP_P
          have HB := hid hb
          clear hb hF hF3
          go_wp2_with fail
          go_roundg 0
          case measure => omega
          case rel => exact ⟨1, rfl, rfl, HB.out.alloc HB.out.size _⟩
structure MuR (sl : Value) (w : World) (e : Ending) (w' : World) : Prop where
  ex : ∃ q, e = .returned (.func (.func 51) #[] #[.pointer (some ⟨q, 0, none⟩)]) ∧ w.heap.size ≤ q ∧ w'.heap[q]? = some (.cells #[sl] 111 (0, 0)) ∧ Below w.heap.size w w'
set_option maxRecDepth 100000 in
theorem mu30 (p : Value) (a : Option Addr) (c : Nat) (w : World) : Calls Tryz.prog 43 #[p, .slice a 1 c] w fun e w' => MuR (.slice a 1 c) w e w' := by
  go_enter Tryz.func43, Tryz.ntmps43
  go_wp2_with fail
  exact bodyPost_ret (v := .func (.func 51) #[] #[.pointer (some ⟨w.heap.size, 0, none⟩)]) (by simp [results, Tryz.results43, go_sem]) rfl ⟨w.heap.size, rfl, Nat.le_refl _, heap_alloc_new _ _, (Below.refl _ _).alloc (Nat.le_refl _) _⟩
structure AgR (v : Value) (w : World) (e : Ending) (w' : World) : Prop where
  ex : e = .returned v ∧ Below w.heap.size w w'
set_option maxRecDepth 100000 in
theorem mu37 (x : Value) (q g c m vc : Nat) (va : Option Addr) (w : World) (hq : q < w.heap.size) (hg : g < w.heap.size) (h1 : w.cell? ⟨q, 0, none⟩ = some (.slice (some ⟨g, 0, none⟩) 1 c)) (h2 : w.cell? ⟨g, 0, none⟩ = some (.slice va m vc)) :
    Calls Tryz.prog 51 #[.agg #[x], .pointer (some ⟨q, 0, none⟩)] w fun e w' => AgR (.agg #[.slice va m vc]) w e w' := by
  go_enter Tryz.func51, Tryz.ntmps51
  have k1 := (cellLow (Below.heap_alloc w (.cells #[x] 37) _ hq) 0).trans h1
  have k2 := (cellLow (Below.heap_alloc w (.cells #[x] 37) _ hg) 0).trans h2
  have hb1 : Below w.heap.size w (w.alloc (.cells #[x] 37)) := (Below.refl _ _).alloc (Nat.le_refl _) _
  have k3 := (cellLow (Below.heap_alloc (w.alloc (.cells #[x] 37)) (.cells #[.slice none 0 0] 120) _ (Nat.lt_of_lt_of_le hq hb1.size)) 0).trans k1
  have k4 := (cellLow (Below.heap_alloc (w.alloc (.cells #[x] 37)) (.cells #[.slice none 0 0] 120) _ (Nat.lt_of_lt_of_le hg hb1.size)) 0).trans k2
  go_wp2_with fail
  exact bodyPost_ret (v := .agg #[.slice va m vc]) (by simp [results, Tryz.results51, go_sem]) rfl ⟨rfl, (two_alloc w _ _).1⟩
end Go.Proofs.YtjebnjjhdefejaaGreatFmt
