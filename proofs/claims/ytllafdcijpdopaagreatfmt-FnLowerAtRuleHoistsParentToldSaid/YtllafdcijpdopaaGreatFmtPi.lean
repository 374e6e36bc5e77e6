/-
  lowerNestingInRulesAndReturnRemaining over declarations. Conditions: each theorem's own.
-/
import Derived.Test.YtllafdcijpdopaaGreatFmtPh
namespace Go.Proofs.YtllafdcijpdopaaGreatFmt
open Go.RowKit Go.Lib
attribute [local go_sem] ta_112_112 ta_112_50 ta_112_55 ta_112_59 ta_112_113 ta_50_112 ta_50_50 ta_50_55 ta_50_59 ta_50_113 ta_55_112 ta_55_50 ta_55_55 ta_55_59 ta_55_113 ta_59_112 ta_59_50 ta_59_55 ta_59_59 ta_59_113 ta_113_112 ta_113_50 ta_113_55 ta_113_59 ta_113_113 ta_nil_112 ta_nil_50 ta_nil_55 ta_nil_59 ta_nil_113 ta_169_169 ta_169_149 nn_112 ne_112 nn_50 ne_50 nn_55 ne_55 nn_59 ne_59 nn_113 ne_113 ne_nil nn_nil
theorem set_same {w : World} {b o : Nat} {v : Value} (h : w.cell? ⟨b, o, none⟩ = some v) (g : Nat) : (w.setCell ⟨b, o, none⟩ v).heap[g]? = w.heap[g]? := by
  by_cases e : g = b
  · subst e
    unfold World.cell? at h
    cases hb : w.heap[g]? with
    | none => rw [hb] at h; cases h
    | some x =>
      rw [hb] at h
      cases x with
      | cells arr e fz =>
        simp only at h
        rw [hset hb, Option.some.injEq, Obj.cells.injEq]
        refine ⟨?_, rfl, rfl⟩
        obtain ⟨hlt, hv⟩ := Array.getElem?_eq_some_iff.1 h
        apply Array.ext
        · simp
        · intro i h1 h2
          rw [Array.getElem_setIfInBounds]
          split
          · rename_i q; subst q; exact hv.symm
          · rfl
      | _ => simp at h
  · exact hother _ _ _ e
theorem set_same_below {w0 w : World} {b o : Nat} {v : Value} {N : Nat} (hb : Below N w0 w) (h : w.cell? ⟨b, o, none⟩ = some v) : Below N w0 (w.setCell ⟨b, o, none⟩ v) :=
  ⟨hb.os, hb.tape, hb.output, by have := hb.size; simpa [World.setCell] using this, fun k hk => (set_same h k).trans (hb.block k hk)⟩
theorem same2 {w0 w5 : World} {A o N9 : Nat} {x y u v : Value} (hA : A ≠ N9) (hx : w5.cell? ⟨A, o, none⟩ = some x) (hy : w5.cell? ⟨A, o + 1, none⟩ = some y) (hN : w0.heap.size ≤ N9) (h : Below w0.heap.size w0 w5) :
    Below w0.heap.size w0 ((((w5.setCell ⟨N9, 0, none⟩ u).setCell ⟨N9, 1, none⟩ v).setCell ⟨A, o, none⟩ x).setCell ⟨A, o + 1, none⟩ y) := by
  have h1 := (h.setCell (p := ⟨N9, 0, none⟩) hN u).setCell (p := ⟨N9, 1, none⟩) hN v
  have c1 : ∀ k, ((w5.setCell ⟨N9, 0, none⟩ u).setCell ⟨N9, 1, none⟩ v).cell? ⟨A, k, none⟩ = w5.cell? ⟨A, k, none⟩ := fun k => by
    rw [World.cell?_setCell_other _ _ _ _ (by simp), World.cell?_setCell_other _ _ _ _ (by simp)]
  generalize (w5.setCell ⟨N9, 0, none⟩ u).setCell ⟨N9, 1, none⟩ v = w6 at *
  have x6 := (c1 o).trans hx
  have y6 := (c1 (o + 1)).trans hy
  refine set_same_below (set_same_below h1 x6) ?_
  rw [World.cell?_of_block (a := ⟨A, o + 1, none⟩) (set_same x6 A)]
  exact y6
structure RI (n : Nat) (w : World) (g : Nat) (v7 v12 : Value) (wx : World) : Prop where
  ex : ∃ i : Nat, i + g = n ∧ v7 = .int .i64 i ∧ v12 = .int .i64 i ∧ Below w.heap.size w wx
set_option maxHeartbeats 8000000 in
set_option maxRecDepth 100000 in
theorem rem32 (B n : Nat) (hn : n ≤ 4096) (p : Option Addr) (C : Addr) (v : Value) (w : World) (h : DecO B n v w) : Calls Tryz.prog 32 #[.pointer p, v, .pointer (some C)] w fun e w' => e = .returned v ∧ Below w.heap.size w w' := by
  have HD := hid h
  obtain ⟨a, c, rfl, hnc, _⟩ := h.opn
  clear h
  go_enter Tryz.func32, Tryz.ntmps32
  go_wp2_with fail
  go_loopg [7, 12] n (fun g v7 v12 wx => RI n w g v7 v12 wx)
  case atStart => exact ⟨0, by omega, by first | rfl | simp, by first | rfl | simp, Below.refl _ _⟩
  case round =>
    obtain ⟨i, hig, rfl, rfl, hbel⟩ := hrel.ex
    clear hrel
    cases gk with
    | zero =>
      have hc : ¬ ((i : Int) < (n : Int)) := by omega
      obtain rfl : i = n := by omega
      have HL := hid hbel
      have h1 : (0 : Int) ≤ (i : Int) := by omega
      have h2 : (i : Int) ≤ (c : Int) := by omega
      clear hig hbel
      go_wp2_with fail
      go_ret
      exact ⟨rfl, HL.out⟩
    | succ g =>
      have hi : i < n := by omega
      have hc : (i : Int) < (n : Int) := by omega
      obtain ⟨a', c', e', _, hx⟩ := (HD.out.below hbel).opn
      cases e'
      obtain ⟨A, b, rfl, hA, q0, q1, hf⟩ := hx i hi
      have f0 := hf (i * 2)
      have f1 := hf (i * 2 + 1)
      have e5 : IntKind.i64.wrap ((i : Int) + 1) = ((i + 1 : Nat) : Int) := by rw [IntKind.wrap_i64]; omega
      obtain ⟨X, hX⟩ : ∃ X, X = wr.alloc (.cells #[.iface 113 (.pointer (some ⟨b, 0, none⟩)), .int .i32 0] 30) := ⟨_, rfl⟩
      have hXb : Below wr.heap.size wr X := by rw [hX]; exact (Below.refl _ _).alloc (Nat.le_refl _) _
      have hXs : X.heap.size = wr.heap.size + 1 := by rw [hX]; simp
      have hXc : X.heap[wr.heap.size]? = some (.cells #[.iface 113 (.pointer (some ⟨b, 0, none⟩)), .int .i32 0] 30 (0, 0)) := by rw [hX]; exact heap_alloc_new _ _
      have C20 := hid (low20d p b C X)
      have HL := hid hbel
      have HXB := hid hXb
      have HXC := hid hXc
      clear hx hbel hXb hXc hf
      go_wp2_with fail
      rw [← hX]
      clear hX
      refine C20.out.mono ?_
      rintro e w5 ⟨rfl, hb5⟩
      have hw5 := HXB.out.trans (hb5.mono HXB.out.size)
      have hs5 := hb5.size
      have hh9 := (hb5.block wr.heap.size (by omega)).trans HXC.out
      obtain ⟨n0, nf0⟩ := hcell hh9 0 _ rfl
      obtain ⟨n1, nf1⟩ := hcell hh9 1 _ rfl
      have hba := hw5.block A hA
      have r0 := (cellLow hba (i * 2)).trans q0
      have r1 := (cellLow hba (i * 2 + 1)).trans q1
      have t0 := (World.frozen?_of_block (a := ⟨A, i * 2, none⟩) hba).trans f0
      have t1 := (World.frozen?_of_block (a := ⟨A, i * 2 + 1, none⟩) hba).trans f1
      have hA5 : A < w5.heap.size := by omega
      have hN5 : wr.heap.size < w5.heap.size := by omega
      have hAN : A ≠ wr.heap.size := by omega
      have hAN2 : wr.heap.size ≠ A := by omega
      have HF := hid (same2 (u := .iface 113 (.pointer (some ⟨b, 0, none⟩))) (v := .int .i32 0) hAN r0 r1 HL.out.size (HL.out.trans (hw5.mono HL.out.size)))
      clear hb5 hw5 hh9 hba q0 q1 f0 f1 C20
      go_wp2_with fail
      go_roundg g
      case measure => omega
      case rel => exact ⟨i + 1, by omega, by simp, by simp, HF.out⟩
end Go.Proofs.YtllafdcijpdopaaGreatFmt
