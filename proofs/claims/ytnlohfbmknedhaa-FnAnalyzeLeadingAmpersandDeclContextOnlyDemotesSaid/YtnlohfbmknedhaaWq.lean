/-
  The contract of analyzeLeadingAmpersand over a selector of the law's making. Conditions: the shapes of the lists.
-/
import Derived.Test.YtnlohfbmknedhaaWp
namespace Go.Proofs.Ytnlohfbmknedhaa
open Go.ChangeShapes Go.WideShapes Go.ChangeAt Go.RowKit

def ana (d : Nat → Cp) (n : Nat) (decl : Bool) : Int :=
  if 1 < n ∧ sg (d 0) = true then (if (d 1).b = 0 ∧ anyU d (n - 1) = true then 0 else if (d 1).b ≠ 0 ∨ (d 1).ty = none ∨ decl = false then 1 else 2) else 0

set_option maxRecDepth 20000 in
set_option maxHeartbeats 4000000 in
theorem ana42 (B n : Nat) (d : Nat → Cp) (g : Bool) (w : World) (hn : n ≤ 4096) (h : Cps B n d w) :
    Calls Try.prog 42 #[.agg #[.slice (some ⟨B, 0, none⟩) n n], .bool g] w fun e w' => e = .returned (.int .u8 (ana d n g)) ∧ Below w.heap.size w w' := by
  have hBl := h.size
  by_cases h1 : 1 < n
  case neg =>
    have HR := Lib.hid (show ana d n g = 0 by simp [ana, h1])
    clear h
    go_enter Try.func42, Try.ntmps42
    go_wp2_with fail
    go_ret
    exact ⟨by rw [HR.out]; rfl, (Below.refl _ _).alloc (Nat.le_refl _) _⟩
  have H := Lib.hid h
  have p0 : w.cell? ⟨B, 0, none⟩ = some (.pointer (d 0).ty) := h.c 0 0 (by omega) (by omega)
  have p1 : w.cell? ⟨B, 1, none⟩ = some (.slice (d 0).sa (d 0).sn (d 0).sn) := h.c 0 1 (by omega) (by omega)
  have p2 : w.cell? ⟨B, 2, none⟩ = some (.slice (d 0).na (d 0).nn (d 0).nn) := h.c 0 2 (by omega) (by omega)
  have p3 : w.cell? ⟨B, 3, none⟩ = some (.int .i32 0) := h.c 0 3 (by omega) (by omega)
  have p4 : w.cell? ⟨B, 4, none⟩ = some (.int .u8 (d 0).b) := h.c 0 4 (by omega) (by omega)
  have p5 : w.cell? ⟨B, 5, none⟩ = some (.bool false) := h.c 0 5 (by omega) (by omega)
  obtain ⟨l0, l1⟩ := h.le 0 (by omega)
  clear h
  go_enter Try.func42, Try.ntmps42
  go_wp2_with fail
  with_reducible refine (single47 (d 0) _ l0 l1).mono ?_
  rintro e w2 ⟨rfl, hb⟩
  have hb1 : Below w.heap.size w ((w.alloc (.cells #[.slice (some ⟨B, 0, none⟩) n n] 51)).alloc (.cells #[.pointer (d 0).ty, .slice (d 0).sa (d 0).sn (d 0).sn, .slice (d 0).na (d 0).nn (d 0).nn, .int .i32 0, .int .u8 (d 0).b, .bool false] 62)) := ((Below.refl _ _).alloc (Nat.le_refl _) _).alloc (by simp [go_sem]) _
  have hb2 := hb1.trans (hb.mono hb1.size)
  have hz2 : w.heap.size + 1 + 1 ≤ w2.heap.size := by have := hb.size; simpa [go_sem] using this
  have u0 : w2.cell? ⟨w.heap.size, 0, none⟩ = some (.slice (some ⟨B, 0, none⟩) n n) := by rw [hb.cell (p := ⟨w.heap.size, 0, none⟩) (by simp [go_sem])]; simp [go_sem]
  have H2 := H.out.call hb2
  have HB2 := Lib.hid hb2
  have HH2 := Lib.hid H2
  have q0 : w2.cell? ⟨B, 6, none⟩ = some (.pointer (d 1).ty) := H2.c 1 0 (by omega) (by omega)
  have q1 : w2.cell? ⟨B, 7, none⟩ = some (.slice (d 1).sa (d 1).sn (d 1).sn) := H2.c 1 1 (by omega) (by omega)
  have q2 : w2.cell? ⟨B, 8, none⟩ = some (.slice (d 1).na (d 1).nn (d 1).nn) := H2.c 1 2 (by omega) (by omega)
  have q3 : w2.cell? ⟨B, 9, none⟩ = some (.int .i32 0) := H2.c 1 3 (by omega) (by omega)
  have q4 : w2.cell? ⟨B, 10, none⟩ = some (.int .u8 (d 1).b) := H2.c 1 4 (by omega) (by omega)
  have q5 : w2.cell? ⟨B, 11, none⟩ = some (.bool false) := H2.c 1 5 (by omega) (by omega)
  have hw0 : w.heap.size < w2.heap.size := by omega
  clear hb hb1 hb2 H2 p0 p1 p2 p3 p4 p5 H l0 l1
  cases hs : sg (d 0)
  · have HR := Lib.hid (show ana d n g = 0 by simp [ana, hs])
    clear hs
    go_wp2_with fail
    go_ret
    exact ⟨by rw [HR.out]; rfl, HB2.out⟩
  have hn1 : ¬ n = 1 := by omega
  have HS := Lib.hid hs
  clear hs
  have hBl2 : B < w2.heap.size := by omega
  by_cases hb0 : (d 1).b = 0
  · rw [hb0] at q4
    go_wp2_with fail
    have hbz : Below w2.heap.size w2 ((w2.alloc (.cells #[.pointer (d 1).ty, .slice (d 1).sa (d 1).sn (d 1).sn, .slice (d 1).na (d 1).nn (d 1).nn, .int .i32 0, .int .u8 0, .bool false] 62)).alloc (.cells #[.slice (some ⟨B, 6, none⟩) (n - 1) (n - 1)] 51)) := ((Below.refl _ _).alloc (Nat.le_refl _) _).alloc (by simp [go_sem]) _
    with_reducible refine (nesting48 B n d _ hn (by omega) (HH2.out.call hbz)).mono ?_
    rintro e w3 ⟨rfl, hb3⟩
    have hb4 := hbz.trans (hb3.mono hbz.size)
    have HB3 := Lib.hid (HB2.out.trans (hb4.mono HB2.out.size))
    have t0 : w3.cell? ⟨w2.heap.size, 0, none⟩ = some (.pointer (d 1).ty) := by rw [hb3.cell (p := ⟨w2.heap.size, 0, none⟩) (by simp [go_sem])]; simp [go_sem]
    have t4 : w3.cell? ⟨w2.heap.size, 4, none⟩ = some (.int .u8 0) := by rw [hb3.cell (p := ⟨w2.heap.size, 4, none⟩) (by simp [go_sem])]; simp [go_sem]
    clear hb3 hb4 hbz q0 q1 q2 q3 q4 q5 u0
    cases hA : anyU d (n - 1)
    · cases hT : (d 1).ty with
      | none =>
        have HR := Lib.hid (show ana d n g = 1 by simp [ana, h1, HS.out, hA, hT])
        rw [hT] at t0
        clear hA hT hb0
        go_wp2_with fail
        go_ret
        exact ⟨by rw [HR.out]; rfl, HB3.out⟩
      | some ad =>
        rw [hT] at t0
        cases g
        · have HR := Lib.hid (show ana d n false = 1 by simp [ana, h1, HS.out, hA])
          clear hA hT hb0
          go_wp2_with fail
          go_ret
          exact ⟨by rw [HR.out]; rfl, HB3.out⟩
        · have HR := Lib.hid (show ana d n true = 2 by simp [ana, h1, HS.out, hA, hT, hb0])
          clear hA hT hb0
          go_wp2_with fail
          go_ret
          exact ⟨by rw [HR.out]; rfl, HB3.out⟩
    · have HR := Lib.hid (show ana d n g = 0 by simp [ana, hb0, hA])
      clear hA hb0
      go_wp2_with fail
      go_ret
      exact ⟨by rw [HR.out]; rfl, HB3.out⟩
  · have HR := Lib.hid (show ana d n g = 1 by simp [ana, h1, HS.out, hb0])
    have hb0' : ((d 1).b == 0) = false := by simpa using hb0
    generalize d 1 = D at *
    go_wp2_with fail
    go_ret
    exact ⟨by rw [HR.out]; rfl, (HB2.out.alloc HB2.out.size _).alloc (by simp [go_sem]; have := HB2.out.size; omega) _⟩

set_option maxRecDepth 20000 in
theorem zana28 (B n : Nat) (d : Nat → Cp) (g : Bool) (w : World) (hn : n ≤ 4096) (h : Cps B n d w) :
    Calls Try.prog 28 #[.agg #[.slice (some ⟨B, 0, none⟩) n n], .bool g] w fun e w' => e = .returned (.int .u8 (ana d n g)) ∧ Below w.heap.size w w' := by
  have H := Lib.hid (h.call ((Below.refl _ _).alloc (Nat.le_refl _) (.cells #[.slice (some ⟨B, 0, none⟩) n n] 51)))
  clear h
  go_enter Try.func28, Try.ntmps28
  go_wp2_with fail
  with_reducible refine (ana42 B n d g _ hn H.out).mono ?_
  rintro e w2 ⟨rfl, hb⟩
  have HB := Lib.hid (((Below.refl w.heap.size w).alloc (Nat.le_refl _) (.cells #[.slice (some ⟨B, 0, none⟩) n n] 51)).trans (hb.mono (by simp [go_sem])))
  clear hb
  go_wp2_with fail
  go_ret
  exact ⟨rfl, HB.out⟩
end Go.Proofs.Ytnlohfbmknedhaa
