/-
  The contract of compactTokenQuad. Condition: tokens without children.
-/
import Derived.Test.YtecdhjhobjagkaaWa
namespace Go.Proofs.Ytecdhjhobjagkaa
open Go.ChangeShapes Go.WideShapes Go.ChangeAt Go.RowKit

def wsv (m : Bool) (k n : Nat) : Int := if (m = false ∨ 0 < k) then (if k + 1 < n then 3 else 1) else (if k + 1 < n then 2 else 0)
def wsd (m : Bool) (n k : Nat) (x : Nat → Tok) (j : Nat) : Tok := if j < k then ⟨(x j).t, (x j).s, (x j).p, (x j).k, wsv m j n⟩ else x j
theorem wsd_zero (m : Bool) (n : Nat) (x : Nat → Tok) : wsd m n 0 x = x := by funext j; simp [wsd]
structure LoopW (B : Nat) (m : Bool) (n : Nat) (x : Nat → Tok) (w0 : World) (i : Value) (w : World) : Prop where
  ex : ∃ k : Nat, k ≤ n ∧ i = .int .i64 k ∧ Hold B 4 (wsd m n k x) w0 w
theorem Hold.ws {B : Nat} {m : Bool} {n k : Nat} {x : Nat → Tok} {w0 w : World} (h : Hold B 4 (wsd m n k x) w0 w) (hk : k < 4) (hB : w0.heap.size ≤ B) : Hold B 4 (wsd m n (k + 1) x) w0 (w.setCell ⟨B, k * 7 + 6, none⟩ (.int .u8 (wsv m k n))) := by
  refine ⟨⟨by simpa [go_sem] using h.toks.size, fun i o hi ho => ?_, fun o => ?_⟩, h.below.setCell hB _, by simpa [go_sem] using h.size⟩
  · by_cases e : i = k ∧ o = 6
    · obtain ⟨rfl, rfl⟩ := e
      have := h.toks.c i 6 hi ho
      rw [World.cell?_setCell_same _ _ _ this]
      simp [wsd, Tok.at]
    · rw [World.cell?_setCell_other _ _ _ _ (by simp <;> omega), h.toks.c i o hi ho]
      by_cases e1 : i < k
      · have e2 : i < k + 1 := by omega
        simp [wsd, e1, e2]
      · by_cases e3 : i = k
        · subst e3
          have e4 : o ≠ 6 := fun q => e ⟨rfl, q⟩
          have e5 : o < 6 := by omega
          have e6 : o = 0 ∨ o = 1 ∨ o = 2 ∨ o = 3 ∨ o = 4 ∨ o = 5 := by omega
          rcases e6 with rfl | rfl | rfl | rfl | rfl | rfl <;> simp [wsd, Tok.at]
        · have e2 : ¬ i < k + 1 := by omega
          simp [wsd, e1, e2]
  · rw [World.frozen?_setCell]; exact h.toks.z o

def qn (x0 x1 x2 x3 : Tok) : Nat := if teq x3 x1 then (if teq x2 x0 then (if teq x1 x0 then 1 else 2) else 3) else 4

/-- what compactTokenQuad gives -/
structure Cq (x0 x1 x2 x3 : Tok) (m : Bool) (w : World) (e : Ending) (w' : World) : Prop where
  e : e = .returned (.slice (some ⟨w.heap.size + 4, 0, none⟩) (qn x0 x1 x2 x3) 4)
  h : Hold (w.heap.size + 4) 4 (wsd m (qn x0 x1 x2 x3) (qn x0 x1 x2 x3) (four x0 x1 x2 x3)) w w'

set_option maxRecDepth 20000 in
set_option maxHeartbeats 4000000 in
theorem compact28 (x0 x1 x2 x3 : Tok) (m : Bool) (w : World) :
    Calls Try.prog 28 #[x0.v, x1.v, x2.v, x3.v, .bool m] w (Cq x0 x1 x2 x3 m w) := by
  have HH := Lib.hid (Hold.mk (toks_five x0 x1 x2 x3 w) (below_five x0 x1 x2 x3 w) (below_five x0 x1 x2 x3 w).size)
  simp only [Tok.v]
  cases h31 : teq x3 x1
  · go_enter Try.func28, Try.ntmps28
    go_wp2_with fail
    have hS : (fun w' => (w'.cell? ⟨w.heap.size + 4, 21, none⟩ = some (.pointer none) ∧ w'.cell? ⟨w.heap.size + 4, 22, none⟩ = some (.string x3.t) ∧ w'.cell? ⟨w.heap.size + 4, 23, none⟩ = some (.int .i32 x3.s) ∧ w'.cell? ⟨w.heap.size + 4, 24, none⟩ = some (.int .u32 x3.p) ∧ w'.cell? ⟨w.heap.size + 4, 25, none⟩ = some (.int .u16 0) ∧ w'.cell? ⟨w.heap.size + 4, 26, none⟩ = some (.int .u8 x3.k) ∧ w'.cell? ⟨w.heap.size + 4, 27, none⟩ = some (.int .u8 x3.ws)) ∧ (w'.cell? ⟨w.heap.size + 4, 7, none⟩ = some (.pointer none) ∧ w'.cell? ⟨w.heap.size + 4, 8, none⟩ = some (.string x1.t) ∧ w'.cell? ⟨w.heap.size + 4, 9, none⟩ = some (.int .i32 x1.s) ∧ w'.cell? ⟨w.heap.size + 4, 10, none⟩ = some (.int .u32 x1.p) ∧ w'.cell? ⟨w.heap.size + 4, 11, none⟩ = some (.int .u16 0) ∧ w'.cell? ⟨w.heap.size + 4, 12, none⟩ = some (.int .u8 x1.k) ∧ w'.cell? ⟨w.heap.size + 4, 13, none⟩ = some (.int .u8 x1.ws)) ∧ Hold (w.heap.size + 4) 4 (four x0 x1 x2 x3) w w') (W5 x0 x1 x2 x3 w).drew := (HH.out.call (Below.refl _ _).drew).cmp 3 1 (by omega) (by omega)
    have HS := Lib.hid hS
    have hK : ∀ w' w'', (fun w' => (w'.cell? ⟨w.heap.size + 4, 21, none⟩ = some (.pointer none) ∧ w'.cell? ⟨w.heap.size + 4, 22, none⟩ = some (.string x3.t) ∧ w'.cell? ⟨w.heap.size + 4, 23, none⟩ = some (.int .i32 x3.s) ∧ w'.cell? ⟨w.heap.size + 4, 24, none⟩ = some (.int .u32 x3.p) ∧ w'.cell? ⟨w.heap.size + 4, 25, none⟩ = some (.int .u16 0) ∧ w'.cell? ⟨w.heap.size + 4, 26, none⟩ = some (.int .u8 x3.k) ∧ w'.cell? ⟨w.heap.size + 4, 27, none⟩ = some (.int .u8 x3.ws)) ∧ (w'.cell? ⟨w.heap.size + 4, 7, none⟩ = some (.pointer none) ∧ w'.cell? ⟨w.heap.size + 4, 8, none⟩ = some (.string x1.t) ∧ w'.cell? ⟨w.heap.size + 4, 9, none⟩ = some (.int .i32 x1.s) ∧ w'.cell? ⟨w.heap.size + 4, 10, none⟩ = some (.int .u32 x1.p) ∧ w'.cell? ⟨w.heap.size + 4, 11, none⟩ = some (.int .u16 0) ∧ w'.cell? ⟨w.heap.size + 4, 12, none⟩ = some (.int .u8 x1.k) ∧ w'.cell? ⟨w.heap.size + 4, 13, none⟩ = some (.int .u8 x1.ws)) ∧ Hold (w.heap.size + 4) 4 (four x0 x1 x2 x3) w w') w' → Below w'.heap.size w' w'' → (fun w' => (w'.cell? ⟨w.heap.size + 4, 21, none⟩ = some (.pointer none) ∧ w'.cell? ⟨w.heap.size + 4, 22, none⟩ = some (.string x3.t) ∧ w'.cell? ⟨w.heap.size + 4, 23, none⟩ = some (.int .i32 x3.s) ∧ w'.cell? ⟨w.heap.size + 4, 24, none⟩ = some (.int .u32 x3.p) ∧ w'.cell? ⟨w.heap.size + 4, 25, none⟩ = some (.int .u16 0) ∧ w'.cell? ⟨w.heap.size + 4, 26, none⟩ = some (.int .u8 x3.k) ∧ w'.cell? ⟨w.heap.size + 4, 27, none⟩ = some (.int .u8 x3.ws)) ∧ (w'.cell? ⟨w.heap.size + 4, 7, none⟩ = some (.pointer none) ∧ w'.cell? ⟨w.heap.size + 4, 8, none⟩ = some (.string x1.t) ∧ w'.cell? ⟨w.heap.size + 4, 9, none⟩ = some (.int .i32 x1.s) ∧ w'.cell? ⟨w.heap.size + 4, 10, none⟩ = some (.int .u32 x1.p) ∧ w'.cell? ⟨w.heap.size + 4, 11, none⟩ = some (.int .u16 0) ∧ w'.cell? ⟨w.heap.size + 4, 12, none⟩ = some (.int .u8 x1.k) ∧ w'.cell? ⟨w.heap.size + 4, 13, none⟩ = some (.int .u8 x1.ws)) ∧ Hold (w.heap.size + 4) 4 (four x0 x1 x2 x3) w w') w'' := fun w' w'' h hb => CmpS.call (n := 4) (i := 3) (j := 1) (x := (four x0 x1 x2 x3)) h (by omega) (by omega) hb
    have HK := Lib.hid hK
    clear hS hK HH
    go_region_held3 (fun w' => (w'.cell? ⟨w.heap.size + 4, 21, none⟩ = some (.pointer none) ∧ w'.cell? ⟨w.heap.size + 4, 22, none⟩ = some (.string x3.t) ∧ w'.cell? ⟨w.heap.size + 4, 23, none⟩ = some (.int .i32 x3.s) ∧ w'.cell? ⟨w.heap.size + 4, 24, none⟩ = some (.int .u32 x3.p) ∧ w'.cell? ⟨w.heap.size + 4, 25, none⟩ = some (.int .u16 0) ∧ w'.cell? ⟨w.heap.size + 4, 26, none⟩ = some (.int .u8 x3.k) ∧ w'.cell? ⟨w.heap.size + 4, 27, none⟩ = some (.int .u8 x3.ws)) ∧ (w'.cell? ⟨w.heap.size + 4, 7, none⟩ = some (.pointer none) ∧ w'.cell? ⟨w.heap.size + 4, 8, none⟩ = some (.string x1.t) ∧ w'.cell? ⟨w.heap.size + 4, 9, none⟩ = some (.int .i32 x1.s) ∧ w'.cell? ⟨w.heap.size + 4, 10, none⟩ = some (.int .u32 x1.p) ∧ w'.cell? ⟨w.heap.size + 4, 11, none⟩ = some (.int .u16 0) ∧ w'.cell? ⟨w.heap.size + 4, 12, none⟩ = some (.int .u8 x1.k) ∧ w'.cell? ⟨w.heap.size + 4, 13, none⟩ = some (.int .u8 x1.ws)) ∧ Hold (w.heap.size + 4) 4 (four x0 x1 x2 x3) w w')
      (first | exact HS.out | exact HK.out _ _ (by assumption) hb)
      (first | (go_at_call 17; refine (eq17 x3 x1 _).mono ?_; rw [h31]; rintro e w1 ⟨rfl, hb⟩))
    rename_i hH
    have HH := Lib.hid hH.2.2
    clear HS HK hH hb

    go_wp2_with fail
    have HL := Lib.hid (show LoopW (w.heap.size + 4) m 4 (four x0 x1 x2 x3) w (.int .i64 (0 : Nat)) w1 from ⟨⟨0, by omega, rfl, by rw [wsd_zero]; exact HH.out⟩⟩)
    clear HH
    go_loopw [48, 12, 13] (fun i _ _ wr => LoopW (w.heap.size + 4) m 4 (four x0 x1 x2 x3) w i wr) (fun i _ _ _ => 4 - (intOf i).toNat)
    case atStart => exact HL.out
    case round =>
      obtain ⟨k, hk, rfl, hR⟩ := hrel.ex
      clear hrel HL
      by_cases hlt : k < 4
      · have cc := hR.toks.c k 6 (by omega) (by omega)
        have zz := hR.toks.z (k * 7 + 6)
        have HN := Lib.hid (hR.ws (by omega : k < 4) (by omega))
        clear hR
        generalize wsd m 4 k (four x0 x1 x2 x3) k = Y at *
        cases m
        all_goals
          by_cases h0 : 0 < k
          all_goals
            by_cases h1 : k + 1 < 4
            all_goals
              first
              | (exfalso; omega)
              | (
                go_wp2_with fail
                go_roundw
                case rel => exact ⟨k + 1, by omega, by go_num, by have q := HN.out; simp only [wsv, h0, h1, if_true, if_false, or_true, true_or, or_false, false_or, Bool.true_eq_false, Bool.false_eq_true] at q; exact q⟩
                case measure => first | (simp [intOf]; done) | (simp [intOf]; omega)
                )
      · obtain rfl : k = 4 := by omega
        have HN := Lib.hid hR
        clear hR
        go_wp2_with fail
        go_ret
        exact ⟨by rw [show qn x0 x1 x2 x3 = 4 by simp [qn, *]]; rfl, by rw [show qn x0 x1 x2 x3 = 4 by simp [qn, *]]; exact HN.out⟩

  · cases h20 : teq x2 x0
    · go_enter Try.func28, Try.ntmps28
      go_wp2_with fail
      have hS : (fun w' => (w'.cell? ⟨w.heap.size + 4, 21, none⟩ = some (.pointer none) ∧ w'.cell? ⟨w.heap.size + 4, 22, none⟩ = some (.string x3.t) ∧ w'.cell? ⟨w.heap.size + 4, 23, none⟩ = some (.int .i32 x3.s) ∧ w'.cell? ⟨w.heap.size + 4, 24, none⟩ = some (.int .u32 x3.p) ∧ w'.cell? ⟨w.heap.size + 4, 25, none⟩ = some (.int .u16 0) ∧ w'.cell? ⟨w.heap.size + 4, 26, none⟩ = some (.int .u8 x3.k) ∧ w'.cell? ⟨w.heap.size + 4, 27, none⟩ = some (.int .u8 x3.ws)) ∧ (w'.cell? ⟨w.heap.size + 4, 7, none⟩ = some (.pointer none) ∧ w'.cell? ⟨w.heap.size + 4, 8, none⟩ = some (.string x1.t) ∧ w'.cell? ⟨w.heap.size + 4, 9, none⟩ = some (.int .i32 x1.s) ∧ w'.cell? ⟨w.heap.size + 4, 10, none⟩ = some (.int .u32 x1.p) ∧ w'.cell? ⟨w.heap.size + 4, 11, none⟩ = some (.int .u16 0) ∧ w'.cell? ⟨w.heap.size + 4, 12, none⟩ = some (.int .u8 x1.k) ∧ w'.cell? ⟨w.heap.size + 4, 13, none⟩ = some (.int .u8 x1.ws)) ∧ Hold (w.heap.size + 4) 4 (four x0 x1 x2 x3) w w') (W5 x0 x1 x2 x3 w).drew := (HH.out.call (Below.refl _ _).drew).cmp 3 1 (by omega) (by omega)
      have HS := Lib.hid hS
      have hK : ∀ w' w'', (fun w' => (w'.cell? ⟨w.heap.size + 4, 21, none⟩ = some (.pointer none) ∧ w'.cell? ⟨w.heap.size + 4, 22, none⟩ = some (.string x3.t) ∧ w'.cell? ⟨w.heap.size + 4, 23, none⟩ = some (.int .i32 x3.s) ∧ w'.cell? ⟨w.heap.size + 4, 24, none⟩ = some (.int .u32 x3.p) ∧ w'.cell? ⟨w.heap.size + 4, 25, none⟩ = some (.int .u16 0) ∧ w'.cell? ⟨w.heap.size + 4, 26, none⟩ = some (.int .u8 x3.k) ∧ w'.cell? ⟨w.heap.size + 4, 27, none⟩ = some (.int .u8 x3.ws)) ∧ (w'.cell? ⟨w.heap.size + 4, 7, none⟩ = some (.pointer none) ∧ w'.cell? ⟨w.heap.size + 4, 8, none⟩ = some (.string x1.t) ∧ w'.cell? ⟨w.heap.size + 4, 9, none⟩ = some (.int .i32 x1.s) ∧ w'.cell? ⟨w.heap.size + 4, 10, none⟩ = some (.int .u32 x1.p) ∧ w'.cell? ⟨w.heap.size + 4, 11, none⟩ = some (.int .u16 0) ∧ w'.cell? ⟨w.heap.size + 4, 12, none⟩ = some (.int .u8 x1.k) ∧ w'.cell? ⟨w.heap.size + 4, 13, none⟩ = some (.int .u8 x1.ws)) ∧ Hold (w.heap.size + 4) 4 (four x0 x1 x2 x3) w w') w' → Below w'.heap.size w' w'' → (fun w' => (w'.cell? ⟨w.heap.size + 4, 21, none⟩ = some (.pointer none) ∧ w'.cell? ⟨w.heap.size + 4, 22, none⟩ = some (.string x3.t) ∧ w'.cell? ⟨w.heap.size + 4, 23, none⟩ = some (.int .i32 x3.s) ∧ w'.cell? ⟨w.heap.size + 4, 24, none⟩ = some (.int .u32 x3.p) ∧ w'.cell? ⟨w.heap.size + 4, 25, none⟩ = some (.int .u16 0) ∧ w'.cell? ⟨w.heap.size + 4, 26, none⟩ = some (.int .u8 x3.k) ∧ w'.cell? ⟨w.heap.size + 4, 27, none⟩ = some (.int .u8 x3.ws)) ∧ (w'.cell? ⟨w.heap.size + 4, 7, none⟩ = some (.pointer none) ∧ w'.cell? ⟨w.heap.size + 4, 8, none⟩ = some (.string x1.t) ∧ w'.cell? ⟨w.heap.size + 4, 9, none⟩ = some (.int .i32 x1.s) ∧ w'.cell? ⟨w.heap.size + 4, 10, none⟩ = some (.int .u32 x1.p) ∧ w'.cell? ⟨w.heap.size + 4, 11, none⟩ = some (.int .u16 0) ∧ w'.cell? ⟨w.heap.size + 4, 12, none⟩ = some (.int .u8 x1.k) ∧ w'.cell? ⟨w.heap.size + 4, 13, none⟩ = some (.int .u8 x1.ws)) ∧ Hold (w.heap.size + 4) 4 (four x0 x1 x2 x3) w w') w'' := fun w' w'' h hb => CmpS.call (n := 4) (i := 3) (j := 1) (x := (four x0 x1 x2 x3)) h (by omega) (by omega) hb
      have HK := Lib.hid hK
      clear hS hK HH
      go_region_held3 (fun w' => (w'.cell? ⟨w.heap.size + 4, 21, none⟩ = some (.pointer none) ∧ w'.cell? ⟨w.heap.size + 4, 22, none⟩ = some (.string x3.t) ∧ w'.cell? ⟨w.heap.size + 4, 23, none⟩ = some (.int .i32 x3.s) ∧ w'.cell? ⟨w.heap.size + 4, 24, none⟩ = some (.int .u32 x3.p) ∧ w'.cell? ⟨w.heap.size + 4, 25, none⟩ = some (.int .u16 0) ∧ w'.cell? ⟨w.heap.size + 4, 26, none⟩ = some (.int .u8 x3.k) ∧ w'.cell? ⟨w.heap.size + 4, 27, none⟩ = some (.int .u8 x3.ws)) ∧ (w'.cell? ⟨w.heap.size + 4, 7, none⟩ = some (.pointer none) ∧ w'.cell? ⟨w.heap.size + 4, 8, none⟩ = some (.string x1.t) ∧ w'.cell? ⟨w.heap.size + 4, 9, none⟩ = some (.int .i32 x1.s) ∧ w'.cell? ⟨w.heap.size + 4, 10, none⟩ = some (.int .u32 x1.p) ∧ w'.cell? ⟨w.heap.size + 4, 11, none⟩ = some (.int .u16 0) ∧ w'.cell? ⟨w.heap.size + 4, 12, none⟩ = some (.int .u8 x1.k) ∧ w'.cell? ⟨w.heap.size + 4, 13, none⟩ = some (.int .u8 x1.ws)) ∧ Hold (w.heap.size + 4) 4 (four x0 x1 x2 x3) w w')
        (first | exact HS.out | exact HK.out _ _ (by assumption) hb)
        (first | (go_at_call 17; refine (eq17 x3 x1 _).mono ?_; rw [h31]; rintro e w1 ⟨rfl, hb⟩))
      rename_i hH
      have HH := Lib.hid hH.2.2
      clear HS HK hH hb

      go_wp2_with fail
      have hS : (fun w' => (w'.cell? ⟨w.heap.size + 4, 14, none⟩ = some (.pointer none) ∧ w'.cell? ⟨w.heap.size + 4, 15, none⟩ = some (.string x2.t) ∧ w'.cell? ⟨w.heap.size + 4, 16, none⟩ = some (.int .i32 x2.s) ∧ w'.cell? ⟨w.heap.size + 4, 17, none⟩ = some (.int .u32 x2.p) ∧ w'.cell? ⟨w.heap.size + 4, 18, none⟩ = some (.int .u16 0) ∧ w'.cell? ⟨w.heap.size + 4, 19, none⟩ = some (.int .u8 x2.k) ∧ w'.cell? ⟨w.heap.size + 4, 20, none⟩ = some (.int .u8 x2.ws)) ∧ (w'.cell? ⟨w.heap.size + 4, 0, none⟩ = some (.pointer none) ∧ w'.cell? ⟨w.heap.size + 4, 1, none⟩ = some (.string x0.t) ∧ w'.cell? ⟨w.heap.size + 4, 2, none⟩ = some (.int .i32 x0.s) ∧ w'.cell? ⟨w.heap.size + 4, 3, none⟩ = some (.int .u32 x0.p) ∧ w'.cell? ⟨w.heap.size + 4, 4, none⟩ = some (.int .u16 0) ∧ w'.cell? ⟨w.heap.size + 4, 5, none⟩ = some (.int .u8 x0.k) ∧ w'.cell? ⟨w.heap.size + 4, 6, none⟩ = some (.int .u8 x0.ws)) ∧ Hold (w.heap.size + 4) 4 (four x0 x1 x2 x3) w w') w1.drew := (HH.out.call (Below.refl _ _).drew).cmp 2 0 (by omega) (by omega)
      have HS := Lib.hid hS
      have hK : ∀ w' w'', (fun w' => (w'.cell? ⟨w.heap.size + 4, 14, none⟩ = some (.pointer none) ∧ w'.cell? ⟨w.heap.size + 4, 15, none⟩ = some (.string x2.t) ∧ w'.cell? ⟨w.heap.size + 4, 16, none⟩ = some (.int .i32 x2.s) ∧ w'.cell? ⟨w.heap.size + 4, 17, none⟩ = some (.int .u32 x2.p) ∧ w'.cell? ⟨w.heap.size + 4, 18, none⟩ = some (.int .u16 0) ∧ w'.cell? ⟨w.heap.size + 4, 19, none⟩ = some (.int .u8 x2.k) ∧ w'.cell? ⟨w.heap.size + 4, 20, none⟩ = some (.int .u8 x2.ws)) ∧ (w'.cell? ⟨w.heap.size + 4, 0, none⟩ = some (.pointer none) ∧ w'.cell? ⟨w.heap.size + 4, 1, none⟩ = some (.string x0.t) ∧ w'.cell? ⟨w.heap.size + 4, 2, none⟩ = some (.int .i32 x0.s) ∧ w'.cell? ⟨w.heap.size + 4, 3, none⟩ = some (.int .u32 x0.p) ∧ w'.cell? ⟨w.heap.size + 4, 4, none⟩ = some (.int .u16 0) ∧ w'.cell? ⟨w.heap.size + 4, 5, none⟩ = some (.int .u8 x0.k) ∧ w'.cell? ⟨w.heap.size + 4, 6, none⟩ = some (.int .u8 x0.ws)) ∧ Hold (w.heap.size + 4) 4 (four x0 x1 x2 x3) w w') w' → Below w'.heap.size w' w'' → (fun w' => (w'.cell? ⟨w.heap.size + 4, 14, none⟩ = some (.pointer none) ∧ w'.cell? ⟨w.heap.size + 4, 15, none⟩ = some (.string x2.t) ∧ w'.cell? ⟨w.heap.size + 4, 16, none⟩ = some (.int .i32 x2.s) ∧ w'.cell? ⟨w.heap.size + 4, 17, none⟩ = some (.int .u32 x2.p) ∧ w'.cell? ⟨w.heap.size + 4, 18, none⟩ = some (.int .u16 0) ∧ w'.cell? ⟨w.heap.size + 4, 19, none⟩ = some (.int .u8 x2.k) ∧ w'.cell? ⟨w.heap.size + 4, 20, none⟩ = some (.int .u8 x2.ws)) ∧ (w'.cell? ⟨w.heap.size + 4, 0, none⟩ = some (.pointer none) ∧ w'.cell? ⟨w.heap.size + 4, 1, none⟩ = some (.string x0.t) ∧ w'.cell? ⟨w.heap.size + 4, 2, none⟩ = some (.int .i32 x0.s) ∧ w'.cell? ⟨w.heap.size + 4, 3, none⟩ = some (.int .u32 x0.p) ∧ w'.cell? ⟨w.heap.size + 4, 4, none⟩ = some (.int .u16 0) ∧ w'.cell? ⟨w.heap.size + 4, 5, none⟩ = some (.int .u8 x0.k) ∧ w'.cell? ⟨w.heap.size + 4, 6, none⟩ = some (.int .u8 x0.ws)) ∧ Hold (w.heap.size + 4) 4 (four x0 x1 x2 x3) w w') w'' := fun w' w'' h hb => CmpS.call (n := 4) (i := 2) (j := 0) (x := (four x0 x1 x2 x3)) h (by omega) (by omega) hb
      have HK := Lib.hid hK
      clear hS hK HH
      go_region_held3 (fun w' => (w'.cell? ⟨w.heap.size + 4, 14, none⟩ = some (.pointer none) ∧ w'.cell? ⟨w.heap.size + 4, 15, none⟩ = some (.string x2.t) ∧ w'.cell? ⟨w.heap.size + 4, 16, none⟩ = some (.int .i32 x2.s) ∧ w'.cell? ⟨w.heap.size + 4, 17, none⟩ = some (.int .u32 x2.p) ∧ w'.cell? ⟨w.heap.size + 4, 18, none⟩ = some (.int .u16 0) ∧ w'.cell? ⟨w.heap.size + 4, 19, none⟩ = some (.int .u8 x2.k) ∧ w'.cell? ⟨w.heap.size + 4, 20, none⟩ = some (.int .u8 x2.ws)) ∧ (w'.cell? ⟨w.heap.size + 4, 0, none⟩ = some (.pointer none) ∧ w'.cell? ⟨w.heap.size + 4, 1, none⟩ = some (.string x0.t) ∧ w'.cell? ⟨w.heap.size + 4, 2, none⟩ = some (.int .i32 x0.s) ∧ w'.cell? ⟨w.heap.size + 4, 3, none⟩ = some (.int .u32 x0.p) ∧ w'.cell? ⟨w.heap.size + 4, 4, none⟩ = some (.int .u16 0) ∧ w'.cell? ⟨w.heap.size + 4, 5, none⟩ = some (.int .u8 x0.k) ∧ w'.cell? ⟨w.heap.size + 4, 6, none⟩ = some (.int .u8 x0.ws)) ∧ Hold (w.heap.size + 4) 4 (four x0 x1 x2 x3) w w')
        (first | exact HS.out | exact HK.out _ _ (by assumption) hb)
        (first | (go_at_call 17; refine (eq17 x2 x0 _).mono ?_; rw [h20]; rintro e w2 ⟨rfl, hb⟩))
      rename_i hH
      have HH := Lib.hid hH.2.2
      clear HS HK hH hb

      go_wp2_with fail
      have HL := Lib.hid (show LoopW (w.heap.size + 4) m 3 (four x0 x1 x2 x3) w (.int .i64 (0 : Nat)) w2 from ⟨⟨0, by omega, rfl, by rw [wsd_zero]; exact HH.out⟩⟩)
      clear HH
      go_loopw [48, 12, 13] (fun i _ _ wr => LoopW (w.heap.size + 4) m 3 (four x0 x1 x2 x3) w i wr) (fun i _ _ _ => 3 - (intOf i).toNat)
      case atStart => exact HL.out
      case round =>
        obtain ⟨k, hk, rfl, hR⟩ := hrel.ex
        clear hrel HL
        by_cases hlt : k < 3
        · have cc := hR.toks.c k 6 (by omega) (by omega)
          have zz := hR.toks.z (k * 7 + 6)
          have HN := Lib.hid (hR.ws (by omega : k < 4) (by omega))
          clear hR
          generalize wsd m 3 k (four x0 x1 x2 x3) k = Y at *
          cases m
          all_goals
            by_cases h0 : 0 < k
            all_goals
              by_cases h1 : k + 1 < 3
              all_goals
                first
                | (exfalso; omega)
                | (
                  go_wp2_with fail
                  go_roundw
                  case rel => exact ⟨k + 1, by omega, by go_num, by have q := HN.out; simp only [wsv, h0, h1, if_true, if_false, or_true, true_or, or_false, false_or, Bool.true_eq_false, Bool.false_eq_true] at q; exact q⟩
                  case measure => first | (simp [intOf]; done) | (simp [intOf]; omega)
                  )
        · obtain rfl : k = 3 := by omega
          have HN := Lib.hid hR
          clear hR
          go_wp2_with fail
          go_ret
          exact ⟨by rw [show qn x0 x1 x2 x3 = 3 by simp [qn, *]]; rfl, by rw [show qn x0 x1 x2 x3 = 3 by simp [qn, *]]; exact HN.out⟩

    · cases h10 : teq x1 x0
      · go_enter Try.func28, Try.ntmps28
        go_wp2_with fail
        have hS : (fun w' => (w'.cell? ⟨w.heap.size + 4, 21, none⟩ = some (.pointer none) ∧ w'.cell? ⟨w.heap.size + 4, 22, none⟩ = some (.string x3.t) ∧ w'.cell? ⟨w.heap.size + 4, 23, none⟩ = some (.int .i32 x3.s) ∧ w'.cell? ⟨w.heap.size + 4, 24, none⟩ = some (.int .u32 x3.p) ∧ w'.cell? ⟨w.heap.size + 4, 25, none⟩ = some (.int .u16 0) ∧ w'.cell? ⟨w.heap.size + 4, 26, none⟩ = some (.int .u8 x3.k) ∧ w'.cell? ⟨w.heap.size + 4, 27, none⟩ = some (.int .u8 x3.ws)) ∧ (w'.cell? ⟨w.heap.size + 4, 7, none⟩ = some (.pointer none) ∧ w'.cell? ⟨w.heap.size + 4, 8, none⟩ = some (.string x1.t) ∧ w'.cell? ⟨w.heap.size + 4, 9, none⟩ = some (.int .i32 x1.s) ∧ w'.cell? ⟨w.heap.size + 4, 10, none⟩ = some (.int .u32 x1.p) ∧ w'.cell? ⟨w.heap.size + 4, 11, none⟩ = some (.int .u16 0) ∧ w'.cell? ⟨w.heap.size + 4, 12, none⟩ = some (.int .u8 x1.k) ∧ w'.cell? ⟨w.heap.size + 4, 13, none⟩ = some (.int .u8 x1.ws)) ∧ Hold (w.heap.size + 4) 4 (four x0 x1 x2 x3) w w') (W5 x0 x1 x2 x3 w).drew := (HH.out.call (Below.refl _ _).drew).cmp 3 1 (by omega) (by omega)
        have HS := Lib.hid hS
        have hK : ∀ w' w'', (fun w' => (w'.cell? ⟨w.heap.size + 4, 21, none⟩ = some (.pointer none) ∧ w'.cell? ⟨w.heap.size + 4, 22, none⟩ = some (.string x3.t) ∧ w'.cell? ⟨w.heap.size + 4, 23, none⟩ = some (.int .i32 x3.s) ∧ w'.cell? ⟨w.heap.size + 4, 24, none⟩ = some (.int .u32 x3.p) ∧ w'.cell? ⟨w.heap.size + 4, 25, none⟩ = some (.int .u16 0) ∧ w'.cell? ⟨w.heap.size + 4, 26, none⟩ = some (.int .u8 x3.k) ∧ w'.cell? ⟨w.heap.size + 4, 27, none⟩ = some (.int .u8 x3.ws)) ∧ (w'.cell? ⟨w.heap.size + 4, 7, none⟩ = some (.pointer none) ∧ w'.cell? ⟨w.heap.size + 4, 8, none⟩ = some (.string x1.t) ∧ w'.cell? ⟨w.heap.size + 4, 9, none⟩ = some (.int .i32 x1.s) ∧ w'.cell? ⟨w.heap.size + 4, 10, none⟩ = some (.int .u32 x1.p) ∧ w'.cell? ⟨w.heap.size + 4, 11, none⟩ = some (.int .u16 0) ∧ w'.cell? ⟨w.heap.size + 4, 12, none⟩ = some (.int .u8 x1.k) ∧ w'.cell? ⟨w.heap.size + 4, 13, none⟩ = some (.int .u8 x1.ws)) ∧ Hold (w.heap.size + 4) 4 (four x0 x1 x2 x3) w w') w' → Below w'.heap.size w' w'' → (fun w' => (w'.cell? ⟨w.heap.size + 4, 21, none⟩ = some (.pointer none) ∧ w'.cell? ⟨w.heap.size + 4, 22, none⟩ = some (.string x3.t) ∧ w'.cell? ⟨w.heap.size + 4, 23, none⟩ = some (.int .i32 x3.s) ∧ w'.cell? ⟨w.heap.size + 4, 24, none⟩ = some (.int .u32 x3.p) ∧ w'.cell? ⟨w.heap.size + 4, 25, none⟩ = some (.int .u16 0) ∧ w'.cell? ⟨w.heap.size + 4, 26, none⟩ = some (.int .u8 x3.k) ∧ w'.cell? ⟨w.heap.size + 4, 27, none⟩ = some (.int .u8 x3.ws)) ∧ (w'.cell? ⟨w.heap.size + 4, 7, none⟩ = some (.pointer none) ∧ w'.cell? ⟨w.heap.size + 4, 8, none⟩ = some (.string x1.t) ∧ w'.cell? ⟨w.heap.size + 4, 9, none⟩ = some (.int .i32 x1.s) ∧ w'.cell? ⟨w.heap.size + 4, 10, none⟩ = some (.int .u32 x1.p) ∧ w'.cell? ⟨w.heap.size + 4, 11, none⟩ = some (.int .u16 0) ∧ w'.cell? ⟨w.heap.size + 4, 12, none⟩ = some (.int .u8 x1.k) ∧ w'.cell? ⟨w.heap.size + 4, 13, none⟩ = some (.int .u8 x1.ws)) ∧ Hold (w.heap.size + 4) 4 (four x0 x1 x2 x3) w w') w'' := fun w' w'' h hb => CmpS.call (n := 4) (i := 3) (j := 1) (x := (four x0 x1 x2 x3)) h (by omega) (by omega) hb
        have HK := Lib.hid hK
        clear hS hK HH
        go_region_held3 (fun w' => (w'.cell? ⟨w.heap.size + 4, 21, none⟩ = some (.pointer none) ∧ w'.cell? ⟨w.heap.size + 4, 22, none⟩ = some (.string x3.t) ∧ w'.cell? ⟨w.heap.size + 4, 23, none⟩ = some (.int .i32 x3.s) ∧ w'.cell? ⟨w.heap.size + 4, 24, none⟩ = some (.int .u32 x3.p) ∧ w'.cell? ⟨w.heap.size + 4, 25, none⟩ = some (.int .u16 0) ∧ w'.cell? ⟨w.heap.size + 4, 26, none⟩ = some (.int .u8 x3.k) ∧ w'.cell? ⟨w.heap.size + 4, 27, none⟩ = some (.int .u8 x3.ws)) ∧ (w'.cell? ⟨w.heap.size + 4, 7, none⟩ = some (.pointer none) ∧ w'.cell? ⟨w.heap.size + 4, 8, none⟩ = some (.string x1.t) ∧ w'.cell? ⟨w.heap.size + 4, 9, none⟩ = some (.int .i32 x1.s) ∧ w'.cell? ⟨w.heap.size + 4, 10, none⟩ = some (.int .u32 x1.p) ∧ w'.cell? ⟨w.heap.size + 4, 11, none⟩ = some (.int .u16 0) ∧ w'.cell? ⟨w.heap.size + 4, 12, none⟩ = some (.int .u8 x1.k) ∧ w'.cell? ⟨w.heap.size + 4, 13, none⟩ = some (.int .u8 x1.ws)) ∧ Hold (w.heap.size + 4) 4 (four x0 x1 x2 x3) w w')
          (first | exact HS.out | exact HK.out _ _ (by assumption) hb)
          (first | (go_at_call 17; refine (eq17 x3 x1 _).mono ?_; rw [h31]; rintro e w1 ⟨rfl, hb⟩))
        rename_i hH
        have HH := Lib.hid hH.2.2
        clear HS HK hH hb

        go_wp2_with fail
        have hS : (fun w' => (w'.cell? ⟨w.heap.size + 4, 14, none⟩ = some (.pointer none) ∧ w'.cell? ⟨w.heap.size + 4, 15, none⟩ = some (.string x2.t) ∧ w'.cell? ⟨w.heap.size + 4, 16, none⟩ = some (.int .i32 x2.s) ∧ w'.cell? ⟨w.heap.size + 4, 17, none⟩ = some (.int .u32 x2.p) ∧ w'.cell? ⟨w.heap.size + 4, 18, none⟩ = some (.int .u16 0) ∧ w'.cell? ⟨w.heap.size + 4, 19, none⟩ = some (.int .u8 x2.k) ∧ w'.cell? ⟨w.heap.size + 4, 20, none⟩ = some (.int .u8 x2.ws)) ∧ (w'.cell? ⟨w.heap.size + 4, 0, none⟩ = some (.pointer none) ∧ w'.cell? ⟨w.heap.size + 4, 1, none⟩ = some (.string x0.t) ∧ w'.cell? ⟨w.heap.size + 4, 2, none⟩ = some (.int .i32 x0.s) ∧ w'.cell? ⟨w.heap.size + 4, 3, none⟩ = some (.int .u32 x0.p) ∧ w'.cell? ⟨w.heap.size + 4, 4, none⟩ = some (.int .u16 0) ∧ w'.cell? ⟨w.heap.size + 4, 5, none⟩ = some (.int .u8 x0.k) ∧ w'.cell? ⟨w.heap.size + 4, 6, none⟩ = some (.int .u8 x0.ws)) ∧ Hold (w.heap.size + 4) 4 (four x0 x1 x2 x3) w w') w1.drew := (HH.out.call (Below.refl _ _).drew).cmp 2 0 (by omega) (by omega)
        have HS := Lib.hid hS
        have hK : ∀ w' w'', (fun w' => (w'.cell? ⟨w.heap.size + 4, 14, none⟩ = some (.pointer none) ∧ w'.cell? ⟨w.heap.size + 4, 15, none⟩ = some (.string x2.t) ∧ w'.cell? ⟨w.heap.size + 4, 16, none⟩ = some (.int .i32 x2.s) ∧ w'.cell? ⟨w.heap.size + 4, 17, none⟩ = some (.int .u32 x2.p) ∧ w'.cell? ⟨w.heap.size + 4, 18, none⟩ = some (.int .u16 0) ∧ w'.cell? ⟨w.heap.size + 4, 19, none⟩ = some (.int .u8 x2.k) ∧ w'.cell? ⟨w.heap.size + 4, 20, none⟩ = some (.int .u8 x2.ws)) ∧ (w'.cell? ⟨w.heap.size + 4, 0, none⟩ = some (.pointer none) ∧ w'.cell? ⟨w.heap.size + 4, 1, none⟩ = some (.string x0.t) ∧ w'.cell? ⟨w.heap.size + 4, 2, none⟩ = some (.int .i32 x0.s) ∧ w'.cell? ⟨w.heap.size + 4, 3, none⟩ = some (.int .u32 x0.p) ∧ w'.cell? ⟨w.heap.size + 4, 4, none⟩ = some (.int .u16 0) ∧ w'.cell? ⟨w.heap.size + 4, 5, none⟩ = some (.int .u8 x0.k) ∧ w'.cell? ⟨w.heap.size + 4, 6, none⟩ = some (.int .u8 x0.ws)) ∧ Hold (w.heap.size + 4) 4 (four x0 x1 x2 x3) w w') w' → Below w'.heap.size w' w'' → (fun w' => (w'.cell? ⟨w.heap.size + 4, 14, none⟩ = some (.pointer none) ∧ w'.cell? ⟨w.heap.size + 4, 15, none⟩ = some (.string x2.t) ∧ w'.cell? ⟨w.heap.size + 4, 16, none⟩ = some (.int .i32 x2.s) ∧ w'.cell? ⟨w.heap.size + 4, 17, none⟩ = some (.int .u32 x2.p) ∧ w'.cell? ⟨w.heap.size + 4, 18, none⟩ = some (.int .u16 0) ∧ w'.cell? ⟨w.heap.size + 4, 19, none⟩ = some (.int .u8 x2.k) ∧ w'.cell? ⟨w.heap.size + 4, 20, none⟩ = some (.int .u8 x2.ws)) ∧ (w'.cell? ⟨w.heap.size + 4, 0, none⟩ = some (.pointer none) ∧ w'.cell? ⟨w.heap.size + 4, 1, none⟩ = some (.string x0.t) ∧ w'.cell? ⟨w.heap.size + 4, 2, none⟩ = some (.int .i32 x0.s) ∧ w'.cell? ⟨w.heap.size + 4, 3, none⟩ = some (.int .u32 x0.p) ∧ w'.cell? ⟨w.heap.size + 4, 4, none⟩ = some (.int .u16 0) ∧ w'.cell? ⟨w.heap.size + 4, 5, none⟩ = some (.int .u8 x0.k) ∧ w'.cell? ⟨w.heap.size + 4, 6, none⟩ = some (.int .u8 x0.ws)) ∧ Hold (w.heap.size + 4) 4 (four x0 x1 x2 x3) w w') w'' := fun w' w'' h hb => CmpS.call (n := 4) (i := 2) (j := 0) (x := (four x0 x1 x2 x3)) h (by omega) (by omega) hb
        have HK := Lib.hid hK
        clear hS hK HH
        go_region_held3 (fun w' => (w'.cell? ⟨w.heap.size + 4, 14, none⟩ = some (.pointer none) ∧ w'.cell? ⟨w.heap.size + 4, 15, none⟩ = some (.string x2.t) ∧ w'.cell? ⟨w.heap.size + 4, 16, none⟩ = some (.int .i32 x2.s) ∧ w'.cell? ⟨w.heap.size + 4, 17, none⟩ = some (.int .u32 x2.p) ∧ w'.cell? ⟨w.heap.size + 4, 18, none⟩ = some (.int .u16 0) ∧ w'.cell? ⟨w.heap.size + 4, 19, none⟩ = some (.int .u8 x2.k) ∧ w'.cell? ⟨w.heap.size + 4, 20, none⟩ = some (.int .u8 x2.ws)) ∧ (w'.cell? ⟨w.heap.size + 4, 0, none⟩ = some (.pointer none) ∧ w'.cell? ⟨w.heap.size + 4, 1, none⟩ = some (.string x0.t) ∧ w'.cell? ⟨w.heap.size + 4, 2, none⟩ = some (.int .i32 x0.s) ∧ w'.cell? ⟨w.heap.size + 4, 3, none⟩ = some (.int .u32 x0.p) ∧ w'.cell? ⟨w.heap.size + 4, 4, none⟩ = some (.int .u16 0) ∧ w'.cell? ⟨w.heap.size + 4, 5, none⟩ = some (.int .u8 x0.k) ∧ w'.cell? ⟨w.heap.size + 4, 6, none⟩ = some (.int .u8 x0.ws)) ∧ Hold (w.heap.size + 4) 4 (four x0 x1 x2 x3) w w')
          (first | exact HS.out | exact HK.out _ _ (by assumption) hb)
          (first | (go_at_call 17; refine (eq17 x2 x0 _).mono ?_; rw [h20]; rintro e w2 ⟨rfl, hb⟩))
        rename_i hH
        have HH := Lib.hid hH.2.2
        clear HS HK hH hb

        go_wp2_with fail
        have hS : (fun w' => (w'.cell? ⟨w.heap.size + 4, 7, none⟩ = some (.pointer none) ∧ w'.cell? ⟨w.heap.size + 4, 8, none⟩ = some (.string x1.t) ∧ w'.cell? ⟨w.heap.size + 4, 9, none⟩ = some (.int .i32 x1.s) ∧ w'.cell? ⟨w.heap.size + 4, 10, none⟩ = some (.int .u32 x1.p) ∧ w'.cell? ⟨w.heap.size + 4, 11, none⟩ = some (.int .u16 0) ∧ w'.cell? ⟨w.heap.size + 4, 12, none⟩ = some (.int .u8 x1.k) ∧ w'.cell? ⟨w.heap.size + 4, 13, none⟩ = some (.int .u8 x1.ws)) ∧ (w'.cell? ⟨w.heap.size + 4, 0, none⟩ = some (.pointer none) ∧ w'.cell? ⟨w.heap.size + 4, 1, none⟩ = some (.string x0.t) ∧ w'.cell? ⟨w.heap.size + 4, 2, none⟩ = some (.int .i32 x0.s) ∧ w'.cell? ⟨w.heap.size + 4, 3, none⟩ = some (.int .u32 x0.p) ∧ w'.cell? ⟨w.heap.size + 4, 4, none⟩ = some (.int .u16 0) ∧ w'.cell? ⟨w.heap.size + 4, 5, none⟩ = some (.int .u8 x0.k) ∧ w'.cell? ⟨w.heap.size + 4, 6, none⟩ = some (.int .u8 x0.ws)) ∧ Hold (w.heap.size + 4) 4 (four x0 x1 x2 x3) w w') w2.drew := (HH.out.call (Below.refl _ _).drew).cmp 1 0 (by omega) (by omega)
        have HS := Lib.hid hS
        have hK : ∀ w' w'', (fun w' => (w'.cell? ⟨w.heap.size + 4, 7, none⟩ = some (.pointer none) ∧ w'.cell? ⟨w.heap.size + 4, 8, none⟩ = some (.string x1.t) ∧ w'.cell? ⟨w.heap.size + 4, 9, none⟩ = some (.int .i32 x1.s) ∧ w'.cell? ⟨w.heap.size + 4, 10, none⟩ = some (.int .u32 x1.p) ∧ w'.cell? ⟨w.heap.size + 4, 11, none⟩ = some (.int .u16 0) ∧ w'.cell? ⟨w.heap.size + 4, 12, none⟩ = some (.int .u8 x1.k) ∧ w'.cell? ⟨w.heap.size + 4, 13, none⟩ = some (.int .u8 x1.ws)) ∧ (w'.cell? ⟨w.heap.size + 4, 0, none⟩ = some (.pointer none) ∧ w'.cell? ⟨w.heap.size + 4, 1, none⟩ = some (.string x0.t) ∧ w'.cell? ⟨w.heap.size + 4, 2, none⟩ = some (.int .i32 x0.s) ∧ w'.cell? ⟨w.heap.size + 4, 3, none⟩ = some (.int .u32 x0.p) ∧ w'.cell? ⟨w.heap.size + 4, 4, none⟩ = some (.int .u16 0) ∧ w'.cell? ⟨w.heap.size + 4, 5, none⟩ = some (.int .u8 x0.k) ∧ w'.cell? ⟨w.heap.size + 4, 6, none⟩ = some (.int .u8 x0.ws)) ∧ Hold (w.heap.size + 4) 4 (four x0 x1 x2 x3) w w') w' → Below w'.heap.size w' w'' → (fun w' => (w'.cell? ⟨w.heap.size + 4, 7, none⟩ = some (.pointer none) ∧ w'.cell? ⟨w.heap.size + 4, 8, none⟩ = some (.string x1.t) ∧ w'.cell? ⟨w.heap.size + 4, 9, none⟩ = some (.int .i32 x1.s) ∧ w'.cell? ⟨w.heap.size + 4, 10, none⟩ = some (.int .u32 x1.p) ∧ w'.cell? ⟨w.heap.size + 4, 11, none⟩ = some (.int .u16 0) ∧ w'.cell? ⟨w.heap.size + 4, 12, none⟩ = some (.int .u8 x1.k) ∧ w'.cell? ⟨w.heap.size + 4, 13, none⟩ = some (.int .u8 x1.ws)) ∧ (w'.cell? ⟨w.heap.size + 4, 0, none⟩ = some (.pointer none) ∧ w'.cell? ⟨w.heap.size + 4, 1, none⟩ = some (.string x0.t) ∧ w'.cell? ⟨w.heap.size + 4, 2, none⟩ = some (.int .i32 x0.s) ∧ w'.cell? ⟨w.heap.size + 4, 3, none⟩ = some (.int .u32 x0.p) ∧ w'.cell? ⟨w.heap.size + 4, 4, none⟩ = some (.int .u16 0) ∧ w'.cell? ⟨w.heap.size + 4, 5, none⟩ = some (.int .u8 x0.k) ∧ w'.cell? ⟨w.heap.size + 4, 6, none⟩ = some (.int .u8 x0.ws)) ∧ Hold (w.heap.size + 4) 4 (four x0 x1 x2 x3) w w') w'' := fun w' w'' h hb => CmpS.call (n := 4) (i := 1) (j := 0) (x := (four x0 x1 x2 x3)) h (by omega) (by omega) hb
        have HK := Lib.hid hK
        clear hS hK HH
        go_region_held3 (fun w' => (w'.cell? ⟨w.heap.size + 4, 7, none⟩ = some (.pointer none) ∧ w'.cell? ⟨w.heap.size + 4, 8, none⟩ = some (.string x1.t) ∧ w'.cell? ⟨w.heap.size + 4, 9, none⟩ = some (.int .i32 x1.s) ∧ w'.cell? ⟨w.heap.size + 4, 10, none⟩ = some (.int .u32 x1.p) ∧ w'.cell? ⟨w.heap.size + 4, 11, none⟩ = some (.int .u16 0) ∧ w'.cell? ⟨w.heap.size + 4, 12, none⟩ = some (.int .u8 x1.k) ∧ w'.cell? ⟨w.heap.size + 4, 13, none⟩ = some (.int .u8 x1.ws)) ∧ (w'.cell? ⟨w.heap.size + 4, 0, none⟩ = some (.pointer none) ∧ w'.cell? ⟨w.heap.size + 4, 1, none⟩ = some (.string x0.t) ∧ w'.cell? ⟨w.heap.size + 4, 2, none⟩ = some (.int .i32 x0.s) ∧ w'.cell? ⟨w.heap.size + 4, 3, none⟩ = some (.int .u32 x0.p) ∧ w'.cell? ⟨w.heap.size + 4, 4, none⟩ = some (.int .u16 0) ∧ w'.cell? ⟨w.heap.size + 4, 5, none⟩ = some (.int .u8 x0.k) ∧ w'.cell? ⟨w.heap.size + 4, 6, none⟩ = some (.int .u8 x0.ws)) ∧ Hold (w.heap.size + 4) 4 (four x0 x1 x2 x3) w w')
          (first | exact HS.out | exact HK.out _ _ (by assumption) hb)
          (first | (go_at_call 17; refine (eq17 x1 x0 _).mono ?_; rw [h10]; rintro e w3 ⟨rfl, hb⟩))
        rename_i hH
        have HH := Lib.hid hH.2.2
        clear HS HK hH hb

        go_wp2_with fail
        have HL := Lib.hid (show LoopW (w.heap.size + 4) m 2 (four x0 x1 x2 x3) w (.int .i64 (0 : Nat)) w3 from ⟨⟨0, by omega, rfl, by rw [wsd_zero]; exact HH.out⟩⟩)
        clear HH
        go_loopw [48, 12, 13] (fun i _ _ wr => LoopW (w.heap.size + 4) m 2 (four x0 x1 x2 x3) w i wr) (fun i _ _ _ => 2 - (intOf i).toNat)
        case atStart => exact HL.out
        case round =>
          obtain ⟨k, hk, rfl, hR⟩ := hrel.ex
          clear hrel HL
          by_cases hlt : k < 2
          · have cc := hR.toks.c k 6 (by omega) (by omega)
            have zz := hR.toks.z (k * 7 + 6)
            have HN := Lib.hid (hR.ws (by omega : k < 4) (by omega))
            clear hR
            generalize wsd m 2 k (four x0 x1 x2 x3) k = Y at *
            cases m
            all_goals
              by_cases h0 : 0 < k
              all_goals
                by_cases h1 : k + 1 < 2
                all_goals
                  first
                  | (exfalso; omega)
                  | (
                    go_wp2_with fail
                    go_roundw
                    case rel => exact ⟨k + 1, by omega, by go_num, by have q := HN.out; simp only [wsv, h0, h1, if_true, if_false, or_true, true_or, or_false, false_or, Bool.true_eq_false, Bool.false_eq_true] at q; exact q⟩
                    case measure => first | (simp [intOf]; done) | (simp [intOf]; omega)
                    )
          · obtain rfl : k = 2 := by omega
            have HN := Lib.hid hR
            clear hR
            go_wp2_with fail
            go_ret
            exact ⟨by rw [show qn x0 x1 x2 x3 = 2 by simp [qn, *]]; rfl, by rw [show qn x0 x1 x2 x3 = 2 by simp [qn, *]]; exact HN.out⟩

      · go_enter Try.func28, Try.ntmps28
        go_wp2_with fail
        have hS : (fun w' => (w'.cell? ⟨w.heap.size + 4, 21, none⟩ = some (.pointer none) ∧ w'.cell? ⟨w.heap.size + 4, 22, none⟩ = some (.string x3.t) ∧ w'.cell? ⟨w.heap.size + 4, 23, none⟩ = some (.int .i32 x3.s) ∧ w'.cell? ⟨w.heap.size + 4, 24, none⟩ = some (.int .u32 x3.p) ∧ w'.cell? ⟨w.heap.size + 4, 25, none⟩ = some (.int .u16 0) ∧ w'.cell? ⟨w.heap.size + 4, 26, none⟩ = some (.int .u8 x3.k) ∧ w'.cell? ⟨w.heap.size + 4, 27, none⟩ = some (.int .u8 x3.ws)) ∧ (w'.cell? ⟨w.heap.size + 4, 7, none⟩ = some (.pointer none) ∧ w'.cell? ⟨w.heap.size + 4, 8, none⟩ = some (.string x1.t) ∧ w'.cell? ⟨w.heap.size + 4, 9, none⟩ = some (.int .i32 x1.s) ∧ w'.cell? ⟨w.heap.size + 4, 10, none⟩ = some (.int .u32 x1.p) ∧ w'.cell? ⟨w.heap.size + 4, 11, none⟩ = some (.int .u16 0) ∧ w'.cell? ⟨w.heap.size + 4, 12, none⟩ = some (.int .u8 x1.k) ∧ w'.cell? ⟨w.heap.size + 4, 13, none⟩ = some (.int .u8 x1.ws)) ∧ Hold (w.heap.size + 4) 4 (four x0 x1 x2 x3) w w') (W5 x0 x1 x2 x3 w).drew := (HH.out.call (Below.refl _ _).drew).cmp 3 1 (by omega) (by omega)
        have HS := Lib.hid hS
        have hK : ∀ w' w'', (fun w' => (w'.cell? ⟨w.heap.size + 4, 21, none⟩ = some (.pointer none) ∧ w'.cell? ⟨w.heap.size + 4, 22, none⟩ = some (.string x3.t) ∧ w'.cell? ⟨w.heap.size + 4, 23, none⟩ = some (.int .i32 x3.s) ∧ w'.cell? ⟨w.heap.size + 4, 24, none⟩ = some (.int .u32 x3.p) ∧ w'.cell? ⟨w.heap.size + 4, 25, none⟩ = some (.int .u16 0) ∧ w'.cell? ⟨w.heap.size + 4, 26, none⟩ = some (.int .u8 x3.k) ∧ w'.cell? ⟨w.heap.size + 4, 27, none⟩ = some (.int .u8 x3.ws)) ∧ (w'.cell? ⟨w.heap.size + 4, 7, none⟩ = some (.pointer none) ∧ w'.cell? ⟨w.heap.size + 4, 8, none⟩ = some (.string x1.t) ∧ w'.cell? ⟨w.heap.size + 4, 9, none⟩ = some (.int .i32 x1.s) ∧ w'.cell? ⟨w.heap.size + 4, 10, none⟩ = some (.int .u32 x1.p) ∧ w'.cell? ⟨w.heap.size + 4, 11, none⟩ = some (.int .u16 0) ∧ w'.cell? ⟨w.heap.size + 4, 12, none⟩ = some (.int .u8 x1.k) ∧ w'.cell? ⟨w.heap.size + 4, 13, none⟩ = some (.int .u8 x1.ws)) ∧ Hold (w.heap.size + 4) 4 (four x0 x1 x2 x3) w w') w' → Below w'.heap.size w' w'' → (fun w' => (w'.cell? ⟨w.heap.size + 4, 21, none⟩ = some (.pointer none) ∧ w'.cell? ⟨w.heap.size + 4, 22, none⟩ = some (.string x3.t) ∧ w'.cell? ⟨w.heap.size + 4, 23, none⟩ = some (.int .i32 x3.s) ∧ w'.cell? ⟨w.heap.size + 4, 24, none⟩ = some (.int .u32 x3.p) ∧ w'.cell? ⟨w.heap.size + 4, 25, none⟩ = some (.int .u16 0) ∧ w'.cell? ⟨w.heap.size + 4, 26, none⟩ = some (.int .u8 x3.k) ∧ w'.cell? ⟨w.heap.size + 4, 27, none⟩ = some (.int .u8 x3.ws)) ∧ (w'.cell? ⟨w.heap.size + 4, 7, none⟩ = some (.pointer none) ∧ w'.cell? ⟨w.heap.size + 4, 8, none⟩ = some (.string x1.t) ∧ w'.cell? ⟨w.heap.size + 4, 9, none⟩ = some (.int .i32 x1.s) ∧ w'.cell? ⟨w.heap.size + 4, 10, none⟩ = some (.int .u32 x1.p) ∧ w'.cell? ⟨w.heap.size + 4, 11, none⟩ = some (.int .u16 0) ∧ w'.cell? ⟨w.heap.size + 4, 12, none⟩ = some (.int .u8 x1.k) ∧ w'.cell? ⟨w.heap.size + 4, 13, none⟩ = some (.int .u8 x1.ws)) ∧ Hold (w.heap.size + 4) 4 (four x0 x1 x2 x3) w w') w'' := fun w' w'' h hb => CmpS.call (n := 4) (i := 3) (j := 1) (x := (four x0 x1 x2 x3)) h (by omega) (by omega) hb
        have HK := Lib.hid hK
        clear hS hK HH
        go_region_held3 (fun w' => (w'.cell? ⟨w.heap.size + 4, 21, none⟩ = some (.pointer none) ∧ w'.cell? ⟨w.heap.size + 4, 22, none⟩ = some (.string x3.t) ∧ w'.cell? ⟨w.heap.size + 4, 23, none⟩ = some (.int .i32 x3.s) ∧ w'.cell? ⟨w.heap.size + 4, 24, none⟩ = some (.int .u32 x3.p) ∧ w'.cell? ⟨w.heap.size + 4, 25, none⟩ = some (.int .u16 0) ∧ w'.cell? ⟨w.heap.size + 4, 26, none⟩ = some (.int .u8 x3.k) ∧ w'.cell? ⟨w.heap.size + 4, 27, none⟩ = some (.int .u8 x3.ws)) ∧ (w'.cell? ⟨w.heap.size + 4, 7, none⟩ = some (.pointer none) ∧ w'.cell? ⟨w.heap.size + 4, 8, none⟩ = some (.string x1.t) ∧ w'.cell? ⟨w.heap.size + 4, 9, none⟩ = some (.int .i32 x1.s) ∧ w'.cell? ⟨w.heap.size + 4, 10, none⟩ = some (.int .u32 x1.p) ∧ w'.cell? ⟨w.heap.size + 4, 11, none⟩ = some (.int .u16 0) ∧ w'.cell? ⟨w.heap.size + 4, 12, none⟩ = some (.int .u8 x1.k) ∧ w'.cell? ⟨w.heap.size + 4, 13, none⟩ = some (.int .u8 x1.ws)) ∧ Hold (w.heap.size + 4) 4 (four x0 x1 x2 x3) w w')
          (first | exact HS.out | exact HK.out _ _ (by assumption) hb)
          (first | (go_at_call 17; refine (eq17 x3 x1 _).mono ?_; rw [h31]; rintro e w1 ⟨rfl, hb⟩))
        rename_i hH
        have HH := Lib.hid hH.2.2
        clear HS HK hH hb

        go_wp2_with fail
        have hS : (fun w' => (w'.cell? ⟨w.heap.size + 4, 14, none⟩ = some (.pointer none) ∧ w'.cell? ⟨w.heap.size + 4, 15, none⟩ = some (.string x2.t) ∧ w'.cell? ⟨w.heap.size + 4, 16, none⟩ = some (.int .i32 x2.s) ∧ w'.cell? ⟨w.heap.size + 4, 17, none⟩ = some (.int .u32 x2.p) ∧ w'.cell? ⟨w.heap.size + 4, 18, none⟩ = some (.int .u16 0) ∧ w'.cell? ⟨w.heap.size + 4, 19, none⟩ = some (.int .u8 x2.k) ∧ w'.cell? ⟨w.heap.size + 4, 20, none⟩ = some (.int .u8 x2.ws)) ∧ (w'.cell? ⟨w.heap.size + 4, 0, none⟩ = some (.pointer none) ∧ w'.cell? ⟨w.heap.size + 4, 1, none⟩ = some (.string x0.t) ∧ w'.cell? ⟨w.heap.size + 4, 2, none⟩ = some (.int .i32 x0.s) ∧ w'.cell? ⟨w.heap.size + 4, 3, none⟩ = some (.int .u32 x0.p) ∧ w'.cell? ⟨w.heap.size + 4, 4, none⟩ = some (.int .u16 0) ∧ w'.cell? ⟨w.heap.size + 4, 5, none⟩ = some (.int .u8 x0.k) ∧ w'.cell? ⟨w.heap.size + 4, 6, none⟩ = some (.int .u8 x0.ws)) ∧ Hold (w.heap.size + 4) 4 (four x0 x1 x2 x3) w w') w1.drew := (HH.out.call (Below.refl _ _).drew).cmp 2 0 (by omega) (by omega)
        have HS := Lib.hid hS
        have hK : ∀ w' w'', (fun w' => (w'.cell? ⟨w.heap.size + 4, 14, none⟩ = some (.pointer none) ∧ w'.cell? ⟨w.heap.size + 4, 15, none⟩ = some (.string x2.t) ∧ w'.cell? ⟨w.heap.size + 4, 16, none⟩ = some (.int .i32 x2.s) ∧ w'.cell? ⟨w.heap.size + 4, 17, none⟩ = some (.int .u32 x2.p) ∧ w'.cell? ⟨w.heap.size + 4, 18, none⟩ = some (.int .u16 0) ∧ w'.cell? ⟨w.heap.size + 4, 19, none⟩ = some (.int .u8 x2.k) ∧ w'.cell? ⟨w.heap.size + 4, 20, none⟩ = some (.int .u8 x2.ws)) ∧ (w'.cell? ⟨w.heap.size + 4, 0, none⟩ = some (.pointer none) ∧ w'.cell? ⟨w.heap.size + 4, 1, none⟩ = some (.string x0.t) ∧ w'.cell? ⟨w.heap.size + 4, 2, none⟩ = some (.int .i32 x0.s) ∧ w'.cell? ⟨w.heap.size + 4, 3, none⟩ = some (.int .u32 x0.p) ∧ w'.cell? ⟨w.heap.size + 4, 4, none⟩ = some (.int .u16 0) ∧ w'.cell? ⟨w.heap.size + 4, 5, none⟩ = some (.int .u8 x0.k) ∧ w'.cell? ⟨w.heap.size + 4, 6, none⟩ = some (.int .u8 x0.ws)) ∧ Hold (w.heap.size + 4) 4 (four x0 x1 x2 x3) w w') w' → Below w'.heap.size w' w'' → (fun w' => (w'.cell? ⟨w.heap.size + 4, 14, none⟩ = some (.pointer none) ∧ w'.cell? ⟨w.heap.size + 4, 15, none⟩ = some (.string x2.t) ∧ w'.cell? ⟨w.heap.size + 4, 16, none⟩ = some (.int .i32 x2.s) ∧ w'.cell? ⟨w.heap.size + 4, 17, none⟩ = some (.int .u32 x2.p) ∧ w'.cell? ⟨w.heap.size + 4, 18, none⟩ = some (.int .u16 0) ∧ w'.cell? ⟨w.heap.size + 4, 19, none⟩ = some (.int .u8 x2.k) ∧ w'.cell? ⟨w.heap.size + 4, 20, none⟩ = some (.int .u8 x2.ws)) ∧ (w'.cell? ⟨w.heap.size + 4, 0, none⟩ = some (.pointer none) ∧ w'.cell? ⟨w.heap.size + 4, 1, none⟩ = some (.string x0.t) ∧ w'.cell? ⟨w.heap.size + 4, 2, none⟩ = some (.int .i32 x0.s) ∧ w'.cell? ⟨w.heap.size + 4, 3, none⟩ = some (.int .u32 x0.p) ∧ w'.cell? ⟨w.heap.size + 4, 4, none⟩ = some (.int .u16 0) ∧ w'.cell? ⟨w.heap.size + 4, 5, none⟩ = some (.int .u8 x0.k) ∧ w'.cell? ⟨w.heap.size + 4, 6, none⟩ = some (.int .u8 x0.ws)) ∧ Hold (w.heap.size + 4) 4 (four x0 x1 x2 x3) w w') w'' := fun w' w'' h hb => CmpS.call (n := 4) (i := 2) (j := 0) (x := (four x0 x1 x2 x3)) h (by omega) (by omega) hb
        have HK := Lib.hid hK
        clear hS hK HH
        go_region_held3 (fun w' => (w'.cell? ⟨w.heap.size + 4, 14, none⟩ = some (.pointer none) ∧ w'.cell? ⟨w.heap.size + 4, 15, none⟩ = some (.string x2.t) ∧ w'.cell? ⟨w.heap.size + 4, 16, none⟩ = some (.int .i32 x2.s) ∧ w'.cell? ⟨w.heap.size + 4, 17, none⟩ = some (.int .u32 x2.p) ∧ w'.cell? ⟨w.heap.size + 4, 18, none⟩ = some (.int .u16 0) ∧ w'.cell? ⟨w.heap.size + 4, 19, none⟩ = some (.int .u8 x2.k) ∧ w'.cell? ⟨w.heap.size + 4, 20, none⟩ = some (.int .u8 x2.ws)) ∧ (w'.cell? ⟨w.heap.size + 4, 0, none⟩ = some (.pointer none) ∧ w'.cell? ⟨w.heap.size + 4, 1, none⟩ = some (.string x0.t) ∧ w'.cell? ⟨w.heap.size + 4, 2, none⟩ = some (.int .i32 x0.s) ∧ w'.cell? ⟨w.heap.size + 4, 3, none⟩ = some (.int .u32 x0.p) ∧ w'.cell? ⟨w.heap.size + 4, 4, none⟩ = some (.int .u16 0) ∧ w'.cell? ⟨w.heap.size + 4, 5, none⟩ = some (.int .u8 x0.k) ∧ w'.cell? ⟨w.heap.size + 4, 6, none⟩ = some (.int .u8 x0.ws)) ∧ Hold (w.heap.size + 4) 4 (four x0 x1 x2 x3) w w')
          (first | exact HS.out | exact HK.out _ _ (by assumption) hb)
          (first | (go_at_call 17; refine (eq17 x2 x0 _).mono ?_; rw [h20]; rintro e w2 ⟨rfl, hb⟩))
        rename_i hH
        have HH := Lib.hid hH.2.2
        clear HS HK hH hb

        go_wp2_with fail
        have hS : (fun w' => (w'.cell? ⟨w.heap.size + 4, 7, none⟩ = some (.pointer none) ∧ w'.cell? ⟨w.heap.size + 4, 8, none⟩ = some (.string x1.t) ∧ w'.cell? ⟨w.heap.size + 4, 9, none⟩ = some (.int .i32 x1.s) ∧ w'.cell? ⟨w.heap.size + 4, 10, none⟩ = some (.int .u32 x1.p) ∧ w'.cell? ⟨w.heap.size + 4, 11, none⟩ = some (.int .u16 0) ∧ w'.cell? ⟨w.heap.size + 4, 12, none⟩ = some (.int .u8 x1.k) ∧ w'.cell? ⟨w.heap.size + 4, 13, none⟩ = some (.int .u8 x1.ws)) ∧ (w'.cell? ⟨w.heap.size + 4, 0, none⟩ = some (.pointer none) ∧ w'.cell? ⟨w.heap.size + 4, 1, none⟩ = some (.string x0.t) ∧ w'.cell? ⟨w.heap.size + 4, 2, none⟩ = some (.int .i32 x0.s) ∧ w'.cell? ⟨w.heap.size + 4, 3, none⟩ = some (.int .u32 x0.p) ∧ w'.cell? ⟨w.heap.size + 4, 4, none⟩ = some (.int .u16 0) ∧ w'.cell? ⟨w.heap.size + 4, 5, none⟩ = some (.int .u8 x0.k) ∧ w'.cell? ⟨w.heap.size + 4, 6, none⟩ = some (.int .u8 x0.ws)) ∧ Hold (w.heap.size + 4) 4 (four x0 x1 x2 x3) w w') w2.drew := (HH.out.call (Below.refl _ _).drew).cmp 1 0 (by omega) (by omega)
        have HS := Lib.hid hS
        have hK : ∀ w' w'', (fun w' => (w'.cell? ⟨w.heap.size + 4, 7, none⟩ = some (.pointer none) ∧ w'.cell? ⟨w.heap.size + 4, 8, none⟩ = some (.string x1.t) ∧ w'.cell? ⟨w.heap.size + 4, 9, none⟩ = some (.int .i32 x1.s) ∧ w'.cell? ⟨w.heap.size + 4, 10, none⟩ = some (.int .u32 x1.p) ∧ w'.cell? ⟨w.heap.size + 4, 11, none⟩ = some (.int .u16 0) ∧ w'.cell? ⟨w.heap.size + 4, 12, none⟩ = some (.int .u8 x1.k) ∧ w'.cell? ⟨w.heap.size + 4, 13, none⟩ = some (.int .u8 x1.ws)) ∧ (w'.cell? ⟨w.heap.size + 4, 0, none⟩ = some (.pointer none) ∧ w'.cell? ⟨w.heap.size + 4, 1, none⟩ = some (.string x0.t) ∧ w'.cell? ⟨w.heap.size + 4, 2, none⟩ = some (.int .i32 x0.s) ∧ w'.cell? ⟨w.heap.size + 4, 3, none⟩ = some (.int .u32 x0.p) ∧ w'.cell? ⟨w.heap.size + 4, 4, none⟩ = some (.int .u16 0) ∧ w'.cell? ⟨w.heap.size + 4, 5, none⟩ = some (.int .u8 x0.k) ∧ w'.cell? ⟨w.heap.size + 4, 6, none⟩ = some (.int .u8 x0.ws)) ∧ Hold (w.heap.size + 4) 4 (four x0 x1 x2 x3) w w') w' → Below w'.heap.size w' w'' → (fun w' => (w'.cell? ⟨w.heap.size + 4, 7, none⟩ = some (.pointer none) ∧ w'.cell? ⟨w.heap.size + 4, 8, none⟩ = some (.string x1.t) ∧ w'.cell? ⟨w.heap.size + 4, 9, none⟩ = some (.int .i32 x1.s) ∧ w'.cell? ⟨w.heap.size + 4, 10, none⟩ = some (.int .u32 x1.p) ∧ w'.cell? ⟨w.heap.size + 4, 11, none⟩ = some (.int .u16 0) ∧ w'.cell? ⟨w.heap.size + 4, 12, none⟩ = some (.int .u8 x1.k) ∧ w'.cell? ⟨w.heap.size + 4, 13, none⟩ = some (.int .u8 x1.ws)) ∧ (w'.cell? ⟨w.heap.size + 4, 0, none⟩ = some (.pointer none) ∧ w'.cell? ⟨w.heap.size + 4, 1, none⟩ = some (.string x0.t) ∧ w'.cell? ⟨w.heap.size + 4, 2, none⟩ = some (.int .i32 x0.s) ∧ w'.cell? ⟨w.heap.size + 4, 3, none⟩ = some (.int .u32 x0.p) ∧ w'.cell? ⟨w.heap.size + 4, 4, none⟩ = some (.int .u16 0) ∧ w'.cell? ⟨w.heap.size + 4, 5, none⟩ = some (.int .u8 x0.k) ∧ w'.cell? ⟨w.heap.size + 4, 6, none⟩ = some (.int .u8 x0.ws)) ∧ Hold (w.heap.size + 4) 4 (four x0 x1 x2 x3) w w') w'' := fun w' w'' h hb => CmpS.call (n := 4) (i := 1) (j := 0) (x := (four x0 x1 x2 x3)) h (by omega) (by omega) hb
        have HK := Lib.hid hK
        clear hS hK HH
        go_region_held3 (fun w' => (w'.cell? ⟨w.heap.size + 4, 7, none⟩ = some (.pointer none) ∧ w'.cell? ⟨w.heap.size + 4, 8, none⟩ = some (.string x1.t) ∧ w'.cell? ⟨w.heap.size + 4, 9, none⟩ = some (.int .i32 x1.s) ∧ w'.cell? ⟨w.heap.size + 4, 10, none⟩ = some (.int .u32 x1.p) ∧ w'.cell? ⟨w.heap.size + 4, 11, none⟩ = some (.int .u16 0) ∧ w'.cell? ⟨w.heap.size + 4, 12, none⟩ = some (.int .u8 x1.k) ∧ w'.cell? ⟨w.heap.size + 4, 13, none⟩ = some (.int .u8 x1.ws)) ∧ (w'.cell? ⟨w.heap.size + 4, 0, none⟩ = some (.pointer none) ∧ w'.cell? ⟨w.heap.size + 4, 1, none⟩ = some (.string x0.t) ∧ w'.cell? ⟨w.heap.size + 4, 2, none⟩ = some (.int .i32 x0.s) ∧ w'.cell? ⟨w.heap.size + 4, 3, none⟩ = some (.int .u32 x0.p) ∧ w'.cell? ⟨w.heap.size + 4, 4, none⟩ = some (.int .u16 0) ∧ w'.cell? ⟨w.heap.size + 4, 5, none⟩ = some (.int .u8 x0.k) ∧ w'.cell? ⟨w.heap.size + 4, 6, none⟩ = some (.int .u8 x0.ws)) ∧ Hold (w.heap.size + 4) 4 (four x0 x1 x2 x3) w w')
          (first | exact HS.out | exact HK.out _ _ (by assumption) hb)
          (first | (go_at_call 17; refine (eq17 x1 x0 _).mono ?_; rw [h10]; rintro e w3 ⟨rfl, hb⟩))
        rename_i hH
        have HH := Lib.hid hH.2.2
        clear HS HK hH hb

        go_wp2_with fail
        have HL := Lib.hid (show LoopW (w.heap.size + 4) m 1 (four x0 x1 x2 x3) w (.int .i64 (0 : Nat)) w3 from ⟨⟨0, by omega, rfl, by rw [wsd_zero]; exact HH.out⟩⟩)
        clear HH
        go_loopw [48, 12, 13] (fun i _ _ wr => LoopW (w.heap.size + 4) m 1 (four x0 x1 x2 x3) w i wr) (fun i _ _ _ => 1 - (intOf i).toNat)
        case atStart => exact HL.out
        case round =>
          obtain ⟨k, hk, rfl, hR⟩ := hrel.ex
          clear hrel HL
          by_cases hlt : k < 1
          · have cc := hR.toks.c k 6 (by omega) (by omega)
            have zz := hR.toks.z (k * 7 + 6)
            have HN := Lib.hid (hR.ws (by omega : k < 4) (by omega))
            clear hR
            generalize wsd m 1 k (four x0 x1 x2 x3) k = Y at *
            cases m
            all_goals
              by_cases h0 : 0 < k
              all_goals
                by_cases h1 : k + 1 < 1
                all_goals
                  first
                  | (exfalso; omega)
                  | (
                    go_wp2_with fail
                    go_roundw
                    case rel => exact ⟨k + 1, by omega, by go_num, by have q := HN.out; simp only [wsv, h0, h1, if_true, if_false, or_true, true_or, or_false, false_or, Bool.true_eq_false, Bool.false_eq_true] at q; exact q⟩
                    case measure => first | (simp [intOf]; done) | (simp [intOf]; omega)
                    )
          · obtain rfl : k = 1 := by omega
            have HN := Lib.hid hR
            clear hR
            go_wp2_with fail
            go_ret
            exact ⟨by rw [show qn x0 x1 x2 x3 = 1 by simp [qn, *]]; rfl, by rw [show qn x0 x1 x2 x3 = 1 by simp [qn, *]]; exact HN.out⟩

end Go.Proofs.Ytecdhjhobjagkaa

