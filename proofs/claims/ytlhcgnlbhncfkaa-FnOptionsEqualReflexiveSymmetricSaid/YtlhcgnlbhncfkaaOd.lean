/-
  The contract of the options' maker from a configuration. Conditions: the configuration's cells.
-/
import Derived.Test.YtlhcgnlbhncfkaaOc
import Derived.Test.YtlhcgnlbhncfkaaRb
namespace Go.Proofs.Ytlhcgnlbhncfkaa
open Go.ChangeShapes Go.WideShapes Go.ChangeAt Go.RowKit
open Go.Maps (Keyed IsMap Tidy)

/-- the loader's mode -/
def mode (l : Int) : Int := if l = 9 then 1 else if l = 14 then 2 else 0
def optV (p : Option Nat) (f1 f2 f3 : Bool) (ft : Int) (env : ByteArray) (m : Int) : Value := .agg #[.map p, .string env, .int .u16 ft, .bool f1, .bool f2, .bool f3, .int .u8 m]
theorem drew_cell (X : World) (a : Addr) : X.drew.cell? a = X.cell? a := rfl
/-- a row of values written into a block from cell o on -/
def wrs (b : Nat) : World → Nat → List Value → World
  | w, _, [] => w
  | w, o, v :: vs => wrs b (w.setCell ⟨b, o, none⟩ v) (o + 1) vs
theorem wrs_low (b : Nat) : ∀ (vs : List Value) (w : World) (o k : Nat), k < o → (wrs b w o vs).cell? ⟨b, k, none⟩ = w.cell? ⟨b, k, none⟩
  | [], _, _, _, _ => rfl
  | v :: vs, w, o, k, h => by
    show (wrs b (w.setCell ⟨b, o, none⟩ v) (o + 1) vs).cell? _ = _
    rw [wrs_low b vs _ (o + 1) k (by omega)]
    exact World.cell?_setCell_other _ _ _ _ (by intro e; injection e with e1 e2; omega)
theorem wrs_below (b : Nat) {w0 : World} (hb : w0.heap.size ≤ b) : ∀ (vs : List Value) (w : World) (o : Nat), Below w0.heap.size w0 w → Below w0.heap.size w0 (wrs b w o vs)
  | [], _, _, h => h
  | v :: vs, w, o, h => wrs_below b hb vs _ (o + 1) (h.setCell hb _)
theorem wrs_read (b : Nat) : ∀ (vs : List Value) (w : World) (o : Nat), (∀ k, o ≤ k → k < o + vs.length → ∃ u, w.cell? ⟨b, k, none⟩ = some u) → ∀ i v, vs[i]? = some v → (wrs b w o vs).cell? ⟨b, o + i, none⟩ = some v
  | [], _, _, _, i, v, h => by simp at h
  | u :: vs, w, o, hc, 0, v, h => by
    simp at h
    subst h
    show (wrs b (w.setCell ⟨b, o, none⟩ u) (o + 1) vs).cell? _ = _
    rw [wrs_low b vs _ (o + 1) _ (by omega)]
    obtain ⟨x, hx⟩ := hc o (by omega) (by simp)
    exact World.cell?_setCell_same _ _ _ hx
  | u :: vs, w, o, hc, i + 1, v, h => by
    show (wrs b (w.setCell ⟨b, o, none⟩ u) (o + 1) vs).cell? _ = _
    rw [show o + (i + 1) = (o + 1) + i by omega]
    refine wrs_read b vs _ (o + 1) (fun k h1 h2 => ?_) i v (by simpa using h)
    obtain ⟨x, hx⟩ := hc k (by omega) (by simp; omega)
    exact ⟨x, by rw [World.cell?_setCell_other _ _ _ _ (by intro e; injection e with e1 e2; omega)]; exact hx⟩
set_option maxRecDepth 20000 in
set_option maxHeartbeats 2000000 in
theorem opt14 (l : Int) (q : Nat) (p : Option Nat) (f1 f2 f3 : Bool) (ft : Int) (env : ByteArray) (w : World) (hc : Cfg w q p f1 f2 f3 ft env) :
    Calls Try.prog 14 #[.int .u8 l, .pointer (some ⟨q, 0, none⟩)] w fun e w' => e = .returned (optV p f1 f2 f3 ft env (mode l)) ∧ Below w.heap.size w w' := by
  obtain ⟨W, hW⟩ : ∃ W, W = w.alloc (.cells #[.map none, .string { data := #[] }, .int .u16 0, .bool false, .bool false, .bool false, .int .u8 0] 49) := ⟨_, rfl⟩
  have hb : Below w.heap.size w W := by rw [hW]; exact (Below.refl _ _).alloc (Nat.le_refl _) _
  have C := hc.below hb
  have hcc : W.heap[w.heap.size]? = some (.cells #[.map none, .string { data := #[] }, .int .u16 0, .bool false, .bool false, .bool false, .int .u8 0] 49 (0, 0)) := by rw [hW]; exact Go.heap_alloc_new _ _
  have c58 := C.c58
  have c77 := C.c77
  have c75 := C.c75
  have c76 := C.c76
  have c60 := C.c60
  have c10 := C.c10
  clear C hc
  have hz : ∀ o, W.frozen? ⟨w.heap.size, o, none⟩ = false := by intro o; simp [World.frozen?, hcc]
  have x0 := (cells_read hcc 0 (by decide)).1
  have x1 := (cells_read hcc 1 (by decide)).1
  have x2 := (cells_read hcc 2 (by decide)).1
  have x3 := (cells_read hcc 3 (by decide)).1
  have x4 := (cells_read hcc 4 (by decide)).1
  have x5 := (cells_read hcc 5 (by decide)).1
  have x6 := (cells_read hcc 6 (by decide)).1
  simp only [List.getElem_toArray, List.getElem_cons_zero, List.getElem_cons_succ] at x0 x1 x2 x3 x4 x5 x6
  have fin : ∀ m, Below w.heap.size w (wrs w.heap.size W 0 [.map p, .string env, .int .u16 ft, .bool f1, .bool f2, .bool f3, .int .u8 m]).drew ∧ ∀ o v, [Value.map p, .string env, .int .u16 ft, .bool f1, .bool f2, .bool f3, .int .u8 m][o]? = some v → (wrs w.heap.size W 0 [.map p, .string env, .int .u16 ft, .bool f1, .bool f2, .bool f3, .int .u8 m]).drew.cell? ⟨w.heap.size, o, none⟩ = some v := by
    intro m
    refine ⟨Below.drew (wrs_below w.heap.size (w0 := w) (Nat.le_refl _) [.map p, .string env, .int .u16 ft, .bool f1, .bool f2, .bool f3, .int .u8 m] W 0 hb), fun o v hv => ?_⟩
    have hcl : ∀ k, 0 ≤ k → k < 0 + [Value.map p, .string env, .int .u16 ft, .bool f1, .bool f2, .bool f3, .int .u8 m].length → ∃ u, W.cell? ⟨w.heap.size, k, none⟩ = some u := ?_
    · have := wrs_read w.heap.size _ W 0 hcl o v hv
      rw [Nat.zero_add] at this; rw [drew_cell]; exact this
    intro o _ ho
    have ho : o < 7 := by simpa using ho
    have : o = 0 ∨ o = 1 ∨ o = 2 ∨ o = 3 ∨ o = 4 ∨ o = 5 ∨ o = 6 := by omega
    rcases this with rfl | rfl | rfl | rfl | rfl | rfl | rfl
    · exact ⟨_, x0⟩
    · exact ⟨_, x1⟩
    · exact ⟨_, x2⟩
    · exact ⟨_, x3⟩
    · exact ⟨_, x4⟩
    · exact ⟨_, x5⟩
    · exact ⟨_, x6⟩
  have FIN := Lib.hid fin
  clear fin hcc hb
  by_cases h9 : l = 9
  · subst h9
    go_enter Try.func14, Try.ntmps14
    go_wp2_with fail
    rw [← hW]
    clear hW
    go_region
    all_goals
      go_wp2_with fail
      obtain ⟨B, R⟩ := FIN.out 1
      simp only [wrs] at B R
      exact bodyPost_ret (v := optV p f1 f2 f3 ft env 1) (by simp [results, Try.results14, go_sem, R 0 _ rfl, R 1 _ rfl, R 2 _ rfl, R 3 _ rfl, R 4 _ rfl, R 5 _ rfl, R 6 _ rfl, optV]) rfl ⟨by simp [mode], B⟩
  by_cases h14 : l = 14
  · subst h14
    go_enter Try.func14, Try.ntmps14
    go_wp2_with fail
    rw [← hW]
    clear hW
    go_region
    all_goals
      go_wp2_with fail
      obtain ⟨B, R⟩ := FIN.out 2
      simp only [wrs] at B R
      exact bodyPost_ret (v := optV p f1 f2 f3 ft env 2) (by simp [results, Try.results14, go_sem, R 0 _ rfl, R 1 _ rfl, R 2 _ rfl, R 3 _ rfl, R 4 _ rfl, R 5 _ rfl, R 6 _ rfl, optV]) rfl ⟨by simp [mode], B⟩
  · have g1 : (l == 9) = false := by simp [h9]
    have g2 : (l == 14) = false := by simp [h14]
    go_enter Try.func14, Try.ntmps14
    go_wp2_with fail
    rw [← hW]
    clear hW
    go_region
    all_goals
      go_wp2_with fail
      obtain ⟨B, R⟩ := FIN.out 0
      simp only [wrs] at B R
      exact bodyPost_ret (v := optV p f1 f2 f3 ft env 0) (by simp [results, Try.results14, go_sem, R 0 _ rfl, R 1 _ rfl, R 2 _ rfl, R 3 _ rfl, R 4 _ rfl, R 5 _ rfl, R 6 _ rfl, optV]) rfl ⟨by simp [mode, h9, h14], B⟩
end Go.Proofs.Ytlhcgnlbhncfkaa
