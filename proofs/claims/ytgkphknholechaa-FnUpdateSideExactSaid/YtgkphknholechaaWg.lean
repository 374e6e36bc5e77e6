/-
  The contracts of zzMarkedRules, ZZNewBoxTracker and zzSideIs. Conditions: at most 4096 rules; a side number of 0 to 3.
-/
import Derived.Test.YtgkphknholechaaWd
import Derived.OwnWalk
import Derived.Laws.MakeOwn
namespace Go.Proofs.Ytgkphknholechaa
open Go.ChangeShapes Go.WideShapes Go.ChangeAt Go.RowKit

/-- n rules lie in block r, without data, at the places g -/
structure Rls (w : World) (r n : Nat) (g : Nat → Int) : Prop where
  d : ∀ i, i < n → w.cell? ⟨r, i * 2, none⟩ = some .nilIface
  l : ∀ i, i < n → w.cell? ⟨r, i * 2 + 1, none⟩ = some (.int .i32 (g i))
  z : ∀ o, w.frozen? ⟨r, o, none⟩ = false

def rulesOf (n : Nat) (w : World) : World := w.alloc (.cells (madeCells #[.nilIface, .int .i32 0] (n * 2)) 63)

theorem info63 : (Try.prog.info? 63).map (fun i => (i.zero, i.size, i.bytes)) = some (some (.agg #[.nilIface, .int .i32 0]), 2, 24) := by kernel_rfl

theorem make45 (n : Nat) (hn : n ≤ 4096) (w : World) : (Instr.makeSlice 45 (.int .i64 n) (.int .i64 n)).run Try.prog w = .ok (.slice (some ⟨w.heap.size, 0, none⟩) n n) (rulesOf n w) := by
  obtain ⟨i, hi, h0, h1, h2⟩ := info_parts info63
  have := run_make (P := Try.prog) w 45 63 i _ Try.underlying45 hi h0 .i64 .i64 n n (by omega) (by omega) (by rw [h2]; omega) (by omega)
  rw [h1] at this
  exact this

theorem rulesOf_size (n : Nat) (w : World) : (rulesOf n w).heap.size = w.heap.size + 1 := by simp [rulesOf, go_sem]
theorem rulesOf_below (n : Nat) (w : World) : Below w.heap.size w (rulesOf n w) := (Below.refl _ _).alloc (Nat.le_refl _) _
theorem rulesOf_cell (n o : Nat) (w : World) (h : o < n * 2) : (rulesOf n w).cell? ⟨w.heap.size, o, none⟩ = some (#[Value.nilIface, .int .i32 0][o % 2]!) := by
  have h' : o < (madeCells #[Value.nilIface, .int .i32 0] (n * 2)).size := by rw [size_madeCells]; exact h
  rw [rulesOf]
  simp [go_sem, madeCells, h]

theorem rulesOf_rls (n : Nat) (w : World) : Rls (rulesOf n w) w.heap.size n (fun _ => 0) := by
  refine ⟨fun i hi => ?_, fun i hi => ?_, fun o => ?_⟩
  · rw [rulesOf_cell _ _ _ (by omega)]
    have : i * 2 % 2 = 0 := by omega
    rw [this]; rfl
  · rw [rulesOf_cell _ _ _ (by omega)]
    have : (i * 2 + 1) % 2 = 1 := by omega
    rw [this]; rfl
  · simp [rulesOf, go_sem]

theorem Rls.put {w : World} {r n : Nat} {g : Nat → Int} (h : Rls w r n g) (k : Nat) (hk : k < n) (v : Int) : Rls (w.setCell ⟨r, k * 2 + 1, none⟩ (.int .i32 v)) r n (fun i => if i = k then v else g i) := by
  refine ⟨fun i hi => ?_, fun i hi => ?_, fun o => ?_⟩
  · have : k * 2 + 1 ≠ i * 2 := by omega
    rw [← h.d i hi]
    simp [go_sem]
  · by_cases e : i = k
    · subst e
      have := h.l i hi
      simp [go_sem, this]
    · have : k * 2 + 1 ≠ i * 2 + 1 := by omega
      rw [if_neg e, ← h.l i hi]
      simp [go_sem]
  · have := h.z o
    simpa [go_sem] using this

theorem Rls.congr {w : World} {r n : Nat} {g g' : Nat → Int} (h : Rls w r n g) (e : ∀ i, i < n → g i = g' i) : Rls w r n g' :=
  ⟨h.d, fun i hi => by rw [← e i hi]; exact h.l i hi, h.z⟩

structure Mk (w0 : World) (n k : Nat) (w : World) : Prop where
  size : w.heap.size = w0.heap.size + 1
  below : Below w0.heap.size w0 w
  rls : Rls w w0.heap.size n (fun i => if i < k then ((i + 1 : Nat) : Int) else 0)

attribute [local go_sem] make45 in
set_option maxRecDepth 20000 in
theorem mark17 (n : Nat) (hn : n ≤ 4096) (w : World) :
    Calls Try.prog 17 #[.int .i64 n] w fun e w' => e = .returned (.slice (some ⟨w.heap.size, 0, none⟩) n n) ∧ Mk w n n w' := by
  have hA0 : Mk w n 0 (rulesOf n w) := ⟨rulesOf_size n w, rulesOf_below n w, (rulesOf_rls n w).congr (fun i hi => by simp)⟩
  have HA := Lib.hid hA0
  clear hA0
  go_enter Try.func17, Try.ntmps17
  go_wp2_with fail
  go_loopw [4] (fun i wr => ∃ k : Nat, k ≤ n ∧ i = .int .i64 k ∧ Mk w n k wr) (fun i _ => n - (intOf i).toNat)
  case atStart => exact ⟨0, by omega, rfl, HA.out⟩
  case round =>
    obtain ⟨k, hk, rfl, hI⟩ := hrel
    clear HA
    by_cases hlt : k < n
    · have c1 := hI.rls.l k hlt
      have z1 := hI.rls.z (k * 2 + 1)
      have hs : Mk w n (k + 1) (wr.setCell ⟨w.heap.size, k * 2 + 1, none⟩ (.int .i32 ((k + 1 : Nat) : Int))) := by
        refine ⟨?_, hI.below.setCell (Nat.le_refl _) _, (hI.rls.put k hlt _).congr ?_⟩
        · have := hI.size
          simpa [go_sem] using this
        · intro i hi
          by_cases e : i = k
          · subst e; simp
          · by_cases e2 : i < k
            · rw [if_neg e, if_pos e2, if_pos (by omega)]
            · rw [if_neg e, if_neg e2, if_neg (by omega)]
      have HI := Lib.hid hs
      clear hI hs
      go_wp2_with fail
      go_roundw
      case rel => exact ⟨k + 1, by omega, by go_num, HI.out⟩
      case measure => simp [intOf]; omega
    · have e : k = n := by omega
      subst e
      have HI := Lib.hid hI
      clear hI
      go_wp2_with fail
      go_ret
      exact ⟨rfl, HI.out⟩

def boxCells : Array Value := #[.string ⟨#[109, 97, 114, 103, 105, 110]⟩] ++ (Sd.mk 0 0 0 false).cells ++ (Sd.mk 0 0 0 false).cells ++ (Sd.mk 0 0 0 false).cells ++ (Sd.mk 0 0 0 false).cells ++ #[.bool false, .bool false, .int .u16 189]

set_option maxRecDepth 20000 in
theorem new18 (w : World) :
    Calls Try.prog 18 #[.int .u16 189, .string ⟨#[109, 97, 114, 103, 105, 110]⟩, .bool false, .bool false] w fun e w' => e = .returned (.pointer (some ⟨w.heap.size, 0, none⟩)) ∧ w' = w.alloc (.cells boxCells 85) := by
  go_enter Try.func18, Try.ntmps18
  go_wp2
  go_ret
  exact ⟨rfl, rfl⟩
end Go.Proofs.Ytgkphknholechaa
