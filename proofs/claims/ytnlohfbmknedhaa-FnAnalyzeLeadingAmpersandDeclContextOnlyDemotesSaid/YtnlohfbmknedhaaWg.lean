/-
  The contracts of the combinator law's helpers: copying bytes, laying positions, the parser over a token list, parseCombinator. Conditions: the shapes of the lists.
-/
import Derived.Test.YtnlohfbmknedhaaWe
import Derived.WalkSpells
namespace Go.Proofs.Ytnlohfbmknedhaa
open Go.ChangeShapes Go.WideShapes Go.ChangeAt Go.RowKit

theorem bytes18 (a : Option Addr) (n c : Nat) (i : Int) (w : World) (h : n ≤ maxLen) :
    Calls Try.prog 18 #[.slice a n c, .int .i64 i] w fun e w' => e = .returned (.bool (decide (n ≤ 1048576))) ∧ w' = w := by
  simp only [maxLen] at h
  go_enter Try.func18, Try.ntmps18
  by_cases g : n ≤ 1048576
  all_goals
    go_wp2
    go_ret
    exact ⟨by simp [g], rfl⟩

/-- the byte of a combinator's kind, or 0 -/
def cb (k : Int) : Int := if k = 20 then 62 else if k = 23 then 43 else if k = 25 then 126 else 0

theorem comb20 (k : Int) (w : World) : Calls Try.prog 20 #[.int .u8 k] w fun e w' => e = .returned (.int .u8 (cb k)) ∧ w' = w := by
  go_enter Try.func20, Try.ntmps20
  by_cases h1 : k = 20
  · subst h1
    go_wp2
    go_ret
    exact ⟨rfl, rfl⟩
  · by_cases h2 : k = 23
    · subst h2
      go_wp2
      go_ret
      exact ⟨rfl, rfl⟩
    · by_cases h3 : k = 25
      · subst h3
        go_wp2
        go_ret
        exact ⟨rfl, rfl⟩
      · go_wp2
        go_ret
        exact ⟨by simp [cb, h1, h2, h3], rfl⟩

/-- a row of n integers in block B under way: the first k are laid -/
structure RwS (K : IntKind) (B n k : Nat) (g : Nat → Int) (w : World) : Prop where
  size : B < w.heap.size
  c : ∀ o, o < n → ∃ v, w.cell? ⟨B, o, none⟩ = some v
  t : ∀ i, i < k → w.cell? ⟨B, i, none⟩ = some (.int K (g i))
  z : ∀ o, w.frozen? ⟨B, o, none⟩ = false

theorem RwS.call {K : IntKind} {B n k : Nat} {g : Nat → Int} {w w' : World} (h : RwS K B n k g w) (hb : Below w.heap.size w w') : RwS K B n k g w' := by
  have hs := h.size
  have hz := hb.size
  refine ⟨by omega, fun o ho => ?_, fun i hi => ?_, fun o => ?_⟩
  · rw [hb.cell (p := ⟨B, o, none⟩) hs]; exact h.c o ho
  · rw [hb.cell (p := ⟨B, i, none⟩) hs]; exact h.t i hi
  · rw [hb.frozen (p := ⟨B, o, none⟩) hs]; exact h.z o

theorem RwS.next {K : IntKind} {B n k : Nat} {g : Nat → Int} {w : World} (h : RwS K B n k g w) (hk : k < n) : RwS K B n (k + 1) g (w.setCell ⟨B, k, none⟩ (.int K (g k))) := by
  refine ⟨by simpa [go_sem] using h.size, fun o ho => ?_, fun i hi => ?_, fun o => ?_⟩
  · by_cases e : o = k
    · subst e; exact ⟨_, same_of (h.c o ho)⟩
    · rw [World.cell?_setCell_other _ _ _ _ (by simp <;> omega)]; exact h.c o ho
  · by_cases e : i = k
    · subst e; exact same_of (h.c i hk)
    · rw [World.cell?_setCell_other _ _ _ _ (by simp <;> omega)]; exact h.t i (by omega)
  · rw [World.frozen?_setCell]; exact h.z o

theorem RwS.other {K : IntKind} {B n k : Nat} {g : Nat → Int} {w : World} (h : RwS K B n k g w) (B' o : Nat) (v : Value) (hne : B' ≠ B) : RwS K B n k g (w.setCell ⟨B', o, none⟩ v) := by
  refine ⟨by simpa [go_sem] using h.size, fun q hq => ?_, fun i hi => ?_, fun q => ?_⟩
  · rw [World.cell?_setCell_other _ _ _ _ (by simp <;> omega)]; exact h.c q hq
  · rw [World.cell?_setCell_other _ _ _ _ (by simp <;> omega)]; exact h.t i hi
  · rw [World.frozen?_setCell]; exact h.z q

theorem RwS.row {K : IntKind} {B n : Nat} {g : Nat → Int} {w : World} (h : RwS K B n n g w) (z : List Int) (hz : ∀ i, i < n → z.getD i 0 = g i) (hw : ∀ i, i < n → (Lit.int K (g i)).wf = true) : Row K w (some ⟨B, 0, none⟩) n z := by
  refine ⟨fun _ => ⟨B, 0, rfl, h.size, fun i hi => ?_⟩, fun i hi => ?_⟩
  · rw [hz i hi, Nat.zero_add]; exact h.t i hi
  · rw [hz i hi]; exact hw i hi

theorem info5 : (Try.prog.info? 5).map (fun i => (i.zero, i.size, i.bytes)) = some (some (.int .u8 0), 1, 1) := by kernel_rfl
theorem info21 : (Try.prog.info? 21).map (fun i => (i.zero, i.size, i.bytes)) = some (some (.int .i32 0), 1, 4) := by kernel_rfl
def bytesOf (n : Nat) (w : World) : World := w.alloc (.cells (madeCells #[.int .u8 0] (n * 1)) 5)
def wordsOf (n : Nat) (w : World) : World := w.alloc (.cells (madeCells #[.int .i32 0] (n * 1)) 21)
theorem make27 (n : Nat) (hn : n ≤ 1048576) (w : World) : (Instr.makeSlice 27 (.int .i64 n) (.int .i64 n)).run Try.prog w = .ok (.slice (some ⟨w.heap.size, 0, none⟩) n n) (bytesOf n w) := by
  obtain ⟨i, hi, h0, h1, h2⟩ := info_parts info5
  have := run_make (P := Try.prog) w 27 5 i _ Try.underlying27 hi h0 .i64 .i64 n n (by omega) (by omega) (by rw [h2]; omega) (by omega)
  rw [h1] at this
  exact this
theorem make28 (n : Nat) (hn : n ≤ 1048576) (w : World) : (Instr.makeSlice 28 (.int .i64 n) (.int .i64 n)).run Try.prog w = .ok (.slice (some ⟨w.heap.size, 0, none⟩) n n) (wordsOf n w) := by
  obtain ⟨i, hi, h0, h1, h2⟩ := info_parts info21
  have := run_make (P := Try.prog) w 28 21 i _ Try.underlying28 hi h0 .i64 .i64 n n (by omega) (by omega) (by rw [h2]; omega) (by omega)
  rw [h1] at this
  exact this
theorem RwS.made {K : IntKind} {n : Nat} {g : Nat → Int} {w : World} (v : Value) (t : TypeId) : RwS K w.heap.size n 0 g (w.alloc (.cells (madeCells #[v] (n * 1)) t)) := by
  refine ⟨by simp [go_sem], fun o ho => ?_, fun i hi => by omega, fun o => by simp [go_sem]⟩
  cases hc : (w.alloc (.cells (madeCells #[v] (n * 1)) t)).cell? ⟨w.heap.size, o, none⟩ with
  | some v => exact ⟨v, rfl⟩
  | none =>
    exfalso
    simp [go_sem, madeCells] at hc
    omega

/-- a copy: the same row anew -/
structure Cop (w : World) (n : Nat) (z : List Int) (e : Ending) (w' : World) : Prop where
  ex : ∃ a', e = .returned (.slice a' n n) ∧ Row .u8 w' a' n z ∧ Below w.heap.size w w'

structure Lc (w : World) (n : Nat) (z : List Int) (i : Value) (wr : World) : Prop where
  ex : ∃ k, k ≤ n ∧ i = .int .i64 k ∧ RwS .u8 w.heap.size n k (fun i => z.getD i 0) wr ∧ Below w.heap.size w wr

attribute [local go_sem] make27 in
set_option maxRecDepth 20000 in
set_option maxHeartbeats 2000000 in
theorem copy19 (a : Option Addr) (n c : Nat) (z : List Int) (w : World) (hn : n ≤ 1048576) (h : Row .u8 w a n z) :
    Calls Try.prog 19 #[.slice a n c] w (Cop w n z) := by
  have H := Lib.hid h
  clear h
  cases a with
  | none =>
    have e : n = 0 := by
      by_cases g : n = 0
      · exact g
      · obtain ⟨b, o, q, _⟩ := H.out.cell (by omega)
        cases q
    subst e
    have HW := Lib.hid H.out
    clear H
    have hq := fun (w : World) => Lib.run_eql_slice_nil (P := Try.prog) w 27 5 none 0 c 0 0 Try.underlying27
    go_enter Try.func19, Try.ntmps19
    go_wp2
    go_ret
    exact ⟨none, rfl, HW.out, Below.refl _ _⟩
  | some x =>
    have HA := Lib.hid (RwS.made (K := .u8) (n := n) (g := fun i => z.getD i 0) (w := w) (.int .u8 0) 5)
    have HB := Lib.hid ((Below.refl w.heap.size w).alloc (Nat.le_refl _) (.cells (madeCells #[.int .u8 0] (n * 1)) 5))
    have hq := fun (w : World) => Lib.run_eql_slice_nil (P := Try.prog) w 27 5 (some x) n c 0 0 Try.underlying27
    go_enter Try.func19, Try.ntmps19
    go_wp2_with fail
    clear hq
    go_loopw [4] (fun i wr => Lc w n z i wr) (fun i _ => n - (intOf i).toNat)
    case atStart => exact ⟨0, by omega, rfl, HA.out, HB.out⟩
    case round =>
      obtain ⟨k, hk, rfl, hR, hB⟩ := hrel.ex
      clear hrel HA HB
      by_cases hlt : k < n
      · obtain ⟨b, o, e, l, q⟩ := H.out.cell (by omega)
        obtain rfl := Option.some.inj e
        clear e
        have c1 : wr.cell? ⟨b, o + k, none⟩ = some (.int .u8 (z.getD k 0)) := by rw [hB.cell (p := ⟨b, o + k, none⟩) l]; exact q k hlt
        obtain ⟨v0, y0⟩ := hR.c k hlt
        have z0 := hR.z k
        have hx : RwS .u8 w.heap.size n (k + 1) (fun i => z.getD i 0) (wr.setCell ⟨w.heap.size, k, none⟩ (.int .u8 (z.getD k 0))) := hR.next hlt
        have HX := Lib.hid hx
        have HBB := Lib.hid (hB.setCell (p := ⟨w.heap.size, k, none⟩) (Nat.le_refl _) (.int .u8 (z.getD k 0)))
        clear hR hB q H hx
        generalize z.getD k 0 = X at *
        go_wp2_with fail
        go_roundw
        case rel => exact ⟨k + 1, by omega, by go_num, HX.out, HBB.out⟩
        case measure => simp [intOf]; omega
      · have e : k = n := by omega
        subst e
        have HR := Lib.hid (hR.row z (fun _ _ => rfl) H.out.wf)
        have HBB := Lib.hid hB
        clear hR hB H
        go_wp2_with fail
        go_ret
        exact ⟨_, rfl, HR.out, HBB.out⟩

def lst (n : Nat) (g : Nat → Int) : List Int := (List.range n).map g
theorem lst_at (n : Nat) (g : Nat → Int) (i : Nat) (h : i < n) : (lst n g).getD i 0 = g i := by
  simp [lst, List.getD_eq_getElem?_getD, h]

structure Lq (w : World) (n : Nat) (i : Value) (wr : World) : Prop where
  ex : ∃ k, k ≤ n ∧ i = .int .i64 k ∧ RwS .i32 w.heap.size n k (fun i => 3 * i + 1) wr ∧ RwS .i32 (w.heap.size + 1) n k (fun _ => 1) wr ∧ Below w.heap.size w wr

attribute [local go_sem] make28 in
set_option maxRecDepth 20000 in
set_option maxHeartbeats 2000000 in
theorem pos21 (n : Nat) (w : World) (hn : n ≤ 65536) :
    Calls Try.prog 21 #[.int .i64 n] w fun e w' => e = .returned (.tuple #[.slice (some ⟨w.heap.size, 0, none⟩) n n, .slice (some ⟨w.heap.size + 1, 0, none⟩) n n]) ∧ Row .i32 w' (some ⟨w.heap.size, 0, none⟩) n (lst n fun i => 3 * i + 1) ∧ Row .i32 w' (some ⟨w.heap.size + 1, 0, none⟩) n (lst n fun _ => 1) ∧ Below w.heap.size w w' := by
  have hn' : n ≤ 1048576 := by omega
  have h1 : RwS .i32 w.heap.size n 0 (fun i => 3 * i + 1) (wordsOf n (wordsOf n w)) := (RwS.made (.int .i32 0) 21).call ((Below.refl _ _).alloc (Nat.le_refl _) _)
  have hsz : (wordsOf n w).heap.size = w.heap.size + 1 := by simp [wordsOf, go_sem]
  have h2 : RwS .i32 (w.heap.size + 1) n 0 (fun _ => 1) (wordsOf n (wordsOf n w)) := by rw [← hsz]; exact RwS.made (.int .i32 0) 21
  have h3 : Below w.heap.size w (wordsOf n (wordsOf n w)) := ((Below.refl _ _).alloc (Nat.le_refl _) _).alloc (by simp [go_sem]) _
  have H0 := Lib.hid (⟨⟨0, by omega, rfl, h1, h2, h3⟩⟩ : Lq w n (.int .i64 (0 : Nat)) (wordsOf n (wordsOf n w)))
  clear h1 h2 h3
  go_enter Try.func21, Try.ntmps21
  go_wp2_with fail
  clear hsz
  go_loopw [6] (fun i wr => Lq w n i wr) (fun i _ => n - (intOf i).toNat)
  case atStart => exact H0.out
  case round =>
    obtain ⟨k, hk, rfl, hR, hS, hB⟩ := hrel.ex
    clear hrel H0
    by_cases hlt : k < n
    · obtain ⟨v0, y0⟩ := hR.c k hlt
      have z0 := hR.z k
      have hx : RwS .i32 w.heap.size n (k + 1) (fun i => 3 * i + 1) (wr.setCell ⟨w.heap.size, k, none⟩ (.int .i32 (3 * k + 1))) := hR.next hlt
      have hs := hS.other w.heap.size k (.int .i32 (3 * k + 1)) (by omega)
      have hb := hB.setCell (p := ⟨w.heap.size, k, none⟩) (Nat.le_refl _) (.int .i32 (3 * k + 1))
      obtain ⟨v1, y1⟩ := hs.c k hlt
      have z1 := hs.z k
      have hs' : RwS .i32 (w.heap.size + 1) n (k + 1) (fun _ => 1) _ := hs.next hlt
      have HX := Lib.hid (hx.other (w.heap.size + 1) k (.int .i32 1) (by omega))
      have HS := Lib.hid hs'
      have HB := Lib.hid (hb.setCell (p := ⟨w.heap.size + 1, k, none⟩) (by show w.heap.size ≤ w.heap.size + 1; omega) (.int .i32 1))
      clear hR hS hB hx hs hs' hb
      go_wp2_with fail
      go_roundw
      case rel => exact ⟨k + 1, by omega, by go_num, HX.out, HS.out, HB.out⟩
      case measure => simp [intOf]; omega
    · have e : k = n := by omega
      subst e
      have HR := Lib.hid (hR.row (lst k fun i => 3 * i + 1) (fun i hi => lst_at _ _ _ hi) (fun i hi => WalkArith.wf_i32 (by omega)))
      have HS := Lib.hid (hS.row (lst k fun _ => 1) (fun i hi => lst_at _ _ _ hi) (fun i hi => WalkArith.wf_i32 (by omega)))
      have HB := Lib.hid hB
      clear hR hS hB
      go_wp2_with fail
      go_ret2
      exact ⟨rfl, HR.out, HS.out, HB.out⟩
end Go.Proofs.Ytnlohfbmknedhaa
