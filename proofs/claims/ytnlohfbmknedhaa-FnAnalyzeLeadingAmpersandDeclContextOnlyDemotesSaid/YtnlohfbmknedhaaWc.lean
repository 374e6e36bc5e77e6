/-
  The contracts of the token list and of the parser's peek, at, current and index. Conditions: the shapes of the lists.
-/
import Derived.Test.YtnlohfbmknedhaaWb
namespace Go.Proofs.Ytnlohfbmknedhaa
open Go.ChangeShapes Go.WideShapes Go.ChangeAt Go.RowKit

/-- a token: start, length, kind -/
structure Tk where
  s : Int
  l : Int
  k : Int

def Tk.at (t : Tk) (o : Nat) : Value := if o = 0 then .int .i32 t.s else if o = 1 then .int .i32 t.l else if o = 2 then .int .u16 0 else if o = 3 then .int .u8 t.k else .int .u8 0

/-- a row of n tokens under way: the first k are laid -/
structure TkS (w0 : World) (n k : Nat) (f : Nat → Tk) (w : World) : Prop where
  size : w0.heap.size < w.heap.size
  below : Below w0.heap.size w0 w
  c : ∀ o, o < n * 5 → ∃ v, w.cell? ⟨w0.heap.size, o, none⟩ = some v
  t : ∀ i o, i < k → o < 5 → w.cell? ⟨w0.heap.size, i * 5 + o, none⟩ = some ((f i).at o)
  z : ∀ o, w.frozen? ⟨w0.heap.size, o, none⟩ = false

theorem TkS.call {w0 w w' : World} {n k : Nat} {f : Nat → Tk} (h : TkS w0 n k f w) (hb : Below w.heap.size w w') : TkS w0 n k f w' := by
  have hs := h.size
  have hz := hb.size
  refine ⟨by omega, h.below.trans (hb.mono (by omega)), fun o ho => ?_, fun i o hi ho => ?_, fun o => ?_⟩
  · rw [hb.cell (p := ⟨w0.heap.size, o, none⟩) hs]; exact h.c o ho
  · rw [hb.cell (p := ⟨w0.heap.size, i * 5 + o, none⟩) hs]; exact h.t i o hi ho
  · rw [hb.frozen (p := ⟨w0.heap.size, o, none⟩) hs]; exact h.z o

theorem TkS.put {w0 w : World} {n k : Nat} {f : Nat → Tk} (h : TkS w0 n k f w) (o : Nat) (v : Value) (ho : k * 5 ≤ o) : TkS w0 n k f (w.setCell ⟨w0.heap.size, o, none⟩ v) := by
  refine ⟨by simpa [go_sem] using h.size, h.below.setCell (Nat.le_refl _) _, fun q hq => ?_, fun i q hi hq => ?_, fun q => ?_⟩
  · by_cases e : q = o
    · subst e
      obtain ⟨u, hu⟩ := h.c q hq
      exact ⟨v, World.cell?_setCell_same _ _ _ hu⟩
    · rw [World.cell?_setCell_other _ _ _ _ (by simp <;> omega)]; exact h.c q hq
  · rw [World.cell?_setCell_other _ _ _ _ (by simp <;> omega)]; exact h.t i q hi hq
  · rw [World.frozen?_setCell]; exact h.z q

abbrev put5 (r o : Nat) (v0 v1 v2 v3 v4 : Value) (w : World) : World := ((((w.setCell ⟨r, o, none⟩ v0).setCell ⟨r, o + 1, none⟩ v1).setCell ⟨r, o + 2, none⟩ v2).setCell ⟨r, o + 3, none⟩ v3).setCell ⟨r, o + 4, none⟩ v4

theorem same_of {w : World} {a : Addr} {v : Value} (h : ∃ u, w.cell? a = some u) : (w.setCell a v).cell? a = some v := by
  obtain ⟨u, hu⟩ := h
  exact World.cell?_setCell_same _ _ _ hu

theorem TkS.next {w0 w : World} {n k : Nat} {f : Nat → Tk} (h : TkS w0 n k f w) (hk : k < n) : TkS w0 n (k + 1) f (put5 w0.heap.size (k * 5) (.int .i32 (f k).s) (.int .i32 (f k).l) (.int .u16 0) (.int .u8 (f k).k) (.int .u8 0) w) := by
  have h0 := h.put (k * 5) (.int .i32 (f k).s) (Nat.le_refl _)
  have h1 := h0.put (k * 5 + 1) (.int .i32 (f k).l) (by omega)
  have h2 := h1.put (k * 5 + 2) (.int .u16 0) (by omega)
  have h3 := h2.put (k * 5 + 3) (.int .u8 (f k).k) (by omega)
  have h4 := h3.put (k * 5 + 4) (.int .u8 0) (by omega)
  unfold put5
  refine ⟨h4.size, h4.below, h4.c, fun i o hi ho => ?_, h4.z⟩
  by_cases e : i = k
  · subst e
    have e5 : o = 0 ∨ o = 1 ∨ o = 2 ∨ o = 3 ∨ o = 4 := by omega
    rcases e5 with rfl | rfl | rfl | rfl | rfl
    · rw [World.cell?_setCell_other _ _ _ _ (by simp), World.cell?_setCell_other _ _ _ _ (by simp), World.cell?_setCell_other _ _ _ _ (by simp), World.cell?_setCell_other _ _ _ _ (by simp)]
      exact same_of (h.c _ (by omega))
    · rw [World.cell?_setCell_other _ _ _ _ (by simp), World.cell?_setCell_other _ _ _ _ (by simp), World.cell?_setCell_other _ _ _ _ (by simp)]
      exact same_of (h0.c _ (by omega))
    · rw [World.cell?_setCell_other _ _ _ _ (by simp), World.cell?_setCell_other _ _ _ _ (by simp)]
      exact same_of (h1.c _ (by omega))
    · rw [World.cell?_setCell_other _ _ _ _ (by simp)]
      exact same_of (h2.c _ (by omega))
    · exact same_of (h3.c _ (by omega))
  · exact h4.t i o (by omega) ho

def toksOf (n : Nat) (w : World) : World := w.alloc (.cells (madeCells #[.int .i32 0, .int .i32 0, .int .u16 0, .int .u8 0, .int .u8 0] (n * 5)) 69)

theorem info69 : (Try.prog.info? 69).map (fun i => (i.zero, i.size, i.bytes)) = some (some (.agg #[.int .i32 0, .int .i32 0, .int .u16 0, .int .u8 0, .int .u8 0]), 5, 12) := by kernel_rfl

theorem make31 (n : Nat) (hn : n ≤ 1048576) (w : World) : (Instr.makeSlice 31 (.int .i64 n) (.int .i64 n)).run Try.prog w = .ok (.slice (some ⟨w.heap.size, 0, none⟩) n n) (toksOf n w) := by
  obtain ⟨i, hi, h0, h1, h2⟩ := info_parts info69
  have := run_make (P := Try.prog) w 31 69 i _ Try.underlying31 hi h0 .i64 .i64 n n (by omega) (by simp [maxLen] <;> omega) (by rw [h2]; omega) (by omega)
  rw [h1] at this
  exact this

theorem toksOf_start (n : Nat) (f : Nat → Tk) (w : World) : TkS w n 0 f (toksOf n w) := by
  refine ⟨by simp [toksOf, go_sem], (Below.refl _ _).alloc (Nat.le_refl _) _, fun o ho => ?_, fun i o hi => by omega, fun o => by simp [toksOf, go_sem]⟩
  cases hc : (toksOf n w).cell? ⟨w.heap.size, o, none⟩ with
  | some v => exact ⟨v, rfl⟩
  | none =>
    exfalso
    rw [toksOf] at hc
    simp [go_sem, madeCells] at hc
    omega

def cellAt (w : World) (a : Addr) : Value := (w.cell? a).getD (.int .u8 0)
theorem TkS.holds {w0 w : World} {n k : Nat} {f : Nat → Tk} (h : TkS w0 n k f w) (o : Nat) (ho : o < n * 5) : w.cell? ⟨w0.heap.size, o, none⟩ = some (cellAt w ⟨w0.heap.size, o, none⟩) := by
  obtain ⟨v, hv⟩ := h.c o ho
  rw [cellAt, hv]; rfl

set_option maxRecDepth 20000 in
theorem tok30 (k s l : Int) (w : World) :
    Calls Try.prog 30 #[.int .u8 k, .int .i32 s, .int .i32 l] w fun e w' => e = .returned (.agg #[.int .i32 s, .int .i32 l, .int .u16 0, .int .u8 k, .int .u8 0]) ∧ Below w.heap.size w w' := by
  go_enter Try.func30, Try.ntmps30
  go_wp2
  refine bodyPost_ret (v := .agg #[.int .i32 s, .int .i32 l, .int .u16 0, .int .u8 k, .int .u8 0]) (by simp [results, Try.results30, go_sem]) rfl ⟨rfl, (Below.refl _ _).alloc (Nat.le_refl _) _⟩

theorem store_run {w : World} {a : Addr} {m : Mode} (v : Value) (h1 : v.oneCell' = true) (hc : ∃ u, w.cell? a = some u) (hf : w.frozen? a = false) :
    (store a v m).run Try.prog w = .ok () (w.setCell a v) := by
  obtain ⟨u, hu⟩ := hc
  rw [run_store _ _ _ _ _ h1, hu]
  simp [hf]

abbrev TS (b1 o1 b2 o2 b3 o3 : Nat) (t : Tk) (w0 : World) (n k : Nat) (f : Nat → Tk) (w' : World) : Prop :=
  w'.cell? ⟨b1, o1, none⟩ = some (.int .u8 t.k) ∧ w'.cell? ⟨b2, o2, none⟩ = some (.int .i32 t.s) ∧ w'.cell? ⟨b3, o3, none⟩ = some (.int .i32 t.l) ∧ TkS w0 n k f w'

theorem TS.call {b1 o1 b2 o2 b3 o3 : Nat} {t : Tk} {w0 : World} {n k : Nat} {f : Nat → Tk} {w w' : World} (l1 : b1 < w0.heap.size) (l2 : b2 < w0.heap.size) (l3 : b3 < w0.heap.size) (h : TS b1 o1 b2 o2 b3 o3 t w0 n k f w) (hb : Below w.heap.size w w') : TS b1 o1 b2 o2 b3 o3 t w0 n k f w' := by
  obtain ⟨h1, h2, h3, h4⟩ := h
  have := h4.size
  refine ⟨?_, ?_, ?_, h4.call hb⟩
  · rw [hb.cell (p := ⟨b1, o1, none⟩) (by show b1 < _; omega)]; exact h1
  · rw [hb.cell (p := ⟨b2, o2, none⟩) (by show b2 < _; omega)]; exact h2
  · rw [hb.cell (p := ⟨b3, o3, none⟩) (by show b3 < _; omega)]; exact h3

theorem TS.put {b1 o1 b2 o2 b3 o3 : Nat} {t : Tk} {w0 : World} {n k : Nat} {f : Nat → Tk} {w : World} (l1 : b1 < w0.heap.size) (l2 : b2 < w0.heap.size) (l3 : b3 < w0.heap.size) (h : TS b1 o1 b2 o2 b3 o3 t w0 n k f w) (o : Nat) (v : Value) (ho : k * 5 ≤ o) : TS b1 o1 b2 o2 b3 o3 t w0 n k f (w.setCell ⟨w0.heap.size, o, none⟩ v) := by
  obtain ⟨h1, h2, h3, h4⟩ := h
  refine ⟨?_, ?_, ?_, h4.put o v ho⟩
  · rw [World.cell?_setCell_other _ _ _ _ (by simp <;> omega)]; exact h1
  · rw [World.cell?_setCell_other _ _ _ _ (by simp <;> omega)]; exact h2
  · rw [World.cell?_setCell_other _ _ _ _ (by simp <;> omega)]; exact h3

theorem TS.put5 {b1 o1 b2 o2 b3 o3 : Nat} {t : Tk} {w0 : World} {n k : Nat} {f : Nat → Tk} {w : World} (l1 : b1 < w0.heap.size) (l2 : b2 < w0.heap.size) (l3 : b3 < w0.heap.size) (h : TS b1 o1 b2 o2 b3 o3 t w0 n k f w) (v0 v1 v2 v3 v4 : Value) : TS b1 o1 b2 o2 b3 o3 t w0 n k f (put5 w0.heap.size (k * 5) v0 v1 v2 v3 v4 w) :=
  ((((h.put l1 l2 l3 (k * 5) v0 (Nat.le_refl _)).put l1 l2 l3 (k * 5 + 1) v1 (by omega)).put l1 l2 l3 (k * 5 + 2) v2 (by omega)).put l1 l2 l3 (k * 5 + 3) v3 (by omega)).put l1 l2 l3 (k * 5 + 4) v4 (by omega)

def tkOf (z1 z2 z3 : List Int) (i : Nat) : Tk := ⟨z2.getD i 0, z3.getD i 0, z1.getD i 0⟩

/-- inside the loop of b3Tokens -/
structure Lp (w0 : World) (n : Nat) (z1 z2 z3 : List Int) (i : Value) (w : World) : Prop where
  ex : ∃ k, k ≤ n ∧ i = .int .i64 k ∧ TkS w0 n k (tkOf z1 z2 z3) w

attribute [local go_sem] make31 in
set_option maxRecDepth 20000 in
set_option maxHeartbeats 4000000 in
theorem tokens14 (a1 a2 a3 : Option Addr) (n c1 c2 c3 : Nat) (z1 z2 z3 : List Int) (w : World) (hn : n ≤ 1048576) (h1 : Row .u8 w a1 n z1) (h2 : Row .i32 w a2 n z2) (h3 : Row .i32 w a3 n z3) :
    Calls Try.prog 14 #[.slice a1 n c1, .slice a2 n c2, .slice a3 n c3] w fun e w' => e = .returned (.slice (some ⟨w.heap.size, 0, none⟩) n n) ∧ TkS w n n (tkOf z1 z2 z3) w' := by
  have HA := Lib.hid (toksOf_start n (tkOf z1 z2 z3) w)
  have H1 := Lib.hid h1
  have H2 := Lib.hid h2
  have H3 := Lib.hid h3
  clear h1 h2 h3
  go_enter Try.func14, Try.ntmps14
  go_wp2_with fail
  go_loopw [8] (fun i wr => Lp w n z1 z2 z3 i wr) (fun i _ => n - (intOf i).toNat)
  case atStart => exact ⟨0, by omega, rfl, HA.out⟩
  case round =>
    obtain ⟨k, hk, rfl, hI⟩ := hrel.ex
    clear HA hrel
    by_cases hlt : k < n
    · obtain ⟨b1, o1, rfl, l1, q1⟩ := H1.out.cell (by omega)
      obtain ⟨b2, o2, rfl, l2, q2⟩ := H2.out.cell (by omega)
      obtain ⟨b3, o3, rfl, l3, q3⟩ := H3.out.cell (by omega)
      clear H1 H2 H3
      have hs : TS b1 (o1 + k) b2 (o2 + k) b3 (o3 + k) (tkOf z1 z2 z3 k) w n k (tkOf z1 z2 z3) wr := by
        refine ⟨?_, ?_, ?_, hI⟩
        · rw [hI.below.cell (p := ⟨b1, o1 + k, none⟩) l1]; exact q1 k hlt
        · rw [hI.below.cell (p := ⟨b2, o2 + k, none⟩) l2]; exact q2 k hlt
        · rw [hI.below.cell (p := ⟨b3, o3 + k, none⟩) l3]; exact q3 k hlt
      clear q1 q2 q3 hI
      have s0 : ∀ w' : World, TkS w n k (tkOf z1 z2 z3) w' → w'.cell? ⟨w.heap.size, k * 5, none⟩ = some (cellAt w' ⟨w.heap.size, k * 5, none⟩) := fun w' h => h.holds _ (by omega)
      have s1 : ∀ w' : World, TkS w n k (tkOf z1 z2 z3) w' → w'.cell? ⟨w.heap.size, k * 5 + 1, none⟩ = some (cellAt w' ⟨w.heap.size, k * 5 + 1, none⟩) := fun w' h => h.holds _ (by omega)
      have s2 : ∀ w' : World, TkS w n k (tkOf z1 z2 z3) w' → w'.cell? ⟨w.heap.size, k * 5 + 2, none⟩ = some (cellAt w' ⟨w.heap.size, k * 5 + 2, none⟩) := fun w' h => h.holds _ (by omega)
      have s3 : ∀ w' : World, TkS w n k (tkOf z1 z2 z3) w' → w'.cell? ⟨w.heap.size, k * 5 + 3, none⟩ = some (cellAt w' ⟨w.heap.size, k * 5 + 3, none⟩) := fun w' h => h.holds _ (by omega)
      have s4 : ∀ w' : World, TkS w n k (tkOf z1 z2 z3) w' → w'.cell? ⟨w.heap.size, k * 5 + 4, none⟩ = some (cellAt w' ⟨w.heap.size, k * 5 + 4, none⟩) := fun w' h => h.holds _ (by omega)
      have sz : ∀ (w' : World) (o : Nat), TkS w n k (tkOf z1 z2 z3) w' → w'.frozen? ⟨w.heap.size, o, none⟩ = false := fun w' o h => h.z o
      have HS := Lib.hid hs
      have HN := Lib.hid (fun wx (h : TkS w n k (tkOf z1 z2 z3) wx) => h.next hlt)
      clear hs
      generalize ht : tkOf z1 z2 z3 = f at *
      go_wp2_with fail
      go_region_held3 (fun w' => w'.cell? ⟨b1, o1 + k, none⟩ = some (.int .u8 (f k).k) ∧ w'.cell? ⟨b2, o2 + k, none⟩ = some (.int .i32 (f k).s) ∧ w'.cell? ⟨b3, o3 + k, none⟩ = some (.int .i32 (f k).l) ∧ TkS w n k f w')
        (first | with_reducible exact HS.out | with_reducible exact TS.call l1 l2 l3 HS.out (Below.refl _ _).drew | with_reducible exact TS.call l1 l2 l3 (by assumption) hb | with_reducible exact TS.put5 l1 l2 l3 (by assumption) _ _ _ _ _)
        (first | (go_at_call 30; refine (tok30 _ _ _ _).mono ?_; rintro e w1 ⟨rfl, hb⟩))
      rename_i hH
      have hw1 : TkS w n k f w1 := (HS.out.2.2.2.call (Below.refl _ _).drew).call hb
      have HX := Lib.hid (HN.out _ hw1)
      clear hH s0 s1 s2 s3 s4 sz hw1 HN HS hb
      go_wp2_with fail
      go_roundw
      case rel => exact ⟨k + 1, by omega, by go_num, by rw [ht]; exact HX.out⟩
      case measure => simp [intOf]; omega
    · have e : k = n := by omega
      subst e
      have HI := Lib.hid hI
      clear hI H1 H2 H3
      go_wp2_with fail
      go_ret
      exact ⟨rfl, HI.out⟩
end Go.Proofs.Ytnlohfbmknedhaa
