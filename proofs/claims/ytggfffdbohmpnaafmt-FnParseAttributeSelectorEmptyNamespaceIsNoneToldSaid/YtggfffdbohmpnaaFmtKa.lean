/-
  The token list, the parser's current, at, peek, advance, eat. Conditions: the shapes of the lists.
-/
import Derived.Test.YtggfffdbohmpnaaFmtRows
import Derived.WalkKit
import Derived.ProofKit
import Derived.OpenShut
import Derived.LoopTactic
import Derived.RegionTactic
import Derived.Lib.Hide
import Derived.Below
import Derived.WalkSmall
import Derived.OwnWalk
import Derived.Laws.MakeOwn
import Derived.WalkSpells
import Derived.Deep.RegionHeld3
import Derived.Deep.QuietTactic
import Derived.BigQuiet
namespace Go.Proofs.YtggfffdbohmpnaaFmt
set_option linter.unusedVariables false
open Go.ChangeShapes Go.WideShapes Go.ChangeAt Go.RowKit Go.Lib

theorem same_of {w : World} {a : Addr} {v : Value} (h : ∃ u, w.cell? a = some u) : (w.setCell a v).cell? a = some v := by
  obtain ⟨u, h⟩ := h
  exact World.cell?_setCell_same _ _ _ h

theorem wf_i32 {x : Int} (h : (Lit.int .i32 x).wf = true) : -2147483648 ≤ x ∧ x ≤ 2147483647 := by
  have hm : IntKind.i32.min = -2147483648 := by decide
  have hM : IntKind.i32.max = 2147483647 := by decide
  simp only [Lit.wf, Bool.and_eq_true, decide_eq_true_eq] at h
  omega

/-- an answer; if it is yes, then P -/
structure SomeD (P : Prop) (w : World) (e : Ending) (w' : World) : Prop where
  ex : ∃ b n, e = .returned (.bool b) ∧ w' = w.drewN n ∧ (b = true → P)
theorem SomeD.no {P : Prop} {w : World} (n : Nat) : SomeD P w (.returned (.bool false)) (w.drewN n) := ⟨false, n, rfl, rfl, by simp⟩
theorem SomeD.yes {P : Prop} {w : World} (n : Nat) (h : P) : SomeD P w (.returned (.bool true)) (w.drewN n) := ⟨true, n, rfl, rfl, fun _ => h⟩
theorem SomeD.no0 {P : Prop} {w : World} : SomeD P w (.returned (.bool false)) w := ⟨false, 0, rfl, rfl, by simp⟩

/-- a token: start, length, kind -/
structure Tk where
  s : Int
  l : Int
  k : Int

def Tk.at (t : Tk) (o : Nat) : Value := if o = 0 then .int .i32 t.s else if o = 1 then .int .i32 t.l else if o = 2 then .int .u16 0 else if o = 3 then .int .u8 t.k else .int .u8 0

/-- a row of n tokens under way: the first k are laid -/
structure TkS (w0 : World) (n k : Nat) (f : Nat → Tk) (w : World) : Prop where
  size : w0.heap.size < w.heap.size
  below : Below w0.heap.size w0 w
  c : ∀ o, o < n * 5 → ∃ v, w.cell? ⟨w0.heap.size, o, none⟩ = some v
  t : ∀ i o, i < k → o < 5 → w.cell? ⟨w0.heap.size, i * 5 + o, none⟩ = some ((f i).at o)
  z : ∀ o, w.frozen? ⟨w0.heap.size, o, none⟩ = false

theorem TkS.call {w0 w w' : World} {n k : Nat} {f : Nat → Tk} (h : TkS w0 n k f w) (hb : Below w.heap.size w w') : TkS w0 n k f w' := by
  have hs := h.size
  have hz := hb.size
  refine ⟨by omega, h.below.trans (hb.mono (by omega)), fun o ho => ?_, fun i o hi ho => ?_, fun o => ?_⟩
  · rw [hb.cell (p := ⟨w0.heap.size, o, none⟩) hs]; exact h.c o ho
  · rw [hb.cell (p := ⟨w0.heap.size, i * 5 + o, none⟩) hs]; exact h.t i o hi ho
  · rw [hb.frozen (p := ⟨w0.heap.size, o, none⟩) hs]; exact h.z o

theorem TkS.put {w0 w : World} {n k : Nat} {f : Nat → Tk} (h : TkS w0 n k f w) (o : Nat) (v : Value) (ho : k * 5 ≤ o) : TkS w0 n k f (w.setCell ⟨w0.heap.size, o, none⟩ v) := by
  refine ⟨by simpa [go_sem] using h.size, h.below.setCell (Nat.le_refl _) _, fun q hq => ?_, fun i q hi hq => ?_, fun q => ?_⟩
  · by_cases e : q = o
    · subst e
      obtain ⟨u, hu⟩ := h.c q hq
      exact ⟨v, World.cell?_setCell_same _ _ _ hu⟩
    · rw [World.cell?_setCell_other _ _ _ _ (by simp <;> omega)]; exact h.c q hq
  · rw [World.cell?_setCell_other _ _ _ _ (by simp <;> omega)]; exact h.t i q hi hq
  · rw [World.frozen?_setCell]; exact h.z q

abbrev put5 (r o : Nat) (v0 v1 v2 v3 v4 : Value) (w : World) : World := ((((w.setCell ⟨r, o, none⟩ v0).setCell ⟨r, o + 1, none⟩ v1).setCell ⟨r, o + 2, none⟩ v2).setCell ⟨r, o + 3, none⟩ v3).setCell ⟨r, o + 4, none⟩ v4

theorem TkS.next {w0 w : World} {n k : Nat} {f : Nat → Tk} (h : TkS w0 n k f w) (hk : k < n) : TkS w0 n (k + 1) f (put5 w0.heap.size (k * 5) (.int .i32 (f k).s) (.int .i32 (f k).l) (.int .u16 0) (.int .u8 (f k).k) (.int .u8 0) w) := by
  have h0 := h.put (k * 5) (.int .i32 (f k).s) (Nat.le_refl _)
  have h1 := h0.put (k * 5 + 1) (.int .i32 (f k).l) (by omega)
  have h2 := h1.put (k * 5 + 2) (.int .u16 0) (by omega)
  have h3 := h2.put (k * 5 + 3) (.int .u8 (f k).k) (by omega)
  have h4 := h3.put (k * 5 + 4) (.int .u8 0) (by omega)
  unfold put5
  refine ⟨h4.size, h4.below, h4.c, fun i o hi ho => ?_, h4.z⟩
  by_cases e : i = k
  · subst e
    have e5 : o = 0 ∨ o = 1 ∨ o = 2 ∨ o = 3 ∨ o = 4 := by omega
    rcases e5 with rfl | rfl | rfl | rfl | rfl
    · rw [World.cell?_setCell_other _ _ _ _ (by simp), World.cell?_setCell_other _ _ _ _ (by simp), World.cell?_setCell_other _ _ _ _ (by simp), World.cell?_setCell_other _ _ _ _ (by simp)]
      exact same_of (h.c _ (by omega))
    · rw [World.cell?_setCell_other _ _ _ _ (by simp), World.cell?_setCell_other _ _ _ _ (by simp), World.cell?_setCell_other _ _ _ _ (by simp)]
      exact same_of (h0.c _ (by omega))
    · rw [World.cell?_setCell_other _ _ _ _ (by simp), World.cell?_setCell_other _ _ _ _ (by simp)]
      exact same_of (h1.c _ (by omega))
    · rw [World.cell?_setCell_other _ _ _ _ (by simp)]
      exact same_of (h2.c _ (by omega))
    · exact same_of (h3.c _ (by omega))
  · exact h4.t i o (by omega) ho

def toksOf (n : Nat) (w : World) : World := w.alloc (.cells (madeCells #[.int .i32 0, .int .i32 0, .int .u16 0, .int .u8 0, .int .u8 0] (n * 5)) 48)

theorem info48 : (Tryf.prog.info? 48).map (fun i => (i.zero, i.size, i.bytes)) = some (some (.agg #[.int .i32 0, .int .i32 0, .int .u16 0, .int .u8 0, .int .u8 0]), 5, 12) := by kernel_rfl

theorem make40 (n : Nat) (hn : n ≤ 1048576) (w : World) : (Instr.makeSlice 40 (.int .i64 n) (.int .i64 n)).run Tryf.prog w = .ok (.slice (some ⟨w.heap.size, 0, none⟩) n n) (toksOf n w) := by
  obtain ⟨i, hi, h0, h1, h2⟩ := info_parts info48
  have := run_make (P := Tryf.prog) w 40 48 i _ Tryf.underlying40 hi h0 .i64 .i64 n n (by omega) (by omega) (by rw [h2]; omega) (by omega)
  rw [h1] at this
  exact this

theorem toksOf_start (n : Nat) (f : Nat → Tk) (w : World) : TkS w n 0 f (toksOf n w) := by
  refine ⟨by simp [toksOf, go_sem], (Below.refl _ _).alloc (Nat.le_refl _) _, fun o ho => ?_, fun i o hi => by omega, fun o => by simp [toksOf, go_sem]⟩
  cases hc : (toksOf n w).cell? ⟨w.heap.size, o, none⟩ with
  | some v => exact ⟨v, rfl⟩
  | none =>
    exfalso
    rw [toksOf] at hc
    simp [go_sem, madeCells] at hc
    omega

def cellAt (w : World) (a : Addr) : Value := (w.cell? a).getD (.int .u8 0)
theorem TkS.holds {w0 w : World} {n k : Nat} {f : Nat → Tk} (h : TkS w0 n k f w) (o : Nat) (ho : o < n * 5) : w.cell? ⟨w0.heap.size, o, none⟩ = some (cellAt w ⟨w0.heap.size, o, none⟩) := by
  obtain ⟨v, hv⟩ := h.c o ho
  rw [cellAt, hv]; rfl

/-- a parser at block p over the source s and the n tokens f in block r, its cursor at i -/
structure Psr (w : World) (p : Nat) (s : ByteArray) (r n : Nat) (f : Nat → Tk) (i : Int) : Prop where
  lt : p < w.heap.size
  rlt : r < w.heap.size
  ne : r ≠ p
  small : s.size ≤ 1048576 ∧ n ≤ 1048576
  c9 : w.cell? ⟨p, 9, none⟩ = some (.string s)
  c16 : w.cell? ⟨p, 16, none⟩ = some (.slice (some ⟨r, 0, none⟩) n n)
  c42 : w.cell? ⟨p, 42, none⟩ = some (.int .i64 i)
  z42 : w.frozen? ⟨p, 42, none⟩ = false
  t : ∀ j o, j < n → o < 5 → w.cell? ⟨r, j * 5 + o, none⟩ = some ((f j).at o)

theorem Psr.call {w w' : World} {p : Nat} {s : ByteArray} {r n : Nat} {f : Nat → Tk} {i : Int} (h : Psr w p s r n f i) (hb : Below w.heap.size w w') : Psr w' p s r n f i := by
  have := hb.size
  have h1 := h.lt
  have h2 := h.rlt
  refine ⟨by omega, by omega, h.ne, h.small, ?_, ?_, ?_, ?_, fun j o hj ho => ?_⟩
  · rw [hb.cell (p := ⟨p, 9, none⟩) h1]; exact h.c9
  · rw [hb.cell (p := ⟨p, 16, none⟩) h1]; exact h.c16
  · rw [hb.cell (p := ⟨p, 42, none⟩) h1]; exact h.c42
  · rw [hb.frozen (p := ⟨p, 42, none⟩) h1]; exact h.z42
  · rw [hb.cell (p := ⟨r, j * 5 + o, none⟩) h2]; exact h.t j o hj ho

/-- the token at place i: past the end, the end of the file -/
def cur (s : ByteArray) (n : Nat) (f : Nat → Tk) (i : Nat) : Tk := if i < n then f i else ⟨s.size, 0, 0⟩

set_option maxRecDepth 20000 in
set_option maxHeartbeats 1000000 in
theorem at30 (p : Nat) (s : ByteArray) (r n : Nat) (f : Nat → Tk) (c : Int) (i : Nat) (w : World) (h : Psr w p s r n f c) (hi : i ≤ n) :
    Calls Tryf.prog 30 #[.pointer (some ⟨p, 0, none⟩), .int .i64 i] w fun e w' => e = .returned (.agg #[.int .i32 (cur s n f i).s, .int .i32 (cur s n f i).l, .int .u16 0, .int .u8 (cur s n f i).k, .int .u8 0]) ∧ Below w.heap.size w w' := by
  have q9 := h.c9
  have q16 := h.c16
  have hlt := h.lt
  have hrl := h.rlt
  obtain ⟨hs, hn⟩ := h.small
  by_cases hin : i < n
  · have e : cur s n f i = f i := if_pos hin
    have t0 : w.cell? ⟨r, i * 5, none⟩ = some (.int .i32 (f i).s) := h.t i 0 hin (by omega)
    have t1 : w.cell? ⟨r, i * 5 + 1, none⟩ = some (.int .i32 (f i).l) := h.t i 1 hin (by omega)
    have t2 : w.cell? ⟨r, i * 5 + 2, none⟩ = some (.int .u16 0) := h.t i 2 hin (by omega)
    have t3 : w.cell? ⟨r, i * 5 + 3, none⟩ = some (.int .u8 (f i).k) := h.t i 3 hin (by omega)
    have t4 : w.cell? ⟨r, i * 5 + 4, none⟩ = some (.int .u8 0) := h.t i 4 hin (by omega)
    rw [e]
    generalize f i = tt at *
    clear h
    go_enter Tryf.func30, Tryf.ntmps30
    go_wp2
    refine bodyPost_ret (v := .agg #[.int .i32 tt.s, .int .i32 tt.l, .int .u16 0, .int .u8 tt.k, .int .u8 0]) (by simp [results, Tryf.results30, go_sem]) rfl ⟨rfl, ?_⟩
    exact (Below.refl _ _).alloc (Nat.le_refl _) _
  · have e : cur s n f i = ⟨s.size, 0, 0⟩ := if_neg hin
    rw [e]
    clear h
    go_enter Tryf.func30, Tryf.ntmps30
    go_wp2
    refine bodyPost_ret (v := .agg #[.int .i32 s.size, .int .i32 0, .int .u16 0, .int .u8 0, .int .u8 0]) (by simp [results, Tryf.results30, go_sem]) rfl ⟨rfl, ?_⟩
    exact (Below.refl _ _).alloc (Nat.le_refl _) _

set_option maxRecDepth 20000 in
set_option maxHeartbeats 1000000 in
theorem cur19 (p : Nat) (s : ByteArray) (r n : Nat) (f : Nat → Tk) (i : Nat) (w : World) (h : Psr w p s r n f i) (hi : i ≤ n) :
    Calls Tryf.prog 19 #[.pointer (some ⟨p, 0, none⟩)] w fun e w' => e = .returned (.agg #[.int .i32 (cur s n f i).s, .int .i32 (cur s n f i).l, .int .u16 0, .int .u8 (cur s n f i).k, .int .u8 0]) ∧ Below w.heap.size w w' := by
  have q42 := h.c42
  have hlt := h.lt
  have H := hid h
  clear h
  obtain ⟨tt, ht⟩ : ∃ tt, tt = cur s n f i := ⟨_, rfl⟩
  rw [← ht]
  go_enter Tryf.func19, Tryf.ntmps19
  go_wp2_with fail
  refine (at30 p s r n f i i _ (H.out.call ((Below.refl _ _).alloc (Nat.le_refl _) _)) hi).mono ?_
  rw [← ht]
  rintro e w2 ⟨rfl, hb⟩
  have hb2 : Below w.heap.size w w2 := ((Below.refl _ _).alloc (Nat.le_refl _) _).trans (hb.mono (by simp [go_sem]))
  have c0 : ∀ o, o < 5 → ∃ v, w2.cell? ⟨w.heap.size, o, none⟩ = some v := by
    intro o ho
    have e5 : o = 0 ∨ o = 1 ∨ o = 2 ∨ o = 3 ∨ o = 4 := by omega
    rw [hb.cell (p := ⟨w.heap.size, o, none⟩) (by simp [go_sem])]
    rcases e5 with rfl | rfl | rfl | rfl | rfl <;> exact ⟨_, by simp [go_sem]; rfl⟩
  have z0 : ∀ o, w2.frozen? ⟨w.heap.size, o, none⟩ = false := by
    intro o
    rw [hb.frozen (p := ⟨w.heap.size, o, none⟩) (by simp [go_sem])]
    simp [go_sem]
  obtain ⟨v0, y0⟩ := c0 0 (by omega)
  obtain ⟨v1, y1⟩ := c0 1 (by omega)
  obtain ⟨v2, y2⟩ := c0 2 (by omega)
  obtain ⟨v3, y3⟩ := c0 3 (by omega)
  obtain ⟨v4, y4⟩ := c0 4 (by omega)
  have HB := hid hb2
  clear hb hb2 H c0 q42 ht
  go_wp2
  refine bodyPost_ret (v := .agg #[.int .i32 tt.s, .int .i32 tt.l, .int .u16 0, .int .u8 tt.k, .int .u8 0]) (by simp [results, Tryf.results19, go_sem, y0, y1, y2, y3, y4]) rfl ⟨rfl, ?_⟩
  exact ((((HB.out.setCell (Nat.le_refl _) _).setCell (Nat.le_refl _) _).setCell (Nat.le_refl _) _).setCell (Nat.le_refl _) _).setCell (Nat.le_refl _) _


set_option maxRecDepth 20000 in
theorem end29 (a b : Nat) (w : World) (h : a + b ≤ 1048576) :
    Calls Tryf.prog 29 #[.agg #[.int .i32 a, .int .i32 b]] w fun e w' => e = .returned (.int .i32 ((a + b : Nat) : Int)) ∧ Below w.heap.size w w' := by
  go_enter Tryf.func29, Tryf.ntmps29
  go_wp2
  go_ret
  exact ⟨by go_num, (Below.refl _ _).alloc (Nat.le_refl _) _⟩

/-- grown behind block N, nothing below B turned -/
structure Gr (B N : Nat) (w0 w : World) : Prop where
  size : N < w.heap.size
  below : Below B w0 w

/-- a later world: the same parser at place j; whatever was kept below the parser is kept -/
structure Go1 (w : World) (p : Nat) (s : ByteArray) (r n : Nat) (f : Nat → Tk) (j : Int) (w' : World) : Prop where
  psr : Psr w' p s r n f j
  kept : ∀ m w0, m ≤ p → Below m w0 w → Below m w0 w'
  size : w.heap.size ≤ w'.heap.size
  cell : ∀ b o, b < w.heap.size → b ≠ p → w'.cell? ⟨b, o, none⟩ = w.cell? ⟨b, o, none⟩
  froz : ∀ b o, b < w.heap.size → b ≠ p → w'.frozen? ⟨b, o, none⟩ = w.frozen? ⟨b, o, none⟩
theorem Go1.of {w w' : World} {p : Nat} {s : ByteArray} {r n : Nat} {f : Nat → Tk} {j : Int} (h : Psr w p s r n f j) (hb : Below w.heap.size w w') : Go1 w p s r n f j w' :=
  ⟨h.call hb, fun m w0 hm h0 => h0.trans (hb.mono (by have := h.lt; omega)), hb.size, fun b o hl _ => hb.cell (p := ⟨b, o, none⟩) hl, fun b o hl _ => hb.frozen (p := ⟨b, o, none⟩) hl⟩
theorem Go1.trans {w w1 w2 : World} {p : Nat} {s : ByteArray} {r n : Nat} {f : Nat → Tk} {j k : Int} (h : Go1 w p s r n f j w1) (h2 : Go1 w1 p s r n f k w2) : Go1 w p s r n f k w2 :=
  ⟨h2.psr, fun m w0 hm hb => h2.kept m w0 hm (h.kept m w0 hm hb), by have := h.size; have := h2.size; omega, fun b o hl hne => (h2.cell b o (by have := h.size; omega) hne).trans (h.cell b o hl hne), fun b o hl hne => (h2.froz b o (by have := h.size; omega) hne).trans (h.froz b o hl hne)⟩

theorem Psr.move {w : World} {p : Nat} {s : ByteArray} {r n : Nat} {f : Nat → Tk} {i : Int} (h : Psr w p s r n f i) (j : Int) : Psr (w.setCell ⟨p, 42, none⟩ (.int .i64 j)) p s r n f j := by
  have hne := h.ne
  refine ⟨by simpa [go_sem] using h.lt, by simpa [go_sem] using h.rlt, hne, h.small, ?_, ?_, ?_, ?_, fun q o hq ho => ?_⟩
  · rw [World.cell?_setCell_other _ _ _ _ (by simp)]; exact h.c9
  · rw [World.cell?_setCell_other _ _ _ _ (by simp)]; exact h.c16
  · exact World.cell?_setCell_same _ _ _ h.c42
  · rw [World.frozen?_setCell]; exact h.z42
  · rw [World.cell?_setCell_other _ _ _ _ (by simp <;> omega)]; exact h.t q o hq ho

theorem Psr.drews {w : World} {p : Nat} {s : ByteArray} {r n : Nat} {f : Nat → Tk} {i : Int} (h : Psr w p s r n f i) (m : Nat) : Psr (w.drewN m) p s r n f i :=
  h.call (below_drewN (Below.refl _ _) m)

set_option maxRecDepth 20000 in
set_option maxHeartbeats 2000000 in
theorem adv20 (p : Nat) (s : ByteArray) (r n : Nat) (f : Nat → Tk) (i : Nat) (w : World) (h : Psr w p s r n f i) (hi : i < n) :
    Calls Tryf.prog 20 #[.pointer (some ⟨p, 0, none⟩)] w fun e w' => e = .returned (.tuple #[]) ∧ Go1 w p s r n f ((i + 1 : Nat) : Int) w' := by
  have q16 := h.c16
  have q42 := h.c42
  have z42 := h.z42
  obtain ⟨hs, hn⟩ := h.small
  have HK := hid (fun m => (⟨(h.drews m).move ((i + 1 : Nat) : Int), fun m' w0 hm hb => (below_drewN hb m).setCell hm _, by simp [go_sem], fun b o _ hne => by rw [World.cell?_setCell_other _ _ _ _ (by simp)]; rfl, fun b o _ _ => by rw [World.frozen?_setCell]; rfl⟩ : Go1 w p s r n f ((i + 1 : Nat) : Int) ((w.drewN m).setCell ⟨p, 42, none⟩ (.int .i64 ((i + 1 : Nat) : Int)))))
  clear h
  go_enter Tryf.func20, Tryf.ntmps20
  go_wp2_with fail
  go_quiet (fail)
  go_wp2
  go_end0
  exact ⟨rfl, HK.out _⟩

theorem field2 (a b c d e : Value) (w : World) : (Instr.field 48 (.agg #[a, b, c, d, e]) 2).run Tryf.prog w = .ok d w := by kernel_rfl
theorem field0 (a b c d e : Value) (w : World) : (Instr.field 48 (.agg #[a, b, c, d, e]) 0).run Tryf.prog w = .ok (.agg #[a, b]) w := by kernel_rfl
theorem fieldL (a b : Value) (w : World) : (Instr.field 44 (.agg #[a, b]) 0).run Tryf.prog w = .ok (.agg #[a]) w := by kernel_rfl
attribute [local go_sem] field2 in
set_option maxRecDepth 20000 in
theorem peek21 (p : Nat) (s : ByteArray) (r n : Nat) (f : Nat → Tk) (i : Nat) (k : Int) (w : World) (h : Psr w p s r n f i) (hi : i ≤ n) :
    Calls Tryf.prog 21 #[.pointer (some ⟨p, 0, none⟩), .int .u8 k] w fun e w' => e = .returned (.bool (decide (k = (cur s n f i).k))) ∧ Below w.heap.size w w' := by
  have H := hid h
  clear h
  obtain ⟨tt, ht⟩ : ∃ tt, tt = cur s n f i := ⟨_, rfl⟩
  rw [← ht]
  go_enter Tryf.func21, Tryf.ntmps21
  go_wp2_with fail
  refine (cur19 p s r n f i _ H.out hi).mono ?_
  rw [← ht]
  rintro e w2 ⟨rfl, hb⟩
  have HB := hid hb
  clear hb H ht
  by_cases e : k = tt.k
  · go_wp2
    go_ret
    exact ⟨by simp [e], HB.out⟩
  · go_wp2
    go_ret
    exact ⟨by simp [e], HB.out⟩

set_option maxRecDepth 20000 in
set_option maxHeartbeats 2000000 in
theorem eat25_yes (p : Nat) (s : ByteArray) (r n : Nat) (f : Nat → Tk) (i : Nat) (k : Int) (w : World) (h : Psr w p s r n f i) (hi : i < n) (hk : k = (cur s n f i).k) :
    Calls Tryf.prog 25 #[.pointer (some ⟨p, 0, none⟩), .int .u8 k] w fun e w' => e = .returned (.bool true) ∧ Go1 w p s r n f ((i + 1 : Nat) : Int) w' := by
  have H := hid h
  have HK := hid hk
  clear h hk
  go_enter Tryf.func25, Tryf.ntmps25
  go_wp2_with fail
  refine (peek21 p s r n f i k _ H.out (by omega)).mono ?_
  rw [decide_eq_true HK.out]
  rintro e w2 ⟨rfl, hb⟩
  have H2 := hid (H.out.call hb)
  have HB := hid hb
  have hlt := H.out.lt
  clear hb HK
  go_wp2_with fail
  refine (adv20 p s r n f i _ H2.out hi).mono ?_
  rintro e w3 ⟨rfl, hg⟩
  have HG := hid hg
  clear hg
  go_wp2
  go_ret
  exact ⟨rfl, (Go1.of H.out HB.out).trans HG.out⟩

set_option maxRecDepth 20000 in
set_option maxHeartbeats 2000000 in
theorem eat25_no (p : Nat) (s : ByteArray) (r n : Nat) (f : Nat → Tk) (i : Nat) (k : Int) (w : World) (h : Psr w p s r n f i) (hi : i ≤ n) (hk : k ≠ (cur s n f i).k) :
    Calls Tryf.prog 25 #[.pointer (some ⟨p, 0, none⟩), .int .u8 k] w fun e w' => e = .returned (.bool false) ∧ Below w.heap.size w w' := by
  have H := hid h
  have HK := hid hk
  clear h hk
  go_enter Tryf.func25, Tryf.ntmps25
  go_wp2_with fail
  refine (peek21 p s r n f i k _ H.out (by omega)).mono ?_
  rw [decide_eq_false HK.out]
  rintro e w2 ⟨rfl, hb⟩
  have HB := hid hb
  clear hb HK
  go_wp2
  go_ret
  exact ⟨rfl, HB.out⟩

end Go.Proofs.YtggfffdbohmpnaaFmt
