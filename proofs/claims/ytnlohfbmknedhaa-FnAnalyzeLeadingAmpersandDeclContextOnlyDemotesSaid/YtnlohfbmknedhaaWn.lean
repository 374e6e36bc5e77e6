/-
  The contract of the leading-ampersand law's maker of selectors. Conditions: the shapes of the lists.
-/
import Derived.Test.YtnlohfbmknedhaaWm
namespace Go.Proofs.Ytnlohfbmknedhaa
open Go.ChangeShapes Go.WideShapes Go.ChangeAt Go.RowKit

/-- a compound selector: type, classes, nesting places, combinator -/
structure Cp where
  ty : Option Addr
  sa : Option Addr
  sn : Nat
  na : Option Addr
  nn : Nat
  b : Int
def Cp.at (x : Cp) (o : Nat) : Value := if o = 0 then .pointer x.ty else if o = 1 then .slice x.sa x.sn x.sn else if o = 2 then .slice x.na x.nn x.nn else if o = 3 then .int .i32 0 else if o = 4 then .int .u8 x.b else .bool false
def Cp.zero : Cp := ⟨none, none, 0, none, 0, 0⟩
/-- the classes of a compound -/
def SubAt (w : World) (sa : Option Addr) (n : Nat) : Prop := ∀ j, j < n → ∃ sb ad, sa = some ⟨sb, 0, none⟩ ∧ sb < w.heap.size ∧ w.cell? ⟨sb, j * 3, none⟩ = some (.iface 132 (.pointer (some ad))) ∧ w.cell? ⟨sb, j * 3 + 1, none⟩ = some (.int .i32 0) ∧ w.cell? ⟨sb, j * 3 + 2, none⟩ = some (.int .i32 0)
theorem SubAt.call {w w' : World} {sa : Option Addr} {n : Nat} (h : SubAt w sa n) (hb : Below w.heap.size w w') : SubAt w' sa n := by
  intro j hj
  obtain ⟨sb, ad, e, hl, h0, h1, h2⟩ := h j hj
  have := hb.size
  refine ⟨sb, ad, e, by omega, ?_, ?_, ?_⟩
  · rw [hb.cell (p := ⟨sb, j * 3, none⟩) hl]; exact h0
  · rw [hb.cell (p := ⟨sb, j * 3 + 1, none⟩) hl]; exact h1
  · rw [hb.cell (p := ⟨sb, j * 3 + 2, none⟩) hl]; exact h2
theorem SubAt.set {w : World} {sa : Option Addr} {n : Nat} (h : SubAt w sa n) (B o : Nat) (v : Value) (hB : ∀ sb, sa = some ⟨sb, 0, none⟩ → sb ≠ B) : SubAt (w.setCell ⟨B, o, none⟩ v) sa n := by
  intro j hj
  obtain ⟨sb, ad, e, hl, h0, h1, h2⟩ := h j hj
  have hne := hB sb e
  refine ⟨sb, ad, e, by simpa [go_sem] using hl, ?_, ?_, ?_⟩
  · rw [World.cell?_setCell_other _ _ _ _ (by simp <;> omega)]; exact h0
  · rw [World.cell?_setCell_other _ _ _ _ (by simp <;> omega)]; exact h1
  · rw [World.cell?_setCell_other _ _ _ _ (by simp <;> omega)]; exact h2

/-- a row of n compounds -/
structure Cps (B n : Nat) (d : Nat → Cp) (w : World) : Prop where
  size : B < w.heap.size
  c : ∀ i o, i < n → o < 6 → w.cell? ⟨B, i * 6 + o, none⟩ = some ((d i).at o)
  z : ∀ o, w.frozen? ⟨B, o, none⟩ = false
  s : ∀ i, i < n → SubAt w (d i).sa (d i).sn
  ne : ∀ i sb, i < n → (d i).sa = some ⟨sb, 0, none⟩ → B < sb
  le : ∀ i, i < n → (d i).sn ≤ 2 ∧ (d i).nn ≤ 2

theorem Cps.call {B n : Nat} {d : Nat → Cp} {w w' : World} (h : Cps B n d w) (hb : Below w.heap.size w w') : Cps B n d w' := by
  have hs := h.size
  have hz := hb.size
  refine ⟨by omega, fun i o hi ho => ?_, fun o => ?_, fun i hi => (h.s i hi).call hb, h.ne, h.le⟩
  · rw [hb.cell (p := ⟨B, i * 6 + o, none⟩) hs]; exact h.c i o hi ho
  · rw [hb.frozen (p := ⟨B, o, none⟩) hs]; exact h.z o

/-- one cell of compound k set: its new value is p, which differs from d k in that cell alone -/
theorem Cps.put {B n : Nat} {d : Nat → Cp} {w : World} (h : Cps B n d w) (k o : Nat) (p : Cp) (hk : k < n) (ho : o < 6) (hp : ∀ o', o' < 6 → o' ≠ o → p.at o' = (d k).at o')
    (hs : SubAt w p.sa p.sn) (hne : ∀ sb, p.sa = some ⟨sb, 0, none⟩ → B < sb) (hle : p.sn ≤ 2 ∧ p.nn ≤ 2) :
    Cps B n (fun i => if i = k then p else d i) (w.setCell ⟨B, k * 6 + o, none⟩ (p.at o)) := by
  refine ⟨by simpa [go_sem] using h.size, fun i q hi hq => ?_, fun q => ?_, fun i hi => ?_, fun i sb hi e => ?_, fun i hi => ?_⟩
  · by_cases e : i = k
    · subst e
      simp only [if_true]
      by_cases e2 : q = o
      · subst e2; exact World.cell?_setCell_same _ _ _ (h.c i q hi hq)
      · rw [World.cell?_setCell_other _ _ _ _ (by simp <;> omega), h.c i q hi hq, hp q hq e2]
    · simp only [e, if_false]
      rw [World.cell?_setCell_other _ _ _ _ (by simp <;> omega), h.c i q hi hq]
  · rw [World.frozen?_setCell]; exact h.z q
  · by_cases e : i = k
    · subst e; simp only [if_true]; exact hs.set B _ _ (fun sb e => by have := hne sb e; omega)
    · simp only [e, if_false]; exact (h.s i hi).set B _ _ (fun sb e => by have := h.ne i sb hi e; omega)
  · by_cases e2 : i = k
    · subst e2; simp only [if_true] at e; exact hne sb e
    · simp only [e2, if_false] at e; exact h.ne i sb hi e
  · by_cases e : i = k
    · subst e; simp only [if_true]; exact hle
    · simp only [e, if_false]; exact h.le i hi

theorem Cps.other {B n : Nat} {d : Nat → Cp} {w : World} (h : Cps B n d w) (R o : Nat) (v : Value) (hR : R < B) : Cps B n d (w.setCell ⟨R, o, none⟩ v) := by
  refine ⟨by simpa [go_sem] using h.size, fun i q hi hq => ?_, fun q => ?_, fun i hi => ?_, h.ne, h.le⟩
  · rw [World.cell?_setCell_other _ _ _ _ (by simp <;> omega)]; exact h.c i q hi hq
  · rw [World.frozen?_setCell]; exact h.z q
  · exact (h.s i hi).set R _ _ (fun sb e => by have := h.ne i sb hi e; omega)
/-- a block of n cells that may be written -/
structure Blk (b n : Nat) (w : World) : Prop where
  size : b < w.heap.size
  c : ∀ o, o < n → ∃ v, w.cell? ⟨b, o, none⟩ = some v
  z : ∀ o, w.frozen? ⟨b, o, none⟩ = false
theorem Blk.put {b n : Nat} {w : World} (h : Blk b n w) (o : Nat) (v : Value) : Blk b n (w.setCell ⟨b, o, none⟩ v) := by
  refine ⟨by simpa [go_sem] using h.size, fun q hq => ?_, fun q => ?_⟩
  · by_cases e : q = o
    · subst e; exact ⟨_, same_of (h.c q hq)⟩
    · rw [World.cell?_setCell_other _ _ _ _ (by simp <;> omega)]; exact h.c q hq
  · rw [World.frozen?_setCell]; exact h.z q
theorem Blk.call {b n : Nat} {w w' : World} (h : Blk b n w) (hb : Below w.heap.size w w') : Blk b n w' := by
  have hs := h.size
  have := hb.size
  refine ⟨by omega, fun q hq => ?_, fun q => ?_⟩
  · rw [hb.cell (p := ⟨b, q, none⟩) hs]; exact h.c q hq
  · rw [hb.frozen (p := ⟨b, q, none⟩) hs]; exact h.z q
theorem Blk.made (w : World) (zs : Array Value) (n : Nat) (t : TypeId) (hz : 0 < zs.size) : Blk w.heap.size n (w.alloc (.cells (madeCells zs n) t)) := by
  refine ⟨by simp [go_sem], fun o ho => ?_, fun o => by simp [go_sem]⟩
  cases hc : (w.alloc (.cells (madeCells zs n) t)).cell? ⟨w.heap.size, o, none⟩ with
  | some v => exact ⟨v, rfl⟩
  | none =>
    exfalso
    simp [go_sem, madeCells] at hc
    omega

def locsOf (n : Nat) (w : World) : World := w.alloc (.cells (madeCells #[.int .i32 0] (n * 1)) 58)
def subsOf (n : Nat) (w : World) : World := w.alloc (.cells (madeCells #[.nilIface, .int .i32 0, .int .i32 0] (n * 3)) 125)
def cpsOf (n : Nat) (w : World) : World := w.alloc (.cells (madeCells #[.pointer none, .slice none 0 0, .slice none 0 0, .int .i32 0, .int .u8 0, .bool false] (n * 6)) 62)
theorem make56 (n : Nat) (hn : n ≤ 4096) (w : World) : (Instr.makeSlice 56 (.int .i64 n) (.int .i64 n)).run Try.prog w = .ok (.slice (some ⟨w.heap.size, 0, none⟩) n n) (locsOf n w) := by
  obtain ⟨i, hi, h0, h1, h2⟩ := info_parts info58
  have := run_make (P := Try.prog) w 56 58 i _ Try.underlying56 hi h0 .i64 .i64 n n (by omega) (by omega) (by rw [h2]; omega) (by omega)
  rw [h1] at this
  exact this
theorem make55 (n : Nat) (hn : n ≤ 4096) (w : World) : (Instr.makeSlice 55 (.int .i64 n) (.int .i64 n)).run Try.prog w = .ok (.slice (some ⟨w.heap.size, 0, none⟩) n n) (subsOf n w) := by
  obtain ⟨i, hi, h0, h1, h2⟩ := info_parts info125
  have := run_make (P := Try.prog) w 55 125 i _ Try.underlying55 hi h0 .i64 .i64 n n (by omega) (by omega) (by rw [h2]; omega) (by omega)
  rw [h1] at this
  exact this
theorem make49 (n : Nat) (hn : n ≤ 4096) (w : World) : (Instr.makeSlice 49 (.int .i64 n) (.int .i64 n)).run Try.prog w = .ok (.slice (some ⟨w.heap.size, 0, none⟩) n n) (cpsOf n w) := by
  obtain ⟨i, hi, h0, h1, h2⟩ := info_parts info62
  have := run_make (P := Try.prog) w 49 62 i _ Try.underlying49 hi h0 .i64 .i64 n n (by omega) (by omega) (by rw [h2]; omega) (by omega)
  rw [h1] at this
  exact this

theorem cps_start (n : Nat) (w : World) : Cps w.heap.size n (fun _ => Cp.zero) (cpsOf n w) := by
  refine ⟨by simp [cpsOf, go_sem], fun i o hi ho => ?_, fun o => by simp [cpsOf, go_sem], fun i hi j hj => by simp [Cp.zero] at hj, fun i sb hi e => by simp [Cp.zero] at e, fun i hi => by simp [Cp.zero]⟩
  have hlt : i * 6 + o < n * 6 := by omega
  have hm : (i * 6 + o) % 6 = o := by omega
  have e6 : o = 0 ∨ o = 1 ∨ o = 2 ∨ o = 3 ∨ o = 4 ∨ o = 5 := by omega
  unfold cpsOf
  have hm0 : i * 6 % 6 = 0 := by omega
  rcases e6 with rfl | rfl | rfl | rfl | rfl | rfl
  · simp [go_sem, madeCells, hi, Cp.at, Cp.zero]
  all_goals (simp [go_sem, madeCells, hlt, hm, Cp.at, Cp.zero] <;> omega)

/-- a row of classes under way -/
structure SbS (b n k : Nat) (w : World) : Prop where
  blk : Blk b (n * 3) w
  t : SubAt w (some ⟨b, 0, none⟩) k
theorem SbS.call {b n k : Nat} {w w' : World} (h : SbS b n k w) (hb : Below w.heap.size w w') : SbS b n k w' := ⟨h.blk.call hb, h.t.call hb⟩
theorem SbS.next {b n k : Nat} {w : World} (h : SbS b n k w) (hk : k < n) (ad : Addr) : SbS b n (k + 1) (((w.setCell ⟨b, k * 3, none⟩ (.iface 132 (.pointer (some ad)))).setCell ⟨b, k * 3 + 1, none⟩ (.int .i32 0)).setCell ⟨b, k * 3 + 2, none⟩ (.int .i32 0)) := by
  refine ⟨((h.blk.put _ _).put _ _).put _ _, fun j hj => ?_⟩
  have hb0 := h.blk
  have hb1 := hb0.put (k * 3) (.iface 132 (.pointer (some ad)))
  have hb2 := hb1.put (k * 3 + 1) (.int .i32 0)
  by_cases e : j = k
  · subst e
    refine ⟨b, ad, rfl, by simpa [go_sem] using h.blk.size, ?_, ?_, ?_⟩
    · rw [World.cell?_setCell_other _ _ _ _ (by simp), World.cell?_setCell_other _ _ _ _ (by simp)]
      exact same_of (hb0.c _ (by omega))
    · rw [World.cell?_setCell_other _ _ _ _ (by simp)]
      exact same_of (hb1.c _ (by omega))
    · exact same_of (hb2.c _ (by omega))
  · obtain ⟨sb, ad', e1, hl, h0, h1, h2⟩ := h.t j (by omega)
    have e2 : sb = b := by injection e1 with e1; injection e1 with e1; exact e1.symm
    subst e2
    refine ⟨sb, ad', rfl, by simpa [go_sem] using hl, ?_, ?_, ?_⟩
    · rw [World.cell?_setCell_other _ _ _ _ (by simp <;> omega), World.cell?_setCell_other _ _ _ _ (by simp <;> omega), World.cell?_setCell_other _ _ _ _ (by simp <;> omega)]; exact h0
    · rw [World.cell?_setCell_other _ _ _ _ (by simp <;> omega), World.cell?_setCell_other _ _ _ _ (by simp <;> omega), World.cell?_setCell_other _ _ _ _ (by simp <;> omega)]; exact h1
    · rw [World.cell?_setCell_other _ _ _ _ (by simp <;> omega), World.cell?_setCell_other _ _ _ _ (by simp <;> omega), World.cell?_setCell_other _ _ _ _ (by simp <;> omega)]; exact h2
end Go.Proofs.Ytnlohfbmknedhaa
