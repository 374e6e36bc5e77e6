/-
  The helpers of the token-list law: sizes, shapes, token lists, the parser's current. Conditions: the shapes of the lists.
-/
import Derived.Test.YtlpjejnfniiilaaDoorBa
namespace Go.Proofs.YtlpjejnfniiilaaDoor
set_option linter.unusedVariables false
open Go.ChangeShapes Go.WideShapes Go.ChangeAt Go.RowKit

def Small (s : ByteArray) (l1 l2 l3 : Nat) : Prop := s.size + l1 + 4 * l2 + 4 * l3 ≤ 1048576

set_option maxRecDepth 20000 in
theorem size13_yes (s : ByteArray) (a1 a2 a3 : Option Addr) (l1 l2 l3 c1 c2 c3 : Nat) (w : World) (h : Small s l1 l2 l3) :
    Calls Tryd.prog 13 #[.string s, .slice a1 l1 c1, .slice a2 l2 c2, .slice a3 l3 c3] w fun e w' => e = .returned (.bool true) ∧ w' = w := by
  unfold Small at h
  have hb : decide ((s.size : Int) + l1 + 4 * l2 + 4 * l3 ≤ 1048576) = true := decide_eq_true (by omega)
  go_enter Tryd.func13, Tryd.ntmps13
  go_wp2
  go_ret
  exact ⟨by first | rfl | simp [hb] | (simp; omega), rfl⟩

set_option maxRecDepth 20000 in
set_option maxHeartbeats 1000000 in
theorem size13_no (s : ByteArray) (a1 a2 a3 : Option Addr) (l1 l2 l3 c1 c2 c3 : Nat) (w : World) (h : ¬ Small s l1 l2 l3) (hs : s.size + l1 + l2 + l3 ≤ 1048576) :
    Calls Tryd.prog 13 #[.string s, .slice a1 l1 c1, .slice a2 l2 c2, .slice a3 l3 c3] w fun e w' => e = .returned (.bool false) ∧ w' = w := by
  unfold Small at h
  have hb : decide ((s.size : Int) + l1 + 4 * l2 + 4 * l3 ≤ 1048576) = false := decide_eq_false (by omega)
  go_enter Tryd.func13, Tryd.ntmps13
  by_cases g1 : l2 ≤ 262144
  · by_cases g2 : l3 ≤ 262144
    all_goals
      go_wp2
      go_ret
      exact ⟨by first | rfl | simp [hb] | (simp; omega), rfl⟩
  · go_wp2
    go_ret
    exact ⟨by first | rfl | simp [hb] | (simp; omega), rfl⟩

theorem wf_i32 {x : Int} (h : (Lit.int .i32 x).wf = true) : -2147483648 ≤ x ∧ x ≤ 2147483647 := by
  have hm : IntKind.i32.min = -2147483648 := by decide
  have hM : IntKind.i32.max = 2147483647 := by decide
  simp only [Lit.wf, Bool.and_eq_true, decide_eq_true_eq] at h
  omega

/-- an answer; if it is yes, then P -/
structure SomeD (P : Prop) (w : World) (e : Ending) (w' : World) : Prop where
  ex : ∃ b n, e = .returned (.bool b) ∧ w' = w.drewN n ∧ (b = true → P)
theorem SomeD.no {P : Prop} {w : World} (n : Nat) : SomeD P w (.returned (.bool false)) (w.drewN n) := ⟨false, n, rfl, rfl, by simp⟩
theorem SomeD.yes {P : Prop} {w : World} (n : Nat) (h : P) : SomeD P w (.returned (.bool true)) (w.drewN n) := ⟨true, n, rfl, rfl, fun _ => h⟩
theorem SomeD.no0 {P : Prop} {w : World} : SomeD P w (.returned (.bool false)) w := ⟨false, 0, rfl, rfl, by simp⟩

/-- one start and one length per kind, every range inside the source -/
def Shp (s : ByteArray) (n l2 l3 : Nat) (z2 z3 : List Int) : Prop :=
  n = l2 ∧ n = l3 ∧ ∀ i, i < n → 0 ≤ z2.getD i 0 ∧ 0 ≤ z3.getD i 0 ∧ z2.getD i 0 + z3.getD i 0 ≤ s.size

def Upto (s : ByteArray) (k : Nat) (z2 z3 : List Int) : Prop := ∀ i, i < k → 0 ≤ z2.getD i 0 ∧ 0 ≤ z3.getD i 0 ∧ z2.getD i 0 + z3.getD i 0 ≤ s.size

theorem Upto.next {s : ByteArray} {k : Nat} {z2 z3 : List Int} (h : Upto s k z2 z3) (h2 : 0 ≤ z2.getD k 0) (h3 : 0 ≤ z3.getD k 0) (h4 : z2.getD k 0 + z3.getD k 0 ≤ s.size) : Upto s (k + 1) z2 z3 := by
  intro i hi
  by_cases e : i = k
  · subst e; exact ⟨h2, h3, h4⟩
  · exact h i (by omega)

set_option maxRecDepth 20000 in
set_option maxHeartbeats 2000000 in
theorem shape14 (s : ByteArray) (a1 a2 a3 : Option Addr) (l1 l2 l3 c1 c2 c3 : Nat) (z2 z3 : List Int) (w : World) (hs : Small s l1 l2 l3) (h2 : Row .i32 w a2 l2 z2) (h3 : Row .i32 w a3 l3 z3) :
    Calls Tryd.prog 14 #[.string s, .slice a1 l1 c1, .slice a2 l2 c2, .slice a3 l3 c3] w (SomeD (Shp s l1 l2 l3 z2 z3) w) := by
  unfold Small at hs
  go_enter Tryd.func14, Tryd.ntmps14
  by_cases g2 : l1 = l2
  · subst g2
    by_cases g3 : l1 = l3
    · subst g3
      go_wp2_with fail
      go_loopw [9] (fun i wr => ∃ k m : Nat, k ≤ l1 ∧ i = .int .i64 k ∧ wr = w.drewN m ∧ Upto s k z2 z3) (fun i _ => l1 - (intOf i).toNat)
      case atStart => exact ⟨0, 0, by omega, rfl, rfl, fun i hi => by omega⟩
      case round =>
        obtain ⟨k, m, hk, rfl, rfl, hu⟩ := hrel
        by_cases hlt : k < l1
        · obtain ⟨b2, o2, rfl, hb2, hc2⟩ := h2.cell (by omega)
          obtain ⟨b3, o3, rfl, hb3, hc3⟩ := h3.cell (by omega)
          have q2 := hc2 k hlt
          have q3 := hc3 k hlt
          obtain ⟨x2, y2⟩ := wf_i32 (h2.wf k hlt)
          obtain ⟨x3, y3⟩ := wf_i32 (h3.wf k hlt)
          have HN := Go.Lib.hid (fun a b c => hu.next (z2 := z2) (z3 := z3) (k := k) a b c)
          clear hc2 hc3 h2 h3 hu
          generalize z2.getD k 0 = X2 at *
          generalize z3.getD k 0 = X3 at *
          by_cases p2 : X2 < 0
          · go_wp2
            go_ret
            exact SomeD.no _
          · by_cases p3 : X3 < 0
            · go_wp2
              go_ret
              exact SomeD.no _
            · by_cases p4 : X2 + X3 ≤ s.size
              · go_wp2_with fail
                go_quiet (fail)
                go_wp2_with fail
                go_roundw
                case rel => exact ⟨k + 1, _, by omega, by go_num, by first | rfl | rw [World.drewN_drewN], HN.out (by omega) (by omega) (by omega)⟩
                case measure => simp [intOf]; omega
              · go_wp2_with fail
                go_quiet (fail)
                go_wp2_with fail
                go_ret
                first | exact SomeD.no _ | (rw [World.drewN_drewN]; exact SomeD.no _)
        · have e : k = l1 := by omega
          subst e
          have HU := Go.Lib.hid hu
          clear hu h2 h3
          go_wp2
          go_ret
          exact SomeD.yes _ ⟨rfl, rfl, HU.out⟩
    · clear h2 h3
      go_wp2
      go_ret
      exact SomeD.no0
  · clear h2 h3
    go_wp2
    go_ret
    exact SomeD.no0

/-- a token: start, length, kind -/
structure Tk where
  s : Int
  l : Int
  k : Int

def Tk.at (t : Tk) (o : Nat) : Value := if o = 0 then .int .i32 t.s else if o = 1 then .int .i32 t.l else if o = 2 then .int .u16 0 else if o = 3 then .int .u8 t.k else .int .u8 0

/-- a row of n tokens under way: the first k are laid -/
structure TkS (w0 : World) (n k : Nat) (f : Nat → Tk) (w : World) : Prop where
  size : w0.heap.size < w.heap.size
  below : Below w0.heap.size w0 w
  c : ∀ o, o < n * 5 → ∃ v, w.cell? ⟨w0.heap.size, o, none⟩ = some v
  t : ∀ i o, i < k → o < 5 → w.cell? ⟨w0.heap.size, i * 5 + o, none⟩ = some ((f i).at o)
  z : ∀ o, w.frozen? ⟨w0.heap.size, o, none⟩ = false

theorem TkS.call {w0 w w' : World} {n k : Nat} {f : Nat → Tk} (h : TkS w0 n k f w) (hb : Below w.heap.size w w') : TkS w0 n k f w' := by
  have hs := h.size
  have hz := hb.size
  refine ⟨by omega, h.below.trans (hb.mono (by omega)), fun o ho => ?_, fun i o hi ho => ?_, fun o => ?_⟩
  · rw [hb.cell (p := ⟨w0.heap.size, o, none⟩) hs]; exact h.c o ho
  · rw [hb.cell (p := ⟨w0.heap.size, i * 5 + o, none⟩) hs]; exact h.t i o hi ho
  · rw [hb.frozen (p := ⟨w0.heap.size, o, none⟩) hs]; exact h.z o

theorem TkS.put {w0 w : World} {n k : Nat} {f : Nat → Tk} (h : TkS w0 n k f w) (o : Nat) (v : Value) (ho : k * 5 ≤ o) : TkS w0 n k f (w.setCell ⟨w0.heap.size, o, none⟩ v) := by
  refine ⟨by simpa [go_sem] using h.size, h.below.setCell (Nat.le_refl _) _, fun q hq => ?_, fun i q hi hq => ?_, fun q => ?_⟩
  · by_cases e : q = o
    · subst e
      obtain ⟨u, hu⟩ := h.c q hq
      exact ⟨v, World.cell?_setCell_same _ _ _ hu⟩
    · rw [World.cell?_setCell_other _ _ _ _ (by simp <;> omega)]; exact h.c q hq
  · rw [World.cell?_setCell_other _ _ _ _ (by simp <;> omega)]; exact h.t i q hi hq
  · rw [World.frozen?_setCell]; exact h.z q

abbrev put5 (r o : Nat) (v0 v1 v2 v3 v4 : Value) (w : World) : World := ((((w.setCell ⟨r, o, none⟩ v0).setCell ⟨r, o + 1, none⟩ v1).setCell ⟨r, o + 2, none⟩ v2).setCell ⟨r, o + 3, none⟩ v3).setCell ⟨r, o + 4, none⟩ v4

theorem TkS.next {w0 w : World} {n k : Nat} {f : Nat → Tk} (h : TkS w0 n k f w) (hk : k < n) : TkS w0 n (k + 1) f (put5 w0.heap.size (k * 5) (.int .i32 (f k).s) (.int .i32 (f k).l) (.int .u16 0) (.int .u8 (f k).k) (.int .u8 0) w) := by
  have h0 := h.put (k * 5) (.int .i32 (f k).s) (Nat.le_refl _)
  have h1 := h0.put (k * 5 + 1) (.int .i32 (f k).l) (by omega)
  have h2 := h1.put (k * 5 + 2) (.int .u16 0) (by omega)
  have h3 := h2.put (k * 5 + 3) (.int .u8 (f k).k) (by omega)
  have h4 := h3.put (k * 5 + 4) (.int .u8 0) (by omega)
  unfold put5
  refine ⟨h4.size, h4.below, h4.c, fun i o hi ho => ?_, h4.z⟩
  by_cases e : i = k
  · subst e
    have e5 : o = 0 ∨ o = 1 ∨ o = 2 ∨ o = 3 ∨ o = 4 := by omega
    rcases e5 with rfl | rfl | rfl | rfl | rfl
    · rw [World.cell?_setCell_other _ _ _ _ (by simp), World.cell?_setCell_other _ _ _ _ (by simp), World.cell?_setCell_other _ _ _ _ (by simp), World.cell?_setCell_other _ _ _ _ (by simp)]
      exact same_of (h.c _ (by omega))
    · rw [World.cell?_setCell_other _ _ _ _ (by simp), World.cell?_setCell_other _ _ _ _ (by simp), World.cell?_setCell_other _ _ _ _ (by simp)]
      exact same_of (h0.c _ (by omega))
    · rw [World.cell?_setCell_other _ _ _ _ (by simp), World.cell?_setCell_other _ _ _ _ (by simp)]
      exact same_of (h1.c _ (by omega))
    · rw [World.cell?_setCell_other _ _ _ _ (by simp)]
      exact same_of (h2.c _ (by omega))
    · exact same_of (h3.c _ (by omega))
  · exact h4.t i o (by omega) ho

def toksOf (n : Nat) (w : World) : World := w.alloc (.cells (madeCells #[.int .i32 0, .int .i32 0, .int .u16 0, .int .u8 0, .int .u8 0] (n * 5)) 60)

theorem info60 : (Tryd.prog.info? 60).map (fun i => (i.zero, i.size, i.bytes)) = some (some (.agg #[.int .i32 0, .int .i32 0, .int .u16 0, .int .u8 0, .int .u8 0]), 5, 12) := by kernel_rfl

theorem make47 (n : Nat) (hn : n ≤ 1048576) (w : World) : (Instr.makeSlice 47 (.int .i64 n) (.int .i64 n)).run Tryd.prog w = .ok (.slice (some ⟨w.heap.size, 0, none⟩) n n) (toksOf n w) := by
  obtain ⟨i, hi, h0, h1, h2⟩ := info_parts info60
  have := run_make (P := Tryd.prog) w 47 60 i _ Tryd.underlying47 hi h0 .i64 .i64 n n (by omega) (by omega) (by rw [h2]; omega) (by omega)
  rw [h1] at this
  exact this

theorem toksOf_start (n : Nat) (f : Nat → Tk) (w : World) : TkS w n 0 f (toksOf n w) := by
  refine ⟨by simp [toksOf, go_sem], (Below.refl _ _).alloc (Nat.le_refl _) _, fun o ho => ?_, fun i o hi => by omega, fun o => by simp [toksOf, go_sem]⟩
  cases hc : (toksOf n w).cell? ⟨w.heap.size, o, none⟩ with
  | some v => exact ⟨v, rfl⟩
  | none =>
    exfalso
    rw [toksOf] at hc
    simp [go_sem, madeCells] at hc
    omega

def cellAt (w : World) (a : Addr) : Value := (w.cell? a).getD (.int .u8 0)
theorem TkS.holds {w0 w : World} {n k : Nat} {f : Nat → Tk} (h : TkS w0 n k f w) (o : Nat) (ho : o < n * 5) : w.cell? ⟨w0.heap.size, o, none⟩ = some (cellAt w ⟨w0.heap.size, o, none⟩) := by
  obtain ⟨v, hv⟩ := h.c o ho
  rw [cellAt, hv]; rfl

set_option maxRecDepth 20000 in
theorem tok21 (k s l : Int) (w : World) :
    Calls Tryd.prog 21 #[.int .u8 k, .int .i32 s, .int .i32 l] w fun e w' => e = .returned (.agg #[.int .i32 s, .int .i32 l, .int .u16 0, .int .u8 k, .int .u8 0]) ∧ Below w.heap.size w w' := by
  go_enter Tryd.func21, Tryd.ntmps21
  go_wp2
  refine bodyPost_ret (v := .agg #[.int .i32 s, .int .i32 l, .int .u16 0, .int .u8 k, .int .u8 0]) (by simp [results, Tryd.results21, go_sem]) rfl ⟨rfl, (Below.refl _ _).alloc (Nat.le_refl _) _⟩

theorem store_run {w : World} {a : Addr} {m : Mode} (v : Value) (h1 : v.oneCell' = true) (hc : ∃ u, w.cell? a = some u) (hf : w.frozen? a = false) :
    (store a v m).run Tryd.prog w = .ok () (w.setCell a v) := by
  obtain ⟨u, hu⟩ := hc
  rw [run_store _ _ _ _ _ h1, hu]
  simp [hf]

abbrev TS (b1 o1 b2 o2 b3 o3 : Nat) (t : Tk) (w0 : World) (n k : Nat) (f : Nat → Tk) (w' : World) : Prop :=
  w'.cell? ⟨b1, o1, none⟩ = some (.int .u8 t.k) ∧ w'.cell? ⟨b2, o2, none⟩ = some (.int .i32 t.s) ∧ w'.cell? ⟨b3, o3, none⟩ = some (.int .i32 t.l) ∧ TkS w0 n k f w'

theorem TS.call {b1 o1 b2 o2 b3 o3 : Nat} {t : Tk} {w0 : World} {n k : Nat} {f : Nat → Tk} {w w' : World} (l1 : b1 < w0.heap.size) (l2 : b2 < w0.heap.size) (l3 : b3 < w0.heap.size) (h : TS b1 o1 b2 o2 b3 o3 t w0 n k f w) (hb : Below w.heap.size w w') : TS b1 o1 b2 o2 b3 o3 t w0 n k f w' := by
  obtain ⟨h1, h2, h3, h4⟩ := h
  have := h4.size
  refine ⟨?_, ?_, ?_, h4.call hb⟩
  · rw [hb.cell (p := ⟨b1, o1, none⟩) (by show b1 < _; omega)]; exact h1
  · rw [hb.cell (p := ⟨b2, o2, none⟩) (by show b2 < _; omega)]; exact h2
  · rw [hb.cell (p := ⟨b3, o3, none⟩) (by show b3 < _; omega)]; exact h3

theorem TS.put {b1 o1 b2 o2 b3 o3 : Nat} {t : Tk} {w0 : World} {n k : Nat} {f : Nat → Tk} {w : World} (l1 : b1 < w0.heap.size) (l2 : b2 < w0.heap.size) (l3 : b3 < w0.heap.size) (h : TS b1 o1 b2 o2 b3 o3 t w0 n k f w) (o : Nat) (v : Value) (ho : k * 5 ≤ o) : TS b1 o1 b2 o2 b3 o3 t w0 n k f (w.setCell ⟨w0.heap.size, o, none⟩ v) := by
  obtain ⟨h1, h2, h3, h4⟩ := h
  refine ⟨?_, ?_, ?_, h4.put o v ho⟩
  · rw [World.cell?_setCell_other _ _ _ _ (by simp <;> omega)]; exact h1
  · rw [World.cell?_setCell_other _ _ _ _ (by simp <;> omega)]; exact h2
  · rw [World.cell?_setCell_other _ _ _ _ (by simp <;> omega)]; exact h3

theorem TS.put5 {b1 o1 b2 o2 b3 o3 : Nat} {t : Tk} {w0 : World} {n k : Nat} {f : Nat → Tk} {w : World} (l1 : b1 < w0.heap.size) (l2 : b2 < w0.heap.size) (l3 : b3 < w0.heap.size) (h : TS b1 o1 b2 o2 b3 o3 t w0 n k f w) (v0 v1 v2 v3 v4 : Value) : TS b1 o1 b2 o2 b3 o3 t w0 n k f (put5 w0.heap.size (k * 5) v0 v1 v2 v3 v4 w) :=
  ((((h.put l1 l2 l3 (k * 5) v0 (Nat.le_refl _)).put l1 l2 l3 (k * 5 + 1) v1 (by omega)).put l1 l2 l3 (k * 5 + 2) v2 (by omega)).put l1 l2 l3 (k * 5 + 3) v3 (by omega)).put l1 l2 l3 (k * 5 + 4) v4 (by omega)

def tkOf (z1 z2 z3 : List Int) (i : Nat) : Tk := ⟨z2.getD i 0, z3.getD i 0, z1.getD i 0⟩

/-- inside the loop of b3Tokens -/
structure Lp (w0 : World) (n : Nat) (z1 z2 z3 : List Int) (i : Value) (w : World) : Prop where
  ex : ∃ k, k ≤ n ∧ i = .int .i64 k ∧ TkS w0 n k (tkOf z1 z2 z3) w

attribute [local go_sem] make47 in
set_option maxRecDepth 20000 in
set_option maxHeartbeats 4000000 in
theorem tokens17 (a1 a2 a3 : Option Addr) (n c1 c2 c3 : Nat) (z1 z2 z3 : List Int) (w : World) (hn : n ≤ 1048576) (h1 : Row .u8 w a1 n z1) (h2 : Row .i32 w a2 n z2) (h3 : Row .i32 w a3 n z3) :
    Calls Tryd.prog 17 #[.slice a1 n c1, .slice a2 n c2, .slice a3 n c3] w fun e w' => e = .returned (.slice (some ⟨w.heap.size, 0, none⟩) n n) ∧ TkS w n n (tkOf z1 z2 z3) w' := by
  have HA := Go.Lib.hid (toksOf_start n (tkOf z1 z2 z3) w)
  have H1 := Go.Lib.hid h1
  have H2 := Go.Lib.hid h2
  have H3 := Go.Lib.hid h3
  clear h1 h2 h3
  go_enter Tryd.func17, Tryd.ntmps17
  go_wp2_with fail
  go_loopw [8] (fun i wr => Lp w n z1 z2 z3 i wr) (fun i _ => n - (intOf i).toNat)
  case atStart => exact ⟨0, by omega, rfl, HA.out⟩
  case round =>
    obtain ⟨k, hk, rfl, hI⟩ := hrel.ex
    clear HA hrel
    by_cases hlt : k < n
    · obtain ⟨b1, o1, rfl, l1, q1⟩ := H1.out.cell (by omega)
      obtain ⟨b2, o2, rfl, l2, q2⟩ := H2.out.cell (by omega)
      obtain ⟨b3, o3, rfl, l3, q3⟩ := H3.out.cell (by omega)
      clear H1 H2 H3
      have hs : TS b1 (o1 + k) b2 (o2 + k) b3 (o3 + k) (tkOf z1 z2 z3 k) w n k (tkOf z1 z2 z3) wr := by
        refine ⟨?_, ?_, ?_, hI⟩
        · rw [hI.below.cell (p := ⟨b1, o1 + k, none⟩) l1]; exact q1 k hlt
        · rw [hI.below.cell (p := ⟨b2, o2 + k, none⟩) l2]; exact q2 k hlt
        · rw [hI.below.cell (p := ⟨b3, o3 + k, none⟩) l3]; exact q3 k hlt
      clear q1 q2 q3 hI
      have s0 : ∀ w' : World, TkS w n k (tkOf z1 z2 z3) w' → w'.cell? ⟨w.heap.size, k * 5, none⟩ = some (cellAt w' ⟨w.heap.size, k * 5, none⟩) := fun w' h => h.holds _ (by omega)
      have s1 : ∀ w' : World, TkS w n k (tkOf z1 z2 z3) w' → w'.cell? ⟨w.heap.size, k * 5 + 1, none⟩ = some (cellAt w' ⟨w.heap.size, k * 5 + 1, none⟩) := fun w' h => h.holds _ (by omega)
      have s2 : ∀ w' : World, TkS w n k (tkOf z1 z2 z3) w' → w'.cell? ⟨w.heap.size, k * 5 + 2, none⟩ = some (cellAt w' ⟨w.heap.size, k * 5 + 2, none⟩) := fun w' h => h.holds _ (by omega)
      have s3 : ∀ w' : World, TkS w n k (tkOf z1 z2 z3) w' → w'.cell? ⟨w.heap.size, k * 5 + 3, none⟩ = some (cellAt w' ⟨w.heap.size, k * 5 + 3, none⟩) := fun w' h => h.holds _ (by omega)
      have s4 : ∀ w' : World, TkS w n k (tkOf z1 z2 z3) w' → w'.cell? ⟨w.heap.size, k * 5 + 4, none⟩ = some (cellAt w' ⟨w.heap.size, k * 5 + 4, none⟩) := fun w' h => h.holds _ (by omega)
      have sz : ∀ (w' : World) (o : Nat), TkS w n k (tkOf z1 z2 z3) w' → w'.frozen? ⟨w.heap.size, o, none⟩ = false := fun w' o h => h.z o
      have HS := Go.Lib.hid hs
      have HN := Go.Lib.hid (fun wx (h : TkS w n k (tkOf z1 z2 z3) wx) => h.next hlt)
      clear hs
      generalize ht : tkOf z1 z2 z3 = f at *
      go_wp2_with fail
      go_region_held3 (fun w' => w'.cell? ⟨b1, o1 + k, none⟩ = some (.int .u8 (f k).k) ∧ w'.cell? ⟨b2, o2 + k, none⟩ = some (.int .i32 (f k).s) ∧ w'.cell? ⟨b3, o3 + k, none⟩ = some (.int .i32 (f k).l) ∧ TkS w n k f w')
        (first | with_reducible exact HS.out | with_reducible exact TS.call l1 l2 l3 HS.out (Below.refl _ _).drew | with_reducible exact TS.call l1 l2 l3 (by assumption) hb | with_reducible exact TS.put5 l1 l2 l3 (by assumption) _ _ _ _ _)
        (first | (go_at_call 21; refine (tok21 _ _ _ _).mono ?_; rintro e w1 ⟨rfl, hb⟩))
      rename_i hH
      have hw1 : TkS w n k f w1 := (HS.out.2.2.2.call (Below.refl _ _).drew).call hb
      have HX := Go.Lib.hid (HN.out _ hw1)
      clear hH s0 s1 s2 s3 s4 sz hw1 HN HS hb
      go_wp2_with fail
      go_roundw
      case rel => exact ⟨k + 1, by omega, by go_num, by rw [ht]; exact HX.out⟩
      case measure => simp [intOf]; omega
    · have e : k = n := by omega
      subst e
      have HI := Go.Lib.hid hI
      clear hI H1 H2 H3
      go_wp2_with fail
      go_ret
      exact ⟨rfl, HI.out⟩

/-- a parser at block p over the source s and the n tokens f in block r, its cursor at i -/
structure Psr (w : World) (p : Nat) (s : ByteArray) (r n : Nat) (f : Nat → Tk) (i : Int) : Prop where
  lt : p < w.heap.size
  rlt : r < w.heap.size
  ne : r ≠ p
  small : s.size ≤ 1048576 ∧ n ≤ 1048576
  c9 : w.cell? ⟨p, 9, none⟩ = some (.string s)
  c16 : w.cell? ⟨p, 16, none⟩ = some (.slice (some ⟨r, 0, none⟩) n n)
  c42 : w.cell? ⟨p, 42, none⟩ = some (.int .i64 i)
  z42 : w.frozen? ⟨p, 42, none⟩ = false
  t : ∀ j o, j < n → o < 5 → w.cell? ⟨r, j * 5 + o, none⟩ = some ((f j).at o)

theorem Psr.call {w w' : World} {p : Nat} {s : ByteArray} {r n : Nat} {f : Nat → Tk} {i : Int} (h : Psr w p s r n f i) (hb : Below w.heap.size w w') : Psr w' p s r n f i := by
  have := hb.size
  have h1 := h.lt
  have h2 := h.rlt
  refine ⟨by omega, by omega, h.ne, h.small, ?_, ?_, ?_, ?_, fun j o hj ho => ?_⟩
  · rw [hb.cell (p := ⟨p, 9, none⟩) h1]; exact h.c9
  · rw [hb.cell (p := ⟨p, 16, none⟩) h1]; exact h.c16
  · rw [hb.cell (p := ⟨p, 42, none⟩) h1]; exact h.c42
  · rw [hb.frozen (p := ⟨p, 42, none⟩) h1]; exact h.z42
  · rw [hb.cell (p := ⟨r, j * 5 + o, none⟩) h2]; exact h.t j o hj ho

set_option maxRecDepth 20000 in
set_option maxHeartbeats 1000000 in
theorem new18 (s : ByteArray) (n : Nat) (f : Nat → Tk) (i : Int) (w0 w : World) (h : TkS w0 n n f w) (hs : s.size ≤ 1048576) (hn : n ≤ 1048576) :
    Calls Tryd.prog 18 #[.string s, .slice (some ⟨w0.heap.size, 0, none⟩) n n, .int .i64 i] w fun e w' => e = .returned (.pointer (some ⟨w.heap.size, 0, none⟩)) ∧ Psr w' w.heap.size s w0.heap.size n f i ∧ Below w.heap.size w w' := by
  have H := Go.Lib.hid h
  clear h
  go_enter Tryd.func18, Tryd.ntmps18
  go_wp2
  go_ret
  have h := H.out
  have hsz := h.size
  refine ⟨rfl, ⟨by simp [go_sem], by simp [go_sem]; omega, by omega, ⟨hs, hn⟩, by simp [go_sem], by simp [go_sem], by simp [go_sem], by simp [go_sem], fun j o hj ho => ?_⟩, (Below.refl _ _).alloc (Nat.le_refl _) _⟩
  rw [World.cell?_alloc_lt _ _ _ hsz]; exact h.t j o hj ho

/-- the token at place i: past the end, the end of the file -/
def cur (s : ByteArray) (n : Nat) (f : Nat → Tk) (i : Nat) : Tk := if i < n then f i else ⟨s.size, 0, 0⟩

set_option maxRecDepth 20000 in
set_option maxHeartbeats 1000000 in
theorem at28 (p : Nat) (s : ByteArray) (r n : Nat) (f : Nat → Tk) (c : Int) (i : Nat) (w : World) (h : Psr w p s r n f c) (hi : i ≤ n) :
    Calls Tryd.prog 28 #[.pointer (some ⟨p, 0, none⟩), .int .i64 i] w fun e w' => e = .returned (.agg #[.int .i32 (cur s n f i).s, .int .i32 (cur s n f i).l, .int .u16 0, .int .u8 (cur s n f i).k, .int .u8 0]) ∧ Below w.heap.size w w' := by
  have q9 := h.c9
  have q16 := h.c16
  have hlt := h.lt
  have hrl := h.rlt
  obtain ⟨hs, hn⟩ := h.small
  by_cases hin : i < n
  · have e : cur s n f i = f i := if_pos hin
    have t0 : w.cell? ⟨r, i * 5, none⟩ = some (.int .i32 (f i).s) := h.t i 0 hin (by omega)
    have t1 : w.cell? ⟨r, i * 5 + 1, none⟩ = some (.int .i32 (f i).l) := h.t i 1 hin (by omega)
    have t2 : w.cell? ⟨r, i * 5 + 2, none⟩ = some (.int .u16 0) := h.t i 2 hin (by omega)
    have t3 : w.cell? ⟨r, i * 5 + 3, none⟩ = some (.int .u8 (f i).k) := h.t i 3 hin (by omega)
    have t4 : w.cell? ⟨r, i * 5 + 4, none⟩ = some (.int .u8 0) := h.t i 4 hin (by omega)
    rw [e]
    generalize f i = tt at *
    clear h
    go_enter Tryd.func28, Tryd.ntmps28
    go_wp2
    refine bodyPost_ret (v := .agg #[.int .i32 tt.s, .int .i32 tt.l, .int .u16 0, .int .u8 tt.k, .int .u8 0]) (by simp [results, Tryd.results28, go_sem]) rfl ⟨rfl, ?_⟩
    exact (Below.refl _ _).alloc (Nat.le_refl _) _
  · have e : cur s n f i = ⟨s.size, 0, 0⟩ := if_neg hin
    rw [e]
    clear h
    go_enter Tryd.func28, Tryd.ntmps28
    go_wp2
    refine bodyPost_ret (v := .agg #[.int .i32 s.size, .int .i32 0, .int .u16 0, .int .u8 0, .int .u8 0]) (by simp [results, Tryd.results28, go_sem]) rfl ⟨rfl, ?_⟩
    exact (Below.refl _ _).alloc (Nat.le_refl _) _

set_option maxRecDepth 20000 in
set_option maxHeartbeats 1000000 in
theorem current25 (p : Nat) (s : ByteArray) (r n : Nat) (f : Nat → Tk) (i : Nat) (w : World) (h : Psr w p s r n f i) (hi : i ≤ n) :
    Calls Tryd.prog 25 #[.pointer (some ⟨p, 0, none⟩)] w fun e w' => e = .returned (.agg #[.int .i32 (cur s n f i).s, .int .i32 (cur s n f i).l, .int .u16 0, .int .u8 (cur s n f i).k, .int .u8 0]) ∧ Below w.heap.size w w' := by
  have q42 := h.c42
  have hlt := h.lt
  have H := Go.Lib.hid h
  clear h
  obtain ⟨tt, ht⟩ : ∃ tt, tt = cur s n f i := ⟨_, rfl⟩
  rw [← ht]
  go_enter Tryd.func25, Tryd.ntmps25
  go_wp2_with fail
  refine (at28 p s r n f i i _ (H.out.call ((Below.refl _ _).alloc (Nat.le_refl _) _)) hi).mono ?_
  rw [← ht]
  rintro e w2 ⟨rfl, hb⟩
  have hb2 : Below w.heap.size w w2 := ((Below.refl _ _).alloc (Nat.le_refl _) _).trans (hb.mono (by simp [go_sem]))
  have c0 : ∀ o, o < 5 → ∃ v, w2.cell? ⟨w.heap.size, o, none⟩ = some v := by
    intro o ho
    have e5 : o = 0 ∨ o = 1 ∨ o = 2 ∨ o = 3 ∨ o = 4 := by omega
    rw [hb.cell (p := ⟨w.heap.size, o, none⟩) (by simp [go_sem])]
    rcases e5 with rfl | rfl | rfl | rfl | rfl <;> exact ⟨_, by simp [go_sem]; rfl⟩
  have z0 : ∀ o, w2.frozen? ⟨w.heap.size, o, none⟩ = false := by
    intro o
    rw [hb.frozen (p := ⟨w.heap.size, o, none⟩) (by simp [go_sem])]
    simp [go_sem]
  obtain ⟨v0, y0⟩ := c0 0 (by omega)
  obtain ⟨v1, y1⟩ := c0 1 (by omega)
  obtain ⟨v2, y2⟩ := c0 2 (by omega)
  obtain ⟨v3, y3⟩ := c0 3 (by omega)
  obtain ⟨v4, y4⟩ := c0 4 (by omega)
  have HB := Go.Lib.hid hb2
  clear hb hb2 H c0 q42 ht
  go_wp2
  refine bodyPost_ret (v := .agg #[.int .i32 tt.s, .int .i32 tt.l, .int .u16 0, .int .u8 tt.k, .int .u8 0]) (by simp [results, Tryd.results25, go_sem, y0, y1, y2, y3, y4]) rfl ⟨rfl, ?_⟩
  exact ((((HB.out.setCell (Nat.le_refl _) _).setCell (Nat.le_refl _) _).setCell (Nat.le_refl _) _).setCell (Nat.le_refl _) _).setCell (Nat.le_refl _) _


set_option maxRecDepth 20000 in
theorem end29 (a b : Nat) (w : World) (h : a + b ≤ 1048576) :
    Calls Tryd.prog 29 #[.agg #[.int .i32 a, .int .i32 b]] w fun e w' => e = .returned (.int .i32 ((a + b : Nat) : Int)) ∧ Below w.heap.size w w' := by
  go_enter Tryd.func29, Tryd.ntmps29
  go_wp2
  go_ret
  exact ⟨by go_num, (Below.refl _ _).alloc (Nat.le_refl _) _⟩

/-- grown behind block N, nothing below B turned -/
structure Gr (B N : Nat) (w0 w : World) : Prop where
  size : N < w.heap.size
  below : Below B w0 w

abbrev RS (p N B : Nat) (s : ByteArray) (a b : Nat) (w0 w' : World) : Prop :=
  w'.cell? ⟨p, 9, none⟩ = some (.string s) ∧ w'.cell? ⟨N, 0, none⟩ = some (.int .i32 a) ∧ w'.cell? ⟨N, 1, none⟩ = some (.int .i32 b) ∧ Gr B N w0 w'

theorem RS.call {p N B : Nat} {s : ByteArray} {a b : Nat} {w0 w w' : World} (hp : p < N) (hB : B ≤ N) (h : RS p N B s a b w0 w) (hb : Below w.heap.size w w') : RS p N B s a b w0 w' := by
  obtain ⟨h1, h2, h3, h4⟩ := h
  have hs := h4.size
  have hz := hb.size
  refine ⟨?_, ?_, ?_, ⟨by omega, h4.below.trans (hb.mono (by omega))⟩⟩
  · rw [hb.cell (p := ⟨p, 9, none⟩) (by show p < _; omega)]; exact h1
  · rw [hb.cell (p := ⟨N, 0, none⟩) hs]; exact h2
  · rw [hb.cell (p := ⟨N, 1, none⟩) hs]; exact h3

end Go.Proofs.YtlpjejnfniiilaaDoor
