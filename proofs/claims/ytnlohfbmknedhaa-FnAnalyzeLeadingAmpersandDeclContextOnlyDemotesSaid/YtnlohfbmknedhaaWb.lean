/-
  The contracts of the token-list laws' helpers: size and shape tests. No conditions beyond the types.
-/
import Derived.Test.YtnlohfbmknedhaaIo
import Derived.WalkKit
import Derived.ProofKit
import Derived.OpenShut
import Derived.LoopTactic
import Derived.RegionTactic
import Derived.Lib.Hide
import Derived.Below
import Derived.WalkSmall
import Derived.OwnWalk
import Derived.Laws.MakeOwn
import Derived.Deep.RegionHeld3
import Derived.Deep.QuietTactic
import Derived.BigQuiet
namespace Go.Proofs.Ytnlohfbmknedhaa
open Go.ChangeShapes Go.WideShapes Go.ChangeAt Go.RowKit

/-- a slice of integers that came in: nil, or a row of 'cap' cells, the numbers 'zs' (the first 'len' its elements) -/
def IsRow (k : IntKind) (w : World) (a : Option Addr) (len cap : Nat) (zs : List Int) : Prop :=
  (a = none ∧ len = 0 ∧ cap = 0 ∧ zs = []) ∨
  ∃ x, a = some x ∧ len ≤ cap ∧ cap ≤ maxLen ∧ zs.length = cap ∧ (∀ i, i < zs.length → w.cell? (x.add i) = some (.int k (zs.getD i 0))) ∧ ∀ n ∈ zs, (Lit.int k n).wf = true

/-- the row as the walks read it -/
structure Row (k : IntKind) (w : World) (a : Option Addr) (n : Nat) (z : List Int) : Prop where
  cell : 0 < n → ∃ b off, a = some ⟨b, off, none⟩ ∧ b < w.heap.size ∧ ∀ i, i < n → w.cell? ⟨b, off + i, none⟩ = some (.int k (z.getD i 0))
  wf : ∀ i, i < n → (Lit.int k (z.getD i 0)).wf = true

theorem cell_lt {w : World} {a : Addr} {v : Value} (h : w.cell? a = some v) : a.block < w.heap.size ∧ a.spot = none := by
  unfold World.cell? at h
  cases hb : w.heap[a.block]? with
  | none => rw [hb] at h; cases h
  | some o =>
    have := (Array.getElem?_eq_some_iff.1 hb).1
    refine ⟨this, ?_⟩
    rw [hb] at h
    cases o with
    | cells c e f =>
      simp only at h
      cases hs : a.spot with
      | none => rfl
      | some x => rw [hs] at h; simp at h
    | _ => simp at h

theorem IsRow.row {k : IntKind} {w : World} {a : Option Addr} {n c : Nat} {z : List Int} (h : IsRow k w a n c z) : Row k w a n z ∧ n ≤ maxLen := by
  rcases h with ⟨rfl, rfl, rfl, rfl⟩ | ⟨x, rfl, hl, hm, hz, hc, hw⟩
  · exact ⟨⟨fun h => by omega, fun i h => by omega⟩, by simp [maxLen]⟩
  · refine ⟨⟨fun h => ?_, fun i hi => ?_⟩, by omega⟩
    · have h0 := hc 0 (by omega)
      obtain ⟨h1, h2⟩ := cell_lt h0
      obtain ⟨b, off, sp⟩ := x
      have h1' : b < w.heap.size := h1
      have h2' : sp = none := h2
      subst h2'
      refine ⟨b, off, rfl, h1', fun i hi => ?_⟩
      have q := hc i (by omega)
      by_cases e : i = 0
      · subst e; simpa [Addr.add] using q
      · simpa [Addr.add, e] using q
    · have : i < z.length := by omega
      rw [List.getD_eq_getElem?_getD, List.getElem?_eq_getElem this]
      exact hw _ (List.getElem_mem _)

theorem Row.below {k : IntKind} {w w' : World} {a : Option Addr} {n : Nat} {z : List Int} (h : Row k w a n z) {B : Nat} (hB : w.heap.size ≤ B) (hb : Below B w w') : Row k w' a n z := by
  refine ⟨fun hn => ?_, h.wf⟩
  obtain ⟨b, off, e, hlt, hc⟩ := h.cell hn
  refine ⟨b, off, e, ?_, fun i hi => ?_⟩
  · have := hb.size
    omega
  · rw [hb.cell (p := ⟨b, off + i, none⟩) (by show b < B; omega)]; exact hc i hi

set_option maxRecDepth 20000 in
theorem bytes11 (s : ByteArray) (a1 a2 a3 : Option Addr) (l1 l2 l3 c1 c2 c3 : Nat) (i k : Int) (w : World) (hs : s.size ≤ maxLen) (h1 : l1 ≤ maxLen) (h2 : l2 ≤ maxLen) (h3 : l3 ≤ maxLen) :
    Calls Try.prog 11 #[.string s, .slice a1 l1 c1, .slice a2 l2 c2, .slice a3 l3 c3, .int .i64 i, .int .u8 k] w fun e w' => e = .returned (.bool (decide (s.size + l1 + l2 + l3 ≤ 1048576))) ∧ w' = w := by
  simp only [maxLen] at hs h1 h2 h3
  go_enter Try.func11, Try.ntmps11
  by_cases g0 : s.size ≤ 1048576
  · by_cases g1 : s.size + l1 ≤ 1048576
    · by_cases g2 : s.size + l1 + l2 ≤ 1048576
      · by_cases g3 : s.size + l1 + l2 + l3 ≤ 1048576
        · go_wp2
          go_ret
          exact ⟨by simp [g3], rfl⟩
        · by_cases g4 : l3 ≤ 1048576
          all_goals
            go_wp2
            go_ret
            exact ⟨by simp [g3], rfl⟩
      · have g3 : ¬ s.size + l1 + l2 + l3 ≤ 1048576 := by omega
        by_cases g4 : l2 ≤ 1048576
        all_goals
          go_wp2
          go_ret
          exact ⟨by simp [g3], rfl⟩
    · have g3 : ¬ s.size + l1 + l2 + l3 ≤ 1048576 := by omega
      by_cases g4 : l1 ≤ 1048576
      all_goals
        go_wp2
        go_ret
        exact ⟨by simp [g3], rfl⟩
  · have g3 : ¬ s.size + l1 + l2 + l3 ≤ 1048576 := by omega
    go_wp2
    go_ret
    exact ⟨by simp [g3], rfl⟩

def Small (s : ByteArray) (l1 l2 l3 : Nat) : Prop := s.size + l1 + 4 * l2 + 4 * l3 ≤ 1048576

set_option maxRecDepth 20000 in
theorem size12_yes (s : ByteArray) (a1 a2 a3 : Option Addr) (l1 l2 l3 c1 c2 c3 : Nat) (w : World) (h : Small s l1 l2 l3) :
    Calls Try.prog 12 #[.string s, .slice a1 l1 c1, .slice a2 l2 c2, .slice a3 l3 c3] w fun e w' => e = .returned (.bool true) ∧ w' = w := by
  unfold Small at h
  have hb : decide ((s.size : Int) + l1 + 4 * l2 + 4 * l3 ≤ 1048576) = true := decide_eq_true (by omega)
  go_enter Try.func12, Try.ntmps12
  go_wp2
  go_ret
  exact ⟨by first | rfl | simp [hb] | (simp; omega), rfl⟩

set_option maxRecDepth 20000 in
set_option maxHeartbeats 1000000 in
theorem size12_no (s : ByteArray) (a1 a2 a3 : Option Addr) (l1 l2 l3 c1 c2 c3 : Nat) (w : World) (h : ¬ Small s l1 l2 l3) (hs : s.size + l1 + l2 + l3 ≤ 1048576) :
    Calls Try.prog 12 #[.string s, .slice a1 l1 c1, .slice a2 l2 c2, .slice a3 l3 c3] w fun e w' => e = .returned (.bool false) ∧ w' = w := by
  unfold Small at h
  have hb : decide ((s.size : Int) + l1 + 4 * l2 + 4 * l3 ≤ 1048576) = false := decide_eq_false (by omega)
  go_enter Try.func12, Try.ntmps12
  by_cases g1 : l2 ≤ 262144
  · by_cases g2 : l3 ≤ 262144
    all_goals
      go_wp2
      go_ret
      exact ⟨by first | rfl | simp [hb] | (simp; omega), rfl⟩
  · go_wp2
    go_ret
    exact ⟨by first | rfl | simp [hb] | (simp; omega), rfl⟩

theorem wf_i32 {x : Int} (h : (Lit.int .i32 x).wf = true) : -2147483648 ≤ x ∧ x ≤ 2147483647 := by
  have hm : IntKind.i32.min = -2147483648 := by decide
  have hM : IntKind.i32.max = 2147483647 := by decide
  simp only [Lit.wf, Bool.and_eq_true, decide_eq_true_eq] at h
  omega

/-- an answer; if it is yes, then P -/
structure SomeB (P : Prop) (w : World) (e : Ending) (w' : World) : Prop where
  ex : ∃ b n, e = .returned (.bool b) ∧ w' = w.drewN n ∧ (b = true → P)
theorem SomeB.no {P : Prop} {w : World} (n : Nat) : SomeB P w (.returned (.bool false)) (w.drewN n) := ⟨false, n, rfl, rfl, by simp⟩
theorem SomeB.yes {P : Prop} {w : World} (n : Nat) (h : P) : SomeB P w (.returned (.bool true)) (w.drewN n) := ⟨true, n, rfl, rfl, fun _ => h⟩
theorem SomeB.no0 {P : Prop} {w : World} : SomeB P w (.returned (.bool false)) w := ⟨false, 0, rfl, rfl, by simp⟩

/-- one start and one length per kind, every range inside the source -/
def Shp (s : ByteArray) (n l2 l3 : Nat) (z2 z3 : List Int) : Prop :=
  n = l2 ∧ n = l3 ∧ ∀ i, i < n → 0 ≤ z2.getD i 0 ∧ 0 ≤ z3.getD i 0 ∧ z2.getD i 0 + z3.getD i 0 ≤ s.size

def Upto (s : ByteArray) (k : Nat) (z2 z3 : List Int) : Prop := ∀ i, i < k → 0 ≤ z2.getD i 0 ∧ 0 ≤ z3.getD i 0 ∧ z2.getD i 0 + z3.getD i 0 ≤ s.size

theorem Upto.next {s : ByteArray} {k : Nat} {z2 z3 : List Int} (h : Upto s k z2 z3) (h2 : 0 ≤ z2.getD k 0) (h3 : 0 ≤ z3.getD k 0) (h4 : z2.getD k 0 + z3.getD k 0 ≤ s.size) : Upto s (k + 1) z2 z3 := by
  intro i hi
  by_cases e : i = k
  · subst e; exact ⟨h2, h3, h4⟩
  · exact h i (by omega)

set_option maxRecDepth 20000 in
set_option maxHeartbeats 2000000 in
theorem shape13 (s : ByteArray) (a1 a2 a3 : Option Addr) (l1 l2 l3 c1 c2 c3 : Nat) (z2 z3 : List Int) (w : World) (hs : Small s l1 l2 l3) (h2 : Row .i32 w a2 l2 z2) (h3 : Row .i32 w a3 l3 z3) :
    Calls Try.prog 13 #[.string s, .slice a1 l1 c1, .slice a2 l2 c2, .slice a3 l3 c3] w (SomeB (Shp s l1 l2 l3 z2 z3) w) := by
  unfold Small at hs
  go_enter Try.func13, Try.ntmps13
  by_cases g2 : l1 = l2
  · subst g2
    by_cases g3 : l1 = l3
    · subst g3
      go_wp2_with fail
      go_loopw [9] (fun i wr => ∃ k m : Nat, k ≤ l1 ∧ i = .int .i64 k ∧ wr = w.drewN m ∧ Upto s k z2 z3) (fun i _ => l1 - (intOf i).toNat)
      case atStart => exact ⟨0, 0, by omega, rfl, rfl, fun i hi => by omega⟩
      case round =>
        obtain ⟨k, m, hk, rfl, rfl, hu⟩ := hrel
        by_cases hlt : k < l1
        · obtain ⟨b2, o2, rfl, hb2, hc2⟩ := h2.cell (by omega)
          obtain ⟨b3, o3, rfl, hb3, hc3⟩ := h3.cell (by omega)
          have q2 := hc2 k hlt
          have q3 := hc3 k hlt
          obtain ⟨x2, y2⟩ := wf_i32 (h2.wf k hlt)
          obtain ⟨x3, y3⟩ := wf_i32 (h3.wf k hlt)
          have HN := Lib.hid (fun a b c => hu.next (z2 := z2) (z3 := z3) (k := k) a b c)
          clear hc2 hc3 h2 h3 hu
          generalize z2.getD k 0 = X2 at *
          generalize z3.getD k 0 = X3 at *
          by_cases p2 : X2 < 0
          · go_wp2
            go_ret
            exact SomeB.no _
          · by_cases p3 : X3 < 0
            · go_wp2
              go_ret
              exact SomeB.no _
            · by_cases p4 : X2 + X3 ≤ s.size
              · go_wp2_with fail
                go_quiet (fail)
                go_wp2_with fail
                go_roundw
                case rel => exact ⟨k + 1, _, by omega, by go_num, by first | rfl | rw [World.drewN_drewN], HN.out (by omega) (by omega) (by omega)⟩
                case measure => simp [intOf]; omega
              · go_wp2_with fail
                go_quiet (fail)
                go_wp2_with fail
                go_ret
                first | exact SomeB.no _ | (rw [World.drewN_drewN]; exact SomeB.no _)
        · have e : k = l1 := by omega
          subst e
          have HU := Lib.hid hu
          clear hu h2 h3
          go_wp2
          go_ret
          exact SomeB.yes _ ⟨rfl, rfl, HU.out⟩
    · clear h2 h3
      go_wp2
      go_ret
      exact SomeB.no0
  · clear h2 h3
    go_wp2
    go_ret
    exact SomeB.no0
end Go.Proofs.Ytnlohfbmknedhaa
