/-
  The two counts of bytes, the kind of a code, the unit of a token. Conditions: the shapes of the lists.
-/
import Derived.Test.YtlpjejnfniiilaaDoorBa
namespace Go.Proofs.YtlpjejnfniiilaaDoor
open Go.ChangeShapes Go.WideShapes Go.ChangeAt Go.RowKit

def tz (z : List ByteArray) (i : Nat) : ByteArray := z.getD i ByteArray.empty

/-- an answer; if it is yes, then P -/
structure SomeB (P : Prop) (w : World) (e : Ending) (w' : World) : Prop where
  ex : ∃ b, e = .returned (.bool b) ∧ w' = w ∧ (b = true → P)
theorem SomeB.no {P : Prop} {w : World} : SomeB P w (.returned (.bool false)) w := ⟨false, rfl, rfl, by simp⟩
theorem SomeB.yes {P : Prop} {w : World} (h : P) : SomeB P w (.returned (.bool true)) w := ⟨true, rfl, rfl, fun _ => h⟩

def Short (n : Nat) (z : List ByteArray) : Prop := ∀ i, i < n → (tz z i).size ≤ 1048576
theorem Short.next {k : Nat} {z : List ByteArray} (h : Short k z) (hk : (tz z k).size ≤ 1048576) : Short (k + 1) z := by
  intro i hi
  by_cases e : i = k
  · subst e; exact hk
  · exact h i (by omega)

set_option maxRecDepth 20000 in
set_option maxHeartbeats 2000000 in
theorem bytes5 (a0 a1 a2 : Option Addr) (l0 l1 l2 c0 c1 c2 : Nat) (z1 : List ByteArray) (w : World) (h0 : l0 ≤ maxLen) (h1 : l1 ≤ maxLen) (h2 : l2 ≤ maxLen) (h : RowT w a1 l1 z1) :
    Calls Tryd.prog 5 #[.slice a0 l0 c0, .slice a1 l1 c1, .slice a2 l2 c2] w (SomeB (Short l1 z1) w) := by
  simp only [maxLen] at h0 h1 h2
  have H := Lib.hid h
  clear h
  go_enter Tryd.func5, Tryd.ntmps5
  by_cases g0 : l0 ≤ 1048576
  · by_cases g1 : l1 ≤ 1048576
    · by_cases g2 : l0 + l1 ≤ 1048576
      · go_wp2_with fail
        go_loopw [8, 7] (fun i s wr => wr = w ∧ ∃ k t : Nat, k ≤ l1 ∧ i = .int .i64 k ∧ s = .int .i64 t ∧ t ≤ 1048576 ∧ Short k z1) (fun i _ _ => l1 - (intOf i).toNat)
        case atStart => exact ⟨rfl, 0, l0 + l1, by omega, rfl, by first | rfl | go_num, by omega, fun i hi => by omega⟩
        case round =>
          obtain ⟨rfl, k, t, hk, rfl, rfl, ht, hu⟩ := hrel
          by_cases hlt : k < l1
          · obtain ⟨b, o, rfl, hb, hc⟩ := H.out.cell (by omega)
            have q := hc k hlt
            have wf := H.out.wf k hlt
            have HN := Lib.hid (fun x => hu.next (k := k) (z := z1) x)
            unfold tz at HN
            clear hc H hu
            generalize z1.getD k ByteArray.empty = X at *
            simp only [maxLen] at wf
            by_cases p2 : X.size ≤ 1048576
            · by_cases p3 : t + X.size ≤ 1048576
              · go_wp2_with fail
                go_roundw
                case rel => exact ⟨by first | rfl | trivial, k + 1, t + X.size, by omega, by go_num, by go_num, by omega, HN.out p2⟩
                case measure => simp [intOf]; omega
              · go_wp2_with fail
                go_ret
                exact SomeB.no
            · go_wp2_with fail
              go_ret
              exact SomeB.no
          · have e : k = l1 := by omega
            subst e
            have HU := Lib.hid hu
            clear hu H
            by_cases p2 : l2 ≤ 1048576
            · by_cases p3 : t + l2 ≤ 1048576
              · go_wp2_with fail
                go_ret
                exact SomeB.yes HU.out
              · go_wp2_with fail
                go_ret
                exact SomeB.no
            · go_wp2_with fail
              go_ret
              exact SomeB.no
      · clear H
        go_wp2
        go_ret
        exact SomeB.no
    · clear H
      go_wp2
      go_ret
      exact SomeB.no
  · clear H
    go_wp2
    go_ret
    exact SomeB.no

/-- a number that is not great -/
structure SomeN (w : World) (e : Ending) (w' : World) : Prop where
  ex : ∃ t : Nat, e = .returned (.int .i64 t) ∧ w' = w ∧ t ≤ 4194304

set_option maxRecDepth 20000 in
set_option maxHeartbeats 2000000 in
theorem texts6 (a1 : Option Addr) (l1 c1 : Nat) (z1 : List ByteArray) (w : World) (h1 : l1 ≤ 65536) (h : RowT w a1 l1 z1) (hs : Short l1 z1) :
    Calls Tryd.prog 6 #[.slice a1 l1 c1] w (SomeN w) := by
  have H := Lib.hid h
  have HS := Lib.hid hs
  clear h hs
  go_enter Tryd.func6, Tryd.ntmps6
  go_wp2_with fail
  go_loopw [4, 3] (fun i s wr => wr = w ∧ ∃ k t : Nat, k ≤ l1 ∧ i = .int .i64 k ∧ s = .int .i64 t ∧ t ≤ 1048576) (fun i _ _ => l1 - (intOf i).toNat)
  case atStart => exact ⟨by first | trivial | rfl, 0, 16 * l1, by omega, rfl, by first | rfl | go_num, by omega⟩
  case round =>
    obtain ⟨rfl, k, t, hk, rfl, rfl, ht⟩ := hrel
    by_cases hlt : k < l1
    · obtain ⟨b, o, rfl, hb, hc⟩ := H.out.cell (by omega)
      have q := hc k hlt
      have wf := HS.out k hlt
      unfold tz at wf
      clear hc H HS
      generalize z1.getD k ByteArray.empty = X at *
      by_cases p3 : t + X.size ≤ 1048576
      · go_wp2_with fail
        go_roundw
        case rel => exact ⟨by first | rfl | trivial, k + 1, t + X.size, by omega, by go_num, by go_num, by omega⟩
        case measure => simp [intOf]; omega
      · go_wp2_with fail
        go_ret
        exact ⟨t + X.size, by go_num, rfl, by omega⟩
    · clear H HS
      go_wp2_with fail
      go_ret
      exact ⟨t, rfl, rfl, by omega⟩

def kd (x : Int) : Int := if x % 5 = 0 then 0 else if x % 5 = 1 then 30 else if x % 5 = 2 then 34 else if x % 5 = 3 then 26 else 29

set_option maxRecDepth 20000 in
theorem kind10 (x : Int) (w : World) (_h0 : 0 ≤ x) (_h1 : x ≤ 255) :
    Calls Tryd.prog 10 #[.int .u8 x] w fun e w' => e = .returned (.int .u8 (kd x)) ∧ w' = w := by
  go_enter Tryd.func10, Tryd.ntmps10
  go_wp2
  all_goals
    go_ret
    exact ⟨by simp_all [kd], rfl⟩

/-- a token of the law's making -/
def tok (k : Int) (t : ByteArray) (o : Nat) : Value := .agg #[.pointer none, .string t, .int .i32 0, .int .u32 0, .int .u16 o, .int .u8 k, .int .u8 0]
def cells7 (k : Int) (t : ByteArray) (o : Nat) : Array Value := #[.pointer none, .string t, .int .i32 0, .int .u32 0, .int .u16 o, .int .u8 k, .int .u8 0]

set_option maxRecDepth 20000 in
theorem unit24 (k : Int) (t : ByteArray) (o : Nat) (w : World) (h : o ≤ t.size) (_ht : t.size ≤ 1048576) :
    Calls Tryd.prog 24 #[tok k t o] w fun e w' => e = .returned (.string (t.extract o t.size)) ∧ w' = w.alloc (.cells (cells7 k t o) 39) := by
  unfold tok cells7
  go_enter Tryd.func24, Tryd.ntmps24
  go_wp2
  go_ret
  exact ⟨rfl, rfl⟩
end Go.Proofs.YtlpjejnfniiilaaDoor
