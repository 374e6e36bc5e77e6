/-
  Escapes: what the decoder of a token's text computes, as plain functions; the contracts of isHex and isWhitespace. No conditions.
-/
import Derived.Test.YtlpjejnfniiilaaDoorSh
import Derived.Test.YtlpjejnfniiilaaDoorBa
namespace Go.Proofs.YtlpjejnfniiilaaDoor
open Go.ChangeShapes Go.WideShapes Go.ChangeAt Go.RowKit Go.Lib

theorem dn_le_n (n b0 b1 b2 b3 : Nat) (hn : 1 ≤ n) : (decodeN n b0 b1 b2 b3).2 ≤ n := by
  unfold decodeN
  repeat' split
  all_goals (simp only; omega)
theorem dg_le (s : ByteArray) : (decodeGo s).2 ≤ s.size := by
  unfold decodeGo
  split
  · simp
  · rw [decode_at]; exact dn_le_n _ _ _ _ _ (by omega)
theorem dg_pos (s : ByteArray) (h : 0 < s.size) : 1 ≤ (decodeGo s).2 := by
  unfold decodeGo
  rw [if_neg (by omega)]
  exact width_pos s 0
theorem dg_rune (s : ByteArray) : (decodeGo s).1 ≤ 1114111 := by
  unfold decodeGo
  split
  · simp
  · rw [decode_at]; exact decodeN_rune_le _ _ _ _ _ (UInt8.toNat_lt _)

theorem bAt_below {T e : TypeId} {B b : Nat} {p : Value} {bs : List Value} {W W' : World} (h : BuilderAtF T e B b p bs W) (hb : Below W.heap.size W W') : BuilderAtF T e B b p bs W' := by
  have hlt := h.lt
  obtain ⟨hB, v, hv, hown, hne⟩ := h
  exact ⟨hB, v, (hb.block b hlt).trans hv, hown.kept (row := none) ⟨hb.os, hb.tape, hb.output, hb.size, fun k hk _ => hb.block k hk⟩ (Classical.em _), hne⟩
theorem isB_below {T e : TypeId} {B b : Nat} {bs : List Value} {W W' : World} (h : IsBuilderF T e B b bs W) (hb : Below W.heap.size W W') : IsBuilderF T e B b bs W' :=
  h.elim (fun x => .inl (bAt_below x hb)) (fun x => .inr (bAt_below x hb))

def tl (s : ByteArray) (k : Nat) : ByteArray := s.extract k s.size
theorem tl_size (s : ByteArray) (k : Nat) : (tl s k).size = s.size - k := by simp [tl]
def hexv (c : Nat) : Option Nat := if 48 ≤ c ∧ c ≤ 57 then some (c - 48) else if 97 ≤ c ∧ c ≤ 102 then some (c - 87) else if 65 ≤ c ∧ c ≤ 70 then some (c - 55) else none
theorem hexv_le {c h : Nat} (e : hexv c = some h) : h ≤ 15 := by
  unfold hexv at e
  split at e
  · simp at e; omega
  · split at e
    · simp at e; omega
    · split at e
      · simp at e; omega
      · cases e
def hx : Nat → ByteArray → Nat → ByteArray × Nat
  | 0, s, h => (s, h)
  | n + 1, s, h => if s.size = 0 then (s, h) else match hexv (decodeGo s).1 with
    | some x => hx n (tl s (decodeGo s).2) (h * 16 + x)
    | none => (s, h)
theorem hx_size : ∀ (n : Nat) (s : ByteArray) (h : Nat), (hx n s h).1.size ≤ s.size
  | 0, s, h => Nat.le_refl _
  | n + 1, s, h => by
    unfold hx
    split
    · exact Nat.le_refl _
    · split
      · have := hx_size n (tl s (decodeGo s).2) (h * 16 + ‹Nat›)
        rw [tl_size] at this
        omega
      · exact Nat.le_refl _
def ws (c : Nat) : Bool := c == 32 || c == 9 || c == 10 || c == 13 || c == 12
def esc (s : ByteArray) : ByteArray := if s.size = 0 then s else if ws (decodeGo s).1 then tl s (decodeGo s).2 else s
theorem esc_size (s : ByteArray) : (esc s).size ≤ s.size := by
  unfold esc
  split
  · exact Nat.le_refl _
  · split
    · rw [tl_size]; omega
    · exact Nat.le_refl _
def bad (h : Nat) : Bool := h == 0 || (decide (55296 ≤ h) && decide (h ≤ 57343)) || decide (1114111 < h)
def rb (c : Nat) : List UInt8 := encodeRune (c : Int)
def step (r : ByteArray) : ByteArray × List UInt8 :=
  if (decodeGo r).1 = 92 then
    (if (tl r (decodeGo r).2).size = 0 then (tl r (decodeGo r).2, rb 65533)
    else match hexv (decodeGo (tl r (decodeGo r).2)).1 with
      | none =>
        if (decodeGo (tl r (decodeGo r).2)).1 = 10 ∨ (decodeGo (tl r (decodeGo r).2)).1 = 12 then (tl (tl r (decodeGo r).2) (decodeGo (tl r (decodeGo r).2)).2, [])
        else if (decodeGo (tl r (decodeGo r).2)).1 = 13 then
          (if (decodeGo (tl (tl r (decodeGo r).2) (decodeGo (tl r (decodeGo r).2)).2)).1 = 10 then (tl (tl (tl r (decodeGo r).2) (decodeGo (tl r (decodeGo r).2)).2) (decodeGo (tl (tl r (decodeGo r).2) (decodeGo (tl r (decodeGo r).2)).2)).2, [])
           else (tl (tl r (decodeGo r).2) (decodeGo (tl r (decodeGo r).2)).2, []))
        else (tl (tl r (decodeGo r).2) (decodeGo (tl r (decodeGo r).2)).2, rb (decodeGo (tl r (decodeGo r).2)).1)
      | some h => (esc (hx 5 (tl (tl r (decodeGo r).2) (decodeGo (tl r (decodeGo r).2)).2) h).1, rb (if bad (hx 5 (tl (tl r (decodeGo r).2) (decodeGo (tl r (decodeGo r).2)).2) h).2 then 65533 else (hx 5 (tl (tl r (decodeGo r).2) (decodeGo (tl r (decodeGo r).2)).2) h).2)))
  else (tl r (decodeGo r).2, rb (if (decodeGo r).1 = 0 then 65533 else (decodeGo r).1))
def outF : Nat → ByteArray → List UInt8
  | 0, _ => []
  | n + 1, r => if r.size = 0 then [] else (step r).2 ++ outF n (step r).1
theorem step_size (r : ByteArray) (h : 0 < r.size) : (step r).1.size < r.size := by
  have hp := dg_pos r h
  have hr := tl_size r (decodeGo r).2
  unfold step
  generalize tl r (decodeGo r).2 = r1 at *
  have h2 := tl_size r1 (decodeGo r1).2
  generalize tl r1 (decodeGo r1).2 = r2 at *
  have h3 := tl_size r2 (decodeGo r2).2
  split
  · split
    · simp only; omega
    · split
      · split
        · simp only; omega
        · split
          · split
            · simp only; omega
            · simp only; omega
          · simp only; omega
      · have := esc_size (hx 5 r2 ‹Nat›).1
        have := hx_size 5 r2 ‹Nat›
        simp only
        omega
  · simp only; omega

/-- the first place of a backslash or a nul -/
structure First (s : ByteArray) (i : Nat) : Prop where
  le : i ≤ s.size
  before : ∀ j, j < i → ∀ h : j < s.size, s[j].toNat ≠ 92 ∧ s[j].toNat ≠ 0
  hit : ∀ h : i < s.size, s[i].toNat = 92 ∨ s[i].toNat = 0
theorem First.one {s : ByteArray} {i j : Nat} (h : First s i) (k : First s j) : i = j := by
  rcases Nat.lt_trichotomy i j with l | l | l
  · have hi : i < s.size := by have := k.le; omega
    have := k.before i l hi
    rcases h.hit hi with e | e
    · exact absurd e this.1
    · exact absurd e this.2
  · exact l
  · have hi : j < s.size := by have := h.le; omega
    have := h.before j l hi
    rcases k.hit hi with e | e
    · exact absurd e this.1
    · exact absurd e this.2
/-- R is the decoded text of s -/
def Dec (s R : ByteArray) : Prop := ∃ i, First s i ∧ R = if i = s.size then s else ⟨((s.extract 0 i).data.toList ++ outF s.size (tl s i)).toArray⟩
theorem Dec.one {s R R' : ByteArray} (h : Dec s R) (k : Dec s R') : R = R' := by
  obtain ⟨i, hi, rfl⟩ := h
  obtain ⟨j, hj, rfl⟩ := k
  rw [hi.one hj]

set_option maxRecDepth 20000 in
set_option maxHeartbeats 2000000 in
theorem hex40 (c : Nat) (w : World) (hc : c ≤ 1114111) :
    Calls Tryd.prog 40 #[.int .i32 c] w fun e w' => e = .returned (.tuple #[.int .i64 ((hexv c).getD 0), .bool (hexv c).isSome]) ∧ w' = w := by
  by_cases g1 : 48 ≤ c ∧ c ≤ 57
  · have e : hexv c = Option.some (c - 48) := by simp [hexv, g1]
    rw [e]
    clear e
    obtain ⟨x, rfl⟩ : ∃ x, c = x + 48 := ⟨c - 48, by omega⟩
    rw [show x + 48 - 48 = x by omega]
    go_enter Tryd.func40, Tryd.ntmps40
    go_wp2
    exact bodyPost_ret (v := .tuple #[.int .i64 x, .bool true]) (by simp [results, Tryd.results40, go_sem] <;> omega) rfl ⟨by simp, rfl⟩
  by_cases g2 : 97 ≤ c ∧ c ≤ 102
  · have e : hexv c = Option.some (c - 87) := by simp [hexv, g1, g2]
    rw [e]
    clear e g1
    obtain ⟨x, rfl⟩ : ∃ x, c = x + 97 := ⟨c - 97, by omega⟩
    rw [show x + 97 - 87 = x + 10 by omega]
    go_enter Tryd.func40, Tryd.ntmps40
    go_wp2
    exact bodyPost_ret (v := .tuple #[.int .i64 ((x + 10 : Nat) : Int), .bool true]) (by simp [results, Tryd.results40, go_sem] <;> omega) rfl ⟨by simp, rfl⟩
  by_cases g3 : 65 ≤ c ∧ c ≤ 70
  · have e : hexv c = Option.some (c - 55) := by simp [hexv, g1, g2, g3]
    rw [e]
    clear e g1 g2
    obtain ⟨x, rfl⟩ : ∃ x, c = x + 65 := ⟨c - 65, by omega⟩
    rw [show x + 65 - 55 = x + 10 by omega]
    go_enter Tryd.func40, Tryd.ntmps40
    go_wp2
    exact bodyPost_ret (v := .tuple #[.int .i64 ((x + 10 : Nat) : Int), .bool true]) (by simp [results, Tryd.results40, go_sem] <;> omega) rfl ⟨by simp, rfl⟩
  have e : hexv c = none := by simp [hexv, g1, g2, g3]
  rw [e]
  clear e
  have hcs : c < 48 ∨ (57 < c ∧ c < 65) ∨ (70 < c ∧ c < 97) ∨ 102 < c := by omega
  clear g1 g2 g3
  rcases hcs with h | ⟨h, h'⟩ | ⟨h, h'⟩ | h
  all_goals
    go_enter Tryd.func40, Tryd.ntmps40
    go_wp2
    exact bodyPost_ret (v := .tuple #[.int .i64 0, .bool false]) (by simp [results, Tryd.results40, go_sem]) rfl ⟨by simp, rfl⟩

set_option maxRecDepth 20000 in
theorem ws31 (c : Nat) (w : World) (_hc : c ≤ 1114111) :
    Calls Tryd.prog 31 #[.int .i32 c] w fun e w' => e = .returned (.bool (ws c)) ∧ w' = w := by
  go_enter Tryd.func31, Tryd.ntmps31
  go_wp2
  all_goals
    go_ret
    exact ⟨by simp_all [ws] <;> omega, rfl⟩
end Go.Proofs.YtlpjejnfniiilaaDoor
