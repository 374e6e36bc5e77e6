/-
  The contracts of parseHex and hexR: the value of a string of hex digits, modulo 2^32, or a refusal; the top byte. No conditions beyond the types.
-/
import Derived.Test.YtnlohfbmknedhaaIo
import Derived.WalkKit
import Derived.ProofKit
import Derived.OpenShut
import Derived.LoopTactic
import Derived.Laws.BitsAllLaws
import Derived.Laws.RangeAny
import Derived.Lib.Hide
import Derived.Below
namespace Go.Proofs.Ytnlohfbmknedhaa
open Go.ChangeShapes Go.WideShapes Go.ChangeAt Go.RowKit

namespace Hex
def dv (c : Nat) : Nat := if 48 ≤ c ∧ c ≤ 57 then c - 48 else if 97 ≤ c ∧ c ≤ 102 then c - 87 else if 65 ≤ c ∧ c ≤ 70 then c - 55 else 0
def isD (c : Nat) : Bool := (48 ≤ c && c ≤ 57) || (97 ≤ c && c ≤ 102) || (65 ≤ c && c ≤ 70)
def F : List UInt8 → Nat := List.foldl (fun h c => h * 16 + dv c.toNat) 0
def allHex (l : List UInt8) : Prop := ∀ c ∈ l, isD c.toNat = true

theorem dv_lt (c : Nat) : dv c < 16 := by unfold dv; repeat' split
                                          all_goals omega
theorem foldl_shift (l : List UInt8) (a : Nat) : l.foldl (fun h c => h * 16 + dv c.toNat) a = a * 16 ^ l.length + F l := by
  induction l generalizing a with
  | nil => simp [F]
  | cons c l ih =>
    unfold F
    simp only [List.foldl_cons, List.length_cons]
    rw [ih, ih (0 * 16 + dv c.toNat)]
    simp only [Nat.pow_succ, Nat.add_mul, Nat.zero_mul, Nat.zero_add, Nat.add_assoc]
    congr 1
    rw [Nat.mul_comm (16 ^ l.length) 16, Nat.mul_assoc]
theorem F_append (l1 l2 : List UInt8) : F (l1 ++ l2) = F l1 * 16 ^ l2.length + F l2 := by
  show List.foldl _ _ _ = _
  rw [List.foldl_append]
  exact foldl_shift l2 _
theorem F_lt (l : List UInt8) : F l < 16 ^ l.length := by
  induction l with
  | nil => simp [F]
  | cons c l ih =>
    have e : c :: l = [c] ++ l := rfl
    rw [e, F_append]
    have h := dv_lt c.toNat
    have e1 : F [c] = dv c.toNat := by simp [F]
    rw [e1]
    simp only [List.cons_append, List.nil_append, List.length_cons, Nat.pow_succ]
    have : dv c.toNat * 16 ^ l.length ≤ 15 * 16 ^ l.length := Nat.mul_le_mul_right _ (by omega)
    omega
theorem F_snoc (l : List UInt8) (c : UInt8) : F (l ++ [c]) = F l * 16 + dv c.toNat := by
  rw [F_append]; simp [F]
theorem F_zero (l : List UInt8) : F (48 :: l) = F l := by
  have e : (48 : UInt8) :: l = [48] ++ l := rfl
  rw [e, F_append]
  have : F [48] = 0 := by decide
  rw [this]; simp
theorem F_drop (l : List UInt8) (h : 8 ≤ l.length) : F (l.drop (l.length - 8)) = F l % 4294967296 := by
  have e : l = l.take (l.length - 8) ++ l.drop (l.length - 8) := (List.take_append_drop _ _).symm
  have hl : (l.drop (l.length - 8)).length = 8 := by rw [List.length_drop]; omega
  have h1 := F_lt (l.drop (l.length - 8))
  rw [hl] at h1
  have h2 := F_append (l.take (l.length - 8)) (l.drop (l.length - 8))
  rw [← e, hl] at h2
  omega
theorem F_small (l : List UInt8) (h : l.length ≤ 8) : F l % 4294967296 = F l := by
  have h1 := F_lt l
  have : 16 ^ l.length ≤ 16 ^ 8 := Nat.pow_le_pow_right (by omega) h
  omega
theorem F_top (l : List UInt8) (h : l.length = 8) : F l / 16777216 = F (l.take 2) := by
  have e : l = l.take 2 ++ l.drop 2 := (List.take_append_drop _ _).symm
  have hl : (l.drop 2).length = 6 := by rw [List.length_drop]; omega
  have h1 := F_lt (l.drop 2)
  rw [hl] at h1
  have h2 := F_append (l.take 2) (l.drop 2)
  rw [← e, hl] at h2
  omega

theorem or16 (x y : Int) (hx : x % 16 = 0) (hy : y < 16) (h0 : 0 ≤ x) (h1 : x < 4294967296) (h2 : 0 ≤ y) : bits .or .u32 x y = x + y := by
  rw [u32_or x y h0 h1 h2 (by omega)]
  obtain ⟨n, rfl⟩ := Int.eq_ofNat_of_zero_le h0
  obtain ⟨k, rfl⟩ := Int.eq_ofNat_of_zero_le h2
  simp only [Int.toNat_natCast]
  rw [nat_join 4 n k (by omega) (by omega)]
  simp
theorem step_eq (h c : Nat) (y : Int) (hy : y = dv c) : bits .or .u32 (((h % 4294967296 : Nat) : Int) * 16 % 4294967296) y = (((h * 16 + dv c) % 4294967296 : Nat) : Int) := by
  have := dv_lt c
  rw [or16 _ _ (by omega) (by omega) (by omega) (by omega) (by omega)]
  omega
theorem take_snoc (s : ByteArray) (k : Nat) (h : k < s.size) : s.data.toList.take (k + 1) = s.data.toList.take k ++ [s[k]] := by
  rw [List.take_succ_eq_append_getElem (by simpa using h)]; rfl
theorem F_take (s : ByteArray) (k : Nat) (h : k < s.size) : F (s.data.toList.take (k + 1)) = F (s.data.toList.take k) * 16 + dv (s[k]).toNat := by
  rw [take_snoc s k h, F_snoc]
theorem at_mem (s : ByteArray) (k : Nat) (h : k < s.size) : s[k] ∈ s.data.toList := by
  show s.data[k] ∈ s.data.toList
  simp
theorem or_bd (x y : Int) (h0 : 0 ≤ x) (h1 : x < 4294967296) (h2 : 0 ≤ y) (h3 : y < 4294967296) : 0 ≤ bits .or .u32 x y ∧ bits .or .u32 x y ≤ 4294967295 := by
  rw [u32_or x y h0 h1 h2 h3]
  have : x.toNat ||| y.toNat < 2 ^ 32 := Nat.or_lt_two_pow (by omega) (by omega)
  omega
theorem rune_not (s : ByteArray) (pos : Nat) (hp : pos < s.size) (hD : isD (s[pos]'hp).toNat = false) : ¬ (48 ≤ (Utf8.decode s pos).1 ∧ (Utf8.decode s pos).1 ≤ 57) ∧ ¬ (97 ≤ (Utf8.decode s pos).1 ∧ (Utf8.decode s pos).1 ≤ 102) ∧ ¬ (65 ≤ (Utf8.decode s pos).1 ∧ (Utf8.decode s pos).1 ≤ 70) := by
  by_cases ha : (s[pos]'hp).toNat < 128
  · rw [decode_ascii s pos hp ha]
    unfold isD at hD
    simp at hD
    simp only
    omega
  · have := (decode_high s pos hp (by omega)).1
    omega
end Hex

set_option maxRecDepth 20000 in
set_option maxHeartbeats 1000000 in
theorem parse_yes (s : ByteArray) (w : World) (ha : Hex.allHex s.data.toList) :
    Calls Try.prog 33 #[.string s] w fun e w' => e = .returned (.tuple #[.int .u32 ((Hex.F s.data.toList % 4294967296 : Nat) : Int), .bool true]) ∧ ∃ pos, w' = w.iter s pos := by
  have HA := Lib.hid ha
  clear ha
  go_enter Try.func33, Try.ntmps33
  go_wp2
  go_loopw [4] (fun h w' => ∃ pos : Nat, pos ≤ s.size ∧ w' = w.iter s pos ∧ h = .int .u32 ((Hex.F (s.data.toList.take pos) % 4294967296 : Nat) : Int)) (fun _ w' => s.size - w'.iterPos w.heap.size)
  case atStart => exact ⟨0, by omega, rfl, rfl⟩
  case round =>
    obtain ⟨pos, hpos, rfl, rfl⟩ := hrel
    by_cases hp : pos < s.size
    · have hD : Hex.isD (s[pos]'hp).toNat = true := HA.out _ (Hex.at_mem s pos hp)
      have hs := Hex.F_take s pos hp
      have hdec : Utf8.decode s pos = ((s[pos]'hp).toNat, 1) := decode_ascii s pos hp (by unfold Hex.isD at hD; simp at hD; omega)
      obtain ⟨c, hc⟩ : ∃ c, c = (s[pos]'hp).toNat := ⟨_, rfl⟩
      rw [← hc] at hD hs hdec
      have hnx : ∀ ty, (Instr.next (.pointer (some ⟨w.heap.size, 0, none⟩)) true ty).run Try.prog (w.iter s pos) = .ok (.tuple #[.bool true, .int .i64 pos, .int .i32 (c : Int)]) (w.iter s (pos + 1)) := by
        intro ty
        have := run_next_any (P := Try.prog) w s pos ty hp
        rw [hdec] at this
        exact this
      have hst : ∀ y : Int, y = Hex.dv c → bits .or .u32 (((Hex.F (s.data.toList.take pos) % 4294967296 : Nat) : Int) * 16 % 4294967296) y = ((Hex.F (s.data.toList.take (pos + 1)) % 4294967296 : Nat) : Int) := fun y hy => by rw [hs]; exact Hex.step_eq _ c y hy
      have hz : 0 ≤ ((Hex.F (s.data.toList.take pos) % 4294967296 : Nat) : Int) ∧ ((Hex.F (s.data.toList.take pos) % 4294967296 : Nat) : Int) ≤ 4294967295 := by omega
      generalize ((Hex.F (s.data.toList.take pos) % 4294967296 : Nat) : Int) = z at hst hz ⊢
      have HS := Lib.hid hst
      clear hs hc hdec HA hst
      unfold Hex.isD at hD
      simp at hD
      rcases hD with (hD | hD) | hD
      · have HD := Lib.hid (show ((c : Int) - 48) = Hex.dv c by unfold Hex.dv; rw [if_pos hD]; omega)
        go_wp2
        go_roundw
        case rel => exact ⟨pos + 1, by omega, rfl, by rw [← HS.out _ HD.out]⟩
        case measure => simp; omega
      · have HD := Lib.hid (show ((c : Int) - 87) = Hex.dv c by unfold Hex.dv; rw [if_neg (by omega), if_pos hD]; omega)
        go_wp2
        go_roundw
        case rel => exact ⟨pos + 1, by omega, rfl, by rw [← HS.out _ HD.out]⟩
        case measure => simp; omega
      · have HD := Lib.hid (show ((c : Int) - 55) = Hex.dv c by unfold Hex.dv; rw [if_neg (by omega), if_neg (by omega), if_pos hD]; omega)
        go_wp2
        go_roundw
        case rel => exact ⟨pos + 1, by omega, rfl, by rw [← HS.out _ HD.out]⟩
        case measure => simp; omega
    · have hnx : ∀ ty, (Instr.next (.pointer (some ⟨w.heap.size, 0, none⟩)) true ty).run Try.prog (w.iter s pos) = _ := fun ty => run_next_end w s pos ty hp
      have ht : s.data.toList.take pos = s.data.toList := List.take_of_length_le (by simp; omega)
      rw [ht]
      clear HA ht
      go_wp2
      go_ret2
      exact ⟨rfl, _, rfl⟩

set_option maxRecDepth 20000 in
set_option maxHeartbeats 1000000 in
theorem parse_no (s : ByteArray) (w : World) (ha : ¬ Hex.allHex s.data.toList) :
    Calls Try.prog 33 #[.string s] w fun e w' => e = .returned (.tuple #[.int .u32 0, .bool false]) ∧ ∃ pos, w' = w.iter s pos := by
  have HA := Lib.hid ha
  clear ha
  go_enter Try.func33, Try.ntmps33
  go_wp2
  go_loopw [4] (fun h w' => ∃ pos : Nat, pos ≤ s.size ∧ w' = w.iter s pos ∧ Hex.allHex (s.data.toList.take pos) ∧ ∃ z : Int, 0 ≤ z ∧ z ≤ 4294967295 ∧ h = .int .u32 z) (fun _ w' => s.size - w'.iterPos w.heap.size)
  case atStart => exact ⟨0, by omega, rfl, by intro c hc; simp at hc, 0, by omega, by omega, rfl⟩
  case round =>
    obtain ⟨pos, hpos, rfl, hall, z, hz0, hz1, rfl⟩ := hrel
    by_cases hp : pos < s.size
    · by_cases hD : Hex.isD (s[pos]'hp).toNat = true
      · have hs : Hex.allHex (s.data.toList.take (pos + 1)) := by rw [Hex.take_snoc s pos hp]; intro c hc; rcases List.mem_append.1 hc with h | h; exact hall c h; rw [List.mem_singleton.1 h]; exact hD
        have hdec : Utf8.decode s pos = ((s[pos]'hp).toNat, 1) := decode_ascii s pos hp (by unfold Hex.isD at hD; simp at hD; omega)
        obtain ⟨c, hc⟩ : ∃ c, c = (s[pos]'hp).toNat := ⟨_, rfl⟩
        rw [← hc] at hD hdec
        have hnx : ∀ ty, (Instr.next (.pointer (some ⟨w.heap.size, 0, none⟩)) true ty).run Try.prog (w.iter s pos) = .ok (.tuple #[.bool true, .int .i64 pos, .int .i32 (c : Int)]) (w.iter s (pos + 1)) := by
          intro ty
          have := run_next_any (P := Try.prog) w s pos ty hp
          rw [hdec] at this
          exact this
        have HS := Lib.hid hs
        clear hs hc hdec HA hall
        unfold Hex.isD at hD
        simp at hD
        rcases hD with (hD | hD) | hD
        · have HD := Lib.hid (Hex.or_bd (z * 16 % 4294967296) ((c : Int) - 48) (by omega) (by omega) (by omega) (by omega))
          go_wp2
          go_roundw
          case rel => exact ⟨pos + 1, by omega, rfl, HS.out, _, HD.out.1, HD.out.2, rfl⟩
          case measure => simp; omega
        · have HD := Lib.hid (Hex.or_bd (z * 16 % 4294967296) ((c : Int) - 87) (by omega) (by omega) (by omega) (by omega))
          go_wp2
          go_roundw
          case rel => exact ⟨pos + 1, by omega, rfl, HS.out, _, HD.out.1, HD.out.2, rfl⟩
          case measure => simp; omega
        · have HD := Lib.hid (Hex.or_bd (z * 16 % 4294967296) ((c : Int) - 55) (by omega) (by omega) (by omega) (by omega))
          go_wp2
          go_roundw
          case rel => exact ⟨pos + 1, by omega, rfl, HS.out, _, HD.out.1, HD.out.2, rfl⟩
          case measure => simp; omega
      · have hc0 := Hex.rune_not s pos hp (by simpa using hD)
        have hnx : ∀ ty, (Instr.next (.pointer (some ⟨w.heap.size, 0, none⟩)) true ty).run Try.prog (w.iter s pos) = _ := fun ty => run_next_any (P := Try.prog) w s pos ty hp
        generalize (Utf8.decode s pos).1 = c at hc0 hnx
        generalize pos + (Utf8.decode s pos).2 = q at hnx
        clear HA hall hD
        obtain ⟨n1, n2, n3⟩ := hc0
        by_cases k1 : c < 48
        · go_wp2
          go_ret2
          exact ⟨rfl, _, rfl⟩
        by_cases k2 : c < 65
        · go_wp2
          go_ret2
          exact ⟨rfl, _, rfl⟩
        by_cases k3 : c < 97
        · go_wp2
          go_ret2
          exact ⟨rfl, _, rfl⟩
        · go_wp2
          go_ret2
          exact ⟨rfl, _, rfl⟩
    · exfalso
      have ht : s.data.toList.take pos = s.data.toList := List.take_of_length_le (by simp; omega)
      rw [ht] at hall
      exact HA.out hall

theorem hexr34 (v : Int) (w : World) (h0 : 0 ≤ v) (h1 : v ≤ 4294967295) : Calls Try.prog 34 #[.int .u32 v] w fun e w' => e = .returned (.int .i64 (v / 16777216)) ∧ w' = w := by
  go_enter Try.func34, Try.ntmps34
  go_wp2
  go_ret
  exact ⟨rfl, rfl⟩
end Go.Proofs.Ytnlohfbmknedhaa
