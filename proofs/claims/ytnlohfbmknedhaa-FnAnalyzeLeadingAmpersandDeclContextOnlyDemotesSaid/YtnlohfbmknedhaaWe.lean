/-
  The contracts of the parser's raw, eat and advance over a token list. Conditions: the shapes of the lists.
-/
import Derived.Test.YtnlohfbmknedhaaWd
namespace Go.Proofs.Ytnlohfbmknedhaa
open Go.ChangeShapes Go.WideShapes Go.ChangeAt Go.RowKit

set_option maxRecDepth 20000 in
theorem end49 (a b : Nat) (w : World) (h : a + b ≤ 1048576) :
    Calls Try.prog 49 #[.agg #[.int .i32 a, .int .i32 b]] w fun e w' => e = .returned (.int .i32 ((a + b : Nat) : Int)) ∧ Below w.heap.size w w' := by
  go_enter Try.func49, Try.ntmps49
  go_wp2
  go_ret
  exact ⟨by go_num, (Below.refl _ _).alloc (Nat.le_refl _) _⟩

/-- grown behind block N, nothing below B turned -/
structure Gr (B N : Nat) (w0 w : World) : Prop where
  size : N < w.heap.size
  below : Below B w0 w

abbrev RS (p N B : Nat) (s : ByteArray) (a b : Nat) (w0 w' : World) : Prop :=
  w'.cell? ⟨p, 9, none⟩ = some (.string s) ∧ w'.cell? ⟨N, 0, none⟩ = some (.int .i32 a) ∧ w'.cell? ⟨N, 1, none⟩ = some (.int .i32 b) ∧ Gr B N w0 w'

theorem RS.call {p N B : Nat} {s : ByteArray} {a b : Nat} {w0 w w' : World} (hp : p < N) (hB : B ≤ N) (h : RS p N B s a b w0 w) (hb : Below w.heap.size w w') : RS p N B s a b w0 w' := by
  obtain ⟨h1, h2, h3, h4⟩ := h
  have hs := h4.size
  have hz := hb.size
  refine ⟨?_, ?_, ?_, ⟨by omega, h4.below.trans (hb.mono (by omega))⟩⟩
  · rw [hb.cell (p := ⟨p, 9, none⟩) (by show p < _; omega)]; exact h1
  · rw [hb.cell (p := ⟨N, 0, none⟩) hs]; exact h2
  · rw [hb.cell (p := ⟨N, 1, none⟩) hs]; exact h3

set_option maxRecDepth 20000 in
set_option maxHeartbeats 2000000 in
theorem raw43 (p : Nat) (s : ByteArray) (r n : Nat) (f : Nat → Tk) (i a b : Nat) (w : World) (h : Psr w p s r n f i) (hi : i ≤ n) (ha : (cur s n f i).s = a) (hb0 : (cur s n f i).l = b) (hab : a + b ≤ s.size) :
    Calls Try.prog 43 #[.pointer (some ⟨p, 0, none⟩)] w fun e w' => e = .returned (.string (s.extract a (a + b))) ∧ Below w.heap.size w w' := by
  have H := Lib.hid h
  obtain ⟨hs, hn⟩ := h.small
  have g0 : (0 : Int) ≤ (a : Int) := by omega
  have g1 : (a : Int) ≤ (a : Int) + (b : Int) := by omega
  have g2 : (a : Int) + (b : Int) ≤ (s.size : Int) := by omega
  have q9 := h.c9
  have hlt := h.lt
  clear h
  go_enter Try.func43, Try.ntmps43
  go_wp2_with fail
  refine (current45 p s r n f i _ H.out hi).mono ?_
  rw [ha, hb0]
  generalize (cur s n f i).k = K
  rintro e w2 ⟨rfl, hb⟩
  have hz := hb.size
  have q9' : w2.cell? ⟨p, 9, none⟩ = some (.string s) := by rw [hb.cell (p := ⟨p, 9, none⟩) hlt]; exact q9
  have hlt2 : p < w2.heap.size := by omega
  have HB := Lib.hid hb
  clear hb H q9 ha hb0
  go_wp2_with fail
  have hst : RS p w2.heap.size w.heap.size s a b w (w2.alloc (.cells #[.int .i32 a, .int .i32 b, .int .u16 0, .int .u8 K, .int .u8 0] 69)).drew := by
    refine ⟨?_, by simp [go_sem], by simp [go_sem], ⟨by simp [go_sem], (HB.out.alloc hz _).drew⟩⟩
    show (w2.alloc _).cell? _ = _
    rw [World.cell?_alloc_lt _ _ _ hlt2]; exact q9'
  have HS := Lib.hid hst
  clear hst
  go_region_held3 (fun w' => w'.cell? ⟨p, 9, none⟩ = some (.string s) ∧ w'.cell? ⟨w2.heap.size, 0, none⟩ = some (.int .i32 a) ∧ w'.cell? ⟨w2.heap.size, 1, none⟩ = some (.int .i32 b) ∧ Gr w.heap.size w2.heap.size w w')
    (first | with_reducible exact HS.out | with_reducible exact RS.call hlt2 hz (by assumption) hb)
    (first | (go_at_call 49; refine (end49 a b _ (by omega)).mono ?_; rintro e w1 ⟨rfl, hb⟩))
  rename_i hH
  have HG := Lib.hid hH.2.2.2.below
  clear hH
  go_wp2
  go_ret
  exact ⟨by first | rfl | simp, HG.out⟩

/-- a later world: the same parser at place j; whatever was kept below the parser is kept -/
structure Go1 (w : World) (p : Nat) (s : ByteArray) (r n : Nat) (f : Nat → Tk) (j : Int) (w' : World) : Prop where
  psr : Psr w' p s r n f j
  kept : ∀ m w0, m ≤ p → Below m w0 w → Below m w0 w'

theorem Psr.move {w : World} {p : Nat} {s : ByteArray} {r n : Nat} {f : Nat → Tk} {i : Int} (h : Psr w p s r n f i) (j : Int) : Psr (w.setCell ⟨p, 42, none⟩ (.int .i64 j)) p s r n f j := by
  have hne := h.ne
  refine ⟨by simpa [go_sem] using h.lt, by simpa [go_sem] using h.rlt, hne, h.small, ?_, ?_, ?_, ?_, fun q o hq ho => ?_⟩
  · rw [World.cell?_setCell_other _ _ _ _ (by simp)]; exact h.c9
  · rw [World.cell?_setCell_other _ _ _ _ (by simp)]; exact h.c16
  · exact World.cell?_setCell_same _ _ _ h.c42
  · rw [World.frozen?_setCell]; exact h.z42
  · rw [World.cell?_setCell_other _ _ _ _ (by simp <;> omega)]; exact h.t q o hq ho

theorem Psr.drews {w : World} {p : Nat} {s : ByteArray} {r n : Nat} {f : Nat → Tk} {i : Int} (h : Psr w p s r n f i) (m : Nat) : Psr (w.drewN m) p s r n f i :=
  h.call (below_drewN (Below.refl _ _) m)

set_option maxRecDepth 20000 in
set_option maxHeartbeats 2000000 in
theorem adv46 (p : Nat) (s : ByteArray) (r n : Nat) (f : Nat → Tk) (i : Nat) (w : World) (h : Psr w p s r n f i) (hi : i < n) :
    Calls Try.prog 46 #[.pointer (some ⟨p, 0, none⟩)] w fun e w' => e = .returned (.tuple #[]) ∧ Go1 w p s r n f ((i + 1 : Nat) : Int) w' := by
  have q16 := h.c16
  have q42 := h.c42
  have z42 := h.z42
  obtain ⟨hs, hn⟩ := h.small
  have HK := Lib.hid (fun m => (⟨(h.drews m).move ((i + 1 : Nat) : Int), fun m' w0 hm hb => (below_drewN hb m).setCell hm _⟩ : Go1 w p s r n f ((i + 1 : Nat) : Int) ((w.drewN m).setCell ⟨p, 42, none⟩ (.int .i64 ((i + 1 : Nat) : Int)))))
  clear h
  go_enter Try.func46, Try.ntmps46
  go_wp2_with fail
  go_quiet (fail)
  go_wp2
  go_end0
  exact ⟨rfl, HK.out _⟩

set_option maxRecDepth 20000 in
set_option maxHeartbeats 2000000 in
theorem eat44_yes (p : Nat) (s : ByteArray) (r n : Nat) (f : Nat → Tk) (i : Nat) (k : Int) (w : World) (h : Psr w p s r n f i) (hi : i < n) (hk : k = (cur s n f i).k) :
    Calls Try.prog 44 #[.pointer (some ⟨p, 0, none⟩), .int .u8 k] w fun e w' => e = .returned (.bool true) ∧ Go1 w p s r n f ((i + 1 : Nat) : Int) w' := by
  have H := Lib.hid h
  have HK := Lib.hid hk
  clear h hk
  go_enter Try.func44, Try.ntmps44
  go_wp2_with fail
  refine (peek35 p s r n f i k _ H.out (by omega)).mono ?_
  rw [decide_eq_true HK.out]
  rintro e w2 ⟨rfl, hb⟩
  have H2 := Lib.hid (H.out.call hb)
  have HB := Lib.hid hb
  have hlt := H.out.lt
  clear hb HK
  go_wp2_with fail
  refine (adv46 p s r n f i _ H2.out hi).mono ?_
  rintro e w3 ⟨rfl, hg⟩
  have HG := Lib.hid hg
  clear hg
  go_wp2
  go_ret
  exact ⟨rfl, HG.out.psr, fun m w0 hm hb => HG.out.kept m w0 hm (hb.trans (HB.out.mono (by omega)))⟩

set_option maxRecDepth 20000 in
set_option maxHeartbeats 2000000 in
theorem eat44_no (p : Nat) (s : ByteArray) (r n : Nat) (f : Nat → Tk) (i : Nat) (k : Int) (w : World) (h : Psr w p s r n f i) (hi : i ≤ n) (hk : k ≠ (cur s n f i).k) :
    Calls Try.prog 44 #[.pointer (some ⟨p, 0, none⟩), .int .u8 k] w fun e w' => e = .returned (.bool false) ∧ Below w.heap.size w w' := by
  have H := Lib.hid h
  have HK := Lib.hid hk
  clear h hk
  go_enter Try.func44, Try.ntmps44
  go_wp2_with fail
  refine (peek35 p s r n f i k _ H.out (by omega)).mono ?_
  rw [decide_eq_false HK.out]
  rintro e w2 ⟨rfl, hb⟩
  have HB := Lib.hid hb
  clear hb HK
  go_wp2
  go_ret
  exact ⟨rfl, HB.out⟩

set_option maxRecDepth 20000 in
theorem zeat32_yes (p : Nat) (s : ByteArray) (r n : Nat) (f : Nat → Tk) (i : Nat) (k : Int) (w : World) (h : Psr w p s r n f i) (hi : i < n) (hk : k = (cur s n f i).k) :
    Calls Try.prog 32 #[.pointer (some ⟨p, 0, none⟩), .int .u8 k] w fun e w' => e = .returned (.bool true) ∧ Go1 w p s r n f ((i + 1 : Nat) : Int) w' := by
  have H := Lib.hid (eat44_yes p s r n f i k w h hi hk)
  clear h hk
  go_enter Try.func32, Try.ntmps32
  go_wp2_with fail
  refine H.out.mono ?_
  rintro e w2 ⟨rfl, hb⟩
  have HB := Lib.hid hb
  clear hb
  go_wp2
  go_ret
  exact ⟨rfl, HB.out⟩

set_option maxRecDepth 20000 in
theorem zeat32_no (p : Nat) (s : ByteArray) (r n : Nat) (f : Nat → Tk) (i : Nat) (k : Int) (w : World) (h : Psr w p s r n f i) (hi : i ≤ n) (hk : k ≠ (cur s n f i).k) :
    Calls Try.prog 32 #[.pointer (some ⟨p, 0, none⟩), .int .u8 k] w fun e w' => e = .returned (.bool false) ∧ Below w.heap.size w w' := by
  have H := Lib.hid (eat44_no p s r n f i k w h hi hk)
  clear h hk
  go_enter Try.func32, Try.ntmps32
  go_wp2_with fail
  refine H.out.mono ?_
  rintro e w2 ⟨rfl, hb⟩
  have HB := Lib.hid hb
  clear hb
  go_wp2
  go_ret
  exact ⟨rfl, HB.out⟩

set_option maxRecDepth 20000 in
theorem zraw31 (p : Nat) (s : ByteArray) (r n : Nat) (f : Nat → Tk) (i a b : Nat) (w : World) (h : Psr w p s r n f i) (hi : i ≤ n) (ha : (cur s n f i).s = a) (hb0 : (cur s n f i).l = b) (hab : a + b ≤ s.size) :
    Calls Try.prog 31 #[.pointer (some ⟨p, 0, none⟩)] w fun e w' => e = .returned (.string (s.extract a (a + b))) ∧ Below w.heap.size w w' := by
  have H := Lib.hid (raw43 p s r n f i a b w h hi ha hb0 hab)
  clear h ha hb0
  go_enter Try.func31, Try.ntmps31
  go_wp2_with fail
  refine H.out.mono ?_
  rintro e w2 ⟨rfl, hb⟩
  have HB := Lib.hid hb
  clear hb
  go_wp2
  go_ret
  exact ⟨rfl, HB.out⟩

set_option maxRecDepth 20000 in
theorem bytes29 (s : ByteArray) (a1 : Option Addr) (l1 c1 : Nat) (w : World) (hs : s.size ≤ maxLen) (h1 : l1 ≤ maxLen) :
    Calls Try.prog 29 #[.string s, .slice a1 l1 c1] w fun e w' => e = .returned (.bool (decide (s.size + l1 ≤ 1048576))) ∧ w' = w := by
  simp only [maxLen] at hs h1
  go_enter Try.func29, Try.ntmps29
  by_cases g0 : s.size ≤ 1048576
  · by_cases g1 : s.size + l1 ≤ 1048576
    · go_wp2
      go_ret
      exact ⟨by simp [g1], rfl⟩
    · by_cases g4 : l1 ≤ 1048576
      all_goals
        go_wp2
        go_ret
        exact ⟨by simp [g1], rfl⟩
  · have g1 : ¬ s.size + l1 ≤ 1048576 := by omega
    go_wp2
    go_ret
    exact ⟨by simp [g1], rfl⟩
end Go.Proofs.Ytnlohfbmknedhaa
