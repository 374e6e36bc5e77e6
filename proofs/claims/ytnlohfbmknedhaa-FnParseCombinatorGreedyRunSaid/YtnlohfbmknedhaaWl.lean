/-
  The contracts of the exported parseCombinator and index. Conditions: the shapes of the lists.
-/
import Derived.Test.YtnlohfbmknedhaaWk
namespace Go.Proofs.Ytnlohfbmknedhaa
open Go.ChangeShapes Go.WideShapes Go.ChangeAt Go.RowKit

theorem Go1.later {w : World} {p : Nat} {s : ByteArray} {r n : Nat} {f : Nat → Tk} {j : Int} {w2 w3 : World} (h : Go1 w p s r n f j w2) (hb : Below w2.heap.size w2 w3) : Go1 w p s r n f j w3 :=
  ⟨h.psr.call hb, fun m w0 hm h0 => (h.kept m w0 hm h0).trans (hb.mono (by have := h.psr.lt; omega))⟩

set_option maxRecDepth 20000 in
set_option maxHeartbeats 2000000 in
theorem zcomb23_no (p : Nat) (s : ByteArray) (r n : Nat) (f : Nat → Tk) (i : Nat) (w : World) (h : Psr w p s r n f i) (hi : i ≤ n) (hk : cb (cur s n f i).k = 0) :
    Calls Try.prog 23 #[.pointer (some ⟨p, 0, none⟩)] w fun e w' => e = .returned (.tuple #[.int .u8 0, .int .i32 0]) ∧ Below w.heap.size w w' := by
  have H := Lib.hid h
  have HK := Lib.hid hk
  clear h hk
  go_enter Try.func23, Try.ntmps23
  go_wp2_with fail
  refine (comb36_no p s r n f i _ H.out hi HK.out).mono ?_
  rintro e w2 ⟨rfl, hb⟩
  have HB := Lib.hid hb
  have hz := hb.size
  clear hb H HK
  go_wp2_with fail
  go_quiet (fail)
  go_wp2_with fail
  go_ret2
  exact ⟨rfl, below_drewN (HB.out.alloc hz _) _⟩

set_option maxRecDepth 20000 in
set_option maxHeartbeats 2000000 in
theorem zcomb23_yes (p : Nat) (s : ByteArray) (r n : Nat) (f : Nat → Tk) (i : Nat) (w : World) (h : Psr w p s r n f i) (hi : i < n) (hk : cb (f i).k ≠ 0) :
    Calls Try.prog 23 #[.pointer (some ⟨p, 0, none⟩)] w fun e w' => e = .returned (.tuple #[.int .u8 (cb (f i).k), .int .i32 (f i).s]) ∧ Go1 w p s r n f ((i + 1 : Nat) : Int) w' := by
  have H := Lib.hid h
  have HK := Lib.hid hk
  clear h hk
  go_enter Try.func23, Try.ntmps23
  go_wp2_with fail
  refine (comb36_yes p s r n f i _ H.out hi HK.out).mono ?_
  rintro e w2 ⟨rfl, hb⟩
  have HB := Lib.hid hb
  clear hb H HK
  go_wp2_with fail
  go_quiet (fail)
  go_wp2_with fail
  go_ret2
  exact ⟨rfl, HB.out.later (below_drewN ((Below.refl _ _).alloc (Nat.le_refl _) _) _)⟩

set_option maxRecDepth 20000 in
theorem index24 (p : Nat) (s : ByteArray) (r n : Nat) (f : Nat → Tk) (i : Int) (w : World) (h : Psr w p s r n f i) :
    Calls Try.prog 24 #[.pointer (some ⟨p, 0, none⟩)] w fun e w' => e = .returned (.int .i64 i) ∧ w' = w := by
  have q42 := h.c42
  clear h
  go_enter Try.func24, Try.ntmps24
  go_wp2
  go_ret
  exact ⟨rfl, rfl⟩
end Go.Proofs.Ytnlohfbmknedhaa
