/-
  What a byte of the shapes, tags and kinds says. Conditions: each theorem's own.
-/
import Derived.Test.YtphimfimnakclaaQa
import Derived.Test.YtphimfimnakclaaProg
import Derived.LoopTactic
import Derived.Deep.LoopGhost
import Derived.WalkLawsBesides
import Derived.WalkSpells
import Derived.WalkMore
import Derived.Handy
import Derived.IntWalk
import Derived.Laws.MakeOwn
import Derived.Deep.DeepCutAuto
import Derived.BigRegion
import Derived.Deep.RegionLaw
import Derived.Deep.QuietTactic
import Derived.BigQuiet
namespace Go.Proofs.Ytphimfimnakclaa
open Go.RowKit Go.Lib
/-- a slice of integers that came in -/
def IsRow (k : IntKind) (w : World) (a : Option Addr) (len cap : Nat) (zs : List Int) : Prop :=
  (a = none ∧ len = 0 ∧ cap = 0 ∧ zs = []) ∨
  ∃ x, a = some x ∧ len ≤ cap ∧ cap ≤ maxLen ∧ zs.length = cap ∧ (∀ i, i < zs.length → w.cell? (x.add i) = some (.int k (zs.getD i 0))) ∧ ∀ n ∈ zs, (Lit.int k n).wf = true
structure Row (k : IntKind) (w : World) (a : Option Addr) (n : Nat) (z : List Int) : Prop where
  cell : 0 < n → ∃ b off, a = some ⟨b, off, none⟩ ∧ b < w.heap.size ∧ ∀ i, i < n → w.cell? ⟨b, off + i, none⟩ = some (.int k (z.getD i 0))
  wf : ∀ i, i < n → (Lit.int k (z.getD i 0)).wf = true
theorem addr_lt {w : World} {a : Addr} {v : Value} (h : w.cell? a = some v) : a.block < w.heap.size ∧ a.spot = none := ⟨World.block_lt_of_cell? w a h, World.cell?_spot h⟩
theorem IsRow.row {k : IntKind} {w : World} {a : Option Addr} {n c : Nat} {z : List Int} (h : IsRow k w a n c z) : Row k w a n z ∧ n ≤ maxLen := by
  rcases h with ⟨rfl, rfl, rfl, rfl⟩ | ⟨x, rfl, hl, hm, hz, hc, hw⟩
  · exact ⟨⟨fun h => by omega, fun i h => by omega⟩, by simp [maxLen]⟩
  · refine ⟨⟨fun h => ?_, fun i hi => ?_⟩, by omega⟩
    · have h0 := hc 0 (by omega)
      obtain ⟨h1, h2⟩ := addr_lt h0
      obtain ⟨b, off, sp⟩ := x
      have h1' : b < w.heap.size := h1
      have h2' : sp = none := h2
      subst h2'
      refine ⟨b, off, rfl, h1', fun i hi => ?_⟩
      have q := hc i (by omega)
      by_cases e : i = 0
      · subst e; simpa [Addr.add] using q
      · simpa [Addr.add, e] using q
    · have : i < z.length := by omega
      rw [List.getD_eq_getElem?_getD, List.getElem?_eq_getElem this]
      exact hw _ (List.getElem_mem _)
theorem Row.below {k : IntKind} {w w' : World} {a : Option Addr} {n : Nat} {z : List Int} (h : Row k w a n z) {B : Nat} (hB : w.heap.size ≤ B) (hb : Below B w w') : Row k w' a n z := by
  refine ⟨fun hn => ?_, h.wf⟩
  obtain ⟨b, off, e, hlt, hc⟩ := h.cell hn
  refine ⟨b, off, e, ?_, fun i hi => ?_⟩
  · have := hb.size
    omega
  · rw [hb.cell (p := ⟨b, off + i, none⟩) (by show b < B; omega)]; exact hc i hi
theorem wf_u8 {x : Int} (h : (Lit.int .u8 x).wf = true) : 0 ≤ x ∧ x ≤ 255 := by
  have hm : IntKind.u8.min = 0 := by decide
  have hM : IntKind.u8.max = 255 := by decide
  simp only [Lit.wf, Bool.and_eq_true, decide_eq_true_eq] at h
  omega
def atZ (z : List Int) (n i : Nat) : Nat := if i < n then (z.getD i 0).toNat else 0
theorem at18 (a : Option Addr) (n c : Nat) (z : List Int) (i : Nat) (w : World) (hn : n ≤ 65536) (hi : i ≤ 1000000) (h : Row .u8 w a n z) :
    Calls Try.prog 18 #[.slice a n c, .int .i64 i] w fun e w' => e = .returned (.int .i64 (atZ z n i : Nat)) ∧ w' = w := by
  by_cases g : i < n
  · obtain ⟨b, o, rfl, l, q⟩ := h.cell (by omega)
    have c1 := q i g
    obtain ⟨x0, x1⟩ := wf_u8 (h.wf i g)
    have e : ((atZ z n i : Nat) : Int) = z.getD i 0 := by unfold atZ; rw [if_pos g]; omega
    rw [e]
    clear q h e
    generalize z.getD i 0 = X at *
    go_enter Try.func18, Try.ntmps18
    go_wp2_with fail
    go_ret
    exact ⟨rfl, rfl⟩
  · have e : ((atZ z n i : Nat) : Int) = 0 := by unfold atZ; rw [if_neg g]; rfl
    rw [e]
    clear h e
    go_enter Try.func18, Try.ntmps18
    go_wp2_with fail
    go_ret
    exact ⟨rfl, rfl⟩
theorem atZ_le {w : World} {a : Option Addr} {n : Nat} {z : List Int} (h : Row .u8 w a n z) (i : Nat) : atZ z n i ≤ 255 := by
  unfold atZ
  split
  · rename_i g
    have := wf_u8 (h.wf i g)
    omega
  · omega
def keyZ (zt zk : List Int) (nt nk j : Nat) : Nat := if atZ zt nt j % 3 = 0 then 0 else (atZ zt nt j % 3) * 256 + atZ zk nk j
def deadK (k : Nat) : Bool := k == 258 || k == 265
theorem key22 (a1 a2 : Option Addr) (n1 n2 c1 c2 : Nat) (z1 z2 : List Int) (j : Nat) (w : World) (h1 : n1 ≤ 65536) (h2 : n2 ≤ 65536) (hj : j ≤ 1000000) (r1 : Row .u8 w a1 n1 z1) (r2 : Row .u8 w a2 n2 z2) :
    Calls Try.prog 22 #[.slice a1 n1 c1, .slice a2 n2 c2, .int .i64 j] w fun e w' => e = .returned (.int .i64 (keyZ z1 z2 n1 n2 j : Nat)) ∧ w' = w := by
  have b1 := atZ_le r1 j
  have b2 := atZ_le r2 j
  have C1 := hid (at18 a1 n1 c1 z1 j w h1 hj r1)
  have C2 := hid (at18 a2 n2 c2 z2 j w h2 hj r2)
  have HK := hid (show keyZ z1 z2 n1 n2 j = if atZ z1 n1 j % 3 = 0 then 0 else (atZ z1 n1 j % 3) * 256 + atZ z2 n2 j from rfl)
  clear r1 r2
  generalize keyZ z1 z2 n1 n2 j = K at *
  generalize atZ z1 n1 j = x at *
  generalize atZ z2 n2 j = y at *
  go_enter Try.func22, Try.ntmps22
  go_wp2_with fail
  refine C1.out.mono ?_
  rintro e w1 ⟨rfl, hw⟩
  obtain rfl := hw.symm
  clear C1
  by_cases g : x % 3 = 0
  · have g2 : (((x : Int) % 3) == 0) = true := by simp; omega
    have g3 : (x : Int) % 3 = 0 := by omega
    have e : K = 0 := by have := HK.out; rw [if_pos g] at this; exact this
    subst e
    clear g HK
    go_wp2_with fail
    go_ret
    exact ⟨rfl, rfl⟩
  · have g2 : (((x : Int) % 3) == 0) = false := by simp; omega
    have g3 : ¬ (x : Int) % 3 = 0 := by omega
    have e : K = (x % 3) * 256 + y := by have := HK.out; rw [if_neg g] at this; exact this
    have HE := hid e
    obtain ⟨t, ht, htl⟩ : ∃ t : Nat, (x : Int) % 3 = (t : Int) ∧ t = x % 3 := ⟨x % 3, by omega, rfl⟩
    have e1 : IntKind.i64.wrap ((t : Int) * 256) = ((t * 256 : Nat) : Int) := by rw [IntKind.wrap_i64]; omega
    have e2 : IntKind.i64.wrap (((t * 256 : Nat) : Int) + (y : Int)) = ((t * 256 + y : Nat) : Int) := by rw [IntKind.wrap_i64]; omega
    have HT := hid htl
    have g4 : ¬ (t : Int) = 0 := by omega
    have g5 : ((t : Int) == 0) = false := by simp; omega
    have t0 : 0 ≤ (t : Int) := by omega
    clear g HK e htl g2 g3
    go_wp2_with fail
    refine C2.out.mono ?_
    rintro e w1 ⟨rfl, hw⟩
    obtain rfl := hw.symm
    clear C2
    go_wp2_with fail
    go_ret
    exact ⟨by rw [HE.out, ← HT.out]; simp, rfl⟩
theorem dead21 (a1 a2 : Option Addr) (n1 n2 c1 c2 : Nat) (z1 z2 : List Int) (j : Nat) (w : World) (h1 : n1 ≤ 65536) (h2 : n2 ≤ 65536) (hj : j ≤ 1000000) (r1 : Row .u8 w a1 n1 z1) (r2 : Row .u8 w a2 n2 z2) :
    Calls Try.prog 21 #[.slice a1 n1 c1, .slice a2 n2 c2, .int .i64 j] w fun e w' => e = .returned (.bool (deadK (keyZ z1 z2 n1 n2 j))) ∧ w' = w := by
  have b1 := atZ_le r1 j
  have b2 := atZ_le r2 j
  have C1 := hid (at18 a1 n1 c1 z1 j w h1 hj r1)
  have C2 := hid (at18 a2 n2 c2 z2 j w h2 hj r2)
  have HK := hid (show keyZ z1 z2 n1 n2 j = if atZ z1 n1 j % 3 = 0 then 0 else (atZ z1 n1 j % 3) * 256 + atZ z2 n2 j from rfl)
  clear r1 r2
  generalize keyZ z1 z2 n1 n2 j = K at *
  generalize atZ z1 n1 j = x at *
  generalize atZ z2 n2 j = y at *
  obtain ⟨d, hd⟩ : ∃ d, deadK K = d := ⟨_, rfl⟩
  rw [hd]
  have HD := hid hd
  clear hd
  go_enter Try.func21, Try.ntmps21
  go_wp2_with fail
  refine C1.out.mono ?_
  rintro e w1 ⟨rfl, hw⟩
  obtain rfl := hw.symm
  clear C1
  by_cases g : x % 3 = 1
  · have g2 : (((x : Int) % 3) != 1) = false := by simp; omega
    have g3 : (x : Int) % 3 = 1 := by omega
    have e : K = 256 + y := by have := HK.out; rw [if_neg (by omega), g] at this; exact this
    have hdy : d = (decide (y = 2) || decide (y = 9)) := by
      rw [← HD.out, e]
      unfold deadK
      rw [Bool.eq_iff_iff]
      simp
      omega
    have HDY := hid hdy
    have e5 : IntKind.u8.wrap (y : Int) = (y : Int) := by
      unfold IntKind.wrap
      simp [IntKind.bits, IntKind.signed]
      omega
    clear g HK e hdy
    by_cases y2 : y = 2
    · subst y2
      go_wp2_with fail
      refine C2.out.mono ?_
      rintro e w1 ⟨rfl, hw⟩
      obtain rfl := hw.symm
      go_wp2_with fail
      go_ret
      exact ⟨by rw [HDY.out]; rfl, rfl⟩
    · have y3 : ((y : Int) == 2) = false := by simp; omega
      have y4 : (((y : Int) == 9)) = decide (y = 9) := by rw [Bool.eq_iff_iff]; simp; omega
      have y5 : decide (y = 2) = false := by simp [y2]
      go_wp2_with fail
      refine C2.out.mono ?_
      rintro e w1 ⟨rfl, hw⟩
      obtain rfl := hw.symm
      go_wp2_with fail
      all_goals
        go_ret
        first | exact ⟨by rw [HDY.out, y5]; simp_all, rfl⟩ | (refine ⟨?_, rfl⟩; rw [HDY.out, y5]; simp; omega)
  · have g2 : (((x : Int) % 3) != 1) = true := by simp; omega
    have g3 : ¬ (x : Int) % 3 = 1 := by omega
    have e : d = false := by
      rw [← HD.out, HK.out]
      unfold deadK
      split
      · rfl
      · have : x % 3 = 2 := by omega
        rw [this]
        rw [Bool.or_eq_false_iff]
        simp
        omega
    subst e
    clear g HK
    go_wp2_with fail
    go_ret
    exact ⟨rfl, rfl⟩
end Go.Proofs.Ytphimfimnakclaa
