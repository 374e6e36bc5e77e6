/-
  The contracts of analyzeLeadingAmpersand and its callees over a selector of the law's making. Conditions: the shapes of the lists.
-/
import Derived.Test.YtnlohfbmknedhaaWo
namespace Go.Proofs.Ytnlohfbmknedhaa
open Go.ChangeShapes Go.WideShapes Go.ChangeAt Go.RowKit

abbrev Cp.v (x : Cp) : Value := .agg #[.pointer x.ty, .slice x.sa x.sn x.sn, .slice x.na x.nn x.nn, .int .i32 0, .int .u8 x.b, .bool false]
def sg (x : Cp) : Bool := decide (x.nn = 1 ∧ x.b = 0 ∧ x.ty = none ∧ x.sn = 0)

set_option maxRecDepth 20000 in
set_option maxHeartbeats 1000000 in
theorem single47 (x : Cp) (w : World) (hs : x.sn ≤ 2) (hn : x.nn ≤ 2) :
    Calls Try.prog 47 #[x.v] w fun e w' => e = .returned (.bool (sg x)) ∧ Below w.heap.size w w' := by
  obtain ⟨ty, sa, sn, na, nn, b⟩ := x
  simp only [Cp.v, sg] at *
  by_cases h1 : nn = 1
  · subst h1
    by_cases h2 : b = 0
    · subst h2
      cases ty with
      | none =>
        by_cases h4 : sn = 0
        · subst h4
          go_enter Try.func47, Try.ntmps47
          go_wp2_with fail
          go_ret
          exact ⟨by first | rfl | simp, (Below.refl _ _).alloc (Nat.le_refl _) _⟩
        · have h4' : ((sn : Int) == 0) = false := by simp; omega
          go_enter Try.func47, Try.ntmps47
          go_wp2_with fail
          go_ret
          exact ⟨by first | rfl | simp [h4], (Below.refl _ _).alloc (Nat.le_refl _) _⟩
      | some a =>
        go_enter Try.func47, Try.ntmps47
        go_wp2_with fail
        go_ret
        exact ⟨by first | rfl | simp, (Below.refl _ _).alloc (Nat.le_refl _) _⟩
    · have h2' : (b == 0) = false := by simpa using h2
      go_enter Try.func47, Try.ntmps47
      go_wp2_with fail
      go_ret
      exact ⟨by first | rfl | simp [h2], (Below.refl _ _).alloc (Nat.le_refl _) _⟩
  · have h1' : ((nn : Int) == 1) = false := by simp; omega
    go_enter Try.func47, Try.ntmps47
    go_wp2_with fail
    go_ret
    exact ⟨by first | rfl | simp [h1], (Below.refl _ _).alloc (Nat.le_refl _) _⟩

theorem ta (ad : Addr) (w : World) : (Instr.typeAssert (.iface 132 (.pointer (some ad))) 123 141 true).run Try.prog w = .ok (.tuple #[.pointer none, .bool false]) w := by kernel_rfl

/-- has a compound among 1 .. k nesting places? -/
def anyU (d : Nat → Cp) : Nat → Bool
  | 0 => false
  | k + 1 => anyU d k || decide (0 < (d (k + 1)).nn)
theorem anyU_of {d : Nat → Cp} {k n : Nat} (h : k < n) (hk : 0 < (d (k + 1)).nn) : anyU d n = true := by
  induction n with
  | zero => omega
  | succ n ih =>
    simp only [anyU, Bool.or_eq_true, decide_eq_true_eq]
    by_cases e : k = n
    · subst e; exact .inr hk
    · exact .inl (ih (by omega))

structure N1 (w : World) (B n : Nat) (d : Nat → Cp) (i : Value) (wr : World) : Prop where
  ex : ∃ k : Nat, k ≤ n - 1 ∧ i = .int .i64 k ∧ anyU d k = false ∧ Cps B n d wr ∧ Below w.heap.size w wr
structure N2 (w : World) (B n : Nat) (d : Nat → Cp) (m : Nat) (j : Value) (wr : World) : Prop where
  ex : ∃ k : Nat, k ≤ m ∧ j = .int .i64 k ∧ Cps B n d wr ∧ Below w.heap.size w wr

attribute [local go_sem] ta in
set_option maxRecDepth 20000 in
set_option maxHeartbeats 4000000 in
theorem nesting48 (B n : Nat) (d : Nat → Cp) (w : World) (hn : n ≤ 4096) (h2 : 2 ≤ n) (h : Cps B n d w) :
    Calls Try.prog 48 #[.agg #[.slice (some ⟨B, 6, none⟩) (n - 1) (n - 1)]] w fun e w' => e = .returned (.bool (anyU d (n - 1))) ∧ Below w.heap.size w w' := by
  obtain ⟨m, hm⟩ : ∃ m, m = n - 1 := ⟨_, rfl⟩
  have H0 := Lib.hid (⟨⟨0, by omega, rfl, rfl, h.call ((Below.refl _ _).alloc (Nat.le_refl _) _), (Below.refl _ _).alloc (Nat.le_refl _) _⟩⟩ : N1 w B n d (.int .i64 (0 : Nat)) (w.alloc (.cells #[.slice (some ⟨B, 6, none⟩) (n - 1) (n - 1)] 51)))
  have hm1 : m ≤ 4096 := by omega
  have hm2 : m + 1 = n := by omega
  have HM := Lib.hid hm
  rw [← hm] at H0 ⊢
  clear h hm
  go_enter Try.func48, Try.ntmps48
  go_wp2_with fail
  go_loopw [14, 4, 6, 7, 8, 25] (fun i _ _ _ _ _ wr => N1 w B n d i wr) (fun i _ _ _ _ _ _ => m - (intOf i).toNat)
  case atStart => exact H0.out
  case round =>
    obtain ⟨k, hk, rfl, hA, hC, hB⟩ := hrel.ex
    clear hrel H0
    have hkm : k ≤ m := by rw [HM.out]; exact hk
    clear hk
    by_cases hlt : k < m
    · have q0 : wr.cell? ⟨B, 6 + k * 6, none⟩ = some (.pointer (d (k + 1)).ty) := by have := hC.c (k + 1) 0 (by omega) (by omega); rwa [show (k + 1) * 6 + 0 = 6 + k * 6 by omega] at this
      have q1 : wr.cell? ⟨B, 6 + k * 6 + 1, none⟩ = some (.slice (d (k + 1)).sa (d (k + 1)).sn (d (k + 1)).sn) := by have := hC.c (k + 1) 1 (by omega) (by omega); rwa [show (k + 1) * 6 + 1 = 6 + k * 6 + 1 by omega] at this
      have q2 : wr.cell? ⟨B, 6 + k * 6 + 2, none⟩ = some (.slice (d (k + 1)).na (d (k + 1)).nn (d (k + 1)).nn) := by have := hC.c (k + 1) 2 (by omega) (by omega); rwa [show (k + 1) * 6 + 2 = 6 + k * 6 + 2 by omega] at this
      have q3 : wr.cell? ⟨B, 6 + k * 6 + 3, none⟩ = some (.int .i32 0) := by have := hC.c (k + 1) 3 (by omega) (by omega); rwa [show (k + 1) * 6 + 3 = 6 + k * 6 + 3 by omega] at this
      have q4 : wr.cell? ⟨B, 6 + k * 6 + 4, none⟩ = some (.int .u8 (d (k + 1)).b) := by have := hC.c (k + 1) 4 (by omega) (by omega); rwa [show (k + 1) * 6 + 4 = 6 + k * 6 + 4 by omega] at this
      have q5 : wr.cell? ⟨B, 6 + k * 6 + 5, none⟩ = some (.bool false) := by have := hC.c (k + 1) 5 (by omega) (by omega); rwa [show (k + 1) * 6 + 5 = 6 + k * 6 + 5 by omega] at this
      obtain ⟨ls, ln⟩ := hC.le (k + 1) (by omega)
      have hBl := hC.size
      have HA := Lib.hid hA
      have HC := Lib.hid hC
      have HB := Lib.hid hB
      have hle := hB.size
      clear hA hC hB
      by_cases hnn : 0 < (d (k + 1)).nn
      · have HR := Lib.hid (anyU_of hlt hnn)
        have hn1 : (0 : Int) < ((d (k + 1)).nn : Int) := by omega
        generalize d (k + 1) = D at *
        go_wp2_with fail
        go_ret
        exact ⟨by rw [HR.out]; rfl, HB.out.alloc hle _⟩
      · have hz : (d (k + 1)).nn = 0 := by omega
        have HN := Lib.hid (show anyU d (k + 1) = false by simp [anyU, HA.out, hz])
        have HSub := Lib.hid (HC.out.s (k + 1) (by omega))
        rw [hz] at q2
        clear hnn hz ln
        have hs4 : (d (k + 1)).sn ≤ 4096 := by omega
        obtain ⟨D, hD⟩ : ∃ D, D = d (k + 1) := ⟨_, rfl⟩
        rw [← hD] at q0 q1 q2 q4 HSub ls hs4
        have HD := Lib.hid hD
        clear hD
        obtain ⟨wo, rfl⟩ : ∃ wo : World, wo = wr := ⟨_, rfl⟩
        have HI := Lib.hid (⟨⟨0, by omega, rfl, HC.out.call ((Below.refl _ _).alloc (Nat.le_refl _) _), HB.out.alloc hle _⟩⟩ : N2 w B n d D.sn (.int .i64 (0 : Nat)) (wo.alloc (.cells #[.pointer D.ty, .slice D.sa D.sn D.sn, .slice D.na 0 0, .int .i32 0, .int .u8 D.b, .bool false] 62)))
        go_wp2_with fail
        go_loopw [25, 6, 7, 8] (fun j _ _ _ wz => N2 w B n d D.sn j wz) (fun j _ _ _ _ => D.sn - (intOf j).toNat)
        case atStart => exact HI.out
        case round =>
          obtain ⟨j, hj, rfl, hC2, hB2⟩ := hrel.ex
          clear hrel HI
          by_cases hjs : j < D.sn
          · obtain ⟨sb, ad, hsa, hsl, t0, t1, t2⟩ := (hC2.s (k + 1) (by omega)) j (by rw [← HD.out]; exact hjs)
            rw [← HD.out] at hsa
            have HC2 := Lib.hid (hC2.call ((Below.refl _ _).alloc (Nat.le_refl _) (.cells #[.iface 132 (.pointer (some ad)), .int .i32 0, .int .i32 0] 125)))
            have HB2 := Lib.hid (hB2.alloc hB2.size (.cells #[.iface 132 (.pointer (some ad)), .int .i32 0, .int .i32 0] 125))
            clear hC2 hB2
            have hjs' : (j : Int) < (D.sn : Int) := by omega
            rw [hsa]
            go_wp2_with fail
            go_roundw
            case rel => first | exact ⟨j + 1, by omega, by go_num, HC2.out, HB2.out⟩ | ((repeat apply Exists.intro); refine ⟨?_, rfl⟩; exact ⟨⟨j + 1, by omega, by go_num, HC2.out, HB2.out⟩⟩)
            case measure => simp [intOf]; omega
          · have HC2 := Lib.hid hC2
            have HB2 := Lib.hid hB2
            clear hC2 hB2
            go_wp2_with fail
            go_roundw
            case rel => first | exact ⟨k + 1, by omega, by go_num, HN.out, HC2.out, HB2.out⟩ | ((repeat apply Exists.intro); refine ⟨?_, rfl⟩; exact ⟨⟨k + 1, by omega, by go_num, HN.out, HC2.out, HB2.out⟩⟩)
            case measure => simp [intOf]; omega
    · obtain rfl : k = m := by omega
      have HA := Lib.hid hA
      have HB := Lib.hid hB
      clear hA hC hB
      go_wp2_with fail
      go_ret
      exact ⟨by rw [HA.out]; rfl, HB.out⟩
end Go.Proofs.Ytnlohfbmknedhaa
