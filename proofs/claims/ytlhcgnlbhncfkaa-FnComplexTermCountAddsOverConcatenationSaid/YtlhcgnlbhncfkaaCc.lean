/-
  The contracts of the makers of subclass selectors and of the two counters. Conditions: the trees counted.
-/
import Derived.Test.YtlhcgnlbhncfkaaCb
namespace Go.Proofs.Ytlhcgnlbhncfkaa
open Go.ChangeShapes Go.WideShapes Go.ChangeAt Go.RowKit

theorem leaf26 (w : World) :
    Calls Try.prog 26 #[] w fun e w' => (∃ b, e = .returned (.agg #[.iface 135 (.pointer (some ⟨b, 0, none⟩)), .int .i32 0, .int .i32 0])) ∧ Below w.heap.size w w' := by
  go_enter Try.func26, Try.ntmps26
  go_wp2_with fail
  refine bodyPost_ret (v := .agg #[.iface 135 (.pointer (some ⟨w.heap.size + 1, 0, none⟩)), .int .i32 0, .int .i32 0]) (by simp [results, Try.results26, go_sem]) rfl ⟨⟨_, rfl⟩, ?_⟩
  exact ((Below.refl _ _).alloc (Nat.le_refl _) _).alloc (by simp [go_sem]) _
theorem is27 (a : Option Addr) (n c : Nat) (w : World) :
    Calls Try.prog 27 #[.slice a n c] w fun e w' => (∃ b, e = .returned (.agg #[.iface 139 (.pointer (some ⟨b, 0, none⟩)), .int .i32 0, .int .i32 0]) ∧ w'.cell? ⟨b, 0, none⟩ = some (.slice a n c) ∧ w.heap.size ≤ b ∧ b < w'.heap.size) ∧ Below w.heap.size w w' := by
  go_enter Try.func27, Try.ntmps27
  go_wp2_with fail
  refine bodyPost_ret (v := .agg #[.iface 139 (.pointer (some ⟨w.heap.size + 1, 0, none⟩)), .int .i32 0, .int .i32 0]) (by simp [results, Try.results27, go_sem]) rfl ⟨⟨w.heap.size + 1, rfl, ?_, by omega, by simp⟩, ?_⟩
  · simp only [World.cell?, heap_new2]
    rfl
  exact ((Below.refl _ _).alloc (Nat.le_refl _) _).alloc (by simp [go_sem]) _
/-- a counting loop -/
structure Lk (w0 : World) (n : Nat) (f : Nat → Nat) (K : Nat) (vk vi : Value) (w : World) : Prop where
  ex : ∃ i : Nat, i ≤ n ∧ vi = .int .i64 (i : Int) ∧ vk = .int .i64 ((K + sumTo f i : Nat) : Int)
  below : Below w0.heap.size w0 w
attribute [local go_sem] as_135 as_139
set_option maxRecDepth 20000 in
set_option maxHeartbeats 2000000 in
theorem count28 (d : Nat) (P : Nat → Prop) (IH : ∀ (w : World) (sl : Value) (k : Nat), CL d w P sl k → k ≤ 1048576 → Calls Try.prog 31 #[sl] w fun e w' => e = .returned (.int .i64 (k : Int)) ∧ Below w.heap.size w w')
    (w : World) (s : Value) (k : Nat) (hk : k ≤ 1048576) (hr : RowOf 3 (SubE (CL d w P) w P) w P s k) :
    Calls Try.prog 28 #[.agg #[.pointer none, s, .slice none 0 0, .int .i32 0, .int .u8 0, .bool false]] w fun e w' => e = .returned (.int .i64 (k : Int)) ∧ Below w.heap.size w w' := by
  obtain ⟨a, n, c, f, rfl, hN, hc, rfl⟩ := hr
  have HC := Lib.hid hc
  have H := Lib.hid IH
  clear hc IH
  have HL := Lib.hid (show Lk w n f 0 (.int .i64 0) (.int .i64 0) (w.alloc (.cells #[.pointer none, .slice a n c, .slice none 0 0, .int .i32 0, .int .u8 0, .bool false] 33)) from ⟨⟨0, by omega, rfl, rfl⟩, (Below.refl _ _).alloc (Nat.le_refl _) _⟩)
  go_enter Try.func28, Try.ntmps28
  go_wp2_with fail
  go_loopw [3, 11] (fun vk vi wr => Lk w n f 0 vk vi wr) (fun _ vi _ => n - (intOf vi).toNat)
  case atStart => exact HL.out
  case round =>
    obtain ⟨i, hi, rfl, rfl⟩ := hrel.ex
    have HB := Lib.hid hrel.below
    clear hrel HL
    by_cases hlt : i < n
    · obtain ⟨g, rfl, hp, hg, hx⟩ := HC.out (by omega)
      obtain ⟨h1, h2, h0⟩ := hx i hlt
      have hle : sumTo f (i + 1) ≤ sumTo f n := sumTo_mono f hlt
      have hsu : sumTo f (i + 1) = sumTo f i + f i := rfl
      have hsz := HB.out.size
      have cell : ∀ b o, b < w.heap.size → wr.cell? ⟨b, o, none⟩ = w.cell? ⟨b, o, none⟩ := fun b o hb => HB.out.cell (p := ⟨b, o, none⟩) hb
      have x1 : wr.cell? ⟨g, i * 3 + 1, none⟩ = some (.int .i32 0) := (cell g _ hg).trans h1
      have x2 : wr.cell? ⟨g, i * 3 + 2, none⟩ = some (.int .i32 0) := (cell g _ hg).trans h2
      rcases h0 with ⟨b, h0, hf⟩ | ⟨b, sl, k', h0, hpb, hb, hcb, hl, hf⟩
      · have x0 : wr.cell? ⟨g, i * 3, none⟩ = some (.iface 135 (.pointer (some ⟨b, 0, none⟩))) := (cell g _ hg).trans h0
        clear hx h0 h1 h2 cell hp
        go_wp2_with fail
        go_roundw
        case rel => exact ⟨⟨i + 1, by omega, by go_num, by rw [hsu, hf]; go_num⟩, HB.out.alloc hsz _⟩
        case measure => simp [intOf]; omega
      · have x0 : wr.cell? ⟨g, i * 3, none⟩ = some (.iface 139 (.pointer (some ⟨b, 0, none⟩))) := (cell g _ hg).trans h0
        have x3 : wr.cell? ⟨b, 0, none⟩ = some sl := (cell b _ hb).trans hcb
        have hb2 : b < wr.heap.size := by omega
        have HLL := Lib.hid hl
        clear hx h0 h1 h2 cell hp hl hcb
        go_wp2_with fail
        refine (H.out _ sl k' (CL.keep (Keep.below P (HB.out.alloc hsz _)) d HLL.out) (by omega)).mono ?_
        rintro e w2 ⟨rfl, hb3⟩
        have HB3 := Lib.hid ((HB.out.alloc hsz _).trans (hb3.mono (by simp; omega)))
        clear hb3
        go_wp2_with fail
        go_roundw
        case rel => exact ⟨⟨i + 1, by omega, by go_num, by rw [hsu, hf]; go_num⟩, HB3.out⟩
        case measure => simp [intOf]; omega
    · have e : i = n := by omega
      subst e
      go_wp2_with fail
      go_ret
      exact ⟨by simp, HB.out⟩
set_option maxRecDepth 20000 in
set_option maxHeartbeats 2000000 in
theorem count31 (P : Nat → Prop) : ∀ (d : Nat) (w : World) (sl : Value) (k : Nat), CL d w P sl k → k ≤ 1048576 → Calls Try.prog 31 #[sl] w fun e w' => e = .returned (.int .i64 (k : Int)) ∧ Below w.heap.size w w'
  | 0, _, _, _, h, _ => h.elim
  | d + 1, w, sl, k, h, hk => by
    obtain ⟨a, n, c, f, rfl, hN, hc, rfl⟩ := h
    have H := Lib.hid (count28 d P (count31 P d))
    have HC := Lib.hid hc
    clear hc
    have HL := Lib.hid (show Lk w n f 0 (.int .i64 0) (.int .i64 0) w from ⟨⟨0, by omega, rfl, rfl⟩, Below.refl _ _⟩)
    go_enter Try.func31, Try.ntmps31
    go_wp2_with fail
    go_loopw [3, 10] (fun vk vi wr => Lk w n f 0 vk vi wr) (fun _ vi _ => n - (intOf vi).toNat)
    case atStart => exact HL.out
    case round =>
      obtain ⟨i, hi, rfl, rfl⟩ := hrel.ex
      have HB := Lib.hid hrel.below
      clear hrel HL
      by_cases hlt : i < n
      · obtain ⟨g, rfl, hp, hg, hx⟩ := HC.out (by omega)
        obtain ⟨s, h0, a2, n2, c2, f2, rfl, hN2, hc2, hf⟩ := hx i hlt
        have hle : sumTo f (i + 1) ≤ sumTo f n := sumTo_mono f hlt
        have hsu : sumTo f (i + 1) = sumTo f i + f i := rfl
        have hsz := HB.out.size
        have x0 : wr.cell? ⟨g, i, none⟩ = some (.slice a2 n2 c2) := by
          rw [HB.out.cell (p := ⟨g, i, none⟩) hg]
          have h0' : w.cell? ⟨g, i * 1 + 0, none⟩ = some (.slice a2 n2 c2) := h0
          rw [Nat.mul_one, Nat.add_zero] at h0'
          exact h0'
        have HC2 := Lib.hid hc2
        have HL2 := Lib.hid (show Lk w n2 f2 (sumTo f i) (.int .i64 ((0 + sumTo f i : Nat) : Int)) (.int .i64 0) (wr.alloc (.cells #[.slice a2 n2 c2] 131)) from ⟨⟨0, by omega, rfl, by simp [sumTo]⟩, HB.out.alloc hsz _⟩)
        clear hx h0 hp hc2
        go_wp2_with fail
        go_loopw [3, 17] (fun vk vi ws => Lk w n2 f2 (sumTo f i) vk vi ws) (fun _ vi _ => n2 - (intOf vi).toNat)
        case atStart => exact HL2.out
        case round =>
          obtain ⟨j, hj, rfl, rfl⟩ := hrel.ex
          have HB2 := Lib.hid hrel.below
          clear hrel HL2
          by_cases hlt2 : j < n2
          · obtain ⟨g2, rfl, hp2, hg2, hx2⟩ := HC2.out (by omega)
            obtain ⟨h0, ⟨s, h1, hr⟩, h2, h3, h4, h5⟩ := hx2 j hlt2
            have hle2 : sumTo f2 (j + 1) ≤ sumTo f2 n2 := sumTo_mono f2 hlt2
            have hsu2 : sumTo f2 (j + 1) = sumTo f2 j + f2 j := rfl
            have hsz2 := HB2.out.size
            have cell : ∀ o, wr.cell? ⟨g2, o, none⟩ = w.cell? ⟨g2, o, none⟩ := fun o => HB2.out.cell (p := ⟨g2, o, none⟩) hg2
            have x0 : wr.cell? ⟨g2, j * 6, none⟩ = some (.pointer none) := (cell _).trans h0
            have x1 : wr.cell? ⟨g2, j * 6 + 1, none⟩ = some s := (cell _).trans h1
            have x2 : wr.cell? ⟨g2, j * 6 + 2, none⟩ = some (.slice none 0 0) := (cell _).trans h2
            have x3 : wr.cell? ⟨g2, j * 6 + 3, none⟩ = some (.int .i32 0) := (cell _).trans h3
            have x4 : wr.cell? ⟨g2, j * 6 + 4, none⟩ = some (.int .u8 0) := (cell _).trans h4
            have x5 : wr.cell? ⟨g2, j * 6 + 5, none⟩ = some (.bool false) := (cell _).trans h5
            have HR := Lib.hid hr
            obtain ⟨a9, n9, c9, f9, e9, _⟩ := hr
            subst e9
            clear hx2 h0 h1 h2 h3 h4 h5 cell hp2
            go_wp2_with fail
            refine (H.out _ _ (f2 j) (by omega) (RowOf.keep (Keep.below P (HB2.out.alloc hsz2 _)) (fun c k => SubE.keep (Keep.below P (HB2.out.alloc hsz2 _)) fun sl k => CL.keep (Keep.below P (HB2.out.alloc hsz2 _)) d) HR.out)).mono ?_
            rintro e w2 ⟨rfl, hb3⟩
            have HB3 := Lib.hid ((HB2.out.alloc hsz2 _).trans (hb3.mono (by simp; omega)))
            clear hb3
            go_wp2_with fail
            go_roundw
            case rel => exact ⟨⟨j + 1, by omega, by go_num, by rw [hsu2]; go_num⟩, HB3.out⟩
            case measure => simp [intOf]; omega
          · have e : j = n2 := by omega
            subst e
            go_wp2_with fail
            go_roundw
            case rel => exact ⟨⟨i + 1, by omega, by go_num, by rw [hsu, hf]; go_num⟩, HB2.out⟩
            case measure => simp [intOf]; omega
      · have e : i = n := by omega
        subst e
        go_wp2_with fail
        go_ret
        exact ⟨by simp, HB.out⟩
end Go.Proofs.Ytlhcgnlbhncfkaa
