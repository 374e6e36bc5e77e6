import Derived.Test.YtgkphknholechaaWo
import Derived.LoopTactic
import Derived.RegionTactic
import Derived.Handy
import Derived.Lib.Hide
import Derived.LaidEqlPtr
namespace Go.Proofs.Ytgkphknholechaa
open Go.ChangeShapes Go.WideShapes Go.ChangeAt Go.RowKit
attribute [local go_sem] as_val_num as_val_neg as_val_inv as_val_val as_neg_num as_neg_neg as_num_num as_num_neg as_num_inv meth_neg meth_val meth_num

theorem eq39 (a : Addr) (w : World) : (binOp .eql 39 (.pointer (some a)) (.pointer (some a))).run Try.prog w = .ok (.bool true) w := by
  obtain ⟨j, hj⟩ := Option.isSome_iff_exists.mp (show (Try.prog.info? 81).isSome = true by kernel_rfl)
  exact run_eql_ptr_same w a Try.underlying39 hj
theorem eq68 (a : Addr) (w : World) : (binOp .eql 68 (.pointer (some a)) (.pointer (some a))).run Try.prog w = .ok (.bool true) w := by
  obtain ⟨j, hj⟩ := Option.isSome_iff_exists.mp (show (Try.prog.info? 92).isSome = true by kernel_rfl)
  exact run_eql_ptr_same w a Try.underlying68 hj
attribute [local go_sem] eq39 eq68
theorem leaf_val (x : Nat) (w : World) : Calls Try.prog 25 #[.bool true, .string ⟨#[]⟩, .float .f64 x] w fun e w' => e = .returned (.tuple #[.iface 39 (.pointer (some ⟨w.heap.size, 0, none⟩)), .pointer (some ⟨w.heap.size, 0, none⟩), .pointer none]) ∧ ∃ o, w' = w.alloc o := by
  go_enter Try.func25, Try.ntmps25
  go_wp2
  exact bodyPost_ret (v := .tuple #[.iface 39 (.pointer (some ⟨w.heap.size, 0, none⟩)), .pointer (some ⟨w.heap.size, 0, none⟩), .pointer none]) (by simp [results, Try.results25, go_sem]) rfl ⟨rfl, _, rfl⟩

set_option maxRecDepth 20000 in
theorem desc_val0 (L : Nat) (np : Value) (w : World) :
    Calls Try.prog 26 #[.iface 39 (.pointer (some ⟨L, 0, none⟩)), .pointer (some ⟨L, 0, none⟩), np] w fun e w' => e = .returned (.tuple #[.int .i64 0, .int .i64 0, .int .i64 2, .string ⟨#[]⟩, .float .f64 0, .bool true]) ∧ w' = w := by
  go_enter Try.func26, Try.ntmps26
  go_wp2
  go_rounds 1
  refine bodyPost_ret (v := .tuple #[.int .i64 0, .int .i64 0, .int .i64 2, .string ⟨#[]⟩, .float .f64 0, .bool true]) (by simp [results, Try.results26, go_sem]) rfl ⟨rfl, rfl⟩

set_option maxRecDepth 20000 in
theorem desc_val1 (L b : Nat) (np : Value) (w : World) (hb : w.cell? ⟨b, 0, none⟩ = some (.iface 39 (.pointer (some ⟨L, 0, none⟩)))) :
    Calls Try.prog 26 #[.iface 71 (.pointer (some ⟨b, 0, none⟩)), .pointer (some ⟨L, 0, none⟩), np] w fun e w' => e = .returned (.tuple #[.int .i64 1, .int .i64 0, .int .i64 2, .string ⟨#[]⟩, .float .f64 0, .bool true]) ∧ w' = w := by
  go_enter Try.func26, Try.ntmps26
  go_wp2
  go_rounds 2
  refine bodyPost_ret (v := .tuple #[.int .i64 1, .int .i64 0, .int .i64 2, .string ⟨#[]⟩, .float .f64 0, .bool true]) (by simp [results, Try.results26, go_sem]) rfl ⟨rfl, rfl⟩

/-- the worlds of the building loop -/
structure Bld (w0 : World) (x : Value) (i : Nat) (w : World) : Prop where
  size : w.heap.size = w0.heap.size + 1 + i
  ch : Ch w0.heap.size i x w
  below : Below w0.heap.size w0 w

def tv (L : Nat) (x : Value) (i : Nat) : Value := if i = 0 then x else .iface 71 (.pointer (some ⟨L + i, 0, none⟩))

theorem Bld.step {w0 : World} {x : Value} {i : Nat} {w : World} (h : Bld w0 x i w) (y : Value) (t : TypeId) : Bld w0 x (i + 1) (w.alloc (.cells #[tv w0.heap.size x i, y] t)) := by
  refine ⟨?_, ?_, h.below.alloc h.below.size _⟩
  · have := h.size
    simp [go_sem]; omega
  · intro j h1 h2
    by_cases hj : j ≤ i
    · obtain ⟨a, b⟩ := h.ch j h1 hj
      have hlt : w0.heap.size + j < w.heap.size := by have := h.size; omega
      refine ⟨?_, ?_⟩
      · rw [World.cell?_alloc_lt w _ _ hlt]; exact a
      · rw [frozen?_alloc_cells]; exact b
    · have e : j = i + 1 := by omega
      subst e
      have e2 : w0.heap.size + (i + 1) = w.heap.size := by have := h.size; omega
      rw [e2]
      refine ⟨?_, by simp [go_sem]⟩
      simp [go_sem, tv]

set_option maxRecDepth 20000 in
theorem build_val (k : Nat) (hk : k ≤ 65536) (w : World) :
    Calls Try.prog 8 #[.bool true, .string ⟨#[]⟩, .float .f64 0, .int .i64 k] w fun e w' => e = .returned (.tuple #[.int .i64 ((k % 2 : Nat) : Int), .int .i64 0, .int .i64 2, .string ⟨#[]⟩, .float .f64 0, .bool true]) ∧ Below w.heap.size w w' := by
  go_enter Try.func8, Try.ntmps8
  go_wp2_with fail
  refine (leaf_val _ _).mono ?_
  rintro e w1 ⟨rfl, o, rfl⟩
  go_wp2_with fail
  have hA0 : Bld w (.iface 39 (.pointer (some ⟨w.heap.size, 0, none⟩))) 0 (w.alloc o) := ⟨by simp [go_sem], fun j a b => by omega, (Below.refl _ _).alloc (Nat.le_refl _) _⟩
  go_loopw [14, 17] (fun t i wr => ∃ n : Nat, n ≤ k ∧ i = .int .i64 n ∧ t = tv w.heap.size (.iface 39 (.pointer (some ⟨w.heap.size, 0, none⟩))) n ∧ Bld w (.iface 39 (.pointer (some ⟨w.heap.size, 0, none⟩))) n wr) (fun _ i _ => k - (intOf i).toNat)
  case atStart => exact ⟨0, by omega, rfl, rfl, hA0⟩
  case round =>
    obtain ⟨n, hn, rfl, rfl, hI⟩ := hrel
    clear hA0
    by_cases hlt : n < k
    · have hs := hI.step (.int .i32 0) 75
      have es : w.heap.size + (n + 1) = wr.heap.size := by have := hI.size; omega
      have et : tv w.heap.size (.iface 39 (.pointer (some ⟨w.heap.size, 0, none⟩))) (n + 1) = .iface 71 (.pointer (some ⟨wr.heap.size, 0, none⟩)) := by rw [← es]; rfl
      have HI := Lib.hid hs
      clear hI hs es
      unfold tv at HI ⊢
      by_cases h0 : n = 0
      · subst h0
        rw [if_pos rfl] at HI ⊢
        go_wp2_with fail
        go_roundw
        case rel => exact ⟨1, by omega, by go_num, et.symm, HI.out⟩
        case measure => simp [intOf]; omega
      · rw [if_neg h0] at HI ⊢
        go_wp2_with fail
        go_roundw
        case rel => exact ⟨n + 1, by omega, by go_num, et.symm, HI.out⟩
        case measure => simp [intOf]; omega
    · have e : n = k := by omega
      subst e
      rcases n with _ | m
      · have e0 : tv w.heap.size (.iface 39 (.pointer (some ⟨w.heap.size, 0, none⟩))) 0 = .iface 39 (.pointer (some ⟨w.heap.size, 0, none⟩)) := rfl
        rw [e0]
        go_wp2_with fail
        refine (val_simp _ _).mono ?_
        rintro e w' ⟨rfl, rfl⟩
        go_wp2_with fail
        refine (desc_val0 _ _ _).mono ?_
        rintro e w'' ⟨rfl, rfl⟩
        go_wp2_with fail
        refine bodyPost_ret (v := .tuple #[.int .i64 0, .int .i64 0, .int .i64 2, .string ⟨#[]⟩, .float .f64 0, .bool true]) (by simp [results, Try.results8, go_sem]) rfl ⟨rfl, hI.below⟩
      · have e0 : tv w.heap.size (.iface 39 (.pointer (some ⟨w.heap.size, 0, none⟩))) (m + 1) = .iface 71 (.pointer (some ⟨w.heap.size + (m + 1), 0, none⟩)) := rfl
        rw [e0]
        have K := chain_val w.heap.size m wr hI.ch
        by_cases hp : m % 2 = 0
        · rw [if_pos hp] at K
          have e2 : (((m + 1) % 2 : Nat) : Int) = 1 := by omega
          go_wp2_with fail
          refine K.mono ?_
          rintro e w' ⟨rfl, q, f⟩
          have q' := q hp
          go_wp2_with fail
          refine (desc_val1 _ _ _ _ q').mono ?_
          rintro e w'' ⟨rfl, rfl⟩
          go_wp2_with fail
          refine bodyPost_ret (v := .tuple #[.int .i64 1, .int .i64 0, .int .i64 2, .string ⟨#[]⟩, .float .f64 0, .bool true]) (by simp [results, Try.results8, go_sem]) rfl ⟨by rw [e2], f.2.2 _ _ (by omega) hI.below⟩
        · rw [if_neg hp] at K
          have e2 : (((m + 1) % 2 : Nat) : Int) = 0 := by omega
          go_wp2_with fail
          refine K.mono ?_
          rintro e w' ⟨rfl, q, f⟩
          go_wp2_with fail
          refine (desc_val0 _ _ _).mono ?_
          rintro e w'' ⟨rfl, rfl⟩
          go_wp2_with fail
          refine bodyPost_ret (v := .tuple #[.int .i64 0, .int .i64 0, .int .i64 2, .string ⟨#[]⟩, .float .f64 0, .bool true]) (by simp [results, Try.results8, go_sem]) rfl ⟨by rw [e2], f.2.2 _ _ (by omega) hI.below⟩
