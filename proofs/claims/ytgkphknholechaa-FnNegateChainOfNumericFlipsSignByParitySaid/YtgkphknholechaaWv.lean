import Derived.Test.YtgkphknholechaaWs
namespace Go.Proofs.Ytgkphknholechaa
open Go.ChangeShapes Go.WideShapes Go.ChangeAt Go.RowKit
attribute [local go_sem] as_val_num as_val_neg as_val_inv as_val_val as_neg_num as_neg_neg as_num_num as_num_neg as_num_inv meth_neg meth_val meth_num eq39 eq68 unary_neg_float run_store_float

structure BldN (w0 : World) (s : ByteArray) (x : Nat) (i : Nat) (w : World) : Prop where
  b : Bld w0 (.iface 68 (.pointer (some ⟨w0.heap.size, 0, none⟩))) i w
  unit : w.cell? ⟨w0.heap.size, 0, none⟩ = some (.string s)
  num : w.cell? ⟨w0.heap.size, 1, none⟩ = some (.float .f64 x)
  froz : w.frozen? ⟨w0.heap.size, 1, none⟩ = false

theorem BldN.step {w0 : World} {s : ByteArray} {x i : Nat} {w : World} (h : BldN w0 s x i w) (y : Value) (t : TypeId) : BldN w0 s x (i + 1) (w.alloc (.cells #[tv w0.heap.size (.iface 68 (.pointer (some ⟨w0.heap.size, 0, none⟩))) i, y] t)) := by
  have hlt : w0.heap.size < w.heap.size := by have := h.b.size; omega
  exact ⟨h.b.step y t, by rw [World.cell?_alloc_lt w _ _ hlt]; exact h.unit, by rw [World.cell?_alloc_lt w _ _ hlt]; exact h.num, by rw [frozen?_alloc_cells]; exact h.froz⟩

set_option maxRecDepth 20000 in
theorem build_num (s : ByteArray) (x k : Nat) (hk : k ≤ 65536) (w : World) :
    Calls Try.prog 8 #[.bool false, .string s, .float .f64 x, .int .i64 k] w fun e w' => e = .returned (.tuple #[.int .i64 0, .int .i64 0, .int .i64 1, .string s, .float .f64 (sg k x), .bool true]) ∧ Below w.heap.size w w' := by
  go_enter Try.func8, Try.ntmps8
  go_wp2_with fail
  refine (leaf_num _ _ _).mono ?_
  rintro e w1 ⟨rfl, rfl⟩
  go_wp2_with fail
  have hA0 : BldN w s x 0 (w.alloc (.cells #[.string s, .float .f64 x, .int .i32 0] 92)) := ⟨⟨by simp [go_sem], fun j a b => by omega, (Below.refl _ _).alloc (Nat.le_refl _) _⟩, by simp [go_sem], by simp [go_sem], by simp [go_sem]⟩
  go_loopw [14, 17] (fun t i wr => ∃ n : Nat, n ≤ k ∧ i = .int .i64 n ∧ t = tv w.heap.size (.iface 68 (.pointer (some ⟨w.heap.size, 0, none⟩))) n ∧ BldN w s x n wr) (fun _ i _ => k - (intOf i).toNat)
  case atStart => exact ⟨0, by omega, rfl, rfl, hA0⟩
  case round =>
    obtain ⟨n, hn, rfl, rfl, hI⟩ := hrel
    clear hA0
    by_cases hlt : n < k
    · have hs := hI.step (.int .i32 0) 75
      have es : w.heap.size + (n + 1) = wr.heap.size := by have := hI.b.size; omega
      have et : tv w.heap.size (.iface 68 (.pointer (some ⟨w.heap.size, 0, none⟩))) (n + 1) = .iface 71 (.pointer (some ⟨wr.heap.size, 0, none⟩)) := by rw [← es]; rfl
      have HI := Lib.hid hs
      clear hI hs es
      unfold tv at HI ⊢
      by_cases h0 : n = 0
      · subst h0
        rw [if_pos rfl] at HI ⊢
        go_wp2_with fail
        go_roundw
        case rel => exact ⟨1, by omega, by go_num, et.symm, HI.out⟩
        case measure => simp [intOf]; omega
      · rw [if_neg h0] at HI ⊢
        go_wp2_with fail
        go_roundw
        case rel => exact ⟨n + 1, by omega, by go_num, et.symm, HI.out⟩
        case measure => simp [intOf]; omega
    · have e : n = k := by omega
      subst e
      rcases n with _ | m
      · have e0 : tv w.heap.size (.iface 68 (.pointer (some ⟨w.heap.size, 0, none⟩))) 0 = .iface 68 (.pointer (some ⟨w.heap.size, 0, none⟩)) := rfl
        rw [e0]
        go_wp2_with fail
        refine (num_simp _ _).mono ?_
        rintro e w' ⟨rfl, rfl⟩
        go_wp2_with fail
        refine (desc_num _ _ _ _ _ hI.unit hI.num).mono ?_
        rintro e w'' ⟨rfl, hb⟩
        go_wp2_with fail
        refine bodyPost_ret (v := .tuple #[.int .i64 0, .int .i64 0, .int .i64 1, .string s, .float .f64 x, .bool true]) (by simp [results, Try.results8, go_sem]) rfl ⟨rfl, hI.b.below.trans (hb.mono hI.b.below.size)⟩
      · have e0 : tv w.heap.size (.iface 68 (.pointer (some ⟨w.heap.size, 0, none⟩))) (m + 1) = .iface 71 (.pointer (some ⟨w.heap.size + (m + 1), 0, none⟩)) := rfl
        rw [e0]
        have K := chain_num w.heap.size s x m wr hI.b.ch hI.unit hI.num hI.froz
        go_wp2_with fail
        refine K.mono ?_
        rintro e w' ⟨rfl, f⟩
        have hb' := f.below _ hI.b.below
        go_wp2_with fail
        refine (desc_num _ _ _ _ _ f.unit f.num).mono ?_
        rintro e w'' ⟨rfl, hb⟩
        go_wp2_with fail
        refine bodyPost_ret (v := .tuple #[.int .i64 0, .int .i64 0, .int .i64 1, .string s, .float .f64 (sg (m + 1) x), .bool true]) (by simp [results, Try.results8, go_sem]) rfl ⟨rfl, hb'.trans (hb.mono hb'.size)⟩
