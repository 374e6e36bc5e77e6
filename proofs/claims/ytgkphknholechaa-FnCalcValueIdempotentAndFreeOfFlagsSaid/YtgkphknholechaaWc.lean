import Derived.Test.YtgkphknholechaaIo
import Derived.WalkKit
import Derived.WalkLawsBesides
import Derived.RegionTactic
import Derived.Lib.Hide
import Derived.LaidEqlPtr
namespace Go.Proofs.Ytgkphknholechaa
open Go.ChangeShapes Go.WideShapes Go.ChangeAt Go.RowKit

theorem conv27 (b : Nat) (q : Option Addr) (t : ByteArray) (l p u k s x : Int) (w : World) (hb : b < w.heap.size)
    (h0 : w.cell? ⟨b, 0, none⟩ = some (.pointer q)) (h1 : w.cell? ⟨b, 1, none⟩ = some (.string t)) (h2 : w.cell? ⟨b, 2, none⟩ = some (.int .i32 l)) (h3 : w.cell? ⟨b, 3, none⟩ = some (.int .u32 p))
    (h4 : w.cell? ⟨b, 4, none⟩ = some (.int .u16 u)) (h5 : w.cell? ⟨b, 5, none⟩ = some (.int .u8 k)) (h6 : w.cell? ⟨b, 6, none⟩ = some (.int .u8 s)) :
    Calls Try.prog 27 #[.pointer (some ⟨b, 0, none⟩), .int .u8 x] w fun e w' => e = .returned (.tuple #[.agg #[.pointer q, .string t, .int .i32 l, .int .u32 p, .int .u16 u, .int .u8 k, .int .u8 0], .bool true]) ∧ w' = (w.alloc (.cells #[.pointer q, .string t, .int .i32 l, .int .u32 p, .int .u16 u, .int .u8 k, .int .u8 0] 35)).alloc (.cells #[.pointer q, .string t, .int .i32 l, .int .u32 p, .int .u16 u, .int .u8 k, .int .u8 0] 35) := by
  go_enter Try.func27, Try.ntmps27
  go_wp2_with fail
  exact bodyPost_ret (v := .tuple #[.agg #[.pointer q, .string t, .int .i32 l, .int .u32 p, .int .u16 u, .int .u8 k, .int .u8 0], .bool true]) (by simp [results, Try.results27, go_sem]) rfl ⟨rfl, rfl⟩

theorem new12 (q : Option Addr) (t : ByteArray) (l p u k s : Int) (i : Bool) (w : World) :
    Calls Try.prog 12 #[.agg #[.pointer q, .string t, .int .i32 l, .int .u32 p, .int .u16 u, .int .u8 k, .int .u8 s], .bool i] w fun e w' => e = .returned (.pointer (some ⟨w.heap.size + 1, 0, none⟩)) ∧ w' = (w.alloc (.cells #[.pointer q, .string t, .int .i32 l, .int .u32 p, .int .u16 u, .int .u8 k, .int .u8 s] 35)).alloc (.cells #[.pointer q, .string t, .int .i32 l, .int .u32 p, .int .u16 u, .int .u8 k, .int .u8 s, .bool i] 81) := by
  go_enter Try.func12, Try.ntmps12
  go_wp2_with fail
  go_ret
  exact ⟨rfl, rfl⟩

theorem info78 : (Try.prog.info? 78).isSome = true := by kernel_rfl
theorem eq29 (d : Nat) (q : Option Addr) (w : World) : (Op.equalIn (d + 1) 29 (.pointer q) (.pointer q)).run Try.prog w = .ok true w := by
  cases q with
  | none => simp [Op.equalIn, run_underlying Try.underlying29]
  | some a =>
    obtain ⟨j, hj⟩ := Option.isSome_iff_exists.mp info78
    simp [Op.equalIn, run_underlying Try.underlying29, sizeOf, typeInfo, hj, run_sameAddr_same]
theorem beqs (t : ByteArray) : (t == t) = true := by
  first | exact beq_self_eq_true t | (show (t.data == t.data) = true; exact beq_self_eq_true _)
set_option maxHeartbeats 4000000 in
theorem eq35 (q : Option Addr) (t : ByteArray) (l p u k s : Int) (w : World) : (binOp .eql 35 (.agg #[.pointer q, .string t, .int .i32 l, .int .u32 p, .int .u16 u, .int .u8 k, .int .u8 s]) (.agg #[.pointer q, .string t, .int .i32 l, .int .u32 p, .int .u16 u, .int .u8 k, .int .u8 s])).run Try.prog w = .ok (.bool true) w := by
  have h : ∀ d : Nat, (Op.equalIn (d + 3) 35 (.agg #[.pointer q, .string t, .int .i32 l, .int .u32 p, .int .u16 u, .int .u8 k, .int .u8 s]) (.agg #[.pointer q, .string t, .int .i32 l, .int .u32 p, .int .u16 u, .int .u8 k, .int .u8 s])).run Try.prog w = .ok true w := fun d => by
    have p0 : ∀ w, (part 29 #[.pointer q, .string t, .int .i32 l, .int .u32 p, .int .u16 u, .int .u8 k, .int .u8 s] 0).run Try.prog w = .ok (.pointer q) w := fun _ => by kernel_rfl
    have p1 : ∀ w, (part 9 #[.pointer q, .string t, .int .i32 l, .int .u32 p, .int .u16 u, .int .u8 k, .int .u8 s] 1).run Try.prog w = .ok (.string t) w := fun _ => by kernel_rfl
    have p2 : ∀ w, (part 31 #[.pointer q, .string t, .int .i32 l, .int .u32 p, .int .u16 u, .int .u8 k, .int .u8 s] 2).run Try.prog w = .ok (.agg #[.int .i32 l]) w := fun _ => by kernel_rfl
    have p3 : ∀ w, (part 27 #[.pointer q, .string t, .int .i32 l, .int .u32 p, .int .u16 u, .int .u8 k, .int .u8 s] 3).run Try.prog w = .ok (.int .u32 p) w := fun _ => by kernel_rfl
    have p4 : ∀ w, (part 26 #[.pointer q, .string t, .int .i32 l, .int .u32 p, .int .u16 u, .int .u8 k, .int .u8 s] 4).run Try.prog w = .ok (.int .u16 u) w := fun _ => by kernel_rfl
    have p5 : ∀ w, (part 32 #[.pointer q, .string t, .int .i32 l, .int .u32 p, .int .u16 u, .int .u8 k, .int .u8 s] 5).run Try.prog w = .ok (.int .u8 k) w := fun _ => by kernel_rfl
    have p6 : ∀ w, (part 33 #[.pointer q, .string t, .int .i32 l, .int .u32 p, .int .u16 u, .int .u8 k, .int .u8 s] 6).run Try.prog w = .ok (.int .u8 s) w := fun _ => by kernel_rfl
    have p7 : ∀ w, (part 21 #[.int .i32 l] 0).run Try.prog w = .ok (.int .i32 l) w := fun _ => by kernel_rfl
    have e0 : ∀ w, (Op.equalIn (d + 2) 9 (.string t) (.string t)).run Try.prog w = .ok true w := fun w => by simp [Op.equalIn, run_underlying Try.underlying9, beqs]
    have e1 : ∀ w, (Op.equalIn (d + 2) 27 (.int .u32 p) (.int .u32 p)).run Try.prog w = .ok true w := fun w => by simp [Op.equalIn, run_underlying Try.underlying27]
    have e2 : ∀ w, (Op.equalIn (d + 2) 26 (.int .u16 u) (.int .u16 u)).run Try.prog w = .ok true w := fun w => by simp [Op.equalIn, run_underlying Try.underlying26]
    have e3 : ∀ w, (Op.equalIn (d + 2) 32 (.int .u8 k) (.int .u8 k)).run Try.prog w = .ok true w := fun w => by simp [Op.equalIn, run_underlying Try.underlying32]
    have e4 : ∀ w, (Op.equalIn (d + 2) 33 (.int .u8 s) (.int .u8 s)).run Try.prog w = .ok true w := fun w => by simp [Op.equalIn, run_underlying Try.underlying33]
    have e5 : ∀ w, (Op.equalIn (d + 1) 21 (.int .i32 l) (.int .i32 l)).run Try.prog w = .ok true w := fun w => by simp [Op.equalIn, run_underlying Try.underlying21]
    have e6 : ∀ w, (Op.equalIn (d + 2) 31 (.agg #[.int .i32 l]) (.agg #[.int .i32 l])).run Try.prog w = .ok true w := fun w => by rw [Op.equalIn]; simp [run_underlying Try.underlying31, p7, e5]
    rw [Op.equalIn]
    simp [run_underlying Try.underlying35, p0, p1, p2, p3, p4, p5, p6, eq29, e0, e1, e2, e3, e4, e6]
  simp only [binOp]
  simp [Op.equal, Op.maxDepth, h 9997]

theorem conv11 (b : Nat) (q : Option Addr) (t : ByteArray) (l p u k s x : Int) (w : World) (hb : b < w.heap.size)
    (h0 : w.cell? ⟨b, 0, none⟩ = some (.pointer q)) (h1 : w.cell? ⟨b, 1, none⟩ = some (.string t)) (h2 : w.cell? ⟨b, 2, none⟩ = some (.int .i32 l)) (h3 : w.cell? ⟨b, 3, none⟩ = some (.int .u32 p))
    (h4 : w.cell? ⟨b, 4, none⟩ = some (.int .u16 u)) (h5 : w.cell? ⟨b, 5, none⟩ = some (.int .u8 k)) (h6 : w.cell? ⟨b, 6, none⟩ = some (.int .u8 s)) :
    Calls Try.prog 11 #[.pointer (some ⟨b, 0, none⟩), .int .u8 x] w fun e w' => e = .returned (.tuple #[.agg #[.pointer q, .string t, .int .i32 l, .int .u32 p, .int .u16 u, .int .u8 k, .int .u8 0], .bool true]) ∧ w' = ((w.alloc (.cells #[.pointer q, .string t, .int .i32 l, .int .u32 p, .int .u16 u, .int .u8 k, .int .u8 0] 35)).alloc (.cells #[.pointer q, .string t, .int .i32 l, .int .u32 p, .int .u16 u, .int .u8 k, .int .u8 0] 35)).alloc (.cells #[.pointer q, .string t, .int .i32 l, .int .u32 p, .int .u16 u, .int .u8 k, .int .u8 0] 35) := by
  go_enter Try.func11, Try.ntmps11
  go_wp2_with fail
  refine (conv27 b q t l p u k s x _ ?_ ?_ ?_ ?_ ?_ ?_ ?_ ?_).mono ?_
  · simp [go_sem]; omega
  · rw [World.cell?_alloc_lt _ _ _ hb]; exact h0
  · rw [World.cell?_alloc_lt _ _ _ hb]; exact h1
  · rw [World.cell?_alloc_lt _ _ _ hb]; exact h2
  · rw [World.cell?_alloc_lt _ _ _ hb]; exact h3
  · rw [World.cell?_alloc_lt _ _ _ hb]; exact h4
  · rw [World.cell?_alloc_lt _ _ _ hb]; exact h5
  · rw [World.cell?_alloc_lt _ _ _ hb]; exact h6
  rintro e w' ⟨rfl, rfl⟩
  go_wp2_with fail
  exact bodyPost_ret (v := .tuple #[.agg #[.pointer q, .string t, .int .i32 l, .int .u32 p, .int .u16 u, .int .u8 k, .int .u8 0], .bool true]) (by simp [results, Try.results11, go_sem]) rfl ⟨rfl, rfl⟩

theorem make10 (k : Int) (t : ByteArray) (l s u p : Int) (c : Bool) (ct : ByteArray) (w : World) :
    Calls Try.prog 10 #[.int .u8 k, .string t, .int .i32 l, .int .u8 s, .int .u16 u, .int .u32 p, .bool c, .string ct] w fun e w' => ∃ q, e = .returned (.agg #[.pointer q, .string t, .int .i32 l, .int .u32 p, .int .u16 u, .int .u8 k, .int .u8 s]) ∧ Below w.heap.size w w' := by
  cases c
  · go_enter Try.func10, Try.ntmps10
    go_wp2_with fail
    refine bodyPost_ret (v := .agg #[.pointer none, .string t, .int .i32 l, .int .u32 p, .int .u16 u, .int .u8 k, .int .u8 s]) (by simp [results, Try.results10, go_sem]) rfl ⟨_, rfl, ?_⟩
    refine Below.alloc (Below.alloc (Below.refl _ _) ?_ _) ?_ _ <;> simp [go_sem]
  · go_enter Try.func10, Try.ntmps10
    go_wp2_with fail
    refine bodyPost_ret (v := .agg #[.pointer (some ⟨w.heap.size + 1 + 1 + 1, 0, none⟩), .string t, .int .i32 l, .int .u32 p, .int .u16 u, .int .u8 k, .int .u8 s]) (by simp [results, Try.results10, go_sem]) rfl ⟨_, rfl, ?_⟩
    refine Below.alloc (Below.alloc (Below.alloc (Below.alloc (Below.refl _ _) ?_ _) ?_ _) ?_ _) ?_ _ <;> simp [go_sem] <;> omega
