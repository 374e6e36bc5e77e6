import Derived.Test.YtgkphknholechaaIo
import Derived.WalkKit
namespace Go.Proofs.Ytgkphknholechaa
open Go.ChangeShapes Go.WideShapes Go.ChangeAt Go.RowKit

theorem meth_neg (a : Addr) (w : World) : (method 277 71 (.pointer (some a)) "github.com/evanw/esbuild/internal/css_parser.partiallySimplify").run Try.prog w = .ok (57, .pointer (some a)) w := by kernel_rfl
theorem meth_val (a : Addr) (w : World) : (method 277 39 (.pointer (some a)) "github.com/evanw/esbuild/internal/css_parser.partiallySimplify").run Try.prog w = .ok (52, .pointer (some a)) w := by kernel_rfl
theorem meth_num (a : Addr) (w : World) : (method 277 68 (.pointer (some a)) "github.com/evanw/esbuild/internal/css_parser.partiallySimplify").run Try.prog w = .ok (55, .pointer (some a)) w := by kernel_rfl

theorem as_val_num (a : Addr) (w : World) : (Instr.typeAssert (.iface 39 (.pointer (some a))) 67 68 true).run Try.prog w = .ok (.tuple #[.pointer none, .bool false]) w := by kernel_rfl
theorem as_val_neg (a : Addr) (w : World) : (Instr.typeAssert (.iface 39 (.pointer (some a))) 67 71 true).run Try.prog w = .ok (.tuple #[.pointer none, .bool false]) w := by kernel_rfl
theorem as_val_inv (a : Addr) (w : World) : (Instr.typeAssert (.iface 39 (.pointer (some a))) 67 94 true).run Try.prog w = .ok (.tuple #[.pointer none, .bool false]) w := by kernel_rfl
theorem as_val_val (a : Addr) (w : World) : (Instr.typeAssert (.iface 39 (.pointer (some a))) 67 39 true).run Try.prog w = .ok (.tuple #[.pointer (some a), .bool true]) w := by kernel_rfl
theorem as_neg_num (a : Addr) (w : World) : (Instr.typeAssert (.iface 71 (.pointer (some a))) 67 68 true).run Try.prog w = .ok (.tuple #[.pointer none, .bool false]) w := by kernel_rfl
theorem as_neg_neg (a : Addr) (w : World) : (Instr.typeAssert (.iface 71 (.pointer (some a))) 67 71 true).run Try.prog w = .ok (.tuple #[.pointer (some a), .bool true]) w := by kernel_rfl
theorem as_num_num (a : Addr) (w : World) : (Instr.typeAssert (.iface 68 (.pointer (some a))) 67 68 true).run Try.prog w = .ok (.tuple #[.pointer (some a), .bool true]) w := by kernel_rfl
theorem as_num_neg (a : Addr) (w : World) : (Instr.typeAssert (.iface 68 (.pointer (some a))) 67 71 true).run Try.prog w = .ok (.tuple #[.pointer none, .bool false]) w := by kernel_rfl
theorem as_num_inv (a : Addr) (w : World) : (Instr.typeAssert (.iface 68 (.pointer (some a))) 67 94 true).run Try.prog w = .ok (.tuple #[.pointer none, .bool false]) w := by kernel_rfl

theorem val_simp (a : Addr) (w : World) : Calls Try.prog 52 #[.pointer (some a)] w fun e w' => e = .returned (.iface 39 (.pointer (some a))) ∧ w' = w := by
  go_enter Try.func52, Try.ntmps52
  go_wp2
  go_ret
  exact ⟨rfl, rfl⟩
theorem num_simp (a : Addr) (w : World) : Calls Try.prog 55 #[.pointer (some a)] w fun e w' => e = .returned (.iface 68 (.pointer (some a))) ∧ w' = w := by
  go_enter Try.func55, Try.ntmps55
  go_wp2
  go_ret
  exact ⟨rfl, rfl⟩

attribute [local go_sem] as_val_num as_val_neg as_neg_num as_neg_neg as_num_num meth_neg meth_val meth_num

set_option maxRecDepth 20000 in
/-- the child is the value leaf -/
theorem neg_leaf (b : Nat) (v : Nat) (w : World) (h : w.cell? ⟨b, 0, none⟩ = some (.iface 39 (.pointer (some ⟨v, 0, none⟩)))) (hf : w.frozen? ⟨b, 0, none⟩ = false) :
    Calls Try.prog 57 #[.pointer (some ⟨b, 0, none⟩)] w fun e w' => e = .returned (.iface 71 (.pointer (some ⟨b, 0, none⟩))) ∧ w' = w.setCell ⟨b, 0, none⟩ (.iface 39 (.pointer (some ⟨v, 0, none⟩))) := by
  go_enter Try.func57, Try.ntmps57
  go_wp2_with fail
  refine (val_simp _ _).mono ?_
  rintro e w' ⟨rfl, rfl⟩
  go_wp2_with fail
  go_ret
  exact ⟨rfl, rfl⟩

set_option maxRecDepth 20000 in
/-- the child is a negate node c that comes back as the value leaf -/
theorem neg_to_leaf (b c v : Nat) (w : World) (R : World → Prop) (h : w.cell? ⟨b, 0, none⟩ = some (.iface 71 (.pointer (some ⟨c, 0, none⟩))))
    (K : Calls Try.prog 57 #[.pointer (some ⟨c, 0, none⟩)] w fun e w' => e = .returned (.iface 39 (.pointer (some ⟨v, 0, none⟩))) ∧ R w')
    (hR : ∀ w', R w' → (∃ x, w'.cell? ⟨b, 0, none⟩ = some (.iface 71 x)) ∧ w'.frozen? ⟨b, 0, none⟩ = false) :
    Calls Try.prog 57 #[.pointer (some ⟨b, 0, none⟩)] w fun e w' => e = .returned (.iface 71 (.pointer (some ⟨b, 0, none⟩))) ∧ ∃ w1, R w1 ∧ w' = w1.setCell ⟨b, 0, none⟩ (.iface 39 (.pointer (some ⟨v, 0, none⟩))) := by
  go_enter Try.func57, Try.ntmps57
  go_wp2_with fail
  refine K.mono ?_
  rintro e w' ⟨rfl, hr⟩
  obtain ⟨⟨x, q⟩, f⟩ := hR w' hr
  go_wp2_with fail
  go_ret
  exact ⟨rfl, w', hr, rfl⟩

set_option maxRecDepth 20000 in
/-- the child is a negate node c that comes back as a negate node d with x in it -/
theorem neg_to_neg (b c d : Nat) (x : Value) (w : World) (R : World → Prop) (h : w.cell? ⟨b, 0, none⟩ = some (.iface 71 (.pointer (some ⟨c, 0, none⟩))))
    (K : Calls Try.prog 57 #[.pointer (some ⟨c, 0, none⟩)] w fun e w' => e = .returned (.iface 71 (.pointer (some ⟨d, 0, none⟩))) ∧ R w')
    (hd : (b == d) = false)
    (hR : ∀ w', R w' → (∃ x, w'.cell? ⟨b, 0, none⟩ = some (.iface 71 x)) ∧ w'.frozen? ⟨b, 0, none⟩ = false ∧ w'.cell? ⟨d, 0, none⟩ = some x) :
    Calls Try.prog 57 #[.pointer (some ⟨b, 0, none⟩)] w fun e w' => e = .returned x ∧ ∃ w1, R w1 ∧ w' = w1.setCell ⟨b, 0, none⟩ (.iface 71 (.pointer (some ⟨d, 0, none⟩))) := by
  have hd' : b ≠ d := by simpa using hd
  go_enter Try.func57, Try.ntmps57
  go_wp2_with fail
  refine K.mono ?_
  rintro e w' ⟨rfl, hr⟩
  obtain ⟨⟨y, q⟩, f, g⟩ := hR w' hr
  go_wp2_with fail
  go_ret
  exact ⟨rfl, w', hr, rfl⟩
