/-
  At-rules made. Conditions: each theorem's own.
-/
import Derived.Test.YtllafdcijpdopaaGreatFmtPj
namespace Go.Proofs.YtllafdcijpdopaaGreatFmt
open Go.RowKit Go.Lib
attribute [local go_sem] ta_112_112 ta_112_50 ta_112_55 ta_112_59 ta_112_113 ta_50_112 ta_50_50 ta_50_55 ta_50_59 ta_50_113 ta_55_112 ta_55_50 ta_55_55 ta_55_59 ta_55_113 ta_59_112 ta_59_50 ta_59_55 ta_59_59 ta_59_113 ta_113_112 ta_113_50 ta_113_55 ta_113_59 ta_113_113 ta_nil_112 ta_nil_50 ta_nil_55 ta_nil_59 ta_nil_113 ta_169_169 ta_169_149 nn_112 ne_112 nn_50 ne_50 nn_55 ne_55 nn_59 ne_59 nn_113 ne_113 ne_nil nn_nil
structure MkR (T TD : TypeId) (arr : Array Value) (w : World) (e : Ending) (w' : World) : Prop where
  ex : ∃ D, e = .returned (.agg #[.iface T (.pointer (some ⟨D, 0, none⟩)), .int .i32 0]) ∧ w.heap.size ≤ D ∧ w'.heap[D]? = some (.cells arr TD (0, 0)) ∧ Below w.heap.size w w'
set_option maxRecDepth 100000 in
theorem mk6 (sa : Option Addr) (sn sc : Nat) (w : World) : Calls Tryz.prog 6 #[.slice sa sn sc] w fun e w' => MkR 50 53 #[.slice none 0 0, .slice sa sn sc, .int .i32 0] w e w' := by
  go_enter Tryz.func6, Tryz.ntmps6
  go_wp2_with fail
  exact bodyPost_ret (v := .agg #[.iface 50 (.pointer (some ⟨w.heap.size + 1, 0, none⟩)), .int .i32 0]) (by simp [results, Tryz.results6, go_sem]) rfl ⟨w.heap.size + 1, rfl, by omega, by
    have := heap_alloc_new (w.alloc (.cells #[.iface 50 (.pointer (some ⟨w.heap.size + 1, 0, none⟩)), .int .i32 0] 30)) (.cells #[.slice none 0 0, .slice sa sn sc, .int .i32 0] 53)
    simpa using this, ((Below.refl _ _).alloc (Nat.le_refl _) _).alloc (by simp) _⟩

set_option maxRecDepth 100000 in
theorem mk8 (sa : Option Addr) (sn sc : Nat) (w : World) : Calls Tryz.prog 8 #[.slice sa sn sc] w fun e w' => MkR 55 58 #[.slice none 0 0, .slice sa sn sc, .int .i32 0] w e w' := by
  go_enter Tryz.func8, Tryz.ntmps8
  go_wp2_with fail
  exact bodyPost_ret (v := .agg #[.iface 55 (.pointer (some ⟨w.heap.size + 1, 0, none⟩)), .int .i32 0]) (by simp [results, Tryz.results8, go_sem]) rfl ⟨w.heap.size + 1, rfl, by omega, by
    have := heap_alloc_new (w.alloc (.cells #[.iface 55 (.pointer (some ⟨w.heap.size + 1, 0, none⟩)), .int .i32 0] 30)) (.cells #[.slice none 0 0, .slice sa sn sc, .int .i32 0] 58)
    simpa using this, ((Below.refl _ _).alloc (Nat.le_refl _) _).alloc (by simp) _⟩

set_option maxRecDepth 100000 in
theorem mk9 (sa : Option Addr) (sn sc : Nat) (w : World) : Calls Tryz.prog 9 #[.slice sa sn sc] w fun e w' => MkR 59 62 #[.string ⟨#[]⟩, .slice none 0 0, .slice sa sn sc, .int .i32 0] w e w' := by
  go_enter Tryz.func9, Tryz.ntmps9
  go_wp2_with fail
  exact bodyPost_ret (v := .agg #[.iface 59 (.pointer (some ⟨w.heap.size + 1, 0, none⟩)), .int .i32 0]) (by simp [results, Tryz.results9, go_sem]) rfl ⟨w.heap.size + 1, rfl, by omega, by
    have := heap_alloc_new (w.alloc (.cells #[.iface 59 (.pointer (some ⟨w.heap.size + 1, 0, none⟩)), .int .i32 0] 30)) (.cells #[.string ⟨#[]⟩, .slice none 0 0, .slice sa sn sc, .int .i32 0] 62)
    simpa using this, ((Below.refl _ _).alloc (Nat.le_refl _) _).alloc (by simp) _⟩
end Go.Proofs.YtllafdcijpdopaaGreatFmt
