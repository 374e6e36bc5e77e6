/-
  Contexts made; rules read. Conditions: each theorem's own.
-/
import Derived.Test.YtjebnjjhdefejaaGreatFmtMf
namespace Go.Proofs.YtjebnjjhdefejaaGreatFmt
open Go.RowKit Go.Lib Go.ChangeMaps
structure I32R (z : Int) (w : World) (e : Ending) (w' : World) : Prop where
  ex : e = .returned (.int .i32 z) ∧ Below w.heap.size w w'
set_option maxRecDepth 100000 in
theorem lo14 (b : Nat) (l : Int) (w : World) : Calls Tryz.prog 21 #[.agg #[.iface 103 (.pointer (some ⟨b, 0, none⟩)), .int .i32 l]] w fun e w' => I32R l w e w' := by
  obtain ⟨W1, hW1⟩ : ∃ X, X = w.alloc (.cells #[.iface 103 (.pointer (some ⟨b, 0, none⟩)), .int .i32 l] 39) := ⟨_, rfl⟩
  have hb1 : Below w.heap.size w W1 := by rw [hW1]; exact (Below.refl _ _).alloc (Nat.le_refl _) _
  have h1 : W1.heap[w.heap.size]? = some (.cells #[.iface 103 (.pointer (some ⟨b, 0, none⟩)), .int .i32 l] 39 (0, 0)) := by rw [hW1]; exact heap_alloc_new _ _
  have a1 := (hcell h1 1 _ rfl).1
  have HB := hid (And.intro hb1 hW1)
  clear hb1 hW1 h1
  go_enter Tryz.func21, Tryz.ntmps21
  go_upto_region 1 with fail
  rw [← HB.out.2]
  go_wp2_with fail
  exact bodyPost_ret (v := .int .i32 l) (by simp [results, Tryz.results21, go_sem]) rfl ⟨rfl, HB.out.1⟩
theorem as_DD (v : Value) (w : World) : (Instr.typeAssert (.iface 103 v) 35 103 true).run Tryz.prog w = .ok (.tuple #[v, .bool true]) w := by kernel_rfl
structure BoR (z : Bool) (w : World) (e : Ending) (w' : World) : Prop where
  ex : e = .returned (.bool z) ∧ Below w.heap.size w w'
set_option maxRecDepth 100000 in
theorem id20 (b : Nat) (l : Int) (w : World) : Calls Tryz.prog 28 #[.agg #[.iface 103 (.pointer (some ⟨b, 0, none⟩)), .int .i32 l]] w fun e w' => BoR true w e w' := by
  obtain ⟨W1, hW1⟩ : ∃ X, X = w.alloc (.cells #[.iface 103 (.pointer (some ⟨b, 0, none⟩)), .int .i32 l] 39) := ⟨_, rfl⟩
  have hb1 : Below w.heap.size w W1 := by rw [hW1]; exact (Below.refl _ _).alloc (Nat.le_refl _) _
  have h1 : W1.heap[w.heap.size]? = some (.cells #[.iface 103 (.pointer (some ⟨b, 0, none⟩)), .int .i32 l] 39 (0, 0)) := by rw [hW1]; exact heap_alloc_new _ _
  have a1 := (hcell h1 0 _ rfl).1
  have HB := hid (And.intro hb1 hW1)
  have t1 := as_DD
  clear hb1 hW1 h1
  go_enter Tryz.func28, Tryz.ntmps28
  go_upto_region 1 with fail
  rw [← HB.out.2]
  go_wp2_with fail
  exact bodyPost_ret (v := .bool true) (by simp [results, Tryz.results28, go_sem]) rfl ⟨rfl, HB.out.1⟩
structure KiR (w : World) (e : Ending) (w' : World) : Prop where
  ex : e = .returned (.tuple #[.int .i64 0, .slice none 0 0]) ∧ Below w.heap.size w w'
set_option maxRecDepth 100000 in
theorem ki15 (b : Nat) (l : Int) (w : World) : Calls Tryz.prog 22 #[.agg #[.iface 103 (.pointer (some ⟨b, 0, none⟩)), .int .i32 l]] w fun e w' => KiR w e w' := by
  obtain ⟨W1, hW1⟩ : ∃ X, X = w.alloc (.cells #[.iface 103 (.pointer (some ⟨b, 0, none⟩)), .int .i32 l] 39) := ⟨_, rfl⟩
  have hb1 : Below w.heap.size w W1 := by rw [hW1]; exact (Below.refl _ _).alloc (Nat.le_refl _) _
  have h1 : W1.heap[w.heap.size]? = some (.cells #[.iface 103 (.pointer (some ⟨b, 0, none⟩)), .int .i32 l] 39 (0, 0)) := by rw [hW1]; exact heap_alloc_new _ _
  have a1 := (hcell h1 0 _ rfl).1
  have a2 := (hcell h1 1 _ rfl).1
  have HB := hid (And.intro hb1 hW1)
  clear hb1 hW1 h1
  go_enter Tryz.func22, Tryz.ntmps22
  go_upto_region 1 with fail
  rw [← HB.out.2]
  go_wp2_with fail
  refine (id20 b l W1).mono ?_
  rintro e w2 hR
  obtain ⟨rfl, hb2⟩ := hR.ex
  have H2 := hid hb2
  clear hR hb2
  go_wp2_with fail
  exact bodyPost_ret (v := .tuple #[.int .i64 0, .slice none 0 0]) (by simp [results, Tryz.results22, go_sem]) rfl ⟨rfl, HB.out.1.trans (H2.out.mono HB.out.1.size)⟩
structure NpR (w : World) (e : Ending) (w' : World) : Prop where
  ex : ∃ pb, e = .returned (.pointer (some ⟨pb, 0, none⟩)) ∧ w.heap.size ≤ pb ∧ Par w' pb ∧ Below w.heap.size w w'
set_option maxRecDepth 100000 in
theorem np10 (w : World) : Calls Tryz.prog 10 #[] w fun e w' => NpR w e w' := by
  go_enter Tryz.func10, Tryz.ntmps10
  go_wp2_with fail
  exact bodyPost_ret (v := .pointer (some ⟨w.heap.size, 0, none⟩)) (by simp [results, Tryz.results10, go_sem]) rfl ⟨_, rfl, Nat.le_refl _, ⟨_, heap_alloc_new _ _, rfl⟩, (Below.refl _ _).alloc (Nat.le_refl _) _⟩
end Go.Proofs.YtjebnjjhdefejaaGreatFmt
