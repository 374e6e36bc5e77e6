/-
  A declaration in a lowering. Conditions: each theorem's own.
-/
import Derived.Test.YtjebnjjhdefejaaGreatFmtLn
namespace Go.Proofs.YtjebnjjhdefejaaGreatFmt
open Go.RowKit Go.Lib Go.ChangeMaps
theorem asD_S (v : Value) (w : World) : (Instr.typeAssert (.iface 103 v) 35 110 true).run Tryz.prog w = .ok (.tuple #[.pointer none, .bool false]) w := by kernel_rfl
theorem asD_K (v : Value) (w : World) : (Instr.typeAssert (.iface 103 v) 35 115 true).run Tryz.prog w = .ok (.tuple #[.pointer none, .bool false]) w := by kernel_rfl
theorem asD_M (v : Value) (w : World) : (Instr.typeAssert (.iface 103 v) 35 145 true).run Tryz.prog w = .ok (.tuple #[.pointer none, .bool false]) w := by kernel_rfl
theorem asD_L (v : Value) (w : World) : (Instr.typeAssert (.iface 103 v) 35 142 true).run Tryz.prog w = .ok (.tuple #[.pointer none, .bool false]) w := by kernel_rfl
theorem asK_S (v : Value) (w : World) : (Instr.typeAssert (.iface 115 v) 35 110 true).run Tryz.prog w = .ok (.tuple #[.pointer none, .bool false]) w := by kernel_rfl
theorem asK_K (v : Value) (w : World) : (Instr.typeAssert (.iface 115 v) 35 115 true).run Tryz.prog w = .ok (.tuple #[v, .bool true]) w := by kernel_rfl
structure BeR (v : Value) (w : World) (e : Ending) (w' : World) : Prop where
  ex : e = .returned v ∧ Below w.heap.size w w'
set_option maxHeartbeats 16000000 in
set_option maxRecDepth 100000 in
theorem ctx26d (p : Value) (b cb : Nat) (l : Int) (w : World) : Calls Tryz.prog 35 #[p, .agg #[.iface 103 (.pointer (some ⟨b, 0, none⟩)), .int .i32 l], .pointer (some ⟨cb, 0, none⟩)] w fun e w' => BeR (.agg #[.iface 103 (.pointer (some ⟨b, 0, none⟩)), .int .i32 l]) w e w' := by
  obtain ⟨W1, hW1⟩ : ∃ X, X = w.alloc (.cells #[.iface 103 (.pointer (some ⟨b, 0, none⟩)), .int .i32 l] 39) := ⟨_, rfl⟩
  have hw1 : Below w.heap.size w W1 := by rw [hW1]; exact (Below.refl _ _).alloc (Nat.le_refl _) _
  have h1 : W1.heap[w.heap.size]? = some (.cells #[.iface 103 (.pointer (some ⟨b, 0, none⟩)), .int .i32 l] 39 (0, 0)) := by rw [hW1]; exact heap_alloc_new _ _
  have s1 : W1.heap.size = w.heap.size + 1 := by rw [hW1]; simp
  obtain ⟨W2, hW2⟩ : ∃ X, X = W1.alloc (.cells #[.pointer (some ⟨cb, 0, none⟩)] 141) := ⟨_, rfl⟩
  have hw2 : Below W1.heap.size W1 W2 := by rw [hW2]; exact (Below.refl _ _).alloc (Nat.le_refl _) _
  obtain ⟨W3, hW3⟩ : ∃ X, X = W2.alloc (.cells #[.nilIface, .int .i32 0] 39) := ⟨_, rfl⟩
  have hw3 : Below W2.heap.size W2 W3 := by rw [hW3]; exact (Below.refl _ _).alloc (Nat.le_refl _) _
  have s2 : W2.heap.size = W1.heap.size + 1 := by rw [hW2]; simp
  have h31 := (hw3.block _ (heap_lt ((hw2.block _ (heap_lt h1)).trans h1))).trans ((hw2.block _ (heap_lt h1)).trans h1)
  have h33 : W3.heap[W2.heap.size]? = some (.cells #[.nilIface, .int .i32 0] 39 (0, 0)) := by rw [hW3]; exact heap_alloc_new _ _
  rw [s2, s1] at h33
  obtain ⟨W4, hW4⟩ : ∃ X, X = (W3.setCell ⟨w.heap.size + 1 + 1, 0, none⟩ (.iface 103 (.pointer (some ⟨b, 0, none⟩)))).setCell ⟨w.heap.size + 1 + 1, 1, none⟩ (.int .i32 l) := ⟨_, rfl⟩
  have hw13 : Below w.heap.size w W3 := hw1.trans ((hw2.mono (by omega)).trans (hw3.mono (by omega)))
  have hw4 : Below w.heap.size w W4 := by rw [hW4]; exact (hw13.setCell (p := ⟨w.heap.size + 1 + 1, 0, none⟩) (by simp; omega) _).setCell (p := ⟨w.heap.size + 1 + 1, 1, none⟩) (by simp; omega) _
  have h43 : W4.heap[w.heap.size + 1 + 1]? = some (.cells #[.iface 103 (.pointer (some ⟨b, 0, none⟩)), .int .i32 l] 39 (0, 0)) := by rw [hW4]; exact hset (hset h33 0 _) 1 (.int .i32 l)
  have c0 := (hcell h31 0 _ rfl).1
  have c1 := (hcell h31 1 _ rfl).1
  obtain ⟨z0, z0f⟩ := hcell h33 0 _ rfl
  obtain ⟨z1, z1f⟩ := hcell (hset h33 0 (.iface 103 (.pointer (some ⟨b, 0, none⟩)))) 1 _ rfl
  have t1 := asD_S
  have t2 := asD_K
  have t3 := asD_M
  have t4 := asD_L
  have r0 := (hcell h43 0 _ rfl).1
  have r1 := (hcell h43 1 _ rfl).1
  have HW := hid (And.intro hW1 (And.intro hW2 (And.intro hW3 (And.intro hW4 hw4))))
  clear hW1 hW2 hW3 hW4 hw4 hw1 hw2 hw3 h1 s1 s2 h31 h33 hw13 h43
  go_enter Tryz.func35, Tryz.ntmps35
  go_upto_region 1 with fail
  rw [← HW.out.1, ← HW.out.2.1, ← HW.out.2.2.1]
  go_wp2_with fail
  rw [← HW.out.2.2.2.1]
  exact bodyPost_ret (v := .agg #[.iface 103 (.pointer (some ⟨b, 0, none⟩)), .int .i32 l]) (by simp [results, Tryz.results35, go_sem, r0, r1]) rfl ⟨rfl, HW.out.2.2.2.2⟩
theorem InT.pos {d : Nat} {w : World} {lo hi : Nat} {v : Value} {t : Tr} (h : InT d w lo hi v t) : 1 ≤ cntT d t := by
  cases d with
  | zero => exact h.elim
  | succ d => cases t; simp [cntT]
theorem KidsAt.len {d : Nat} {w : World} {arr : Array Value} : ∀ (ts : List Tr) (lo hi k : Nat), KidsAt (fun lo hi => InT d w lo hi) arr lo hi k ts → ts.length ≤ cntTL d ts
  | [], _, _, _, _ => Nat.zero_le _
  | t :: ts, lo, hi, k, h => by
    obtain ⟨mid, v, _, _, _, a4, a5⟩ := h
    have := KidsAt.len ts mid hi (k + 1) a5
    have := a4.pos
    rw [cntTL_cons, List.length_cons]
    omega
theorem pctx0 : PCtx 0 := fun _ _ _ _ _ _ _ _ _ _ _ _ _ h => h.elim
end Go.Proofs.YtjebnjjhdefejaaGreatFmt
