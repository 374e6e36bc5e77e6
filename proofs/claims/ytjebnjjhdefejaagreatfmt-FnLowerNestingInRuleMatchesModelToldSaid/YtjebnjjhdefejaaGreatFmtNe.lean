/-
  A rule's place, kind and children, read. Conditions: each theorem's own.
-/
import Derived.Test.YtjebnjjhdefejaaGreatFmtMg
namespace Go.Proofs.YtjebnjjhdefejaaGreatFmt
open Go.RowKit Go.Lib Go.ChangeMaps
theorem as_SD (v : Value) (w : World) : (Instr.typeAssert (.iface 110 v) 35 103 true).run Tryz.prog w = .ok (.tuple #[.pointer none, .bool false]) w := by kernel_rfl
theorem as_KD (v : Value) (w : World) : (Instr.typeAssert (.iface 115 v) 35 103 true).run Tryz.prog w = .ok (.tuple #[.pointer none, .bool false]) w := by kernel_rfl
theorem as_SSx (v : Value) (w : World) : (Instr.typeAssert (.iface 110 v) 35 110 true).run Tryz.prog w = .ok (.tuple #[v, .bool true]) w := by kernel_rfl
theorem as_KSx (v : Value) (w : World) : (Instr.typeAssert (.iface 115 v) 35 110 true).run Tryz.prog w = .ok (.tuple #[.pointer none, .bool false]) w := by kernel_rfl
theorem as_KKx (v : Value) (w : World) : (Instr.typeAssert (.iface 115 v) 35 115 true).run Tryz.prog w = .ok (.tuple #[v, .bool true]) w := by kernel_rfl
structure TuR (z : Value) (w : World) (e : Ending) (w' : World) : Prop where
  ex : e = .returned z ∧ Below w.heap.size w w'
set_option maxRecDepth 100000 in
theorem lo_s (b : Nat) (l : Int) (w : World) : Calls Tryz.prog 21 #[.agg #[.iface 110 (.pointer (some ⟨b, 0, none⟩)), .int .i32 l]] w fun e w' => I32R l w e w' := by
  obtain ⟨W1, hW1⟩ : ∃ X, X = w.alloc (.cells #[.iface 110 (.pointer (some ⟨b, 0, none⟩)), .int .i32 l] 39) := ⟨_, rfl⟩
  have hb1 : Below w.heap.size w W1 := by rw [hW1]; exact (Below.refl _ _).alloc (Nat.le_refl _) _
  have h1 : W1.heap[w.heap.size]? = some (.cells #[.iface 110 (.pointer (some ⟨b, 0, none⟩)), .int .i32 l] 39 (0, 0)) := by rw [hW1]; exact heap_alloc_new _ _
  have a0 := (hcell h1 0 _ rfl).1
  have a1 := (hcell h1 1 _ rfl).1
  have HB := hid (And.intro hb1 hW1)
  clear hb1 hW1 h1
  go_enter Tryz.func21, Tryz.ntmps21
  go_upto_region 1 with fail
  rw [← HB.out.2]
  go_wp2_with fail
  exact bodyPost_ret (v := .int .i32 l) (by simp [results, Tryz.results21, go_sem]) rfl ⟨rfl, HB.out.1⟩
set_option maxRecDepth 100000 in
theorem lo_k (b : Nat) (l : Int) (w : World) : Calls Tryz.prog 21 #[.agg #[.iface 115 (.pointer (some ⟨b, 0, none⟩)), .int .i32 l]] w fun e w' => I32R l w e w' := by
  obtain ⟨W1, hW1⟩ : ∃ X, X = w.alloc (.cells #[.iface 115 (.pointer (some ⟨b, 0, none⟩)), .int .i32 l] 39) := ⟨_, rfl⟩
  have hb1 : Below w.heap.size w W1 := by rw [hW1]; exact (Below.refl _ _).alloc (Nat.le_refl _) _
  have h1 : W1.heap[w.heap.size]? = some (.cells #[.iface 115 (.pointer (some ⟨b, 0, none⟩)), .int .i32 l] 39 (0, 0)) := by rw [hW1]; exact heap_alloc_new _ _
  have a0 := (hcell h1 0 _ rfl).1
  have a1 := (hcell h1 1 _ rfl).1
  have HB := hid (And.intro hb1 hW1)
  clear hb1 hW1 h1
  go_enter Tryz.func21, Tryz.ntmps21
  go_upto_region 1 with fail
  rw [← HB.out.2]
  go_wp2_with fail
  exact bodyPost_ret (v := .int .i32 l) (by simp [results, Tryz.results21, go_sem]) rfl ⟨rfl, HB.out.1⟩
set_option maxRecDepth 100000 in
theorem id_s (b : Nat) (l : Int) (w : World) : Calls Tryz.prog 28 #[.agg #[.iface 110 (.pointer (some ⟨b, 0, none⟩)), .int .i32 l]] w fun e w' => BoR false w e w' := by
  obtain ⟨W1, hW1⟩ : ∃ X, X = w.alloc (.cells #[.iface 110 (.pointer (some ⟨b, 0, none⟩)), .int .i32 l] 39) := ⟨_, rfl⟩
  have hb1 : Below w.heap.size w W1 := by rw [hW1]; exact (Below.refl _ _).alloc (Nat.le_refl _) _
  have h1 : W1.heap[w.heap.size]? = some (.cells #[.iface 110 (.pointer (some ⟨b, 0, none⟩)), .int .i32 l] 39 (0, 0)) := by rw [hW1]; exact heap_alloc_new _ _
  have a0 := (hcell h1 0 _ rfl).1
  have a1 := (hcell h1 1 _ rfl).1
  have HB := hid (And.intro hb1 hW1)
  have t1 := as_SD
  clear hb1 hW1 h1
  go_enter Tryz.func28, Tryz.ntmps28
  go_upto_region 1 with fail
  rw [← HB.out.2]
  go_wp2_with fail
  exact bodyPost_ret (v := .bool false) (by simp [results, Tryz.results28, go_sem]) rfl ⟨rfl, HB.out.1⟩
set_option maxRecDepth 100000 in
theorem id_k (b : Nat) (l : Int) (w : World) : Calls Tryz.prog 28 #[.agg #[.iface 115 (.pointer (some ⟨b, 0, none⟩)), .int .i32 l]] w fun e w' => BoR false w e w' := by
  obtain ⟨W1, hW1⟩ : ∃ X, X = w.alloc (.cells #[.iface 115 (.pointer (some ⟨b, 0, none⟩)), .int .i32 l] 39) := ⟨_, rfl⟩
  have hb1 : Below w.heap.size w W1 := by rw [hW1]; exact (Below.refl _ _).alloc (Nat.le_refl _) _
  have h1 : W1.heap[w.heap.size]? = some (.cells #[.iface 115 (.pointer (some ⟨b, 0, none⟩)), .int .i32 l] 39 (0, 0)) := by rw [hW1]; exact heap_alloc_new _ _
  have a0 := (hcell h1 0 _ rfl).1
  have a1 := (hcell h1 1 _ rfl).1
  have HB := hid (And.intro hb1 hW1)
  have t1 := as_KD
  clear hb1 hW1 h1
  go_enter Tryz.func28, Tryz.ntmps28
  go_upto_region 1 with fail
  rw [← HB.out.2]
  go_wp2_with fail
  exact bodyPost_ret (v := .bool false) (by simp [results, Tryz.results28, go_sem]) rfl ⟨rfl, HB.out.1⟩
set_option maxRecDepth 100000 in
theorem sk_s (b : Nat) (l : Int) (w : World) (s : Value) (a : Option Addr) (n c : Nat) (x : Value) (hb : w.heap[b]? = some (.cells #[s, .slice a n c, x] 114 (0, 0))) : Calls Tryz.prog 29 #[.agg #[.iface 110 (.pointer (some ⟨b, 0, none⟩)), .int .i32 l]] w fun e w' => TuR (.tuple #[.slice a n c, .bool true]) w e w' := by
  obtain ⟨W1, hW1⟩ : ∃ X, X = w.alloc (.cells #[.iface 110 (.pointer (some ⟨b, 0, none⟩)), .int .i32 l] 39) := ⟨_, rfl⟩
  have hb1 : Below w.heap.size w W1 := by rw [hW1]; exact (Below.refl _ _).alloc (Nat.le_refl _) _
  have h1 : W1.heap[w.heap.size]? = some (.cells #[.iface 110 (.pointer (some ⟨b, 0, none⟩)), .int .i32 l] 39 (0, 0)) := by rw [hW1]; exact heap_alloc_new _ _
  have a0 := (hcell h1 0 _ rfl).1
  have a1 := (hcell h1 1 _ rfl).1
  have h2 := (hb1.block _ (heap_lt hb)).trans hb
  have c1 := (hcell h2 1 _ rfl).1
  have hbl := heap_lt h2
  clear hb h2
  have HB := hid (And.intro hb1 hW1)
  have t1 := as_SSx
  clear hb1 hW1 h1
  go_enter Tryz.func29, Tryz.ntmps29
  go_upto_region 1 with fail
  rw [← HB.out.2]
  go_wp2_with fail
  exact bodyPost_ret (v := .tuple #[.slice a n c, .bool true]) (by simp [results, Tryz.results29, go_sem]) rfl ⟨rfl, HB.out.1⟩
set_option maxRecDepth 100000 in
theorem sk_k (b : Nat) (l : Int) (w : World) : Calls Tryz.prog 29 #[.agg #[.iface 115 (.pointer (some ⟨b, 0, none⟩)), .int .i32 l]] w fun e w' => TuR (.tuple #[.slice none 0 0, .bool false]) w e w' := by
  obtain ⟨W1, hW1⟩ : ∃ X, X = w.alloc (.cells #[.iface 115 (.pointer (some ⟨b, 0, none⟩)), .int .i32 l] 39) := ⟨_, rfl⟩
  have hb1 : Below w.heap.size w W1 := by rw [hW1]; exact (Below.refl _ _).alloc (Nat.le_refl _) _
  have h1 : W1.heap[w.heap.size]? = some (.cells #[.iface 115 (.pointer (some ⟨b, 0, none⟩)), .int .i32 l] 39 (0, 0)) := by rw [hW1]; exact heap_alloc_new _ _
  have a0 := (hcell h1 0 _ rfl).1
  have a1 := (hcell h1 1 _ rfl).1
  have HB := hid (And.intro hb1 hW1)
  have t1 := as_KSx
  clear hb1 hW1 h1
  go_enter Tryz.func29, Tryz.ntmps29
  go_upto_region 1 with fail
  rw [← HB.out.2]
  go_wp2_with fail
  exact bodyPost_ret (v := .tuple #[.slice none 0 0, .bool false]) (by simp [results, Tryz.results29, go_sem]) rfl ⟨rfl, HB.out.1⟩
set_option maxRecDepth 100000 in
theorem kk_k (b : Nat) (l : Int) (w : World) (arr : Array Value) (a : Option Addr) (n c : Nat) (hb : w.heap[b]? = some (.cells arr 117 (0, 0))) (ha : arr[2]? = some (.slice a n c)) : Calls Tryz.prog 30 #[.agg #[.iface 115 (.pointer (some ⟨b, 0, none⟩)), .int .i32 l]] w fun e w' => TuR (.tuple #[.slice a n c, .bool true]) w e w' := by
  obtain ⟨W1, hW1⟩ : ∃ X, X = w.alloc (.cells #[.iface 115 (.pointer (some ⟨b, 0, none⟩)), .int .i32 l] 39) := ⟨_, rfl⟩
  have hb1 : Below w.heap.size w W1 := by rw [hW1]; exact (Below.refl _ _).alloc (Nat.le_refl _) _
  have h1 : W1.heap[w.heap.size]? = some (.cells #[.iface 115 (.pointer (some ⟨b, 0, none⟩)), .int .i32 l] 39 (0, 0)) := by rw [hW1]; exact heap_alloc_new _ _
  have a0 := (hcell h1 0 _ rfl).1
  have a1 := (hcell h1 1 _ rfl).1
  have h2 := (hb1.block _ (heap_lt hb)).trans hb
  have c1 := (hcell h2 2 _ ha).1
  have hbl := heap_lt h2
  clear hb h2 ha
  have HB := hid (And.intro hb1 hW1)
  have t1 := as_KKx
  clear hb1 hW1 h1
  go_enter Tryz.func30, Tryz.ntmps30
  go_upto_region 1 with fail
  rw [← HB.out.2]
  go_wp2_with fail
  exact bodyPost_ret (v := .tuple #[.slice a n c, .bool true]) (by simp [results, Tryz.results30, go_sem]) rfl ⟨rfl, HB.out.1⟩
set_option maxRecDepth 100000 in
theorem ki_s (b : Nat) (l : Int) (w : World) (s : Value) (a : Option Addr) (n c : Nat) (x : Value) (hb : w.heap[b]? = some (.cells #[s, .slice a n c, x] 114 (0, 0))) : Calls Tryz.prog 22 #[.agg #[.iface 110 (.pointer (some ⟨b, 0, none⟩)), .int .i32 l]] w fun e w' => TuR (.tuple #[.int .i64 1, .slice a n c]) w e w' := by
  obtain ⟨W1, hW1⟩ : ∃ X, X = w.alloc (.cells #[.iface 110 (.pointer (some ⟨b, 0, none⟩)), .int .i32 l] 39) := ⟨_, rfl⟩
  have hb1 : Below w.heap.size w W1 := by rw [hW1]; exact (Below.refl _ _).alloc (Nat.le_refl _) _
  have h1 : W1.heap[w.heap.size]? = some (.cells #[.iface 110 (.pointer (some ⟨b, 0, none⟩)), .int .i32 l] 39 (0, 0)) := by rw [hW1]; exact heap_alloc_new _ _
  have a0 := (hcell h1 0 _ rfl).1
  have a1 := (hcell h1 1 _ rfl).1
  have g1 := (hb1.block _ (heap_lt hb)).trans hb
  have HB := hid (And.intro hb1 (And.intro hW1 (And.intro h1 g1)))
  clear hb1 hW1 h1 g1 hb
  go_enter Tryz.func22, Tryz.ntmps22
  go_upto_region 1 with fail
  rw [← HB.out.2.1]
  clear a0 a1
  have a0 := (hcell HB.out.2.2.1 0 _ rfl).1
  have a1 := (hcell HB.out.2.2.1 1 _ rfl).1
  have al := heap_lt HB.out.2.2.1
  go_wp2_with fail
  refine (id_s b l W1).mono ?_
  rintro e w2 hR
  obtain ⟨rfl, hb2⟩ := hR.ex
  have H0 := hid (And.intro hb2 (And.intro ((hb2.block _ (heap_lt HB.out.2.2.1)).trans HB.out.2.2.1) ((hb2.block _ (heap_lt HB.out.2.2.2)).trans HB.out.2.2.2)))
  clear hR hb2 a0 a1 al
  have a0 := (hcell H0.out.2.1 0 _ rfl).1
  have a1 := (hcell H0.out.2.1 1 _ rfl).1
  have al := heap_lt H0.out.2.1
  go_wp2_with fail
  refine (sk_s b l w2 s a n c x H0.out.2.2).mono ?_
  rintro e w3 hR
  obtain ⟨rfl, hb2⟩ := hR.ex
  have H1 := hid (And.intro hb2 (And.intro ((hb2.block _ (heap_lt H0.out.2.1)).trans H0.out.2.1) ((hb2.block _ (heap_lt H0.out.2.2)).trans H0.out.2.2)))
  clear hR hb2 a0 a1 al
  go_wp2_with fail
  exact bodyPost_ret (v := .tuple #[.int .i64 1, .slice a n c]) (by simp [results, Tryz.results22, go_sem]) rfl ⟨rfl, ((HB.out.1.trans (H0.out.1.mono HB.out.1.size)).trans (H1.out.1.mono (HB.out.1.trans (H0.out.1.mono HB.out.1.size)).size))⟩
set_option maxRecDepth 100000 in
theorem ki_k (b : Nat) (l : Int) (w : World) (arr : Array Value) (a : Option Addr) (n c : Nat) (hb : w.heap[b]? = some (.cells arr 117 (0, 0))) (ha : arr[2]? = some (.slice a n c)) : Calls Tryz.prog 22 #[.agg #[.iface 115 (.pointer (some ⟨b, 0, none⟩)), .int .i32 l]] w fun e w' => TuR (.tuple #[.int .i64 2, .slice a n c]) w e w' := by
  obtain ⟨W1, hW1⟩ : ∃ X, X = w.alloc (.cells #[.iface 115 (.pointer (some ⟨b, 0, none⟩)), .int .i32 l] 39) := ⟨_, rfl⟩
  have hb1 : Below w.heap.size w W1 := by rw [hW1]; exact (Below.refl _ _).alloc (Nat.le_refl _) _
  have h1 : W1.heap[w.heap.size]? = some (.cells #[.iface 115 (.pointer (some ⟨b, 0, none⟩)), .int .i32 l] 39 (0, 0)) := by rw [hW1]; exact heap_alloc_new _ _
  have a0 := (hcell h1 0 _ rfl).1
  have a1 := (hcell h1 1 _ rfl).1
  have g1 := (hb1.block _ (heap_lt hb)).trans hb
  have HB := hid (And.intro hb1 (And.intro hW1 (And.intro h1 g1)))
  clear hb1 hW1 h1 g1 hb
  go_enter Tryz.func22, Tryz.ntmps22
  go_upto_region 1 with fail
  rw [← HB.out.2.1]
  clear a0 a1
  have a0 := (hcell HB.out.2.2.1 0 _ rfl).1
  have a1 := (hcell HB.out.2.2.1 1 _ rfl).1
  have al := heap_lt HB.out.2.2.1
  go_wp2_with fail
  refine (id_k b l W1).mono ?_
  rintro e w2 hR
  obtain ⟨rfl, hb2⟩ := hR.ex
  have H0 := hid (And.intro hb2 (And.intro ((hb2.block _ (heap_lt HB.out.2.2.1)).trans HB.out.2.2.1) ((hb2.block _ (heap_lt HB.out.2.2.2)).trans HB.out.2.2.2)))
  clear hR hb2 a0 a1 al
  have a0 := (hcell H0.out.2.1 0 _ rfl).1
  have a1 := (hcell H0.out.2.1 1 _ rfl).1
  have al := heap_lt H0.out.2.1
  go_wp2_with fail
  refine (sk_k b l w2).mono ?_
  rintro e w3 hR
  obtain ⟨rfl, hb2⟩ := hR.ex
  have H1 := hid (And.intro hb2 (And.intro ((hb2.block _ (heap_lt H0.out.2.1)).trans H0.out.2.1) ((hb2.block _ (heap_lt H0.out.2.2)).trans H0.out.2.2)))
  clear hR hb2 a0 a1 al
  have a0 := (hcell H1.out.2.1 0 _ rfl).1
  have a1 := (hcell H1.out.2.1 1 _ rfl).1
  have al := heap_lt H1.out.2.1
  go_wp2_with fail
  refine (kk_k b l w3 arr a n c H1.out.2.2 ha).mono ?_
  rintro e w4 hR
  obtain ⟨rfl, hb2⟩ := hR.ex
  have H2 := hid (And.intro hb2 (And.intro ((hb2.block _ (heap_lt H1.out.2.1)).trans H1.out.2.1) ((hb2.block _ (heap_lt H1.out.2.2)).trans H1.out.2.2)))
  clear hR hb2 a0 a1 al
  go_wp2_with fail
  exact bodyPost_ret (v := .tuple #[.int .i64 2, .slice a n c]) (by simp [results, Tryz.results22, go_sem]) rfl ⟨rfl, (((HB.out.1.trans (H0.out.1.mono HB.out.1.size)).trans (H1.out.1.mono (HB.out.1.trans (H0.out.1.mono HB.out.1.size)).size)).trans (H2.out.1.mono ((HB.out.1.trans (H0.out.1.mono HB.out.1.size)).trans (H1.out.1.mono (HB.out.1.trans (H0.out.1.mono HB.out.1.size)).size)).size))⟩
end Go.Proofs.YtjebnjjhdefejaaGreatFmt
