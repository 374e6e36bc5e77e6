/-
  The makers of rules. Conditions: each theorem's own.
-/
import Derived.Test.YtjebnjjhdefejaaGreatFmtLq
namespace Go.Proofs.YtjebnjjhdefejaaGreatFmt
open Go.RowKit Go.Lib Go.ChangeMaps
theorem three_alloc (w : World) (o1 o2 o3 : Obj) : Below w.heap.size w (((w.alloc o1).alloc o2).alloc o3) ∧ (((w.alloc o1).alloc o2).alloc o3).heap.size = w.heap.size + 3 ∧ (((w.alloc o1).alloc o2).alloc o3).heap[w.heap.size]? = some o1 ∧ (((w.alloc o1).alloc o2).alloc o3).heap[w.heap.size + 1]? = some o2 ∧ (((w.alloc o1).alloc o2).alloc o3).heap[w.heap.size + 1 + 1]? = some o3 := by
  obtain ⟨h1, h2, h3, h4⟩ := two_alloc w o1 o2
  have b3 : Below ((w.alloc o1).alloc o2).heap.size ((w.alloc o1).alloc o2) (((w.alloc o1).alloc o2).alloc o3) := (Below.refl _ _).alloc (Nat.le_refl _) _
  refine ⟨h1.trans (b3.mono (by omega)), by simp, (b3.block _ (heap_lt h3)).trans h3, (b3.block _ (heap_lt h4)).trans h4, ?_⟩
  have := heap_alloc_new ((w.alloc o1).alloc o2) o3
  rw [h2] at this
  exact this
/-- a rule's cells put into the result, a block behind it -/
theorem res_box (w w2 : World) (a0 a1 : Value) (o : Obj) (h : w2.heap[w.heap.size]? = some (.cells #[.nilIface, .int .i32 0] 39 (0, 0))) (hb : Below w.heap.size w w2) :
    let W := ((w2.setCell ⟨w.heap.size, 0, none⟩ a0).setCell ⟨w.heap.size, 1, none⟩ a1).alloc o
    W.heap[w.heap.size]? = some (.cells #[a0, a1] 39 (0, 0)) ∧ W.heap[w2.heap.size]? = some o ∧ W.heap.size = w2.heap.size + 1 ∧ Below w.heap.size w W ∧ ∀ g, g ≠ w.heap.size → g < w2.heap.size → W.heap[g]? = w2.heap[g]? := by
  intro W
  have hz : ((w2.setCell ⟨w.heap.size, 0, none⟩ a0).setCell ⟨w.heap.size, 1, none⟩ a1).heap.size = w2.heap.size := by simp [World.setCell]
  have hl := heap_lt h
  have e : ∀ g, g < w2.heap.size → W.heap[g]? = ((w2.setCell ⟨w.heap.size, 0, none⟩ a0).setCell ⟨w.heap.size, 1, none⟩ a1).heap[g]? := fun g hg => Below.heap_alloc _ _ _ (by omega)
  refine ⟨(e _ hl).trans (hset (hset h 0 _) 1 _), ?_, by simp [W, World.setCell], ((hb.setCell (p := ⟨w.heap.size, 0, none⟩) (Nat.le_refl _) _).setCell (p := ⟨w.heap.size, 1, none⟩) (Nat.le_refl _) _).alloc (by have := hb.size; omega) _, fun g h1 h2 => (e g h2).trans (set2o _ 0 _ _ h1)⟩
  have := heap_alloc_new ((w2.setCell ⟨w.heap.size, 0, none⟩ a0).setCell ⟨w.heap.size, 1, none⟩ a1) o
  rw [hz] at this
  exact this
structure LeR (w : World) (e : Ending) (w' : World) : Prop where
  ex : ∃ b, e = .returned (.agg #[.iface 121 (.pointer (some ⟨b, 0, none⟩)), .int .i32 0, .int .i32 0]) ∧ w.heap.size ≤ b ∧ w'.heap[b]? = some (.cells hov 123 (0, 0)) ∧ Below w.heap.size w w'
set_option maxRecDepth 100000 in
theorem le18 (w : World) : Calls Tryz.prog 31 #[] w fun e w' => LeR w e w' := by
  obtain ⟨W1, hW1⟩ : ∃ X, X = w.alloc (.cells #[.nilIface, .int .i32 0, .int .i32 0] 127) := ⟨_, rfl⟩
  have s1 : W1.heap.size = w.heap.size + 1 := by rw [hW1]; simp
  have hb1 : Below w.heap.size w W1 := by rw [hW1]; exact (Below.refl _ _).alloc (Nat.le_refl _) _
  have h1 : W1.heap[w.heap.size]? = some (.cells #[.nilIface, .int .i32 0, .int .i32 0] 127 (0, 0)) := by rw [hW1]; exact heap_alloc_new _ _
  obtain ⟨W2, hW2⟩ : ∃ X, X = ((W1.setCell ⟨w.heap.size, 0, none⟩ (.iface 121 (.pointer (some ⟨w.heap.size + 1, 0, none⟩)))).setCell ⟨w.heap.size, 1, none⟩ (.int .i32 0)).setCell ⟨w.heap.size, 2, none⟩ (.int .i32 0) := ⟨_, rfl⟩
  have h2 : W2.heap[w.heap.size]? = some (.cells #[.iface 121 (.pointer (some ⟨w.heap.size + 1, 0, none⟩)), .int .i32 0, .int .i32 0] 127 (0, 0)) := by rw [hW2]; exact hset (hset (hset h1 0 _) 1 _) 2 _
  have hb2 : Below w.heap.size w W2 := by rw [hW2]; exact ((hb1.setCell (p := ⟨w.heap.size, 0, none⟩) (Nat.le_refl _) _).setCell (p := ⟨w.heap.size, 1, none⟩) (Nat.le_refl _) _).setCell (p := ⟨w.heap.size, 2, none⟩) (Nat.le_refl _) _
  have s2 : W2.heap.size = w.heap.size + 1 := by rw [hW2]; simp [World.setCell, s1]
  obtain ⟨W3, hW3⟩ : ∃ X, X = W2.alloc (.cells #[.string { data := #[104, 111, 118, 101, 114] }, .slice none 0 0, .bool false] 123) := ⟨_, rfl⟩
  have hb3 : Below W2.heap.size W2 W3 := by rw [hW3]; exact (Below.refl _ _).alloc (Nat.le_refl _) _
  have h3 : W3.heap[W2.heap.size]? = some (.cells hov 123 (0, 0)) := by rw [hW3]; exact heap_alloc_new _ _
  rw [s2] at h3
  have h32 := (hb3.block _ (heap_lt h2)).trans h2
  have f0 := (hcell h32 0 _ rfl).1
  have f1 := (hcell h32 1 _ rfl).1
  have f2 := (hcell h32 2 _ rfl).1
  have hfin : LeR w (.returned (.agg #[.iface 121 (.pointer (some ⟨w.heap.size + 1, 0, none⟩)), .int .i32 0, .int .i32 0])) W3 := ⟨w.heap.size + 1, rfl, by omega, h3, hb2.trans (hb3.mono (by omega))⟩
  have HFIN := hid hfin
  have HF := hid (And.intro f0 (And.intro f1 f2))
  have HW := hid (And.intro hW1 (And.intro hW2 hW3))
  obtain ⟨a0, a0f⟩ := hcell h1 0 _ rfl
  obtain ⟨a1, a1f⟩ := hcell h1 1 _ rfl
  obtain ⟨a2, a2f⟩ := hcell h1 2 _ rfl
  have hl1 := heap_lt h1
  clear hW1 hb1 h1 hb2 h2 hW2 h3 hb3 f0 f1 f2 hfin hW3 s2 h32
  go_enter Tryz.func31, Tryz.ntmps31
  go_upto_region 1 with fail
  rw [← HW.out.1]
  go_wp2_with fail
  rw [← HW.out.2.1, ← HW.out.2.2]
  obtain ⟨f0, f1, f2⟩ := HF.out
  exact bodyPost_ret (v := .agg #[.iface 121 (.pointer (some ⟨w.heap.size + 1, 0, none⟩)), .int .i32 0, .int .i32 0]) (by simp [results, Tryz.results31, go_sem, f0, f1, f2]) rfl HFIN.out
structure OnR (w : World) (e : Ending) (w' : World) : Prop where
  ex : ∃ sb g, e = .returned (.slice (some ⟨sb, 0, none⟩) 1 1) ∧ w.heap.size ≤ sb ∧ w'.heap[sb]? = some (.cells #[.slice (some ⟨g, 0, none⟩) 1 1] 120 (0, 0)) ∧ RowL CpH w' (fun q => w.heap.size ≤ q ∧ q < w'.heap.size ∧ q ≠ sb) (.slice (some ⟨g, 0, none⟩) 1 1) (us 1) ∧ Below w.heap.size w w'
theorem one_sel {W : World} {P : Nat → Prop} {b su g : Nat} (hb : W.heap[b]? = some (.cells hov 123 (0, 0))) (hs : W.heap[su]? = some (.cells #[.iface 121 (.pointer (some ⟨b, 0, none⟩)), .int .i32 0, .int .i32 0] 127 (0, 0))) (hg : W.heap[g]? = some (.cells #[.pointer none, .slice (some ⟨su, 0, none⟩) 1 1, .slice none 0 0, .int .i32 0, .int .u8 0, .bool false] 134 (0, 0))) (pb : P b) (ps : P su) (pg : P g) : RowL CpH W P (.slice (some ⟨g, 0, none⟩) 1 1) (us 1) := by
  have hr : RowL HovT W P (.slice (some ⟨su, 0, none⟩) 1 1) [()] := ⟨_, 1, rfl, fun i hi => by
    have hi0 : i = 0 := by simp at hi; omega
    subst hi0
    exact ⟨su, rfl, ps, heap_lt hs, b, (hcell hs 0 _ rfl).1, (hcell hs 1 _ rfl).1, (hcell hs 2 _ rfl).1, pb, heap_lt hb, hb⟩⟩
  refine ⟨_, 1, rfl, fun i hi => ?_⟩
  have hi0 : i = 0 := by simp at hi; omega
  subst hi0
  exact ⟨g, rfl, pg, heap_lt hg, (hcell hg 0 _ rfl).1, ⟨_, (hcell hg 1 _ rfl).1, hr⟩, (hcell hg 2 _ rfl).1, (hcell hg 3 _ rfl).1, (hcell hg 4 _ rfl).1, (hcell hg 5 _ rfl).1⟩
set_option maxRecDepth 100000 in
theorem on12 (w : World) : Calls Tryz.prog 23 #[] w fun e w' => OnR w e w' := by
  go_enter Tryz.func23, Tryz.ntmps23
  go_wp2_with fail
  refine (le18 w).mono ?_
  rintro e w1 hR
  obtain ⟨b, rfl, hb, hh, hbl⟩ := hR.ex
  have hB := hid (And.intro hb (And.intro hh hbl))
  clear hR hb hh hbl
  go_wp2_with fail
  obtain ⟨hb, hh, hbl⟩ := hB.out
  obtain ⟨q1, q2, q3, q4, q5⟩ := three_alloc w1 (.cells #[.iface 121 (.pointer (some ⟨b, 0, none⟩)), .int .i32 0, .int .i32 0] 127) (.cells #[.pointer none, .slice (some ⟨w1.heap.size, 0, none⟩) 1 1, .slice none 0 0, .int .i32 0, .int .u8 0, .bool false] 134) (.cells #[.slice (some ⟨w1.heap.size + 1, 0, none⟩) 1 1] 120)
  have hs1 := hbl.size
  have hbl1 := heap_lt hh
  exact bodyPost_ret (v := .slice (some ⟨w1.heap.size + 1 + 1, 0, none⟩) 1 1) (by simp [results, Tryz.results23, go_sem]) rfl ⟨w1.heap.size + 1 + 1, w1.heap.size + 1, rfl, by omega, q5, one_sel ((q1.block _ hbl1).trans hh) q3 q4 ⟨hb, by omega, by omega⟩ ⟨by omega, by omega, by omega⟩ ⟨by omega, by omega, by omega⟩, hbl.trans (q1.mono hs1)⟩
structure DeR (T : TypeId) (l : Int) (w : World) (e : Ending) (w' : World) : Prop where
  ex : ∃ b, e = .returned (.agg #[.iface T (.pointer (some ⟨b, 0, none⟩)), .int .i32 l]) ∧ Below w.heap.size w w'
set_option maxRecDepth 100000 in
theorem de23 (l : Int) (w : World) : Calls Tryz.prog 16 #[.int .i32 l] w fun e w' => DeR 103 l w e w' := by
  obtain ⟨W1, hW1⟩ : ∃ X, X = w.alloc (.cells #[.nilIface, .int .i32 0] 39) := ⟨_, rfl⟩
  have s1 : W1.heap.size = w.heap.size + 1 := by rw [hW1]; simp
  have hb1 : Below w.heap.size w W1 := by rw [hW1]; exact (Below.refl _ _).alloc (Nat.le_refl _) _
  have h1 : W1.heap[w.heap.size]? = some (.cells #[.nilIface, .int .i32 0] 39 (0, 0)) := by rw [hW1]; exact heap_alloc_new _ _
  have HR := hid (And.intro h1 hb1)
  have HW := hid hW1
  obtain ⟨a0, a0f⟩ := hcell h1 0 _ rfl
  obtain ⟨a1, a1f⟩ := hcell h1 1 _ rfl
  have hl1 := heap_lt h1
  clear hW1 hb1 h1
  go_enter Tryz.func16, Tryz.ntmps16
  go_upto_region 1 with fail
  rw [← HW.out]
  go_wp2_with fail
  obtain ⟨h1, hb1⟩ := HR.out
  obtain ⟨q1, q2, q3, q4, q5⟩ := res_box w W1 (.iface 103 (.pointer (some ⟨w.heap.size + 1, 0, none⟩))) (.int .i32 l) (.cells #[.string { data := #[] }, .slice none 0 0, .int .i32 0, .int .i32 0, .int .u16 0, .bool false] 109) h1 hb1
  have f0 := (hcell q1 0 _ rfl).1
  have f1 := (hcell q1 1 _ rfl).1
  generalize ((W1.setCell ⟨w.heap.size, 0, none⟩ (.iface 103 (.pointer (some ⟨w.heap.size + 1, 0, none⟩)))).setCell ⟨w.heap.size, 1, none⟩ (.int .i32 l)).alloc (.cells #[.string { data := #[] }, .slice none 0 0, .int .i32 0, .int .i32 0, .int .u16 0, .bool false] 109) = WF at *
  exact bodyPost_ret (v := .agg #[.iface 103 (.pointer (some ⟨w.heap.size + 1, 0, none⟩)), .int .i32 l]) (by simp [results, Tryz.results16, go_sem, f0, f1]) rfl ⟨_, rfl, q4⟩
structure KaR (l : Int) (rs : Value) (w : World) (e : Ending) (w' : World) : Prop where
  ex : ∃ b arr, e = .returned (.agg #[.iface 115 (.pointer (some ⟨b, 0, none⟩)), .int .i32 l]) ∧ w.heap.size < b ∧ w'.heap[b]? = some (.cells arr 117 (0, 0)) ∧ arr[2]? = some rs ∧ arr.size = 4 ∧ Below w.heap.size w w'
set_option maxRecDepth 100000 in
theorem ka25 (l : Int) (a : Option Addr) (n c : Nat) (w : World) : Calls Tryz.prog 18 #[.int .i32 l, .slice a n c] w fun e w' => KaR l (.slice a n c) w e w' := by
  obtain ⟨W1, hW1⟩ : ∃ X, X = w.alloc (.cells #[.nilIface, .int .i32 0] 39) := ⟨_, rfl⟩
  have s1 : W1.heap.size = w.heap.size + 1 := by rw [hW1]; simp
  have hb1 : Below w.heap.size w W1 := by rw [hW1]; exact (Below.refl _ _).alloc (Nat.le_refl _) _
  have h1 : W1.heap[w.heap.size]? = some (.cells #[.nilIface, .int .i32 0] 39 (0, 0)) := by rw [hW1]; exact heap_alloc_new _ _
  have HR := hid (And.intro h1 hb1)
  have HW := hid hW1
  obtain ⟨a0, a0f⟩ := hcell h1 0 _ rfl
  obtain ⟨a1, a1f⟩ := hcell h1 1 _ rfl
  have hl1 := heap_lt h1
  clear hW1 hb1 h1
  go_enter Tryz.func18, Tryz.ntmps18
  go_upto_region 1 with fail
  rw [← HW.out]
  go_wp2_with fail
  obtain ⟨h1, hb1⟩ := HR.out
  obtain ⟨q1, q2, q3, q4, q5⟩ := res_box w W1 (.iface 115 (.pointer (some ⟨w.heap.size + 1, 0, none⟩))) (.int .i32 l) (.cells #[.string { data := #[] }, .slice none 0 0, .slice a n c, .int .i32 0] 117) h1 hb1
  have f0 := (hcell q1 0 _ rfl).1
  have f1 := (hcell q1 1 _ rfl).1
  rw [s1] at q2
  generalize ((W1.setCell ⟨w.heap.size, 0, none⟩ (.iface 115 (.pointer (some ⟨w.heap.size + 1, 0, none⟩)))).setCell ⟨w.heap.size, 1, none⟩ (.int .i32 l)).alloc (.cells #[.string { data := #[] }, .slice none 0 0, .slice a n c, .int .i32 0] 117) = WF at *
  exact bodyPost_ret (v := .agg #[.iface 115 (.pointer (some ⟨w.heap.size + 1, 0, none⟩)), .int .i32 l]) (by simp [results, Tryz.results18, go_sem, f0, f1]) rfl ⟨_, _, rfl, by omega, q2, rfl, rfl, q4⟩
structure SlR (l : Int) (rs : Value) (w : World) (e : Ending) (w' : World) : Prop where
  ex : ∃ b sb g, e = .returned (.agg #[.iface 110 (.pointer (some ⟨b, 0, none⟩)), .int .i32 l]) ∧ w.heap.size < b ∧ b < w'.heap.size ∧ w'.heap[b]? = some (.cells #[.slice (some ⟨sb, 0, none⟩) 1 1, rs, .int .i32 0] 114 (0, 0)) ∧ w.heap.size < sb ∧ w'.heap[sb]? = some (.cells #[.slice (some ⟨g, 0, none⟩) 1 1] 120 (0, 0)) ∧ RowL CpH w' (fun q => w.heap.size < q ∧ q < w'.heap.size ∧ q ≠ sb ∧ q ≠ b) (.slice (some ⟨g, 0, none⟩) 1 1) (us 1) ∧ Below w.heap.size w w'
set_option maxRecDepth 100000 in
theorem sl24 (l : Int) (a : Option Addr) (n c : Nat) (w : World) : Calls Tryz.prog 17 #[.int .i32 l, .slice a n c] w fun e w' => SlR l (.slice a n c) w e w' := by
  obtain ⟨W1, hW1⟩ : ∃ X, X = w.alloc (.cells #[.nilIface, .int .i32 0] 39) := ⟨_, rfl⟩
  have s1 : W1.heap.size = w.heap.size + 1 := by rw [hW1]; simp
  have hb1 : Below w.heap.size w W1 := by rw [hW1]; exact (Below.refl _ _).alloc (Nat.le_refl _) _
  have h1 : W1.heap[w.heap.size]? = some (.cells #[.nilIface, .int .i32 0] 39 (0, 0)) := by rw [hW1]; exact heap_alloc_new _ _
  have HR := hid (And.intro h1 (And.intro hb1 s1))
  have HW := hid hW1
  clear hW1 hb1 h1 s1
  go_enter Tryz.func17, Tryz.ntmps17
  go_upto_region 1 with fail
  rw [← HW.out]
  go_wp2_with fail
  refine (on12 W1).mono ?_
  rintro e w2 hO
  obtain ⟨sb, g, rfl, p1, p2, p3, p4⟩ := hO.ex
  obtain ⟨h1, hb1, s1⟩ := HR.out
  have h2 := (p4.block _ (heap_lt h1)).trans h1
  have hb2 := hb1.trans (p4.mono hb1.size)
  obtain ⟨a0, a0f⟩ := hcell h2 0 _ rfl
  obtain ⟨a1, a1f⟩ := hcell h2 1 _ rfl
  have hl2 := heap_lt h2
  have HO := hid (And.intro p1 (And.intro p2 (And.intro p3 (And.intro p4 (And.intro h2 (And.intro hb2 s1))))))
  clear hO p1 p2 p3 p4 h1 hb1 s1 h2 hb2
  go_wp2_with fail
  obtain ⟨p1, p2, p3, p4, h2, hb2, s1⟩ := HO.out
  obtain ⟨q1, q2, q3, q4, q5⟩ := res_box w w2 (.iface 110 (.pointer (some ⟨w2.heap.size, 0, none⟩))) (.int .i32 l) (.cells #[.slice (some ⟨sb, 0, none⟩) 1 1, .slice a n c, .int .i32 0] 114) h2 hb2
  have f0 := (hcell q1 0 _ rfl).1
  have f1 := (hcell q1 1 _ rfl).1
  have hsb := heap_lt p2
  generalize ((w2.setCell ⟨w.heap.size, 0, none⟩ (.iface 110 (.pointer (some ⟨w2.heap.size, 0, none⟩)))).setCell ⟨w.heap.size, 1, none⟩ (.int .i32 l)).alloc (.cells #[.slice (some ⟨sb, 0, none⟩) 1 1, .slice a n c, .int .i32 0] 114) = WF at *
  exact bodyPost_ret (v := .agg #[.iface 110 (.pointer (some ⟨w2.heap.size, 0, none⟩)), .int .i32 l]) (by simp [results, Tryz.results17, go_sem, f0, f1]) rfl ⟨w2.heap.size, sb, g, rfl, hl2, by omega, q2, by omega, (q5 _ (by omega) hsb).trans p2, p3.keep ⟨by omega, fun q hq hl => q5 q (by omega) hl, fun q hq _ => ⟨by omega, by omega, hq.2.2, by omega⟩⟩, q4⟩
end Go.Proofs.YtjebnjjhdefejaaGreatFmt
