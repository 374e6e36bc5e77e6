/-
  Contexts made; rules read. Conditions: each theorem's own.
-/
import Derived.Test.YtjebnjjhdefejaaFmtMf
namespace Go.Proofs.YtjebnjjhdefejaaFmt
open Go.RowKit Go.Lib Go.ChangeMaps
structure I32R (z : Int) (w : World) (e : Ending) (w' : World) : Prop where
  ex : e = .returned (.int .i32 z) ∧ Below w.heap.size w w'
set_option maxRecDepth 100000 in
theorem lo14 (b : Nat) (l : Int) (w : World) : Calls Tryf.prog 14 #[.agg #[.iface 129 (.pointer (some ⟨b, 0, none⟩)), .int .i32 l]] w fun e w' => I32R l w e w' := by
  obtain ⟨W1, hW1⟩ : ∃ X, X = w.alloc (.cells #[.iface 129 (.pointer (some ⟨b, 0, none⟩)), .int .i32 l] 51) := ⟨_, rfl⟩
  have hb1 : Below w.heap.size w W1 := by rw [hW1]; exact (Below.refl _ _).alloc (Nat.le_refl _) _
  have h1 : W1.heap[w.heap.size]? = some (.cells #[.iface 129 (.pointer (some ⟨b, 0, none⟩)), .int .i32 l] 51 (0, 0)) := by rw [hW1]; exact heap_alloc_new _ _
  have a1 := (hcell h1 1 _ rfl).1
  have HB := hid (And.intro hb1 hW1)
  clear hb1 hW1 h1
  go_enter Tryf.func14, Tryf.ntmps14
  go_upto_region 1 with fail
  rw [← HB.out.2]
  go_wp2_with fail
  exact bodyPost_ret (v := .int .i32 l) (by simp [results, Tryf.results14, go_sem]) rfl ⟨rfl, HB.out.1⟩
theorem as_DD (v : Value) (w : World) : (Instr.typeAssert (.iface 129 v) 47 129 true).run Tryf.prog w = .ok (.tuple #[v, .bool true]) w := by kernel_rfl
structure BoR (z : Bool) (w : World) (e : Ending) (w' : World) : Prop where
  ex : e = .returned (.bool z) ∧ Below w.heap.size w w'
set_option maxRecDepth 100000 in
theorem id20 (b : Nat) (l : Int) (w : World) : Calls Tryf.prog 20 #[.agg #[.iface 129 (.pointer (some ⟨b, 0, none⟩)), .int .i32 l]] w fun e w' => BoR true w e w' := by
  obtain ⟨W1, hW1⟩ : ∃ X, X = w.alloc (.cells #[.iface 129 (.pointer (some ⟨b, 0, none⟩)), .int .i32 l] 51) := ⟨_, rfl⟩
  have hb1 : Below w.heap.size w W1 := by rw [hW1]; exact (Below.refl _ _).alloc (Nat.le_refl _) _
  have h1 : W1.heap[w.heap.size]? = some (.cells #[.iface 129 (.pointer (some ⟨b, 0, none⟩)), .int .i32 l] 51 (0, 0)) := by rw [hW1]; exact heap_alloc_new _ _
  have a1 := (hcell h1 0 _ rfl).1
  have HB := hid (And.intro hb1 hW1)
  have t1 := as_DD
  clear hb1 hW1 h1
  go_enter Tryf.func20, Tryf.ntmps20
  go_upto_region 1 with fail
  rw [← HB.out.2]
  go_wp2_with fail
  exact bodyPost_ret (v := .bool true) (by simp [results, Tryf.results20, go_sem]) rfl ⟨rfl, HB.out.1⟩
structure KiR (w : World) (e : Ending) (w' : World) : Prop where
  ex : e = .returned (.tuple #[.int .i64 0, .slice none 0 0]) ∧ Below w.heap.size w w'
set_option maxRecDepth 100000 in
theorem ki15 (b : Nat) (l : Int) (w : World) : Calls Tryf.prog 15 #[.agg #[.iface 129 (.pointer (some ⟨b, 0, none⟩)), .int .i32 l]] w fun e w' => KiR w e w' := by
  obtain ⟨W1, hW1⟩ : ∃ X, X = w.alloc (.cells #[.iface 129 (.pointer (some ⟨b, 0, none⟩)), .int .i32 l] 51) := ⟨_, rfl⟩
  have hb1 : Below w.heap.size w W1 := by rw [hW1]; exact (Below.refl _ _).alloc (Nat.le_refl _) _
  have h1 : W1.heap[w.heap.size]? = some (.cells #[.iface 129 (.pointer (some ⟨b, 0, none⟩)), .int .i32 l] 51 (0, 0)) := by rw [hW1]; exact heap_alloc_new _ _
  have a1 := (hcell h1 0 _ rfl).1
  have a2 := (hcell h1 1 _ rfl).1
  have HB := hid (And.intro hb1 hW1)
  clear hb1 hW1 h1
  go_enter Tryf.func15, Tryf.ntmps15
  go_upto_region 1 with fail
  rw [← HB.out.2]
  go_wp2_with fail
  refine (id20 b l W1).mono ?_
  rintro e w2 hR
  obtain ⟨rfl, hb2⟩ := hR.ex
  have H2 := hid hb2
  clear hR hb2
  go_wp2_with fail
  exact bodyPost_ret (v := .tuple #[.int .i64 0, .slice none 0 0]) (by simp [results, Tryf.results15, go_sem]) rfl ⟨rfl, HB.out.1.trans (H2.out.mono HB.out.1.size)⟩
structure LwR (v : Value) (w : World) (e : Ending) (w' : World) : Prop where
  ex : e = .returned v ∧ w' = w
set_option maxRecDepth 100000 in
theorem ld16 (cb : Nat) (pw pn : Value) (a : Option Addr) (n c : Nat) (w : World) (h : w.heap[cb]? = some (.cells #[pw, pn, .slice a n c] 100 (0, 0))) : Calls Tryf.prog 16 #[.pointer (some ⟨cb, 0, none⟩)] w fun e w' => LwR (.slice a n c) w e w' := by
  have a1 := (hcell h 2 _ rfl).1
  clear h
  go_enter Tryf.func16, Tryf.ntmps16
  go_wp2_with fail
  exact bodyPost_ret (v := .slice a n c) (by simp [results, Tryf.results16, go_sem]) rfl ⟨rfl, rfl⟩
structure NcR (s lw : Value) (w : World) (e : Ending) (w' : World) : Prop where
  ex : ∃ cb, e = .returned (.pointer (some ⟨cb, 0, none⟩)) ∧ cb = w.heap.size ∧ w'.heap[cb]? = some (.cells #[s, s, lw] 100 (0, 0)) ∧ Below w.heap.size w w'
set_option maxRecDepth 100000 in
theorem nc11 (a b : Option Addr) (n m c d : Nat) (w : World) : Calls Tryf.prog 11 #[.slice a n c, .slice b m d] w fun e w' => NcR (.slice a n c) (.slice b m d) w e w' := by
  go_enter Tryf.func11, Tryf.ntmps11
  go_wp2_with fail
  exact bodyPost_ret (v := .pointer (some ⟨w.heap.size, 0, none⟩)) (by simp [results, Tryf.results11, go_sem]) rfl ⟨_, rfl, rfl, heap_alloc_new _ _, (Below.refl _ _).alloc (Nat.le_refl _) _⟩
structure NpR (w : World) (e : Ending) (w' : World) : Prop where
  ex : ∃ pb, e = .returned (.pointer (some ⟨pb, 0, none⟩)) ∧ w.heap.size ≤ pb ∧ Par w' pb ∧ Below w.heap.size w w'
set_option maxRecDepth 100000 in
theorem np10 (w : World) : Calls Tryf.prog 10 #[] w fun e w' => NpR w e w' := by
  go_enter Tryf.func10, Tryf.ntmps10
  go_wp2_with fail
  exact bodyPost_ret (v := .pointer (some ⟨w.heap.size, 0, none⟩)) (by simp [results, Tryf.results10, go_sem]) rfl ⟨_, rfl, Nat.le_refl _, ⟨_, heap_alloc_new _ _, rfl⟩, (Below.refl _ _).alloc (Nat.le_refl _) _⟩
set_option maxRecDepth 100000 in
theorem zr13 {k rb cap : Nat} {arr : Array Value} {ts : List Tr} {lo hi cb : Nat} {pw pn lw : Value} {n : Nat} {S : Nat → Prop} {m pb : Nat} {w : World} (h : Calls Tryf.prog 19 #[.pointer (some ⟨pb, 0, none⟩), .slice (some ⟨rb, 0, none⟩) ts.length cap, .pointer (some ⟨cb, 0, none⟩)] w fun e w' => RemR k rb cap arr ts lo hi cb pw pn lw n S m pb w e w') :
    Calls Tryf.prog 13 #[.pointer (some ⟨pb, 0, none⟩), .slice (some ⟨rb, 0, none⟩) ts.length cap, .pointer (some ⟨cb, 0, none⟩)] w fun e w' => RemR k rb cap arr ts lo hi cb pw pn lw n S m pb w e w' := by
  have H := hid h
  clear h
  obtain ⟨K, hK⟩ : ∃ K, K = (keptM ts).length := ⟨_, rfl⟩
  have HK := hid hK
  clear hK
  go_enter Tryf.func13, Tryf.ntmps13
  go_wp2_with fail
  refine H.out.mono ?_
  rintro e w' hR
  obtain ⟨lw', n', arr', rfl, hrest⟩ := hR.ex
  have HR := hid hrest
  clear hR hrest
  rw [← HK.out]
  go_wp2_with fail
  exact bodyPost_ret (v := .slice (some ⟨rb, 0, none⟩) K cap) (by simp [results, Tryf.results13, go_sem]) rfl ⟨lw', n', arr', by rw [HK.out], HR.out⟩
end Go.Proofs.YtjebnjjhdefejaaFmt
