/-
  A compound selector without an ampersand put behind the results. Conditions: each theorem's own.
-/
import Derived.Test.YtjebnjjhdefejaaGreatFmtLe
namespace Go.Proofs.YtjebnjjhdefejaaGreatFmt
open Go.RowKit Go.Lib Go.ChangeMaps
/-- a row with more at its end -/
structure AR (T sz : Nat) (v : Value) (n k : Nat) (xs news : List Value) (w : World) (e : Ending) (w' : World) : Prop where
  ex : ∃ v', e = .returned v' ∧ w'.ownsRow 0 T sz v' (n + k) (xs ++ news) ∧ w.grownBy w' v.ownBlock ∧ (v'.ownBlock = v.ownBlock ∨ ∃ g, v'.ownBlock = some g ∧ w.heap.size ≤ g)
theorem info_CP : (Tryz.prog.info? 134).map (fun i => (i.zero, i.size, i.bytes)) = some (some (.agg #[.pointer none, .slice none 0 0, .slice none 0 0, .int .i32 0, .int .u8 0, .bool false]), 6, 72) := by kernel_rfl
theorem info_SUB : (Tryz.prog.info? 127).map (fun i => (i.zero, i.size, i.bytes)) = some (some (.agg #[.nilIface, .int .i32 0, .int .i32 0]), 3, 24) := by kernel_rfl
theorem info_CX : (Tryz.prog.info? 120).map (fun i => (i.zero, i.size, i.bytes)) = some (some (.agg #[.slice none 0 0]), 1, 24) := by kernel_rfl
theorem info_RULE : (Tryz.prog.info? 39).map (fun i => (i.zero, i.size, i.bytes)) = some (some (.agg #[.nilIface, .int .i32 0]), 2, 24) := by kernel_rfl
/-- append of m elements onto a row that the run owns -/
theorem own_app (t e : TypeId) (z : Value) (sz b : Nat) (ht : Tryz.prog.underlying t = some (.slice e)) (hi : (Tryz.prog.info? e).map (fun i => (i.zero, i.size, i.bytes)) = some (some z, sz, b)) (hz : z.cells.size = sz) (h0 : 0 < sz) (hb : b ≤ 128)
    (w : World) (v : Value) (n : Nat) (xs : List Value) (ho : w.ownsRow 0 e sz v n xs) (a : Addr) (m c : Nat) (news : List Value) (hl : news.length = m * sz) (hnews : ∀ j u, news[j]? = some u → w.cell? (a.add j) = some u) (h1 : ∀ u ∈ news, u.oneCell' = true) (hn : n + m ≤ 2000000) :
    ∃ v' w', (Builtin.append_ #[t, t] t #[v, .slice (some a) m c]).run Tryz.prog w = .ok v' w' ∧ w'.ownsRow 0 e sz v' (n + m) (xs ++ news) ∧ w.grownBy w' v.ownBlock ∧ (v'.ownBlock = v.ownBlock ∨ v'.ownBlock = some w.heap.size) := by
  obtain ⟨i, hi1, z0, z1, z2⟩ := info_parts hi
  obtain ⟨v', w', a1, a2, a3, _, a5⟩ := run_append_own_at (P := Tryz.prog) w 0 t t e i z sz b ht hi1 z0 z1 z2 hz h0 v n xs ho a m c news hl hnews h1 (by unfold maxLen; omega) (by have : (n + m) * b ≤ 2000000 * 128 := Nat.mul_le_mul hn hb; omega) (Nat.zero_le _)
  exact ⟨v', w', a1, a2, a3, a5⟩
/-- append of one element just laid -/
theorem own_app1 (t e : TypeId) (z : Value) (sz b : Nat) (ht : Tryz.prog.underlying t = some (.slice e)) (hi : (Tryz.prog.info? e).map (fun i => (i.zero, i.size, i.bytes)) = some (some z, sz, b)) (hz : z.cells.size = sz) (h0 : 0 < sz) (hb : b ≤ 128)
    (w : World) (v : Value) (n : Nat) (xs : List Value) (ho : w.ownsRow 0 e sz v n xs) (news : List Value) (hl : news.length = sz) (h1 : ∀ u ∈ news, u.oneCell' = true) (hn : n + 1 ≤ 2000000) :
    ∃ v' w', (Builtin.append_ #[t, t] t #[v, .slice (some ⟨w.heap.size, 0, none⟩) 1 1]).run Tryz.prog (w.alloc (.cells news.toArray e)) = .ok v' w' ∧ w'.ownsRow 0 e sz v' (n + 1) (xs ++ news) ∧ w.grownBy w' v.ownBlock ∧ (v'.ownBlock = v.ownBlock ∨ ∃ g, v'.ownBlock = some g ∧ w.heap.size ≤ g) := by
  obtain ⟨v', w', a1, a2, a3, a5⟩ := own_app t e z sz b ht hi hz h0 hb (w.alloc (.cells news.toArray e)) v n xs (ho.alloc _) ⟨w.heap.size, 0, none⟩ 1 1 news (by omega) (fun j u hj => fresh_cells w news.toArray e _ rfl j u (by simpa using hj)) h1 (by omega)
  have hz : (w.alloc (.cells news.toArray e)).heap.size = w.heap.size + 1 := by simp
  refine ⟨v', w', a1, a2, ⟨a3.os, a3.tape, a3.output, by have := a3.size; omega, fun k hk hr => (a3.block k (by omega) hr).trans (Below.heap_alloc _ _ _ hk)⟩, ?_⟩
  rcases a5 with h | h
  · exact Or.inl h
  · exact Or.inr ⟨_, h, by omega⟩
/-- a row is kept where its block is kept -/
theorem own_keep {w w' : World} {T sz n : Nat} {v : Value} {xs : List Value} (h : w.ownsRow 0 T sz v n xs) (hb : ∀ g, v.ownBlock = some g → w'.heap[g]? = w.heap[g]?) : w'.ownsRow 0 T sz v n xs := by
  obtain ⟨h1, h2⟩ := h
  refine ⟨h1, ?_⟩
  rcases h2 with h2 | ⟨g, cap, cur, rfl, hx⟩
  · exact Or.inl h2
  · exact Or.inr ⟨g, cap, cur, rfl, hx.1, by rw [hb g rfl]; exact hx.2.1, hx.2.2⟩
theorem own_below {w w' : World} {T sz n : Nat} {v : Value} {xs : List Value} (h : w.ownsRow 0 T sz v n xs) (hb : Below w.heap.size w w') : w'.ownsRow 0 T sz v n xs := own_keep h (fun g hg => hb.block g (h.lt g hg).2)
theorem own_shape {w : World} {T sz n : Nat} {v : Value} {xs : List Value} (h : w.ownsRow 0 T sz v n xs) : ∃ a c, v = .slice a n c ∧ n ≤ c := by
  rcases h.2 with ⟨rfl, h0⟩ | ⟨g, cap, cur, hv, _, _, hc, _⟩
  · exact ⟨none, 0, by rw [h0], by omega⟩
  · exact ⟨_, cap, hv, hc⟩
theorem grown_trans {w w1 w2 : World} {v v1 : Value} (h1 : w.grownBy w1 v.ownBlock) (h2 : w1.grownBy w2 v1.ownBlock) (ho : v1.ownBlock = v.ownBlock ∨ ∃ g, v1.ownBlock = some g ∧ w.heap.size ≤ g) : w.grownBy w2 v.ownBlock :=
  ⟨h2.os.trans h1.os, h2.tape.trans h1.tape, h2.output.trans h1.output, Nat.le_trans h1.size h2.size, fun k hk hr => (h2.block k (Nat.lt_of_lt_of_le hk h1.size) (fun e => by
    rcases ho with h | ⟨g, h, hg⟩
    · exact hr (e.trans h)
    · rw [h] at e; injection e with e; omega)).trans (h1.block k hk hr)⟩
theorem grown_below {w w1 w2 : World} {v : Value} (h1 : Below w.heap.size w w1) (h2 : w1.grownBy w2 v.ownBlock) : w.grownBy w2 v.ownBlock :=
  ⟨h2.os.trans h1.os, h2.tape.trans h1.tape, h2.output.trans h1.output, Nat.le_trans h1.size h2.size, fun k hk hr => (h2.block k (Nat.lt_of_lt_of_le hk h1.size) hr).trans (h1.block k hk)⟩
set_option maxHeartbeats 8000000 in
set_option maxRecDepth 100000 in
/-- a compound selector without '&' is put behind the results -/
theorem sb31 (p fn : Value) (st : Int) (s rv : Value) (n : Nat) (xs : List Value) (P : Nat → Prop) (w : World) (hn : n ≤ 1000000) (hs : RowL HovT w P s [()]) (ho : w.ownsRow 0 134 6 rv n xs) :
    Calls Tryz.prog 25 #[p, .agg #[.pointer none, s, .slice none 0 0, .int .i32 0, .int .u8 0, .bool false], fn, rv, .int .u8 st] w fun e w' => AR 134 6 rv n 1 xs [.pointer none, s, .slice none 0 0, .int .i32 0, .int .u8 0, .bool false] w e w' := by
  obtain ⟨ub, b, sc, rfl, hpu, hu, u0, u1, u2, hpb, hb, hh⟩ := hov_at hs
  obtain ⟨ra, rc, rfl, hrc⟩ := own_shape ho
  obtain ⟨W, hW⟩ : ∃ W, W = w.alloc (.cells #[.pointer none, .slice (some ⟨ub, 0, none⟩) 1 sc, .slice none 0 0, .int .i32 0, .int .u8 0, .bool false] 134) := ⟨_, rfl⟩
  have hbW : Below w.heap.size w W := by rw [hW]; exact (Below.refl _ _).alloc (Nat.le_refl _) _
  have hN : W.heap[w.heap.size]? = some (.cells #[.pointer none, .slice (some ⟨ub, 0, none⟩) 1 sc, .slice none 0 0, .int .i32 0, .int .u8 0, .bool false] 134 (0, 0)) := by rw [hW]; exact heap_alloc_new _ _
  obtain ⟨X, hX⟩ : ∃ X, X = W.setCell ⟨w.heap.size, 2, none⟩ (.slice none 0 0) := ⟨_, rfl⟩
  have hbX : Below w.heap.size w X := by rw [hX]; exact hbW.setCell (Nat.le_refl _) _
  have hNX : X.heap[w.heap.size]? = some (.cells #[.pointer none, .slice (some ⟨ub, 0, none⟩) 1 sc, .slice none 0 0, .int .i32 0, .int .u8 0, .bool false] 134 (0, 0)) := by rw [hX]; exact hset hN 2 _
  obtain ⟨f2, f2f⟩ := hcell hN 2 _ rfl
  have HL0 := hid (show LoI X 1 1 (.int .i64 0) X from ⟨0, rfl, rfl, Below.refl _ _⟩)
  have HX := hid (And.intro hbX (And.intro hNX (And.intro ho (And.intro hu (And.intro u0 (And.intro u1 u2))))))
  have y1 := (hcell hNX 1 _ rfl).1
  have HX1 := hid hX
  clear hs ho hbW hN u0 u1 u2 hh hbX hNX hX
  go_enter Tryz.func25, Tryz.ntmps25
  go_wp2_with fail
  rw [← hW]
  clear hW
  go_loopg [3, 30] 0 (fun g v3 v30 wx => v3 = .slice ra n rc ∧ v30 = .int .i64 0 ∧ wx = W)
  case atStart => exact ⟨rfl, rfl, rfl⟩
  case round =>
    obtain ⟨rfl, rfl, rfl⟩ := hrel
    have y1' := y1
    rw [HX1.out] at y1'
    go_wp2_with fail
    rw [← HX1.out]
    clear y1 y1' f2 f2f
    go_loopg [147] 1 (fun g v147 wx => LoI X 1 g v147 wx)
    case atStart => exact HL0.out
    case round =>
      obtain ⟨k, hkg, rfl, hb⟩ := hrel.ex
      clear hrel HL0
      cases gk with
      | zero =>
        obtain rfl : k = 1 := by omega
        have hN2 := (hb.block _ (heap_lt HX.out.2.1)).trans HX.out.2.1
        have hbw := HX.out.1.trans (hb.mono HX.out.1.size)
        have c0 := (hcell hN2 0 _ rfl).1
        have c1 := (hcell hN2 1 _ rfl).1
        have c2 := (hcell hN2 2 _ rfl).1
        have c3 := (hcell hN2 3 _ rfl).1
        have c4 := (hcell hN2 4 _ rfl).1
        have c5 := (hcell hN2 5 _ rfl).1
        obtain ⟨v', w2, happ, ho2, hg2, hat2⟩ := own_app1 118 134 _ 6 72 Tryz.underlying118 info_CP rfl (by decide) (by decide) wr (.slice ra n rc) n xs (own_below HX.out.2.2.1 hbw) [.pointer none, .slice (some ⟨ub, 0, none⟩) 1 sc, .slice none 0 0, .int .i32 0, .int .u8 0, .bool false] rfl (by intro u hu; simp at hu; rcases hu with rfl | rfl | rfl | rfl | rfl | rfl <;> rfl) (by omega)
        have HAP := hid happ
        have HF := hid (And.intro ho2 (And.intro (grown_below (v := .slice ra n rc) hbw hg2) (show v'.ownBlock = (Value.slice ra n rc).ownBlock ∨ ∃ g, v'.ownBlock = some g ∧ w.heap.size ≤ g from hat2.elim Or.inl (fun ⟨g, h1, h2⟩ => Or.inr ⟨g, h1, Nat.le_trans hbw.size h2⟩))))
        obtain ⟨va, vc, rfl, _⟩ := own_shape ho2
        clear hb hN2 hbw happ ho2 hg2 hat2
        go_wp2_with (at_builtin; go_loud (refine list_run rfl _ _ 118 rfl (.slice ra n rc) (.slice (some ⟨wr.heap.size, 0, none⟩) 1 1) _ w2 rfl rfl HAP.out ?_))
        go_ret
        exact ⟨_, rfl, HF.out.1, HF.out.2.1, HF.out.2.2⟩
      | succ g' =>
        obtain rfl : k = 0 := by omega
        obtain rfl : g' = 0 := by omega
        have hbw := HX.out.1.trans (hb.mono HX.out.1.size)
        have c0 := (cellLow (hbw.block _ HX.out.2.2.2.1) 0).trans HX.out.2.2.2.2.1
        have c1 := (cellLow (hbw.block _ HX.out.2.2.2.1) 1).trans HX.out.2.2.2.2.2.1
        have c2 := (cellLow (hbw.block _ HX.out.2.2.2.1) 2).trans HX.out.2.2.2.2.2.2
        have ta := asP_L
        have HB := hid hb
        clear hb hbw
        go_wp2_with fail
        go_roundg 0
        case measure => omega
        case rel => exact ⟨1, rfl, rfl, HB.out.alloc HB.out.size _⟩
end Go.Proofs.YtjebnjjhdefejaaGreatFmt
