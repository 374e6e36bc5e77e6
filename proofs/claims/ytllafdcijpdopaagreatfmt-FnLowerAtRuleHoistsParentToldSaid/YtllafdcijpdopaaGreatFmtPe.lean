/-
  A row under way from a block on; one compound selector built. Conditions: each theorem's own.
-/
import Derived.Test.YtllafdcijpdopaaGreatFmtPd
import Derived.Deep.DeepCutAuto
import Derived.BigRegion
import Derived.Deep.RegionWith
namespace Go.Proofs.YtllafdcijpdopaaGreatFmt
open Go.RowKit Go.Lib
/-- a row under way from block B on -/
structure BO {α : Type} {sz : Nat} (T : Elt α sz) (e : TypeId) (B : Nat) (v : Value) (ms : List α) (w : World) : Prop where
  le : B ≤ w.heap.size
  own : ∃ xs, w.ownsRow B e sz v ms.length xs ∧ ∀ i (h : i < ms.length), T.E w (Fr B v) (fun t => xs[i * sz + t]?) ms[i]
section
variable {α : Type} {sz : Nat} {T : Elt α sz} {e : TypeId} {B : Nat} {v : Value} {ms : List α} {w w' : World}
def trunc (w : World) (B : Nat) : World := { w with heap := w.heap.extract 0 B }
theorem trunc_size (h : B ≤ w.heap.size) : (trunc w B).heap.size = B := by simp [trunc]; omega
theorem trunc_below (h : B ≤ w.heap.size) : Below (trunc w B).heap.size (trunc w B) w := by
  refine ⟨rfl, rfl, rfl, by rw [trunc_size h]; exact h, fun k hk => ?_⟩
  rw [trunc_size h] at hk
  simp [trunc, Array.getElem?_extract]
  omega
theorem BR.bo {w0 : World} (h : BR T e w0 v ms w) : BO T e w0.heap.size v ms w := ⟨h.bel.size, h.own⟩
theorem BO.br {w0 : World} (h : BO T e w0.heap.size v ms w) (hb : Below w0.heap.size w0 w) : BR T e w0 v ms w := ⟨hb, h.own⟩
theorem BO.tr (h : BO T e B v ms w) : BR T e (trunc w B) v ms w := ⟨trunc_below h.le, by rw [trunc_size h.le]; exact h.own⟩
theorem BO.nil (T : Elt α sz) (e : TypeId) (B : Nat) (w : World) (h : B ≤ w.heap.size) : BO T e B (.slice none 0 0) [] w := ⟨h, [], World.ownsRow_nil _ _ _ _, fun i hi => by simp at hi⟩
theorem BO.shape (h : BO T e B v ms w) : ∃ a c, v = .slice a ms.length c := h.tr.shape
theorem BO.done (h : BO T e B v ms w) : RowL T w (fun g => B ≤ g) v ms := by
  have := h.tr.done
  rw [trunc_size h.le] at this
  exact this
theorem own_heap {base e sz n : Nat} {v : Value} {xs : List Value} (h : w.ownsRow base e sz v n xs) (hb : ∀ g, v.ownBlock = some g → w'.heap[g]? = w.heap[g]?) : w'.ownsRow base e sz v n xs := by
  obtain ⟨h1, h2⟩ := h
  refine ⟨h1, ?_⟩
  rcases h2 with h2 | ⟨g, cap, cur, rfl, hx⟩
  · exact Or.inl h2
  · exact Or.inr ⟨g, cap, cur, rfl, hx.1, by rw [hb g rfl]; exact hx.2.1, hx.2.2⟩
theorem BO.keep (h : BO T e B v ms w) (hs : w.heap.size ≤ w'.heap.size) (hb : ∀ g, B ≤ g → g < w.heap.size → w'.heap[g]? = w.heap[g]?) : BO T e B v ms w' := by
  obtain ⟨xs, ho, hx⟩ := h.own
  exact ⟨Nat.le_trans h.le hs, xs, own_heap ho (fun g hg => hb g (ho.lt g hg).1 (ho.lt g hg).2), fun i hi => T.keep ⟨hs, fun g hp hg => hb g hp.1 hg, fun g hp _ => hp⟩ (hx i hi)⟩
theorem BO.below (h : BO T e B v ms w) (hb : Below w.heap.size w w') : BO T e B v ms w' := h.keep hb.size fun g _ hg => hb.block g hg
theorem BO.set (h : BO T e B v ms w) {O o : Nat} (hO : O < B) (u : Value) : BO T e B v ms (w.setCell ⟨O, o, none⟩ u) :=
  h.keep (by simp [World.setCell]) fun g hg _ => Below.heap_setCell _ _ _ _ (by show g ≠ O; omega)
theorem BO.alloc (h : BO T e B v ms w) (o : Obj) : BO T e B v ms (w.alloc o) := h.below ((Below.refl _ _).alloc (Nat.le_refl _) _)
theorem BO.ge (h : BO T e B v ms w) : ∀ g, v.ownBlock = some g → B ≤ g := by
  obtain ⟨xs, ho, _⟩ := h.own
  exact fun g hg => (ho.lt g hg).1
theorem BO.app (t e : TypeId) (z : Value) (b : Nat) (news : List Value) (m : α) (ht : Tryz.prog.underlying t = some (.slice e)) (hi : (Tryz.prog.info? e).map (fun i => (i.zero, i.size, i.bytes)) = some (some z, sz, b)) (hz : z.cells.size = sz) (h0 : 0 < sz) (hb : b ≤ 128)
    (h : BO T e B v ms w) (hl : news.length = sz) (hx : ∀ u ∈ news, u.oneCell' = true) (hm : T.E w (Fr B v) (fun t => news[t]?) m) (hn : ms.length ≤ 2000000) :
    ∃ (g c : Nat) (w' : World), (Builtin.append_ #[t, t] t #[v, .slice (some ⟨w.heap.size, 0, none⟩) 1 1]).run Tryz.prog (w.alloc (.cells news.toArray e)) = .ok (.slice (some ⟨g, 0, none⟩) (ms.length + 1) c) w' ∧ BO T e B (.slice (some ⟨g, 0, none⟩) (ms.length + 1) c) (ms ++ [m]) w' ∧ (w.alloc (.cells news.toArray e)).grownBy w' v.ownBlock := by
  have ts := trunc_size h.le
  obtain ⟨g, c, w', a1, a2, a3⟩ := h.tr.app t e z b news m ht hi hz h0 hb hl hx (by rw [ts]; exact hm) hn
  have := a2.bo
  rw [ts] at this
  exact ⟨g, c, w', a1, this, a3⟩
theorem BO.made (T : Elt α sz) (e : TypeId) (z : Value) (n B : Nat) (w : World) (hn : n ≤ 2000000) (hB : B ≤ w.heap.size) : BO T e B (.slice (some ⟨w.heap.size, 0, none⟩) 0 n) [] (w.alloc (mkO z (n * sz) e)) := by
  have o := World.ownsRow_made (e := e) (size := sz) w (madeCells z.cells (n * sz)) n hB (by unfold maxLen; omega) (by rw [size_madeCells])
  exact ⟨by simp; omega, [], o, fun i hi => by simp at hi⟩
theorem BO.fresh (h : BO T e B v ms w) : ∀ g, w.heap.size ≤ g → Fr B v g := fun g hg => by
  obtain ⟨xs, ho, _⟩ := h.own
  have := h.le
  refine ⟨by omega, fun e => ?_⟩
  have := (ho.lt g e.symm).2
  omega
end
theorem hset {w : World} {b : Nat} {arr : Array Value} {e : TypeId} {fz : Nat × Nat} (h : w.heap[b]? = some (.cells arr e fz)) (o : Nat) (v : Value) : (w.setCell ⟨b, o, none⟩ v).heap[b]? = some (.cells (arr.setIfInBounds o v) e fz) := by
  simp [World.setCell, Array.getElem?_modify, h]
theorem hother (w : World) {b g : Nat} (o : Nat) (v : Value) (h : g ≠ b) : (w.setCell ⟨b, o, none⟩ v).heap[g]? = w.heap[g]? := Below.heap_setCell _ _ _ _ h
theorem hcell {w : World} {b : Nat} {arr : Array Value} {e : TypeId} (h : w.heap[b]? = some (.cells arr e (0, 0))) (o : Nat) (v : Value) (hv : arr[o]? = some v) : w.cell? ⟨b, o, none⟩ = some v ∧ w.frozen? ⟨b, o, none⟩ = false := by
  constructor
  · simp [World.cell?, h, hv]
  · simp [World.frozen?, h]
theorem heap_lt {w : World} {b : Nat} {o : Obj} (h : w.heap[b]? = some o) : b < w.heap.size := (Array.getElem?_eq_some_iff.1 h).1
def six (w : World) (b : Nat) (v0 v1 v2 v3 v4 v5 : Value) : World := (((((w.setCell ⟨b, 0, none⟩ v0).setCell ⟨b, 1, none⟩ v1).setCell ⟨b, 2, none⟩ v2).setCell ⟨b, 3, none⟩ v3).setCell ⟨b, 4, none⟩ v4).setCell ⟨b, 5, none⟩ v5
theorem six_heap {w : World} {b : Nat} {u0 u1 u2 u3 u4 u5 : Value} {e : TypeId} (h : w.heap[b]? = some (.cells #[u0, u1, u2, u3, u4, u5] e (0, 0))) (v0 v1 v2 v3 v4 v5 : Value) : (six w b v0 v1 v2 v3 v4 v5).heap[b]? = some (.cells #[v0, v1, v2, v3, v4, v5] e (0, 0)) := by
  have := hset (hset (hset (hset (hset (hset h 0 v0) 1 v1) 2 v2) 3 v3) 4 v4) 5 v5
  simpa [six] using this
theorem six_other (w : World) {b g : Nat} (h : g ≠ b) (v0 v1 v2 v3 v4 v5 : Value) : (six w b v0 v1 v2 v3 v4 v5).heap[g]? = w.heap[g]? := by
  unfold six
  rw [hother _ _ _ h, hother _ _ _ h, hother _ _ _ h, hother _ _ _ h, hother _ _ _ h, hother _ _ _ h]
theorem six_below {w0 w : World} {b : Nat} (h : Below w0.heap.size w0 w) (hb : w0.heap.size ≤ b) (v0 v1 v2 v3 v4 v5 : Value) : Below w0.heap.size w0 (six w b v0 v1 v2 v3 v4 v5) :=
  (((((h.setCell hb _).setCell hb _).setCell hb _).setCell hb _).setCell hb _).setCell hb _
theorem mkS (t e : TypeId) (z : Value) (sz b : Nat) (ht : Tryz.prog.underlying t = some (.slice e)) (hi : (Tryz.prog.info? e).map (fun i => (i.zero, i.size, i.bytes)) = some (some z, sz, b)) (hb : b ≤ 64) (n : Nat) (hn : n ≤ 2000000) (w : World) :
    (Instr.makeSlice t (.int .i64 (n : Int)) (.int .i64 (n : Int))).run Tryz.prog w = .ok (.slice (some ⟨w.heap.size, 0, none⟩) n n) (w.alloc (mkO z (n * sz) e)) := by
  obtain ⟨i, hi1, z0, z1, z2⟩ := info_parts hi
  have hb' : (i.bytes : Int) * (n : Int) ≤ 281474976710656 := by
    have h : i.bytes * n ≤ 64 * 2000000 := Nat.mul_le_mul (by omega) hn
    have h2 : ((i.bytes * n : Nat) : Int) ≤ 281474976710656 := by omega
    rwa [Int.natCast_mul] at h2
  have hr := run_make (P := Tryz.prog) w t e i z ht hi1 z0 .i64 .i64 n n (by omega) (Int.le_refl _) hb' (by omega)
  simp only [Int.toNat_natCast, z1] at hr
  exact hr
structure PsR (nm : NM) (w : World) (e : Ending) (w' : World) : Prop where
  ex : ∃ b, e = .returned (.agg #[.iface 169 (.pointer (some ⟨b, 0, none⟩)), .int .i32 0, .int .i32 0]) ∧ w.heap.size ≤ b ∧ b < w'.heap.size ∧ w'.cell? ⟨b, 0, none⟩ = some (.string (ba nm)) ∧ Below w.heap.size w w'
set_option maxRecDepth 100000 in
theorem ps48 (nm : NM) (w : World) : Calls Tryz.prog 48 #[.string (ba nm)] w fun e w' => PsR nm w e w' := by
  go_enter Tryz.func48, Tryz.ntmps48
  go_wp2_with fail
  exact bodyPost_ret (v := .agg #[.iface 169 (.pointer (some ⟨w.heap.size + 1, 0, none⟩)), .int .i32 0, .int .i32 0]) (by simp [results, Tryz.results48, go_sem]) rfl ⟨w.heap.size + 1, rfl, by omega, by simp, by simp [go_sem], by repeat first | exact Below.refl _ _ | refine Below.setCell ?_ (by simp) _ | refine Below.alloc ?_ (by simp) _⟩
structure LocR (k : Nat) (w : World) (e : Ending) (w' : World) : Prop where
  ex : ∃ a c, e = .returned (.slice a k c) ∧ Below w.heap.size w w'
set_option maxRecDepth 100000 in
theorem loc47 (k : Nat) (hk : k ≤ 255) (w : World) : Calls Tryz.prog 47 #[.int .i64 k] w fun e w' => LocR k w e w' := by
  have hm := mkS 128 28 _ 1 4 Tryz.underlying128 info28 (by decide) k (by omega)
  go_enter Tryz.func47, Tryz.ntmps47
  go_wp2_with fail
  exact bodyPost_ret (v := .slice (some ⟨w.heap.size, 0, none⟩) k k) (by simp [results, Tryz.results47, go_sem]) rfl ⟨_, _, rfl, (Below.refl _ _).alloc (Nat.le_refl _) _⟩
abbrev zCmp : Array Value := #[.pointer none, .slice none 0 0, .slice none 0 0, .int .i32 0, .int .u8 0, .bool false]
structure CBI (w : World) (m : Cm) (s : Value) (i : Nat) (v : Value) (wx : World) : Prop where
  bel : Below w.heap.size w wx
  box : wx.heap[w.heap.size]? = some (.cells #[.int .u8 m.comb, .int .u8 m.amps, s] 48 (0, 0))
  res : wx.heap[w.heap.size + 1]? = some (.cells zCmp 134 (0, 0))
  out : ∃ la lc, wx.heap[w.heap.size + 2]? = some (.cells #[.pointer none, v, .slice la m.amps lc, .int .i32 0, .int .u8 m.comb, .bool false] 134 (0, 0))
  row : BO SubT 158 (w.heap.size + 3) v (m.names.take i) wx
theorem CBI.call {w : World} {m : Cm} {s : Value} {i : Nat} {v : Value} {wx w' : World} (h : CBI w m s i v wx) (hb : Below wx.heap.size wx w') : CBI w m s i v w' := by
  have hs := h.row.le
  obtain ⟨la, lc, ho⟩ := h.out
  exact ⟨h.bel.trans (hb.mono h.bel.size), (hb.block _ (by omega)).trans h.box, (hb.block _ (by omega)).trans h.res, ⟨la, lc, (hb.block _ (by omega)).trans ho⟩, h.row.below hb⟩
theorem CBI.step {w : World} {m : Cm} {s : Value} {i j : Nat} {v v' : Value} {wx w5 w7 : World} {o : Obj} (h : CBI w m s i v wx) (h5 : Below wx.heap.size wx w5) (hg : (w5.alloc o).grownBy w7 v.ownBlock) (hr : BO SubT 158 (w.heap.size + 3) v' (m.names.take j) w7) : CBI w m s j v' (w7.setCell ⟨w.heap.size + 2, 1, none⟩ v') := by
  have hs := h.row.le
  have hs5 := h5.size
  have hs7 := hg.size
  have hz : (w5.alloc o).heap.size = w5.heap.size + 1 := by simp
  have low : ∀ g, g < w.heap.size + 3 → w7.heap[g]? = wx.heap[g]? := fun g hgl => by
    rw [hg.block g (by omega) (fun e => by have := h.row.ge g e.symm; omega), Below.heap_alloc _ _ _ (by omega)]
    exact h5.block g (by omega)
  obtain ⟨la, lc, ho⟩ := h.out
  refine ⟨?_, ?_, ?_, ⟨la, lc, ?_⟩, hr.set (by omega) _⟩
  · refine Below.setCell ⟨hg.os.trans (h5.os.trans h.bel.os), hg.tape.trans (h5.tape.trans h.bel.tape), hg.output.trans (h5.output.trans h.bel.output), by have := h.bel.size; omega, fun k hk => (low k (by omega)).trans (h.bel.block k hk)⟩ (by show _ ≤ _ + 2; omega) _
  · rw [hother _ _ _ (by omega), low _ (by omega)]; exact h.box
  · rw [hother _ _ _ (by omega), low _ (by omega)]; exact h.res
  · have := hset ((low (w.heap.size + 2) (by omega)).trans ho) 1 v'
    simpa using this
structure CBL (w : World) (m : Cm) (s : Value) (g : Nat) (v4 : Value) (wx : World) : Prop where
  ex : ∃ i v, i + g = m.names.length ∧ v4 = .int .i64 (i : Nat) ∧ CBI w m s i v wx
structure CmpR (m : Cm) (w : World) (e : Ending) (w' : World) : Prop where
  ex : ∃ v la lc, e = .returned (.agg #[.pointer none, v, .slice la m.amps lc, .int .i32 0, .int .u8 m.comb, .bool false]) ∧ RowL SubT w' (fun g => w.heap.size ≤ g) v m.names ∧ Below w.heap.size w w'
structure CB0 (w : World) (m : Cm) (s lv : Value) (wx : World) : Prop where
  bel : Below w.heap.size w wx
  sz : w.heap.size + 3 ≤ wx.heap.size
  box : wx.heap[w.heap.size]? = some (.cells #[.int .u8 m.comb, .int .u8 m.amps, s] 48 (0, 0))
  res : wx.heap[w.heap.size + 1]? = some (.cells zCmp 134 (0, 0))
  out : wx.heap[w.heap.size + 2]? = some (.cells #[.pointer none, .slice none 0 0, lv, .int .i32 0, .int .u8 m.comb, .bool false] 134 (0, 0))
theorem CB0.start (w : World) (m : Cm) (s : Value) : CB0 w m s (.slice none 0 0) (((w.alloc (.cells #[.int .u8 m.comb, .int .u8 m.amps, s] 48)).alloc (.cells #[.pointer none, .slice none 0 0, .slice none 0 0, .int .i32 0, .int .u8 0, .bool false] 134)).alloc (.cells #[.pointer none, .slice none 0 0, .slice none 0 0, .int .i32 0, .int .u8 m.comb, .bool false] 134)) := by
  have e0 := heap_alloc_new w (.cells #[.int .u8 m.comb, .int .u8 m.amps, s] 48)
  have b0 : Below w.heap.size w (w.alloc (.cells #[.int .u8 m.comb, .int .u8 m.amps, s] 48)) := (Below.refl _ _).alloc (Nat.le_refl _) _
  have z0 : (w.alloc (.cells #[.int .u8 m.comb, .int .u8 m.amps, s] 48)).heap.size = w.heap.size + 1 := by simp
  generalize w.alloc (.cells #[.int .u8 m.comb, .int .u8 m.amps, s] 48) = w1 at *
  have e1 := heap_alloc_new w1 (.cells zCmp 134)
  have e10 := (Below.heap_alloc w1 (.cells zCmp 134) w.heap.size (by omega)).trans e0
  have b1 := b0.alloc (by omega) (.cells zCmp 134)
  have z1 : (w1.alloc (.cells zCmp 134)).heap.size = w.heap.size + 2 := by simp; omega
  rw [z0] at e1
  generalize w1.alloc (.cells zCmp 134) = w2 at *
  obtain ⟨o2, ho2⟩ : ∃ o2 : Obj, o2 = (.cells #[.pointer none, .slice none 0 0, .slice none 0 0, .int .i32 0, .int .u8 m.comb, .bool false] 134) := ⟨_, rfl⟩
  rw [← ho2]
  have e2 := heap_alloc_new w2 o2
  have e20 := (Below.heap_alloc w2 o2 w.heap.size (by omega)).trans e10
  have e21 := (Below.heap_alloc w2 o2 (w.heap.size + 1) (by omega)).trans e1
  have b2 := b1.alloc (by omega) o2
  have z2 : (w2.alloc o2).heap.size = w.heap.size + 3 := by simp; omega
  rw [z1, ho2] at e2
  refine ⟨b2, by omega, e20, e21, ?_⟩
  rw [ho2]
  exact e2
theorem CB0.call {w : World} {m : Cm} {s lv : Value} {wx w' : World} (h : CB0 w m s lv wx) (hb : Below wx.heap.size wx w') : CB0 w m s lv w' := by
  have hs := h.sz
  exact ⟨h.bel.trans (hb.mono h.bel.size), by have := hb.size; omega, (hb.block _ (by omega)).trans h.box, (hb.block _ (by omega)).trans h.res, (hb.block _ (by omega)).trans h.out⟩
theorem CB0.locs {w : World} {m : Cm} {s lv : Value} {wx : World} (h : CB0 w m s lv wx) (lv' : Value) : CB0 w m s lv' (wx.setCell ⟨w.heap.size + 2, 2, none⟩ lv') := by
  have hs := h.sz
  refine ⟨h.bel.setCell (by show _ ≤ _ + 2; omega) _, by simpa [World.setCell] using hs, (hother _ _ _ (by omega)).trans h.box, (hother _ _ _ (by omega)).trans h.res, ?_⟩
  have := hset h.out 2 lv'
  simpa using this
theorem CB0.cbi {w : World} {m : Cm} {s : Value} {la : Option Addr} {lc : Nat} {wx : World} (h : CB0 w m s (.slice la m.amps lc) wx) : CBI w m s 0 (.slice none 0 0) wx :=
  ⟨h.bel, h.box, h.res, ⟨la, lc, h.out⟩, by rw [List.take_zero]; exact BO.nil _ _ _ _ h.sz⟩
set_option maxHeartbeats 8000000 in
set_option maxRecDepth 100000 in
theorem cmp34 (m : Cm) (s : Value) (w : World) (h : StrsAt w s m.names) (ha1 : m.amps ≤ 255) (hb : BndM m) :
    Calls Tryz.prog 34 #[.agg #[.int .u8 m.comb, .int .u8 m.amps, s]] w fun e w' => CmpR m w e w' := by
  obtain ⟨a, c, rfl, hx⟩ := h.ex
  have hn := hb.q
  have HX := hid hx
  have H0 := hid (CB0.start w m (.slice a m.names.length c))
  clear h hx hb
  go_enter Tryz.func34, Tryz.ntmps34
  go_upto_if 11 with fail
  go_cut [] (fun wx => CBI w m (.slice a m.names.length c) 0 (.slice none 0 0) wx)
  case first =>
    rename_i J KK hJ hKK
    have q1 := (hcell H0.out.box 1 _ rfl).1
    have q2 := hcell H0.out.out 2 _ rfl
    have sz := H0.out.sz
    generalize ((w.alloc (.cells #[.int .u8 m.comb, .int .u8 m.amps, .slice a m.names.length c] 48)).alloc (.cells #[.pointer none, .slice none 0 0, .slice none 0 0, .int .i32 0, .int .u8 0, .bool false] 134)).alloc (.cells #[.pointer none, .slice none 0 0, .slice none 0 0, .int .i32 0, .int .u8 m.comb, .bool false] 134) = W at *
    by_cases h0 : m.amps = 0
    · have hg : ((0 : Int) < (m.amps : Int)) = False := by simp [h0]
      go_wp2_with fail
      refine Met.intro (hJ _ _ ?_)
      repeat apply Exists.intro
      refine ⟨CB0.cbi (la := none) (lc := 0) (by rw [h0]; exact H0.out), rfl⟩
    · have hg : (0 : Int) < (m.amps : Int) := by omega
      have C47 := hid (loc47 m.amps ha1 W)
      go_wp2_with fail
      refine C47.out.mono ?_
      rintro e w2 ⟨a2, c2, rfl, hb2⟩
      have H2 := hid (H0.out.call hb2)
      have q3 := hcell H2.out.out 2 _ rfl
      obtain ⟨q4, q5⟩ := q3
      have hs2 := hb2.size
      clear C47 hb2 q1 q2
      go_wp2_with fail
      refine Met.intro (hJ _ _ ?_)
      repeat apply Exists.intro
      exact ⟨(H2.out.locs _).cbi, rfl⟩
  case rest =>
    have HC := hid hcut
    clear hcut H0
    go_wp2_with fail
    go_loopg [4] m.names.length (fun g v4 wx => CBL w m (.slice a m.names.length c) g v4 wx)
    case atStart => exact ⟨0, _, by omega, by first | rfl | simp, HC.out⟩
    case round =>
      obtain ⟨i, v, hig, rfl, hC⟩ := hrel.ex
      clear hrel HC
      obtain ⟨va, vc, hv⟩ := hC.row.shape
      have hil : (m.names.take i).length = i := by rw [List.length_take]; omega
      rw [hil] at hv
      obtain rfl := hv.symm
      obtain ⟨la, lc, hout⟩ := hC.out
      obtain ⟨c1, c1f⟩ : wr.cell? ⟨w.heap.size + 1 + 1, 1, none⟩ = some (.slice va i vc) ∧ wr.frozen? ⟨w.heap.size + 1 + 1, 1, none⟩ = false := hcell hout 1 _ rfl
      have c8 := (hcell hC.box 2 _ rfl).1
      have hsz := hC.row.le
      cases gk with
      | zero =>
        have hc : ¬ ((i : Int) < (m.names.length : Int)) := by omega
        have hie : m.names.take i = m.names := List.take_of_length_le (by omega)
        obtain ⟨x0, _⟩ := hcell hout 0 _ rfl
        obtain ⟨x2, _⟩ := hcell hout 2 _ rfl
        obtain ⟨x3, _⟩ := hcell hout 3 _ rfl
        obtain ⟨x4, _⟩ := hcell hout 4 _ rfl
        obtain ⟨x5, _⟩ := hcell hout 5 _ rfl
        obtain ⟨r0, k0⟩ := hcell hC.res 0 _ rfl
        obtain ⟨r1, k1⟩ := hcell hC.res 1 _ rfl
        obtain ⟨r2, k2⟩ := hcell hC.res 2 _ rfl
        obtain ⟨r3, k3⟩ := hcell hC.res 3 _ rfl
        obtain ⟨r4, k4⟩ := hcell hC.res 4 _ rfl
        obtain ⟨r5, k5⟩ := hcell hC.res 5 _ rfl
        have y := six_heap hC.res (.pointer none) (.slice va i vc) (.slice la m.amps lc) (.int .i32 0) (.int .u8 m.comb) (.bool false)
        have y0 := (hcell y 0 _ rfl).1
        have y1 := (hcell y 1 _ rfl).1
        have y2 := (hcell y 2 _ rfl).1
        have y3 := (hcell y 3 _ rfl).1
        have y4 := (hcell y 4 _ rfl).1
        have y5 := (hcell y 5 _ rfl).1
        have HBl := hid (six_below hC.bel (Nat.le_succ _) (.pointer none) (.slice va i vc) (.slice la m.amps lc) (.int .i32 0) (.int .u8 m.comb) (.bool false))
        have hrow := hC.row.done
        rw [hie] at hrow
        have HR := hid (hrow.keep (w' := six wr (w.heap.size + 1) (.pointer none) (.slice va i vc) (.slice la m.amps lc) (.int .i32 0) (.int .u8 m.comb) (.bool false)) (P' := fun g => w.heap.size ≤ g) ⟨by simp [six, World.setCell], fun g hg _ => six_other _ (by omega) _ _ _ _ _ _, fun g hg _ => by omega⟩)
        simp only [six] at y0 y1 y2 y3 y4 y5
        have Y0 := hid y0
        have Y1 := hid y1
        have Y2 := hid y2
        have Y3 := hid y3
        have Y4 := hid y4
        have Y5 := hid y5
        clear y y0 y1 y2 y3 y4 y5 hrow hout hC hie hil hig HX
        go_wp2_with fail
        exact bodyPost_ret (v := .agg #[.pointer none, .slice va i vc, .slice la m.amps lc, .int .i32 0, .int .u8 m.comb, .bool false]) (by simp [results, Tryz.results34, go_sem, Y0.out, Y1.out, Y2.out, Y3.out, Y4.out, Y5.out]) rfl ⟨_, la, lc, rfl, HR.out, HBl.out⟩
      | succ g =>
        have hi : i < m.names.length := by omega
        have hc : (i : Int) < (m.names.length : Int) := by omega
        obtain ⟨b, o, rfl, hlt, q0⟩ := HX.out i hi
        have q1 := (cellLow (hC.bel.block b hlt) (o + i)).trans q0
        have hltx : b < wr.heap.size := by have := hC.bel.size; omega
        obtain ⟨nm, hnm⟩ : ∃ nm, m.names[i] = nm := ⟨_, rfl⟩
        rw [hnm] at q1
        have htk : m.names.take (i + 1) = m.names.take i ++ [nm] := by rw [List.take_succ_eq_append_getElem hi, hnm]
        have hr := hC.row
        rw [← hnm] at htk
        rw [hnm] at htk
        have e5 : IntKind.i64.wrap ((i : Int) + 1) = ((i + 1 : Nat) : Int) := by rw [IntKind.wrap_i64]; omega
        have C48 := hid (ps48 nm)
        have HCC := hid hC
        have HTK := hid htk
        have HIL := hid hil
        have HRR := hid hr
        clear hC hout q0 hnm hr htk hil
        go_wp2_with fail
        go_region_law (first
          | (refine step_run rfl (.tmp 25) (.tmp 32) 130 rfl (.slice va i vc) (.slice (some ⟨w5.heap.size, 0, none⟩) 1 1) _ w7 (by simp [Act.eval]) (by simp [Act.eval]) HA7.out ?_)
          | (go_simp
             go_at_call 48
             refine (C48.out _).mono ?_
             rintro e w5 ⟨b5, rfl, hb5, hlt5, hc5, hbel5⟩
             have hbx : Below wr.heap.size wr w5 := ⟨hbel5.os, hbel5.tape, hbel5.output, hbel5.size, hbel5.block⟩
             have h5 := HCC.out.call hbx
             obtain ⟨la5, lc5, hout5⟩ := h5.out
             obtain ⟨y1, y1f⟩ : w5.cell? ⟨w.heap.size + 1 + 1, 1, none⟩ = some (.slice va i vc) ∧ w5.frozen? ⟨w.heap.size + 1 + 1, 1, none⟩ = false := hcell hout5 1 _ rfl
             obtain ⟨g7, c7, w7, ha7, hr7, hg7⟩ := h5.row.app 130 158 _ 24 [.iface 169 (.pointer (some ⟨b5, 0, none⟩)), .int .i32 0, .int .i32 0] nm Tryz.underlying130 info158 rfl (by decide) (by decide) rfl (by intro u hu; simp at hu; rcases hu with rfl | rfl | rfl <;> rfl) ⟨⟨b5, rfl, HRR.out.fresh b5 hb5, hlt5, hc5⟩, rfl, rfl⟩ (by rw [HIL.out]; omega)
             rw [HIL.out] at ha7 hr7
             have H7 := hid (HCC.out.step hbx hg7 (by rw [HTK.out]; exact hr7))
             have HA7 := hid ha7
             have z7 := hg7.block (w.heap.size + 2) (by have := h5.row.le; simp; omega) (fun e => by have := h5.row.ge _ e.symm; omega)
             have z8 : w7.heap[w.heap.size + 2]? = _ := (z7.trans (Below.heap_alloc _ _ _ (by have := h5.row.le; omega))).trans hout5
             obtain ⟨u1, u1f⟩ : w7.cell? ⟨w.heap.size + 1 + 1, 1, none⟩ = some (.slice va i vc) ∧ w7.frozen? ⟨w.heap.size + 1 + 1, 1, none⟩ = false := hcell z8 1 _ rfl
             have hs5 : w.heap.size + 1 + 1 < w5.heap.size := by have := h5.row.le; omega
             have hs7 : w.heap.size + 1 + 1 < w7.heap.size := heap_lt z8
             clear ha7 hr7 hg7 z7 z8 h5 hout5 hc5 hbel5 hbx))
        all_goals
          go_wp2_with fail
          go_roundg g
          case measure => omega
          case rel => exact ⟨i + 1, _, by omega, by simp, by first | exact H7.out | exact H7.out.call (Below.drew (Below.refl _ _))⟩
end Go.Proofs.YtllafdcijpdopaaGreatFmt
