/-
  The contract of the dead-selectors law's maker of a list of compound selectors. Conditions: the shapes of the lists.
-/
import Derived.Test.YtlhcgnlbhncfkaaRc
namespace Go.Proofs.Ytlhcgnlbhncfkaa
open Go.ChangeShapes Go.WideShapes Go.ChangeAt Go.RowKit

theorem info33 : (Try.prog.info? 33).map (fun i => (i.zero, i.size, decide (i.bytes ≤ 128))) = some (some (.agg #[.pointer none, .slice none 0 0, .slice none 0 0, .int .i32 0, .int .u8 0, .bool false]), 6, true) := by kernel_rfl

/-- what is no compound selector stays -/
def K33 (w w' : World) : Prop := ∀ (b : Nat) (c : Array Value) (e : TypeId) (fz : Nat × Nat), w.heap[b]? = some (Obj.cells c e fz) → e ≠ 33 → w'.heap[b]? = some (Obj.cells c e fz)
theorem K33.trans {w w' w'' : World} (h : K33 w w') (h' : K33 w' w'') : K33 w w'' := fun b c e fz hb he => h' b c e fz (h b c e fz hb he) he
theorem K33.below {w w' : World} (h : Below w.heap.size w w') : K33 w w' := fun b c e fz hb _ => by rw [h.block b (Array.getElem?_eq_some_iff.1 hb).1]; exact hb
theorem K33.alloc (w : World) (o : Obj) : K33 w (w.alloc o) := K33.below ((Below.refl _ _).alloc (Nat.le_refl _) _)
theorem K33.grow {w w' : World} {g : Nat} (h : w.grownBy w' (some g)) {cur : Array Value} {x : Nat × Nat} (hg : w.heap[g]? = some (.cells cur 33 x)) : K33 w w' := by
  intro b c e fz hb he
  rw [h.block b (Array.getElem?_eq_some_iff.1 hb).1 ?_]
  · exact hb
  · intro e0
    injection e0 with e0
    subst e0
    rw [hb] at hg
    injection hg with hg
    injection hg with _ hg
    exact he hg
theorem SubVal.k33 {w w' : World} {T : TypeId} {b : Nat} {f : Bool} (h : SubVal w T b f) (k : K33 w w') : SubVal w' T b f := by
  rcases h with ⟨e, hf, cs, h⟩ | ⟨e, s, l, c, s1, s2, kk, h, hf⟩
  · exact .inl ⟨e, hf, cs, k _ _ _ _ h (by decide)⟩
  · exact .inr ⟨e, s, l, c, s1, s2, kk, k _ _ _ _ h (by decide), hf⟩
theorem Comp.k33 {w w' : World} {g n : Nat} {f : Nat → Bool} (h : Comp w g n f) (k : K33 w w') : Comp w' g n f := by
  obtain ⟨cur, hg, hs, hc⟩ := h
  refine ⟨cur, k _ _ _ _ hg (by decide), hs, fun j hj => ?_⟩
  obtain ⟨T, b, h0, h1, h2, hv⟩ := hc j hj
  exact ⟨T, b, h0, h1, h2, hv.k33 k⟩
theorem six_grown (w : World) (b : Nat) (v0 v1 v2 v3 v4 v5 : Value) : w.grownBy (six w b v0 v1 v2 v3 v4 v5) (some b) := by
  refine ⟨by simp [six, World.setCell], by simp [six, World.setCell], by simp [six, World.setCell], by simp [six], fun k hk hne => ?_⟩
  have hne : k ≠ b := fun e => hne (by rw [e])
  unfold six
  rw [heap_set_other _ _ _ _ hne, heap_set_other _ _ _ _ hne, heap_set_other _ _ _ _ hne, heap_set_other _ _ _ _ hne, heap_set_other _ _ _ _ hne, heap_set_other _ _ _ _ hne]
theorem fresh_cells (X : World) (xs : Array Value) (e : TypeId) (N : Nat) (hN : X.heap.size = N) (j : Nat) (u : Value) (h : xs.toList[j]? = some u) : (X.alloc (.cells xs e)).cell? ((⟨N, 0, none⟩ : Addr).add j) = some u := by
  subst hN
  have this := Go.heap_alloc_new X (.cells xs e)
  have ha : ((⟨X.heap.size, 0, none⟩ : Addr).add j) = ⟨X.heap.size, j, none⟩ := by by_cases e0 : j = 0 <;> simp [Addr.add, e0]
  rw [ha]
  unfold World.cell?
  simp only [this]
  simpa using h
/-- the six cells of compound selector i, and whether it is dead -/
def CompAt (w : World) (xs : List Value) (i : Nat) (d : Bool) : Prop :=
  ∃ g n h, xs[i * 6]? = some (.pointer none) ∧ xs[i * 6 + 1]? = some (.slice (some ⟨g, 0, none⟩) n n) ∧ xs[i * 6 + 2]? = some (.slice none 0 0) ∧ xs[i * 6 + 3]? = some (.int .i32 0) ∧ xs[i * 6 + 4]? = some (.int .u8 0) ∧ xs[i * 6 + 5]? = some (.bool false)
    ∧ n ≤ 3 ∧ Comp w g n h ∧ (d = true ↔ ∃ q, q < n ∧ h q = true)
def CompCells (w : World) (xs : List Value) (n : Nat) (D : Nat → Bool) : Prop := xs.length = n * 6 ∧ ∀ i, i < n → CompAt w xs i (D i)
theorem CompCells.k33 {w w' : World} {xs : List Value} {n : Nat} {D : Nat → Bool} (h : CompCells w xs n D) (k : K33 w w') : CompCells w' xs n D := by
  refine ⟨h.1, fun i hi => ?_⟩
  obtain ⟨g, m, f, a0, a1, a2, a3, a4, a5, hm, hc, hd⟩ := h.2 i hi
  exact ⟨g, m, f, a0, a1, a2, a3, a4, a5, hm, hc.k33 k, hd⟩
theorem CompCells.snoc {w : World} {xs : List Value} {n : Nat} {D : Nat → Bool} (h : CompCells w xs n D) {g m : Nat} {f : Nat → Bool} (hm : m ≤ 3) (hc : Comp w g m f) (d : Bool) (hd : d = true ↔ ∃ q, q < m ∧ f q = true) :
    CompCells w (xs ++ [.pointer none, .slice (some ⟨g, 0, none⟩) m m, .slice none 0 0, .int .i32 0, .int .u8 0, .bool false]) (n + 1) (fun i => if i = n then d else D i) := by
  refine ⟨by simp [h.1]; omega, fun i hi => ?_⟩
  have hl := h.1
  by_cases e : i = n
  · subst e
    have q : ∀ t, (xs ++ [.pointer none, .slice (some ⟨g, 0, none⟩) m m, .slice none 0 0, .int .i32 0, .int .u8 0, .bool false])[i * 6 + t]? = [Value.pointer none, .slice (some ⟨g, 0, none⟩) m m, .slice none 0 0, .int .i32 0, .int .u8 0, .bool false][t]? := by
      intro t
      rw [List.getElem?_append_right (by omega), hl, show i * 6 + t - i * 6 = t by omega]
    refine ⟨g, m, f, ?_, ?_, ?_, ?_, ?_, ?_, hm, hc, by simpa using hd⟩
    · exact q 0
    · exact q 1
    · exact q 2
    · exact q 3
    · exact q 4
    · exact q 5
  · obtain ⟨g', m', f', a0, a1, a2, a3, a4, a5, hm', hc', hd'⟩ := h.2 i (by omega)
    refine ⟨g', m', f', ?_, ?_, ?_, ?_, ?_, ?_, hm', hc', by simpa [e] using hd'⟩ <;> (rw [List.getElem?_append_left (by omega)]; assumption)
/-- the loop of zzBuildCompounds -/
structure Lq (w0 : World) (N : Nat) (vc vf vj vp : Value) (w : World) : Prop where
  ex : ∃ p j f g xs D, p ≤ N ∧ j ≤ 3 * p ∧ vc = .slice (some ⟨g, 0, none⟩) p N ∧ vf = .bool f ∧ vj = .int .i64 ((j : Nat) : Int) ∧ vp = .int .i64 ((p : Nat) : Int) ∧ w.ownsRow w0.heap.size 33 6 (.slice (some ⟨g, 0, none⟩) p N) p xs ∧ CompCells w xs p D
  below : Below w0.heap.size w0 w
/-- what zzBuildCompounds gives -/
structure Listed (w : World) (N : Nat) (e : Ending) (w' : World) : Prop where
  ex : ∃ f g xs D, e = .returned (.tuple #[.slice (some ⟨g, 0, none⟩) N N, .bool f]) ∧ w'.ownsRow w.heap.size 33 6 (.slice (some ⟨g, 0, none⟩) N N) N xs ∧ CompCells w' xs N D
  below : Below w.heap.size w w'
set_option maxRecDepth 20000 in
set_option maxHeartbeats 2000000 in
theorem build24 (a0 a1 a2 : Option Addr) (n0 n1 n2 c0 c1 c2 : Nat) (z0 z1 z2 : List Int) (w : World) (h0 : n0 ≤ 4096) (h1 : n1 ≤ 65536) (h2 : n2 ≤ 65536) (r0 : Row .u8 w a0 n0 z0) (r1 : Row .u8 w a1 n1 z1) (r2 : Row .u8 w a2 n2 z2) :
    Calls Try.prog 24 #[.slice a0 n0 c0, .slice a1 n1 c1, .slice a2 n2 c2] w fun e w' => Listed w n0 e w' := by
  obtain ⟨i33, hi33⟩ : ∃ i, Try.prog.info? 33 = some i := by cases h : Try.prog.info? 33 with
    | some i => exact ⟨i, rfl⟩
    | none => have := info33; rw [h] at this; cases this
  have hi33' := info33
  rw [hi33] at hi33'
  simp at hi33'
  obtain ⟨z31, z32, z33⟩ := hi33'
  have R0 := Lib.hid r0
  have R1 := Lib.hid r1
  have R2 := Lib.hid r2
  clear r0 r1 r2
  go_enter Try.func24, Try.ntmps24
  go_wp2_with (at_make; go_loud (refine wpList_make_own _ rfl _ _ 63 rfl w.heap.size 33 i33 _ 6 (by kernel_rfl) hi33 z31 z32 .i64 .i64 (n0 : Int) n0 rfl rfl rfl ?d1 ?d2 ?d3 ?_))
  case d1 => have := Nat.mul_le_mul z33 h0; omega
  case d2 => unfold maxLen; omega
  case d3 => omega
  intro w2 ho2 hg2
  have HL := Lib.hid (show Lq w n0 (.slice (some ⟨w.heap.size, 0, none⟩) 0 n0) (.bool false) (.int .i64 0) (.int .i64 0) w2 from ⟨⟨0, 0, false, _, [], fun _ => false, by omega, by omega, rfl, rfl, rfl, rfl, ho2, rfl, fun i h => by omega⟩, ⟨hg2.os, hg2.tape, hg2.output, hg2.size, fun k hk => hg2.block k hk (by simp)⟩⟩)
  clear ho2 hg2
  go_wp2_with fail
  go_loopw [8, 9, 10, 11] (fun vc vf vj vp wr => Lq w n0 vc vf vj vp wr) (fun _ _ _ p _ => n0 - (intOf p).toNat)
  case atStart => exact HL.out
  case round =>
    obtain ⟨p, j, f, g, xs, D, hp, hj, rfl, rfl, rfl, rfl, ho, hc⟩ := hrel.ex
    have HB := Lib.hid hrel.below
    clear hrel HL
    by_cases hlt : p < n0
    · obtain ⟨W, hW⟩ : ∃ W, W = wr.alloc (.cells #[.pointer none, .slice none 0 0, .slice none 0 0, .int .i32 0, .int .u8 0, .bool false] 33) := ⟨_, rfl⟩
      have hWb : Below wr.heap.size wr W := by rw [hW]; exact (Below.refl _ _).alloc (Nat.le_refl _) _
      have hWc : W.heap[wr.heap.size]? = some (.cells #[.pointer none, .slice none 0 0, .slice none 0 0, .int .i32 0, .int .u8 0, .bool false] 33 (0, 0)) := by rw [hW]; exact Go.heap_alloc_new _ _
      have hWs : W.heap.size = wr.heap.size + 1 := by rw [hW]; simp
      have hsz := HB.out.size
      have HWb := Lib.hid hWb
      have HWc := Lib.hid hWc
      have HWs := Lib.hid hWs
      have HO := Lib.hid ho
      have HC := Lib.hid hc
      clear hWb hWc hWs ho hc
      go_wp2_with fail
      rw [← hW]
      clear hW
      have bW : Below w.heap.size w W := HB.out.trans (HWb.out.mono hsz)
      refine (build32 a0 a1 a2 n0 n1 n2 c0 c1 c2 z0 z1 z2 p j _ (by omega) h1 h2 (by omega) (by omega) (R0.out.below (Nat.le_refl _) bW) (R1.out.below (Nat.le_refl _) bW) (R2.out.below (Nat.le_refl _) bW)).mono ?_
      rintro e w3 ⟨⟨g3, m, f3, d3, key3, rfl, hm, hcomp⟩, hb3⟩
      have hWs := HWs.out
      have hcc : w3.heap[wr.heap.size]? = some (.cells #[.pointer none, .slice none 0 0, .slice none 0 0, .int .i32 0, .int .u8 0, .bool false] 33 (0, 0)) := by rw [hb3.block _ (by omega)]; exact HWc.out
      have x0 := (cells_read hcc 0 (by decide)).1
      have x1 := (cells_read hcc 1 (by decide)).1
      have x2 := (cells_read hcc 2 (by decide)).1
      have x3 := (cells_read hcc 3 (by decide)).1
      have x4 := (cells_read hcc 4 (by decide)).1
      have x5 := (cells_read hcc 5 (by decide)).1
      have k0 := (cells_read hcc 0 (by decide)).2
      have k1 := (cells_read hcc 1 (by decide)).2
      have k2 := (cells_read hcc 2 (by decide)).2
      have k3 := (cells_read hcc 3 (by decide)).2
      have k4 := (cells_read hcc 4 (by decide)).2
      have k5 := (cells_read hcc 5 (by decide)).2
      obtain ⟨y0, y1, y2, y3, y4, y5⟩ := six_read hcc rfl (.pointer none) (.slice (some ⟨g3, 0, none⟩) m m) (.slice none 0 0) (.int .i32 0) (.int .u8 0) (.bool false)
      simp only [six] at y0 y1 y2 y3 y4 y5
      -- the row of the list over there
      have hlt3 : wr.heap.size < w3.heap.size := by have := hb3.size; omega
      have gW : wr.grownBy w3 none := ⟨(HWb.out.trans (hb3.mono (by omega))).os, (HWb.out.trans (hb3.mono (by omega))).tape, (HWb.out.trans (hb3.mono (by omega))).output, (HWb.out.trans (hb3.mono (by omega))).size, fun k hk _ => (HWb.out.trans (hb3.mono (by omega))).block k hk⟩
      have o3 := HO.out.kept gW (by simp [Value.ownBlock])
      have hgl : g < wr.heap.size := by
        obtain ⟨cur, hcur⟩ := own_block HO.out g rfl
        exact (Array.getElem?_eq_some_iff.1 hcur).1
      have k13 : K33 wr w3 := K33.below (HWb.out.trans (hb3.mono (by omega)))
      have cc3 := HC.out.k33 k13
      have g4 := six_grown w3 wr.heap.size (.pointer none) (.slice (some ⟨g3, 0, none⟩) m m) (.slice none 0 0) (.int .i32 0) (.int .u8 0) (.bool false)
      have k34 := K33.grow g4 hcc
      have o4 := o3.kept g4 (.inr (by simp [Value.ownBlock]; omega))
      have cc4 := cc3.k33 k34
      have cm4 := hcomp.k33 k34
      have b4 := six_below (HB.out.trans ((HWb.out.trans (hb3.mono (by omega))).mono hsz)) hsz (.pointer none) (.slice (some ⟨g3, 0, none⟩) m m) (.slice none 0 0) (.int .i32 0) (.int .u8 0) (.bool false)
      have s4 : (six w3 wr.heap.size (.pointer none) (.slice (some ⟨g3, 0, none⟩) m m) (.slice none 0 0) (.int .i32 0) (.int .u8 0) (.bool false)).heap.size = w3.heap.size := by simp [six]
      have O4 := Lib.hid o4
      have C4 := Lib.hid cc4
      have M4 := Lib.hid cm4
      have B4 := Lib.hid b4
      clear o3 gW k13 cc3 g4 k34 o4 cc4 cm4 b4 hcomp hb3 hcc HO HC bW
      obtain ⟨dd, hdd⟩ : ∃ d : Bool, d = true ↔ ∃ q, q < m ∧ f3 q = true := by
        by_cases h : ∃ q, q < m ∧ f3 q = true
        · exact ⟨true, by simp only [true_iff]; exact h⟩
        · exact ⟨false, by simp only [Bool.false_eq_true, false_iff]; exact h⟩
      have DD := Lib.hid hdd
      clear hdd
      obtain ⟨j', hj'⟩ : ∃ j', j' = j + m := ⟨_, rfl⟩
      rw [← hj']
      have hj3 : j' ≤ 3 * (p + 1) := by omega
      clear hj'
      have HG := Lib.hid (own_ge O4.out g rfl)
      cases d3
      all_goals
        go_wp2_with (at_builtin; go_loud (refine wpList_append_fits _ rfl _ _ 63 rfl w.heap.size 33 i33 6 (by kernel_rfl) hi33 z32 g p n0 xs rfl (O4.out.alloc _) ⟨w3.heap.size, 0, none⟩ 1 1 [.pointer none, .slice (some ⟨g3, 0, none⟩) m m, .slice none 0 0, .int .i32 0, .int .u8 0, .bool false] rfl rfl ?e1 ?e2 ?e3 ?_))
        case e1 =>
          intro j u hj
          exact fresh_cells _ _ _ _ s4 j u (by exact hj)
        case e2 => intro u hu; simp at hu; rcases hu with rfl | rfl | rfl | rfl | rfl | rfl <;> rfl
        case e3 => omega
        intro w6 ho6 hg6
        have L6 : ∀ ff, Lq w n0 (.slice (some ⟨g, 0, none⟩) (p + 1) n0) (.bool ff) (.int .i64 ((j' : Nat) : Int)) (.int .i64 (((p + 1 : Nat)) : Int)) w6 := by
          intro ff
          obtain ⟨cur, hcur⟩ := own_block (O4.out.alloc _) g rfl
          have k46 := (K33.alloc _ _).trans (K33.grow hg6 hcur)
          have hge := HG.out
          refine ⟨⟨p + 1, j', ff, g, _, _, by omega, hj3, rfl, rfl, rfl, rfl, ho6, (C4.out.k33 k46).snoc hm (M4.out.k33 k46) dd DD.out⟩, ?_⟩
          exact (B4.out.alloc (by rw [s4]; omega) _).trans ⟨hg6.os, hg6.tape, hg6.output, hg6.size, fun k hk => hg6.block k (Nat.lt_of_lt_of_le (show k < w3.heap.size by omega) (by simp)) (by intro e; injection e with e; omega)⟩
        have LL := Lib.hid L6
        clear L6 ho6 hg6 O4 C4 M4 B4
        go_wp2_with fail
        go_roundw
        case rel => exact LL.out _
        case measure => simp [intOf]; omega
    · have e : p = n0 := by omega
      subst e
      have HO := Lib.hid ho
      have HC := Lib.hid hc
      clear ho hc
      go_wp2_with fail
      exact bodyPost_ret (v := .tuple #[.slice (some ⟨g, 0, none⟩) p p, .bool f]) (by simp [results, Try.results24, go_sem]) rfl ⟨⟨f, g, xs, D, rfl, HO.out, HC.out⟩, HB.out⟩
end Go.Proofs.Ytlhcgnlbhncfkaa
