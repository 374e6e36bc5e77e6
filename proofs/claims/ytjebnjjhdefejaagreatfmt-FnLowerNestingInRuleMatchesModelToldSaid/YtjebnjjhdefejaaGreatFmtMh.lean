/-
  Rules built into a row. Conditions: each theorem's own.
-/
import Derived.Test.YtjebnjjhdefejaaGreatFmtMg
import Derived.Test.YtjebnjjhdefejaaGreatFmtMd
import Derived.Test.YtjebnjjhdefejaaGreatFmtMe
namespace Go.Proofs.YtjebnjjhdefejaaGreatFmt
open Go.RowKit Go.Lib Go.ChangeMaps
/-- the model of the tree at i -/
def treeM (par : Nat → Option Nat) (kd : Nat → Nat) (n : Nat) : Nat → Nat → Tr
  | 0, i => .mk (i : Int) 0 []
  | d + 1, i => .mk (i : Int) (kd i) ((ofP par n (some i)).map (treeM par kd n d))
theorem treeM_loc (par : Nat → Option Nat) (kd : Nat → Nat) (n d i : Nat) : (treeM par kd n d i).loc = (i : Int) := by cases d <;> rfl
theorem InT.widen {d : Nat} {w : World} {lo hi lo' hi' : Nat} {v : Value} {t : Tr} (h : InT d w lo hi v t) (h1 : lo' ≤ lo) (h2 : hi ≤ hi') (h3 : hi' ≤ w.heap.size) : InT d w lo' hi' v t := by
  cases d with
  | zero => exact h.elim
  | succ d =>
    have kk : ∀ mid rs ts, KidsR (fun lo hi => InT d w lo hi) w lo mid rs ts → KidsR (fun lo hi => InT d w lo hi) w lo' mid rs ts := fun mid rs ts h => by
      obtain ⟨rb, cap, arr, e, q1, q2, q3⟩ := h
      exact ⟨rb, cap, arr, e, q1, Nat.le_trans h1 q2, q3⟩
    rcases h with q | ⟨k, b, s, rs, x, mid, e, q1, q2, q3, q4, q5, ⟨sb, sc, e2, q6, q7, u, q8, q9, q10⟩, q11⟩ | ⟨k, b, rs, arr, mid, e, q1, q2, q3, q4, q5, q6, q7, q8⟩
    · exact Or.inl q
    · exact Or.inr (Or.inl ⟨k, b, s, rs, x, mid, e, by omega, q2, by omega, h3, q5, ⟨sb, sc, e2, q6, by omega, u, q8, q9.keep (Keep.weak w fun g hg _ => ⟨hg.1, by omega, hg.2.2⟩), q10⟩, kk _ _ _ q11⟩)
    · exact Or.inr (Or.inr ⟨k, b, rs, arr, mid, e, by omega, q2, by omega, h3, q5, q6, q7, kk _ _ _ q8⟩)
theorem KidsAt.snoc {T T' : Nat → Nat → Value → Tr → Prop} {arr arr' : Array Value} {v : Value} {t : Tr} {hi mid hi' : Nat} (h1 : hi ≤ mid) (h2 : mid ≤ hi') : ∀ (ts : List Tr) (lo k : Nat), KidsAt T arr lo hi k ts → (∀ j, j < (k + ts.length) * 2 → arr'[j]? = arr[j]?) → (∀ lo2 hi2 v t, lo ≤ lo2 → hi2 ≤ hi → T lo2 hi2 v t → T' lo2 hi2 v t) → (∀ lo2, lo2 ≤ hi → T' hi mid v t → T' lo2 mid v t) →
    arr'[(k + ts.length) * 2]? = some v → arr'[(k + ts.length) * 2 + 1]? = some (.int .i32 t.loc) → T' hi mid v t → KidsAt T' arr' lo hi' k (ts ++ [t])
  | [], lo, k, h, _, _, hw, a1, a2, hT => ⟨mid, v, Nat.le_trans h h1, a1, a2, hw lo h hT, h2⟩
  | u :: ts, lo, k, h, ha, hk, hw, a1, a2, hT => by
    obtain ⟨m1, v1, b1, b2, b3, b4, b5⟩ := h
    have e : k + (u :: ts).length = k + 1 + ts.length := by simp; omega
    rw [e] at ha a1 a2
    refine ⟨m1, v1, b1, (ha _ (by omega)).trans b2, (ha _ (by omega)).trans b3, hk lo m1 v1 u (Nat.le_refl _) b5.le b4, ?_⟩
    exact KidsAt.snoc h1 h2 ts m1 (k + 1) b5 ha (fun lo2 hi2 v t q1 q2 q3 => hk lo2 hi2 v t (by omega) q2 q3) hw a1 a2 hT
/-- rules built one by one into a row made at W0 -/
structure BuS (d : Nat) (W0 : World) (f : Nat → Tr) (ks : List Nat) (g : Nat) (v5 vi : Value) (wx : World) : Prop where
  ex : ∃ pre rest xs, ks = pre ++ rest ∧ rest.length = g ∧ vi = .int .i64 (pre.length : Nat) ∧ v5 = .slice (some ⟨W0.heap.size, 0, none⟩) pre.length ks.length ∧ wx.ownsRow 0 39 2 v5 pre.length xs ∧ KidsAt (fun lo hi => InT d wx lo hi) xs.toArray (W0.heap.size + 1) wx.heap.size 0 (pre.map f) ∧ Below W0.heap.size W0 wx
theorem BuS.start (d : Nat) (W0 : World) (f : Nat → Tr) (ks : List Nat) (hk : ks.length ≤ 1000000) : BuS d W0 f ks ks.length (.slice (some ⟨W0.heap.size, 0, none⟩) 0 ks.length) (.int .i64 0) (W0.alloc (mkO (.agg #[.nilIface, .int .i32 0]) (ks.length * 2) 39)) :=
  ⟨[], ks, [], rfl, rfl, rfl, rfl, own_made W0 _ _ 39 2 _ rfl (by unfold maxLen; omega), by show _ ≤ _; simp, (Below.refl _ _).alloc (Nat.le_refl _) _⟩
/-- one rule more -/
theorem BuS.next {d : Nat} {W0 wx w1 : World} {f : Nat → Tr} {ks pre rest : List Nat} {k : Nat} {xs : List Value} {v : Value} (e : ks = pre ++ k :: rest) (ho : wx.ownsRow 0 39 2 (.slice (some ⟨W0.heap.size, 0, none⟩) pre.length ks.length) pre.length xs) (hK : KidsAt (fun lo hi => InT d wx lo hi) xs.toArray (W0.heap.size + 1) wx.heap.size 0 (pre.map f)) (hb : Below W0.heap.size W0 wx)
    (h1 : Below wx.heap.size wx w1) (hT : InT d w1 wx.heap.size w1.heap.size v (f k)) (hf : (f k).loc = (k : Int)) :
    ∃ w3, (Builtin.append_ #[43, 43] 43 #[.slice (some ⟨W0.heap.size, 0, none⟩) pre.length ks.length, .slice (some ⟨w1.heap.size, 0, none⟩) 1 1]).run Tryz.prog (w1.alloc (.cells #[v, .int .i32 (k : Int)] 39)) = .ok (.slice (some ⟨W0.heap.size, 0, none⟩) (pre.length + 1) ks.length) w3 ∧
      BuS d W0 f ks rest.length (.slice (some ⟨W0.heap.size, 0, none⟩) (pre.length + 1) ks.length) (.int .i64 ((pre.length + 1 : Nat) : Int)) w3 := by
  obtain ⟨T, vb, rfl⟩ := hT.shape
  have s1 := h1.size
  have hlt : W0.heap.size < wx.heap.size := (ho.lt _ rfl).2
  have hb2 : Below w1.heap.size w1 (w1.alloc (.cells #[.iface T (.pointer (some ⟨vb, 0, none⟩)), .int .i32 (k : Int)] 39)) := (Below.refl _ _).alloc (Nat.le_refl _) _
  have hnew := heap_alloc_new w1 (.cells #[.iface T (.pointer (some ⟨vb, 0, none⟩)), .int .i32 (k : Int)] 39)
  have s2 : (w1.alloc (.cells #[.iface T (.pointer (some ⟨vb, 0, none⟩)), .int .i32 (k : Int)] 39)).heap.size = w1.heap.size + 1 := by simp
  generalize w1.alloc (.cells #[.iface T (.pointer (some ⟨vb, 0, none⟩)), .int .i32 (k : Int)] 39) = W2 at *
  obtain ⟨i, hi1, z0, z1, z2⟩ := info_parts info_RULE
  have hl : pre.length + 1 ≤ ks.length := by rw [e]; simp
  have ho2 := own_below (own_below ho h1) hb2
  obtain ⟨w3, ha, ho3, hg⟩ := run_append_fits (P := Tryz.prog) W2 0 43 43 39 i 2 Tryz.underlying43 hi1 z1 _ _ _ xs ho2 ⟨w1.heap.size, 0, none⟩ 1 1 [.iface T (.pointer (some ⟨vb, 0, none⟩)), .int .i32 (k : Int)] rfl (fun j u hj => by
    have hj' : j < 2 := (List.getElem?_eq_some_iff.1 hj).1
    rw [add0]
    refine (hcell hnew j u ?_).1
    rcases (by omega : j = 0 ∨ j = 1) with rfl | rfl
    · exact hj
    · exact hj) (fun u hu => by simp at hu; rcases hu with rfl | rfl <;> rfl) hl
  have hgs := hg.size
  have k3 : ∀ g, g ≠ W0.heap.size → g < w1.heap.size → w3.heap[g]? = w1.heap[g]? := fun g q1 q2 => (hg.block g (by omega) (fun e => q1 (Option.some.inj e))).trans (hb2.block g q2)
  have hx : xs.length = pre.length * 2 := ho.1
  refine ⟨w3, ha, pre ++ [k], rest, _, by rw [e]; simp, rfl, by simp, by simp, by simpa using ho3, ?_, ⟨hg.os.trans (hb2.os.trans (h1.os.trans hb.os)), hg.tape.trans (hb2.tape.trans (h1.tape.trans hb.tape)), hg.output.trans (hb2.output.trans (h1.output.trans hb.output)), by have := hb.size; omega, fun g q => (k3 g (by omega) (by have := hb.size; omega)).trans ((h1.block g (by have := hb.size; omega)).trans (hb.block g q))⟩⟩
  rw [List.map_append]
  have hlen : (pre.map f).length = pre.length := by simp
  refine KidsAt.snoc (hi := wx.heap.size) (mid := w1.heap.size) (v := .iface T (.pointer (some ⟨vb, 0, none⟩))) s1 (by omega) (pre.map f) (W0.heap.size + 1) 0 hK (fun j hj => ?_) (fun lo2 hi2 v t q1 q2 q3 => ?_) (fun lo2 q1 q2 => q2.widen q1 (Nat.le_refl _) (by omega)) ?_ ?_ ?_
  · rw [List.getElem?_toArray, List.getElem?_toArray, List.getElem?_append_left (by rw [hlen] at hj; omega)]
  · exact InT.keep d lo2 hi2 v t (by omega) (fun g g1 g2 => (k3 g (by omega) (by omega)).trans (h1.block g (by omega))) q3
  · rw [List.getElem?_toArray, List.getElem?_append_right (by rw [hlen]; omega), hlen, hx]
    simp
  · rw [List.getElem?_toArray, List.getElem?_append_right (by rw [hlen]; omega), hlen, hx, hf]
    have e3 : (0 + pre.length) * 2 + 1 - pre.length * 2 = 1 := by omega
    rw [e3]
    rfl
  · exact InT.keep d wx.heap.size w1.heap.size _ _ (by omega) (fun g g1 g2 => k3 g (by omega) g2) hT
/-- the row done -/
theorem BuS.done {d : Nat} {W0 wx : World} {f : Nat → Tr} {ks : List Nat} {v5 vi : Value} (h : BuS d W0 f ks 0 v5 vi wx) : v5 = .slice (some ⟨W0.heap.size, 0, none⟩) ks.length ks.length ∧ KidsR (fun lo hi => InT d wx lo hi) wx W0.heap.size wx.heap.size v5 (ks.map f) ∧ Below W0.heap.size W0 wx := by
  obtain ⟨pre, rest, xs, e, hr, _, rfl, ho, hK, hb⟩ := h.ex
  obtain rfl : rest = [] := List.length_eq_zero_iff.1 hr
  rw [List.append_nil] at e
  subst e
  refine ⟨rfl, ?_, hb⟩
  rcases ho.2 with ⟨e, _⟩ | ⟨g, cap, cur, e, _, hh, hc, hm, hsz, htk⟩
  · cases e
  · injection e with e1 e2 e3
    injection e1 with e1
    injection e1 with e1
    subst e1
    subst e3
    have e4 : cur = xs.toArray := by
      rw [List.take_of_length_le (by rw [Array.length_toList, hsz]; exact Nat.le_refl _)] at htk
      rw [← htk]
    rw [e4] at hh hsz
    exact ⟨_, ks.length, xs.toArray, by simp, by simp, Nat.le_refl _, heap_lt hh, hh, by rw [hsz]; simp, hK⟩
theorem KidsR.keep {d : Nat} {w w' : World} {lo lo' hi : Nat} {rs : Value} {ts : List Tr} (h : KidsR (fun lo hi => InT d w lo hi) w lo hi rs ts) (h1 : lo' ≤ lo) (hs : w.heap.size ≤ w'.heap.size) (hb : ∀ g, lo ≤ g → g < hi → w'.heap[g]? = w.heap[g]?) : KidsR (fun lo hi => InT d w' lo hi) w' lo' hi rs ts := by
  obtain ⟨rb, cap, arr, e, q1, q2, q3, q4, q5, q6⟩ := h
  exact ⟨rb, cap, arr, e, q1, by omega, q3, (hb rb q2 q3).trans q4, q5, q6.keep ts (rb + 1) hi 0 lo hi (by omega) (Nat.le_refl _) (fun lo2 hi2 v t a1 a2 a3 => InT.keep d lo2 hi2 v t hs (fun g g1 g2 => hb g (by omega) (by omega)) a3)⟩
/-- a style rule built -/
theorem InT.style {d : Nat} {w wr w2 : World} {ts : List Tr} {rs v0 v1 : Value} {b sb g : Nat} {i : Int} (hK : KidsR (fun lo hi => InT d wr lo hi) wr (w.heap.size + 1) wr.heap.size rs ts) (hbw : Below w.heap.size w wr) (hb2 : Below wr.heap.size wr w2) (hw : w.heap.size < wr.heap.size) (q1 : wr.heap.size < b) (q3 : w2.heap[b]? = some (.cells #[.slice (some ⟨sb, 0, none⟩) 1 1, rs, .int .i32 0] 114 (0, 0))) (q4 : wr.heap.size < sb) (q5 : w2.heap[sb]? = some (.cells #[.slice (some ⟨g, 0, none⟩) 1 1] 120 (0, 0))) (q6 : RowL CpH w2 (fun q => wr.heap.size < q ∧ q < w2.heap.size ∧ q ≠ sb ∧ q ≠ b) (.slice (some ⟨g, 0, none⟩) 1 1) (us 1)) :
    let WF := (w2.setCell ⟨w.heap.size, 0, none⟩ v0).setCell ⟨w.heap.size, 1, none⟩ v1
    InT (d + 1) WF w.heap.size WF.heap.size (.iface 110 (.pointer (some ⟨b, 0, none⟩))) (.mk i 1 ts) ∧ Below w.heap.size w WF := by
  intro WF
  have hz : WF.heap.size = w2.heap.size := by simp [WF, World.setCell]
  have hk : ∀ q, q ≠ w.heap.size → WF.heap[q]? = w2.heap[q]? := fun q hq => set2o _ 0 _ _ hq
  have hbl := heap_lt q3
  have hsl := heap_lt q5
  have hs2 := hb2.size
  refine ⟨Or.inr (Or.inl ⟨rfl, b, _, rs, _, wr.heap.size, rfl, by omega, by omega, by omega, by omega, (hk b (by omega)).trans q3, ⟨sb, 1, rfl, by omega, by omega, _, (hk sb (by omega)).trans q5, q6.keep ⟨by omega, fun q hq _ => hk q (by omega), fun q hq _ => ⟨by omega, by omega, hq.2.2.1, hq.2.2.2⟩⟩, _, _, rfl, Nat.le_refl _⟩, hK.keep (by omega) (by omega) (fun q g1 g2 => (hk q (by omega)).trans (hb2.block q g2))⟩), ?_⟩
  exact ((hbw.trans (hb2.mono (by omega))).setCell (p := ⟨w.heap.size, 0, none⟩) (Nat.le_refl _) _).setCell (p := ⟨w.heap.size, 1, none⟩) (Nat.le_refl _) _
/-- an at-rule built -/
theorem InT.atrule {d : Nat} {w wr w2 : World} {ts : List Tr} {rs v0 v1 : Value} {b : Nat} {arr : Array Value} {i : Int} (hK : KidsR (fun lo hi => InT d wr lo hi) wr (w.heap.size + 1) wr.heap.size rs ts) (hbw : Below w.heap.size w wr) (hb2 : Below wr.heap.size wr w2) (hw : w.heap.size < wr.heap.size) (q1 : wr.heap.size < b) (q3 : w2.heap[b]? = some (.cells arr 117 (0, 0))) (q4 : arr[2]? = some rs) (q5 : arr.size = 4) :
    let WF := (w2.setCell ⟨w.heap.size, 0, none⟩ v0).setCell ⟨w.heap.size, 1, none⟩ v1
    InT (d + 1) WF w.heap.size WF.heap.size (.iface 115 (.pointer (some ⟨b, 0, none⟩))) (.mk i 2 ts) ∧ Below w.heap.size w WF := by
  intro WF
  have hz : WF.heap.size = w2.heap.size := by simp [WF, World.setCell]
  have hk : ∀ q, q ≠ w.heap.size → WF.heap[q]? = w2.heap[q]? := fun q hq => set2o _ 0 _ _ hq
  have hbl := heap_lt q3
  have hs2 := hb2.size
  refine ⟨Or.inr (Or.inr ⟨rfl, b, rs, arr, wr.heap.size, rfl, by omega, by omega, by omega, by omega, (hk b (by omega)).trans q3, q4, q5, hK.keep (by omega) (by omega) (fun q g1 g2 => (hk q (by omega)).trans (hb2.block q g2))⟩), ?_⟩
  exact ((hbw.trans (hb2.mono (by omega))).setCell (p := ⟨w.heap.size, 0, none⟩) (Nat.le_refl _) _).setCell (p := ⟨w.heap.size, 1, none⟩) (Nat.le_refl _) _
end Go.Proofs.YtjebnjjhdefejaaGreatFmt
