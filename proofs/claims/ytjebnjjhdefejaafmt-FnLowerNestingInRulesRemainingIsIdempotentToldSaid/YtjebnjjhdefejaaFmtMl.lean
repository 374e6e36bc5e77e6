/-
  What the law says of the roots. Conditions: each theorem's own.
-/
import Derived.Test.YtjebnjjhdefejaaFmtMj
import Derived.Test.YtjebnjjhdefejaaFmtMk
namespace Go.Proofs.YtjebnjjhdefejaaFmt
open Go.RowKit Go.Lib Go.ChangeMaps
theorem kdF_le (par : Nat → Option Nat) (n : Nat) (z : List Int) (i : Nat) : kdF par n z i ≤ 2 := by
  unfold kdF
  split
  · omega
  · have := Nat.mod_lt (z.getD i 0).toNat (show 0 < 3 by omega)
    omega
theorem kdF_zero (par : Nat → Option Nat) (n : Nat) (z : List Int) (i : Nat) (h : kdF par n z i = 0) : ofP par n (some i) = [] := by
  unfold kdF at h
  split at h
  · cases h
  · rename_i q
    apply List.length_eq_zero_iff.1
    omega
/-- the declarations among the roots -/
def rootD (par : Nat → Option Nat) (kd : Nat → Nat) (n : Nat) : List Nat := (ofP par n none).filter fun i => kd i == 0
theorem kept_roots (par : Nat → Option Nat) (kd : Nat → Nat) (n : Nat) : keptM ((ofP par n none).map (treeM par kd n n)) = (rootD par kd n).map fun (i : Nat) => Tr.mk (i : Int) 0 [] := by
  unfold keptM rootD
  have hk : ∀ i ∈ ofP par n none, (treeM par kd n n i).kind = kd i := fun i hi => by
    obtain ⟨h1, _⟩ := mem_ofP.1 hi
    cases n with
    | zero => omega
    | succ n => rfl
  generalize ofP par n none = l at *
  induction l with
  | nil => rfl
  | cons a l ih =>
    have ih := ih (fun i hi => hk i (by simp [hi]))
    rw [List.map_cons, List.filter_cons, List.filter_cons, hk a (by simp)]
    by_cases h : kd a = 0
    · simp [h, treeM_loc]
      simpa using ih
    · simp [h]
      simpa using ih
theorem rootD_lt {par : Nat → Option Nat} {kd : Nat → Nat} {n j : Nat} (h : j < (rootD par kd n).length) : (rootD par kd n)[j] < n ∧ par (rootD par kd n)[j] = none ∧ kd (rootD par kd n)[j] = 0 := by
  have hm : (rootD par kd n)[j] ∈ rootD par kd n := List.getElem_mem _
  generalize (rootD par kd n)[j] = x at *
  unfold rootD at hm
  rw [List.mem_filter] at hm
  obtain ⟨h1, h2⟩ := mem_ofP.1 hm.1
  exact ⟨h1, h2, by simpa using hm.2⟩
theorem rootD_sorted (par : Nat → Option Nat) (kd : Nat → Nat) (n : Nat) {i j : Nat} (hi : i < j) (hj : j < (rootD par kd n).length) : (rootD par kd n)[i] < (rootD par kd n)[j] := by
  have h : (rootD par kd n).Pairwise (· < ·) := by
    unfold rootD ofP
    exact (List.pairwise_lt_range.filter _).filter _
  exact List.pairwise_iff_getElem.1 h i j (by omega) hj hi
theorem keptM_mk (l : List Nat) : keptM (l.map fun (i : Nat) => Tr.mk (i : Int) 0 []) = l.map fun (i : Nat) => Tr.mk (i : Int) 0 [] := by
  unfold keptM
  induction l with
  | nil => rfl
  | cons a l ih =>
    rw [List.map_cons, List.filter_cons]
    have h : ((Tr.mk (a : Int) 0 []).kind == 0) = true := rfl
    rw [if_pos h, List.map_cons, ih]
    rfl
/-- the flags of the root declarations -/
structure FlI (w W : World) (n : Nat) (kd : Nat → Nat) (ks : List Nat) (g : Nat) (v : Value) (wx : World) : Prop where
  ex : ∃ pre rest barr, ks = pre ++ rest ∧ rest.length = g ∧ v = .int .i64 (pre.length : Nat) ∧ wx.heap[W.heap.size]? = some (.cells barr 4 (0, 0)) ∧ barr.size = n ∧ (∀ j, j < n → barr[j]? = some (.bool (decide (j ∈ pre ∧ kd j = 0)))) ∧ Below W.heap.size W wx ∧ Below w.heap.size w wx
theorem IsRow.below {k : IntKind} {w w' : World} {a : Option Addr} {n c : Nat} {z : List Int} (h : IsRow k w a n c z) (hb : Below w.heap.size w w') : IsRow k w' a n c z := by
  rcases h with h | ⟨x, e, hl, hm, hz, hc, hw⟩
  · exact .inl h
  · exact .inr ⟨x, e, hl, hm, hz, fun i hi => by rw [hb.cell (p := x.add i) (addr_lt (hc i hi)).1]; exact hc i hi, hw⟩
theorem info_BOOL : (Tryf.prog.info? 4).map (fun i => (i.zero, i.size, i.bytes)) = some (some (.bool false), 1, 1) := by kernel_rfl
theorem info_I32 : (Tryf.prog.info? 21).map (fun i => (i.zero, i.size, i.bytes)) = some (some (.int .i32 0), 1, 4) := by kernel_rfl
theorem FlI.start (w W : World) (n : Nat) (kd : Nat → Nat) (ks : List Nat) (hw : Below w.heap.size w W) : FlI w W n kd ks ks.length (.int .i64 0) (W.alloc (mkO (.bool false) (n * 1) 4)) := by
  obtain ⟨barr, b1, b2, b3⟩ := made_cells (.bool false) rfl n 4 W
  have hb : Below W.heap.size W (W.alloc (mkO (.bool false) (n * 1) 4)) := (Below.refl _ _).alloc (Nat.le_refl _) _
  exact ⟨[], ks, barr, rfl, rfl, rfl, b1, b2, fun j hj => by rw [b3 j hj]; simp, hb, hw.trans (hb.mono hw.size)⟩
theorem FlI.next {w W wx : World} {n : Nat} {kd : Nat → Nat} {ks pre rest : List Nat} {k : Nat} {barr : Array Value} (e : ks = pre ++ k :: rest) (hk : k < n) (h1 : wx.heap[W.heap.size]? = some (.cells barr 4 (0, 0))) (h2 : barr.size = n) (h3 : ∀ j, j < n → barr[j]? = some (.bool (decide (j ∈ pre ∧ kd j = 0)))) (hb : Below W.heap.size W wx) (hw : Below w.heap.size w wx) (hWw : w.heap.size ≤ W.heap.size) :
    (kd k = 0 → FlI w W n kd ks rest.length (.int .i64 ((pre.length + 1 : Nat) : Int)) (wx.setCell ⟨W.heap.size, k, none⟩ (.bool true))) ∧ (kd k ≠ 0 → FlI w W n kd ks rest.length (.int .i64 ((pre.length + 1 : Nat) : Int)) wx) := by
  refine ⟨fun h0 => ⟨pre ++ [k], rest, _, by rw [e]; simp, rfl, by simp, hset h1 k _, by simpa using h2, fun j hj => ?_, hb.setCell (p := ⟨W.heap.size, k, none⟩) (Nat.le_refl _) _, hw.setCell (p := ⟨W.heap.size, k, none⟩) hWw _⟩, fun h0 => ⟨pre ++ [k], rest, barr, by rw [e]; simp, rfl, by simp, h1, h2, fun j hj => ?_, hb, hw⟩⟩
  · by_cases ej : j = k
    · subst ej
      rw [Array.getElem?_setIfInBounds, if_pos rfl, if_pos (by omega)]
      simp [h0]
    · rw [Array.getElem?_setIfInBounds, if_neg (by omega), h3 j hj]
      simp [ej]
  · rw [h3 j hj]
    by_cases ej : j = k
    · subst ej
      simp [h0]
    · simp [ej]
/-- a row of declarations at the places R -/
def DecR (arr : Array Value) (R : List Nat) : Prop := ∀ j (h : j < R.length), ∃ b, arr[j * 2]? = some (.iface 129 (.pointer (some ⟨b, 0, none⟩))) ∧ arr[j * 2 + 1]? = some (.int .i32 (R[j] : Int))
theorem DecR.of {arr : Array Value} {ts : List Tr} {R : List Nat} (h : Kept arr ts) (e : keptM ts = R.map fun (i : Nat) => Tr.mk (i : Int) 0 []) : DecR arr R := by
  intro j hj
  obtain ⟨b, h1, h2⟩ := h j (by rw [e]; simpa using hj)
  refine ⟨b, h1, ?_⟩
  rw [h2]
  simp [e, Tr.loc]
/-- behind the first lowering -/
structure LB (w W : World) (n : Nat) (par : Nat → Option Nat) (kd : Nat → Nat) (rdb rb pb : Nat) : Prop where
  bel : Below w.heap.size w W
  flags : ∃ barr, W.heap[rdb]? = some (.cells barr 4 (0, 0)) ∧ ∀ j, j < n → barr[j]? = some (.bool (decide (j ∈ ofP par n none ∧ kd j = 0)))
  row : ∃ arr, W.heap[rb]? = some (.cells arr 51 (0, 0)) ∧ DecR arr (rootD par kd n)
  par : Par W pb
  ge : w.heap.size ≤ rdb ∧ w.heap.size ≤ rb ∧ w.heap.size ≤ pb
theorem LB.below {w W W' : World} {n : Nat} {par : Nat → Option Nat} {kd : Nat → Nat} {rdb rb pb : Nat} (h : LB w W n par kd rdb rb pb) (hb : Below W.heap.size W W') : LB w W' n par kd rdb rb pb := by
  obtain ⟨barr, b1, b2⟩ := h.flags
  obtain ⟨arr, a1, a2⟩ := h.row
  obtain ⟨parr, p1, p2⟩ := h.par.ex
  exact ⟨h.bel.trans (hb.mono h.bel.size), ⟨barr, (hb.block _ (heap_lt b1)).trans b1, b2⟩, ⟨arr, (hb.block _ (heap_lt a1)).trans a1, a2⟩, ⟨parr, (hb.block _ (heap_lt p1)).trans p1, p2⟩, h.ge⟩
/-- a loop over the remaining rules: their places in a row made at W -/
structure Lo2 (W : World) (R : List Nat) (g : Nat) (v : Value) (wx : World) : Prop where
  ex : ∃ j larr, j + g = R.length ∧ v = .int .i64 (j : Nat) ∧ wx.heap[W.heap.size]? = some (.cells larr 21 (0, 0)) ∧ larr.size = R.length ∧ (∀ i (h : i < R.length), i < j → larr[i]? = some (.int .i32 (R[i] : Int))) ∧ Below W.heap.size W wx
theorem Lo2.next {W wx w2 wy : World} {R : List Nat} {j g : Nat} {larr : Array Value} (hj : j + (g + 1) = R.length) (h1 : wx.heap[W.heap.size]? = some (.cells larr 21 (0, 0))) (h2 : larr.size = R.length) (h3 : ∀ i (h : i < R.length), i < j → larr[i]? = some (.int .i32 (R[i] : Int))) (hb : Below W.heap.size W wx) (hb2 : Below wx.heap.size wx w2) {z : Int} (hz : (R[j] : Int) = z)
    (hy : Below w2.heap.size (w2.setCell ⟨W.heap.size, j, none⟩ (.int .i32 z)) wy) : Lo2 W R g (.int .i64 ((j + 1 : Nat) : Int)) wy ∧ ∃ larr', wy.heap[W.heap.size]? = some (.cells larr' 21 (0, 0)) ∧ ∀ i (h : i < R.length), i < j + 1 → larr'[i]? = some (.int .i32 (R[i] : Int)) := by
  have hl := heap_lt h1
  have hs2 := hb2.size
  have h4 : ∀ i (h : i < R.length), i < j + 1 → (larr.setIfInBounds j (.int .i32 z))[i]? = some (.int .i32 (R[i] : Int)) := fun i h hi => by
    by_cases e : i = j
    · subst e
      rw [Array.getElem?_setIfInBounds, if_pos rfl, if_pos (by omega), hz]
    · rw [Array.getElem?_setIfInBounds, if_neg (by omega)]
      exact h3 i h (by omega)
  have h5 : wy.heap[W.heap.size]? = some (.cells (larr.setIfInBounds j (.int .i32 z)) 21 (0, 0)) := (hy.block _ (by omega)).trans (hset ((hb2.block _ hl).trans h1) j _)
  refine ⟨⟨j + 1, _, by omega, rfl, h5, by simpa using h2, h4, ?_⟩, _, h5, h4⟩
  exact ((hb.trans (hb2.mono hb.size)).setCell (p := ⟨W.heap.size, j, none⟩) (Nat.le_refl _) _).trans (hy.mono (by have := hb.size; omega))
theorem FrM.belowOf {M : Nat → Prop} {w a b : World} (h : FrM M a b) (hw : Below w.heap.size w a) (hM : ∀ g, M g → w.heap.size ≤ g) : Below w.heap.size w b :=
  ⟨h.os.trans hw.os, h.tape.trans hw.tape, h.output.trans hw.output, Nat.le_trans hw.size h.size, fun g hg => (h.block g (by have := hw.size; omega) (fun q => by have := hM g q; omega)).trans (hw.block g hg)⟩
/-- the first lowering's hypotheses -/
theorem ctx_new {wF wG wH : World} {sb g cb pb : Nat} (hp : Par wF pb) (h1 : wF.heap.size ≤ sb) (h2 : wG.heap[sb]? = some (.cells #[.slice (some ⟨g, 0, none⟩) 1 1] 117 (0, 0))) (h3 : RowL CpH wG (fun q => wF.heap.size ≤ q ∧ q < wG.heap.size ∧ q ≠ sb) (.slice (some ⟨g, 0, none⟩) 1 1) (us 1)) (h4 : Below wF.heap.size wF wG) (hcb : cb = wG.heap.size) (h5 : wH.heap[cb]? = some (.cells #[.slice (some ⟨sb, 0, none⟩) 1 1, .slice (some ⟨sb, 0, none⟩) 1 1, .slice none 0 0] 100 (0, 0))) (h6 : Below wG.heap.size wG wH) :
    CtxOK wH cb (.slice (some ⟨sb, 0, none⟩) 1 1) (.slice (some ⟨sb, 0, none⟩) 1 1) (.slice none 0 0) 0 (fun q => wF.heap.size ≤ q ∧ q < wG.heap.size) 1 pb := by
  have hr : RowL CxH wH (fun q => wF.heap.size ≤ q ∧ q < wG.heap.size) (.slice (some ⟨sb, 0, none⟩) 1 1) [1] := by
    have h7 : RowL CxH wG (fun q => wF.heap.size ≤ q ∧ q < wG.heap.size) (.slice (some ⟨sb, 0, none⟩) 1 1) [1] := by
      refine ⟨_, 1, rfl, fun i hi => ?_⟩
      have hi0 : i = 0 := by simp at hi; omega
      subst hi0
      exact ⟨sb, rfl, ⟨h1, heap_lt h2⟩, heap_lt h2, _, 1, (hcell h2 0 _ rfl).1, Nat.le_refl _, h3.keep (Keep.weak wG fun q hq _ => ⟨hq.1, hq.2.1⟩)⟩
    exact h7.below h6
  have hs4 := h4.size
  have hs6 := h6.size
  obtain ⟨arr, p1, p2⟩ := hp.ex
  refine ⟨h5, ⟨[], World.ownsRow_nil _ _ _ _, fun u hu => by cases hu⟩, hr, hr, Nat.le_refl _, fun q hq => ⟨by omega, by omega, fun e => by cases e⟩, arr, ?_, p2⟩
  exact (h6.block _ (by have := heap_lt p1; omega)).trans ((h4.block _ (heap_lt p1)).trans p1)
theorem kids_row {d : Nat} {w : World} {lo hi g n c : Nat} {ts : List Tr} (h : KidsR (fun lo hi => InT d w lo hi) w lo hi (.slice (some ⟨g, 0, none⟩) n c) ts) : n = ts.length ∧ ∃ arr, ts.length ≤ c ∧ lo ≤ g ∧ g < hi ∧ w.heap[g]? = some (.cells arr 51 (0, 0)) ∧ ts.length * 2 ≤ arr.size ∧ KidsAt (fun lo hi => InT d w lo hi) arr (g + 1) hi 0 ts := by
  obtain ⟨rb, cap, arr, e, h1⟩ := h
  injection e with e1 e2 e3
  injection e1 with e1
  injection e1 with e1
  subst e1
  subst e3
  exact ⟨e2, arr, h1⟩
/-- behind the first lowering -/
theorem LB.made {w wD wr wE wF wG wH wI : World} {n : Nat} {par : Nat → Option Nat} {kd : Nat → Nat} {cb pb : Nat} {barr arr' : Array Value} (hw : Below w.heap.size w wr) (hD : Below wD.heap.size wD wr) (hwD : w.heap.size ≤ wD.heap.size) (hb : wr.heap[wD.heap.size]? = some (.cells barr 4 (0, 0))) (hb3 : ∀ j, j < n → barr[j]? = some (.bool (decide (j ∈ ofP par n none ∧ kd j = 0)))) (hE : Below wr.heap.size wr wE) (hF : Below wE.heap.size wE wF) (hG : Below wF.heap.size wF wG) (hH : Below wG.heap.size wG wH) (hpb : wE.heap.size ≤ pb) (hcb : cb = wG.heap.size) (hp : Par wI pb)
    (hI : FrM (Mod wr.heap.size wE.heap.size cb (.slice none 0 0)) wH wI) (hr : wI.heap[wr.heap.size]? = some (.cells arr' 51 (0, 0))) (hk : Kept arr' ((ofP par n none).map (treeM par kd n n))) : LB w wI n par kd wD.heap.size wr.heap.size pb := by
  have s1 := hw.size
  have s2 := hD.size
  have s3 := hE.size
  have s4 := hF.size
  have s5 := hG.size
  have s6 := hH.size
  have hbl := heap_lt hb
  have hwH : Below w.heap.size w wH := hw.trans ((hE.mono s1).trans ((hF.mono (by omega)).trans ((hG.mono (by omega)).trans (hH.mono (by omega)))))
  refine ⟨hI.belowOf hwH (fun g hg => by
    rcases hg with h | h | h
    · omega
    · omega
    · cases h), ⟨barr, ?_, hb3⟩, ⟨arr', hr, DecR.of hk (kept_roots par kd n)⟩, hp, by omega, by omega, by omega⟩
  refine (hI.block _ (by omega) (fun h => ?_)).trans ((hH.block _ (by omega)).trans ((hG.block _ (by omega)).trans ((hF.block _ (by omega)).trans ((hE.block _ hbl).trans hb))))
  rcases h with h | h | h
  · omega
  · omega
  · cases h
theorem Lo2.drew {W wx : World} {R : List Nat} {g : Nat} {v : Value} (h : Lo2 W R g v wx) : Lo2 W R g v wx.drew := by
  obtain ⟨j, larr, h1, h2, h3, h4, h5, h6⟩ := h.ex
  exact ⟨j, larr, h1, h2, h3, h4, h5, h6.drew⟩
theorem DecR.kids {arr : Array Value} {w : World} {lo : Nat} : ∀ (R : List Nat) (k : Nat), (∀ j (h : j < R.length), ∃ b, arr[(k + j) * 2]? = some (.iface 129 (.pointer (some ⟨b, 0, none⟩))) ∧ arr[(k + j) * 2 + 1]? = some (.int .i32 (R[j] : Int))) → KidsAt (fun lo hi => InT 1 w lo hi) arr lo lo k (R.map fun (i : Nat) => Tr.mk (i : Int) 0 [])
  | [], _, _ => Nat.le_refl _
  | x :: R, k, h => by
    obtain ⟨b, h1, h2⟩ := h 0 (by simp)
    refine ⟨lo, _, Nat.le_refl _, h1, h2, Or.inl ⟨rfl, rfl, b, rfl⟩, DecR.kids R (k + 1) fun j hj => ?_⟩
    obtain ⟨b, h1, h2⟩ := h (j + 1) (by simpa using hj)
    exact ⟨b, by rw [← h1]; congr 2; omega, by rw [show (k + 1 + j) * 2 + 1 = (k + (j + 1)) * 2 + 1 by omega, h2]; rfl⟩
theorem DecR.size {arr : Array Value} {R : List Nat} (h : DecR arr R) : R.length * 2 ≤ arr.size := by
  rcases Nat.eq_zero_or_pos R.length with e | e
  · omega
  · obtain ⟨b, _, h2⟩ := h (R.length - 1) (by omega)
    have := (Array.getElem?_eq_some_iff.1 h2).1
    omega
/-- the second lowering -/
structure LC (w W : World) (R : List Nat) (lb rb cb : Nat) : Prop where
  bel : Below w.heap.size w W
  row : ∃ arr, W.heap[rb]? = some (.cells arr 51 (0, 0)) ∧ DecR arr R
  locs : ∃ larr, W.heap[lb]? = some (.cells larr 21 (0, 0)) ∧ ∀ i (h : i < R.length), larr[i]? = some (.int .i32 (R[i] : Int))
  ctx : ∃ pw pn a c, W.heap[cb]? = some (.cells #[pw, pn, .slice a 0 c] 100 (0, 0))
theorem LC.below {w W W' : World} {R : List Nat} {lb rb cb : Nat} (h : LC w W R lb rb cb) (hb : Below W.heap.size W W') : LC w W' R lb rb cb := by
  obtain ⟨arr, a1, a2⟩ := h.row
  obtain ⟨larr, l1, l2⟩ := h.locs
  obtain ⟨pw, pn, a, c, c1⟩ := h.ctx
  exact ⟨h.bel.trans (hb.mono h.bel.size), ⟨arr, (hb.block _ (heap_lt a1)).trans a1, a2⟩, ⟨larr, (hb.block _ (heap_lt l1)).trans l1, l2⟩, pw, pn, a, c, (hb.block _ (heap_lt c1)).trans c1⟩
theorem second_ask {w W5 wG wH : World} {n : Nat} {par : Nat → Option Nat} {kd : Nat → Nat} {rdb rb pb sb g cb cap : Nat} (hL : LB w W5 n par kd rdb rb pb) (hn : n ≤ 4096) (hcap : (rootD par kd n).length ≤ cap) (h1 : W5.heap.size ≤ sb) (h2 : wG.heap[sb]? = some (.cells #[.slice (some ⟨g, 0, none⟩) 1 1] 117 (0, 0))) (h3 : RowL CpH wG (fun q => W5.heap.size ≤ q ∧ q < wG.heap.size ∧ q ≠ sb) (.slice (some ⟨g, 0, none⟩) 1 1) (us 1)) (h4 : Below W5.heap.size W5 wG) (hcb : cb = wG.heap.size) (h5 : wH.heap[cb]? = some (.cells #[.slice (some ⟨sb, 0, none⟩) 1 1, .slice (some ⟨sb, 0, none⟩) 1 1, .slice none 0 0] 100 (0, 0))) (h6 : Below wG.heap.size wG wH) :
    ∃ arr, Calls Tryf.prog 19 #[.pointer (some ⟨pb, 0, none⟩), .slice (some ⟨rb, 0, none⟩) ((rootD par kd n).map fun (i : Nat) => Tr.mk (i : Int) 0 []).length cap, .pointer (some ⟨cb, 0, none⟩)] wH fun e w' => RemR 0 rb cap arr ((rootD par kd n).map fun (i : Nat) => Tr.mk (i : Int) 0 []) rb (rb + 1) cb (.slice (some ⟨sb, 0, none⟩) 1 1) (.slice (some ⟨sb, 0, none⟩) 1 1) (.slice none 0 0) 0 (fun q => W5.heap.size ≤ q ∧ q < wG.heap.size) 1 pb wH e w' := by
  have hctx := ctx_new hL.par h1 h2 h3 h4 hcb h5 h6
  obtain ⟨arr, a1, a2⟩ := hL.row
  have s4 := h4.size
  have s6 := h6.size
  have hrl := heap_lt a1
  have hlen : (rootD par kd n).length ≤ n := by
    have e1 := List.length_filter_le (fun i => kd i == 0) (ofP par n none)
    have e2 := ofP_len par n none
    unfold rootD
    omega
  have hpr : pb ≠ rb := by
    rintro rfl
    obtain ⟨parr, p1, _⟩ := hL.par.ex
    rw [a1] at p1
    injection p1 with p1
    injection p1 with _ p1 _
    exact absurd p1 (by decide)
  have hz : csum (fun _ => 0) ((rootD par kd n).map fun (i : Nat) => Tr.mk (i : Int) 0 []) = 0 := by
    unfold csum
    induction (rootD par kd n) with
    | nil => rfl
    | cons a l ih => simpa using ih
  have h := prem_decl 1 ((rootD par kd n).map fun (i : Nat) => Tr.mk (i : Int) 0 []) wH rb (rb + 1) rb cap arr cb _ _ _ 0 _ 1 pb (fun t ht => by
    obtain ⟨i, _, rfl⟩ := List.mem_map.1 ht
    rfl) (Nat.le_refl _) (by omega) (by omega) ((h6.block _ (by omega)).trans ((h4.block _ hrl).trans a1)) (by rw [List.length_map]; exact a2.size) (by rw [List.length_map]; exact hcap) (by rw [List.length_map]; omega) (DecR.kids _ 0 fun j hj => by
    obtain ⟨b, d1, d2⟩ := a2 j hj
    exact ⟨b, by rw [Nat.zero_add]; exact d1, by rw [Nat.zero_add]; exact d2⟩) hctx ⟨Or.inr (by omega), by omega, (fun q hq => by cases hq), fun q hq => Or.inr (by omega)⟩ (by omega) (by rw [hz]; omega)
  rw [hz] at h
  exact ⟨arr, h⟩
theorem second_done {w wI W5 wG wH wJ : World} {n : Nat} {par : Nat → Option Nat} {kd : Nat → Nat} {rdb rb pb cb n' : Nat} {pw pn lw : Value} {S : Nat → Prop} {arr3 larr : Array Value} {R : List Nat} (hR : R = rootD par kd n) (hL : LB w W5 n par kd rdb rb pb) (hlt : rb < wI.heap.size) (h4 : Below W5.heap.size W5 wG) (hcb : cb = wG.heap.size) (h6 : Below wG.heap.size wG wH) (q1 : W5.heap[wI.heap.size]? = some (.cells larr 21 (0, 0))) (q3 : ∀ i (h : i < R.length), i < R.length → larr[i]? = some (.int .i32 (R[i] : Int)))
    (hn : n' ≤ 0) (hc : CtxOK wJ cb pw pn lw n' S 1 pb) (hJ : FrM (Mod rb (rb + 1) cb (.slice none 0 0)) wH wJ) (hr : wJ.heap[rb]? = some (.cells arr3 51 (0, 0))) (hk : Kept arr3 ((rootD par kd n).map fun (i : Nat) => Tr.mk (i : Int) 0 [])) : LC w wJ R wI.heap.size rb cb := by
  obtain rfl : n' = 0 := by omega
  have s4 := h4.size
  have s6 := h6.size
  have hl := heap_lt q1
  have hwH : Below w.heap.size w wH := hL.bel.trans ((h4.mono hL.bel.size).trans (h6.mono (by have := hL.bel.size; omega)))
  obtain ⟨xs, ho, _⟩ := hc.own
  obtain ⟨a, c, rfl, _⟩ := own_shape ho
  refine ⟨hJ.belowOf hwH (fun g hg => ?_), ⟨arr3, hr, ?_⟩, ⟨larr, ?_, fun i h => q3 i h h⟩, pw, pn, a, c, hc.cx⟩
  · have := hL.bel.size
    have := hL.ge.2.1
    rcases hg with h | h | h
    · omega
    · omega
    · cases h
  · rw [hR]
    exact DecR.of hk (keptM_mk _)
  · refine (hJ.block _ (by omega) (fun h => ?_)).trans ((h6.block _ (by omega)).trans ((h4.block _ hl).trans q1))
    rcases h with h | h | h
    · omega
    · omega
    · cases h
structure Lo3 (W : World) (K : Nat) (g : Nat) (v : Value) (wx : World) : Prop where
  ex : ∃ i, i + g = K ∧ v = .int .i64 (i : Nat) ∧ Below W.heap.size W wx
end Go.Proofs.YtjebnjjhdefejaaFmt
