/-
  A round of the removal. Conditions: each theorem's own.
-/
import Derived.Test.YtjebnjjhdefejaaGreatFmtLi
namespace Go.Proofs.YtjebnjjhdefejaaGreatFmt
open Go.RowKit Go.Lib Go.ChangeMaps
theorem set2 {w : World} {b : Nat} {arr : Array Value} {e : TypeId} (h : w.heap[b]? = some (.cells arr e (0, 0))) (o : Nat) (u v : Value) : ∃ arr' : Array Value, ((w.setCell ⟨b, o, none⟩ u).setCell ⟨b, o + 1, none⟩ v).heap[b]? = some (.cells arr' e (0, 0)) ∧ arr'.size = arr.size ∧ (∀ j, j ≠ o → j ≠ o + 1 → arr'[j]? = arr[j]?) ∧ (o + 1 < arr.size → arr'[o]? = some u ∧ arr'[o + 1]? = some v) := by
  refine ⟨_, hset (hset h o u) (o + 1) v, by simp, fun j h1 h2 => ?_, fun hl => ⟨?_, ?_⟩⟩
  · rw [Array.getElem?_setIfInBounds, if_neg (by omega), Array.getElem?_setIfInBounds, if_neg (by omega)]
  · rw [Array.getElem?_setIfInBounds, if_neg (by omega), Array.getElem?_setIfInBounds, if_pos rfl, if_pos (by omega)]
  · rw [Array.getElem?_setIfInBounds, if_pos rfl, if_pos (by simp; omega)]
theorem set2o (w : World) {b g : Nat} (o : Nat) (u v : Value) (h : g ≠ b) : ((w.setCell ⟨b, o, none⟩ u).setCell ⟨b, o + 1, none⟩ v).heap[g]? = w.heap[g]? := (hother _ _ _ h).trans (hother _ _ _ h)
theorem set2f (M : Nat → Prop) (w : World) {b : Nat} (o : Nat) (u v : Value) (h : M b) : FrM M w ((w.setCell ⟨b, o, none⟩ u).setCell ⟨b, o + 1, none⟩ v) :=
  (FrM.set (M := M) w u (Or.inl h)).trans (FrM.set (M := M) _ v (Or.inl h)) (fun _ _ h => h)
/-- the context where other blocks have turned -/
theorem CtxOK.frame {w w' : World} {cb : Nat} {pw pn lw : Value} {n : Nat} {S : Nat → Prop} {m pb : Nat} {M : Nat → Prop} (h : CtxOK w cb pw pn lw n S m pb) (hF : FrM M w w') (hM : ∀ g, S g ∨ g = pb ∨ g = cb ∨ lw.ownBlock = some g → ¬ M g) : CtxOK w' cb pw pn lw n S m pb := by
  obtain ⟨xs, ho, h1⟩ := h.own
  exact h.step hF (fun g hg => hM g (hg.elim Or.inl fun q => Or.inr (Or.inl q))) ((hF.block _ (heap_lt h.cx) (hM _ (Or.inr (Or.inr (Or.inl rfl))))).trans h.cx) ⟨xs, own_keep ho (fun g hg => hF.block g (ho.lt g hg).2 (hM g (Or.inr (Or.inr (Or.inr hg))))), h1⟩ (Or.inl rfl)
theorem CtxOK.ownlt {w : World} {cb : Nat} {pw pn lw : Value} {n : Nat} {S : Nat → Prop} {m pb : Nat} (h : CtxOK w cb pw pn lw n S m pb) {g : Nat} (hg : lw.ownBlock = some g) : g < w.heap.size := by
  obtain ⟨xs, ho, _⟩ := h.own
  exact (ho.lt g hg).2
/-- all that a context names lies below the heap's size -/
theorem CtxOK.old {w : World} {cb : Nat} {pw pn lw : Value} {n : Nat} {S : Nat → Prop} {m pb : Nat} (h : CtxOK w cb pw pn lw n S m pb) {g : Nat} (hg : S g ∨ g = pb ∨ g = cb ∨ lw.ownBlock = some g) : g < w.heap.size := by
  rcases hg with hg | rfl | rfl | hg
  · exact (h.sS g hg).1
  · exact h.par.lt
  · exact heap_lt h.cx
  · exact h.ownlt hg
/-- .. and lies outside the tree -/
theorem Off.out {lo hi cb pb : Nat} {lw : Value} {S : Nat → Prop} (h : Off lo hi cb pb lw S) {g : Nat} (hg : S g ∨ g = pb ∨ g = cb ∨ lw.ownBlock = some g) : g < lo ∨ hi ≤ g := by
  rcases hg with hg | rfl | rfl | hg
  · exact h.2.2.2 g hg
  · exact h.2.1
  · exact h.1
  · exact h.2.2.1 g hg
theorem Off.sub {lo hi lo' hi' cb pb : Nat} {lw lw' : Value} {S : Nat → Prop} (h : Off lo hi cb pb lw S) (h1 : lo ≤ lo') (h2 : hi' ≤ hi) (ho : lw'.ownBlock = lw.ownBlock ∨ ∃ g, lw'.ownBlock = some g ∧ hi ≤ g) : Off lo' hi' cb pb lw' S :=
  ⟨h.1.imp (fun q => by omega) (fun q => by omega), h.2.1.imp (fun q => by omega) (fun q => by omega), fun g hg => by
    rcases ho with e | ⟨g', e, hg'⟩
    · rw [e] at hg; exact (h.2.2.1 g hg).imp (fun q => by omega) (fun q => by omega)
    · rw [e] at hg; injection hg with hg; exact Or.inr (by omega), fun g hg => (h.2.2.2 g hg).imp (fun q => by omega) (fun q => by omega)⟩
abbrev OwnG (w : World) (lw lw' : Value) : Prop := lw'.ownBlock = lw.ownBlock ∨ ∃ g, lw'.ownBlock = some g ∧ w.heap.size ≤ g
theorem own_trans {w w1 : World} {l l1 l2 : Value} (h : OwnG w l l1) (k : OwnG w1 l1 l2) (hs : w.heap.size ≤ w1.heap.size) : OwnG w l l2 := by
  rcases k with e | ⟨g, e, hg⟩
  · rcases h with q | ⟨g, q, hg⟩
    · exact Or.inl (e.trans q)
    · exact Or.inr ⟨g, e.trans q, hg⟩
  · exact Or.inr ⟨g, e, Nat.le_trans hs hg⟩
theorem cntTL_cons (d : Nat) (t : Tr) (ts : List Tr) : cntTL d (t :: ts) = cntT d t + cntTL d ts := by simp [cntTL]
theorem csum_cons (c : Tr → Nat) (t : Tr) (ts : List Tr) : csum c (t :: ts) = c t + csum c ts := by simp [csum]
theorem InT.decl {d : Nat} {w : World} {lo hi : Nat} {v : Value} {t : Tr} (h : InT d w lo hi v t) (k : t.kind = 0) : ∃ b, v = .iface 103 (.pointer (some ⟨b, 0, none⟩)) := by
  cases d with
  | zero => exact h.elim
  | succ d =>
    rcases h with ⟨_, _, q⟩ | ⟨q, _⟩ | ⟨q, _⟩
    · exact q
    · omega
    · omega
theorem InT.shape {d : Nat} {w : World} {lo hi : Nat} {v : Value} {t : Tr} (h : InT d w lo hi v t) : ∃ T b, v = .iface T (.pointer (some ⟨b, 0, none⟩)) := by
  cases d with
  | zero => exact h.elim
  | succ d =>
    rcases h with ⟨_, _, b, q⟩ | ⟨_, b, _, _, _, _, q, _⟩ | ⟨_, b, _, _, _, q, _⟩
    · exact ⟨_, b, q⟩
    · exact ⟨_, b, q⟩
    · exact ⟨_, b, q⟩
/-- a round of the removal -/
structure ReI (c : Tr → Nat) (d rb : Nat) (arr : Array Value) (ts : List Tr) (lo hi cb : Nat) (pw pn lw : Value) (n : Nat) (S : Nat → Prop) (m pb : Nat) (w : World) (g : Nat) (v7 v12 : Value) (wr : World) : Prop where
  ex : ∃ pre rest i kk mid lw' n' arr', ts = pre ++ rest ∧ rest.length = g ∧ pre.length = i ∧ v7 = .int .i64 (kk : Nat) ∧ v12 = .int .i64 (i : Nat) ∧ (keptM pre).length = kk ∧ n ≤ n' ∧ n' + csum c rest ≤ n + csum c ts ∧
    CtxOK wr cb pw pn lw' n' S m pb ∧ FrM (Mod lo hi cb lw) w wr ∧ OwnG w lw lw' ∧ wr.heap[rb]? = some (.cells arr' 39 (0, 0)) ∧ arr'.size = arr.size ∧ Kept arr' pre ∧ rb + 1 ≤ mid ∧ KidsAt (fun lo hi => InT d wr lo hi) arr' mid hi i rest
/-- the world behind a call, the box turned -/
theorem ReI.next {c : Tr → Nat} {d rb : Nat} {arr : Array Value} {ts : List Tr} {lo hi cb : Nat} {pw pn lw : Value} {n : Nat} {S : Nat → Prop} {m pb : Nat} {w : World} {wr W3 W5 : World} {pre rest : List Tr} {t : Tr} {i kk' mid mid2 n' n3 : Nat} {lw' lw3 : Value} {arr' arr5 : Array Value}
    (hlo : lo ≤ rb) (hrb : rb < hi) (hhi : hi ≤ w.heap.size) (hoff : Off lo hi cb pb lw S)
    (hts : ts = pre ++ t :: rest) (hi' : pre.length = i) (hn : n ≤ n') (hn2 : n' + csum c (t :: rest) ≤ n + csum c ts) (hF : FrM (Mod lo hi cb lw) w wr) (hO : OwnG w lw lw') (hsz : arr'.size = arr.size) (hrm : rb + 1 ≤ mid) (hmm : mid ≤ mid2) (hK : KidsAt (fun lo hi => InT d wr lo hi) arr' mid2 hi (i + 1) rest) (hrbw : wr.heap[rb]? = some (.cells arr' 39 (0, 0)))
    (h3n : n' ≤ n3) (h3n2 : n3 ≤ n' + c t) (h3c : CtxOK W3 cb pw pn lw3 n3 S m pb) (h3F : FrM (fun g => wr.heap.size ≤ g ∨ Mod mid mid2 cb lw' g) wr W3) (h3O : OwnG wr lw' lw3)
    (h5F : FrM (fun g => g = wr.heap.size ∨ g = rb) W3 W5) (h5r : W5.heap[rb]? = some (.cells arr5 39 (0, 0))) (h5s : arr5.size = arr'.size) (h5j : ∀ j, (i + 1) * 2 ≤ j → arr5[j]? = arr'[j]?) (hkk : (keptM (pre ++ [t])).length = kk') (hkp : Kept arr5 (pre ++ [t])) (hcw : CtxOK wr cb pw pn lw' n' S m pb) (hlt : mid2 ≤ hi) (hS : ∀ g, S g → g < w.heap.size) (hpb : pb < w.heap.size) (hcb : cb < w.heap.size) (h3o : lw3.ownBlock ≠ some wr.heap.size) :
    ReI c d rb arr ts lo hi cb pw pn lw n S m pb w rest.length (.int .i64 (kk' : Nat)) (.int .i64 ((i + 1 : Nat) : Int)) W5 := by
  have hO3 := own_trans hO h3O hF.size
  have hwr := hF.size
  have hoff3 : Off lo hi cb pb lw3 S := hoff.sub (Nat.le_refl _) (Nat.le_refl _) (hO3.imp id fun ⟨g, e, hg⟩ => ⟨g, e, by omega⟩)
  have hc5 : CtxOK W5 cb pw pn lw3 n3 S m pb := h3c.frame h5F (fun g hg q => by
    rcases q with rfl | rfl
    · rcases hg with hg | hg | hg | hg
      · have := hS _ hg; omega
      · omega
      · omega
      · exact h3o hg
    · have := hoff3.out hg; omega)
  have h35 : FrM (fun g => wr.heap.size ≤ g ∨ g = rb ∨ Mod mid mid2 cb lw' g) wr W5 := by
    refine FrM.trans (M := fun g => wr.heap.size ≤ g ∨ g = rb ∨ Mod mid mid2 cb lw' g) ⟨h3F.os, h3F.tape, h3F.output, h3F.size, fun g hg hx => h3F.block g hg (fun q => hx (q.imp id Or.inr))⟩ h5F (fun g _ q => ?_)
    rcases q with rfl | rfl
    · exact Or.inl (Nat.le_refl _)
    · exact Or.inr (Or.inl rfl)
  refine ⟨pre ++ [t], rest, i + 1, kk', mid2, lw3, n3, arr5, by rw [hts]; simp, rfl, by simp [hi'], rfl, rfl, hkk, by omega, ?_, hc5, hF.trans h35 (fun g hg q => ?_), hO3, h5r, by omega, hkp, by omega, ?_⟩
  · rw [csum_cons] at hn2; omega
  · rcases q with q | rfl | q | rfl | q
    · omega
    · exact Or.inl ⟨hlo, hrb⟩
    · exact Or.inl ⟨by omega, by omega⟩
    · exact Or.inr (Or.inl rfl)
    · rcases hO with e | ⟨g', e, hg'⟩
      · exact Or.inr (Or.inr (e ▸ q))
      · rw [e] at q; injection q with q; omega
  · refine KidsAt.arr rest mid2 hi (i + 1) h5j (hK.keep rest mid2 hi (i + 1) mid2 hi (Nat.le_refl _) (Nat.le_refl _) (fun lo2 hi2 v u a1 a2 a3 => InT.keep d lo2 hi2 v u (Nat.le_trans h3F.size h5F.size) (fun g g1 g2 => h35.block g (by omega) ?_) a3))
    rintro (q | rfl | q | rfl | q)
    · omega
    · omega
    · omega
    · have := hoff.1; omega
    · rcases hO with e | ⟨g', e, hg'⟩
      · have := hoff.2.2.1 g (e ▸ q); omega
      · rw [e] at q; injection q with q; omega
end Go.Proofs.YtjebnjjhdefejaaGreatFmt
