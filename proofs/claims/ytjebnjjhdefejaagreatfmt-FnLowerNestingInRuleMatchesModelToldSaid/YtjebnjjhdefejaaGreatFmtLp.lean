/-
  An at-rule in a lowering: its state. Conditions: each theorem's own.
-/
import Derived.Test.YtjebnjjhdefejaaGreatFmtLq
namespace Go.Proofs.YtjebnjjhdefejaaGreatFmt
open Go.RowKit Go.Lib Go.ChangeMaps
/-- behind the at-rule's children -/
structure KatS (w W : World) (lo hi b : Nat) (l : Int) (cb cn : Nat) (pw pn lw lwk : Value) (n nk : Nat) (S : Nat → Prop) (m pb : Nat) (bv : Value) : Prop where
  hb : ∃ arr, W.heap[b]? = some (.cells arr 117 (0, 0)) ∧ arr[2]? = some bv ∧ arr.size = 4
  hcn : W.heap[cn]? = some (.cells #[pw, pn, lwk] 139 (0, 0))
  b4 : W.heap[w.heap.size]? = some (.cells #[.iface 115 (.pointer (some ⟨b, 0, none⟩)), .int .i32 l] 39 (0, 0))
  b5 : W.heap[w.heap.size + 1]? = some (.cells #[.pointer (some ⟨cb, 0, none⟩)] 141 (0, 0))
  b6 : W.heap[w.heap.size + 1 + 1]? = some (.cells #[.nilIface, .int .i32 0] 39 (0, 0))
  ok : CtxOK W cb pw pn lw n S m pb
  own : OwnRu W lwk nk
  ge : ∀ g, lwk.ownBlock = some g → w.heap.size + 1 + 1 < g ∧ g ≠ cn
  cnge : w.heap.size + 1 + 1 < cn
  fr : FrM (fun g => lo ≤ g ∧ g < hi) w W
section
variable {w W : World} {lo hi b : Nat} {l : Int} {cb cn : Nat} {pw pn lw lwk : Value} {n nk : Nat} {S : Nat → Prop} {m pb : Nat} {bv : Value}
theorem KatS.bne (h : KatS w W lo hi b l cb cn pw pn lw lwk n nk S m pb bv) (hb : b < w.heap.size) : b ≠ cb ∧ b ≠ cn ∧ b ≠ w.heap.size ∧ b ≠ w.heap.size + 1 ∧ b ≠ w.heap.size + 1 + 1 ∧ some b ≠ lwk.ownBlock ∧ some b ≠ lw.ownBlock := by
  obtain ⟨arr, h1, h2⟩ := h.hb
  have hn := h.cnge
  refine ⟨?_, by omega, by omega, by omega, by omega, fun e => by have := h.ge b e.symm; omega, fun e => ?_⟩
  · rintro rfl
    have q := h.ok.cx
    rw [h1] at q
    injection q with q
    injection q with _ q _
    exact absurd q (by decide)
  · obtain ⟨xs, ho, _⟩ := h.ok.own
    obtain ⟨cur, q⟩ := own_type ho e.symm
    rw [h1] at q
    injection q with q
    injection q with _ q _
    exact absurd q (by decide)
/-- the at-rule's children replaced -/
theorem KatS.setb (h : KatS w W lo hi b l cb cn pw pn lw lwk n nk S m pb bv) (h1 : lo ≤ b) (h2 : b < hi) (h3 : hi ≤ w.heap.size) (hOff : Off lo hi cb pb lw S) (v : Value) : KatS w (W.setCell ⟨b, 2, none⟩ v) lo hi b l cb cn pw pn lw lwk n nk S m pb v := by
  obtain ⟨n1, n2, n3, n4, n5, n6, n7⟩ := h.bne (by omega)
  have k : ∀ g, g ≠ b → (W.setCell ⟨b, 2, none⟩ v).heap[g]? = W.heap[g]? := fun g hg => hother _ _ _ hg
  obtain ⟨arr, q1, q2, q3⟩ := h.hb
  have hF : FrM (fun g => lo ≤ g ∧ g < hi) W (W.setCell ⟨b, 2, none⟩ v) := FrM.set W v (Or.inl ⟨h1, h2⟩)
  refine ⟨⟨_, hset q1 2 v, by rw [Array.getElem?_setIfInBounds, if_pos rfl, if_pos (by omega)], by simp [q3]⟩, (k _ n2.symm).trans h.hcn, (k _ n3.symm).trans h.b4, (k _ n4.symm).trans h.b5, (k _ n5.symm).trans h.b6, h.ok.frame hF (fun g hg q => by have := hOff.out hg; omega), ?_, h.ge, h.cnge, h.fr.trans hF (fun _ _ q => q)⟩
  obtain ⟨ys, ho, hy⟩ := h.own
  exact ⟨ys, own_keep ho (fun g hg => k g (by rintro rfl; exact n6 hg.symm)), hy⟩
/-- the style rule put before the children's lowered rules -/
theorem KatS.app (h : KatS w W lo hi b l cb cn pw pn lw lwk n nk S m pb bv) (hC : CtxOK w cb pw pn lw n S m pb) (hbl : b < w.heap.size) {W2 W3 : World} {v3 : Value} {n3 : Nat} (hb2 : Below W.heap.size W W2) (hg : W2.grownBy W3 (some (W.heap.size + 1))) (hown : OwnRu W3 v3 n3) (hat : ∀ g, v3.ownBlock = some g → W.heap.size < g) : KatS w (W3.setCell ⟨cn, 2, none⟩ v3) lo hi b l cb cn pw pn lw v3 n n3 S m pb bv := by
  have s2 := hb2.size
  have s3 := hg.size
  have k3 : ∀ g, g < W.heap.size → W3.heap[g]? = W.heap[g]? := fun g h1 => (hg.block g (by omega) (fun e => by have := Option.some.inj e; omega)).trans (hb2.block g h1)
  have k : ∀ g, g < W.heap.size → g ≠ cn → (W3.setCell ⟨cn, 2, none⟩ v3).heap[g]? = W.heap[g]? := fun g h1 h2 => (hother _ _ _ h2).trans (k3 g h1)
  have hcn := heap_lt h.hcn
  have hcg := h.cnge
  have hz : (W3.setCell ⟨cn, 2, none⟩ v3).heap.size = W3.heap.size := by simp [World.setCell]
  have ho := os_set W3 ⟨cn, 2, none⟩ v3
  obtain ⟨arr, q1, q2, q3⟩ := h.hb
  have hF : FrM (fun g => g = cn) W (W3.setCell ⟨cn, 2, none⟩ v3) := ⟨ho.1.trans (hg.os.trans hb2.os), ho.2.1.trans (hg.tape.trans hb2.tape), ho.2.2.trans (hg.output.trans hb2.output), by omega, k⟩
  have hfs := h.fr.size
  refine ⟨⟨arr, (k _ (heap_lt q1) (by omega)).trans q1, q2, q3⟩, ?_, (k _ (by omega) (by omega)).trans h.b4, (k _ (by omega) (by omega)).trans h.b5, (k _ (by omega) (by omega)).trans h.b6, h.ok.frame hF (fun g hg q => by have := hC.old hg; omega), ?_, fun g hg => by have := hat g hg; omega, h.cnge, ⟨hF.os.trans h.fr.os, hF.tape.trans h.fr.tape, hF.output.trans h.fr.output, by omega, fun g h1 h2 => (k g (by omega) (by omega)).trans (h.fr.block g h1 h2)⟩⟩
  · exact hset ((k3 cn hcn).trans h.hcn) 2 v3
  · obtain ⟨ys, ho, hy⟩ := hown
    exact ⟨ys, own_keep ho (fun g hg => hother _ _ _ (by have := hat g hg; omega)), hy⟩
/-- the rule put behind the lowered ones; the result -/
theorem KatS.fin (h : KatS w W lo hi b l cb cn pw pn lw lwk n nk S m pb bv) (hC : CtxOK w cb pw pn lw n S m pb) (hOff : Off lo hi cb pb lw S) {W2 W3 : World} {v3 : Value} (hb2 : Below W.heap.size W W2) (hg : W2.grownBy W3 lw.ownBlock) (hown : OwnRu W3 v3 (n + 1)) (hat : v3.ownBlock = lw.ownBlock ∨ ∃ g, v3.ownBlock = some g ∧ W.heap.size ≤ g) :
    let WB := ((W3.setCell ⟨cb, 2, none⟩ v3).setCell ⟨w.heap.size + 1 + 1, 0, none⟩ .nilIface).setCell ⟨w.heap.size + 1 + 1, 1, none⟩ (.int .i32 0)
    CtxOK WB cb pw pn v3 (n + 1) S m pb ∧ FrM (Mod lo hi cb lw) w WB ∧ OwnG w lw v3 := by
  intro WB
  have s2 := hb2.size
  have s3 := hg.size
  have hfs := h.fr.size
  have hcl := heap_lt hC.cx
  have hb6 := heap_lt h.b6
  have k3 : ∀ g, g < W.heap.size → some g ≠ lw.ownBlock → W3.heap[g]? = W.heap[g]? := fun g h1 h2 => (hg.block g (by omega) h2).trans (hb2.block g h1)
  have k : ∀ g, g ≠ cb → g ≠ w.heap.size + 1 + 1 → WB.heap[g]? = W3.heap[g]? := fun g h1 h2 => (set2o _ 0 _ _ h2).trans (hother _ _ _ h1)
  have hz : WB.heap.size = W3.heap.size := by simp [WB, World.setCell]
  have o1 := os_set W3 ⟨cb, 2, none⟩ v3
  have o2 := os_set (W3.setCell ⟨cb, 2, none⟩ v3) ⟨w.heap.size + 1 + 1, 0, none⟩ .nilIface
  have o3 := os_set ((W3.setCell ⟨cb, 2, none⟩ v3).setCell ⟨w.heap.size + 1 + 1, 0, none⟩ .nilIface) ⟨w.heap.size + 1 + 1, 1, none⟩ (.int .i32 0)
  have hcbo : some cb ≠ lw.ownBlock := fun e => by
    obtain ⟨xs, ho, _⟩ := h.ok.own
    obtain ⟨cur, q⟩ := own_type ho e.symm
    rw [h.ok.cx] at q
    injection q with q
    injection q with _ q _
    exact absurd q (by decide)
  have hpbo : some pb ≠ lw.ownBlock := fun e => by
    obtain ⟨xs, ho, _⟩ := h.ok.own
    obtain ⟨cur, q⟩ := own_type ho e.symm
    obtain ⟨arr, p1, _⟩ := h.ok.par.ex
    rw [p1] at q
    injection q with q
    injection q with _ q _
    exact absurd q (by decide)
  have hpbc : pb ≠ cb := by
    rintro rfl
    obtain ⟨arr, p1, _⟩ := h.ok.par.ex
    rw [h.ok.cx] at p1
    injection p1 with p1
    injection p1 with _ p1 _
    exact absurd p1 (by decide)
  have hF : FrM (fun g => g = cb ∨ lw.ownBlock = some g ∨ g = w.heap.size + 1 + 1) W WB := ⟨o3.1.trans (o2.1.trans (o1.1.trans (hg.os.trans hb2.os))), o3.2.1.trans (o2.2.1.trans (o1.2.1.trans (hg.tape.trans hb2.tape))), o3.2.2.trans (o2.2.2.trans (o1.2.2.trans (hg.output.trans hb2.output))), by omega, fun g h1 h2 => (k g (fun e => h2 (Or.inl e)) (fun e => h2 (Or.inr (Or.inr e)))).trans (k3 g h1 (fun e => h2 (Or.inr (Or.inl e.symm))))⟩
  refine ⟨h.ok.step hF (fun g hg q => ?_) ?_ ?_ hat, ⟨hF.os.trans h.fr.os, hF.tape.trans h.fr.tape, hF.output.trans h.fr.output, by omega, fun g h1 h2 => (hF.block g (by omega) ?_).trans (h.fr.block g h1 (fun q => h2 (Or.inl q)))⟩, hat.imp id fun ⟨g, e, hq⟩ => ⟨g, e, by omega⟩⟩
  · rcases hg with hg | rfl
    · obtain ⟨a1, a2, a3⟩ := hC.sS g hg
      rcases q with q | q | q
      · exact a2 q
      · exact a3 q.symm
      · omega
    · rcases q with q | q | q
      · exact hpbc q
      · exact hpbo q.symm
      · have := hC.par.lt; omega
  · refine (set2o _ 0 _ _ (by omega)).trans ?_
    exact hset ((k3 cb (by omega) hcbo).trans h.ok.cx) 2 v3
  · obtain ⟨ys, ho, hy⟩ := hown
    refine ⟨ys, own_keep ho (fun g hg => k g ?_ ?_), hy⟩
    · rintro rfl
      rcases hat with e | ⟨g', e, hq⟩
      · exact hcbo (hg.symm.trans e)
      · rw [e] at hg; have := Option.some.inj hg; omega
    · rintro rfl
      rcases hat with e | ⟨g', e, hq⟩
      · have := hC.ownlt (e.symm.trans hg); omega
      · rw [e] at hg; have := Option.some.inj hg; omega
  · rintro (q | q | q)
    · exact h2 (Or.inr (Or.inl q))
    · exact h2 (Or.inr (Or.inr q))
    · omega
/-- nothing lowered: the result -/
theorem KatS.none (h : KatS w W lo hi b l cb cn pw pn lw lwk n nk S m pb bv) (hC : CtxOK w cb pw pn lw n S m pb) :
    let WB := (W.setCell ⟨w.heap.size + 1 + 1, 0, none⟩ .nilIface).setCell ⟨w.heap.size + 1 + 1, 1, none⟩ (.int .i32 0)
    CtxOK WB cb pw pn lw n S m pb ∧ FrM (Mod lo hi cb lw) w WB ∧ OwnG w lw lw := by
  intro WB
  have hfs := h.fr.size
  have hF : FrM (fun g => g = w.heap.size + 1 + 1) W WB := set2f _ W 0 _ _ rfl
  refine ⟨h.ok.frame hF (fun g hg q => by have := hC.old hg; omega), ⟨hF.os.trans h.fr.os, hF.tape.trans h.fr.tape, hF.output.trans h.fr.output, Nat.le_trans hfs hF.size, fun g h1 h2 => (hF.block g (by omega) (by omega)).trans (h.fr.block g h1 (fun q => h2 (Or.inl q)))⟩, Or.inl rfl⟩
theorem one_own (u v : Value) (W : World) (g : Nat) (h : W.heap[g]? = some (.cells #[u, v] 39 (0, 0))) (h1 : u.oneCell' = true) (h2 : v.oneCell' = true) : OwnRu W (.slice (some ⟨g, 0, none⟩) 1 1) 1 :=
  ⟨[u, v], ⟨rfl, Or.inr ⟨g, 1, _, rfl, Nat.zero_le _, h, Nat.le_refl _, by decide, rfl, rfl⟩⟩, fun x hx => by simp at hx; rcases hx with rfl | rfl <;> assumption⟩
end
structure KatR (k : Nat) (lo hi cb : Nat) (pw pn lw : Value) (n : Nat) (S : Nat → Prop) (m pb : Nat) (w : World) (e : Ending) (w' : World) : Prop where
  ex : ∃ lw' n', e = .returned (.agg #[.nilIface, .int .i32 0]) ∧ n ≤ n' ∧ n' ≤ n + (1 + k) ∧ CtxOK w' cb pw pn lw' n' S m pb ∧ FrM (Mod lo hi cb lw) w w' ∧ OwnG w lw lw'
end Go.Proofs.YtjebnjjhdefejaaGreatFmt
