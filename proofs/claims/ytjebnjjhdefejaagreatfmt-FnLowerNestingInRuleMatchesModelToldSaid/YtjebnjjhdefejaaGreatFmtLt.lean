/-
  A style rule in a lowering: its states. Conditions: each theorem's own.
-/
import Derived.Test.YtjebnjjhdefejaaGreatFmtLp
import Derived.Test.YtjebnjjhdefejaaGreatFmtDu
namespace Go.Proofs.YtjebnjjhdefejaaGreatFmt
open Go.RowKit Go.Lib Go.ChangeMaps
/-- a style rule under way: its selector's cell, the boxes -/
structure StS (w W : World) (sb b : Nat) (l : Int) (cb : Nat) (u : Value) : Prop where
  fr : FrM (fun g => g = sb) w W
  hs : W.heap[sb]? = some (.cells #[u] 120 (0, 0))
  b4 : W.heap[w.heap.size]? = some (.cells #[.iface 110 (.pointer (some ⟨b, 0, none⟩)), .int .i32 l] 39 (0, 0))
  b5 : W.heap[w.heap.size + 1]? = some (.cells #[.pointer (some ⟨cb, 0, none⟩)] 141 (0, 0))
  b6 : W.heap[w.heap.size + 1 + 1]? = some (.cells #[.nilIface, .int .i32 0] 39 (0, 0))
section
variable {w W W' : World} {sb b : Nat} {l : Int} {cb : Nat} {u : Value}
theorem StS.grown (h : StS w W sb b l cb u) (hsb : sb < w.heap.size) {row : Option Nat} (hg : W.grownBy W' row) (hr : ∀ q, row = some q → w.heap.size + 1 + 1 < q) : StS w W' sb b l cb u := by
  have k : ∀ g, g ≤ w.heap.size + 1 + 1 → g < W.heap.size → W'.heap[g]? = W.heap[g]? := fun g h1 h2 => hg.block g h2 (fun e => by have := hr g e.symm; omega)
  have s := h.fr.size
  refine ⟨⟨hg.os.trans h.fr.os, hg.tape.trans h.fr.tape, hg.output.trans h.fr.output, Nat.le_trans s hg.size, fun g h1 h2 => (k g (by omega) (by omega)).trans (h.fr.block g h1 h2)⟩, (k _ (by omega) (heap_lt h.hs)).trans h.hs, (k _ (by omega) (heap_lt h.b4)).trans h.b4, (k _ (by omega) (heap_lt h.b5)).trans h.b5, (k _ (by omega) (heap_lt h.b6)).trans h.b6⟩
theorem StS.below (h : StS w W sb b l cb u) (hsb : sb < w.heap.size) (hb : Below W.heap.size W W') : StS w W' sb b l cb u :=
  h.grown hsb (row := none) ⟨hb.os, hb.tape, hb.output, hb.size, fun g hg _ => hb.block g hg⟩ (fun _ e => by cases e)
theorem StS.set (h : StS w W sb b l cb u) (hsb : sb < w.heap.size) (u' : Value) : StS w (W.setCell ⟨sb, 0, none⟩ u') sb b l cb u' := by
  have k : ∀ g, g ≠ sb → (W.setCell ⟨sb, 0, none⟩ u').heap[g]? = W.heap[g]? := fun g hg => hother _ _ _ hg
  exact ⟨h.fr.trans (FrM.set (M := fun g => g = sb) W u' (Or.inl rfl)) (fun _ _ q => q), hset h.hs 0 u', (k _ (by omega)).trans h.b4, (k _ (by omega)).trans h.b5, (k _ (by omega)).trans h.b6⟩
theorem StS.ok (h : StS w W sb b l cb u) {pw pn lw : Value} {n : Nat} {S : Nat → Prop} {m pb : Nat} (hC : CtxOK w cb pw pn lw n S m pb) (hx : ∀ g, S g ∨ g = pb ∨ g = cb ∨ lw.ownBlock = some g → g ≠ sb) : CtxOK W cb pw pn lw n S m pb :=
  hC.frame h.fr (fun g hg => hx g hg)
end
abbrev hovC (s : Value) : List Value := [.pointer none, s, .slice none 0 0, .int .i32 0, .int .u8 0, .bool false]
abbrev ampC (nb : Nat) : List Value := [.pointer none, .slice none 0 0, .slice (some ⟨nb, 0, none⟩) 1 1, .int .i32 0, .int .u8 0, .bool false]
/-- the '&' put ahead of the compound -/
structure StB (w W : World) (P : Nat → Prop) (sb b : Nat) (l : Int) (cb : Nat) (g c nb ub sc : Nat) : Prop where
  st : StS w W sb b l cb (.slice (some ⟨g, 0, none⟩) 2 c)
  hg : w.heap.size + 1 + 1 < g ∧ g < W.heap.size
  hnb : w.heap.size + 1 + 1 < nb ∧ W.heap[nb]? = some (.cells #[.int .i32 l] 37 (0, 0))
  amp : ∀ j v, (ampC nb)[j]? = some v → W.cell? ⟨g, j, none⟩ = some v
  hov : ∀ j v, (hovC (.slice (some ⟨ub, 0, none⟩) 1 sc))[j]? = some v → W.cell? ⟨g, 6 + j, none⟩ = some v
  row : RowL HovT W P (.slice (some ⟨ub, 0, none⟩) 1 sc) [()]
structure Sl1 (w W4 : World) (P : Nat → Prop) (sb b : Nat) (l : Int) (cb : Nat) (g : Nat) (v : Value) (wx : World) : Prop where
  ex : (g = 1 ∧ v = .int .i64 0 ∧ W4 = wx) ∨ (g = 0 ∧ v = .int .i64 1 ∧ ∃ q c nb ub sc, StB w wx P sb b l cb q c nb ub sc)
/-- the compounds joined -/
structure StC (w W : World) (S P : Nat → Prop) (sb b : Nat) (l : Int) (cb m : Nat) (u : Value) : Prop where
  st : StS w W sb b l cb u
  shape : ∃ a c, u = .slice a (m + 1) c ∧ m + 1 ≤ c
  row : RowL CpH W (fun g => S g ∨ P g ∨ w.heap.size + 1 + 1 < g) u (us (m + 1))
structure Sl2 (w W8 : World) (S P : Nat → Prop) (sb b : Nat) (l : Int) (cb m : Nat) (g : Nat) (v : Value) (wx : World) : Prop where
  ex : (g = 1 ∧ v = .int .i64 0 ∧ W8 = wx) ∨ (g = 0 ∧ v = .int .i64 1 ∧ ∃ u, StC w wx S P sb b l cb m u)
/-- the compounds joined one by one, in the row that began at block N -/
structure Sl3 (w W : World) (S P : Nat → Prop) (N m : Nat) (g : Nat) (v14 v131 : Value) (wx : World) : Prop where
  ex : (g = 2 ∧ v131 = .int .i64 0 ∧ v14 = .slice (some ⟨N, 0, none⟩) 0 2 ∧ W = wx) ∨
    (g = 1 ∧ v131 = .int .i64 1 ∧ W.grownBy wx (some N) ∧ (∀ q, v14.ownBlock = some q → q = N ∨ W.heap.size ≤ q) ∧ ∃ news, wx.ownsRow 0 134 6 v14 m news ∧ ∀ i, i < m → CpH.E wx (fun q => (S q ∨ w.heap.size + 1 + 1 < q) ∧ some q ≠ v14.ownBlock) (fun t => news[i * 6 + t]?) ()) ∨
    (g = 0 ∧ v131 = .int .i64 2 ∧ W.grownBy wx (some N) ∧ (∀ q, v14.ownBlock = some q → q = N ∨ W.heap.size ≤ q) ∧ ∃ xs, wx.ownsRow 0 134 6 v14 (m + 1) xs ∧ ∀ i, i < m + 1 → CpH.E wx (fun q => S q ∨ P q ∨ w.heap.size + 1 + 1 < q) (fun t => xs[i * 6 + t]?) ())
theorem row_of_own {wx : World} {P : Nat → Prop} {v : Value} {k : Nat} {xs : List Value} (h : wx.ownsRow 0 134 6 v k xs) (hE : ∀ i, i < k → CpH.E wx P (fun t => xs[i * 6 + t]?) ()) (hP : ∀ g, v.ownBlock = some g → P g) : RowL CpH wx P v (us k) := by
  have ho2 := h.2
  rcases ho2 with ⟨e, h0⟩ | ⟨g, cap, cur, rfl, _⟩
  · subst h0
    subst e
    exact RowL.nil _ _ _ _
  · refine ⟨_, cap, by simp, fun i hi => ⟨g, rfl, hP g rfl, (h.lt g rfl).2, ?_⟩⟩
    have hi' : i < k := by simpa using hi
    exact CpH.loc (fun t ht => (World.ownsRow.cellAt h (i * 6 + t) (by have := h.1; omega)).symm) (hE i hi')
/-- the row of '&' and the compound -/
theorem StB.made {w W W2 W3 : World} {P : Nat → Prop} {sb b : Nat} {l : Int} {cb : Nat} {u0 v : Value} {ub sc : Nat} {ys : List Value} (h : StS w W sb b l cb u0) (hsb : sb < w.heap.size) (hP : ∀ g, P g → g < w.heap.size ∧ g ≠ sb) (hb2 : Below W.heap.size W W2) (hn2 : W2.heap[W.heap.size]? = some (.cells #[.int .i32 l] 37 (0, 0))) (hs2 : W2.heap.size = W.heap.size + 2)
    (ho : W3.ownsRow 0 134 6 v 2 (ampC W.heap.size ++ ys)) (hg : W2.grownBy W3 (some (W.heap.size + 1))) (hat : ∀ q, v.ownBlock = some q → W.heap.size < q)
    (hy : ∀ j, j < 6 → ys[j]? = (hovC (.slice (some ⟨ub, 0, none⟩) 1 sc))[j]?) (hr : RowL HovT W P (.slice (some ⟨ub, 0, none⟩) 1 sc) [()]) :
    ∃ g c, v = .slice (some ⟨g, 0, none⟩) 2 c ∧ StB w (W3.setCell ⟨sb, 0, none⟩ v) P sb b l cb g c W.heap.size ub sc := by
  have hfs := h.fr.size
  have hb6 := heap_lt h.b6
  have hg3 := hg.size
  have hbs := hb2.size
  have ho2 := ho.2
  rcases ho2 with ⟨e, h0⟩ | ⟨g, cap, cur, rfl, _⟩
  · cases h0
  · have hgt := hat g rfl
    have hgl := (ho.lt g rfl).2
    have k3 : ∀ q, q < W.heap.size → W3.heap[q]? = W.heap[q]? := fun q hq => (hg.block q (by omega) (fun e => by have := Option.some.inj e; omega)).trans (hb2.block q hq)
    have k : ∀ q, q ≠ sb → (W3.setCell ⟨sb, 0, none⟩ (.slice (some ⟨g, 0, none⟩) 2 cap)).heap[q]? = W3.heap[q]? := fun q hq => hother _ _ _ hq
    have hz : (W3.setCell ⟨sb, 0, none⟩ (.slice (some ⟨g, 0, none⟩) 2 cap)).heap.size = W3.heap.size := by simp [World.setCell]
    have hcell : ∀ j, j < 12 → (W3.setCell ⟨sb, 0, none⟩ (.slice (some ⟨g, 0, none⟩) 2 cap)).cell? ⟨g, j, none⟩ = (ampC W.heap.size ++ ys)[j]? := fun j hj => by
      rw [World.cell?_of_block (a := ⟨g, j, none⟩) (k g (by omega))]
      exact World.ownsRow.cellAt ho j (by have := ho.1; omega)
    refine ⟨g, cap, rfl, ⟨((h.below hsb hb2).grown hsb hg (fun q e => by have := Option.some.inj e; omega)).set hsb _, ⟨by omega, by omega⟩, ⟨by omega, ?_⟩, fun j v hv => ?_, fun j v hv => ?_, ?_⟩⟩
    · exact (k _ (by omega)).trans ((hg.block _ (by omega) (fun e => by have := Option.some.inj e; omega)).trans hn2)
    · have hj : j < 6 := (List.getElem?_eq_some_iff.1 hv).1
      rw [hcell j (by omega), List.getElem?_append_left (by simpa using hj)]
      exact hv
    · have hj : j < 6 := (List.getElem?_eq_some_iff.1 hv).1
      rw [hcell (6 + j) (by omega), List.getElem?_append_right (by simp)]
      have e : 6 + j - (ampC W.heap.size).length = j := by simp
      rw [e, hy j hj]
      exact hv
    · exact hr.keep ⟨by omega, fun q hq hl => (k q (hP q hq).2).trans (k3 q hl), fun q hq _ => hq⟩
/-- the '&' done -/
theorem Sl3.one {w W W2 wx : World} {S P : Nat → Prop} {N m : Nat} {v : Value} {news : List Value} (hb : Below W.heap.size W W2) (hle : w.heap.size + 1 + 1 < W2.heap.size) (ho : wx.ownsRow 0 134 6 v m news) (hE : ∀ i, i < m → CpH.E wx (fun g => S g ∨ (W2.heap.size ≤ g ∧ some g ≠ v.ownBlock)) (fun t => news[i * 6 + t]?) ()) (hS : ∀ g, S g → some g ≠ v.ownBlock) (hg : W2.grownBy wx (some N)) (hat : v.ownBlock = some N ∨ ∃ g, v.ownBlock = some g ∧ W2.heap.size ≤ g) : Sl3 w W S P N m 1 v (.int .i64 1) wx := by
  have hbs := hb.size
  refine ⟨Or.inr (Or.inl ⟨rfl, rfl, ⟨hg.os.trans hb.os, hg.tape.trans hb.tape, hg.output.trans hb.output, Nat.le_trans hb.size hg.size, fun g h1 h2 => (hg.block g (by omega) h2).trans (hb.block g h1)⟩, fun q hq => ?_, news, ho, fun i hi => ?_⟩)⟩
  · rcases hat with e | ⟨g, e, h⟩
    · rw [e] at hq; exact Or.inl (Option.some.inj hq).symm
    · rw [e] at hq; have := Option.some.inj hq; exact Or.inr (by omega)
  · exact CpH.keep (P' := fun q => (S q ∨ w.heap.size + 1 + 1 < q) ∧ some q ≠ v.ownBlock) ⟨Nat.le_refl _, fun _ _ _ => rfl, fun g hg _ => by
      rcases hg with h | ⟨h1, h2⟩
      · exact ⟨Or.inl h, hS g h⟩
      · exact ⟨Or.inr (by omega), h2⟩⟩ (hE i hi)
/-- the compound done -/
theorem Sl3.two {w W wx W2 w3 : World} {S P : Nat → Prop} {N m : Nat} {v v3 s : Value} {news : List Value} (hgx : W.grownBy wx (some N)) (hvN : ∀ q, v.ownBlock = some q → q = N ∨ W.heap.size ≤ q) (hb : Below wx.heap.size wx W2) (hE : ∀ i, i < m → CpH.E wx (fun q => (S q ∨ w.heap.size + 1 + 1 < q) ∧ some q ≠ v.ownBlock) (fun t => news[i * 6 + t]?) ()) (hlen : news.length = m * 6) (hs : RowL HovT wx P s [()]) (hPv : ∀ q, P q → some q ≠ v.ownBlock)
    (ho : w3.ownsRow 0 134 6 v3 (m + 1) (news ++ hovC s)) (hg : W2.grownBy w3 v.ownBlock) (hat : v3.ownBlock = v.ownBlock ∨ ∃ g, v3.ownBlock = some g ∧ W2.heap.size ≤ g) : Sl3 w W S P N m 0 v3 (.int .i64 2) w3 := by
  have hbs := hb.size
  have hgs := hg.size
  have hgxs := hgx.size
  have hk : ∀ q, some q ≠ v.ownBlock → q < wx.heap.size → w3.heap[q]? = wx.heap[q]? := fun q h1 h2 => (hg.block q (by omega) h1).trans (hb.block q h2)
  refine ⟨Or.inr (Or.inr ⟨rfl, rfl, ⟨hg.os.trans (hb.os.trans hgx.os), hg.tape.trans (hb.tape.trans hgx.tape), hg.output.trans (hb.output.trans hgx.output), by omega, fun g h1 h2 => ?_⟩, fun q hq => ?_, _, ho, fun i hi => ?_⟩)⟩
  · by_cases e : some g = v.ownBlock
    · rcases hvN g e.symm with q | q
      · exact absurd (by rw [q]) h2
      · omega
    · exact (hk g e (by omega)).trans (hgx.block g h1 h2)
  · rcases hat with e | ⟨g, e, h⟩
    · rw [e] at hq; exact hvN q hq
    · rw [e] at hq; have := Option.some.inj hq; exact Or.inr (by omega)
  · by_cases e : i = m
    · subst e
      have hat : ∀ t, t < 6 → (news ++ hovC s)[i * 6 + t]? = (hovC s)[t]? := fun t _ => by
        rw [List.getElem?_append_right (by omega), hlen, Nat.add_sub_cancel_left]
      have hs3 : RowL HovT w3 (fun q => S q ∨ P q ∨ w.heap.size + 1 + 1 < q) s [()] := hs.keep ⟨by omega, fun q hq hl => hk q (hPv q hq) hl, fun q hq _ => Or.inr (Or.inl hq)⟩
      exact ⟨hat 0 (by omega), ⟨s, hat 1 (by omega), hs3⟩, hat 2 (by omega), hat 3 (by omega), hat 4 (by omega), hat 5 (by omega)⟩
    · refine CpH.loc (fun t ht => ?_) (CpH.keep (w' := w3) (P' := fun q => S q ∨ P q ∨ w.heap.size + 1 + 1 < q) ⟨by omega, fun q hq hl => hk q hq.2 hl, fun q hq _ => hq.1.imp id Or.inr⟩ (hE i (by omega)))
      show news[i * 6 + t]? = (news ++ hovC s)[i * 6 + t]?
      rw [List.getElem?_append_left (by omega)]
theorem StB.grown {w W W' : World} {P : Nat → Prop} {sb b : Nat} {l : Int} {cb g c nb ub sc : Nat} (h : StB w W P sb b l cb g c nb ub sc) (hsb : sb < w.heap.size) (hP : ∀ g, P g → g < w.heap.size ∧ g ≠ sb) {row : Option Nat} (hg : W.grownBy W' row) (hr : ∀ q, row = some q → w.heap.size + 1 + 1 < q ∧ q ≠ g ∧ q ≠ nb) : StB w W' P sb b l cb g c nb ub sc := by
  have k : ∀ q, some q ≠ row → q < W.heap.size → W'.heap[q]? = W.heap[q]? := fun q h1 h2 => hg.block q h2 h1
  have hne : some g ≠ row := fun e => (hr g e.symm).2.1 rfl
  have hnn : some nb ≠ row := fun e => (hr nb e.symm).2.2 rfl
  have hgs := hg.size
  refine ⟨h.st.grown hsb hg (fun q e => (hr q e).1), ⟨h.hg.1, by have := h.hg.2; omega⟩, ⟨h.hnb.1, (k nb hnn (heap_lt h.hnb.2)).trans h.hnb.2⟩, fun j v hv => (cellLow (k g hne h.hg.2) j).trans (h.amp j v hv), fun j v hv => (cellLow (k g hne h.hg.2) _).trans (h.hov j v hv), h.row.keep ⟨hgs, fun q hq hl => k q (fun e => ?_) hl, fun q hq _ => hq⟩⟩
  have := (hr q e.symm).1
  have := (hP q hq).1
  omega
theorem StB.below {w W W' : World} {P : Nat → Prop} {sb b : Nat} {l : Int} {cb g c nb ub sc : Nat} (h : StB w W P sb b l cb g c nb ub sc) (hsb : sb < w.heap.size) (hP : ∀ g, P g → g < w.heap.size ∧ g ≠ sb) (hb : Below W.heap.size W W') : StB w W' P sb b l cb g c nb ub sc :=
  h.grown hsb hP (row := none) ⟨hb.os, hb.tape, hb.output, hb.size, fun g hg _ => hb.block g hg⟩ (fun _ e => by cases e)
/-- the style rule lowered: the result -/
theorem sty_fin {w W X X' : World} {sb b : Nat} {l : Int} {cb : Nat} {u : Value} {lo mid hi : Nat} {pw pn lw lw' : Value} {n n' : Nat} {S : Nat → Prop} {m pb : Nat} (hC : CtxOK w cb pw pn lw n S m pb) (hOff : Off lo hi cb pb lw S) (h1 : lo ≤ mid) (h2 : mid ≤ b) (h3 : b < hi) (h5 : mid ≤ sb) (h6 : sb < hi) (hst : StS w W sb b l cb u) (hX : Below W.heap.size W X)
    (hF : FrM (fun g => (lo ≤ g ∧ g < mid) ∨ g = b ∨ g = sb ∨ lw.ownBlock = some g) X X') (hown : OwnRu X' lw' n') (hG : OwnG X lw lw') :
    let WB := ((X'.setCell ⟨cb, 2, none⟩ lw').setCell ⟨w.heap.size + 1 + 1, 0, none⟩ .nilIface).setCell ⟨w.heap.size + 1 + 1, 1, none⟩ (.int .i32 0)
    CtxOK WB cb pw pn lw' n' S m pb ∧ FrM (Mod lo hi cb lw) w WB ∧ OwnG w lw lw' := by
  intro WB
  have s1 := hst.fr.size
  have s2 := hX.size
  have s3 := hF.size
  have hcl := heap_lt hC.cx
  have hb6 := heap_lt hst.b6
  have k3 : ∀ g, g < w.heap.size → ¬ (lo ≤ g ∧ g < hi) → some g ≠ lw.ownBlock → X'.heap[g]? = w.heap[g]? := fun g q1 q2 q3 => (hF.block g (by omega) (by
    rintro (q | q | q | q)
    · omega
    · omega
    · omega
    · exact q3 q.symm)).trans ((hX.block g (by omega)).trans (hst.fr.block g q1 (by omega)))
  have k : ∀ g, g ≠ cb → g ≠ w.heap.size + 1 + 1 → WB.heap[g]? = X'.heap[g]? := fun g h1 h2 => (set2o _ 0 _ _ h2).trans (hother _ _ _ h1)
  have hz : WB.heap.size = X'.heap.size := by simp [WB, World.setCell]
  have o1 := os_set X' ⟨cb, 2, none⟩ lw'
  have o2 := os_set (X'.setCell ⟨cb, 2, none⟩ lw') ⟨w.heap.size + 1 + 1, 0, none⟩ .nilIface
  have o3 := os_set ((X'.setCell ⟨cb, 2, none⟩ lw').setCell ⟨w.heap.size + 1 + 1, 0, none⟩ .nilIface) ⟨w.heap.size + 1 + 1, 1, none⟩ (.int .i32 0)
  have hcbo : some cb ≠ lw.ownBlock := fun e => by
    obtain ⟨xs, ho, _⟩ := hC.own
    obtain ⟨cur, q⟩ := own_type ho e.symm
    rw [hC.cx] at q
    injection q with q
    injection q with _ q _
    exact absurd q (by decide)
  have hpbo : some pb ≠ lw.ownBlock := fun e => by
    obtain ⟨xs, ho, _⟩ := hC.own
    obtain ⟨cur, q⟩ := own_type ho e.symm
    obtain ⟨arr, p1, _⟩ := hC.par.ex
    rw [p1] at q
    injection q with q
    injection q with _ q _
    exact absurd q (by decide)
  have hpbc : pb ≠ cb := by
    rintro rfl
    obtain ⟨arr, p1, _⟩ := hC.par.ex
    rw [hC.cx] at p1
    injection p1 with p1
    injection p1 with _ p1 _
    exact absurd p1 (by decide)
  have hG' : OwnG w lw lw' := hG.imp id fun ⟨g, e, hq⟩ => ⟨g, e, by omega⟩
  have hFF : FrM (Mod lo hi cb lw) w WB := ⟨o3.1.trans (o2.1.trans (o1.1.trans (hF.os.trans (hX.os.trans hst.fr.os)))), o3.2.1.trans (o2.2.1.trans (o1.2.1.trans (hF.tape.trans (hX.tape.trans hst.fr.tape)))), o3.2.2.trans (o2.2.2.trans (o1.2.2.trans (hF.output.trans (hX.output.trans hst.fr.output)))), by omega, fun g q1 q2 => (k g (fun e => q2 (Or.inr (Or.inl e))) (by omega)).trans (k3 g q1 (fun q => q2 (Or.inl q)) (fun e => q2 (Or.inr (Or.inr e.symm))))⟩
  refine ⟨hC.step hFF (fun g hg q => ?_) ?_ ?_ hG', hFF, hG'⟩
  · rcases hg with hg | rfl
    · obtain ⟨a1, a2, a3⟩ := hC.sS g hg
      have := hOff.2.2.2 g hg
      rcases q with q | q | q
      · omega
      · exact a2 q
      · exact a3 q.symm
    · have := hOff.2.1
      rcases q with q | q | q
      · omega
      · exact hpbc q
      · exact hpbo q.symm
  · refine (set2o _ 0 _ _ (by omega)).trans ?_
    exact hset ((k3 cb hcl (by have := hOff.1; omega) hcbo).trans hC.cx) 2 lw'
  · obtain ⟨ys, ho, hy⟩ := hown
    refine ⟨ys, own_keep ho (fun g hg => k g ?_ ?_), hy⟩
    · rintro rfl
      rcases hG with e | ⟨g', e, hq⟩
      · exact hcbo (hg.symm.trans e)
      · rw [e] at hg; have := Option.some.inj hg; omega
    · rintro rfl
      rcases hG with e | ⟨g', e, hq⟩
      · have := hC.ownlt (e.symm.trans hg); omega
      · rw [e] at hg; have := Option.some.inj hg; omega
/-- what the lowering asks, at the rule with its selectors replaced -/
theorem sty_ask {d : Nat} {kids : List Tr} {w W X : World} {sb b sc : Nat} {l : Int} {cb : Nat} {u : Value} {lo mid hi : Nat} {rs x pw pn lw : Value} {n : Nat} {S P : Nat → Prop} {m pb : Nat} (hP : P = fun g => mid ≤ g ∧ g < hi ∧ g ≠ sb ∧ g ≠ b) (h1 : lo ≤ mid) (h2 : mid ≤ b) (h3 : b < hi) (h4 : hi ≤ w.heap.size) (hb : w.heap[b]? = some (.cells #[.slice (some ⟨sb, 0, none⟩) 1 sc, rs, x] 114 (0, 0))) (hbs : b ≠ sb) (h5 : mid ≤ sb) (h6 : sb < hi) (hk : KidsR (fun lo hi => InT d w lo hi) w lo mid rs kids) (hC : CtxOK w cb pw pn lw n S m pb) (hOff : Off lo hi cb pb lw S) (hmd : m + 1 + d ≤ 10000) (hnn : n + 1 + cntTL d kids ≤ 1000000)
    (h : StC w W S P sb b l cb m u) (hX : Below W.heap.size W X) : LowH d kids X lo mid b sb sc (m + 1) x rs u (fun g => (S g ∨ P g ∨ w.heap.size + 1 + 1 < g) ∧ g < X.heap.size) lw n pb := by
  have s1 := h.st.fr.size
  have s2 := hX.size
  have k : ∀ g, g < w.heap.size → g ≠ sb → X.heap[g]? = w.heap[g]? := fun g q1 q2 => (hX.block g (by omega)).trans (h.st.fr.block g q1 q2)
  have hCX : CtxOK X cb pw pn lw n S m pb := (h.st.ok hC (fun g hg => by have := hOff.out hg; omega)).below hX
  refine ⟨(k b (heap_lt hb) hbs).trans hb, (hX.block _ (heap_lt h.st.hs)).trans h.st.hs, h.row.keep ⟨s2, fun g _ hl => hX.block g hl, fun g hg hl => ⟨hg, by omega⟩⟩, by omega, ?_, ?_, by omega, hCX.own, hCX.par, Or.inr h2, Or.inr h5, hOff.2.1.imp id (fun q => by omega), fun g hg => (hOff.2.2.1 g hg).imp id (fun q => by omega), fun g hg => ?_, by omega, hnn⟩
  · obtain ⟨rb, cap, arr, e, q1, q2, q3, q4, q5, q6⟩ := hk
    exact ⟨rb, cap, arr, e, q1, q2, q3, (k rb (by omega) (by omega)).trans q4, q5, q6.keep kids (rb + 1) mid 0 lo mid (by omega) (Nat.le_refl _) (fun lo2 hi2 v t a1 a2 a3 => InT.keep d lo2 hi2 v t (by omega) (fun g g1 g2 => k g (by omega) (by omega)) a3)⟩
  · obtain ⟨rb, cap, arr, e, q1, q2, q3, q4, q5, q6⟩ := hk
    have := q6.len
    omega
  · obtain ⟨hg, hl⟩ := hg
    have hown : ∀ g, lw.ownBlock = some g → g < w.heap.size ∧ (g < lo ∨ hi ≤ g) := fun g hg => ⟨hC.ownlt hg, hOff.2.2.1 g hg⟩
    rcases hg with hg | hg | hg
    · have := hC.sS g hg
      have := hOff.2.2.2 g hg
      exact ⟨hl, by omega, by omega, (hC.sS g hg).2.2, by omega⟩
    · rw [hP] at hg
      obtain ⟨p1, p2, p3, p4⟩ := hg
      exact ⟨hl, p4, p3, fun e => by have := (hown g e.symm).2; omega, Or.inr p1⟩
    · exact ⟨hl, by omega, by omega, fun e => by have := (hown g e.symm).1; omega, Or.inr (by omega)⟩
structure StyR (k : Nat) (w X : World) (lo mid b sb cb : Nat) (lw : Value) (n : Nat) (p : Option Addr × Nat × Nat × World) : Prop where
  facts : p.2.2.2.cell? ⟨w.heap.size + 1, 0, none⟩ = some (.pointer (some ⟨cb, 0, none⟩)) ∧ w.heap.size + 1 < p.2.2.2.heap.size ∧ p.2.2.2.cell? ⟨cb, 2, none⟩ = some lw ∧ p.2.2.2.frozen? ⟨cb, 2, none⟩ = false ∧ cb < p.2.2.2.heap.size
  n1 : n ≤ p.2.1
  n2 : p.2.1 ≤ n + (1 + k)
  own : OwnRu p.2.2.2 (.slice p.1 p.2.1 p.2.2.1) p.2.1
  fr : FrM (fun g => (lo ≤ g ∧ g < mid) ∨ g = b ∨ g = sb ∨ lw.ownBlock = some g) X p.2.2.2
  og : OwnG X lw (.slice p.1 p.2.1 p.2.2.1)
theorem sty_facts {w W X X' : World} {sb b : Nat} {l : Int} {cb : Nat} {u : Value} {lo mid hi : Nat} {pw pn lw : Value} {n : Nat} {S : Nat → Prop} {m pb : Nat} (hC : CtxOK w cb pw pn lw n S m pb) (hOff : Off lo hi cb pb lw S) (h1 : lo ≤ mid) (h2 : mid ≤ b) (h3 : b < hi) (h4 : hi ≤ w.heap.size) (h5 : mid ≤ sb) (h6 : sb < hi) (hst : StS w W sb b l cb u) (hX : Below W.heap.size W X)
    (hF : FrM (fun g => (lo ≤ g ∧ g < mid) ∨ g = b ∨ g = sb ∨ lw.ownBlock = some g) X X') : X'.cell? ⟨w.heap.size + 1, 0, none⟩ = some (.pointer (some ⟨cb, 0, none⟩)) ∧ w.heap.size + 1 < X'.heap.size ∧ X'.cell? ⟨cb, 2, none⟩ = some lw ∧ X'.frozen? ⟨cb, 2, none⟩ = false ∧ cb < X'.heap.size ∧ X'.cell? ⟨w.heap.size + 1 + 1, 0, none⟩ = some .nilIface ∧ X'.cell? ⟨w.heap.size + 1 + 1, 1, none⟩ = some (.int .i32 0) ∧ X'.frozen? ⟨w.heap.size + 1 + 1, 0, none⟩ = false ∧ X'.frozen? ⟨w.heap.size + 1 + 1, 1, none⟩ = false ∧ w.heap.size + 1 + 1 < X'.heap.size := by
  have s1 := hst.fr.size
  have s2 := hX.size
  have s3 := hF.size
  have hcl := heap_lt hC.cx
  have hcbo : some cb ≠ lw.ownBlock := fun e => by
    obtain ⟨xs, ho, _⟩ := hC.own
    obtain ⟨cur, q⟩ := own_type ho e.symm
    rw [hC.cx] at q
    injection q with q
    injection q with _ q _
    exact absurd q (by decide)
  have hold : ∀ g, w.heap.size ≤ g → g < W.heap.size → X'.heap[g]? = W.heap[g]? := fun g q1 q2 => (hF.block g (by omega) (by
    rintro (q | q | q | q)
    · omega
    · omega
    · omega
    · have := hC.ownlt q; omega)).trans (hX.block g q2)
  have e5 := (hold _ (by omega) (heap_lt hst.b5)).trans hst.b5
  have e6 := (hold _ (by omega) (heap_lt hst.b6)).trans hst.b6
  have ec := ((hF.block cb (by omega) (by
    have := hOff.1
    rintro (q | q | q | q)
    · omega
    · omega
    · omega
    · exact hcbo q.symm)).trans ((hX.block cb (by omega)).trans (hst.fr.block cb hcl (by have := hOff.1; omega)))).trans hC.cx
  exact ⟨(hcell e5 0 _ rfl).1, heap_lt e5, (hcell ec 2 _ rfl).1, (hcell ec 2 _ rfl).2, heap_lt ec, (hcell e6 0 _ rfl).1, (hcell e6 1 _ rfl).1, (hcell e6 0 _ rfl).2, (hcell e6 1 _ rfl).2, heap_lt e6⟩
end Go.Proofs.YtjebnjjhdefejaaGreatFmt
