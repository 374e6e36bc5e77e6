/-
  The cells of compound selectors. Conditions: each theorem's own.
-/
import Derived.Test.YtjebnjjhdefejaaGreatFmtLf
namespace Go.Proofs.YtjebnjjhdefejaaGreatFmt
open Go.RowKit Go.Lib Go.ChangeMaps
theorem grown_keep {α : Type} {sz : Nat} {T : Elt α sz} {w w' : World} {P P' : Nat → Prop} {sl : Value} {ms : List α} {row : Option Nat} (h : RowL T w P sl ms) (hg : w.grownBy w' row) (hP : ∀ g, P g → some g ≠ row) (hPP : ∀ g, P g → P' g) : RowL T w' P' sl ms :=
  h.keep ⟨hg.size, fun g hp hl => hg.block g hl (hP g hp), fun g hp _ => hPP g hp⟩
/-- the cells of a row of compound selectors -/
theorem cp_cells {w : World} {P : Nat → Prop} {a : Option Addr} {n c m : Nat} (h : RowL CpH w P (.slice a n c) (us m)) (hm : 0 < m) : ∃ (g : Nat) (cs : List Value), a = some ⟨g, 0, none⟩ ∧ P g ∧ g < w.heap.size ∧ cs.length = m * 6 ∧ (∀ j, j < m * 6 → w.cell? ⟨g, j, none⟩ = cs[j]?) ∧ (∀ u ∈ cs, u.oneCell' = true) ∧ ∀ i, i < m → CpH.E w P (fun t => cs[i * 6 + t]?) () := by
  obtain ⟨_, hx⟩ := h.at'
  obtain ⟨g, rfl, hp, hg, _⟩ := hx 0 (by simpa using hm)
  have hE : ∀ i, i < m → CpH.E w P (fun t => w.cell? ⟨g, i * 6 + t, none⟩) () := fun i hi => by
    obtain ⟨g', e, _, _, q⟩ := hx i (by simpa using hi)
    injection e with e
    injection e with e _ _
    subst e
    exact q
  have hall : ∀ j, j < m * 6 → ∃ v, w.cell? ⟨g, j, none⟩ = some v ∧ v.oneCell' = true := fun j hj => by
    obtain ⟨e0, ⟨s, e1, hs⟩, e2, e3, e4, e5⟩ := hE (j / 6) (by omega)
    obtain ⟨ub, b, sc, rfl, _⟩ := hov_at hs
    have hk : j % 6 = 0 ∨ j % 6 = 1 ∨ j % 6 = 2 ∨ j % 6 = 3 ∨ j % 6 = 4 ∨ j % 6 = 5 := by omega
    rcases hk with e | e | e | e | e | e
    · exact ⟨_, by rw [show j = j / 6 * 6 + 0 by omega]; exact e0, rfl⟩
    · exact ⟨_, by rw [show j = j / 6 * 6 + 1 by omega]; exact e1, rfl⟩
    · exact ⟨_, by rw [show j = j / 6 * 6 + 2 by omega]; exact e2, rfl⟩
    · exact ⟨_, by rw [show j = j / 6 * 6 + 3 by omega]; exact e3, rfl⟩
    · exact ⟨_, by rw [show j = j / 6 * 6 + 4 by omega]; exact e4, rfl⟩
    · exact ⟨_, by rw [show j = j / 6 * 6 + 5 by omega]; exact e5, rfl⟩
  have hat : ∀ j, j < m * 6 → ((List.range (m * 6)).map fun j => (w.cell? ⟨g, j, none⟩).getD undef)[j]? = w.cell? ⟨g, j, none⟩ := fun j hj => by
    obtain ⟨v, hv, _⟩ := hall j hj
    simp [hj, hv]
  refine ⟨g, (List.range (m * 6)).map fun j => (w.cell? ⟨g, j, none⟩).getD undef, rfl, hp, hg, by simp, fun j hj => (hat j hj).symm, fun u hu => ?_, fun i hi => ?_⟩
  · obtain ⟨j, hj, rfl⟩ := List.getElem_of_mem hu
    have hj' : j < m * 6 := by simpa using hj
    obtain ⟨v, hv, h1⟩ := hall j hj'
    have := hat j hj'
    rw [hv, List.getElem?_eq_getElem hj] at this
    injection this with this
    rw [this]
    exact h1
  · exact CpH.loc (fun t ht => (hat (i * 6 + t) (by omega)).symm) (hE i hi)
/-- what '&' leaves: the parent's compounds -/
structure AmR (m : Nat) (rv : Value) (P : Nat → Prop) (w : World) (e : Ending) (w' : World) : Prop where
  ex : ∃ v' news, e = .returned v' ∧ w'.ownsRow 0 134 6 v' m news ∧ (∀ i, i < m → CpH.E w' (fun g => P g ∨ (w.heap.size ≤ g ∧ some g ≠ v'.ownBlock)) (fun t => news[i * 6 + t]?) ()) ∧ (∀ g, P g → some g ≠ v'.ownBlock) ∧ w.grownBy w' rv.ownBlock ∧ (v'.ownBlock = rv.ownBlock ∨ ∃ g, v'.ownBlock = some g ∧ w.heap.size ≤ g)
structure Lam (w W : World) (rv nest : Value) (m : Nat) (P : Nat → Prop) (g : Nat) (v3 v30 : Value) (wx : World) : Prop where
  ex : ∃ k, k + g = 1 ∧ v30 = .int .i64 (k : Nat) ∧ (k = 0 → v3 = rv ∧ W = wx) ∧ (k = 1 → ∃ nu nc news, wx.ownsRow 0 134 6 v3 (m - 1) news ∧ (∀ i, i < m - 1 → CpH.E wx P (fun t => news[i * 6 + t]?) ()) ∧ (∀ g, P g → some g ≠ v3.ownBlock) ∧
    wx.heap[w.heap.size]? = some (.cells #[.pointer none, .slice (some ⟨nu, 0, none⟩) 1 nc, nest, .int .i32 0, .int .u8 0, .bool false] 134 (0, 0)) ∧ RowL HovT wx (fun g => P g ∨ (w.heap.size < g ∧ some g ≠ v3.ownBlock)) (.slice (some ⟨nu, 0, none⟩) 1 nc) [()] ∧
    w.grownBy wx rv.ownBlock ∧ (v3.ownBlock = rv.ownBlock ∨ ∃ g, v3.ownBlock = some g ∧ w.heap.size ≤ g) ∧ (∀ g, v3.ownBlock = some g → g ≠ w.heap.size))
theorem app_none (t e : TypeId) (z : Value) (sz b : Nat) (ht : Tryz.prog.underlying t = some (.slice e)) (hi : (Tryz.prog.info? e).map (fun i => (i.zero, i.size, i.bytes)) = some (some z, sz, b)) (a : Option Addr) (n c : Nat) (hnc : n ≤ c) (w : World) : (Builtin.append_ #[t, t] t #[.slice a n c, .slice none 0 0]).run Tryz.prog w = .ok (.slice a n c) w := by
  obtain ⟨i, hi1, z0, z1, z2⟩ := info_parts hi
  cases a <;> simp [Builtin.append_, run_underlying ht, sizeOf, typeInfo, hi1, Builtin.lenOf, Builtin.firstCells, storeCells, hnc]
end Go.Proofs.YtjebnjjhdefejaaGreatFmt
