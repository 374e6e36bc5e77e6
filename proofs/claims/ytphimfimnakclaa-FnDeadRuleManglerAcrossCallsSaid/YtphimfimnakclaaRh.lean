/-
  The rules as they were built; a fresh remover; the rules copied. Conditions: each theorem's own.
-/
import Derived.Test.YtphimfimnakclaaRg
namespace Go.Proofs.Ytphimfimnakclaa
open Go.RowKit Go.Lib Go.ChangeMaps
open Go.Maps (Keyed IsMap)
theorem RuAt.of {D P : Nat → Prop} {w : World} {c : Cells} {m : Int × Rl} (h : RuT.E w P c m) (hD : ∀ g, P g → g < w.heap.size → D g) (hg : Good m.2) : RuAt D w c m := by
  obtain ⟨e1, b, s, e0, hp, hb, hh, hr⟩ := h
  exact ⟨b, e0, e1, ⟨hD b hp hb, hb, s, hh, hr.keep (Keep.weak w hD)⟩, hg⟩
/-- the rules as they were built -/
theorem St3.rul {B : Nat} {v1 v2 v3 : Value} {rs : List Rl} {w : World} {D : Nat → Prop} (h : St3 B v1 v2 v3 rs w) (hg : ∀ r ∈ rs, Good r) (hD : ∀ g, F3 B v1 v2 v3 w g → g < w.heap.size → D g) (hn : ∀ g, v1.ownBlock = some g → ¬ D g) (X : Nat) (hX : ¬ D X) :
    ∃ a kc Rb, v1 = .slice a rs.length kc ∧ rs.length ≤ kc ∧ (0 < rs.length → a = some ⟨Rb, 0, none⟩ ∧ Rb < w.heap.size ∧ v1.ownBlock = some Rb) ∧ ((B ≤ Rb ∧ Rb < w.heap.size) ∨ Rb = X) ∧ Rul D Rb rs.length (locd rs) rs.length [] w := by
  obtain ⟨xs, hbo, hlen, hE⟩ := h.rows
  obtain ⟨ys, ho, hy⟩ := hbo.own
  have ho2 := ho.2
  rcases ho2 with ⟨hv, h0⟩ | ⟨g, cap, cur, hv, hB, hh, hc, h1, h2, h3⟩
  · refine ⟨none, 0, X, by rw [hv, ← hlen, h0], by omega, (fun h => by omega), Or.inr rfl, ⟨by simp [locd], by simp, hX, fun h => by omega⟩⟩
  · rw [hlen] at hv hc
    have hown : v1.ownBlock = some g := by rw [hv]; rfl
    have hcell : ∀ j, j < xs.length * 2 → cur[j]? = ys[j]? := fun j hj => by
      have hr := ho
      rw [hv, ← hlen] at hr
      have := World.ownsRow.cellAt hr j hj
      simpa [World.cell?, hh] using this
    refine ⟨_, cap, g, hv, hc, fun _ => ⟨rfl, heap_lt hh, hown⟩, Or.inl ⟨hB, heap_lt hh⟩, ⟨by simp [locd], by simp, hn g hown, fun hpos => ⟨cur, hh, ?_, fun j hj _ => ?_, fun j hj => by simp at hj⟩⟩⟩
    · rcases Nat.lt_or_ge cur.size (rs.length * 2) with hlt | hge
      · have e := hcell cur.size (by omega)
        rw [Array.getElem?_eq_none (Nat.le_refl _)] at e
        have hy2 := ho.1
        rw [List.getElem?_eq_getElem (by omega)] at e
        cases e
      · exact hge
    · have hj' : j < rs.length := by simpa [locd] using hj
      have hm : (locd rs)[j] = ((j : Int), rs[j]) := by simp [locd]
      rw [hm]
      have e := hE j (by omega) hj'
      refine (RuAt.of e hD (hg _ (List.getElem_mem hj'))).loc ?_ ?_
      · show cur[j * 2 + 0]? = _
        rw [hcell _ (by omega)]
        exact hy j (by omega) 0 (by omega)
      · show cur[j * 2 + 1]? = _
        rw [hcell _ (by omega)]
        exact hy j (by omega) 1 (by omega)
theorem Rem.new {D : Nat → Prop} {B mb rb : Nat} {w : World} (hm : w.heap[mb]? = some (.map #[] 0)) (hr : w.heap[rb]? = some (.cells #[.map (some mb), .slice none 0 0, .slice none 0 0, .slice none 0 0, .slice none 0 0, .int .u32 0, .int .u32 0] 39 (0, 0))) (h1 : B ≤ mb) (h2 : B ≤ rb) (hd : ∀ g, D g → g < B) :
    ∃ G, Rem D B rb [] G w ∧ G.cs.length = 0 := by
  have hB : B ≤ w.heap.size := Nat.le_trans h2 (Nat.le_of_lt (heap_lt hr))
  obtain ⟨es, clock, hh, F, g1, g2⟩ := World.ownsMap_made w Try.prog 35 heldR
  rw [heap_alloc_new] at hh
  injection hh with hh
  injection hh with e1 e2
  subst e1 e2
  refine ⟨⟨mb, .slice none 0 0, [], fun _ => .slice none 0 0, fun _ => [], .map [], 0⟩, ?_, rfl⟩
  exact {
    hb := ⟨_, _, _, _, _, hr⟩
    rge := h2
    mge := h1
    mp := ⟨#[], 0, hm, F, g1, g2⟩
    im := Maps.isMap_empty
    nle := Nat.le_refl _
    at' := fun h _ => rfl
    bo := fun h _ => BO.nil (PT 2) 74 B w hB
    ne := fun h h' _ _ _ g hg => by cases hg
    dat := fun h _ x hx => by cases hx
    mod := fun h _ r => ⟨fun ⟨x, hx, _⟩ => by (cases hx), fun ⟨hx, _⟩ => by (cases hx)⟩
    len := fun h _ => Nat.le_refl _
    co := BO.nil (PT 2) 62 B w hB
    dlt := hd }
theorem OutR.locs {D : Nat → Prop} {Rb : Nat} {w : World} {a : Option Addr} {out : List (Int × Rl)} (h : OutR D Rb w a out) : Locs w a (out.map Prod.fst) := fun j hj => by
  have hj' : j < out.length := by simpa using hj
  obtain ⟨o, ha, b, c0, c1, hd, hg⟩ := h j hj'
  refine ⟨Rb, o, ha, ?_, by simpa using c1⟩
  rcases Nat.lt_or_ge Rb w.heap.size with h | h
  · exact h
  · have c0' : w.cell? ⟨Rb, o + j * 2 + 0, none⟩ = _ := c0
    unfold World.cell? at c0'
    rw [Array.getElem?_eq_none h] at c0'
    cases c0'
theorem addO (b o k : Nat) : (⟨b, o, none⟩ : Addr).add k = ⟨b, o + k, none⟩ := by cases k <;> simp [Addr.add]
abbrev zRu : Value := .agg #[.nilIface, .int .i32 0]
theorem mk24 (n : Nat) (hn : n ≤ 2000000) (w : World) : (Instr.makeSlice 24 (.int .i64 (n : Int)) (.int .i64 (n : Int))).run Try.prog w = .ok (.slice (some ⟨w.heap.size, 0, none⟩) n n) (w.alloc (mkO zRu (n * 2) 47)) := by
  obtain ⟨i, hi1, z0, z1, z2⟩ := info_parts info47
  have hb' : (i.bytes : Int) * (n : Int) ≤ 281474976710656 := by
    have h : i.bytes * n ≤ 128 * 2000000 := Nat.mul_le_mul (by omega) hn
    have h2 : ((i.bytes * n : Nat) : Int) ≤ 281474976710656 := by omega
    rwa [Int.natCast_mul] at h2
  have hr := run_make (P := Try.prog) w 24 47 i zRu Try.underlying24 hi1 z0 .i64 .i64 n n (by omega) (by omega) hb' (by omega)
  simp only [Int.toNat_natCast, z1] at hr
  exact hr
/-- the rules copied -/
theorem OutR.copied {D : Nat → Prop} {Rb : Nat} {u : World} {a : Option Addr} {out : List (Int × Rl)} (h : OutR D Rb u a out) (hD : ∀ g, D g → g < u.heap.size) (ty : TypeId) (c : Nat) :
    ∃ w6, (Builtin.copy_ #[24, 24] ty #[.slice (some ⟨u.heap.size, 0, none⟩) out.length out.length, .slice a out.length c]).run Try.prog (u.alloc (mkO zRu (out.length * 2) 47)) = .ok (goInt out.length) w6 ∧ Rul D u.heap.size out.length out out.length [] w6 ∧ Below u.heap.size u w6 ∧ u.heap.size < w6.heap.size := by
  have hb5 : Below u.heap.size u (u.alloc (mkO zRu (out.length * 2) 47)) := (Below.refl _ _).alloc (Nat.le_refl _) _
  have hs5 : (u.alloc (mkO zRu (out.length * 2) 47)).heap.size = u.heap.size + 1 := by simp
  have hA : ¬ D u.heap.size := fun h => by have := hD _ h; omega
  by_cases hL : out.length = 0
  · rw [hL]
    exact ⟨_, run_copy0 _ 24 24 ty 47 _ _ _ _ Try.underlying24 (by kernel_rfl), ⟨hL, by simp, hA, fun h => by omega⟩, by rw [hL] at hb5; exact hb5, by simp⟩
  · obtain ⟨o, rfl, _⟩ := h 0 (by omega)
    have hc : ∀ j (_ : j < out.length), RuAt D u (fun t => u.cell? ⟨Rb, o + j * 2 + t, none⟩) out[j] := fun j hj => by
      obtain ⟨o', e, q⟩ := h j hj
      injection e with e
      injection e with _ e _
      subst e
      exact q
    have hRb : Rb < u.heap.size := by
      obtain ⟨b, c0, _⟩ := hc 0 (by omega)
      rcases Nat.lt_or_ge Rb u.heap.size with h | h
      · exact h
      · have c0' : u.cell? ⟨Rb, o + 0 * 2 + 0, none⟩ = _ := c0
        unfold World.cell? at c0'
        rw [Array.getElem?_eq_none h] at c0'
        cases c0'
    have hall : ∀ j, j < out.length * 2 → ∃ v, u.cell? ⟨Rb, o + j, none⟩ = some v ∧ v.oneCell' = true := fun j hj => by
      obtain ⟨b, c0, c1, _⟩ := hc (j / 2) (by omega)
      rcases Nat.mod_two_eq_zero_or_one j with e | e
      · refine ⟨_, ?_, (rfl : (ifc 63 b).oneCell' = true)⟩
        have e2 : o + j = o + j / 2 * 2 + 0 := by omega
        rw [e2]
        exact c0
      · refine ⟨_, ?_, (rfl : (Value.int .i32 (out[j / 2]'(by omega)).1).oneCell' = true)⟩
        have e2 : o + j = o + j / 2 * 2 + 1 := by omega
        rw [e2]
        exact c1
    obtain ⟨cs, hcs⟩ : ∃ cs, cs = (List.range (out.length * 2)).map fun j => (u.cell? ⟨Rb, o + j, none⟩).getD undef := ⟨_, rfl⟩
    have hcl : cs.length = out.length * 2 := by rw [hcs]; simp
    have hat : ∀ j, j < out.length * 2 → cs[j]? = u.cell? ⟨Rb, o + j, none⟩ := fun j hj => by
      obtain ⟨v, hv, _⟩ := hall j hj
      rw [hcs]
      simp [hj, hv]
    have hlow : ∀ j, (u.alloc (mkO zRu (out.length * 2) 47)).cell? ⟨Rb, o + j, none⟩ = u.cell? ⟨Rb, o + j, none⟩ := fun j => cellLow (Below.heap_alloc _ _ _ hRb) _
    have hnew := heap_alloc_new u (mkO zRu (out.length * 2) 47)
    have hsz : (madeCells zRu.cells (out.length * 2)).size = out.length * 2 := by rw [size_madeCells]
    have hcell : ∀ j, j < cs.length → ∃ v, (u.alloc (mkO zRu (out.length * 2) 47)).cell? ⟨u.heap.size, 0 + j, none⟩ = some v ∧ (u.alloc (mkO zRu (out.length * 2) 47)).frozen? ⟨u.heap.size, 0 + j, none⟩ = false := fun j hj => by
      refine ⟨(madeCells zRu.cells (out.length * 2))[j], hcell hnew _ _ ?_⟩
      rw [Nat.zero_add]
      exact Array.getElem?_eq_getElem (by omega)
    refine ⟨_, run_copy2 _ 24 24 ty 47 _ 0 _ _ _ _ _ _ cs Try.underlying24 (by kernel_rfl) (Nat.min_self _) hcl (fun j v hj => ?_) (fun j hj => ?_) (fun j hj => ?_) (fun v hv => ?_), ?_, ?_, ?_⟩
    · have hj' : j < out.length * 2 := by
        rcases Nat.lt_or_ge j cs.length with h | h
        · omega
        · rw [List.getElem?_eq_none h] at hj; cases hj
      rw [addO, hlow, ← hat j hj']
      exact hj
    · obtain ⟨v, h1, _⟩ := hcell j hj
      rw [h1]
      rfl
    · exact (hcell j hj).choose_spec.2
    · obtain ⟨j, hj, rfl⟩ := List.getElem_of_mem hv
      obtain ⟨v, h1, h2⟩ := hall j (by omega)
      have := hat j (by omega)
      rw [h1, List.getElem?_eq_getElem hj] at this
      injection this with this
      rw [this]
      exact h2
    · obtain ⟨arr', k1, k2, k3, _⟩ := heap_setCells cs 0 _ _ hnew
      refine ⟨rfl, by simp, hA, fun _ => ⟨arr', k1, by rw [k2]; omega, fun j hj _ => ?_, fun j hj => by simp at hj⟩⟩
      have kk : ∀ j, j < out.length * 2 → arr'[j]? = u.cell? ⟨Rb, o + j, none⟩ := fun j hj => by
        have := k3 j (by omega) (by omega)
        rw [Nat.zero_add] at this
        rw [this, ← hat j hj, List.getElem?_eq_getElem (by omega)]
      refine ((hc j hj).loc (c' := fun t => arr'[j * 2 + t]?) ?_ ?_).keep ?_ (fun g hg hl => ?_)
      · show arr'[j * 2 + 0]? = u.cell? _
        rw [kk _ (by omega)]
        congr 1
      · show arr'[j * 2 + 1]? = u.cell? _
        rw [kk _ (by omega)]
        congr 1
      · rw [size_setCells', hs5]; omega
      · exact (other_setCells (by omega) cs 0 _).trans (hb5.block g hl)
    · have e := os_setCells (b := u.heap.size) cs 0 (u.alloc (mkO zRu (out.length * 2) 47))
      exact ⟨e.1.trans hb5.os, e.2.1.trans hb5.tape, e.2.2.trans hb5.output, by rw [size_setCells', hs5]; omega, fun g hg => (other_setCells (by omega) cs 0 _).trans (hb5.block g hg)⟩
    · rw [size_setCells', hs5]; omega
end Go.Proofs.Ytphimfimnakclaa
