/-
  The three rows of the rules, their keys and what is dead. Conditions: each theorem's own.
-/
import Derived.Test.YtphimfimnakclaaQh
namespace Go.Proofs.Ytphimfimnakclaa
open Go.RowKit Go.Lib
abbrev keyR (r : Rl) : List Int := (r.length : Int) :: r.flatMap keyX
abbrev deadR (r : Rl) : Bool := r.all fun cx => cx.any fun m => m.any deadK
abbrev locd (rs : List Rl) : List (Int × Rl) := rs.mapIdx fun i r => ((i : Int), r)
def GoodC (cx : List (List Nat)) : Prop := cx.length ≤ 3 ∧ ∀ m ∈ cx, m.length ≤ 3
def Good (r : Rl) : Prop := r.length ≤ 3 ∧ ∀ cx ∈ r, GoodC cx
theorem keyX_len (cx : List (List Nat)) (h : GoodC cx) : (keyX cx).length ≤ 13 := by
  have h1 := sumL_le cx h.2
  have h2 := flat_len cx
  have h3 := h.1
  rw [List.length_cons, h2]
  omega
theorem keyR_len : ∀ (r : Rl), (∀ cx ∈ r, GoodC cx) → (r.flatMap keyX).length ≤ 13 * r.length
  | [], _ => by simp
  | cx :: l, h => by
    have h1 := keyR_len l (fun x hx => h x (List.mem_cons_of_mem _ hx))
    have h2 := keyX_len cx (h cx (List.mem_cons.2 (Or.inl rfl)))
    have h3 : (cx :: l).length = l.length + 1 := rfl
    have h4 : ((cx :: l).flatMap keyX).length = (keyX cx).length + (l.flatMap keyX).length := by rw [List.flatMap_cons, List.length_append]
    rw [h3, h4]
    omega
theorem info50 : (Try.prog.info? 50).map (fun i => (i.zero, i.size, i.bytes)) = some (some (.slice none 0 0), 1, 24) := by kernel_rfl
theorem info4 : (Try.prog.info? 4).map (fun i => (i.zero, i.size, i.bytes)) = some (some (.bool false), 1, 1) := by kernel_rfl
/-- no block of the three rows, and no row of integers -/
def F3 (B : Nat) (v1 v2 v3 : Value) (w : World) (g : Nat) : Prop := B ≤ g ∧ NT w g ∧ some g ≠ v1.ownBlock ∧ some g ≠ v2.ownBlock ∧ some g ≠ v3.ownBlock
/-- a row of integers -/
def KP (B : Nat) (w : World) (g : Nat) : Prop := B ≤ g ∧ ∃ cur fz, w.heap[g]? = some (.cells cur 3 fz)
structure St3 (B : Nat) (v1 v2 v3 : Value) (rs : List Rl) (w : World) : Prop where
  rows : ∃ xs, BO (PT 2) 47 B v1 xs w ∧ xs.length = rs.length ∧ ∀ i (h : i < xs.length) (h' : i < rs.length), RuT.E w (F3 B v1 v2 v3 w) (fun t => xs[i][t]?) ((i : Int), rs[i])
  keys : ∃ ks, BO (PT 1) 50 B v2 ks w ∧ ks.length = rs.length ∧ ∀ i (h : i < ks.length) (h' : i < rs.length), ∃ s, ks[i] = [s] ∧ RowL IntT w (KP B w) s (keyR rs[i])
  deads : BO (PT 1) 4 B v3 (rs.map fun r => [Value.bool (deadR r)]) w
theorem own_ne {sz sz' : Nat} {α β : Type} {T : Elt α sz} {T' : Elt β sz'} {e e' : TypeId} {B B' : Nat} {v v' : Value} {ms : List α} {ms' : List β} {w : World} (h : BO T e B v ms w) (h' : BO T' e' B' v' ms' w) (hne : e ≠ e') : ∀ g, v.ownBlock = some g → some g ≠ v'.ownBlock := fun g hg q => by
  obtain ⟨c1, hc1⟩ := h.typ g hg
  obtain ⟨c2, hc2⟩ := h'.typ g q.symm
  rw [hc1] at hc2
  injection hc2 with hc2
  injection hc2 with _ hc2
  exact hne hc2
theorem St3.keep {B : Nat} {v1 v2 v3 : Value} {rs : List Rl} {w w' : World} (h : St3 B v1 v2 v3 rs w) (hb : Below w.heap.size w w') : St3 B v1 v2 v3 rs w' := by
  obtain ⟨xs, a1, a2, a3⟩ := h.rows
  obtain ⟨ks, b1, b2, b3⟩ := h.keys
  refine ⟨⟨xs, a1.below hb, a2, fun i q q' => RuT.keep ⟨hb.size, fun g _ hg => hb.block g hg, fun g hp hg => ⟨hp.1, hp.2.1.of (hb.block g hg), hp.2.2⟩⟩ (a3 i q q')⟩, ⟨ks, b1.below hb, b2, fun i q q' => ?_⟩, h.deads.below hb⟩
  obtain ⟨s, e, hr⟩ := b3 i q q'
  refine ⟨s, e, hr.keep ⟨hb.size, fun g _ hg => hb.block g hg, fun g hp hg => ⟨hp.1, ?_⟩⟩⟩
  obtain ⟨cur, fz, hc⟩ := hp.2
  exact ⟨cur, fz, (hb.block g hg).trans hc⟩
theorem BO.lit (x : Int) (w : World) : BO IntT 3 w.heap.size (.slice (some ⟨w.heap.size, 0, none⟩) 1 1) [x] (w.alloc (.cells #[.int .i64 x] 3)) := by
  have o := World.ownsRow_lit (e := 3) (size := 1) w #[.int .i64 x] 1 (Nat.le_refl _) (by unfold maxLen; omega) (by simp)
  exact ⟨by simp, _, o, fun i hi => by
    have : i = 0 := by simp at hi; omega
    subst this
    exact rfl⟩

/-- a rule more: its row, its key, whether it is dead -/
theorem St3.push {B : Nat} {v1 v2 v3 x0 s : Value} {rs : List Rl} {r : Rl} {w : World} (h : St3 B v1 v2 v3 rs w) (hx0 : x0.oneCell' = true) (hs : s.oneCell' = true) (hE : RuT.E w (F3 B v1 v2 v3 w) (fun t => [x0, Value.int .i32 (rs.length : Nat)][t]?) ((rs.length : Int), r)) (hK : RowL IntT w (KP B w) s (keyR r)) (hn : rs.length ≤ 1000000) :
    ∃ (g1 c1 : Nat) (w1 : World) (g2 c2 : Nat) (w2 : World) (g3 c3 : Nat) (w3 : World),
      (Builtin.append_ #[24, 24] 24 #[v1, .slice (some ⟨w.heap.size, 0, none⟩) 1 1]).run Try.prog (w.alloc (.cells #[x0, .int .i32 (rs.length : Nat)] 47)) = .ok (.slice (some ⟨g1, 0, none⟩) (rs.length + 1) c1) w1 ∧
      (Builtin.append_ #[25, 25] 25 #[v2, .slice (some ⟨w1.heap.size, 0, none⟩) 1 1]).run Try.prog (w1.alloc (.cells #[s] 50)) = .ok (.slice (some ⟨g2, 0, none⟩) (rs.length + 1) c2) w2 ∧
      (Builtin.append_ #[26, 26] 26 #[v3, .slice (some ⟨w2.heap.size, 0, none⟩) 1 1]).run Try.prog (w2.alloc (.cells #[.bool (deadR r)] 4)) = .ok (.slice (some ⟨g3, 0, none⟩) (rs.length + 1) c3) w3 ∧
      St3 B (.slice (some ⟨g1, 0, none⟩) (rs.length + 1) c1) (.slice (some ⟨g2, 0, none⟩) (rs.length + 1) c2) (.slice (some ⟨g3, 0, none⟩) (rs.length + 1) c3) (rs ++ [r]) w3 ∧ Below B w w3 := by
  obtain ⟨xs, a1, a2, a3⟩ := h.rows
  obtain ⟨ks, b1, b2, b3⟩ := h.keys
  have d1 := h.deads
  have d2 : (rs.map fun r => [Value.bool (deadR r)]).length = rs.length := by simp
  have hBw := a1.le
  obtain ⟨g1, c1, w1, p1, q1, r1, t1⟩ := a1.app 24 47 _ 24 [x0, .int .i32 (rs.length : Nat)] [x0, .int .i32 (rs.length : Nat)] Try.underlying24 info47 rfl (by decide) (by decide) rfl (by intro u hu; simp at hu; rcases hu with rfl | rfl <;> first | exact hx0 | rfl) (fun t ht => rfl) (by omega)
  have z1 : (w.alloc (.cells [x0, Value.int .i32 (rs.length : Nat)].toArray 47)).heap.size = w.heap.size + 1 := by simp
  have s1 := r1.size
  have k1 : ∀ g, g < w.heap.size → some g ≠ v1.ownBlock → w1.heap[g]? = w.heap[g]? := fun g h1 h2 => (r1.block g (by omega) h2).trans (Below.heap_alloc _ _ _ h1)
  have b1' := b1.keepP (w' := w1) (by omega) (fun g hg => k1 g (b1.ge g hg).2 (own_ne b1 a1 (by decide) g hg))
  have d1' := d1.keepP (w' := w1) (by omega) (fun g hg => k1 g (d1.ge g hg).2 (own_ne d1 a1 (by decide) g hg))
  obtain ⟨g2, c2, w2, p2, q2, r2, t2⟩ := b1'.app 25 50 _ 24 [s] [s] Try.underlying25 info50 rfl (by decide) (by decide) rfl (by intro u hu; simp at hu; rcases hu with rfl; exact hs) (fun t ht => rfl) (by omega)
  have z2 : (w1.alloc (.cells [s].toArray 50)).heap.size = w1.heap.size + 1 := by simp
  have s2 := r2.size
  have k2 : ∀ g, g < w1.heap.size → some g ≠ v2.ownBlock → w2.heap[g]? = w1.heap[g]? := fun g h1 h2 => (r2.block g (by omega) h2).trans (Below.heap_alloc _ _ _ h1)
  have q1' := q1.keepP (w' := w2) (by omega) (fun g hg => k2 g (q1.ge g hg).2 (own_ne q1 b1' (by decide) g hg))
  have d1'' := d1'.keepP (w' := w2) (by omega) (fun g hg => k2 g (d1'.ge g hg).2 (own_ne d1' b1' (by decide) g hg))
  obtain ⟨g3, c3, w3, p3, q3, r3, t3⟩ := d1''.app 26 4 _ 1 [.bool (deadR r)] [.bool (deadR r)] Try.underlying26 info4 rfl (by decide) (by decide) rfl (by intro u hu; simp at hu; rcases hu with rfl; rfl) (fun t ht => rfl) (by omega)
  have z3 : (w2.alloc (.cells [Value.bool (deadR r)].toArray 4)).heap.size = w2.heap.size + 1 := by simp
  have s3 := r3.size
  have k3 : ∀ g, g < w2.heap.size → some g ≠ v3.ownBlock → w3.heap[g]? = w2.heap[g]? := fun g h1 h2 => (r3.block g (by omega) h2).trans (Below.heap_alloc _ _ _ h1)
  have q1'' := q1'.keepP (w' := w3) (by omega) (fun g hg => k3 g (q1'.ge g hg).2 (own_ne q1' d1'' (by decide) g hg))
  have q2' := q2.keepP (w' := w3) (by omega) (fun g hg => k3 g (q2.ge g hg).2 (own_ne q2 d1'' (by decide) g hg))
  rw [a2] at p1 q1''
  rw [b2] at p2 q2'
  rw [d2] at p3 q3
  have kk : ∀ g, g < w.heap.size → some g ≠ v1.ownBlock → some g ≠ v2.ownBlock → some g ≠ v3.ownBlock → w3.heap[g]? = w.heap[g]? := fun g e0 e1 e2 e3 => (k3 g (by omega) e3).trans ((k2 g (by omega) e2).trans (k1 g e0 e1))
  have ge1 := a1.ge
  have ge2 := b1.ge
  have ge3 := d1.ge
  have nw : ∀ g, g < w.heap.size → some g ≠ v1.ownBlock → some g ≠ v2.ownBlock → some g ≠ v3.ownBlock → some g ≠ (Value.slice (some ⟨g1, 0, none⟩) (rs.length + 1) c1).ownBlock ∧ some g ≠ (Value.slice (some ⟨g2, 0, none⟩) (rs.length + 1) c2).ownBlock ∧ some g ≠ (Value.slice (some ⟨g3, 0, none⟩) (rs.length + 1) c3).ownBlock := fun g e0 e1 e2 e3 => ⟨by
    rcases t1 with q | q <;> rw [show (Value.slice (some ⟨g1, 0, none⟩) (rs.length + 1) c1).ownBlock = (Value.slice (some ⟨g1, 0, none⟩) (xs.length + 1) c1).ownBlock from rfl, q]
    · exact e1
    · intro e; injection e with e; omega, by
    rcases t2 with q | q <;> rw [show (Value.slice (some ⟨g2, 0, none⟩) (rs.length + 1) c2).ownBlock = (Value.slice (some ⟨g2, 0, none⟩) (ks.length + 1) c2).ownBlock from rfl, q]
    · exact e2
    · intro e; injection e with e; omega, by
    rcases t3 with q | q <;> rw [show (Value.slice (some ⟨g3, 0, none⟩) (rs.length + 1) c3).ownBlock = (Value.slice (some ⟨g3, 0, none⟩) ((rs.map fun r => [Value.bool (deadR r)]).length + 1) c3).ownBlock from rfl, q]
    · exact e3
    · intro e; injection e with e; omega⟩
  have kF : Keep w w3 (F3 B v1 v2 v3 w) (F3 B (.slice (some ⟨g1, 0, none⟩) (rs.length + 1) c1) (.slice (some ⟨g2, 0, none⟩) (rs.length + 1) c2) (.slice (some ⟨g3, 0, none⟩) (rs.length + 1) c3) w3) :=
    ⟨by omega, fun g hp hg => kk g hg hp.2.2.1 hp.2.2.2.1 hp.2.2.2.2, fun g hp hg => ⟨hp.1, hp.2.1.of (kk g hg hp.2.2.1 hp.2.2.2.1 hp.2.2.2.2), nw g hg hp.2.2.1 hp.2.2.2.1 hp.2.2.2.2⟩⟩
  have no : ∀ g, (∃ cur fz, w.heap[g]? = some (.cells cur 3 fz)) → some g ≠ v1.ownBlock ∧ some g ≠ v2.ownBlock ∧ some g ≠ v3.ownBlock := fun g hg => by
    obtain ⟨cur, fz, hc⟩ := hg
    refine ⟨fun e => ?_, fun e => ?_, fun e => ?_⟩
    · obtain ⟨c2, h2⟩ := a1.typ g e.symm
      rw [hc] at h2; injection h2 with h2; injection h2 with _ h2; exact absurd h2 (by decide)
    · obtain ⟨c2, h2⟩ := b1.typ g e.symm
      rw [hc] at h2; injection h2 with h2; injection h2 with _ h2; exact absurd h2 (by decide)
    · obtain ⟨c2, h2⟩ := d1.typ g e.symm
      rw [hc] at h2; injection h2 with h2; injection h2 with _ h2; exact absurd h2 (by decide)
  have kK : Keep w w3 (KP B w) (KP B w3) :=
    ⟨by omega, fun g hp hg => kk g hg (no g hp.2).1 (no g hp.2).2.1 (no g hp.2).2.2, fun g hp hg => ⟨hp.1, by
      obtain ⟨cur, fz, hc⟩ := hp.2
      exact ⟨cur, fz, (kk g hg (no g hp.2).1 (no g hp.2).2.1 (no g hp.2).2.2).trans hc⟩⟩⟩
  refine ⟨g1, c1, w1, g2, c2, w2, g3, c3, w3, p1, p2, p3, ⟨⟨_, q1'', by simp [a2], fun i hi hi' => ?_⟩, ⟨_, q2', by simp [b2], fun i hi hi' => ?_⟩, by simpa using q3⟩, ⟨r3.os.trans (r2.os.trans r1.os), r3.tape.trans (r2.tape.trans r1.tape), r3.output.trans (r2.output.trans r1.output), by omega, fun g hg => kk g (by omega) (fun e => by have := ge1 g e.symm; omega) (fun e => by have := ge2 g e.symm; omega) (fun e => by have := ge3 g e.symm; omega)⟩⟩
  · by_cases e : i < xs.length
    · rw [List.getElem_append_left e, List.getElem_append_left (by omega)]
      exact RuT.keep kF (a3 i e (by omega))
    · have e2 : i = xs.length := by simp at hi; omega
      subst e2
      rw [show (xs ++ [[x0, Value.int .i32 (rs.length : Nat)]])[xs.length] = [x0, Value.int .i32 (rs.length : Nat)] by simp, show (rs ++ [r])[xs.length] = r by simp [a2]]
      have := RuT.keep kF hE
      rw [← a2] at this ⊢
      exact this
  · by_cases e : i < ks.length
    · rw [List.getElem_append_left e, List.getElem_append_left (by omega)]
      obtain ⟨s', e', hr⟩ := b3 i e (by omega)
      exact ⟨s', e', hr.keep kK⟩
    · have e2 : i = ks.length := by simp at hi; omega
      subst e2
      exact ⟨s, by simp, by rw [show (rs ++ [r])[ks.length] = r by simp [b2]]; exact hK.keep kK⟩
end Go.Proofs.Ytphimfimnakclaa
