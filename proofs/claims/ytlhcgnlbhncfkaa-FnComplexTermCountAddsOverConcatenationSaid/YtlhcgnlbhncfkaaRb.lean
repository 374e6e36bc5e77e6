/-
  The contract of the dead-selectors law's maker of a compound selector. Conditions: the shapes of the lists.
-/
import Derived.Test.YtlhcgnlbhncfkaaRa
import Derived.OwnWalk
namespace Go.Proofs.Ytlhcgnlbhncfkaa
open Go.ChangeShapes Go.WideShapes Go.ChangeAt Go.RowKit

theorem info3 : (Try.prog.info? 3).map (fun i => (i.zero, i.size, i.bytes)) = some (some (.int .i64 0), 1, 8) := by kernel_rfl
theorem info72 : (Try.prog.info? 72).map (fun i => (i.zero, i.size, i.bytes)) = some (some (.agg #[.nilIface, .int .i32 0, .int .i32 0]), 3, 24) := by kernel_rfl

/-- the three cells of each of n subclass selectors -/
def SubCells (w : World) (xs : List Value) (n : Nat) (f : Nat → Bool) : Prop :=
  ∀ j, j < n → ∃ T b, xs[j * 3]? = some (.iface T (.pointer (some ⟨b, 0, none⟩))) ∧ xs[j * 3 + 1]? = some (.int .i32 0) ∧ xs[j * 3 + 2]? = some (.int .i32 0) ∧ SubVal w T b (f j)
theorem SubCells.keep {w w' : World} {xs : List Value} {n : Nat} {f : Nat → Bool} (h : SubCells w xs n f) (hk : ∀ T b f, SubVal w T b f → w'.heap[b]? = w.heap[b]?) : SubCells w' xs n f := by
  intro j hj
  obtain ⟨T, b, h0, h1, h2, hv⟩ := h j hj
  exact ⟨T, b, h0, h1, h2, hv.keep (hk _ _ _ hv)⟩
theorem SubCells.snoc {w : World} {xs : List Value} {n : Nat} {f : Nat → Bool} (h : SubCells w xs n f) (hl : xs.length = n * 3) (T : TypeId) (b : Nat) (g : Bool) (hv : SubVal w T b g) :
    SubCells w (xs ++ [.iface T (.pointer (some ⟨b, 0, none⟩)), .int .i32 0, .int .i32 0]) (n + 1) (fun j => if j = n then g else f j) := by
  intro j hj
  by_cases e : j = n
  · subst e
    refine ⟨T, b, ?_, ?_, ?_, by simpa using hv⟩
    · rw [List.getElem?_append_right (by omega), hl]; simp
    · rw [List.getElem?_append_right (by omega), hl, show j * 3 + 1 - j * 3 = 1 by omega]; rfl
    · rw [List.getElem?_append_right (by omega), hl, show j * 3 + 2 - j * 3 = 2 by omega]; rfl
  · obtain ⟨T', b', h0, h1, h2, hv'⟩ := h j (by omega)
    refine ⟨T', b', ?_, ?_, ?_, by simp only [e, if_false]; exact hv'⟩
    · rw [List.getElem?_append_left (by omega)]; exact h0
    · rw [List.getElem?_append_left (by omega)]; exact h1
    · rw [List.getElem?_append_left (by omega)]; exact h2

/-- what the owned block of a row holds -/
theorem own_block {w : World} {base : Nat} {e : TypeId} {size : Nat} {v : Value} {n : Nat} {xs : List Value} (h : w.ownsRow base e size v n xs) : ∀ g, v.ownBlock = some g → ∃ cur, w.heap[g]? = some (.cells cur e (0, 0)) := by
  intro g hg
  rcases h.2 with ⟨rfl, _⟩ | ⟨g', cap, cur, rfl, _, hh, _⟩
  · simp [Value.ownBlock] at hg
  · simp [Value.ownBlock] at hg
    subst hg
    exact ⟨cur, hh⟩
theorem two_own {w : World} {b1 b2 : Nat} {e1 e2 : TypeId} {s1 s2 : Nat} {v1 v2 : Value} {n1 n2 : Nat} {x1 x2 : List Value} (h1 : w.ownsRow b1 e1 s1 v1 n1 x1) (h2 : w.ownsRow b2 e2 s2 v2 n2 x2) (he : e1 ≠ e2) : v1.ownBlock = none ∨ v1.ownBlock ≠ v2.ownBlock := by
  cases hb : v1.ownBlock with
  | none => exact .inl rfl
  | some g =>
    refine .inr fun e => ?_
    obtain ⟨c1, q1⟩ := own_block h1 g hb
    obtain ⟨c2, q2⟩ := own_block h2 g e.symm
    rw [q1] at q2
    injection q2 with q2
    injection q2 with _ q2
    exact he q2

/-- the state of zzBuildCompound's loop -/
structure BS (w0 : World) (n q r : Nat) (subs key : Value) (w : World) : Prop where
  ex : ∃ g xs ks f, subs = .slice (some ⟨g, 0, none⟩) q n ∧ w.ownsRow (w0.heap.size + 1) 72 3 subs q xs ∧ SubCells w xs q f ∧ w.ownsRow (w0.heap.size + 1) 3 1 key r ks
  below : Below w0.heap.size w0 w
  res : ∃ c, w.heap[w0.heap.size]? = some (.cells c 33 (0, 0)) ∧ c.size = 6
theorem BS.call {w0 w w' : World} {n q r : Nat} {subs key : Value} (h : BS w0 n q r subs key w) (hb : Below w.heap.size w w') : BS w0 n q r subs key w' := by
  obtain ⟨g, xs, ks, f, e, h1, h2, h3⟩ := h.ex
  have hg : w.grownBy w' none := ⟨hb.os, hb.tape, hb.output, hb.size, fun k hk _ => hb.block k hk⟩
  refine ⟨⟨g, xs, ks, f, e, h1.kept hg (by cases subs.ownBlock <;> simp), h2.keep (fun T b f hv => hb.block b hv.lt), h3.kept hg (by cases key.ownBlock <;> simp)⟩, h.below.trans (hb.mono h.below.size), ?_⟩
  obtain ⟨c, hc, hs⟩ := h.res
  exact ⟨c, by rw [hb.block _ (Array.getElem?_eq_some_iff.1 hc).1]; exact hc, hs⟩
theorem BS.alloc {w0 w : World} {n q r : Nat} {subs key : Value} (h : BS w0 n q r subs key w) (o : Obj) : BS w0 n q r subs key (w.alloc o) := h.call ((Below.refl _ _).alloc (Nat.le_refl _) _)
theorem own_ge {w : World} {base : Nat} {e : TypeId} {size : Nat} {v : Value} {n : Nat} {xs : List Value} (h : w.ownsRow base e size v n xs) : ∀ g, v.ownBlock = some g → base ≤ g := by
  intro g hg
  rcases h.2 with ⟨rfl, _⟩ | ⟨g', cap, cur, rfl, hb, _⟩
  · simp [Value.ownBlock] at hg
  · simp [Value.ownBlock] at hg
    omega
theorem BS.key {w0 w w' : World} {n q r r' : Nat} {subs key key' : Value} {ks' : List Value} (h : BS w0 n q r subs key w) (hg : w.grownBy w' key.ownBlock) (ho : w'.ownsRow (w0.heap.size + 1) 3 1 key' r' ks') : BS w0 n q r' subs key' w' := by
  obtain ⟨g, xs, ks, f, e, h1, h2, h3⟩ := h.ex
  have hl := h.below.size
  refine ⟨⟨g, xs, ks', f, e, h1.kept hg (two_own h1 h3 (by decide)), h2.keep (fun T b f hv => hg.block b hv.lt ?_), ho⟩, h.below.trans ⟨hg.os, hg.tape, hg.output, hg.size, fun k hk => hg.block k (by omega) ?_⟩, ?_⟩
  · intro e
    obtain ⟨cur, hc⟩ := own_block h3 _ e.symm
    exact hv.ne hc (by decide) (by decide) rfl
  · intro e
    have := own_ge h3 _ e.symm
    omega
  · obtain ⟨c, hc, hs⟩ := h.res
    have hne : some w0.heap.size ≠ key.ownBlock := by
      intro e
      have := own_ge h3 _ e.symm
      omega
    exact ⟨c, by rw [hg.block _ (Array.getElem?_eq_some_iff.1 hc).1 hne]; exact hc, hs⟩
theorem BS.sub {w0 w w' : World} {n q r : Nat} {subs key : Value} {T : TypeId} {b : Nat} {fv : Bool} (h : BS w0 n q r subs key w) (hv : SubVal w T b fv) (xs : List Value) (g : Nat) (f : Nat → Bool) (hx : SubCells w xs q f) (hsub : subs = .slice (some ⟨g, 0, none⟩) q n) (ho0 : w.ownsRow (w0.heap.size + 1) 72 3 subs q xs)
    (hg : w.grownBy w' (some g)) (ho : w'.ownsRow (w0.heap.size + 1) 72 3 (.slice (some ⟨g, 0, none⟩) (q + 1) n) (q + 1) (xs ++ [.iface T (.pointer (some ⟨b, 0, none⟩)), .int .i32 0, .int .i32 0])) : BS w0 n (q + 1) r (.slice (some ⟨g, 0, none⟩) (q + 1) n) key w' := by
  obtain ⟨_, _, ks, _, _, _, _, h3⟩ := h.ex
  have hl := h.below.size
  have hb : subs.ownBlock = some g := by rw [hsub]; rfl
  have hge := own_ge ho0 g hb
  refine ⟨⟨g, _, ks, _, rfl, ho, ((hx.snoc ho0.1 T b fv hv).keep (fun T b f hv => hg.block b hv.lt ?_)), h3.kept hg (by rw [← hb]; exact two_own h3 ho0 (by decide))⟩, h.below.trans ⟨hg.os, hg.tape, hg.output, hg.size, fun k hk => hg.block k (by omega) ?_⟩, ?_⟩
  · intro e
    obtain ⟨cur, hc⟩ := own_block ho0 _ (hb.trans e.symm)
    exact hv.ne hc (by decide) (by decide) rfl
  · intro e
    injection e with e
    omega
  · obtain ⟨c, hc, hs⟩ := h.res
    have hne : some w0.heap.size ≠ some g := by
      intro e
      injection e with e
      omega
    exact ⟨c, by rw [hg.block _ (Array.getElem?_eq_some_iff.1 hc).1 hne]; exact hc, hs⟩
/-- what zzBuildCompound gives -/
def Comp (w : World) (g n : Nat) (f : Nat → Bool) : Prop := ∃ cur, w.heap[g]? = some (.cells cur 72 (0, 0)) ∧ cur.size = n * 3 ∧ SubCells w cur.toList n f
theorem BS.comp {w0 w : World} {n r : Nat} {subs key : Value} (h : BS w0 n n r subs key w) : ∃ g f, subs = .slice (some ⟨g, 0, none⟩) n n ∧ Comp w g n f ∧ w0.heap.size < g := by
  obtain ⟨g, xs, ks, f, e, h1, h2, h3⟩ := h.ex
  refine ⟨g, f, e, ?_, ?_⟩
  · rcases h1.2 with ⟨e1, _⟩ | ⟨g', cap, cur, e1, hb, hh, _, _, hs, ht⟩
    · rw [e1] at e; cases e
    · rw [e1] at e
      injection e with e2 _ e3
      injection e2 with e2
      injection e2 with e2
      subst e2; subst e3
      refine ⟨cur, hh, hs, ?_⟩
      have : cur.toList = xs := by rw [← ht, List.take_of_length_le (by simp; omega)]
      rw [this]; exact h2
  · exact own_ge h1 g (by rw [e]; rfl)
theorem heap_set_same {w : World} {b : Nat} {c : Array Value} {e : TypeId} {fz : Nat × Nat} (h : w.heap[b]? = some (.cells c e fz)) (o : Nat) (v : Value) : ∃ c', (w.setCell ⟨b, o, none⟩ v).heap[b]? = some (.cells c' e fz) ∧ c'.size = c.size := by
  unfold World.setCell
  simp only [Array.getElem?_modify, h, if_true, Option.map_some]
  exact ⟨_, rfl, by simp⟩
theorem Comp.set {w : World} {g n : Nat} {f : Nat → Bool} (h : Comp w g n f) {b : Nat} {c : Array Value} {e : TypeId} {fz : Nat × Nat} (hb : w.heap[b]? = some (.cells c e fz)) (he : e ≠ 72) (h1 : e ≠ 138) (h2 : e ≠ 144) (o : Nat) (v : Value) : Comp (w.setCell ⟨b, o, none⟩ v) g n f := by
  obtain ⟨cur, hg, hs, hc⟩ := h
  refine ⟨cur, ?_, hs, hc.keep fun T b' f' hv => heap_set_other _ _ _ _ (hv.ne hb h1 h2)⟩
  rw [heap_set_other _ _ _ _ ?_]
  · exact hg
  · intro e0
    have e1 : g = b := e0
    subst e1
    rw [hb] at hg
    injection hg with hg
    injection hg with _ hg
    exact he hg
/-- six stores into a block -/
def six (w : World) (b : Nat) (v0 v1 v2 v3 v4 v5 : Value) : World := (((((w.setCell ⟨b, 0, none⟩ v0).setCell ⟨b, 1, none⟩ v1).setCell ⟨b, 2, none⟩ v2).setCell ⟨b, 3, none⟩ v3).setCell ⟨b, 4, none⟩ v4).setCell ⟨b, 5, none⟩ v5
theorem six_comp {w : World} {g n : Nat} {f : Nat → Bool} (h : Comp w g n f) {b : Nat} {c : Array Value} (hb : w.heap[b]? = some (.cells c 33 (0, 0))) (v0 v1 v2 v3 v4 v5 : Value) : Comp (six w b v0 v1 v2 v3 v4 v5) g n f := by
  obtain ⟨c1, q1, _⟩ := heap_set_same hb 0 v0
  obtain ⟨c2, q2, _⟩ := heap_set_same q1 1 v1
  obtain ⟨c3, q3, _⟩ := heap_set_same q2 2 v2
  obtain ⟨c4, q4, _⟩ := heap_set_same q3 3 v3
  obtain ⟨c5, q5, _⟩ := heap_set_same q4 4 v4
  exact (((((h.set hb (by decide) (by decide) (by decide) 0 v0).set q1 (by decide) (by decide) (by decide) 1 v1).set q2 (by decide) (by decide) (by decide) 2 v2).set q3 (by decide) (by decide) (by decide) 3 v3).set q4 (by decide) (by decide) (by decide) 4 v4).set q5 (by decide) (by decide) (by decide) 5 v5
theorem six_below {w0 w : World} {b : Nat} (h : Below w0.heap.size w0 w) (hb : w0.heap.size ≤ b) (v0 v1 v2 v3 v4 v5 : Value) : Below w0.heap.size w0 (six w b v0 v1 v2 v3 v4 v5) :=
  (((((h.setCell hb _).setCell hb _).setCell hb _).setCell hb _).setCell hb _).setCell hb _
theorem cells_read {w : World} {b : Nat} {c : Array Value} {e : TypeId} (hb : w.heap[b]? = some (.cells c e (0, 0))) (o : Nat) (ho : o < c.size) : w.cell? ⟨b, o, none⟩ = some c[o] ∧ w.frozen? ⟨b, o, none⟩ = false := by
  constructor
  · simp [World.cell?, hb, ho]
  · simp [World.frozen?, hb]
theorem six_read {w : World} {b : Nat} {c : Array Value} {e : TypeId} (hb : w.heap[b]? = some (.cells c e (0, 0))) (hs : c.size = 6) (v0 v1 v2 v3 v4 v5 : Value) :
    (six w b v0 v1 v2 v3 v4 v5).cell? ⟨b, 0, none⟩ = some v0 ∧ (six w b v0 v1 v2 v3 v4 v5).cell? ⟨b, 1, none⟩ = some v1 ∧ (six w b v0 v1 v2 v3 v4 v5).cell? ⟨b, 2, none⟩ = some v2 ∧ (six w b v0 v1 v2 v3 v4 v5).cell? ⟨b, 3, none⟩ = some v3 ∧ (six w b v0 v1 v2 v3 v4 v5).cell? ⟨b, 4, none⟩ = some v4 ∧ (six w b v0 v1 v2 v3 v4 v5).cell? ⟨b, 5, none⟩ = some v5 := by
  have q : ∀ o, o < 6 → ∃ v, w.cell? ⟨b, o, none⟩ = some v := fun o ho => ⟨_, (cells_read hb o (by omega)).1⟩
  obtain ⟨u0, q0⟩ := q 0 (by omega)
  obtain ⟨u1, q1⟩ := q 1 (by omega)
  obtain ⟨u2, q2⟩ := q 2 (by omega)
  obtain ⟨u3, q3⟩ := q 3 (by omega)
  obtain ⟨u4, q4⟩ := q 4 (by omega)
  obtain ⟨u5, q5⟩ := q 5 (by omega)
  refine ⟨?_, ?_, ?_, ?_, ?_, ?_⟩ <;> unfold six
  · rw [World.cell?_setCell_other _ _ _ _ (by simp), World.cell?_setCell_other _ _ _ _ (by simp), World.cell?_setCell_other _ _ _ _ (by simp), World.cell?_setCell_other _ _ _ _ (by simp), World.cell?_setCell_other _ _ _ _ (by simp)]
    exact World.cell?_setCell_same _ _ _ q0
  · rw [World.cell?_setCell_other _ _ _ _ (by simp), World.cell?_setCell_other _ _ _ _ (by simp), World.cell?_setCell_other _ _ _ _ (by simp), World.cell?_setCell_other _ _ _ _ (by simp)]
    exact World.cell?_setCell_same _ _ _ (by rw [World.cell?_setCell_other _ _ _ _ (by simp)]; exact q1)
  · rw [World.cell?_setCell_other _ _ _ _ (by simp), World.cell?_setCell_other _ _ _ _ (by simp), World.cell?_setCell_other _ _ _ _ (by simp)]
    exact World.cell?_setCell_same _ _ _ (by rw [World.cell?_setCell_other _ _ _ _ (by simp), World.cell?_setCell_other _ _ _ _ (by simp)]; exact q2)
  · rw [World.cell?_setCell_other _ _ _ _ (by simp), World.cell?_setCell_other _ _ _ _ (by simp)]
    exact World.cell?_setCell_same _ _ _ (by rw [World.cell?_setCell_other _ _ _ _ (by simp), World.cell?_setCell_other _ _ _ _ (by simp), World.cell?_setCell_other _ _ _ _ (by simp)]; exact q3)
  · rw [World.cell?_setCell_other _ _ _ _ (by simp)]
    exact World.cell?_setCell_same _ _ _ (by rw [World.cell?_setCell_other _ _ _ _ (by simp), World.cell?_setCell_other _ _ _ _ (by simp), World.cell?_setCell_other _ _ _ _ (by simp), World.cell?_setCell_other _ _ _ _ (by simp)]; exact q4)
  · exact World.cell?_setCell_same _ _ _ (by rw [World.cell?_setCell_other _ _ _ _ (by simp), World.cell?_setCell_other _ _ _ _ (by simp), World.cell?_setCell_other _ _ _ _ (by simp), World.cell?_setCell_other _ _ _ _ (by simp), World.cell?_setCell_other _ _ _ _ (by simp)]; exact q5)
/-- the loop of zzBuildCompound -/
structure Lp (w0 : World) (n j : Nat) (vj key subs dead vq : Value) (w : World) : Prop where
  ex : ∃ q d, q ≤ n ∧ vj = .int .i64 ((j + q : Nat) : Int) ∧ vq = .int .i64 (q : Int) ∧ dead = .bool d ∧ BS w0 n q (q + 1) subs key w
end Go.Proofs.Ytlhcgnlbhncfkaa
