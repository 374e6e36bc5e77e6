/-
  Two prefix tables held against each other, as data; a table in the world. Conditions: each theorem's own.
-/
import Derived.Test.YtlhcgnlbhncfkaaRa
import Derived.Maps.OwnSet
import Derived.Maps.RangeWalk
namespace Go.Proofs.Ytlhcgnlbhncfkaa
open Go.ChangeShapes Go.WideShapes Go.ChangeAt Go.RowKit
open Go.Maps (Keyed IsMap Tidy)

abbrev Dt := DataW Unit
/-- as many entries, and each of the first's in the second -/
def EqD (D1 D2 : Dt) : Prop := Maps.size D1 = Maps.size D2 ∧ ∀ k, Maps.has D1 k = true → Maps.has D2 k = true ∧ ∀ z, D1.atKey k z = D2.atKey k z
/-- what every reading is -/
def Nice (D : Dt) : Prop := ∃ es, D = .map es ∧ es.Pairwise (fun p q => p.1 ≠ q.1) ∧ ∀ p ∈ es, WideAt.IsKeyLit p.1

theorem EqD.refl (D : Dt) : EqD D D := ⟨rfl, fun _ h => ⟨h, fun _ => rfl⟩⟩
theorem pig {α : Type} : ∀ (l1 l2 : List α), l1.Nodup → (∀ x ∈ l1, x ∈ l2) → l2.length ≤ l1.length → ∀ x ∈ l2, x ∈ l1
  | [], l2, _, _, hl, x, hx => by
    have : l2 = [] := List.eq_nil_of_length_eq_zero (by simpa using hl)
    subst this; exact hx
  | a :: t, l2, hn, hs, hl, x, hx => by
    classical
    obtain ⟨ha, ht⟩ := List.nodup_cons.1 hn
    by_cases e : x = a
    · subst e; exact List.mem_cons_self
    · have hm : a ∈ l2 := hs a List.mem_cons_self
      have hle : (l2.erase a).length = l2.length - 1 := List.length_erase_of_mem hm
      refine List.mem_cons_of_mem _ (pig t (l2.erase a) ht (fun y hy => ?_) (by rw [hle]; simp at hl; omega) x ((List.mem_erase_of_ne e).2 hx))
      have hya : y ≠ a := fun h => ha (h ▸ hy)
      exact (List.mem_erase_of_ne hya).2 (hs y (List.mem_cons_of_mem _ hy))
theorem has_mem {es : List (Lit × Dt)} {k : Lit} : Maps.has (.map es) k = true → k ∈ es.map Prod.fst := by
  intro h
  obtain ⟨p, hp, hs⟩ := List.any_eq_true.1 (show es.any (fun p => p.1.sameKey k) = true from h)
  exact List.mem_map.2 ⟨p, hp, WideAt.sameKey_eq hs⟩
theorem mem_has {es : List (Lit × Dt)} {k : Lit} (hk : ∀ p ∈ es, WideAt.IsKeyLit p.1) : k ∈ es.map Prod.fst → Maps.has (.map es) k = true := by
  intro h
  obtain ⟨p, hp, rfl⟩ := List.mem_map.1 h
  exact List.any_eq_true.2 ⟨p, hp, WideAt.sameKey_self (hk p hp)⟩
theorem EqD.symm {D1 D2 : Dt} (n1 : Nice D1) (n2 : Nice D2) (h : EqD D1 D2) : EqD D2 D1 := by
  obtain ⟨es1, rfl, a1, k1⟩ := n1
  obtain ⟨es2, rfl, a2, k2⟩ := n2
  refine ⟨h.1.symm, fun k hk => ?_⟩
  have nd : (es1.map Prod.fst).Nodup := List.pairwise_map.2 a1
  have hl : (es2.map Prod.fst).length ≤ (es1.map Prod.fst).length := by
    have := h.1
    simp only [Maps.size] at this
    simp; omega
  have := mem_has k1 (pig _ _ nd (fun x hx => has_mem (h.2 x (mem_has k1 hx)).1) hl k (has_mem hk))
  exact ⟨this, fun z => ((h.2 k this).2 z).symm⟩
theorem EqD.comm {D1 D2 : Dt} (n1 : Nice D1) (n2 : Nice D2) : EqD D1 D2 ↔ EqD D2 D1 := ⟨EqD.symm n1 n2, EqD.symm n2 n1⟩

/-- the table of the first n pairs -/
def pm (ks vs : List Int) : Nat → Dt
  | 0 => .map []
  | i + 1 => (pm ks vs i).put (.int .u16 (ks.getD i 0)) (.lit (.int .u8 (vs.getD i 0)))
theorem pm_map (ks vs : List Int) : ∀ n, IsMap (pm ks vs n)
  | 0 => ⟨[], rfl⟩
  | n + 1 => (pm_map ks vs n).put _ _
theorem pm_has (ks vs : List Int) : ∀ (n : Nat) (k : Lit), Maps.has (pm ks vs n) k = true ↔ ∃ i, i < n ∧ k = .int .u16 (ks.getD i 0)
  | 0, k => by simp [pm, Maps.has]
  | n + 1, k => by
    show Maps.has ((pm ks vs n).put _ _) k = true ↔ _
    by_cases e : k = .int .u16 (ks.getD n 0)
    · subst e
      rw [Maps.has_put_same (pm_map ks vs n) (show WideAt.IsKeyLit (.int .u16 (ks.getD n 0)) from trivial)]
      exact ⟨fun _ => ⟨n, by omega, rfl⟩, fun _ => rfl⟩
    · rw [Maps.has_put_other e, pm_has ks vs n k]
      constructor
      · rintro ⟨i, hi, h⟩; exact ⟨i, by omega, h⟩
      · rintro ⟨i, hi, h⟩
        by_cases e2 : i = n
        · subst e2; exact absurd h e
        · exact ⟨i, by omega, h⟩
/-- what the loop over the first table's keys finds -/
theorem eq_iff (ks vs : List Int) (n : Nat) (D : Dt) (hs : Maps.size (pm ks vs n) = Maps.size D) :
    EqD (pm ks vs n) D ↔ ∀ i, i < n → Maps.has D (.int .u16 (ks.getD i 0)) = true ∧ ∀ z, (pm ks vs n).atKey (.int .u16 (ks.getD i 0)) z = D.atKey (.int .u16 (ks.getD i 0)) z := by
  constructor
  · intro h i hi
    exact h.2 _ ((pm_has ks vs n _).2 ⟨i, hi, rfl⟩)
  · intro h
    refine ⟨hs, fun k hk => ?_⟩
    obtain ⟨i, hi, rfl⟩ := (pm_has ks vs n k).1 hk
    exact h i hi

theorem law127 : Keyed Try.prog 127 := Maps.int_keyed Try.underlying127
/-- the value v is the table D -/
def PMap (w : World) (v : Value) (D : Dt) : Prop :=
  (v = .map none ∧ D = .map []) ∨ ∃ b n, v = .map (some b) ∧ n ≤ 2097152 ∧ w.ownsMap Try.prog 127 (plainElem Try.prog 128) b n D
theorem PMap.nice {w : World} {v : Value} {D : Dt} (h : PMap w v D) : Nice D := by
  rcases h with ⟨_, rfl⟩ | ⟨b, n, _, _, h⟩
  · exact ⟨[], rfl, List.Pairwise.nil, by simp⟩
  · exact h.entries law127
theorem PMap.below {w w' : World} {v : Value} {D : Dt} (h : PMap w v D) (hb : Below w.heap.size w w') : PMap w' v D := by
  rcases h with h | ⟨b, n, e, hn, h⟩
  · exact .inl h
  · exact .inr ⟨b, n, e, hn, h.kept (row := none) ⟨hb.os, hb.tape, hb.output, hb.size, fun k hk _ => hb.block k hk⟩ (by simp)⟩
theorem PMap.len {w : World} {v : Value} {D : Dt} (h : PMap w v D) (ty : TypeId) : (Builtin.len_ #[43] ty #[v]).run Try.prog w = .ok (.int .i64 (Maps.size D)) w := by
  rcases h with ⟨rfl, rfl⟩ | ⟨b, n, rfl, _, h⟩
  · exact Maps.len_nil Try.underlying43 ty
  · exact h.len Try.underlying43 ty
theorem PMap.size_le {w : World} {v : Value} {D : Dt} (h : PMap w v D) : Maps.size D ≤ 2097152 := by
  rcases h with ⟨rfl, rfl⟩ | ⟨b, n, rfl, hn, h⟩
  · simp [Maps.size]
  · exact Nat.le_trans h.size_le hn
theorem PMap.look {w : World} {v : Value} {D : Dt} (h : PMap w v D) {k : Int} (hk : (Lit.int .u16 k).wf = true) :
    ∃ c, (Instr.lookup 43 v (.int .u16 k) true).run Try.prog w = .ok (.tuple #[.int .u8 c, .bool (Maps.has D (.int .u16 k))]) w ∧ (Instr.lookup 43 v (.int .u16 k) false).run Try.prog w = .ok (.int .u8 c) w ∧ D.atKey (.int .u16 k) (.lit (.int .u8 0)) = .lit (.int .u8 c) := by
  have hkey := Maps.keyOf_int_mk Try.underlying127 hk
  rcases h with ⟨rfl, rfl⟩ | ⟨b, n, rfl, hn, h⟩
  · exact ⟨0, Maps.look_nil true law127 Try.underlying43 (Try.zeroValue128 w) hkey, Maps.look_nil false law127 Try.underlying43 (Try.zeroValue128 w) hkey, rfl⟩
  · obtain ⟨u, ps, h1, h2⟩ := h.look_ok law127 Try.underlying43 (Try.zeroValue128 w) (plainElem_int Try.underlying128 (a := 0) (by decide)) hkey
    obtain ⟨c, h3, h4, _⟩ := h.lookup_int law127 Try.underlying43 Try.underlying128 (Try.zeroValue128 w) hkey
    obtain ⟨c', rfl, h6, _⟩ := plainElem_int_inv Try.underlying128 h2
    have h7 : D.atKey (.int .u16 k) (.lit (.int .u8 0)) = .lit (.int .u8 c') := congrArg Prod.fst h6
    rw [h4] at h7
    injection h7 with h7
    injection h7 with _ h7
    subst h7
    exact ⟨c, h1, h3, h4⟩
theorem make43 (n : Int) (w : World) : (Instr.makeMap 43 (some (.int .i64 n))).run Try.prog w = .ok (.map (some w.heap.size)) (w.alloc (.map #[] 0)) := by
  simp [Instr.makeMap, run_underlying Try.underlying43, asInt, newObj]
  rfl
end Go.Proofs.Ytlhcgnlbhncfkaa
