/-
  The selectors and the rules as they are built; append to a row under way; make. Conditions: each theorem's own.
-/
import Derived.Test.YtllafdcijpdopaaGreatFmtPb
import Derived.Laws.MakeOwn
import Derived.Deep.AppendLies
import Derived.Deep.QuietTactic
import Derived.Deep.RegionLaw
import Derived.BigQuiet
namespace Go.Proofs.YtllafdcijpdopaaGreatFmt
open Go.RowKit Go.Lib
def SubT : Elt NM 3 where
  E w P c nm := (∃ b, c 0 = some (.iface 169 (.pointer (some ⟨b, 0, none⟩))) ∧ P b ∧ b < w.heap.size ∧ w.cell? ⟨b, 0, none⟩ = some (.string (ba nm))) ∧ c 1 = some (.int .i32 0) ∧ c 2 = some (.int .i32 0)
  keep := by
    rintro w w' P P' h c m ⟨⟨b, e0, hp, hb, hc⟩, e1, e2⟩
    exact ⟨⟨b, e0, h.sub b hp hb, Nat.lt_of_lt_of_le hb h.size, (h.cell hp hb 0).trans hc⟩, e1, e2⟩
  loc := by
    rintro w P c c' m h ⟨e0, e1, e2⟩
    exact ⟨by rw [← h 0 (by omega)]; exact e0, by rw [← h 1 (by omega)]; exact e1, by rw [← h 2 (by omega)]; exact e2⟩
def CmpT : Elt Cm 6 where
  E w P c m := c 0 = some (.pointer none) ∧ (∃ s, c 1 = some s ∧ RowL SubT w P s m.names) ∧ (∃ a cp, c 2 = some (.slice a m.amps cp)) ∧ c 3 = some (.int .i32 0) ∧ c 4 = some (.int .u8 (m.comb : Nat)) ∧ c 5 = some (.bool false)
  keep := by
    rintro w w' P P' h c m ⟨e0, ⟨s, e1, hr⟩, e2⟩
    exact ⟨e0, ⟨s, e1, hr.keep h⟩, e2⟩
  loc := by
    rintro w P c c' m h ⟨e0, e1, e2, e3, e4, e5⟩
    exact ⟨by rw [← h 0 (by omega)]; exact e0, by rw [← h 1 (by omega)]; exact e1, by rw [← h 2 (by omega)]; exact e2, by rw [← h 3 (by omega)]; exact e3, by rw [← h 4 (by omega)]; exact e4, by rw [← h 5 (by omega)]; exact e5⟩
def CxT : Elt CxM 1 where
  E w P c ms := ∃ s, c 0 = some s ∧ RowL CmpT w P s ms
  keep := by
    rintro w w' P P' h c m ⟨s, e1, hr⟩
    exact ⟨s, e1, hr.keep h⟩
  loc := by
    rintro w P c c' m h ⟨s, e0, hr⟩
    exact ⟨s, by rw [← h 0 (by omega)]; exact e0, hr⟩
def DecT : Elt Unit 2 where
  E _ _ c _ := (∃ b, c 0 = some (.iface 113 (.pointer (some ⟨b, 0, none⟩)))) ∧ c 1 = some (.int .i32 0)
  keep := by
    rintro w w' P P' h c m e
    exact e
  loc := by
    rintro w P c c' m h ⟨e0, e1⟩
    exact ⟨by rw [← h 0 (by omega)]; exact e0, by rw [← h 1 (by omega)]; exact e1⟩
theorem fresh_cells (X : World) (xs : Array Value) (e : TypeId) (N : Nat) (hN : X.heap.size = N) (j : Nat) (u : Value) (h : xs.toList[j]? = some u) : (X.alloc (.cells xs e)).cell? ((⟨N, 0, none⟩ : Addr).add j) = some u := by
  subst hN
  have e2 : (⟨X.heap.size, 0, none⟩ : Addr).add j = ⟨X.heap.size, j, none⟩ := by cases j <;> simp [Addr.add]
  rw [e2]
  simp [go_sem]
  simpa using h
theorem step_run {P : Program} {ops : Array Oper} {o : Oper} {a : Act} {w : World} {K : Act → World → Prop} {Q : Exit → Act → World → Prop} {E : Prop}
    (hg : o.guard = none) (s x : Operand) (t : TypeId) (hop : o.op = Op.call { callee := Callee.builtin Builtin.append, args := #[s, x], argTypes := #[t, t] })
    (v xv v' : Value) (w' : World) (hs : a.eval s = v) (hx : a.eval x = xv) (hrun : (Builtin.append_ #[t, t] o.type #[v, xv]).run P w = .ok v' w') (hK : K (a.put o.dst v') w') :
    if Region.wanted o (yielded ops a.tmps) = true then Oper.wp P o a w K Q else E := by
  have hw : Region.wanted o (yielded ops a.tmps) = true := by simp [Region.wanted, hg]
  rw [if_pos hw]
  unfold Oper.wp
  simp [execOp, hop, resolve, invoke, builtin, hs, hx, hrun, Result.andThen]
  exact hK
theorem list_run {P : Program} {ops : Array Oper} {rest : List Oper} {o : Oper} {a : Act} {w : World} {Q : Exit → Act → World → Prop} (hgd : o.guard = none) (s x : Operand) (t : TypeId)
    (ho : o.op = .call { callee := .builtin .append, args := #[s, x], argTypes := #[t, t] })
    (v xv v' : Value) (w' : World) (hs : a.eval s = v) (hx : a.eval x = xv) (hrun : (Builtin.append_ #[t, t] o.type #[v, xv]).run P w = .ok v' w') (h : wpList P ops Q rest (a.put o.dst v') w') :
    wpList P ops Q (o :: rest) a w := by
  refine wpList_plain hgd fun K hK => ?_
  unfold Oper.wp execOp
  simp only [ho, resolve, invoke, builtin, Sem.run_bind, Sem.run_pure, Result.andThen_ok, List.map_toArray, List.map_cons, List.map_nil, hs, hx, hrun]
  exact hK _ _ h


theorem appN {w : World} (base : Nat) (t e : TypeId) (z : Value) (sz b : Nat) (news xs : List Value) (n : Nat) (v : Value) (ht : Tryz.prog.underlying t = some (.slice e)) (hi : (Tryz.prog.info? e).map (fun i => (i.zero, i.size, i.bytes)) = some (some z, sz, b)) (hz : z.cells.size = sz) (h0 : 0 < sz) (hb : b ≤ 128)
    (hown : w.ownsRow base e sz v n xs) (hl : news.length = sz) (hx : ∀ u ∈ news, u.oneCell' = true) (hn : n ≤ 2000000) (hbase : base ≤ w.heap.size) :
    ∃ (g c : Nat) (w' : World), (Builtin.append_ #[t, t] t #[v, .slice (some ⟨w.heap.size, 0, none⟩) 1 1]).run Tryz.prog (w.alloc (.cells news.toArray e)) = .ok (.slice (some ⟨g, 0, none⟩) (n + 1) c) w' ∧ w'.ownsRow base e sz (.slice (some ⟨g, 0, none⟩) (n + 1) c) (n + 1) (xs ++ news) ∧ (w.alloc (.cells news.toArray e)).grownBy w' v.ownBlock ∧ ((Value.slice (some ⟨g, 0, none⟩) (n + 1) c).ownBlock = v.ownBlock ∨ (Value.slice (some ⟨g, 0, none⟩) (n + 1) c).ownBlock = some (w.alloc (.cells news.toArray e)).heap.size) := by
  obtain ⟨i, hi1, z0, z1, z2⟩ := info_parts hi
  obtain ⟨v', w', a1, a2, a3, _, a5⟩ := run_append_own_at (P := Tryz.prog) (w.alloc (.cells news.toArray e)) base t t e i z sz b ht hi1 z0 z1 z2 hz h0 v n xs (hown.alloc _) ⟨w.heap.size, 0, none⟩ 1 1 news (by omega) (fun j u hj => fresh_cells w news.toArray e _ rfl j u (by simpa using hj)) hx (by unfold maxLen; omega) (by have : (n + 1) * b ≤ 2000001 * 128 := Nat.mul_le_mul (by omega) hb; omega) (by simp [go_sem]; omega)
  rcases a2.2 with ⟨_, e0⟩ | ⟨g, c, cur, rfl, _⟩
  · omega
  · exact ⟨g, c, w', a1, a2, a3, a5⟩
/-- append of one element to a row under way -/
theorem BR.app {α : Type} {sz : Nat} {T : Elt α sz} {w0 w : World} (t e : TypeId) (z : Value) (b : Nat) (news : List Value) {v : Value} {ms : List α} (m : α) (ht : Tryz.prog.underlying t = some (.slice e)) (hi : (Tryz.prog.info? e).map (fun i => (i.zero, i.size, i.bytes)) = some (some z, sz, b)) (hz : z.cells.size = sz) (h0 : 0 < sz) (hb : b ≤ 128)
    (h : BR T e w0 v ms w) (hl : news.length = sz) (hx : ∀ u ∈ news, u.oneCell' = true) (hm : T.E w (Fr w0.heap.size v) (fun t => news[t]?) m) (hn : ms.length ≤ 2000000) :
    ∃ (g c : Nat) (w' : World), (Builtin.append_ #[t, t] t #[v, .slice (some ⟨w.heap.size, 0, none⟩) 1 1]).run Tryz.prog (w.alloc (.cells news.toArray e)) = .ok (.slice (some ⟨g, 0, none⟩) (ms.length + 1) c) w' ∧ BR T e w0 (.slice (some ⟨g, 0, none⟩) (ms.length + 1) c) (ms ++ [m]) w' ∧ (w.alloc (.cells news.toArray e)).grownBy w' v.ownBlock := by
  have hbs := h.bel.size
  obtain ⟨xs, ho, _⟩ := h.own
  obtain ⟨g, c, w', a1, a2, a3, a4⟩ := appN w0.heap.size t e z sz b news xs ms.length v ht hi hz h0 hb ho hl hx hn hbs
  refine ⟨g, c, w', a1, ?_, a3⟩
  refine h.snoc hm ((Below.refl _ _).alloc (Nat.le_refl _) _) a3 a4 (fun ys hy => ?_)
  obtain ⟨g', c', w'', b1, b2, _, _⟩ := appN w0.heap.size t e z sz b news ys ms.length v ht hi hz h0 hb hy hl hx hn hbs
  rw [a1] at b1
  injection b1 with q1 q2
  rw [q1, q2]
  exact b2
def mkO (z : Value) (k : Nat) (e : TypeId) : Obj := .cells (madeCells z.cells k) e
theorem mkS0 (t e : TypeId) (z : Value) (sz b : Nat) (ht : Tryz.prog.underlying t = some (.slice e)) (hi : (Tryz.prog.info? e).map (fun i => (i.zero, i.size, i.bytes)) = some (some z, sz, b)) (hb : b ≤ 128) (n : Nat) (hn : n ≤ 2000000) (w : World) :
    (Instr.makeSlice t (.int .i64 0) (.int .i64 (n : Int))).run Tryz.prog w = .ok (.slice (some ⟨w.heap.size, 0, none⟩) 0 n) (w.alloc (mkO z (n * sz) e)) := by
  obtain ⟨i, hi1, z0, z1, z2⟩ := info_parts hi
  have hb' : (i.bytes : Int) * (n : Int) ≤ 281474976710656 := by
    have h : i.bytes * n ≤ 128 * 2000000 := Nat.mul_le_mul (by omega) hn
    have h2 : ((i.bytes * n : Nat) : Int) ≤ 281474976710656 := by omega
    rwa [Int.natCast_mul] at h2
  have hr := run_make (P := Tryz.prog) w t e i z ht hi1 z0 .i64 .i64 0 n (by omega) (by omega) hb' (by omega)
  simp only [Int.toNat_natCast, z1, Int.toNat_zero] at hr
  exact hr
theorem BR.made {α : Type} {sz : Nat} (T : Elt α sz) (e : TypeId) (z : Value) (n : Nat) (w : World) (hn : n ≤ 2000000) : BR T e w (.slice (some ⟨w.heap.size, 0, none⟩) 0 n) [] (w.alloc (mkO z (n * sz) e)) := by
  have o := World.ownsRow_made (e := e) (size := sz) w (madeCells z.cells (n * sz)) n (Nat.le_refl _) (by unfold maxLen; omega) (by rw [size_madeCells])
  exact ⟨(Below.refl _ _).alloc (Nat.le_refl _) _, [], o, fun i hi => by simp at hi⟩
theorem info65 : (Tryz.prog.info? 65).map (fun i => (i.zero, i.size, i.bytes)) = some (some (.agg #[.slice none 0 0]), 1, 24) := by kernel_rfl
theorem info134 : (Tryz.prog.info? 134).map (fun i => (i.zero, i.size, i.bytes)) = some (some (.agg #[.pointer none, .slice none 0 0, .slice none 0 0, .int .i32 0, .int .u8 0, .bool false]), 6, 72) := by kernel_rfl
theorem info158 : (Tryz.prog.info? 158).map (fun i => (i.zero, i.size, i.bytes)) = some (some (.agg #[.nilIface, .int .i32 0, .int .i32 0]), 3, 24) := by kernel_rfl
theorem info30 : (Tryz.prog.info? 30).map (fun i => (i.zero, i.size, i.bytes)) = some (some (.agg #[.nilIface, .int .i32 0]), 2, 24) := by kernel_rfl
theorem info28 : (Tryz.prog.info? 28).map (fun i => (i.zero, i.size, i.bytes)) = some (some (.agg #[.int .i32 0]), 1, 4) := by kernel_rfl
end Go.Proofs.YtllafdcijpdopaaGreatFmt
