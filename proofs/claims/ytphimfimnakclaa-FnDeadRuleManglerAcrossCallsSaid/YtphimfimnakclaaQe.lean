/-
  Append and make; the key under way. Conditions: each theorem's own.
-/
import Derived.Test.YtphimfimnakclaaQd
namespace Go.Proofs.Ytphimfimnakclaa
open Go.RowKit Go.Lib
theorem fresh_cells (X : World) (xs : Array Value) (e : TypeId) (N : Nat) (hN : X.heap.size = N) (j : Nat) (u : Value) (h : xs.toList[j]? = some u) : (X.alloc (.cells xs e)).cell? ((⟨N, 0, none⟩ : Addr).add j) = some u := by
  subst hN
  have e2 : (⟨X.heap.size, 0, none⟩ : Addr).add j = ⟨X.heap.size, j, none⟩ := by cases j <;> simp [Addr.add]
  rw [e2]
  simp [go_sem]
  simpa using h
theorem step_run {P : Program} {ops : Array Oper} {o : Oper} {a : Act} {w : World} {K : Act → World → Prop} {Q : Exit → Act → World → Prop} {E : Prop}
    (hg : o.guard = none) (s x : Operand) (t : TypeId) (hop : o.op = Op.call { callee := Callee.builtin Builtin.append, args := #[s, x], argTypes := #[t, t] })
    (v xv v' : Value) (w' : World) (hs : a.eval s = v) (hx : a.eval x = xv) (hrun : (Builtin.append_ #[t, t] o.type #[v, xv]).run P w = .ok v' w') (hK : K (a.put o.dst v') w') :
    if Region.wanted o (yielded ops a.tmps) = true then Oper.wp P o a w K Q else E := by
  have hw : Region.wanted o (yielded ops a.tmps) = true := by simp [Region.wanted, hg]
  rw [if_pos hw]
  unfold Oper.wp
  simp [execOp, hop, resolve, invoke, builtin, hs, hx, hrun, Result.andThen]
  exact hK
theorem list_run {P : Program} {ops : Array Oper} {rest : List Oper} {o : Oper} {a : Act} {w : World} {Q : Exit → Act → World → Prop} (hgd : o.guard = none) (s x : Operand) (t : TypeId)
    (ho : o.op = .call { callee := .builtin .append, args := #[s, x], argTypes := #[t, t] })
    (v xv v' : Value) (w' : World) (hs : a.eval s = v) (hx : a.eval x = xv) (hrun : (Builtin.append_ #[t, t] o.type #[v, xv]).run P w = .ok v' w') (h : wpList P ops Q rest (a.put o.dst v') w') :
    wpList P ops Q (o :: rest) a w := by
  refine wpList_plain hgd fun K hK => ?_
  unfold Oper.wp execOp
  simp only [ho, resolve, invoke, builtin, Sem.run_bind, Sem.run_pure, Result.andThen_ok, List.map_toArray, List.map_cons, List.map_nil, hs, hx, hrun]
  exact hK _ _ h
def mkO (z : Value) (k : Nat) (e : TypeId) : Obj := .cells (madeCells z.cells k) e
theorem mkS0 (t e : TypeId) (z : Value) (sz b : Nat) (ht : Try.prog.underlying t = some (.slice e)) (hi : (Try.prog.info? e).map (fun i => (i.zero, i.size, i.bytes)) = some (some z, sz, b)) (hb : b ≤ 128) (n : Nat) (hn : n ≤ 2000000) (w : World) :
    (Instr.makeSlice t (.int .i64 0) (.int .i64 (n : Int))).run Try.prog w = .ok (.slice (some ⟨w.heap.size, 0, none⟩) 0 n) (w.alloc (mkO z (n * sz) e)) := by
  obtain ⟨i, hi1, z0, z1, z2⟩ := info_parts hi
  have hb' : (i.bytes : Int) * (n : Int) ≤ 281474976710656 := by
    have h : i.bytes * n ≤ 128 * 2000000 := Nat.mul_le_mul (by omega) hn
    have h2 : ((i.bytes * n : Nat) : Int) ≤ 281474976710656 := by omega
    rwa [Int.natCast_mul] at h2
  have hr := run_make (P := Try.prog) w t e i z ht hi1 z0 .i64 .i64 0 n (by omega) (by omega) hb' (by omega)
  simp only [Int.toNat_natCast, z1, Int.toNat_zero] at hr
  exact hr
section
variable {α : Type} {sz : Nat} {T : Elt α sz} {B : Nat} {v : Value} {ms : List α} {w w' : World}
theorem BO.made (T : Elt α sz) (e : TypeId) (z : Value) (n B : Nat) (w : World) (hn : n ≤ 2000000) (hB : B ≤ w.heap.size) : BO T e B (.slice (some ⟨w.heap.size, 0, none⟩) 0 n) [] (w.alloc (mkO z (n * sz) e)) := by
  have o := World.ownsRow_made (e := e) (size := sz) w (madeCells z.cells (n * sz)) n hB (by unfold maxLen; omega) (by rw [size_madeCells])
  exact ⟨by simp; omega, [], o, fun i hi => by simp at hi⟩
theorem BO.app (t e : TypeId) (z : Value) (b : Nat) (news : List Value) (m : α) (ht : Try.prog.underlying t = some (.slice e)) (hi : (Try.prog.info? e).map (fun i => (i.zero, i.size, i.bytes)) = some (some z, sz, b)) (hz : z.cells.size = sz) (h0 : 0 < sz) (hb : b ≤ 128)
    (h : BO T e B v ms w) (hl : news.length = sz) (hx : ∀ u ∈ news, u.oneCell' = true) (hm : T.E w (Fr B v w) (fun t => news[t]?) m) (hn : ms.length ≤ 2000000) :
    ∃ (g c : Nat) (w' : World), (Builtin.append_ #[t, t] t #[v, .slice (some ⟨w.heap.size, 0, none⟩) 1 1]).run Try.prog (w.alloc (.cells news.toArray e)) = .ok (.slice (some ⟨g, 0, none⟩) (ms.length + 1) c) w' ∧ BO T e B (.slice (some ⟨g, 0, none⟩) (ms.length + 1) c) (ms ++ [m]) w' ∧ (w.alloc (.cells news.toArray e)).grownBy w' v.ownBlock ∧ ((Value.slice (some ⟨g, 0, none⟩) (ms.length + 1) c).ownBlock = v.ownBlock ∨ (Value.slice (some ⟨g, 0, none⟩) (ms.length + 1) c).ownBlock = some (w.alloc (.cells news.toArray e)).heap.size) := by
  have hle := h.le
  obtain ⟨i, hi1, z0, z1, z2⟩ := info_parts hi
  have key : ∀ xs, w.ownsRow B e sz v ms.length xs → ∃ (g c : Nat) (w' : World), (Builtin.append_ #[t, t] t #[v, .slice (some ⟨w.heap.size, 0, none⟩) 1 1]).run Try.prog (w.alloc (.cells news.toArray e)) = .ok (.slice (some ⟨g, 0, none⟩) (ms.length + 1) c) w' ∧ w'.ownsRow B e sz (.slice (some ⟨g, 0, none⟩) (ms.length + 1) c) (ms.length + 1) (xs ++ news) ∧ (w.alloc (.cells news.toArray e)).grownBy w' v.ownBlock ∧ ((Value.slice (some ⟨g, 0, none⟩) (ms.length + 1) c).ownBlock = v.ownBlock ∨ (Value.slice (some ⟨g, 0, none⟩) (ms.length + 1) c).ownBlock = some (w.alloc (.cells news.toArray e)).heap.size) := fun xs hown => by
    obtain ⟨v', w', a1, a2, a3, _, a5⟩ := run_append_own_at (P := Try.prog) (w.alloc (.cells news.toArray e)) B t t e i z sz b ht hi1 z0 z1 z2 hz h0 v ms.length xs (hown.alloc _) ⟨w.heap.size, 0, none⟩ 1 1 news (by omega) (fun j u hj => fresh_cells w news.toArray e _ rfl j u (by simpa using hj)) hx (by unfold maxLen; omega) (by have : (ms.length + 1) * b ≤ 2000001 * 128 := Nat.mul_le_mul (by omega) hb; omega) (by simp [go_sem]; omega)
    rcases a2.2 with ⟨_, e0⟩ | ⟨g, c, cur, rfl, _⟩
    · omega
    · exact ⟨g, c, w', a1, a2, a3, a5⟩
  obtain ⟨xs, ho, _⟩ := h.own
  obtain ⟨g, c, w', a1, a2, a3, a4⟩ := key xs ho
  refine ⟨g, c, w', a1, h.snoc hm a3 a4 (fun ys hy => ?_), a3, a4⟩
  obtain ⟨g', c', w'', b1, b2, _, _⟩ := key ys hy
  rw [a1] at b1
  injection b1 with q1 q2
  rw [q1, q2]
  exact b2
end
theorem info3 : (Try.prog.info? 3).map (fun i => (i.zero, i.size, i.bytes)) = some (some (.int .i64 0), 1, 8) := by kernel_rfl
theorem info96 : (Try.prog.info? 96).map (fun i => (i.zero, i.size, i.bytes)) = some (some (.agg #[.nilIface, .int .i32 0, .int .i32 0]), 3, 24) := by kernel_rfl
theorem info85 : (Try.prog.info? 85).map (fun i => (i.zero, i.size, i.bytes)) = some (some (.agg #[.pointer none, .slice none 0 0, .slice none 0 0, .int .i32 0, .int .u8 0, .bool false]), 6, 72) := by kernel_rfl
theorem info56 : (Try.prog.info? 56).map (fun i => (i.zero, i.size, i.bytes)) = some (some (.agg #[.slice none 0 0]), 1, 24) := by kernel_rfl
theorem info47 : (Try.prog.info? 47).map (fun i => (i.zero, i.size, i.bytes)) = some (some (.agg #[.nilIface, .int .i32 0]), 2, 24) := by kernel_rfl
/-- the key under way: what it is, and that nothing else has turned -/
structure KS (Bk : Nat) (kv : Value) (w : World) (kv' : Value) (ks : List Int) (w' : World) : Prop where
  bo : BO IntT 3 Bk kv' ks w'
  gr : w.grownBy w' kv.ownBlock
  at' : ∀ g, kv'.ownBlock = some g → kv.ownBlock = some g ∨ w.heap.size ≤ g
section
variable {Bk : Nat} {kv kv' : Value} {w w' w2 : World} {ks : List Int}
theorem KS.start (h : BO IntT 3 Bk kv ks w) : KS Bk kv w kv ks w := ⟨h, ⟨rfl, rfl, rfl, Nat.le_refl _, fun _ _ _ => rfl⟩, fun _ hg => Or.inl hg⟩
theorem KS.step (h : KS Bk kv w kv' ks w') (hos : w2.os = w'.os ∧ w2.tape = w'.tape ∧ w2.output = w'.output) (hs : w'.heap.size ≤ w2.heap.size) (hb : ∀ g, g < w.heap.size → w2.heap[g]? = w'.heap[g]?) (ho : ∀ g, kv'.ownBlock = some g → w2.heap[g]? = w'.heap[g]?) : KS Bk kv w kv' ks w2 := by
  obtain ⟨xs, how, hx⟩ := h.bo.own
  have hle := h.bo.le
  refine ⟨⟨by omega, xs, own_heap how ho, fun i hi => hx i hi⟩, ⟨hos.1.trans h.gr.os, hos.2.1.trans h.gr.tape, hos.2.2.trans h.gr.output, Nat.le_trans h.gr.size hs, fun g h1 h2 => (hb g h1).trans (h.gr.block g h1 h2)⟩, h.at'⟩
theorem KS.below (h : KS Bk kv w kv' ks w') (hb : Below w'.heap.size w' w2) : KS Bk kv w kv' ks w2 :=
  h.step ⟨hb.os, hb.tape, hb.output⟩ hb.size (fun g hg => hb.block g (Nat.lt_of_lt_of_le hg h.gr.size)) (fun g hg => hb.block g (h.bo.ge g hg).2)
/-- one number more -/
theorem KS.app (h : KS Bk kv w kv' ks w') (x : Int) (hn : ks.length ≤ 2000000) :
    ∃ (g c : Nat) (w2 : World), (Builtin.append_ #[50, 50] 50 #[kv', .slice (some ⟨w'.heap.size, 0, none⟩) 1 1]).run Try.prog (w'.alloc (.cells #[.int .i64 x] 3)) = .ok (.slice (some ⟨g, 0, none⟩) (ks.length + 1) c) w2 ∧ KS Bk kv w (.slice (some ⟨g, 0, none⟩) (ks.length + 1) c) (ks ++ [x]) w2 ∧ w'.heap.size ≤ w2.heap.size ∧ (∀ g, g < w'.heap.size → NT w' g → w2.heap[g]? = w'.heap[g]?) ∧ (w2.os = w'.os ∧ w2.tape = w'.tape ∧ w2.output = w'.output) := by
  obtain ⟨g, c, w2, a1, a2, a3, a4⟩ := h.bo.app 50 3 _ 8 [.int .i64 x] x Try.underlying50 info3 rfl (by decide) (by decide) rfl (by intro u hu; simp at hu; rcases hu with rfl; rfl) rfl hn
  have hz : (w'.alloc (.cells #[Value.int .i64 x] 3)).heap.size = w'.heap.size + 1 := by simp
  have hs := a3.size
  have hgs := h.gr.size
  have blk : ∀ g, g < w'.heap.size → some g ≠ kv'.ownBlock → w2.heap[g]? = w'.heap[g]? := fun g h1 h2 => (a3.block g (by simp; omega) h2).trans (Below.heap_alloc _ _ _ h1)
  refine ⟨g, c, w2, a1, ⟨a2, ⟨a3.os.trans h.gr.os, a3.tape.trans h.gr.tape, a3.output.trans h.gr.output, by simp at hs; omega, fun q h1 h2 => ?_⟩, fun q hq => ?_⟩, by simp at hs; omega, fun q h1 h2 => blk q h1 (fun e => ?_), ⟨a3.os, a3.tape, a3.output⟩⟩
  · refine (blk q (by omega) (fun e => ?_)).trans (h.gr.block q h1 h2)
    rcases h.at' q e.symm with r | r
    · exact h2 r.symm
    · omega
  · rcases a4 with r | r
    · rw [r] at hq
      exact h.at' q hq
    · rw [r] at hq
      injection hq with hq
      simp at hq
      exact Or.inr (by omega)
  · obtain ⟨cur, hc⟩ := h.bo.typ q e.symm
    exact h2 _ _ hc
end
end Go.Proofs.Ytphimfimnakclaa
