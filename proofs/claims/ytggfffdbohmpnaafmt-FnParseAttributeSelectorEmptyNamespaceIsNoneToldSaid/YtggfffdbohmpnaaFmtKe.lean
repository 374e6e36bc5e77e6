/-
  The script of tokens under way: its block, its three rows; add lays one token more. Conditions: sizes at most 1 MiB.
-/
import Derived.Test.YtggfffdbohmpnaaFmtKa
import Derived.Maps.AppendAt
import Derived.Deep.AppendLies
import Derived.Deep.QuietTactic
import Derived.BigRegion
import Derived.Deep.RegionLaw
namespace Go.Proofs.YtggfffdbohmpnaaFmt
set_option linter.unusedVariables false
open Go.ChangeShapes Go.WideShapes Go.ChangeAt Go.RowKit Go.Lib

theorem grown_setCell (w : World) (a : Addr) (u : Value) : w.grownBy (w.setCell a u) (some a.block) :=
  ⟨rfl, rfl, rfl, by simp, fun k _ hk => Below.heap_setCell w a u k (fun e => hk (by rw [e]))⟩
theorem fresh_cells (X : World) (xs : Array Value) (e : TypeId) (N : Nat) (hN : X.heap.size = N) (j : Nat) (u : Value) (h : xs.toList[j]? = some u) : (X.alloc (.cells xs e)).cell? ((⟨N, 0, none⟩ : Addr).add j) = some u := by
  subst hN
  have e2 : (⟨X.heap.size, 0, none⟩ : Addr).add j = ⟨X.heap.size, j, none⟩ := by cases j <;> simp [Addr.add]
  rw [e2]
  simp [go_sem]
  simpa using h
theorem dnew {u v v' : Value} {n : Nat} (hb : v'.ownBlock = v.ownBlock ∨ v'.ownBlock = some n) (hu : ∀ k, u.ownBlock = some k → k < n) (d : u.ownBlock = none ∨ u.ownBlock ≠ v.ownBlock) : u.ownBlock = none ∨ u.ownBlock ≠ v'.ownBlock := by
  rcases hb with e | e
  · rw [e]; exact d
  · rw [e]; right
    intro e2
    have := hu _ e2
    omega
theorem dsym {u v : Value} (d : u.ownBlock = none ∨ u.ownBlock ≠ v.ownBlock) : v.ownBlock = none ∨ v.ownBlock ≠ u.ownBlock := by
  rcases d with e | e
  · cases hv : v.ownBlock with
    | none => exact .inl rfl
    | some k => right; rw [e]; simp
  · exact .inr (Ne.symm e)
theorem nnew {v v' : Value} {n N : Nat} (hb : v'.ownBlock = v.ownBlock ∨ v'.ownBlock = some n) (hN : N < n) (d : v.ownBlock ≠ some N) : v'.ownBlock ≠ some N := by
  rcases hb with e | e
  · rw [e]; exact d
  · rw [e]; intro h; cases h; omega

/-- the script's block N: the text, the three rows -/
structure R4 (w0 : World) (N : Nat) (s : ByteArray) (v1 v2 v3 : Value) (l1 l2 l3 : List Value) (w : World) : Prop where
  bl : Below w0.heap.size w0 w
  n0 : w0.heap.size ≤ N
  nlt : N < w.heap.size
  z : ∀ o, w.frozen? ⟨N, o, none⟩ = false
  c0 : w.cell? ⟨N, 0, none⟩ = some (.string s)
  c1 : w.cell? ⟨N, 1, none⟩ = some v1
  c2 : w.cell? ⟨N, 2, none⟩ = some v2
  c3 : w.cell? ⟨N, 3, none⟩ = some v3
  o1 : w.ownsRow w0.heap.size 5 1 v1 l1.length l1
  o2 : w.ownsRow w0.heap.size 21 1 v2 l2.length l2
  o3 : w.ownsRow w0.heap.size 21 1 v3 l3.length l3
  n1 : v1.ownBlock ≠ some N
  n2 : v2.ownBlock ≠ some N
  n3 : v3.ownBlock ≠ some N
  d12 : v1.ownBlock = none ∨ v1.ownBlock ≠ v2.ownBlock
  d13 : v1.ownBlock = none ∨ v1.ownBlock ≠ v3.ownBlock
  d23 : v2.ownBlock = none ∨ v2.ownBlock ≠ v3.ownBlock
section
variable {w0 : World} {N : Nat} {s : ByteArray} {v1 v2 v3 : Value} {l1 l2 l3 : List Value} {w w' : World}
theorem R4.alloc (h : R4 w0 N s v1 v2 v3 l1 l2 l3 w) (o : Obj) : R4 w0 N s v1 v2 v3 l1 l2 l3 (w.alloc o) := by
  obtain ⟨bl, n0, nlt, z, c0, c1, c2, c3, o1, o2, o3, n1, n2, n3, d12, d13, d23⟩ := h
  have hb : Below w.heap.size w (w.alloc o) := (Below.refl _ _).alloc (Nat.le_refl _) _
  refine ⟨bl.trans (hb.mono bl.size), n0, by simp [go_sem]; omega, fun q => ?_, ?_, ?_, ?_, ?_, o1.alloc o, o2.alloc o, o3.alloc o, n1, n2, n3, d12, d13, d23⟩
  · rw [hb.frozen (p := ⟨N, q, none⟩) nlt]; exact z q
  · rw [hb.cell (p := ⟨N, 0, none⟩) nlt]; exact c0
  · rw [hb.cell (p := ⟨N, 1, none⟩) nlt]; exact c1
  · rw [hb.cell (p := ⟨N, 2, none⟩) nlt]; exact c2
  · rw [hb.cell (p := ⟨N, 3, none⟩) nlt]; exact c3
theorem R4.drew (h : R4 w0 N s v1 v2 v3 l1 l2 l3 w) : R4 w0 N s v1 v2 v3 l1 l2 l3 w.drew :=
  ⟨h.bl.drew, h.n0, h.nlt, h.z, h.c0, h.c1, h.c2, h.c3, h.o1, h.o2, h.o3, h.n1, h.n2, h.n3, h.d12, h.d13, h.d23⟩
theorem R4.text (h : R4 w0 N s v1 v2 v3 l1 l2 l3 w) (s' : ByteArray) : R4 w0 N s' v1 v2 v3 l1 l2 l3 (w.setCell ⟨N, 0, none⟩ (.string s')) := by
  obtain ⟨bl, n0, nlt, z, c0, c1, c2, c3, o1, o2, o3, n1, n2, n3, d12, d13, d23⟩ := h
  refine ⟨bl.setCell n0 _, n0, by simpa [go_sem] using nlt, fun q => by rw [World.frozen?_setCell]; exact z q, World.cell?_setCell_same _ _ _ c0, ?_, ?_, ?_, o1.kept (grown_setCell _ _ _) (.inr n1), o2.kept (grown_setCell _ _ _) (.inr n2), o3.kept (grown_setCell _ _ _) (.inr n3), n1, n2, n3, d12, d13, d23⟩
  · rw [World.cell?_setCell_other _ _ _ _ (by simp)]; exact c1
  · rw [World.cell?_setCell_other _ _ _ _ (by simp)]; exact c2
  · rw [World.cell?_setCell_other _ _ _ _ (by simp)]; exact c3
theorem R4.step1 {v' x : Value} (h : R4 w0 N s v1 v2 v3 l1 l2 l3 w) (hg : w.grownBy w' v1.ownBlock) (ho : w'.ownsRow w0.heap.size 5 1 v' (l1.length + 1) (l1 ++ [x])) (hb : v'.ownBlock = v1.ownBlock ∨ v'.ownBlock = some w.heap.size) :
    R4 w0 N s v' v2 v3 (l1 ++ [x]) l2 l3 (w'.setCell ⟨N, 1, none⟩ v') := by
  obtain ⟨bl, n0, nlt, z, c0, c1, c2, c3, o1, o2, o3, n1, n2, n3, d12, d13, d23⟩ := h
  have hne : some N ≠ v1.ownBlock := Ne.symm n1
  have hn := nnew hb nlt n1
  have hlen : (l1 ++ [x]).length = l1.length + 1 := by simp
  rw [← hlen] at ho
  have hz := hg.size
  have cN0 : w'.cell? ⟨N, 0, none⟩ = some (.string s) := by rw [hg.cell_far ⟨N, 0, none⟩ nlt hne]; exact c0
  have cN1 : w'.cell? ⟨N, 1, none⟩ = some v1 := by rw [hg.cell_far ⟨N, 1, none⟩ nlt hne]; exact c1
  have cN2 : w'.cell? ⟨N, 2, none⟩ = some v2 := by rw [hg.cell_far ⟨N, 2, none⟩ nlt hne]; exact c2
  have cN3 : w'.cell? ⟨N, 3, none⟩ = some v3 := by rw [hg.cell_far ⟨N, 3, none⟩ nlt hne]; exact c3
  refine ⟨(bl.grown hg bl.size (fun q hq => (o1.lt q hq).1)).setCell n0 _, n0, by simp [go_sem]; omega, fun q => ?_, ?_, ?_, ?_, ?_, ho.kept (grown_setCell _ _ _) (.inr hn), (o2.kept hg (dsym d12)).kept (grown_setCell _ _ _) (.inr n2), (o3.kept hg (dsym d13)).kept (grown_setCell _ _ _) (.inr n3), hn, n2, n3, dsym (dnew hb (fun q hq => (o2.lt q hq).2) (dsym d12)), dsym (dnew hb (fun q hq => (o3.lt q hq).2) (dsym d13)), d23⟩
  · rw [World.frozen?_setCell, hg.frozen_far ⟨N, q, none⟩ nlt hne]; exact z q
  · rw [World.cell?_setCell_other _ _ _ _ (by simp)]; exact cN0
  · exact World.cell?_setCell_same _ _ _ cN1
  · rw [World.cell?_setCell_other _ _ _ _ (by simp)]; exact cN2
  · rw [World.cell?_setCell_other _ _ _ _ (by simp)]; exact cN3
theorem R4.step2 {v' x : Value} (h : R4 w0 N s v1 v2 v3 l1 l2 l3 w) (hg : w.grownBy w' v2.ownBlock) (ho : w'.ownsRow w0.heap.size 21 1 v' (l2.length + 1) (l2 ++ [x])) (hb : v'.ownBlock = v2.ownBlock ∨ v'.ownBlock = some w.heap.size) :
    R4 w0 N s v1 v' v3 l1 (l2 ++ [x]) l3 (w'.setCell ⟨N, 2, none⟩ v') := by
  obtain ⟨bl, n0, nlt, z, c0, c1, c2, c3, o1, o2, o3, n1, n2, n3, d12, d13, d23⟩ := h
  have hne : some N ≠ v2.ownBlock := Ne.symm n2
  have hn := nnew hb nlt n2
  have hlen : (l2 ++ [x]).length = l2.length + 1 := by simp
  rw [← hlen] at ho
  have hz := hg.size
  have cN0 : w'.cell? ⟨N, 0, none⟩ = some (.string s) := by rw [hg.cell_far ⟨N, 0, none⟩ nlt hne]; exact c0
  have cN1 : w'.cell? ⟨N, 1, none⟩ = some v1 := by rw [hg.cell_far ⟨N, 1, none⟩ nlt hne]; exact c1
  have cN2 : w'.cell? ⟨N, 2, none⟩ = some v2 := by rw [hg.cell_far ⟨N, 2, none⟩ nlt hne]; exact c2
  have cN3 : w'.cell? ⟨N, 3, none⟩ = some v3 := by rw [hg.cell_far ⟨N, 3, none⟩ nlt hne]; exact c3
  refine ⟨(bl.grown hg bl.size (fun q hq => (o2.lt q hq).1)).setCell n0 _, n0, by simp [go_sem]; omega, fun q => ?_, ?_, ?_, ?_, ?_, (o1.kept hg d12).kept (grown_setCell _ _ _) (.inr n1), ho.kept (grown_setCell _ _ _) (.inr hn), (o3.kept hg (dsym d23)).kept (grown_setCell _ _ _) (.inr n3), n1, hn, n3, dnew hb (fun q hq => (o1.lt q hq).2) d12, d13, dsym (dnew hb (fun q hq => (o3.lt q hq).2) (dsym d23))⟩
  · rw [World.frozen?_setCell, hg.frozen_far ⟨N, q, none⟩ nlt hne]; exact z q
  · rw [World.cell?_setCell_other _ _ _ _ (by simp)]; exact cN0
  · rw [World.cell?_setCell_other _ _ _ _ (by simp)]; exact cN1
  · exact World.cell?_setCell_same _ _ _ cN2
  · rw [World.cell?_setCell_other _ _ _ _ (by simp)]; exact cN3
theorem R4.step3 {v' x : Value} (h : R4 w0 N s v1 v2 v3 l1 l2 l3 w) (hg : w.grownBy w' v3.ownBlock) (ho : w'.ownsRow w0.heap.size 21 1 v' (l3.length + 1) (l3 ++ [x])) (hb : v'.ownBlock = v3.ownBlock ∨ v'.ownBlock = some w.heap.size) :
    R4 w0 N s v1 v2 v' l1 l2 (l3 ++ [x]) (w'.setCell ⟨N, 3, none⟩ v') := by
  obtain ⟨bl, n0, nlt, z, c0, c1, c2, c3, o1, o2, o3, n1, n2, n3, d12, d13, d23⟩ := h
  have hne : some N ≠ v3.ownBlock := Ne.symm n3
  have hn := nnew hb nlt n3
  have hlen : (l3 ++ [x]).length = l3.length + 1 := by simp
  rw [← hlen] at ho
  have hz := hg.size
  have cN0 : w'.cell? ⟨N, 0, none⟩ = some (.string s) := by rw [hg.cell_far ⟨N, 0, none⟩ nlt hne]; exact c0
  have cN1 : w'.cell? ⟨N, 1, none⟩ = some v1 := by rw [hg.cell_far ⟨N, 1, none⟩ nlt hne]; exact c1
  have cN2 : w'.cell? ⟨N, 2, none⟩ = some v2 := by rw [hg.cell_far ⟨N, 2, none⟩ nlt hne]; exact c2
  have cN3 : w'.cell? ⟨N, 3, none⟩ = some v3 := by rw [hg.cell_far ⟨N, 3, none⟩ nlt hne]; exact c3
  refine ⟨(bl.grown hg bl.size (fun q hq => (o3.lt q hq).1)).setCell n0 _, n0, by simp [go_sem]; omega, fun q => ?_, ?_, ?_, ?_, ?_, (o1.kept hg d13).kept (grown_setCell _ _ _) (.inr n1), (o2.kept hg d23).kept (grown_setCell _ _ _) (.inr n2), ho.kept (grown_setCell _ _ _) (.inr hn), n1, n2, hn, d12, dnew hb (fun q hq => (o1.lt q hq).2) d13, dnew hb (fun q hq => (o2.lt q hq).2) d23⟩
  · rw [World.frozen?_setCell, hg.frozen_far ⟨N, q, none⟩ nlt hne]; exact z q
  · rw [World.cell?_setCell_other _ _ _ _ (by simp)]; exact cN0
  · rw [World.cell?_setCell_other _ _ _ _ (by simp)]; exact cN1
  · rw [World.cell?_setCell_other _ _ _ _ (by simp)]; exact cN2
  · exact World.cell?_setCell_same _ _ _ cN3
end
structure Rx (w0 : World) (N : Nat) (s : ByteArray) (l1 l2 l3 : List Value) (w : World) : Prop where
  ex : ∃ v1 v2 v3, R4 w0 N s v1 v2 v3 l1 l2 l3 w

theorem info5 : (Tryf.prog.info? 5).map (fun i => (i.zero, i.size, i.bytes)) = some (some (.int .u8 0), 1, 1) := by kernel_rfl
theorem info21 : (Tryf.prog.info? 21).map (fun i => (i.zero, i.size, i.bytes)) = some (some (.int .i32 0), 1, 4) := by kernel_rfl
theorem zc5 : (Value.int .u8 0).cells.size = 1 := by rfl
theorem zc21 : (Value.int .i32 0).cells.size = 1 := by rfl

/-- append of one value to a row of the script -/
theorem app {w0 w : World} (base : Nat) (t e : TypeId) (z : Value) (b : Nat) (x : Value) (xs : List Value) (v : Value) (ht : Tryf.prog.underlying t = some (.slice e)) (hi : (Tryf.prog.info? e).map (fun i => (i.zero, i.size, i.bytes)) = some (some z, 1, b)) (hz : z.cells.size = 1) (hb : b ≤ 8)
    (hown : w.ownsRow base e 1 v xs.length xs) (hx : x.oneCell' = true) (hl : xs.length ≤ 1000) (hbase : base ≤ w.heap.size) :
    ∃ (g c : Nat) (w' : World), (Builtin.append_ #[t, t] t #[v, .slice (some ⟨w.heap.size, 0, none⟩) 1 1]).run Tryf.prog (w.alloc (.cells #[x] e)) = .ok (.slice (some ⟨g, 0, none⟩) (xs.length + 1) c) w' ∧ w'.ownsRow base e 1 (.slice (some ⟨g, 0, none⟩) (xs.length + 1) c) (xs.length + 1) (xs ++ [x]) ∧ (w.alloc (.cells #[x] e)).grownBy w' v.ownBlock ∧ ((Value.slice (some ⟨g, 0, none⟩) (xs.length + 1) c).ownBlock = v.ownBlock ∨ (Value.slice (some ⟨g, 0, none⟩) (xs.length + 1) c).ownBlock = some (w.alloc (.cells #[x] e)).heap.size) := by
  obtain ⟨i, hi1, h0, h1, h2⟩ := info_parts hi
  obtain ⟨v', w', a1, a2, a3, _, a5⟩ := run_append_own_at (P := Tryf.prog) (w.alloc (.cells #[x] e)) base t t e i z 1 b ht hi1 h0 h1 h2 hz (by decide) v xs.length xs (hown.alloc _) ⟨w.heap.size, 0, none⟩ 1 1 [x] rfl (fun j u hj => fresh_cells w #[x] e _ rfl j u (by simpa using hj)) (by intro u hu; simp at hu; subst hu; exact hx) (by unfold maxLen; omega) (by have : (xs.length + 1) * b ≤ 1001 * 8 := Nat.mul_le_mul (by omega) hb; omega) (by simp [go_sem]; omega)
  rcases a2.2 with ⟨_, e0⟩ | ⟨g, c, cur, rfl, _⟩
  · omega
  · exact ⟨g, c, w', a1, a2, a3, a5⟩

theorem wrapS {n : Nat} (h : n ≤ 1048576) : IntKind.i32.wrap (n : Int) = n := by
  unfold IntKind.wrap
  simp [IntKind.bits, IntKind.signed]
  omega
theorem step_run {P : Program} {ops : Array Oper} {o : Oper} {a : Act} {w : World} {K : Act → World → Prop} {Q : Exit → Act → World → Prop} {E : Prop}
    (hg : o.guard = none) (s x : Operand) (t : TypeId) (hop : o.op = Op.call { callee := Callee.builtin Builtin.append, args := #[s, x], argTypes := #[t, t] })
    (v xv v' : Value) (w' : World) (hs : a.eval s = v) (hx : a.eval x = xv) (hrun : (Builtin.append_ #[t, t] o.type #[v, xv]).run P w = .ok v' w') (hK : K (a.put o.dst v') w') :
    if Region.wanted o (yielded ops a.tmps) = true then Oper.wp P o a w K Q else E := by
  have hw : Region.wanted o (yielded ops a.tmps) = true := by simp [Region.wanted, hg]
  rw [if_pos hw]
  unfold Oper.wp
  simp [execOp, hop, resolve, invoke, builtin, hs, hx, hrun, Result.andThen]
  exact hK
theorem list_run {P : Program} {ops : Array Oper} {rest : List Oper} {o : Oper} {a : Act} {w : World} {Q : Exit → Act → World → Prop} (hgd : o.guard = none) (s x : Operand) (t : TypeId)
    (ho : o.op = .call { callee := .builtin .append, args := #[s, x], argTypes := #[t, t] })
    (v xv v' : Value) (w' : World) (hs : a.eval s = v) (hx : a.eval x = xv) (hrun : (Builtin.append_ #[t, t] o.type #[v, xv]).run P w = .ok v' w') (h : wpList P ops Q rest (a.put o.dst v') w') :
    wpList P ops Q (o :: rest) a w := by
  refine wpList_plain hgd fun K hK => ?_
  unfold Oper.wp execOp
  simp only [ho, resolve, invoke, builtin, Sem.run_bind, Sem.run_pure, Result.andThen_ok, List.map_toArray, List.map_cons, List.map_nil, hs, hx, hrun]
  exact hK _ _ h

set_option maxRecDepth 20000 in
set_option maxHeartbeats 4000000 in
theorem add15 (w0 : World) (N : Nat) (s t : ByteArray) (l1 l2 l3 : List Value) (k : Int) (w : World) (h : Rx w0 N s l1 l2 l3 w) (h1 : l1.length ≤ 1000) (h2 : l2.length ≤ 1000) (h3 : l3.length ≤ 1000) (hs : s.size + t.size ≤ 1048576) :
    Calls Tryf.prog 15 #[.pointer (some ⟨N, 0, none⟩), .int .u8 k, .string t] w fun e w' => e = .returned (.tuple #[]) ∧ Rx w0 N (s ++ t) (l1 ++ [.int .u8 k]) (l2 ++ [.int .i32 s.size]) (l3 ++ [.int .i32 t.size]) w' := by
  obtain ⟨v1, v2, v3, hR⟩ := h.ex
  have q1 := hR.c1
  have HN := hid hR.nlt
  obtain ⟨g1, k1, w1, ha1, ho1, hg1, hb1⟩ := app (w0 := w0) w0.heap.size 24 5 (.int .u8 0) 1 (.int .u8 k) l1 v1 Tryf.underlying24 info5 zc5 (by decide) hR.o1 rfl h1 hR.bl.size
  have hRa1 := hR.alloc (.cells #[.int .u8 k] 5)
  have hR1 := hRa1.step1 hg1 ho1 hb1
  have hne1 : some N ≠ v1.ownBlock := Ne.symm hR.n1
  have e1 := (hg1.cell_far ⟨N, 1, none⟩ hRa1.nlt hne1).trans hRa1.c1
  have z1 := (hg1.frozen_far ⟨N, 1, none⟩ hRa1.nlt hne1).trans (hRa1.z 1)
  have HA1 := hid ha1
  have HR1 := hid hR1
  clear h hR hR1 hRa1 ho1 hg1 hb1 hne1 ha1
  go_enter Tryf.func15, Tryf.ntmps15
  go_wp2_with (at_builtin; go_loud (refine list_run rfl _ _ 24 rfl v1 (.slice (some ⟨w.heap.size, 0, none⟩) 1 1) _ w1 rfl rfl HA1.out ?_))
  clear q1 e1 z1 HA1
  have hRd := HR1.out.drew
  have q0 := HR1.out.c0
  have q2 := HR1.out.c2
  have r0 := hRd.c0
  have r2 := hRd.c2
  obtain ⟨g2, k2, w2, ha2, ho2, hg2, hb2⟩ := app (w0 := w0) w0.heap.size 25 21 (.int .i32 0) 4 (.int .i32 (IntKind.i32.wrap s.size)) l2 v2 Tryf.underlying25 info21 zc21 (by decide) hRd.o2 rfl h2 hRd.bl.size
  have hRa2 := hRd.alloc (.cells #[.int .i32 (IntKind.i32.wrap s.size)] 21)
  have hR2 := hRa2.step2 hg2 ho2 hb2
  have hne2 : some N ≠ v2.ownBlock := Ne.symm hRd.n2
  have e2 := (hg2.cell_far ⟨N, 2, none⟩ hRa2.nlt hne2).trans hRa2.c2
  have z2 := (hg2.frozen_far ⟨N, 2, none⟩ hRa2.nlt hne2).trans (hRa2.z 2)
  have HA2 := hid ha2
  have HR2 := hid hR2
  have hsz2 : (w1.setCell ⟨N, 1, none⟩ (.slice (some ⟨g1, 0, none⟩) (l1.length + 1) k1)).drew.heap.size = w1.heap.size := by simp [go_sem]
  rw [hsz2] at HA2
  have r2a := hRa2.c2
  have hN1 : N < w1.heap.size := by have := hRd.nlt; rw [hsz2] at this; exact this
  clear hRd hR2 hRa2 ho2 hg2 hb2 hne2 ha2
  go_region_law (refine step_run rfl (.tmp 20) (.tmp 27) 25 rfl v2 (.slice (some ⟨w1.heap.size, 0, none⟩) 1 1) _ w2 (by simp [Act.eval]) (by simp [Act.eval]) HA2.out ?_)
  all_goals
    clear q0 q2 r0 r2 e2 z2 HA2 hsz2 r2a hN1 HR1
    have hR2 := HR2.out
    have q3 := hR2.c3
    have hs1 : s.size ≤ 1048576 := by omega
    have ht1 : t.size ≤ 1048576 := by omega
    obtain ⟨g3, k3, w3, ha3, ho3, hg3, hb3⟩ := app (w0 := w0) w0.heap.size 25 21 (.int .i32 0) 4 (.int .i32 t.size) l3 v3 Tryf.underlying25 info21 zc21 (by decide) hR2.o3 rfl h3 hR2.bl.size
    have hRa3 := hR2.alloc (.cells #[.int .i32 t.size] 21)
    have hR3 := hRa3.step3 hg3 ho3 hb3
    have hne3 : some N ≠ v3.ownBlock := Ne.symm hR2.n3
    have e3 := (hg3.cell_far ⟨N, 3, none⟩ hRa3.nlt hne3).trans hRa3.c3
    have z3 := (hg3.frozen_far ⟨N, 3, none⟩ hRa3.nlt hne3).trans (hRa3.z 3)
    have e30 := (hg3.cell_far ⟨N, 0, none⟩ hRa3.nlt hne3).trans hRa3.c0
    have z30 := (hg3.frozen_far ⟨N, 0, none⟩ hRa3.nlt hne3).trans (hRa3.z 0)
    have hsz3 : (w2.setCell ⟨N, 2, none⟩ (.slice (some ⟨g2, 0, none⟩) (l2.length + 1) k2)).heap.size = w2.heap.size := by simp [go_sem]
    rw [hsz3] at ha3
    have HA3 := hid ha3
    have HR3 := hid hR3
    clear hR2 hRa3 hR3 ho3 hg3 hb3 hne3 hsz3 ha3 HR2
    go_wp2_with (at_builtin; go_loud (refine list_run rfl _ _ 25 rfl v3 (.slice (some ⟨w2.heap.size, 0, none⟩) 1 1) _ w3 rfl rfl HA3.out ?_))
    go_end0
    have h4 := HR3.out.text (s ++ t)
    rw [wrapS hs1] at h4
    exact ⟨rfl, ⟨_, _, _, h4⟩⟩
end Go.Proofs.YtggfffdbohmpnaaFmt
