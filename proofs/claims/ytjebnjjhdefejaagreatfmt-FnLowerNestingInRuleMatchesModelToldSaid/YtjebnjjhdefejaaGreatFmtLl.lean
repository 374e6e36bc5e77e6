/-
  A style rule lowered: what it asks and answers. Conditions: each theorem's own.
-/
import Derived.Test.YtjebnjjhdefejaaGreatFmtLj
namespace Go.Proofs.YtjebnjjhdefejaaGreatFmt
open Go.RowKit Go.Lib Go.ChangeMaps
structure LowR (k lo hi b sb : Nat) (lw : Value) (n : Nat) (w : World) (e : Ending) (w' : World) : Prop where
  ex : ∃ lw' n', e = .returned lw' ∧ n ≤ n' ∧ n' ≤ n + k ∧ OwnRu w' lw' n' ∧ FrM (fun g => (lo ≤ g ∧ g < hi) ∨ g = b ∨ g = sb ∨ lw.ownBlock = some g) w w' ∧ OwnG w lw lw'
structure LowH (d : Nat) (kids : List Tr) (w : World) (lo hi b sb sc m : Nat) (x rs u : Value) (S : Nat → Prop) (lw : Value) (n pb : Nat) : Prop where
  hb : w.heap[b]? = some (.cells #[.slice (some ⟨sb, 0, none⟩) 1 sc, rs, x] 114 (0, 0))
  hs : w.heap[sb]? = some (.cells #[u] 120 (0, 0))
  hu : RowL CpH w S u (us m)
  m1 : 1 ≤ m
  hkids : KidsR (fun lo hi => InT d w lo hi) w lo hi rs kids
  klen : kids.length ≤ 1000000
  hi_le : hi ≤ w.heap.size
  own : OwnRu w lw n
  par : Par w pb
  ob : b < lo ∨ hi ≤ b
  osb : sb < lo ∨ hi ≤ sb
  opb : pb < lo ∨ hi ≤ pb
  olw : ∀ g, lw.ownBlock = some g → g < lo ∨ hi ≤ g
  oS : ∀ g, S g → g < w.heap.size ∧ g ≠ b ∧ g ≠ sb ∧ some g ≠ lw.ownBlock ∧ (g < lo ∨ hi ≤ g)
  md : m + d ≤ 10000
  nn : n + 1 + cntTL d kids ≤ 1000000
def PLow (d : Nat) : Prop := ∀ (kids : List Tr) (w : World) (lo hi b sb sc m : Nat) (x rs u : Value) (S : Nat → Prop) (lw : Value) (n pb : Nat) (loc : Int), LowH d kids w lo hi b sb sc m x rs u S lw n pb →
  Calls Tryz.prog 19 #[.pointer (some ⟨pb, 0, none⟩), .agg #[.iface 110 (.pointer (some ⟨b, 0, none⟩)), .int .i32 loc], lw] w fun e w' => LowR (1 + cntTL d kids) lo hi b sb lw n w e w'
theorem asR_S (v : Value) (w : World) : (Instr.typeAssert (.iface 110 v) 35 110 true).run Tryz.prog w = .ok (.tuple #[v, .bool true]) w := by kernel_rfl
def zCX : Value := .agg #[.slice none 0 0]
def zCP : Value := .agg #[.pointer none, .slice none 0 0, .slice none 0 0, .int .i32 0, .int .u8 0, .bool false]
/-- compounds put one behind the other, in new blocks -/
structure LwI (P : Nat → Prop) (B m : Nat) (W : World) (g : Nat) (v13 v64 : Value) (wx : World) : Prop where
  ex : ∃ i xs, i + g = m ∧ v64 = .int .i64 (i : Nat) ∧ wx.ownsRow 0 134 6 v13 i xs ∧ (∀ j, j < i → CpH.E wx P (fun t => xs[j * 6 + t]?) ()) ∧ (∀ q, v13.ownBlock = some q → B ≤ q) ∧ Below B W wx
theorem own_made (w : World) (z : Value) (k : Nat) (e : TypeId) (sz c : Nat) (hk : k = c * sz) (hc : c ≤ maxLen) : (w.alloc (mkO z k e)).ownsRow 0 e sz (.slice (some ⟨w.heap.size, 0, none⟩) 0 c) 0 [] := by
  refine ⟨by simp, Or.inr ⟨w.heap.size, c, _, rfl, Nat.zero_le _, heap_alloc_new _ _, Nat.zero_le _, hc, by simp [madeCells, hk], by simp⟩⟩
/-- one compound more -/
theorem LwI.next {P : Nat → Prop} {B m : Nat} {W wx w' : World} {i g : Nat} {xs : List Value} {v v' s : Value} (hig : i + (g + 1) = m) (ho : wx.ownsRow 0 134 6 v i xs) (hE : ∀ j, j < i → CpH.E wx P (fun t => xs[j * 6 + t]?) ()) (hB : ∀ q, v.ownBlock = some q → B ≤ q) (hb : Below B W wx) (hBs : B ≤ wx.heap.size) (hP : ∀ q, P q → q < B) (hs : RowL HovT wx P s [()])
    (ho' : w'.ownsRow 0 134 6 v' (i + 1) (xs ++ [.pointer none, s, .slice none 0 0, .int .i32 0, .int .u8 0, .bool false])) (hg : wx.grownBy w' v.ownBlock) (hat : v'.ownBlock = v.ownBlock ∨ ∃ g, v'.ownBlock = some g ∧ wx.heap.size ≤ g) : LwI P B m W g v' (.int .i64 ((i + 1 : Nat) : Int)) w' := by
  have hx : xs.length = i * 6 := by simpa using ho.1
  have hkp : ∀ q, P q → w'.heap[q]? = wx.heap[q]? := fun q hq => hg.block q (by have := hP q hq; omega) (fun e => by have := hB q e.symm; have := hP q hq; omega)
  have kp : Keep wx w' P P := ⟨hg.size, fun q hq _ => hkp q hq, fun q hq _ => hq⟩
  refine ⟨i + 1, _, by omega, rfl, ho', fun j hj => ?_, fun q hq => ?_, hb.trans ⟨hg.os, hg.tape, hg.output, hg.size, fun q hq => hg.block q (by omega) (fun e => by have := hB q e.symm; omega)⟩⟩
  · by_cases e : j = i
    · subst e
      have hat : ∀ t, t < 6 → (xs ++ [.pointer none, s, .slice none 0 0, .int .i32 0, .int .u8 0, .bool false])[j * 6 + t]? = ([.pointer none, s, .slice none 0 0, .int .i32 0, .int .u8 0, .bool false] : List Value)[t]? := fun t _ => by
        rw [List.getElem?_append_right (by omega), hx, Nat.add_sub_cancel_left]
      exact ⟨hat 0 (by omega), ⟨s, hat 1 (by omega), hs.keep kp⟩, hat 2 (by omega), hat 3 (by omega), hat 4 (by omega), hat 5 (by omega)⟩
    · exact CpH.loc (fun t ht => by rw [List.getElem?_append_left (by omega)]) (CpH.keep kp (hE j (by omega)))
  · rcases hat with h | ⟨g, h, hg⟩
    · exact hB q (h ▸ hq)
    · rw [h] at hq; injection hq with hq; omega
/-- the row of compounds done -/
theorem LwI.done {P : Nat → Prop} {B m : Nat} {W wx : World} {v v64 : Value} (h : LwI P B m W 0 v v64 wx) (h1 : 1 ≤ m) : ∃ q c, v = .slice (some ⟨q, 0, none⟩) m c ∧ m ≤ c ∧ B ≤ q ∧ q < wx.heap.size ∧ RowL CpH wx (fun g => P g ∨ g = q) v (us m) ∧ Below B W wx := by
  obtain ⟨i, xs, hi, _, ho, hE, hB, hb⟩ := h.ex
  obtain rfl : i = m := by omega
  obtain ⟨a, c, hv, hc⟩ := own_shape ho
  have ho2 := ho.2
  rcases ho2 with ⟨_, h0⟩ | ⟨q, cap, cur, hv2, _, hh, hc2, _⟩
  · omega
  · have hq : v.ownBlock = some q := by rw [hv2]; rfl
    refine ⟨q, cap, hv2, hc2, hB q hq, (ho.lt q hq).2, ⟨some ⟨q, 0, none⟩, cap, by rw [hv2]; simp, fun j hj => ?_⟩, hb⟩
    have hj' : j < i := by simpa using hj
    subst hv2
    refine ⟨q, rfl, Or.inr rfl, (ho.lt q hq).2, ?_⟩
    have hu : (us i)[j] = () := rfl
    exact CpH.loc (fun t ht => (World.ownsRow.cellAt ho (j * 6 + t) (by have := ho.1; omega)).symm) (CpH.keep (P' := fun g => P g ∨ g = q) ⟨Nat.le_refl _, fun _ _ _ => rfl, fun g hg _ => Or.inl hg⟩ (hE j hj'))
/-- the parents' selectors as they stand for the children -/
structure LoD (w : World) (S : Nat → Prop) (m b sb : Nat) (loc : Int) (v9 v10 : Value) (wx : World) : Prop where
  fr : FrM (fun g => g = sb) w wx
  r9 : RowL CxH wx (fun g => S g ∨ (w.heap.size < g ∧ g < wx.heap.size)) v9 [m]
  r10 : RowL CxH wx (fun g => S g ∨ (w.heap.size < g ∧ g < wx.heap.size)) v10 [m]
  box : wx.heap[w.heap.size]? = some (.cells #[.iface 110 (.pointer (some ⟨b, 0, none⟩)), .int .i32 loc] 39 (0, 0))
structure LoS (w W3 : World) (S : Nat → Prop) (m b sb : Nat) (loc : Int) (v9i v10i : Value) (g : Nat) (v9 v10 v52 : Value) (wx : World) : Prop where
  ex : (g = 1 ∧ v9 = v9i ∧ v10 = v10i ∧ v52 = .int .i64 0 ∧ W3 = wx) ∨ (g = 0 ∧ v52 = .int .i64 1 ∧ LoD w S m b sb loc v9 v10 wx)
theorem row_CX {wx : World} {P : Nat → Prop} {v : Value} {q m c : Nat} (h : wx.ownsRow 0 120 1 v 1 [.slice (some ⟨q, 0, none⟩) m c]) (hc : m ≤ c) (hr : RowL CpH wx P (.slice (some ⟨q, 0, none⟩) m c) (us m)) (hP : ∀ g, v.ownBlock = some g → P g) : RowL CxH wx P v [m] := by
  have ho2 := h.2
  rcases ho2 with ⟨_, h0⟩ | ⟨g, cap, cur, rfl, _⟩
  · cases h0
  · refine ⟨_, cap, rfl, fun i hi => ⟨g, rfl, hP g rfl, (h.lt g rfl).2, ?_⟩⟩
    have hi0 : i = 0 := by simp at hi; omega
    subst hi0
    exact ⟨_, c, World.ownsRow.cellAt h 0 (by omega), hc, hr⟩
theorem row_CXkeep {w w' : World} {v : Value} {P : Nat → Prop} {ms : List Unit} (h : RowL CpH w P v ms) {row : Option Nat} (hg : w.grownBy w' row) (hP : ∀ g, P g → some g ≠ row) : RowL CpH w' P v ms := grown_keep h hg hP (fun _ h => h)
theorem step_copy {P : Program} {ops : Array Oper} {o : Oper} {a : Act} {w : World} {K : Act → World → Prop} {Q : Exit → Act → World → Prop} {E : Prop}
    (hg : o.guard = none) (s x : Operand) (t t2 : TypeId) (hop : o.op = Op.call { callee := Callee.builtin Builtin.copy, args := #[s, x], argTypes := #[t, t2] })
    (v xv v' : Value) (w' : World) (hs : a.eval s = v) (hx : a.eval x = xv) (hrun : (Builtin.copy_ #[t, t2] o.type #[v, xv]).run P w = .ok v' w') (hK : K (a.put o.dst v') w') :
    if Region.wanted o (yielded ops a.tmps) = true then Oper.wp P o a w K Q else E := by
  have hw : Region.wanted o (yielded ops a.tmps) = true := by simp [Region.wanted, hg]
  rw [if_pos hw]
  unfold Oper.wp
  simp [execOp, hop, resolve, invoke, builtin, hs, hx, hrun, Result.andThen]
  exact hK
theorem step_slice {P : Program} {ops : Array Oper} {o : Oper} {a : Act} {w : World} {K : Act → World → Prop} {Q : Exit → Act → World → Prop} {E : Prop}
    (hg : o.guard = none) (x l : Operand) (t : TypeId) (hop : o.op = Op.slice t x (some l) none none)
    (v lv v' : Value) (hs : a.eval x = v) (hl : a.eval l = lv) (hrun : (Instr.sliceAt t v (some lv) none none).run P w = .ok v' w) (hK : K (a.put o.dst v') w) :
    if Region.wanted o (yielded ops a.tmps) = true then Oper.wp P o a w K Q else E := by
  have hw : Region.wanted o (yielded ops a.tmps) = true := by simp [Region.wanted, hg]
  rw [if_pos hw]
  unfold Oper.wp
  simp [execOp, hop, hs, hl, hrun, Result.andThen]
  exact hK
/-- rules[n:] -/
theorem slice_from (a : Option Addr) (n k c : Nat) (hn : n ≤ k) (w : World) : (Instr.sliceAt 43 (.slice a k c) (some (.int .i64 (n : Int))) none none).run Tryz.prog w = .ok (.slice (if c = n then a else a.map (·.add (n * 2))) (k - n) (c - n)) w := by
  have hu : Tryz.prog.underlying 43 = some (.slice (Tryz.prog.elem 43)) := by kernel_rfl
  rw [Go.run_sliceAt_slice (h := hu), Go.run_slice_l (ht := hu) (h0 := by omega) (h1 := by omega)]
  have hs : (sizeOf (Tryz.prog.elem 43)).run Tryz.prog w = .ok 2 w := by kernel_rfl
  rw [hs]
  simp [Result.andThen, sliced]
end Go.Proofs.YtjebnjjhdefejaaGreatFmt
