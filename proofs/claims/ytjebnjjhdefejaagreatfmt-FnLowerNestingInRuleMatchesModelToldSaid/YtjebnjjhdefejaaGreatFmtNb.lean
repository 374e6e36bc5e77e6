/-
  The model's lowering: its rows. Conditions: each theorem's own.
-/
import Derived.Test.YtjebnjjhdefejaaGreatFmtNa
namespace Go.Proofs.YtjebnjjhdefejaaGreatFmt
open Go.RowKit Go.Lib Go.ChangeMaps
/-- the tree of numbers, by its block -/
structure TreeP (w : World) (n : Nat) (par : Nat → Option Nat) (kd : Nat → Nat) (tb : Nat) : Prop where
  ex : ∃ kb kc cb cc ra rl rc pb pc, w.heap[tb]? = some (.cells (treeC n kb kc cb cc ra rl rc pb pc) 30 (0, 0)) ∧ TreeAt w n par kd kb cb ra rc pb
theorem TreeP.below {w w' : World} {n : Nat} {par : Nat → Option Nat} {kd : Nat → Nat} {tb : Nat} (h : TreeP w n par kd tb) (hb : Below w.heap.size w w') : TreeP w' n par kd tb := by
  obtain ⟨kb, kc, cb, cc, ra, rl, rc, pb, pc, h1, h2⟩ := h.ex
  exact ⟨kb, kc, cb, cc, ra, rl, rc, pb, pc, (hb.block _ (heap_lt h1)).trans h1, h2.below (Nat.le_refl _) hb⟩
def OwnN (w : World) (v v' : Value) : Prop := v'.ownBlock = v.ownBlock ∨ ∃ g, v'.ownBlock = some g ∧ w.heap.size ≤ g
structure TopMR (out ts : List Tr) (v : Value) (P : Nat → Prop) (w : World) (e : Ending) (w' : World) : Prop where
  ex : ∃ v' n' P', e = .returned v' ∧ OutD w' v' n' (out ++ ts) P' ∧ w.grownBy w' v.ownBlock ∧ OwnN w v v' ∧ ∀ g, P' g → P g ∨ w.heap.size ≤ g
structure CtxMR (b : Bool) (ts : List Tr) (w : World) (e : Ending) (w' : World) : Prop where
  ex : ∃ s n' P', e = .returned (.tuple #[.bool b, s]) ∧ OutD w' s n' ts P' ∧ Below w.heap.size w w' ∧ (∀ g, s.ownBlock = some g → w.heap.size ≤ g) ∧ ∀ g, P' g → w.heap.size ≤ g
def MTop (n : Nat) (par : Nat → Option Nat) (kd : Nat → Nat) (tb d : Nat) : Prop :=
  ∀ (i : Nat) (w : World) (v : Value) (k : Nat) (out : List Tr) (P : Nat → Prop), i < n → n ≤ i + d → TreeP w n par kd tb → OutD w v k out P → k + cntT d (treeM par kd n d i) ≤ 1000000 →
    Calls Tryz.prog 13 #[.pointer (some ⟨tb, 0, none⟩), .int .i64 (i : Int), v] w fun e w' => TopMR out (lowM d false (treeM par kd n d i)) v P w e w'
def MCtx (n : Nat) (par : Nat → Option Nat) (kd : Nat → Nat) (tb d : Nat) : Prop :=
  ∀ (i : Nat) (w : World), i < n → n ≤ i + d → TreeP w n par kd tb → cntT d (treeM par kd n d i) ≤ 1000000 →
    Calls Tryz.prog 20 #[.pointer (some ⟨tb, 0, none⟩), .int .i64 (i : Int)] w fun e w' => CtxMR (decide (kd i = 0)) (lowM d true (treeM par kd n d i)) w e w'
theorem below_grown {w w' : World} (r : Option Nat) (h : Below w.heap.size w w') : w.grownBy w' r := ⟨h.os, h.tape, h.output, h.size, fun k hk _ => h.block k hk⟩
/-- grown from a row that is younger than B, over a world that is below B -/
theorem below_grow {B : Nat} {w a b : World} {v : Value} (h : Below B w a) (hB : B ≤ a.heap.size) (hg : a.grownBy b v.ownBlock) (hv : ∀ g, v.ownBlock = some g → B ≤ g) : Below B w b :=
  ⟨hg.os.trans h.os, hg.tape.trans h.tape, hg.output.trans h.output, by have := hg.size; have := h.size; omega, fun k hk => (hg.block k (by omega) (fun e => by have := hv k e.symm; omega)).trans (h.block k hk)⟩
/-- rules of the model put into one row, one rule after another -/
structure LsI (d : Nat) (W : World) (ks : List Nat) (f : Nat → Tr) (g : Nat) (vl vi : Value) (wx : World) : Prop where
  ex : ∃ pre rest nl Pl, ks = pre ++ rest ∧ rest.length = g ∧ vi = .int .i64 (pre.length : Nat) ∧ OutD wx vl nl ((pre.map f).flatMap (lowM d false)) Pl ∧ Below W.heap.size W wx ∧ (∀ g, vl.ownBlock = some g → W.heap.size ≤ g) ∧ (∀ g, Pl g → W.heap.size ≤ g)
theorem LsI.start (d : Nat) (W : World) (ks : List Nat) (f : Nat → Tr) : LsI d W ks f ks.length (.slice none 0 0) (.int .i64 0) W :=
  ⟨[], ks, 0, _, rfl, rfl, rfl, OutD.nil W, Below.refl _ _, fun g hg => (by cases hg), fun g hg => hg.elim⟩
theorem LsI.next {d : Nat} {W wx w1 : World} {ks pre rest : List Nat} {k : Nat} {f : Nat → Tr} {vl v1 : Value} {n1 : Nat} {Pl P1 : Nat → Prop} (e : ks = pre ++ k :: rest) (hb : Below W.heap.size W wx) (ho : ∀ g, vl.ownBlock = some g → W.heap.size ≤ g) (hP : ∀ g, Pl g → W.heap.size ≤ g)
    (h1 : OutD w1 v1 n1 ((pre.map f).flatMap (lowM d false) ++ lowM d false (f k)) P1) (h2 : wx.grownBy w1 vl.ownBlock) (h3 : OwnN wx vl v1) (h4 : ∀ g, P1 g → Pl g ∨ wx.heap.size ≤ g) : LsI d W ks f rest.length v1 (.int .i64 ((pre.length + 1 : Nat) : Int)) w1 := by
  have hs := hb.size
  refine ⟨pre ++ [k], rest, n1, P1, by rw [e]; simp, rfl, by simp, by simpa using h1, below_grow hb hs h2 ho, fun g hg => ?_, fun g hg => ?_⟩
  · rcases h3 with h | ⟨g', h, hq⟩
    · exact ho g (h ▸ hg)
    · rw [h] at hg; have := Option.some.inj hg; omega
  · rcases h4 g hg with h | h
    · exact hP g h
    · omega
/-- the children of a style rule: those that stay, those hoisted -/
structure MdL (d : Nat) (W : World) (ks : List Nat) (f : Nat → Tr) (g : Nat) (vk va vi : Value) (wx : World) : Prop where
  ex : ∃ pre rest nk na Pa, ks = pre ++ rest ∧ rest.length = g ∧ vi = .int .i64 (pre.length : Nat) ∧ OutD wx vk nk (keptM (pre.map f)) (fun _ => False) ∧ OutD wx va na ((pre.map f).flatMap (lowM d true)) Pa ∧ Below W.heap.size W wx ∧ (∀ g, vk.ownBlock = some g → W.heap.size ≤ g ∧ va.ownBlock ≠ some g ∧ ¬ Pa g) ∧ (∀ g, va.ownBlock = some g → W.heap.size ≤ g) ∧ (∀ g, Pa g → W.heap.size ≤ g)
theorem MdL.start (d : Nat) (W : World) (ks : List Nat) (f : Nat → Tr) : MdL d W ks f ks.length (.slice none 0 0) (.slice none 0 0) (.int .i64 0) W :=
  ⟨[], ks, 0, 0, _, rfl, rfl, rfl, OutD.nil W, OutD.nil W, Below.refl _ _, fun g hg => (by cases hg), fun g hg => (by cases hg), fun g hg => hg.elim⟩
theorem MdL.app {d : Nat} {W w2 : World} {ks pre rest : List Nat} {k : Nat} {f : Nat → Tr} {vk va s : Value} {nk na ns : Nat} {Pa Ps : Nat → Prop} (e : ks = pre ++ k :: rest) (hb : Below W.heap.size W w2) (hk : OutD w2 vk nk (keptM ((pre ++ [k]).map f)) (fun _ => False)) (ha : OutD w2 va na ((pre.map f).flatMap (lowM d true)) Pa)
    (hs : OutD w2 s ns (lowM d true (f k)) Ps) (h1 : ∀ g, vk.ownBlock = some g → W.heap.size ≤ g ∧ va.ownBlock ≠ some g ∧ ¬ Pa g ∧ ¬ Ps g) (h2 : ∀ g, va.ownBlock = some g → W.heap.size ≤ g) (h3 : ∀ g, Pa g → W.heap.size ≤ g) (h4 : ∀ g, Ps g → W.heap.size ≤ g ∧ some g ≠ va.ownBlock) (hn : na + ns ≤ 1000000) :
    ∃ v3 w3, (Builtin.append_ #[46, 46] 46 #[va, s]).run Tryz.prog w2 = .ok v3 w3 ∧ MdL d W ks f rest.length vk v3 (.int .i64 ((pre.length + 1 : Nat) : Int)) w3 := by
  obtain ⟨v3, w3, q1, q2, q3, q4⟩ := app_twoD ha hs (fun g hg => (h4 g hg).2) (by omega)
  have hs2 := hb.size
  refine ⟨v3, w3, q1, pre ++ [k], rest, nk, na + ns, _, by rw [e]; simp, rfl, by simp, hk.grown q3 (fun g hg => ?_), by simpa using q2, below_grow hb hs2 q3 h2, fun g hg => ⟨(h1 g hg).1, fun h => ?_, fun h => ?_⟩, fun g hg => ?_, fun g hg => ?_⟩
  · rcases hg with h | h
    · exact h.elim
    · exact fun e => (h1 g h).2.1 e.symm
  · rcases q4 with q | ⟨g', q, hq⟩
    · exact (h1 g hg).2.1 (q ▸ h)
    · rw [q] at h; have := Option.some.inj h; have := hk.ownlt hg; omega
  · rcases h with h | h
    · exact (h1 g hg).2.2.1 h
    · exact (h1 g hg).2.2.2 h
  · rcases q4 with q | ⟨g', q, hq⟩
    · exact h2 g (q ▸ hg)
    · rw [q] at hg; have := Option.some.inj hg; omega
  · rcases hg with h | h
    · exact h3 g h
    · exact (h4 g h).1
/-- a child that is hoisted or drops out -/
theorem MdL.hoist {d : Nat} {W wx w1 : World} {ks pre rest : List Nat} {k : Nat} {f : Nat → Tr} {vk va s : Value} {nk na ns : Nat} {Pa Ps : Nat → Prop} (e : ks = pre ++ k :: rest) (hk : OutD wx vk nk (keptM (pre.map f)) (fun _ => False)) (ha : OutD wx va na ((pre.map f).flatMap (lowM d true)) Pa) (hb : Below W.heap.size W wx) (h1 : ∀ g, vk.ownBlock = some g → W.heap.size ≤ g ∧ va.ownBlock ≠ some g ∧ ¬ Pa g) (h2 : ∀ g, va.ownBlock = some g → W.heap.size ≤ g) (h3 : ∀ g, Pa g → W.heap.size ≤ g) (hf : (f k).kind ≠ 0)
    (hs : OutD w1 s ns (lowM d true (f k)) Ps) (hb1 : Below wx.heap.size wx w1) (h4 : ∀ g, Ps g → wx.heap.size ≤ g) (hn : na + ns ≤ 1000000) :
    ∃ v3 w3, (Builtin.append_ #[46, 46] 46 #[va, s]).run Tryz.prog w1 = .ok v3 w3 ∧ MdL d W ks f rest.length vk v3 (.int .i64 ((pre.length + 1 : Nat) : Int)) w3 := by
  have hsz := hb.size
  refine MdL.app (nk := nk) e (hb.trans (hb1.mono hsz)) ?_ (ha.below hb1) hs (fun g hg => ⟨(h1 g hg).1, (h1 g hg).2.1, (h1 g hg).2.2, fun h => ?_⟩) h2 h3 (fun g hg => ⟨by have := h4 g hg; omega, fun e => ?_⟩) hn
  · rw [List.map_append]
    show OutD w1 vk nk (keptM (pre.map f ++ [f k])) _
    rw [keptM_snoc, if_neg hf, List.append_nil]
    exact hk.below hb1
  · have := h4 g h; have := hk.ownlt hg; omega
  · have := h4 g hg; have := ha.ownlt e.symm; omega
/-- a child that stays -/
theorem MdL.stay {d : Nat} {W wx w1 : World} {ks pre rest : List Nat} {k : Nat} {f : Nat → Tr} {vk va s : Value} {nk na ns : Nat} {Pa Ps : Nat → Prop} (e : ks = pre ++ k :: rest) (hk : OutD wx vk nk (keptM (pre.map f)) (fun _ => False)) (ha : OutD wx va na ((pre.map f).flatMap (lowM d true)) Pa) (hb : Below W.heap.size W wx) (h1 : ∀ g, vk.ownBlock = some g → W.heap.size ≤ g ∧ va.ownBlock ≠ some g ∧ ¬ Pa g) (h2 : ∀ g, va.ownBlock = some g → W.heap.size ≤ g) (h3 : ∀ g, Pa g → W.heap.size ≤ g) (hf : (f k).kind = 0) (hl : (f k).loc = (k : Int))
    (hs : OutD w1 s ns (lowM d true (f k)) Ps) (hb1 : Below wx.heap.size wx w1) (h5 : ∀ g, s.ownBlock = some g → wx.heap.size ≤ g) (h4 : ∀ g, Ps g → wx.heap.size ≤ g) (hn : na + ns ≤ 1000000) (hnk : nk ≤ 1000000) :
    ∃ v2 w2, (Builtin.append_ #[46, 46] 46 #[vk, .slice (some ⟨w1.heap.size, 0, none⟩) 1 1]).run Tryz.prog (w1.alloc (.cells #[.int .i32 (k : Int), .int .i64 0, .slice none 0 0] 97)) = .ok v2 w2 ∧ (∃ a c, v2 = .slice a (nk + 1) c) ∧
    ∃ v3 w3, (Builtin.append_ #[46, 46] 46 #[va, s]).run Tryz.prog w2 = .ok v3 w3 ∧ MdL d W ks f rest.length v2 v3 (.int .i64 ((pre.length + 1 : Nat) : Int)) w3 := by
  have hsz := hb.size
  have hsz1 := hb1.size
  obtain ⟨v2, w2, q1, q2, q3, q4⟩ := app_oneD (kids := []) (P2 := fun _ => False) (hk.below hb1) (k : Int) 0 (kv := .slice none 0 0) rfl (RowL.nil _ _ _ _) (by simp) (fun g h => h.elim) (by omega)
  have hkl : ∀ g, vk.ownBlock = some g → g < wx.heap.size := fun g hg => hk.ownlt hg
  have hsz2 := q3.size
  have hsh : ∃ a c, v2 = .slice a (nk + 1) c := by
    obtain ⟨a, c, e, _⟩ := q2.shape
    exact ⟨a, c, e⟩
  refine ⟨v2, w2, q1, hsh, ?_⟩
  refine MdL.app (nk := nk + 1) e (below_grow (hb.trans (hb1.mono hsz)) (by omega) q3 (fun g hg => (h1 g hg).1)) ?_ ((ha.below hb1).grown q3 (fun g hg e => ?_)) (hs.grown q3 (fun g hg e => ?_)) (fun g hg => ?_) h2 h3 (fun g hg => ⟨by have := h4 g hg; omega, fun e => ?_⟩) hn
  · rw [List.map_append]
    show OutD w2 v2 (nk + 1) (keptM (pre.map f ++ [f k])) _
    rw [keptM_snoc, if_pos hf, hl]
    have q5 : (fun g : Nat => False ∨ False) = fun _ => False := by funext g; simp
    rw [← q5]
    exact q2
  · rcases hg with h | h
    · exact (h1 g e.symm).2.2 h
    · exact (h1 g e.symm).2.1 h
  · have := hkl g e.symm
    rcases hg with h | h
    · have := h4 g h; omega
    · have := h5 g h; omega
  · rcases q4 with q | ⟨g', q, hq⟩
    · rw [q] at hg
      refine ⟨(h1 g hg).1, (h1 g hg).2.1, (h1 g hg).2.2, fun h => ?_⟩
      have := hkl g hg; have := h4 g h; omega
    · rw [q] at hg
      have hgg := Option.some.inj hg
      refine ⟨by omega, fun h => ?_, fun h => ?_, fun h => ?_⟩
      · have := ha.ownlt h; omega
      · have := (ha.sP g h).1; omega
      · have := (hs.sP g h).1; omega
  · have := h4 g hg; have := ha.ownlt e.symm; omega
/-- what a style rule, or an at-rule inside one, leaves -/
def finM (d : Nat) (l : Int) (ts : List Tr) : List Tr := (if keptM ts = [] then [] else [.mk l 1 (keptM ts)]) ++ ts.flatMap (lowM d true)
structure FinR (d : Nat) (l : Int) (ts out : List Tr) (v : Value) (P : Nat → Prop) (w : World) (v' : Value) (w' : World) : Prop where
  ex : ∃ n' P', OutD w' v' n' (out ++ finM d l ts) P' ∧ w.grownBy w' v.ownBlock ∧ OwnN w v v' ∧ ∀ g, P' g → P g ∨ w.heap.size ≤ g
/-- those that stay put into a rule; then those hoisted -/
theorem MdL.fin {d : Nat} {W wr : World} {ks : List Nat} {f : Nat → Tr} {vk va vi v : Value} {n : Nat} {out : List Tr} {P : Nat → Prop} (h : MdL d W ks f 0 vk va vi wr) (hv : OutD W v n out P) (i : Int) (hn : n + cntTL d (ks.map f) + ks.length ≤ 1900000) (hks : ks.length ≤ 1000000) :
    ∃ K a c, vk = .slice a K c ∧ K ≤ ks.length ∧ (K = 0 ↔ keptM (ks.map f) = []) ∧
      (K = 0 → ∃ v' w', (Builtin.append_ #[46, 46] 46 #[v, va]).run Tryz.prog wr = .ok v' w' ∧ FinR d i (ks.map f) out v P W v' w') ∧
      (0 < K → ∃ v2 w2, (Builtin.append_ #[46, 46] 46 #[v, .slice (some ⟨wr.heap.size, 0, none⟩) 1 1]).run Tryz.prog (wr.alloc (.cells #[.int .i32 i, .int .i64 1, vk] 97)) = .ok v2 w2 ∧ (∃ a c, v2 = .slice a (n + 1) c) ∧
        ∃ v' w', (Builtin.append_ #[46, 46] 46 #[v2, va]).run Tryz.prog w2 = .ok v' w' ∧ FinR d i (ks.map f) out v P W v' w') := by
  obtain ⟨pre, rest, nk, na, Pa, e, hr, _, hk, ha, hb, h1, h2, h3⟩ := h.ex
  obtain rfl : rest = [] := List.length_eq_zero_iff.1 hr
  rw [List.append_nil] at e
  subst e
  obtain ⟨ka, kc, hkv, _⟩ := hk.shape
  have hkl := hk.len
  have hal := ha.len
  have hkm := keptM_len (ks.map f)
  have hfl := flat_len d true (ks.map f)
  rw [List.length_map] at hkm
  have hvr := hv.below hb
  have hsz := hb.size
  have hPv : ∀ g, Pa g → some g ≠ v.ownBlock := fun g hg e => by have := h3 g hg; have := hv.ownlt e.symm; omega
  refine ⟨nk, ka, kc, hkv, by omega, ⟨fun h => List.length_eq_zero_iff.1 (by omega), fun h => by rw [h] at hkl; simpa using hkl.symm⟩, fun h0 => ?_, fun h0 => ?_⟩
  · obtain ⟨v', w', q1, q2, q3, q4⟩ := app_twoD hvr ha hPv (by omega)
    have hke : keptM (ks.map f) = [] := List.length_eq_zero_iff.1 (by omega)
    refine ⟨v', w', q1, n + na, _, by unfold finM; rw [if_pos hke, List.nil_append]; exact q2, ?_, ?_, fun g (hg : P g ∨ Pa g) => hg.elim Or.inl (fun h => Or.inr (h3 g h))⟩
    · exact ⟨q3.os.trans hb.os, q3.tape.trans hb.tape, q3.output.trans hb.output, Nat.le_trans hsz q3.size, fun k hk hr => (q3.block k (by omega) hr).trans (hb.block k hk)⟩
    · exact q4.imp id fun ⟨g, h, hq⟩ => ⟨g, h, by omega⟩
  · have hke : keptM (ks.map f) ≠ [] := fun h => by rw [h] at hkl; simp at hkl; omega
    obtain ⟨v2, w2, q1, q2, q3, q4⟩ := app_oneD hvr i 1 (kv := vk) (by rw [hkv]; rfl) hk.row (by omega) (fun g hg => by
      have hg' : vk.ownBlock = some g := hg.elim (fun h => h.elim) id
      have := h1 g hg'
      exact ⟨hk.ownlt hg', fun e => by have := hv.ownlt e.symm; omega⟩) (by omega)
    have hs2 := q3.size
    have hsh : ∃ a c, v2 = .slice a (n + 1) c := by
      obtain ⟨a, c, e, _⟩ := q2.shape
      exact ⟨a, c, e⟩
    have ha2 := ha.grown q3 (fun g hg e => by
      have := hv.ownlt e.symm
      rcases hg with h | h
      · have := h3 g h; omega
      · have := h2 g h; omega)
    obtain ⟨v', w', p1, p2, p3, p4⟩ := app_twoD q2 ha2 (fun g hg e => by
      have := (ha.sP g hg).1
      rcases q4 with q | ⟨g', q, hq⟩
      · exact hPv g hg (e.trans q)
      · rw [q] at e; have := Option.some.inj e; omega) (by omega)
    have hs3 := p3.size
    refine ⟨v2, w2, q1, hsh, v', w', p1, n + 1 + na, _, by unfold finM; rw [if_neg hke, ← List.append_assoc]; exact p2, ?_, ?_, fun g hg => ?_⟩
    · have hg := grown_trans q3 p3 q4
      exact ⟨hg.os.trans hb.os, hg.tape.trans hb.tape, hg.output.trans hb.output, by omega, fun k hk hr => (hg.block k (by omega) hr).trans (hb.block k hk)⟩
    · rcases p4 with h | ⟨g, h, hq⟩
      · rcases q4 with q | ⟨g', q, hq⟩
        · exact Or.inl (h.trans q)
        · exact Or.inr ⟨g', h.trans q, by omega⟩
      · exact Or.inr ⟨g, h, by omega⟩
    · rcases hg with (h | h) | h
      · exact Or.inl h
      · exact Or.inr (h1 g (h.elim (fun h => h.elim) id)).1
      · exact Or.inr (h3 g h)
end Go.Proofs.YtjebnjjhdefejaaGreatFmt
