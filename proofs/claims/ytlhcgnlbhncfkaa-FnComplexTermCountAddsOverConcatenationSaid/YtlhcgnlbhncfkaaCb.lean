/-
  The state of a selector list's parser, and its steps. Conditions: each theorem's own.
-/
import Derived.Test.YtlhcgnlbhncfkaaCa
import Derived.Maps.Range
namespace Go.Proofs.Ytlhcgnlbhncfkaa
open Go.ChangeShapes Go.WideShapes Go.ChangeAt Go.RowKit

/-- the cursor's block -/
def Cur (w : World) (C : Nat) (ops : Value) (i : Nat) : Prop := ∃ cs, w.heap[C]? = some (.cells cs 37 (0, 0)) ∧ cs.size = 2 ∧ cs[0]? = some ops ∧ cs[1]? = some (.int .i64 (i : Int))
theorem Cur.lt {w : World} {C : Nat} {ops : Value} {i : Nat} (h : Cur w C ops i) : C < w.heap.size := by
  obtain ⟨cs, hc, _⟩ := h
  exact (Array.getElem?_eq_some_iff.1 hc).1
theorem Cur.c0 {w : World} {C : Nat} {ops : Value} {i : Nat} (h : Cur w C ops i) : w.cell? ⟨C, 0, none⟩ = some ops := by
  obtain ⟨cs, hc, _, h0, _⟩ := h
  simp only [World.cell?, hc]; exact h0
theorem Cur.c1 {w : World} {C : Nat} {ops : Value} {i : Nat} (h : Cur w C ops i) : w.cell? ⟨C, 1, none⟩ = some (.int .i64 (i : Int)) := by
  obtain ⟨cs, hc, _, _, h1⟩ := h
  simp only [World.cell?, hc]; exact h1
theorem Cur.fz {w : World} {C : Nat} {ops : Value} {i : Nat} (h : Cur w C ops i) (o : Nat) : w.frozen? ⟨C, o, none⟩ = false := by
  obtain ⟨cs, hc, _⟩ := h
  simp [World.frozen?, hc]
theorem Cur.set {w : World} {C : Nat} {ops : Value} {i : Nat} (h : Cur w C ops i) (j : Nat) : Cur (w.setCell ⟨C, 1, none⟩ (.int .i64 (j : Int))) C ops j := by
  obtain ⟨cs, hc, hs, h0, h1⟩ := h
  unfold World.setCell Cur
  simp only [Array.getElem?_modify, hc, if_true, Option.map_some]
  refine ⟨_, rfl, by simpa using hs, ?_, ?_⟩
  · simpa using h0
  · simp [hs]
theorem Cur.block {w w' : World} {C : Nat} {ops : Value} {i : Nat} (h : Cur w C ops i) (hb : w'.heap[C]? = w.heap[C]?) : Cur w' C ops i := by
  obtain ⟨cs, hc, r⟩ := h
  exact ⟨cs, hb.trans hc, r⟩
theorem grown_set (w : World) (C o : Nat) (v : Value) : w.grownBy (w.setCell ⟨C, o, none⟩ v) (some C) := by
  refine ⟨by simp [World.setCell], by simp [World.setCell], by simp [World.setCell], by simp, fun k hk hne => ?_⟩
  exact heap_set_other _ _ _ _ (fun e => hne (by rw [e]))
theorem grown_below {w w' : World} (h : Below w.heap.size w w') (r : Option Nat) : w.grownBy w' r := ⟨h.os, h.tape, h.output, h.size, fun k hk _ => h.block k hk⟩
/-- the bytes stay while the cursor moves -/
theorem Row.cur {w w' : World} {a : Option Addr} {N : Nat} {z : List Int} {C : Nat} {s : Option Addr} {n c i : Nat} (r : Row .u8 w a N z) (hc : Cur w C (.slice s n c) i) (hg : w.grownBy w' (some C)) : Row .u8 w' a N z := by
  refine ⟨fun hn => ?_, r.wf⟩
  obtain ⟨b, o, e, hb, hx⟩ := r.cell hn
  have hne : b ≠ C := by
    intro e0
    subst e0
    obtain ⟨cs, hh, hs, h0, h1⟩ := hc
    have hx0 := hx 0 hn
    simp only [World.cell?, hh, Nat.add_zero] at hx0
    by_cases e1 : o = 0
    · subst e1; rw [h0] at hx0; cases hx0
    by_cases e2 : o = 1
    · subst e2; rw [h1] at hx0; cases hx0
    · have : o < cs.size := (Array.getElem?_eq_some_iff.1 hx0).1
      omega
  exact ⟨b, o, e, Nat.lt_of_lt_of_le hb hg.size, fun i hi => by
    rw [World.cell?_of_block (a := ⟨b, o + i, none⟩) (hg.block b hb (by intro e1; injection e1 with e1; exact hne e1))]; exact hx i hi⟩

/-- the blocks that no row under way lies in -/
def Fr (w0 : World) (vl vc vs : Value) (g : Nat) : Prop := w0.heap.size ≤ g ∧ some g ≠ vl.ownBlock ∧ some g ≠ vc.ownBlock ∧ some g ≠ vs.ownBlock
structure PL (d : Nat) (w0 : World) (C : Nat) (a : Option Addr) (N cap i : Nat) (vl vc vs : Value) (nl nc ns : Nat) (xl xc xs : List Value) (kl kc ks : Nat) (w : World) : Prop where
  ol : w.ownsRow w0.heap.size 131 1 vl nl xl
  oc : w.ownsRow w0.heap.size 33 6 vc nc xc
  os : w.ownsRow w0.heap.size 72 3 vs ns xs
  el : RowK 1 (CplxE (CL d w (Fr w0 vl vc vs)) w (Fr w0 vl vc vs)) xl nl kl
  ec : RowK 6 (CompE (CL d w (Fr w0 vl vc vs)) w (Fr w0 vl vc vs)) xc nc kc
  es : RowK 3 (SubE (CL d w (Fr w0 vl vc vs)) w (Fr w0 vl vc vs)) xs ns ks
  cur : Cur w C (.slice a N cap) i
  grow : w0.grownBy w (some C)
  lt : C < w0.heap.size
variable {d : Nat} {w0 w w' : World} {C : Nat} {a : Option Addr} {N cap i : Nat} {vl vc vs : Value} {nl nc ns : Nat} {xl xc xs : List Value} {kl kc ks : Nat}
theorem own_ne {e : TypeId} {sz : Nat} {v : Value} {n : Nat} {x : List Value} (ho : w.ownsRow w0.heap.size e sz v n x) (hC : C < w0.heap.size) : some C ≠ v.ownBlock := by
  intro h
  have := own_ge ho C h.symm
  omega
theorem PL.move (h : PL d w0 C a N cap i vl vc vs nl nc ns xl xc xs kl kc ks w) (hg : w.grownBy w' (some C)) {i' : Nat} (hc : Cur w' C (.slice a N cap) i') : PL d w0 C a N cap i' vl vc vs nl nc ns xl xc xs kl kc ks w' := by
  have hlt := h.lt
  have kp : Keep w w' (Fr w0 vl vc vs) (Fr w0 vl vc vs) := ⟨hg.size, fun g hp hl => hg.block g hl (by intro e; injection e with e; have := hp.1; omega), fun g hp _ => hp⟩
  have ne : ∀ (v : Value), some C ≠ v.ownBlock → v.ownBlock = none ∨ v.ownBlock ≠ some C := fun v hv => .inr fun e => hv e.symm
  exact ⟨h.ol.kept hg (ne _ (own_ne h.ol hlt)), h.oc.kept hg (ne _ (own_ne h.oc hlt)), h.os.kept hg (ne _ (own_ne h.os hlt)),
    h.el.mono (fun c k => CplxE.keep kp fun sl k => CL.keep kp d), h.ec.mono (fun c k => CompE.keep kp fun sl k => CL.keep kp d), h.es.mono (fun c k => SubE.keep kp fun sl k => CL.keep kp d),
    hc, h.grow.andThen hg (fun j hj => .inr hj), hlt⟩
theorem PL.below (h : PL d w0 C a N cap i vl vc vs nl nc ns xl xc xs kl kc ks w) (hb : Below w.heap.size w w') : PL d w0 C a N cap i vl vc vs nl nc ns xl xc xs kl kc ks w' :=
  h.move (grown_below hb _) (h.cur.block (hb.block _ h.cur.lt))
theorem PL.alloc (h : PL d w0 C a N cap i vl vc vs nl nc ns xl xc xs kl kc ks w) (o : Obj) : PL d w0 C a N cap i vl vc vs nl nc ns xl xc xs kl kc ks (w.alloc o) := h.below ((Below.refl _ _).alloc (Nat.le_refl _) _)
theorem PL.step (h : PL d w0 C a N cap i vl vc vs nl nc ns xl xc xs kl kc ks w) (j : Nat) : PL d w0 C a N cap j vl vc vs nl nc ns xl xc xs kl kc ks (w.setCell ⟨C, 1, none⟩ (.int .i64 (j : Int))) :=
  h.move (grown_set _ _ _ _) (h.cur.set j)
theorem PL.subs (h : PL d w0 C a N cap i vl vc vs nl nc ns xl xc xs kl kc ks w) {news : List Value} {k : Nat} {vs' : Value} (hN : ns < 200000) (hn : SubE (CL d w (Fr w0 vl vc vs)) w (Fr w0 vl vc vs) (fun t => news[t]?) k)
    (ho : w'.ownsRow w0.heap.size 72 3 vs' (ns + 1) (xs ++ news)) (hg : w.grownBy w' vs.ownBlock) (hat : vs'.ownBlock = vs.ownBlock ∨ vs'.ownBlock = some w.heap.size) :
    PL d w0 C a N cap i vl vc vs' nl nc (ns + 1) xl xc (xs ++ news) kl kc (ks + k) w' := by
  have kp : Keep w w' (Fr w0 vl vc vs) (Fr w0 vl vc vs') := ⟨hg.size, fun g hp hl => hg.block g hl hp.2.2.2, fun g hp hl => ⟨hp.1, hp.2.1, hp.2.2.1, by
    rcases hat with e | e
    · rw [e]; exact hp.2.2.2
    · rw [e]; intro e2; injection e2 with e2; omega⟩⟩
  exact ⟨h.ol.kept hg (two_own h.ol h.os (by decide)), h.oc.kept hg (two_own h.oc h.os (by decide)), ho,
    h.el.mono (fun c k => CplxE.keep kp fun sl k => CL.keep kp d), h.ec.mono (fun c k => CompE.keep kp fun sl k => CL.keep kp d),
    (h.es.mono (fun c k => SubE.keep kp fun sl k => CL.keep kp d)).snoc (SubE.loc _ _ _) h.os.1 hN (SubE.keep kp (fun sl k => CL.keep kp d) hn),
    h.cur.block (hg.block C h.cur.lt (own_ne h.os h.lt)), h.grow.andThen hg (fun j hj => .inl (own_ge h.os j hj)), h.lt⟩
theorem PL.comp (h : PL d w0 C a N cap i vl vc vs nl nc ns xl xc xs kl kc ks w) {vc' : Value} (hN : nc < 200000)
    (ho : w'.ownsRow w0.heap.size 33 6 vc' (nc + 1) (xc ++ [.pointer none, vs, .slice none 0 0, .int .i32 0, .int .u8 0, .bool false])) (hg : w.grownBy w' vc.ownBlock) (hat : vc'.ownBlock = vc.ownBlock ∨ vc'.ownBlock = some w.heap.size) :
    PL d w0 C a N cap i vl vc' (.slice none 0 0) nl (nc + 1) 0 xl (xc ++ [.pointer none, vs, .slice none 0 0, .int .i32 0, .int .u8 0, .bool false]) [] kl (kc + ks) 0 w' := by
  have kp : Keep w w' (Fr w0 vl vc vs) (Fr w0 vl vc' (.slice none 0 0)) := ⟨hg.size, fun g hp hl => hg.block g hl hp.2.2.1, fun g hp hl => ⟨hp.1, hp.2.1, by
    rcases hat with e | e
    · rw [e]; exact hp.2.2.1
    · rw [e]; intro e2; injection e2 with e2; omega, by simp [Value.ownBlock]⟩⟩
  have os' := h.os.kept hg (two_own h.os h.oc (by decide))
  have hr : RowOf 3 (SubE (CL d w' (Fr w0 vl vc' (.slice none 0 0))) w' (Fr w0 vl vc' (.slice none 0 0))) w' (Fr w0 vl vc' (.slice none 0 0)) vs ks :=
    RowK.row (SubE.loc _ _ _) _ os' (h.es.mono (fun c k => SubE.keep kp fun sl k => CL.keep kp d)) fun g hgs => ⟨own_ge h.os g hgs, by
      rcases two_own h.os h.ol (by decide) with e | e
      · rw [e] at hgs; cases hgs
      · rw [hgs] at e; exact e, by
      rcases hat with e1 | e1
      · rw [e1]
        rcases two_own h.os h.oc (by decide) with e | e
        · rw [e] at hgs; cases hgs
        · rw [hgs] at e; exact e
      · rw [e1]
        intro e2
        injection e2 with e2
        have := (h.os.lt g hgs).2
        omega, by simp [Value.ownBlock]⟩
  exact ⟨h.ol.kept hg (two_own h.ol h.oc (by decide)), ho, World.ownsRow_nil _ _ _ _,
    h.el.mono (fun c k => CplxE.keep kp fun sl k => CL.keep kp d),
    (h.ec.mono (fun c k => CompE.keep kp fun sl k => CL.keep kp d)).snoc (CompE.loc _ _ _) h.oc.1 hN ⟨rfl, ⟨vs, rfl, hr⟩, rfl, rfl, rfl, rfl⟩,
    RowK.nil _ _, h.cur.block (hg.block C h.cur.lt (own_ne h.oc h.lt)), h.grow.andThen hg (fun j hj => .inl (own_ge h.oc j hj)), h.lt⟩
theorem PL.list (h : PL d w0 C a N cap i vl vc vs nl nc ns xl xc xs kl kc ks w) {vl' : Value} (hN : nl < 200000)
    (ho : w'.ownsRow w0.heap.size 131 1 vl' (nl + 1) (xl ++ [vc])) (hg : w.grownBy w' vl.ownBlock) (hat : vl'.ownBlock = vl.ownBlock ∨ vl'.ownBlock = some w.heap.size) :
    PL d w0 C a N cap i vl' (.slice none 0 0) vs (nl + 1) 0 ns (xl ++ [vc]) [] xs (kl + kc) 0 ks w' := by
  have kp : Keep w w' (Fr w0 vl vc vs) (Fr w0 vl' (.slice none 0 0) vs) := ⟨hg.size, fun g hp hl => hg.block g hl hp.2.1, fun g hp hl => ⟨hp.1, by
    rcases hat with e | e
    · rw [e]; exact hp.2.1
    · rw [e]; intro e2; injection e2 with e2; omega, by simp [Value.ownBlock], hp.2.2.2⟩⟩
  have oc' := h.oc.kept hg (two_own h.oc h.ol (by decide))
  have hr : RowOf 6 (CompE (CL d w' (Fr w0 vl' (.slice none 0 0) vs)) w' (Fr w0 vl' (.slice none 0 0) vs)) w' (Fr w0 vl' (.slice none 0 0) vs) vc kc :=
    RowK.row (CompE.loc _ _ _) _ oc' (h.ec.mono (fun c k => CompE.keep kp fun sl k => CL.keep kp d)) fun g hgs => ⟨own_ge h.oc g hgs, by
      rcases hat with e1 | e1
      · rw [e1]
        rcases two_own h.oc h.ol (by decide) with e | e
        · rw [e] at hgs; cases hgs
        · rw [hgs] at e; exact e
      · rw [e1]
        intro e2
        injection e2 with e2
        have := (h.oc.lt g hgs).2
        omega, by simp [Value.ownBlock], by
      rcases two_own h.oc h.os (by decide) with e | e
      · rw [e] at hgs; cases hgs
      · rw [hgs] at e; exact e⟩
  exact ⟨ho, World.ownsRow_nil _ _ _ _, h.os.kept hg (two_own h.os h.ol (by decide)),
    (h.el.mono (fun c k => CplxE.keep kp fun sl k => CL.keep kp d)).snoc (CplxE.loc _ _ _) h.ol.1 hN ⟨vc, rfl, hr⟩,
    RowK.nil _ _, h.es.mono (fun c k => SubE.keep kp fun sl k => CL.keep kp d),
    h.cur.block (hg.block C h.cur.lt (own_ne h.ol h.lt)), h.grow.andThen hg (fun j hj => .inl (own_ge h.ol j hj)), h.lt⟩
theorem PL.final (h : PL d w0 C a N cap i vl vc vs nl nc ns xl xc xs kl kc ks w) : CL (d + 1) w (fun g => w0.heap.size ≤ g) vl kl := by
  have kp : Keep w w (Fr w0 vl vc vs) (fun g => w0.heap.size ≤ g) := Keep.weak w fun g hp _ => hp.1
  exact RowK.row (CplxE.loc _ _ _) _ h.ol (h.el.mono (fun c k => CplxE.keep kp fun sl k => CL.keep kp d)) fun g hg => own_ge h.ol g hg
theorem PL.finalSubs (h : PL d w0 C a N cap i vl vc vs nl nc ns xl xc xs kl kc ks w) : RowOf 3 (SubE (CL d w (fun g => w0.heap.size ≤ g)) w (fun g => w0.heap.size ≤ g)) w (fun g => w0.heap.size ≤ g) vs ks := by
  have kp : Keep w w (Fr w0 vl vc vs) (fun g => w0.heap.size ≤ g) := Keep.weak w fun g hp _ => hp.1
  exact RowK.row (SubE.loc _ _ _) _ h.os (h.es.mono (fun c k => SubE.keep kp fun sl k => CL.keep kp d)) fun g hg => own_ge h.os g hg
end Go.Proofs.Ytlhcgnlbhncfkaa
