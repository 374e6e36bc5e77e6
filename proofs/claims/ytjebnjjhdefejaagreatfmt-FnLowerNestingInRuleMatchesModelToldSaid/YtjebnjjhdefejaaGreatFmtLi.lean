/-
  The context of a lowering; what it keeps. Conditions: each theorem's own.
-/
import Derived.Test.YtjebnjjhdefejaaGreatFmtLh
namespace Go.Proofs.YtjebnjjhdefejaaGreatFmt
open Go.RowKit Go.Lib Go.ChangeMaps
/-- how many rules a tree may leave -/
def cntT : Nat → Tr → Nat
  | 0, _ => 0
  | d + 1, .mk _ _ kids => 1 + (kids.map (cntT d)).sum
abbrev cntTL (d : Nat) (ts : List Tr) : Nat := (ts.map (cntT d)).sum
structure Par (w : World) (pb : Nat) : Prop where
  ex : ∃ arr, w.heap[pb]? = some (.cells arr 94 (0, 0)) ∧ arr[48]? = some (.int .u16 0)
/-- a row of rules that the run owns -/
def OwnRu (w : World) (lw : Value) (n : Nat) : Prop := ∃ xs, w.ownsRow 0 39 2 lw n xs ∧ ∀ u ∈ xs, u.oneCell' = true
/-- the context of a lowering -/
structure CtxOK (w : World) (cb : Nat) (pw pn lw : Value) (n : Nat) (S : Nat → Prop) (m pb : Nat) : Prop where
  cx : w.heap[cb]? = some (.cells #[pw, pn, lw] 139 (0, 0))
  own : OwnRu w lw n
  rp : RowL CxH w S pw [m]
  rn : RowL CxH w S pn [m]
  m1 : 1 ≤ m
  sS : ∀ g, S g → g < w.heap.size ∧ g ≠ cb ∧ some g ≠ lw.ownBlock
  par : Par w pb
/-- outside the tree's blocks -/
def Off (lo hi cb pb : Nat) (lw : Value) (S : Nat → Prop) : Prop := (cb < lo ∨ hi ≤ cb) ∧ (pb < lo ∨ hi ≤ pb) ∧ (∀ g, lw.ownBlock = some g → g < lo ∨ hi ≤ g) ∧ ∀ g, S g → g < lo ∨ hi ≤ g
/-- nothing but M's blocks has turned -/
structure FrM (M : Nat → Prop) (w w' : World) : Prop where
  os : w'.os = w.os
  tape : w'.tape = w.tape
  output : w'.output = w.output
  size : w.heap.size ≤ w'.heap.size
  block : ∀ g, g < w.heap.size → ¬ M g → w'.heap[g]? = w.heap[g]?
def Mod (lo hi cb : Nat) (lw : Value) (g : Nat) : Prop := (lo ≤ g ∧ g < hi) ∨ g = cb ∨ lw.ownBlock = some g
theorem FrM.refl (M : Nat → Prop) (w : World) : FrM M w w := ⟨rfl, rfl, rfl, Nat.le_refl _, fun _ _ _ => rfl⟩
theorem FrM.trans {M M' : Nat → Prop} {a b c : World} (h : FrM M a b) (k : FrM M' b c) (hM : ∀ g, g < a.heap.size → M' g → M g) : FrM M a c :=
  ⟨k.os.trans h.os, k.tape.trans h.tape, k.output.trans h.output, Nat.le_trans h.size k.size, fun g h1 h2 => (k.block g (Nat.lt_of_lt_of_le h1 h.size) (fun q => h2 (hM g h1 q))).trans (h.block g h1 h2)⟩
theorem FrM.of {M : Nat → Prop} {a b : World} (h : Below a.heap.size a b) : FrM M a b := ⟨h.os, h.tape, h.output, h.size, fun g hg _ => h.block g hg⟩
theorem FrM.set {M : Nat → Prop} (w : World) {b o : Nat} (v : Value) (h : M b ∨ w.heap.size ≤ b) : FrM M w (w.setCell ⟨b, o, none⟩ v) :=
  ⟨(os_set _ _ _).1, (os_set _ _ _).2.1, (os_set _ _ _).2.2, by simp [World.setCell], fun _ _ hx => hother _ _ _ (by rintro rfl; rcases h with h | h; exact hx h; omega)⟩
theorem Par.lt {w : World} {pb : Nat} (h : Par w pb) : pb < w.heap.size := by
  obtain ⟨arr, h1, _⟩ := h.ex
  exact heap_lt h1
theorem own_typ {w : World} {T sz n : Nat} {v : Value} {xs : List Value} (h : w.ownsRow 0 T sz v n xs) : ∀ g, v.ownBlock = some g → ∃ cur, w.heap[g]? = some (.cells cur T (0, 0)) := fun _ hg => own_type h hg
/-- the context goes on -/
theorem CtxOK.step {w w' : World} {cb : Nat} {pw pn lw lw' : Value} {n n' : Nat} {S : Nat → Prop} {m pb : Nat} {M : Nat → Prop} (h : CtxOK w cb pw pn lw n S m pb) (hF : FrM M w w') (hM : ∀ g, S g ∨ g = pb → ¬ M g) (hc : w'.heap[cb]? = some (.cells #[pw, pn, lw'] 139 (0, 0))) (ho : OwnRu w' lw' n') (hat : lw'.ownBlock = lw.ownBlock ∨ ∃ g, lw'.ownBlock = some g ∧ w.heap.size ≤ g) : CtxOK w' cb pw pn lw' n' S m pb where
  cx := hc
  own := ho
  rp := h.rp.keep ⟨hF.size, fun g hg hl => hF.block g hl (hM g (Or.inl hg)), fun g hg _ => hg⟩
  rn := h.rn.keep ⟨hF.size, fun g hg hl => hF.block g hl (hM g (Or.inl hg)), fun g hg _ => hg⟩
  m1 := h.m1
  sS := fun g hg => by
    obtain ⟨a, b, c⟩ := h.sS g hg
    refine ⟨Nat.lt_of_lt_of_le a hF.size, b, fun e => ?_⟩
    rcases hat with q | ⟨g', q, hq⟩
    · rw [q] at e; exact c e
    · rw [q] at e; injection e with e; omega
  par := by
    obtain ⟨arr, h1, h2⟩ := h.par.ex
    exact ⟨arr, (hF.block pb h.par.lt (hM pb (Or.inr rfl))).trans h1, h2⟩
theorem CtxOK.below {w w' : World} {cb : Nat} {pw pn lw : Value} {n : Nat} {S : Nat → Prop} {m pb : Nat} (h : CtxOK w cb pw pn lw n S m pb) (hb : Below w.heap.size w w') : CtxOK w' cb pw pn lw n S m pb := by
  obtain ⟨xs, ho, h1⟩ := h.own
  exact h.step (M := fun _ => False) (FrM.of hb) (fun _ _ => id) ((hb.block _ (heap_lt h.cx)).trans h.cx) ⟨xs, own_below ho hb, h1⟩ (Or.inl rfl)
abbrev retV (t : Tr) (v : Value) : Value := if t.kind = 0 then .agg #[v, .int .i32 t.loc] else .agg #[.nilIface, .int .i32 0]
structure CtxR (k : Nat) (t : Tr) (lo hi : Nat) (v : Value) (cb : Nat) (pw pn lw : Value) (n : Nat) (S : Nat → Prop) (m pb : Nat) (w : World) (e : Ending) (w' : World) : Prop where
  ex : ∃ lw' n', e = .returned (retV t v) ∧ n ≤ n' ∧ n' ≤ n + k ∧ CtxOK w' cb pw pn lw' n' S m pb ∧ FrM (Mod lo hi cb lw) w w' ∧ (lw'.ownBlock = lw.ownBlock ∨ ∃ g, lw'.ownBlock = some g ∧ w.heap.size ≤ g)
def PCtx (d : Nat) : Prop := ∀ (t : Tr) (w : World) (lo hi : Nat) (v : Value) (cb : Nat) (pw pn lw : Value) (n : Nat) (S : Nat → Prop) (m pb : Nat), InT d w lo hi v t → hi ≤ w.heap.size → CtxOK w cb pw pn lw n S m pb → Off lo hi cb pb lw S → m + d ≤ 10000 → n + cntT d t ≤ 1000000 →
  Calls Tryz.prog 35 #[.pointer (some ⟨pb, 0, none⟩), .agg #[v, .int .i32 t.loc], .pointer (some ⟨cb, 0, none⟩)] w fun e w' => CtxR (cntT d t) t lo hi v cb pw pn lw n S m pb w e w'
/-- the declarations that remain in a row -/
def Kept (arr : Array Value) (ts : List Tr) : Prop := ∀ j (_ : j < (keptM ts).length), ∃ b, arr[j * 2]? = some (.iface 103 (.pointer (some ⟨b, 0, none⟩))) ∧ arr[j * 2 + 1]? = some (.int .i32 ((keptM ts)[j]).loc)
structure RemR (k rb cap : Nat) (arr : Array Value) (ts : List Tr) (lo hi : Nat) (cb : Nat) (pw pn lw : Value) (n : Nat) (S : Nat → Prop) (m pb : Nat) (w : World) (e : Ending) (w' : World) : Prop where
  ex : ∃ lw' n' arr', e = .returned (.slice (some ⟨rb, 0, none⟩) (keptM ts).length cap) ∧ n ≤ n' ∧ n' ≤ n + k ∧ CtxOK w' cb pw pn lw' n' S m pb ∧ FrM (Mod lo hi cb lw) w w' ∧ (lw'.ownBlock = lw.ownBlock ∨ ∃ g, lw'.ownBlock = some g ∧ w.heap.size ≤ g) ∧
    w'.heap[rb]? = some (.cells arr' 39 (0, 0)) ∧ arr'.size = arr.size ∧ Kept arr' ts
def PRem (d : Nat) : Prop := ∀ (ts : List Tr) (w : World) (lo hi : Nat) (rb cap : Nat) (arr : Array Value) (cb : Nat) (pw pn lw : Value) (n : Nat) (S : Nat → Prop) (m pb : Nat), lo ≤ rb → rb < hi → hi ≤ w.heap.size → w.heap[rb]? = some (.cells arr 39 (0, 0)) → ts.length * 2 ≤ arr.size → ts.length ≤ cap → ts.length ≤ 1000000 → KidsAt (fun lo hi => InT d w lo hi) arr (rb + 1) hi 0 ts →
  CtxOK w cb pw pn lw n S m pb → Off lo hi cb pb lw S → m + d ≤ 10000 → n + cntTL d ts ≤ 1000000 →
  Calls Tryz.prog 27 #[.pointer (some ⟨pb, 0, none⟩), .slice (some ⟨rb, 0, none⟩) ts.length cap, .pointer (some ⟨cb, 0, none⟩)] w fun e w' => RemR (cntTL d ts) rb cap arr ts lo hi cb pw pn lw n S m pb w e w'
abbrev csum (c : Tr → Nat) (ts : List Tr) : Nat := (ts.map c).sum
/-- .. with another count, of the trees that Q tells -/
def PCtxC (c : Tr → Nat) (Q : Tr → Prop) (d : Nat) : Prop := ∀ (t : Tr) (w : World) (lo hi : Nat) (v : Value) (cb : Nat) (pw pn lw : Value) (n : Nat) (S : Nat → Prop) (m pb : Nat), Q t → InT d w lo hi v t → hi ≤ w.heap.size → CtxOK w cb pw pn lw n S m pb → Off lo hi cb pb lw S → m + d ≤ 10000 → n + c t ≤ 1000000 →
  Calls Tryz.prog 35 #[.pointer (some ⟨pb, 0, none⟩), .agg #[v, .int .i32 t.loc], .pointer (some ⟨cb, 0, none⟩)] w fun e w' => CtxR (c t) t lo hi v cb pw pn lw n S m pb w e w'
def PRemC (c : Tr → Nat) (Q : Tr → Prop) (d : Nat) : Prop := ∀ (ts : List Tr) (w : World) (lo hi : Nat) (rb cap : Nat) (arr : Array Value) (cb : Nat) (pw pn lw : Value) (n : Nat) (S : Nat → Prop) (m pb : Nat), (∀ t ∈ ts, Q t) → lo ≤ rb → rb < hi → hi ≤ w.heap.size → w.heap[rb]? = some (.cells arr 39 (0, 0)) → ts.length * 2 ≤ arr.size → ts.length ≤ cap → ts.length ≤ 1000000 → KidsAt (fun lo hi => InT d w lo hi) arr (rb + 1) hi 0 ts →
  CtxOK w cb pw pn lw n S m pb → Off lo hi cb pb lw S → m + d ≤ 10000 → n + csum c ts ≤ 1000000 →
  Calls Tryz.prog 27 #[.pointer (some ⟨pb, 0, none⟩), .slice (some ⟨rb, 0, none⟩) ts.length cap, .pointer (some ⟨cb, 0, none⟩)] w fun e w' => RemR (csum c ts) rb cap arr ts lo hi cb pw pn lw n S m pb w e w'
theorem KidsAt.arr {T : Nat → Nat → Value → Tr → Prop} {arr arr' : Array Value} : ∀ (ts : List Tr) (lo hi k : Nat), (∀ j, k * 2 ≤ j → arr'[j]? = arr[j]?) → KidsAt T arr lo hi k ts → KidsAt T arr' lo hi k ts
  | [], _, _, _, _, h => h
  | t :: ts, lo, hi, k, hj, h => by
    obtain ⟨mid, v, a1, a2, a3, a4, a5⟩ := h
    exact ⟨mid, v, a1, (hj _ (Nat.le_refl _)).trans a2, (hj _ (by omega)).trans a3, a4, KidsAt.arr ts mid hi (k + 1) (fun j h => hj j (by omega)) a5⟩
theorem keptM_snoc (ts : List Tr) (t : Tr) : keptM (ts ++ [t]) = keptM ts ++ (if t.kind = 0 then [Tr.mk t.loc 0 []] else []) := by
  unfold keptM
  rw [List.filter_append, List.map_append]
  congr 1
  by_cases h : t.kind = 0
  · simp [h]
  · simp [h]
theorem keptM_len (ts : List Tr) : (keptM ts).length ≤ ts.length := by
  unfold keptM
  rw [List.length_map]
  exact List.length_filter_le _ _
end Go.Proofs.YtjebnjjhdefejaaGreatFmt
