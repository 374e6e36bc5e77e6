/-
  The remover's state. Conditions: each theorem's own.
-/
import Derived.Test.YtphimfimnakclaaQy
import Derived.Maps.Own
import Derived.Maps.Views
namespace Go.Proofs.Ytphimfimnakclaa
open Go.RowKit Go.Lib Go.ChangeMaps
open Go.Maps (Keyed IsMap)
/-- a rule's data: blocks of D alone -/
structure Dat (D : Nat → Prop) (w : World) (b : Nat) (r : Rl) : Prop where
  d : D b
  lt : b < w.heap.size
  ex : ∃ s, w.heap[b]? = some (.cells #[s, .slice none 0 0, .int .i32 0] 67 (0, 0)) ∧ RowL (CxT SubT) w D s r
theorem Dat.keep {D : Nat → Prop} {w w' : World} {b : Nat} {r : Rl} (h : Dat D w b r) (hs : w.heap.size ≤ w'.heap.size) (hb : ∀ g, D g → g < w.heap.size → w'.heap[g]? = w.heap[g]?) : Dat D w' b r := by
  obtain ⟨s, hh, hr⟩ := h.ex
  exact ⟨h.d, Nat.lt_of_lt_of_le h.lt hs, s, (hb b h.d h.lt).trans hh, hr.keep ⟨hs, hb, fun _ hg _ => hg⟩⟩
abbrev Ent := Nat × Nat × Rl
abbrev env (x : Ent) : List Value := [ifc 63 x.1, .int .u32 (x.2.1 : Nat)]
abbrev cev (n : Int) : List Value := [.slice none 0 0, .int .u32 n]
/-- the remover's parts: the map's block, the calls, the buckets -/
structure Gh where
  mb : Nat
  vc : Value
  cs : List Int
  Bk : Int → Value
  ms : Int → List Ent
  Dm : DataW Value
  n : Nat
abbrev zE : Value := .agg #[.slice none 0 0]
def heldR (v : Value) : Option (DataW Value × List MemPlace) := some (.held v, [])
def u32r (h : Int) : Prop := 0 ≤ h ∧ h < 4294967296
structure Rem (D : Nat → Prop) (B rb : Nat) (E : List Rl) (G : Gh) (w : World) : Prop where
  hb : ∃ ia ib sym sa sb, w.heap[rb]? = some (.cells #[.map (some G.mb), G.vc, ia, ib, sym, sa, sb] 39 (0, 0))
  rge : B ≤ rb
  mge : B ≤ G.mb
  mp : w.ownsMap Try.prog 35 heldR G.mb G.n G.Dm
  im : IsMap G.Dm
  nle : G.n ≤ E.length
  at' : ∀ h, u32r h → G.Dm.atKey (.int .u32 h) (.held zE) = .held (.agg #[G.Bk h])
  bo : ∀ h, u32r h → BO (PT 2) 74 B (G.Bk h) ((G.ms h).map env) w
  ne : ∀ h h', u32r h → u32r h' → h ≠ h' → ∀ g, (G.Bk h).ownBlock = some g → (G.Bk h').ownBlock ≠ some g
  dat : ∀ h, u32r h → ∀ x ∈ G.ms h, x.2.1 < G.cs.length ∧ Dat D w x.1 x.2.2 ∧ Good x.2.2
  mod : ∀ h, u32r h → ∀ r, (∃ x ∈ G.ms h, x.2.2 = r) ↔ (r ∈ E ∧ hRule r = h)
  len : ∀ h, u32r h → (G.ms h).length ≤ E.length
  co : BO (PT 2) 62 B G.vc (G.cs.map cev) w
  dlt : ∀ g, D g → g < B
theorem xor_range (a b : Int) : u32r (bits .xor .u32 a b) := by
  unfold bits u32r
  simp only [IntKind.bits]
  generalize (BitVec.ofInt 32 a ^^^ BitVec.ofInt 32 b) = v
  have := v.isLt
  unfold IntKind.wrap
  simp [IntKind.bits, IntKind.signed]
  omega
theorem hRule_range (r : Rl) : u32r (hRule r) := xor_range _ _
section
variable {D : Nat → Prop} {B rb : Nat} {E : List Rl} {G : Gh} {w w' : World}
theorem map_heap {P : Program} {k : TypeId} {H : Type} {R : Value → Option (DataW H × List MemPlace)} {b n : Nat} {Dm : DataW H} (h : w.ownsMap P k R b n Dm) (hb : w'.heap[b]? = w.heap[b]?) : w'.ownsMap P k R b n Dm := by
  obtain ⟨es, clock, hh, F⟩ := h
  exact ⟨es, clock, hb.trans hh, F⟩
theorem map_ne {P : Program} {k : TypeId} {H : Type} {R : Value → Option (DataW H × List MemPlace)} {b n : Nat} {Dm : DataW H} (h : w.ownsMap P k R b n Dm) {g : Nat} {arr : Array Value} {e : TypeId} {fz : Nat × Nat} (hg : w.heap[g]? = some (.cells arr e fz)) : g ≠ b := by
  rintro rfl
  obtain ⟨es, clock, hh, _⟩ := h
  rw [hg] at hh
  cases hh
/-- kept where its own blocks are kept -/
theorem Rem.keep (h : Rem D B rb E G w) (hs : w.heap.size ≤ w'.heap.size) (hr : ∃ ia ib sym sa sb, w'.heap[rb]? = some (.cells #[.map (some G.mb), G.vc, ia, ib, sym, sa, sb] 39 (0, 0))) (hm : w'.heap[G.mb]? = w.heap[G.mb]?)
    (ho : ∀ g, g < w.heap.size → (∃ cur, w.heap[g]? = some (.cells cur 74 (0, 0)) ∨ w.heap[g]? = some (.cells cur 62 (0, 0))) → w'.heap[g]? = w.heap[g]?) (hD : ∀ g, D g → g < w.heap.size → w'.heap[g]? = w.heap[g]?) : Rem D B rb E G w' where
  hb := hr
  rge := h.rge
  mge := h.mge
  mp := map_heap h.mp hm
  im := h.im
  nle := h.nle
  at' := h.at'
  bo := fun x hx => (h.bo x hx).keepP hs fun g hg => by
    obtain ⟨cur, hc⟩ := (h.bo x hx).typ g hg
    exact ho g ((h.bo x hx).ge g hg).2 ⟨cur, Or.inl hc⟩
  ne := h.ne
  dat := fun x hx y hy => by
    obtain ⟨a, b, c⟩ := h.dat x hx y hy
    exact ⟨a, b.keep hs hD, c⟩
  mod := h.mod
  len := h.len
  co := h.co.keepP hs fun g hg => by
    obtain ⟨cur, hc⟩ := h.co.typ g hg
    exact ho g (h.co.ge g hg).2 ⟨cur, Or.inr hc⟩
  dlt := h.dlt
theorem Rem.rlt (h : Rem D B rb E G w) : rb < w.heap.size := by
  obtain ⟨_, _, _, _, _, e⟩ := h.hb
  exact heap_lt e
theorem Rem.Ble (h : Rem D B rb E G w) : B ≤ w.heap.size := Nat.le_trans h.rge (Nat.le_of_lt h.rlt)
theorem Rem.below (h : Rem D B rb E G w) (hb : Below w.heap.size w w') : Rem D B rb E G w' := by
  obtain ⟨a, b, c, d, e, q⟩ := h.hb
  exact h.keep hb.size ⟨a, b, c, d, e, (hb.block _ h.rlt).trans q⟩ (hb.block _ h.mp.lt) (fun g hg _ => hb.block g hg) (fun g _ hg => hb.block g hg)
/-- kept where a block of another kind is written -/
theorem Rem.other (h : Rem D B rb E G w) {X : Nat} {arr : Array Value} {e : TypeId} {fz : Nat × Nat} (hX : w.heap[X]? = some (.cells arr e fz)) (h1 : e ≠ 39) (h2 : e ≠ 74) (h3 : e ≠ 62) (hD : ¬ D X) (hs : w.heap.size ≤ w'.heap.size) (hb : ∀ g, g < w.heap.size → g ≠ X → w'.heap[g]? = w.heap[g]?) : Rem D B rb E G w' := by
  obtain ⟨a, b, c, d, s, q⟩ := h.hb
  refine h.keep hs ⟨a, b, c, d, s, (hb _ h.rlt (fun e2 => ?_)).trans q⟩ (hb _ h.mp.lt (Ne.symm (map_ne h.mp hX))) (fun g hg hc => hb g hg (fun e2 => ?_)) (fun g hg hl => hb g hl (fun e2 => hD (e2 ▸ hg)))
  · rw [e2, hX] at q
    injection q with q
    injection q with _ q
    exact h1 q
  · subst e2
    obtain ⟨cur, hc | hc⟩ := hc
    · rw [hX] at hc
      injection hc with hc
      injection hc with _ hc
      exact h2 hc
    · rw [hX] at hc
      injection hc with hc
      injection hc with _ hc
      exact h3 hc
/-- a field of its check is written -/
theorem Rem.setRb (h : Rem D B rb E G w) {k : Nat} (hk : 2 ≤ k) (v : Value) : Rem D B rb E G (w.setCell ⟨rb, k, none⟩ v) := by
  obtain ⟨a, b, c, d, s, q⟩ := h.hb
  have o : ∀ g, g ≠ rb → (w.setCell ⟨rb, k, none⟩ v).heap[g]? = w.heap[g]? := fun g hg => hother _ _ _ hg
  refine h.keep (by simp [World.setCell]) ?_ (o _ (Ne.symm (map_ne h.mp q))) (fun g hg hc => o g (fun e2 => ?_)) (fun g hg hl => o g (fun e2 => ?_))
  · have := hset q k v
    match k, hk with
    | 2, _ => exact ⟨_, _, _, _, _, this⟩
    | 3, _ => exact ⟨_, _, _, _, _, this⟩
    | 4, _ => exact ⟨_, _, _, _, _, this⟩
    | 5, _ => exact ⟨_, _, _, _, _, this⟩
    | 6, _ => exact ⟨_, _, _, _, _, this⟩
    | k + 7, _ =>
      refine ⟨a, b, c, d, s, ?_⟩
      rw [this]
      congr 2
  · subst e2
    obtain ⟨cur, hc | hc⟩ := hc
    · rw [q] at hc
      injection hc with hc
      injection hc with _ hc
      exact absurd hc (by decide)
    · rw [q] at hc
      injection hc with hc
      injection hc with _ hc
      exact absurd hc (by decide)
  · have := h.dlt g hg
    have := h.rge
    omega
theorem keyed35 : Keyed Try.prog 35 := Maps.int_keyed Try.underlying35
theorem key35 {x : Int} (hx : u32r x) : keyOf Try.prog 35 (.int .u32 x) = some (.int .u32 x) := by
  refine Maps.keyOf_int_mk Try.underlying35 ?_
  have hm : IntKind.u32.min = 0 := by decide
  have hM : IntKind.u32.max = 4294967295 := by decide
  obtain ⟨h1, h2⟩ := hx
  simp only [Lit.wf, hm, hM, Bool.and_eq_true, decide_eq_true_eq]
  omega
theorem zero72 (w : World) : (zeroValue 72).run Try.prog w = .ok zE w := by kernel_rfl
set_option maxRecDepth 100000 in
/-- the bucket of a hash -/
theorem Rem.look (h : Rem D B rb E G w) {x : Int} (hx : u32r x) : (Instr.lookup 29 (.map (some G.mb)) (.int .u32 x) false).run Try.prog w = .ok (.agg #[G.Bk x]) w := by
  obtain ⟨v, ps, hrun, hv⟩ := h.mp.lookup keyed35 Try.underlying29 (zero72 w) (zd := .held zE) (zp := []) rfl (key35 hx)
  rw [h.at' x hx] at hv
  unfold heldR at hv
  injection hv with hv
  injection hv with hv _
  injection hv with hv
  rw [← hv]
  exact hrun
end
theorem info74 : (Try.prog.info? 74).map (fun i => (i.zero, i.size, i.bytes)) = some (some (.agg #[.nilIface, .int .u32 0]), 2, 24) := by kernel_rfl
theorem info62 : (Try.prog.info? 62).map (fun i => (i.zero, i.size, i.bytes)) = some (some (.agg #[.slice none 0 0, .int .u32 0]), 2, 32) := by kernel_rfl
end Go.Proofs.Ytphimfimnakclaa
