/-
  Selectors and rules as they stand in memory; the model. Conditions: each theorem's own.
-/
import Derived.Test.YtjebnjjhdefejaaGreatFmtLa
import Derived.Test.YtjebnjjhdefejaaGreatFmtDt
namespace Go.Proofs.YtjebnjjhdefejaaGreatFmt
open Go.RowKit Go.Lib Go.ChangeMaps
abbrev hovS : ByteArray := ⟨#[104, 111, 118, 101, 114]⟩
abbrev hov : Array Value := #[.string hovS, .slice none 0 0, .bool false]
/-- a plain pseudo-class, as a subclass selector -/
def HovT : Elt Unit 3 where
  E w P c _ := ∃ b, c 0 = some (.iface 121 (.pointer (some ⟨b, 0, none⟩))) ∧ c 1 = some (.int .i32 0) ∧ c 2 = some (.int .i32 0) ∧ P b ∧ b < w.heap.size ∧ w.heap[b]? = some (.cells hov 123 (0, 0))
  keep := by
    rintro w w' P P' h c m ⟨b, e0, e1, e2, hp, hb, hh⟩
    exact ⟨b, e0, e1, e2, h.sub b hp hb, Nat.lt_of_lt_of_le hb h.size, (h.block b hp hb).trans hh⟩
  loc := by
    rintro w P c c' m h ⟨b, e0, e1, e2, hp⟩
    exact ⟨b, by rw [← h 0 (by omega)]; exact e0, by rw [← h 1 (by omega)]; exact e1, by rw [← h 2 (by omega)]; exact e2, hp⟩
/-- a compound selector of one plain pseudo-class -/
def CpH : Elt Unit 6 where
  E w P c _ := c 0 = some (.pointer none) ∧ (∃ s, c 1 = some s ∧ RowL HovT w P s [()]) ∧ c 2 = some (.slice none 0 0) ∧ c 3 = some (.int .i32 0) ∧ c 4 = some (.int .u8 0) ∧ c 5 = some (.bool false)
  keep := by
    rintro w w' P P' h c m ⟨e0, ⟨s, e1, hr⟩, e2⟩
    exact ⟨e0, ⟨s, e1, hr.keep h⟩, e2⟩
  loc := by
    rintro w P c c' m h ⟨e0, ⟨s, e1, hr⟩, e2, e3, e4, e5⟩
    exact ⟨by rw [← h 0 (by omega)]; exact e0, ⟨s, by rw [← h 1 (by omega)]; exact e1, hr⟩, by rw [← h 2 (by omega)]; exact e2, by rw [← h 3 (by omega)]; exact e3, by rw [← h 4 (by omega)]; exact e4, by rw [← h 5 (by omega)]; exact e5⟩
abbrev us (m : Nat) : List Unit := List.replicate m ()
/-- a complex selector of m such compounds -/
def CxH : Elt Nat 1 where
  E w P c m := ∃ a k, c 0 = some (.slice a m k) ∧ m ≤ k ∧ RowL CpH w P (.slice a m k) (us m)
  keep := by
    rintro w w' P P' h c m ⟨a, k, e1, hk, hr⟩
    exact ⟨a, k, e1, hk, hr.keep h⟩
  loc := by
    rintro w P c c' m h ⟨a, k, e0, hr⟩
    exact ⟨a, k, by rw [← h 0 (by omega)]; exact e0, hr⟩
/-- a rule of the model: its place, its kind (0 a declaration, 1 a style rule, 2 an at-rule), its children -/
inductive Tr where
  | mk (loc : Int) (kind : Nat) (kids : List Tr) : Tr
def Tr.loc : Tr → Int | .mk l _ _ => l
def Tr.kind : Tr → Nat | .mk _ k _ => k
def Tr.kids : Tr → List Tr | .mk _ _ c => c
/-- the declarations among the children -/
def keptM (kids : List Tr) : List Tr := (kids.filter fun t => t.kind == 0).map fun t => .mk t.loc 0 []
/-- what a rule leaves behind when it is lowered: outside any style rule (false), or as a child of one (true) -/
def lowM : Nat → Bool → Tr → List Tr
  | 0, _, _ => []
  | d + 1, b, .mk loc k kids =>
    if k = 0 then (if b then [] else [.mk loc 0 []])
    else if k = 1 then (if keptM kids = [] then [] else [.mk loc 1 (keptM kids)]) ++ kids.flatMap (lowM d true)
    else if b then
      (if (if keptM kids = [] then [] else [.mk loc 1 (keptM kids)]) ++ kids.flatMap (lowM d true) = [] then [] else [.mk loc 2 ((if keptM kids = [] then [] else [.mk loc 1 (keptM kids)]) ++ kids.flatMap (lowM d true))])
    else [.mk loc 2 (kids.flatMap (lowM d false))]
/-- a rule that has been lowered, by the depth of its tree: its blocks are P's -/
def OutE : Nat → Elt Tr 2
  | 0 => ⟨fun _ _ _ _ => False, fun _ _ _ h => h.elim, fun _ h => h.elim⟩
  | d + 1 =>
    { E := fun w P c t => c 1 = some (.int .i32 t.loc) ∧
        ((t.kind = 0 ∧ t.kids = [] ∧ ∃ b, c 0 = some (.iface 103 (.pointer (some ⟨b, 0, none⟩)))) ∨
         (t.kind = 1 ∧ ∃ b s rs x, c 0 = some (.iface 110 (.pointer (some ⟨b, 0, none⟩))) ∧ P b ∧ b < w.heap.size ∧ w.heap[b]? = some (.cells #[s, rs, x] 114 (0, 0)) ∧ RowL (OutE d) w P rs t.kids) ∨
         (t.kind = 2 ∧ ∃ b rs arr, c 0 = some (.iface 115 (.pointer (some ⟨b, 0, none⟩))) ∧ P b ∧ b < w.heap.size ∧ w.heap[b]? = some (.cells arr 117 (0, 0)) ∧ arr[2]? = some rs ∧ RowL (OutE d) w P rs t.kids))
      keep := by
        rintro w w' P P' h c m ⟨e1, q | ⟨k, b, s, rs, x, e0, hp, hb, hh, hr⟩ | ⟨k, b, rs, arr, e0, hp, hb, hh, ha, hr⟩⟩
        · exact ⟨e1, Or.inl q⟩
        · exact ⟨e1, Or.inr (Or.inl ⟨k, b, s, rs, x, e0, h.sub b hp hb, Nat.lt_of_lt_of_le hb h.size, (h.block b hp hb).trans hh, hr.keep h⟩)⟩
        · exact ⟨e1, Or.inr (Or.inr ⟨k, b, rs, arr, e0, h.sub b hp hb, Nat.lt_of_lt_of_le hb h.size, (h.block b hp hb).trans hh, ha, hr.keep h⟩)⟩
      loc := by
        rintro w P c c' m h ⟨e1, ⟨k, c0, b, e0⟩ | ⟨k, b, s, rs, x, e0, hp⟩ | ⟨k, b, rs, arr, e0, hp⟩⟩
        · exact ⟨by rw [← h 1 (by omega)]; exact e1, Or.inl ⟨k, c0, b, by rw [← h 0 (by omega)]; exact e0⟩⟩
        · exact ⟨by rw [← h 1 (by omega)]; exact e1, Or.inr (Or.inl ⟨k, b, s, rs, x, by rw [← h 0 (by omega)]; exact e0, hp⟩)⟩
        · exact ⟨by rw [← h 1 (by omega)]; exact e1, Or.inr (Or.inr ⟨k, b, rs, arr, by rw [← h 0 (by omega)]; exact e0, hp⟩)⟩ }
/-- children in a row from index k on, each in an interval of its own -/
def KidsAt (T : Nat → Nat → Value → Tr → Prop) (arr : Array Value) : Nat → Nat → Nat → List Tr → Prop
  | lo, hi, _, [] => lo ≤ hi
  | lo, hi, k, t :: ts => ∃ mid v, lo ≤ mid ∧ arr[k * 2]? = some v ∧ arr[k * 2 + 1]? = some (.int .i32 t.loc) ∧ T lo mid v t ∧ KidsAt T arr mid hi (k + 1) ts
/-- a row of children: its block, and their intervals from lo on -/
def KidsR (T : Nat → Nat → Value → Tr → Prop) (w : World) (lo hi : Nat) (rs : Value) (ts : List Tr) : Prop :=
  ∃ rb cap arr, rs = .slice (some ⟨rb, 0, none⟩) ts.length cap ∧ ts.length ≤ cap ∧ lo ≤ rb ∧ rb < hi ∧ w.heap[rb]? = some (.cells arr 39 (0, 0)) ∧ ts.length * 2 ≤ arr.size ∧ KidsAt T arr (rb + 1) hi 0 ts
/-- a rule as it came, by the depth of its tree; its blocks lie from lo to hi -/
def InT : Nat → World → Nat → Nat → Value → Tr → Prop
  | 0, _, _, _, _, _ => False
  | d + 1, w, lo, hi, v, t =>
    (t.kind = 0 ∧ t.kids = [] ∧ ∃ b, v = .iface 103 (.pointer (some ⟨b, 0, none⟩))) ∨
    (t.kind = 1 ∧ ∃ b s rs x mid, v = .iface 110 (.pointer (some ⟨b, 0, none⟩)) ∧ lo ≤ mid ∧ mid ≤ b ∧ b < hi ∧ hi ≤ w.heap.size ∧ w.heap[b]? = some (.cells #[s, rs, x] 114 (0, 0)) ∧
      (∃ sb sc, s = .slice (some ⟨sb, 0, none⟩) 1 sc ∧ mid ≤ sb ∧ sb < hi ∧ ∃ u, w.heap[sb]? = some (.cells #[u] 120 (0, 0)) ∧ RowL CpH w (fun g => mid ≤ g ∧ g < hi ∧ g ≠ sb ∧ g ≠ b) u (us 1) ∧ ∃ ua uc, u = .slice ua 1 uc ∧ 1 ≤ uc) ∧
      KidsR (fun lo hi => InT d w lo hi) w lo mid rs t.kids) ∨
    (t.kind = 2 ∧ ∃ b rs arr mid, v = .iface 115 (.pointer (some ⟨b, 0, none⟩)) ∧ lo ≤ mid ∧ mid ≤ b ∧ b < hi ∧ hi ≤ w.heap.size ∧ w.heap[b]? = some (.cells arr 117 (0, 0)) ∧ arr[2]? = some rs ∧ arr.size = 4 ∧
      KidsR (fun lo hi => InT d w lo hi) w lo mid rs t.kids)
theorem KidsAt.keep {T T' : Nat → Nat → Value → Tr → Prop} {arr : Array Value} : ∀ (ts : List Tr) (lo hi k L H : Nat), L ≤ lo → hi ≤ H → (∀ lo hi v t, L ≤ lo → hi ≤ H → T lo hi v t → T' lo hi v t) → KidsAt T arr lo hi k ts → KidsAt T' arr lo hi k ts
  | [], _, _, _, _, _, _, _, _, h => h
  | t :: ts, lo, hi, k, L, H, h1, h2, hT, h => by
    obtain ⟨mid, v, a1, a2, a3, a4, a5⟩ := h
    have hle : ∀ (ts : List Tr) (lo hi k : Nat), KidsAt T arr lo hi k ts → lo ≤ hi := fun ts => by
      induction ts with
      | nil => exact fun _ _ _ h => h
      | cons t ts ih =>
        rintro lo hi k ⟨mid, v, a1, _, _, _, a5⟩
        exact Nat.le_trans a1 (ih _ _ _ a5)
    have := hle ts mid hi (k + 1) a5
    exact ⟨mid, v, a1, a2, a3, hT lo mid v t h1 (by omega) a4, KidsAt.keep ts mid hi (k + 1) L H (by omega) h2 hT a5⟩
theorem KidsAt.le {T : Nat → Nat → Value → Tr → Prop} {arr : Array Value} : ∀ (ts : List Tr) (lo hi k : Nat), KidsAt T arr lo hi k ts → lo ≤ hi
  | [], _, _, _, h => h
  | t :: ts, lo, hi, k, h => by
    obtain ⟨mid, v, a1, _, _, _, a5⟩ := h
    exact Nat.le_trans a1 (KidsAt.le ts mid hi (k + 1) a5)
/-- kept where its blocks are kept -/
theorem InT.keep {w w' : World} : ∀ (d lo hi : Nat) (v : Value) (t : Tr), w.heap.size ≤ w'.heap.size → (∀ g, lo ≤ g → g < hi → w'.heap[g]? = w.heap[g]?) → InT d w lo hi v t → InT d w' lo hi v t
  | 0, _, _, _, _, _, _, h => h
  | d + 1, lo, hi, v, t, hs, hb, h => by
    have kk : ∀ (mid : Nat) (rs : Value) (ts : List Tr), mid ≤ hi → KidsR (fun lo hi => InT d w lo hi) w lo mid rs ts → KidsR (fun lo hi => InT d w' lo hi) w' lo mid rs ts := fun mid rs ts hm h => by
      obtain ⟨rb, cap, arr, e, h1, h2, h3, h4, h5, h6⟩ := h
      exact ⟨rb, cap, arr, e, h1, h2, h3, (hb rb h2 (by omega)).trans h4, h5, h6.keep ts (rb + 1) mid 0 lo mid (by omega) (Nat.le_refl _) (fun lo2 hi2 v t a1 a2 a3 => InT.keep d lo2 hi2 v t hs (fun g g1 g2 => hb g (by omega) (by omega)) a3)⟩
    rcases h with q | ⟨k, b, s, rs, x, mid, e, h1, h2, h3, h3', h4, ⟨sb, sc, e2, h5, h6, u, h7, h8, h8'⟩, h9⟩ | ⟨k, b, rs, arr, mid, e, h1, h2, h3, h3', h4, h5, h5', h9⟩
    · exact Or.inl q
    · refine Or.inr (Or.inl ⟨k, b, s, rs, x, mid, e, h1, h2, h3, Nat.le_trans h3' hs, (hb b (by omega) h3).trans h4, ⟨sb, sc, e2, h5, h6, u, (hb sb (by omega) h6).trans h7, ?_, h8'⟩, kk mid rs t.kids (by omega) h9⟩)
      exact h8.keep ⟨hs, fun g hg _ => hb g (by omega) (by omega), fun _ hg _ => hg⟩
    · exact Or.inr (Or.inr ⟨k, b, rs, arr, mid, e, h1, h2, h3, Nat.le_trans h3' hs, (hb b (by omega) h3).trans h4, h5, h5', kk mid rs t.kids (by omega) h9⟩)
end Go.Proofs.YtjebnjjhdefejaaGreatFmt
