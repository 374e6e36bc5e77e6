/-
  symbolForName: the symbol of a name, its count and its entry. Conditions: the parser's symbols stand as PS says.
-/
import Derived.Test.YtgjoklbljmpkgaaFmtGd
import Derived.StringKeys
import Derived.BigRegion
import Derived.Deep.DeepCutAuto
import Derived.Deep.RegionWith
import Derived.Deep.RegionHeld3
import Derived.WalkLawsBesides
namespace Go.Proofs.YtgjoklbljmpkgaaFmt
open Go.RowKit Go.Lib Go.ChangeMaps
open Go.Maps (Keyed IsMap)

structure SymX (m : Bool) (l : List NM) (xs : List Value) : Prop where
  ex : ∀ i (h : i < (dist l).length), xs[i * 10 + 1]? = some (.string (ba (dist l)[i])) ∧ xs[i * 10 + 4]? = some (.int .u32 (l.count (dist l)[i] : Nat)) ∧ xs[i * 10 + 8]? = some (.int .u8 (if m then 26 else 25))
structure MapX (l : List NM) (D : DataW Unit) : Prop where
  im : IsMap D
  has : ∀ n, Maps.has D (.string n) = decide (n ∈ l)
  at' : ∀ n, n ∈ l → ∀ z, D.atKey (.string n) z = .lit (.int .u32 ((dist l).idxOf n : Nat))
structure PS (c : PC) (l : List NM) (vS vL : Value) (w : World) : Prop where
  ex : ∃ xS xL D, PW c vS (dist l).length xS vL (if c.m then (dist l).length else 0) xL (dist l).length D w ∧ SymX c.m l xS ∧ MapX l D
/-- what may have turned among the first n0 blocks -/
structure Fr (E : Nat → Prop) (n0 : Nat) (w w' : World) : Prop where
  os : w'.os = w.os
  tape : w'.tape = w.tape
  output : w'.output = w.output
  size : w.heap.size ≤ w'.heap.size
  block : ∀ g, g < n0 → ¬ E g → w'.heap[g]? = w.heap[g]?
theorem Fr.refl (E : Nat → Prop) (n0 : Nat) (w : World) : Fr E n0 w w := ⟨rfl, rfl, rfl, Nat.le_refl _, fun _ _ _ => rfl⟩
theorem Fr.trans {E : Nat → Prop} {n0 : Nat} {a b c : World} (h : Fr E n0 a b) (k : Fr E n0 b c) : Fr E n0 a c :=
  ⟨k.os.trans h.os, k.tape.trans h.tape, k.output.trans h.output, Nat.le_trans h.size k.size, fun g h1 h2 => (k.block g h1 h2).trans (h.block g h1 h2)⟩
theorem Fr.alloc {E : Nat → Prop} {n0 : Nat} {w w' : World} (h : Fr E n0 w w') (hn : n0 ≤ w.heap.size) (o : Obj) : Fr E n0 w (w'.alloc o) := by
  have hg := World.grownBy_alloc w' o none
  exact h.trans ⟨hg.os, hg.tape, hg.output, hg.size, fun g h1 _ => hg.block g (by have := h.size; omega) (by simp)⟩
theorem Fr.drew {E : Nat → Prop} {n0 : Nat} {w w' : World} (h : Fr E n0 w w') : Fr E n0 w w'.drew := h.trans ⟨rfl, rfl, rfl, Nat.le_refl _, fun _ _ _ => rfl⟩
theorem Fr.grown {E : Nat → Prop} {n0 : Nat} {w w' w'' : World} (h : Fr E n0 w w') (hn : n0 ≤ w.heap.size) {row : Option Nat} (hg : w'.grownBy w'' row) (hr : ∀ g, row = some g → E g ∨ n0 ≤ g) : Fr E n0 w w'' :=
  h.trans ⟨hg.os, hg.tape, hg.output, hg.size, fun g h1 h2 => hg.block g (by have := h.size; omega) (fun e => by
    rcases hr g e.symm with h3 | h3
    · exact h2 h3
    · omega)⟩
theorem Fr.set {E : Nat → Prop} {n0 : Nat} {w w' : World} (h : Fr E n0 w w') (a : Addr) (u : Value) (hr : E a.block ∨ n0 ≤ a.block) : Fr E n0 w (w'.setCell a u) :=
  h.trans ⟨by first | rfl | simp [go_sem] | (unfold World.setCell; split <;> rfl), by first | rfl | simp [go_sem] | (unfold World.setCell; split <;> rfl), by first | rfl | simp [go_sem] | (unfold World.setCell; split <;> rfl), by simp, fun g h1 h2 => heap_setCell_other w' a g u (fun e => by
    rcases hr with h3 | h3
    · exact h2 (e ▸ h3)
    · omega)⟩
def Ex (c : PC) (vS vL : Value) (g : Nat) : Prop := g = c.pb ∨ g = c.mb ∨ vS.ownBlock = some g ∨ vL.ownBlock = some g
def New (w : World) (v v' : Value) : Prop := v'.ownBlock = v.ownBlock ∨ ∃ g, v'.ownBlock = some g ∧ w.heap.size ≤ g
structure SymR (c : PC) (l : List NM) (nm : NM) (vS vL : Value) (w : World) (e : Ending) (w' : World) : Prop where
  ex : ∃ vS' vL', e = .returned (.agg #[.int .i32 0, .int .u32 0, .int .u32 ((dist (l ++ [nm])).idxOf nm : Nat)]) ∧ PS c (l ++ [nm]) vS' vL' w' ∧ Fr (Ex c vS vL) w.heap.size w w' ∧ New w vS vS' ∧ New w vL vL'
theorem str_keyed : Keyed Tryf.prog 9 := Maps.string_keyed Tryf.underlying9
theorem zero102 (w : World) : (zeroValue 102).run Tryf.prog w = .ok (.agg #[.int .i32 0, .int .u32 0, .int .u32 0]) w := by kernel_rfl
theorem look40 {c : PC} {vS vL : Value} {nS nL nM : Nat} {xS xL : List Value} {D : DataW Unit} {l : List NM} {w : World} (h : PW c vS nS xS vL nL xL nM D w) (hM : MapX l D) (nm : NM) (hn : nm.length ≤ 1048576) :
    ∃ i : Int, (Instr.lookup 40 (.map (some c.mb)) (.string (ba nm)) true).run Tryf.prog w = .ok (.tuple #[.agg #[.int .i32 0, .int .u32 0, .int .u32 i], .bool (decide (nm ∈ l))]) w ∧ (nm ∈ l → i = ((dist l).idxOf nm : Nat)) := by
  have hk : keyOf Tryf.prog 9 (.string (ba nm)) = some (.string nm) := by
    rw [Go.WideMaps.keyOf_string_mk Tryf.underlying9 (by simp [ba, ByteArray.size, maxLen]; omega), ba_list]
  obtain ⟨v, ps, hrun, hv⟩ := h.mp.look_ok str_keyed Tryf.underlying40 (zero102 w) (locE_mk 0) hk
  obtain ⟨i, rfl, hz⟩ := locE_inv hv
  rw [hM.has] at hrun
  refine ⟨i, hrun, fun hm => ?_⟩
  rw [hM.at' nm hm] at hz
  simp at hz
  exact hz.1.symm
/-- the count of a name that has been seen goes up -/
theorem SymX.hit {m : Bool} {l : List NM} {xs : List Value} (h : SymX m l xs) (nm : NM) (hm : nm ∈ l) : SymX m (l ++ [nm]) (xs.set ((dist l).idxOf nm * 10 + 4) (.int .u32 (l.count nm + 1 : Nat))) := by
  have hd : dist (l ++ [nm]) = dist l := by rw [dist_snoc, if_pos ((mem_dist l nm).2 hm)]
  have hI := idx_lt l nm hm
  have hat : (dist l)[(dist l).idxOf nm] = nm := List.getElem_idxOf hI
  constructor
  rw [hd]
  intro i hi
  obtain ⟨h1, h2, h3⟩ := h.ex i hi
  refine ⟨?_, ?_, ?_⟩
  · rw [List.getElem?_set_ne (by omega)]; exact h1
  · by_cases e : i = (dist l).idxOf nm
    · subst e
      rw [List.getElem?_set_self' ]
      rw [h2]
      simp [hat]
    · rw [List.getElem?_set_ne (by omega), h2, List.count_append]
      have hne : (dist l)[i] ≠ nm := fun e2 => e (by rw [← e2]; exact ((nodup_dist l).idxOf_getElem i hi).symm)
      rw [List.count_cons_of_ne (Ne.symm hne)]
      simp
  · rw [List.getElem?_set_ne (by omega)]; exact h3
theorem MapX.hit {l : List NM} {D : DataW Unit} (h : MapX l D) (nm : NM) (hm : nm ∈ l) : MapX (l ++ [nm]) D := by
  have hd : dist (l ++ [nm]) = dist l := by rw [dist_snoc, if_pos ((mem_dist l nm).2 hm)]
  refine ⟨h.im, fun n => ?_, fun n hn z => ?_⟩
  · rw [h.has]
    refine decide_eq_decide.2 ?_
    rw [List.mem_append, List.mem_singleton]
    exact ⟨Or.inl, fun h => h.elim id (fun e => e ▸ hm)⟩
  · rw [hd]
    refine h.at' n ?_ z
    rw [List.mem_append, List.mem_singleton] at hn
    exact hn.elim id (fun e => e ▸ hm)
/-- a new symbol's cells -/
def symV (m : Bool) (nm : NM) (u : Int) : List Value := [.pointer none, .string (ba nm), .int .u32 4294967295, .int .u32 4294967295, .int .u32 u, .int .u32 0, .int .u32 0, .int .u16 0, .int .u8 (if m then 26 else 25), .int .u8 0]
theorem SymX.miss {m : Bool} {l : List NM} {xs : List Value} (h : SymX m l xs) (hx : xs.length = (dist l).length * 10) (nm : NM) (hm : nm ∉ l) : SymX m (l ++ [nm]) ((xs ++ symV m nm 0).set ((dist l).length * 10 + 4) (.int .u32 1)) := by
  have hd : dist (l ++ [nm]) = dist l ++ [nm] := by rw [dist_snoc, if_neg (fun e => hm ((mem_dist l nm).1 e))]
  constructor
  rw [hd]
  intro i hi
  by_cases e : i < (dist l).length
  · obtain ⟨h1, h2, h3⟩ := h.ex i e
    rw [List.getElem_append_left e]
    refine ⟨?_, ?_, ?_⟩
    · rw [List.getElem?_set_ne (by omega), List.getElem?_append_left (by omega)]; exact h1
    · rw [List.getElem?_set_ne (by omega), List.getElem?_append_left (by omega), h2, List.count_append]
      have hne : (dist l)[i] ≠ nm := fun e2 => hm ((mem_dist l nm).1 (e2 ▸ List.getElem_mem e))
      rw [List.count_cons_of_ne (Ne.symm hne)]
      simp
    · rw [List.getElem?_set_ne (by omega), List.getElem?_append_left (by omega)]; exact h3
  · have e2 : i = (dist l).length := by simp at hi; omega
    subst e2
    have hat : (dist l ++ [nm])[(dist l).length]'hi = nm := by simp
    rw [hat]
    refine ⟨?_, ?_, ?_⟩
    · rw [List.getElem?_set_ne (by omega), List.getElem?_append_right (by omega), hx, show (dist l).length * 10 + 1 - (dist l).length * 10 = 1 by omega]; rfl
    · rw [List.getElem?_set_self (by simp [symV]; omega), List.count_append]
      have : l.count nm = 0 := List.count_eq_zero.2 hm
      simp [this]
    · rw [List.getElem?_set_ne (by omega), List.getElem?_append_right (by omega), hx, show (dist l).length * 10 + 8 - (dist l).length * 10 = 8 by omega]; rfl
theorem MapX.miss {l : List NM} {D : DataW Unit} (h : MapX l D) (nm : NM) (hm : nm ∉ l) : MapX (l ++ [nm]) (D.put (.string nm) (.lit (.int .u32 ((dist l).length : Nat)))) := by
  have hd : dist (l ++ [nm]) = dist l ++ [nm] := by rw [dist_snoc, if_neg (fun e => hm ((mem_dist l nm).1 e))]
  have hnd : nm ∉ dist l := fun e => hm ((mem_dist l nm).1 e)
  refine ⟨h.im.put _ _, fun n => ?_, fun n hn z => ?_⟩
  · by_cases e : n = nm
    · subst e
      rw [Maps.has_put_same h.im (show WideAt.IsKeyLit (.string _) from trivial)]
      simp
    · rw [Maps.has_put_other (by simpa using e), h.has]
      refine decide_eq_decide.2 ?_
      simp [e]
  · rw [hd]
    by_cases e : n = nm
    · subst e
      rw [Maps.atKey_put_same h.im (show WideAt.IsKeyLit (.string _) from trivial), List.idxOf_append, if_neg hnd]
      simp
    · have hn' : n ∈ l := by
        rw [List.mem_append, List.mem_singleton] at hn
        exact hn.resolve_right e
      rw [Maps.atKey_put_other (by simpa using e), h.at' n hn', List.idxOf_append, if_pos ((mem_dist l n).2 hn')]
end Go.Proofs.YtgjoklbljmpkgaaFmt
