/-
  The selectors that come in. Conditions: each theorem's own.
-/
import Derived.Test.YtllafdcijpdopaaGreatFmtPa
import Derived.Test.YtllafdcijpdopaaGreatFmtProg
import Derived.SliceStrings
import Derived.Deep.Slices
import Derived.Deep.Strs
import Derived.ChangeSame
namespace Go.Proofs.YtllafdcijpdopaaGreatFmt
open Go.ChangeShapes Go.WideShapes Go.RowKit Go.Deep
structure Cm where
  comb : Nat
  amps : Nat
  names : List NM
instance : Inhabited Cm := ⟨⟨0, 0, []⟩⟩
abbrev CxM := List Cm
structure StrsAt (w : World) (v : Value) (ns : List NM) : Prop where
  ex : ∃ a c, v = .slice a ns.length c ∧ ∀ i (h : i < ns.length), ∃ g o, a = some ⟨g, o, none⟩ ∧ g < w.heap.size ∧ w.cell? ⟨g, o + i, none⟩ = some (.string (ba ns[i]))
structure CmAt (w : World) (g q : Nat) (m : Cm) : Prop where
  ex : ∃ s, w.cell? ⟨g, q, none⟩ = some (.int .u8 (m.comb : Nat)) ∧ w.cell? ⟨g, q + 1, none⟩ = some (.int .u8 (m.amps : Nat)) ∧ w.cell? ⟨g, q + 2, none⟩ = some s ∧ StrsAt w s m.names ∧ m.comb ≤ 255 ∧ m.amps ≤ 255
structure CmpsAt (w : World) (v : Value) (ms : List Cm) : Prop where
  ex : ∃ a c, v = .slice a ms.length c ∧ ∀ i (h : i < ms.length), ∃ g o, a = some ⟨g, o, none⟩ ∧ g < w.heap.size ∧ CmAt w g (o + i * 3) ms[i]
structure CxsAt (w : World) (v : Value) (xs : List CxM) : Prop where
  ex : ∃ a c, v = .slice a xs.length c ∧ ∀ i (h : i < xs.length), ∃ g o s, a = some ⟨g, o, none⟩ ∧ g < w.heap.size ∧ w.cell? ⟨g, o + i, none⟩ = some s ∧ CmpsAt w s xs[i]
theorem StrsAt.below {w w' : World} {v : Value} {ns : List NM} (h : StrsAt w v ns) (hb : Below w.heap.size w w') : StrsAt w' v ns := by
  obtain ⟨a, c, e, hx⟩ := h.ex
  refine ⟨a, c, e, fun i hi => ?_⟩
  obtain ⟨g, o, e1, e2, e3⟩ := hx i hi
  exact ⟨g, o, e1, Nat.lt_of_lt_of_le e2 hb.size, (cellLow (hb.block g e2) _).trans e3⟩
theorem CmAt.below {w w' : World} {g q : Nat} {m : Cm} (h : CmAt w g q m) (hg : g < w.heap.size) (hb : Below w.heap.size w w') : CmAt w' g q m := by
  obtain ⟨s, e1, e2, e3, e4, e5⟩ := h.ex
  exact ⟨s, (cellLow (hb.block g hg) _).trans e1, (cellLow (hb.block g hg) _).trans e2, (cellLow (hb.block g hg) _).trans e3, e4.below hb, e5⟩
theorem CmpsAt.below {w w' : World} {v : Value} {ms : List Cm} (h : CmpsAt w v ms) (hb : Below w.heap.size w w') : CmpsAt w' v ms := by
  obtain ⟨a, c, e, hx⟩ := h.ex
  refine ⟨a, c, e, fun i hi => ?_⟩
  obtain ⟨g, o, e1, e2, e3⟩ := hx i hi
  exact ⟨g, o, e1, Nat.lt_of_lt_of_le e2 hb.size, e3.below e2 hb⟩
theorem CxsAt.below {w w' : World} {v : Value} {xs : List CxM} (h : CxsAt w v xs) (hb : Below w.heap.size w w') : CxsAt w' v xs := by
  obtain ⟨a, c, e, hx⟩ := h.ex
  refine ⟨a, c, e, fun i hi => ?_⟩
  obtain ⟨g, o, s, e1, e2, e3, e4⟩ := hx i hi
  exact ⟨g, o, s, e1, Nat.lt_of_lt_of_le e2 hb.size, (cellLow (hb.block g e2) _).trans e3, e4.below hb⟩
/-- the bounds on lengths -/
structure Bnd (xs : List CxM) : Prop where
  n : xs.length ≤ 1048576
  p : ∀ x ∈ xs, x.length ≤ 1048576
  q : ∀ x ∈ xs, ∀ m ∈ x, m.names.length ≤ 1048576
  r : ∀ x ∈ xs, ∀ m ∈ x, ∀ s ∈ m.names, s.length ≤ 1048576
structure BndC (ms : List Cm) : Prop where
  p : ms.length ≤ 1048576
  q : ∀ m ∈ ms, m.names.length ≤ 1048576
  r : ∀ m ∈ ms, ∀ s ∈ m.names, s.length ≤ 1048576
theorem Bnd.at' {xs : List CxM} (h : Bnd xs) {i : Nat} (hi : i < xs.length) : BndC xs[i] := ⟨h.p _ (List.getElem_mem hi), h.q _ (List.getElem_mem hi), h.r _ (List.getElem_mem hi)⟩
structure BndM (m : Cm) : Prop where
  q : m.names.length ≤ 1048576
  r : ∀ s ∈ m.names, s.length ≤ 1048576
theorem BndC.at' {ms : List Cm} (h : BndC ms) {i : Nat} (hi : i < ms.length) : BndM ms[i] := ⟨h.q _ (List.getElem_mem hi), h.r _ (List.getElem_mem hi)⟩
section
variable {H : Type} {enc : TypeId × Value → H} {w : World} {held : Bool}
theorem addr_of {w : World} {a : Addr} {v : Value} (h : w.cell? a = some v) : a = ⟨a.block, a.off, none⟩ ∧ a.block < w.heap.size := by
  have h1 := World.cell?_spot h
  have h2 := World.block_lt_of_cell? w a h
  obtain ⟨b, o, s⟩ := a
  subst h1
  exact ⟨rfl, h2⟩
theorem add_flat (b o i : Nat) : (⟨b, o, none⟩ : Addr).add i = ⟨b, o + i, none⟩ := by
  unfold Addr.add
  by_cases e : i = 0
  · simp [e]
  · simp [e]
theorem strs_of {fuel : Nat} {v : Value} {x : DataW H × List MemPlace} (h : DataW.trod enc Tryz.prog w 0 (fun _ => true) held fuel 46 [v] = some x) : ∃ ns, StrsAt w v ns := by
  rcases open_strings Tryz.underlying46 Tryz.underlying9 (by kernel_rfl) h with ⟨hcs, _⟩ | ⟨a, l, c, zs, hcs, _, hl, hm, hz, _, hcell, hwz⟩
  · cases hcs
    exact ⟨[], none, 0, rfl, fun i hi => by simp at hi⟩
  · cases hcs
    have hz' : zs.length = c := by simpa using hz
    refine ⟨(List.range l).map (fun i => (zs.getD i ByteArray.empty).data.toList), some a, c, by simp, fun i hi => ?_⟩
    have hi' : i < l := by simpa using hi
    obtain ⟨e1, e2⟩ := addr_of (hcell 0 (by omega))
    have e3 : a = ⟨a.block, a.off, none⟩ := by
      have q := World.cell?_spot (hcell 0 (by omega))
      obtain ⟨b, o, s⟩ := a
      have : s = none := by simpa [Addr.add] using q
      subst this
      rfl
    have e4 : (a.add 0).block = a.block := by simp [Addr.add]
    rw [e4] at e2
    have e5 := hcell i (by omega)
    rw [e3, add_flat] at e5
    refine ⟨a.block, a.off, by rw [← e3], e2, ?_⟩
    rw [e5]
    simp [ba_of]
theorem len3 {cs : List Value} (h : cs.length = 3) : ∃ a b c, cs = [a, b, c] := by
  match cs, h with
  | [a, b, c], _ => exact ⟨a, b, c, rfl⟩
theorem len1 {cs : List Value} (h : cs.length = 1) : ∃ a, cs = [a] := by
  match cs, h with
  | [a], _ => exact ⟨a, rfl⟩
theorem row_zero {w : World} {a : Addr} {sz : Nat} {cs : List Value} (h : w.cells? 0 (a.add (0 * sz)) sz = some cs) (hs : 0 < sz) : a = ⟨a.block, a.off, none⟩ ∧ a.block < w.heap.size := by
  obtain ⟨_, hl, hx⟩ := World.cells?_some h
  have h0 := hx 0 hs
  rw [List.getElem?_eq_getElem (by omega)] at h0
  have q := World.cell?_spot h0
  have hb := World.block_lt_of_cell? w _ h0
  obtain ⟨b, o, s⟩ := a
  have e : ((⟨b, o, s⟩ : Addr).add (0 * sz)).add 0 = ⟨b, o, s⟩ := by simp [Addr.add]
  rw [e] at q hb
  have : s = none := q
  subst this
  exact ⟨rfl, hb⟩
theorem row_plain {w : World} {b o sz k : Nat} {cs : List Value} (h : w.cells? 0 ((⟨b, o, none⟩ : Addr).add (k * sz)) sz = some cs) : cs.length = sz ∧ ∀ j, j < sz → w.cell? ⟨b, o + k * sz + j, none⟩ = cs[j]? := by
  obtain ⟨_, hl, hx⟩ := World.cells?_some h
  refine ⟨hl, fun j hj => ?_⟩
  have := hx j hj
  rw [add_flat, add_flat] at this
  exact this
theorem cm_of {fuel : Nat} {cs : List Value} {x : DataW H × List MemPlace} (h : DataW.trod enc Tryz.prog w 0 (fun _ => true) held fuel 48 cs = some x) :
    ∃ (m : Cm) (s : Value), cs = [.int .u8 (m.comb : Nat), .int .u8 (m.amps : Nat), s] ∧ StrsAt w s m.names ∧ m.comb ≤ 255 ∧ m.amps ≤ 255 := by
  obtain ⟨y0, y1, y2, n, _, hl, t0, t1, t2⟩ := trod_struct3 Tryz.underlying48 h
  rw [show Tryz.prog.cellsOf 48 = 3 by kernel_rfl] at hl
  obtain ⟨c0, c1, c2, rfl⟩ := len3 hl
  · simp only [show Tryz.prog.cellsOf 5 = 1 by kernel_rfl, show Tryz.prog.cellsOf 46 = 1 by kernel_rfl, List.drop, List.take] at t0 t1 t2
    obtain ⟨a, e0, _, w0⟩ := DataW.trod_int Tryz.underlying5 t0
    obtain ⟨b, e1, _, w1⟩ := DataW.trod_int Tryz.underlying5 t1
    obtain ⟨ns, hs⟩ := strs_of t2
    simp [Lit.wf, IntKind.min, IntKind.max, IntKind.signed, IntKind.bits] at w0 w1
    cases e0
    cases e1
    refine ⟨⟨a.toNat, b.toNat, ns⟩, c2, ?_, hs, by simp only; omega, by simp only; omega⟩
    rw [Int.toNat_of_nonneg (by omega), Int.toNat_of_nonneg (by omega)]
theorem cmps_of {fuel : Nat} {v : Value} {x : DataW H × List MemPlace} (h : DataW.trod enc Tryz.prog w 0 (fun _ => true) held fuel 43 [v] = some x) : ∃ ms, CmpsAt w v ms := by
  rcases Go.Deep.open_slice Tryz.underlying43 h with ⟨hcs, _⟩ | ⟨a, l, c, m, n, D, Pl, hcs, _, hl, hm, hmm, _, hx⟩
  · cases hcs
    exact ⟨[], none, 0, rfl, fun i hi => by simp at hi⟩
  · cases hcs
    have hmm' : m = c := by simpa using hmm
    rw [show Tryz.prog.cellsOf 48 = 3 by kernel_rfl] at hx
    obtain ⟨f, hf⟩ := Go.Deep.choose_lt (α := Cm) (n := l) (p := fun i z => a = ⟨a.block, a.off, none⟩ ∧ a.block < w.heap.size ∧ CmAt w a.block (a.off + i * 3) z) (fun i hi => by
      obtain ⟨cs0, h0, _⟩ := hx 0 (by omega)
      obtain ⟨cs', h1, h2⟩ := hx i (by omega)
      obtain ⟨e1, e2⟩ := row_zero h0 (by omega)
      rw [e1] at h1
      obtain ⟨e3, e4⟩ := row_plain h1
      obtain ⟨z, s, rfl, hs, hc, ha⟩ := cm_of h2
      exact ⟨z, e1, e2, s, e4 0 (by omega), e4 1 (by omega), e4 2 (by omega), hs, hc, ha⟩)
    refine ⟨(List.range l).map f, some a, c, by simp, fun i hi => ?_⟩
    have hi' : i < l := by simpa using hi
    obtain ⟨e1, e2, e3⟩ := hf i hi'
    refine ⟨a.block, a.off, by rw [← e1], e2, ?_⟩
    simpa using e3
instance : Inhabited CxM := ⟨[]⟩
theorem cxs_of {fuel : Nat} {v : Value} {x : DataW H × List MemPlace} (h : DataW.trod enc Tryz.prog w 0 (fun _ => true) held fuel 22 [v] = some x) : ∃ xs, CxsAt w v xs := by
  rcases Go.Deep.open_slice Tryz.underlying22 h with ⟨hcs, _⟩ | ⟨a, l, c, m, n, D, Pl, hcs, _, hl, hm, hmm, _, hx⟩
  · cases hcs
    exact ⟨[], none, 0, rfl, fun i hi => by simp at hi⟩
  · cases hcs
    have hmm' : m = c := by simpa using hmm
    rw [show Tryz.prog.cellsOf 45 = 1 by kernel_rfl] at hx
    obtain ⟨f, hf⟩ := Go.Deep.choose_lt (α := CxM) (n := l) (p := fun i z => a = ⟨a.block, a.off, none⟩ ∧ a.block < w.heap.size ∧ ∃ s, w.cell? ⟨a.block, a.off + i, none⟩ = some s ∧ CmpsAt w s z) (fun i hi => by
      obtain ⟨cs0, h0, _⟩ := hx 0 (by omega)
      obtain ⟨cs', h1, h2⟩ := hx i (by omega)
      obtain ⟨e1, e2⟩ := row_zero h0 (by omega)
      rw [e1] at h1
      obtain ⟨e3, e4⟩ := row_plain h1
      obtain ⟨y0, n', _, hlen, t0⟩ := trod_struct1 Tryz.underlying45 h2
      obtain ⟨c0, rfl⟩ := len1 e3
      · simp only [show Tryz.prog.cellsOf 43 = 1 by kernel_rfl, List.drop, List.take] at t0
        obtain ⟨z, hz⟩ := cmps_of t0
        refine ⟨z, e1, e2, c0, ?_, hz⟩
        have := e4 0 (by omega)
        simpa using this)
    refine ⟨(List.range l).map f, some a, c, by simp, fun i hi => ?_⟩
    have hi' : i < l := by simpa using hi
    obtain ⟨e1, e2, s, e3, e4⟩ := hf i hi'
    refine ⟨a.block, a.off, s, by rw [← e1], e2, e3, ?_⟩
    simpa using e4
end
end Go.Proofs.YtllafdcijpdopaaGreatFmt
