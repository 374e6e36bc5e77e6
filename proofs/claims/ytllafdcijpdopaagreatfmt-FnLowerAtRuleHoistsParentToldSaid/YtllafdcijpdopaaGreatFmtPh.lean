/-
  The comparison of the lists of selectors; declarations. Conditions: each theorem's own.
-/
import Derived.Test.YtllafdcijpdopaaGreatFmtPg
namespace Go.Proofs.YtllafdcijpdopaaGreatFmt
open Go.RowKit Go.Lib
attribute [local go_sem] ta_112_112 ta_112_50 ta_112_55 ta_112_59 ta_112_113 ta_50_112 ta_50_50 ta_50_55 ta_50_59 ta_50_113 ta_55_112 ta_55_50 ta_55_55 ta_55_59 ta_55_113 ta_59_112 ta_59_50 ta_59_55 ta_59_59 ta_59_113 ta_113_112 ta_113_50 ta_113_55 ta_113_59 ta_113_113 ta_nil_112 ta_nil_50 ta_nil_55 ta_nil_59 ta_nil_113 ta_169_169 ta_169_149 nn_112 ne_112 nn_50 ne_50 nn_55 ne_55 nn_59 ne_59 nn_113 ne_113 ne_nil nn_nil
set_option maxHeartbeats 8000000 in
set_option maxRecDepth 100000 in
theorem xe21 (P : Nat → Prop) (x : CxM) (v s : Value) (w : World) (hr : RowL CmpT w P v x) (hs : CmpsAt w s x) (hb : BndC x) (ha : ∀ m ∈ x, m.amps ≤ 255) :
    Calls Tryz.prog 21 #[.agg #[v], .agg #[s]] w fun e w' => e = .returned (.bool true) ∧ Below w.heap.size w w' := by
  have hn := hb.p
  obtain ⟨a, c, rfl, _⟩ := id hr
  obtain ⟨a2, c2, rfl, _⟩ := hs.ex
  obtain ⟨W, hW⟩ : ∃ W, W = (w.alloc (.cells #[.slice a x.length c] 65)).alloc (.cells #[.slice a2 x.length c2] 45) := ⟨_, rfl⟩
  have hWb : Below w.heap.size w W := by rw [hW]; exact ((Below.refl _ _).alloc (Nat.le_refl _) _).alloc (by simp) _
  have hWs : W.heap.size = w.heap.size + 2 := by rw [hW]; simp
  have hc1 : W.cell? ⟨w.heap.size, 0, none⟩ = some (.slice a x.length c) := by rw [hW]; simp [go_sem]
  have hc2 : W.cell? ⟨w.heap.size + 1, 0, none⟩ = some (.slice a2 x.length c2) := by rw [hW]; simp [go_sem]
  have HR := hid (hr.below hWb)
  have HS := hid (hs.below hWb)
  have HB := hid hb
  have HA := hid ha
  have HWB := hid hWb
  have HC1 := hid hc1
  have HC2 := hid hc2
  clear hr hs hb ha hWb hc1 hc2
  go_enter Tryz.func21, Tryz.ntmps21
  go_wp2_with fail
  rw [← hW]
  have HWW := hid hW
  clear hW
  have w1 := HC1.out
  have w2 := HC2.out
  go_wp2_with fail
  go_loopg [5] x.length (fun g v5 wx => NI x.length W g v5 wx)
  case atStart => exact ⟨0, by omega, by first | rfl | simp, Below.refl _ _⟩
  case round =>
    obtain ⟨i, hig, rfl, hbel⟩ := hrel.ex
    clear hrel w1 w2
    have w1 := (cellLow (hbel.block w.heap.size (by omega)) 0).trans HC1.out
    have w2 := (cellLow (hbel.block (w.heap.size + 1) (by omega)) 0).trans HC2.out
    have hsz := hbel.size
    cases gk with
    | zero =>
      have hc : ¬ ((i : Int) < (x.length : Int)) := by omega
      have HL := hid (HWB.out.trans (hbel.mono (by omega)))
      clear hig hbel
      go_wp2_with fail
      go_ret
      exact ⟨rfl, HL.out⟩
    | succ g =>
      have hi : i < x.length := by omega
      have hc : (i : Int) < (x.length : Int) := by omega
      obtain ⟨a', c', e', hx⟩ := HR.out.below hbel
      cases e'
      obtain ⟨g0, rfl, _, hg0, q0, ⟨v1, q1, hr1⟩, ⟨la, lc, q2⟩, q3, q4, q5⟩ := hx i hi
      obtain ⟨a'', c'', e'', hx2⟩ := (HS.out.below hbel).ex
      cases e''
      obtain ⟨g2, o2, rfl, hg2, hcm⟩ := hx2 i hi
      obtain ⟨s1, p0, p1, p2, hs1, _, _⟩ := hcm.ex
      have e5 : IntKind.i64.wrap ((i : Int) + 1) = ((i + 1 : Nat) : Int) := by rw [IntKind.wrap_i64]; omega
      simp only [Nat.add_zero] at q0
      obtain ⟨av, cv, rfl, _⟩ := id hr1
      obtain ⟨at2, ct2, rfl, _⟩ := hs1.ex
      have C33 := hid (ce33 P x[i] _ _ la lc wr.drew (hr1.below (Below.refl _ _).drew) (hs1.below (Below.refl _ _).drew) (HA.out _ (List.getElem_mem hi)) (HB.out.at' hi))
      generalize x[i] = M at *
      have HL := hid hbel
      clear hx hx2 hbel hr1 hs1 hcm
      go_wp2_with fail
      have e8 : (0 : Int) ≤ (i : Int) := by omega
      go_region_law ((go_simp
                      go_at_call 33
                      refine C33.out.mono ?_
                      rintro e w6 ⟨rfl, hb6⟩
                      have HL6 := hid (HL.out.trans ((show Below wr.heap.size wr w6 from ⟨hb6.os, hb6.tape, hb6.output, hb6.size, hb6.block⟩).mono HL.out.size))
                      clear hb6))
      all_goals
        go_wp2_with fail
        go_roundg g
        case measure => omega
        case rel => exact ⟨i + 1, by omega, by simp, by first | exact HL6.out | exact HL6.out.drew⟩
set_option maxHeartbeats 8000000 in
set_option maxRecDepth 100000 in
theorem xse15 (P : Nat → Prop) (xs : List CxM) (v s : Value) (w : World) (hr : RowL CxT w P v xs) (hs : CxsAt w s xs) (hb : Bnd xs) (ha : ∀ x ∈ xs, ∀ m ∈ x, m.amps ≤ 255) :
    Calls Tryz.prog 15 #[v, s] w fun e w' => e = .returned (.bool true) ∧ Below w.heap.size w w' := by
  have hn := hb.n
  obtain ⟨a, c, rfl, _⟩ := id hr
  obtain ⟨a2, c2, rfl, _⟩ := hs.ex
  have HR := hid hr
  have HS := hid hs
  have HB := hid hb
  have HA := hid ha
  clear hr hs hb ha
  go_enter Tryz.func15, Tryz.ntmps15
  go_wp2_with fail
  go_loopg [5] xs.length (fun g v5 wx => NI xs.length w g v5 wx)
  case atStart => exact ⟨0, by omega, by first | rfl | simp, Below.refl _ _⟩
  case round =>
    obtain ⟨i, hig, rfl, hbel⟩ := hrel.ex
    clear hrel
    cases gk with
    | zero =>
      have hc : ¬ ((i : Int) < (xs.length : Int)) := by omega
      have HL := hid hbel
      clear hig hbel
      go_wp2_with fail
      go_ret
      exact ⟨rfl, HL.out⟩
    | succ g =>
      have hi : i < xs.length := by omega
      have hc : (i : Int) < (xs.length : Int) := by omega
      obtain ⟨a', c', e', hx⟩ := HR.out.below hbel
      cases e'
      obtain ⟨g0, rfl, _, hg0, v1, q0, hr1⟩ := hx i hi
      obtain ⟨a'', c'', e'', hx2⟩ := (HS.out.below hbel).ex
      cases e''
      obtain ⟨g2, o2, s1, rfl, hg2, p0, hs1⟩ := hx2 i hi
      have e5 : IntKind.i64.wrap ((i : Int) + 1) = ((i + 1 : Nat) : Int) := by rw [IntKind.wrap_i64]; omega
      simp only [Nat.add_zero, Nat.mul_one] at q0
      obtain ⟨av, cv, rfl, _⟩ := id hr1
      obtain ⟨at2, ct2, rfl, _⟩ := hs1.ex
      have C21 := hid (xe21 P xs[i] _ _ wr.drew (hr1.below (Below.refl _ _).drew) (hs1.below (Below.refl _ _).drew) (HB.out.at' hi) (HA.out _ (List.getElem_mem hi)))
      generalize xs[i] = M at *
      have HL := hid hbel
      clear hx hx2 hbel hr1 hs1
      go_wp2_with fail
      have e8 : (0 : Int) ≤ (i : Int) := by omega
      go_region_law ((go_simp
                      go_at_call 21
                      refine C21.out.mono ?_
                      rintro e w6 ⟨rfl, hb6⟩
                      have HL6 := hid (HL.out.trans ((show Below wr.heap.size wr w6 from ⟨hb6.os, hb6.tape, hb6.output, hb6.size, hb6.block⟩).mono HL.out.size))
                      clear hb6))
      all_goals
        go_wp2_with fail
        go_roundg g
        case measure => omega
        case rel => exact ⟨i + 1, by omega, by simp, by first | exact HL6.out | exact HL6.out.drew⟩
/-- n declarations stand in a slice -/
structure DecL (n : Nat) (v : Value) (w : World) : Prop where
  ex : ∃ a c, v = .slice a n c ∧ ∀ i, i < n → ∃ A b, a = some ⟨A, 0, none⟩ ∧ A < w.heap.size ∧ w.cell? ⟨A, i * 2, none⟩ = some (.iface 113 (.pointer (some ⟨b, 0, none⟩))) ∧ w.cell? ⟨A, i * 2 + 1, none⟩ = some (.int .i32 0)
theorem DecL.below {n : Nat} {v : Value} {w w' : World} (h : DecL n v w) (hb : Below w.heap.size w w') : DecL n v w' := by
  obtain ⟨a, c, e, hx⟩ := h.ex
  refine ⟨a, c, e, fun i hi => ?_⟩
  obtain ⟨A, b, e1, e2, e3, e4⟩ := hx i hi
  exact ⟨A, b, e1, Nat.lt_of_lt_of_le e2 hb.size, (cellLow (hb.block A e2) _).trans e3, (cellLow (hb.block A e2) _).trans e4⟩
set_option maxHeartbeats 8000000 in
set_option maxRecDepth 100000 in
theorem all13 (n : Nat) (hn : n ≤ 4097) (v : Value) (w : World) (h : DecL n v w) : Calls Tryz.prog 13 #[v] w fun e w' => e = .returned (.bool true) ∧ Below w.heap.size w w' := by
  have HS := hid h
  obtain ⟨a, c, rfl, _⟩ := h.ex
  clear h
  go_enter Tryz.func13, Tryz.ntmps13
  go_wp2_with fail
  go_loopg [3] n (fun g v3 wx => NI n w g v3 wx)
  case atStart => exact ⟨0, by omega, by first | rfl | simp, Below.refl _ _⟩
  case round =>
    obtain ⟨i, hig, rfl, hbel⟩ := hrel.ex
    clear hrel
    cases gk with
    | zero =>
      have hc : ¬ ((i : Int) < (n : Int)) := by omega
      have HL := hid hbel
      clear hig hbel
      go_wp2_with fail
      go_ret
      exact ⟨rfl, HL.out⟩
    | succ g =>
      have hi : i < n := by omega
      have hc : (i : Int) < (n : Int) := by omega
      obtain ⟨a', c', e', hx⟩ := (HS.out.below hbel).ex
      cases e'
      obtain ⟨A, b, rfl, hA, q0, q1⟩ := hx i hi
      have e5 : IntKind.i64.wrap ((i : Int) + 1) = ((i + 1 : Nat) : Int) := by rw [IntKind.wrap_i64]; omega
      have C12 := hid (kind12_113 ⟨b, 0, none⟩ wr)
      have HL := hid hbel
      clear hx hbel
      go_wp2_with fail
      refine C12.out.mono ?_
      rintro e w3 ⟨rfl, hb3⟩
      have HL3 := hid (HL.out.trans (hb3.mono HL.out.size))
      clear hb3
      go_wp2_with fail
      go_roundg g
      case measure => omega
      case rel => exact ⟨i + 1, by omega, by simp, HL3.out⟩
/-- n declarations stand in a row of the call's own -/
structure DecO (B n : Nat) (v : Value) (w : World) : Prop where
  ex : ∃ xs, w.ownsRow B 30 2 v n xs ∧ ∀ i, i < n → (∃ b, xs[i * 2]? = some (.iface 113 (.pointer (some ⟨b, 0, none⟩)))) ∧ xs[i * 2 + 1]? = some (.int .i32 0)
theorem BO.dec {B n : Nat} {v : Value} {w : World} (h : BO DecT 30 B v (List.replicate n ()) w) : DecO B n v w := by
  obtain ⟨xs, ho, hx⟩ := h.own
  rw [show (List.replicate n ()).length = n by simp] at ho
  exact ⟨xs, ho, fun i hi => hx i (by simpa using hi)⟩
theorem DecO.keep {B n : Nat} {v : Value} {w w' : World} (h : DecO B n v w) (hb : ∀ g, v.ownBlock = some g → w'.heap[g]? = w.heap[g]?) : DecO B n v w' := by
  obtain ⟨xs, ho, hx⟩ := h.ex
  exact ⟨xs, own_heap ho hb, hx⟩
theorem DecO.below {B n : Nat} {v : Value} {w w' : World} (h : DecO B n v w) (hb : Below w.heap.size w w') : DecO B n v w' := h.keep fun g hg => by
  obtain ⟨xs, ho, hx⟩ := h.ex
  exact hb.block g (ho.lt g hg).2
theorem DecO.opn {B n : Nat} {v : Value} {w : World} (h : DecO B n v w) : ∃ a c, v = .slice a n c ∧ n ≤ c ∧ ∀ i, i < n → ∃ A b, a = some ⟨A, 0, none⟩ ∧ A < w.heap.size ∧ w.cell? ⟨A, i * 2, none⟩ = some (.iface 113 (.pointer (some ⟨b, 0, none⟩))) ∧ w.cell? ⟨A, i * 2 + 1, none⟩ = some (.int .i32 0) ∧ (∀ o, w.frozen? ⟨A, o, none⟩ = false) := by
  obtain ⟨xs, ho, hx⟩ := h.ex
  have ho2 := ho.2
  rcases ho2 with ⟨hv, h0⟩ | ⟨g, cap, cur, hv, hb, hh, hc, _⟩
  · subst hv
    exact ⟨none, 0, by rw [h0], by omega, fun i hi => by omega⟩
  · subst hv
    refine ⟨_, cap, rfl, hc, fun i hi => ?_⟩
    obtain ⟨⟨b, e1⟩, e2⟩ := hx i hi
    refine ⟨g, b, rfl, heap_lt hh, ?_, ?_, fun o => by simp [World.frozen?, hh]⟩
    · rw [World.ownsRow.cellAt ho (i * 2) (by omega)]; exact e1
    · rw [World.ownsRow.cellAt ho (i * 2 + 1) (by omega)]; exact e2
theorem DecO.decl {B n : Nat} {v : Value} {w : World} (h : DecO B n v w) : DecL n v w := by
  obtain ⟨a, c, e, _, hx⟩ := h.opn
  refine ⟨a, c, e, fun i hi => ?_⟩
  obtain ⟨A, b, e1, e2, e3, e4, _⟩ := hx i hi
  exact ⟨A, b, e1, e2, e3, e4⟩
set_option maxHeartbeats 8000000 in
set_option maxRecDepth 100000 in
theorem low20d (p : Option Addr) (b : Nat) (C : Addr) (w : World) : Calls Tryz.prog 20 #[.pointer p, .agg #[.iface 113 (.pointer (some ⟨b, 0, none⟩)), .int .i32 0], .pointer (some C)] w fun e w' => e = .returned (.agg #[.iface 113 (.pointer (some ⟨b, 0, none⟩)), .int .i32 0]) ∧ Below w.heap.size w w' := by
  go_enter Tryz.func20, Tryz.ntmps20
  go_wp2_with fail
  exact bodyPost_ret (v := .agg #[.iface 113 (.pointer (some ⟨b, 0, none⟩)), .int .i32 0]) (by simp [results, Tryz.results20, go_sem]) rfl ⟨rfl, by repeat first | exact Below.refl _ _ | refine Below.setCell ?_ (by simp) _ | refine Below.alloc ?_ (by first | omega | (simp; done) | (simp; omega)) _⟩
end Go.Proofs.YtllafdcijpdopaaGreatFmt
