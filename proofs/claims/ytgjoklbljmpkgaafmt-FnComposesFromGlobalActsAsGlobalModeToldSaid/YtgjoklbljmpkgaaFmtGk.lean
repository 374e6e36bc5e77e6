/-
  The map from a parent's reference to its record. Conditions: each theorem's own.
-/
import Derived.Test.YtgjoklbljmpkgaaFmtGj
import Derived.DeepKeys4
namespace Go.Proofs.YtgjoklbljmpkgaaFmt
open Go.RowKit Go.Lib Go.ChangeMaps
open Go.Maps (Keyed IsMap)
/-- how an element of the composes map reads -/
noncomputable def ptrE (v : Value) : Option (DataW Unit × List MemPlace) :=
  open Classical in if h : ∃ b : Nat, v = .pointer (some ⟨b, 0, none⟩) then some (.lit (.int .i64 ((Classical.choose h : Nat) : Int)), []) else if v = .pointer none then some (.nil, []) else none
theorem ptrE_mk (b : Nat) : ptrE (.pointer (some ⟨b, 0, none⟩)) = some (.lit (.int .i64 b), []) := by
  have h : ∃ j : Nat, (.pointer (some ⟨b, 0, none⟩) : Value) = .pointer (some ⟨j, 0, none⟩) := ⟨b, rfl⟩
  have e : ∀ j : Nat, (.pointer (some ⟨b, 0, none⟩) : Value) = .pointer (some ⟨j, 0, none⟩) → j = b := by
    intro j hj
    simp at hj
    exact hj.symm
  unfold ptrE
  rw [dif_pos h, e _ (Classical.choose_spec h)]
theorem ptrE_nil : ptrE (.pointer none) = some (.nil, []) := by
  unfold ptrE
  rw [dif_neg (by rintro ⟨b, h⟩; simp at h), if_pos rfl]
theorem ptrE_inv {v : Value} {n : Nat} {ps : List MemPlace} (h : ptrE v = some (.lit (.int .i64 n), ps)) : v = .pointer (some ⟨n, 0, none⟩) := by
  unfold ptrE at h
  split at h
  · rename_i hx
    have := Classical.choose_spec hx
    simp at h
    have e : Classical.choose hx = n := by omega
    rw [this, e]
  · split at h
    · simp at h
    · cases h
theorem laidO : laidOutB Tryf.prog = true := by kernel_rfl
theorem row84 : (84 : TypeId) < Tryf.prog.types.size := of_decide_eq_true (by kernel_rfl)
theorem wide84 : (match Tryf.prog.underlying 84 with | some (.array _ _) | some (.struct _) => true | _ => false) = true := by rw [Tryf.underlying84]
set_option maxRecDepth 100000 in
theorem law84 : WideMaps.KeyLaw Tryf.prog 84 := deep_law_laid laidO (m := 2) (by omega) row84 (by kernel_rfl) wide84
theorem keyed84 : Keyed Tryf.prog 84 := Keyed.of_law law84
set_option maxRecDepth 100000 in
theorem keyT84 : Tryf.prog.keyType 84 = true := by kernel_rfl
theorem c84' : Tryf.prog.cellsOf 84 = 2 := by kernel_rfl
theorem c34' : Tryf.prog.cellsOf 34 = 1 := by kernel_rfl
theorem sz84 : ∃ k, Tryf.prog.types.size + 1 = k + 2 := ⟨Tryf.prog.types.size - 1, by have := row84; have : (84 : Nat) < Tryf.prog.types.size := this; omega⟩
theorem wf32 (i : Nat) (h : i < 4294967296) : (Lit.int .u32 i).wf = true := by
  have hm : IntKind.u32.min = 0 := by decide
  have hM : IntKind.u32.max = 4294967295 := by decide
  simp only [Lit.wf, hm, hM, Bool.and_eq_true, decide_eq_true_eq]
  omega
abbrev refV (i : Nat) : Value := .agg #[.int .u32 1, .int .u32 i]
theorem key_ex (i : Nat) (h : i < 4294967296) : ∃ l, keyOf Tryf.prog 84 (refV i) = some l := by
  obtain ⟨k, hk⟩ := sz84
  have w1 : (Lit.int .u32 1).wf = true := by decide
  have w2 := wf32 i h
  unfold keyOf
  rw [Tryf.underlying84]
  simp only [keyT84, Bool.true_and]
  have hfm : (refV i).formed Tryf.prog 84 = true := by simp [Value.formed, Tryf.underlying84, c84']
  rw [if_pos hfm, hk]
  have e : Tryf.prog.keyLits (k + 2) 84 [.int .u32 1, .int .u32 i] = some [.int .u32 1, .int .u32 i] := by
    unfold Program.keyLits
    simp only [Tryf.underlying84]
    simp [c84', c34', Program.keyLits, Tryf.underlying34, w1, w2]
  have e2 : (refV i).cells.toList = [.int .u32 1, .int .u32 i] := rfl
  rw [e2, e]
  exact ⟨_, rfl⟩
noncomputable def kl (i : Nat) : Lit := (keyOf Tryf.prog 84 (refV i)).getD (.bool false)
theorem kl_key (i : Nat) (h : i < 4294967296) : keyOf Tryf.prog 84 (refV i) = some (kl i) := by
  obtain ⟨l, hl⟩ := key_ex i h
  unfold kl
  rw [hl]
  rfl
theorem kl_str (i : Nat) (h : i < 4294967296) : ∃ s, kl i = .string s := law84.str (kl_key i h)
theorem kl_ne {i j : Nat} (hi : i < 4294967296) (hj : j < 4294967296) (h : i ≠ j) : kl i ≠ kl j := by
  intro e
  have h1 := kl_key i hi
  rw [e] at h1
  have := law84.inj h1 (kl_key j hj)
  simp at this
  exact h (by omega)
set_option maxRecDepth 100000 in
theorem kl_isKey (i : Nat) (h : i < 4294967296) : WideAt.IsKeyLit (kl i) := by
  obtain ⟨s, e⟩ := kl_str i h
  exact e ▸ (show WideAt.IsKeyLit (.string s) from trivial)
/-- the map after k stores -/
structure CompX (B k : Nat) (D : DataW Unit) : Prop where
  im : IsMap D
  at' : ∀ i, i < k → D.atKey (kl i) .nil = .lit (.int .i64 ((B + 6 + i : Nat) : Int))
theorem CompX.zero (B : Nat) : CompX B 0 (.map []) := ⟨Maps.isMap_empty, fun i hi => by omega⟩
set_option maxRecDepth 100000 in
theorem CompX.snoc {B k : Nat} {D : DataW Unit} (h : CompX B k D) (hk : k < 1000000) : CompX B (k + 1) (D.put (kl k) (.lit (.int .i64 ((B + 6 + k : Nat) : Int)))) := by
  refine ⟨h.im.put _ _, fun i hi => ?_⟩
  by_cases e : i = k
  · subst e
    exact Maps.atKey_put_same h.im (kl_isKey i (by omega)) _ _
  · rw [Maps.atKey_put_other (kl_ne (by omega) (by omega) e)]
    exact h.at' i (by omega)
theorem zero85 (w : World) : (zeroValue 85).run Tryf.prog w = .ok (.pointer none) w := by kernel_rfl
theorem look39 {w : World} {b n B pc : Nat} {D : DataW Unit} (h : w.ownsMap Tryf.prog 84 ptrE b n D) (hC : CompX B pc D) (i : Nat) (hi : i < pc) (hpc : pc ≤ 255) :
    (Instr.lookup 39 (.map (some b)) (refV i) false).run Tryf.prog w = .ok (.pointer (some ⟨B + 6 + i, 0, none⟩)) w := by
  obtain ⟨v, ps, hrun, hv⟩ := h.lookup keyed84 Tryf.underlying39 (zero85 w) ptrE_nil (kl_key i (by omega))
  rw [hC.at' i hi] at hv
  rw [ptrE_inv hv] at hrun
  exact hrun
end Go.Proofs.YtgjoklbljmpkgaaFmt
