import Derived.Test.YtgkphknholechaaWr
import Derived.WalkLawsBesides
import Derived.Deep.QuietTactic
import Derived.WalkSmall
namespace Go.Proofs.Ytgkphknholechaa
open Go.ChangeShapes Go.WideShapes Go.ChangeAt Go.RowKit
theorem run_store_float {P : Program} {w : World} {a : Addr} {m : Mode} (k : FloatKind) (b : Nat) : (store a (.float k b) m).run P w = stored P w a (.float k b) m := run_store P w a _ m rfl
theorem unary_neg_float (b : Nat) : Op.unary .neg (.float .f64 b) = pure (.float .f64 (b ^^^ 2 ^ 63)) := rfl
attribute [local go_sem] as_val_num as_val_neg as_val_inv as_val_val as_neg_num as_neg_neg as_num_num as_num_neg as_num_inv meth_neg meth_val meth_num eq39 eq68 unary_neg_float run_store_float

theorem nn (b : Nat) : (b ^^^ 2 ^ 63) ^^^ 2 ^ 63 = b := by rw [Nat.xor_assoc, Nat.xor_self, Nat.xor_zero]

theorem leaf_num (s : ByteArray) (x : Nat) (w : World) : Calls Try.prog 25 #[.bool false, .string s, .float .f64 x] w fun e w' => e = .returned (.tuple #[.iface 68 (.pointer (some ⟨w.heap.size, 0, none⟩)), .pointer none, .pointer (some ⟨w.heap.size, 0, none⟩)]) ∧ w' = w.alloc (.cells #[.string s, .float .f64 x, .int .i32 0] 92) := by
  go_enter Try.func25, Try.ntmps25
  go_wp2
  exact bodyPost_ret (v := .tuple #[.iface 68 (.pointer (some ⟨w.heap.size, 0, none⟩)), .pointer none, .pointer (some ⟨w.heap.size, 0, none⟩)]) (by simp [results, Try.results25, go_sem]) rfl ⟨rfl, rfl⟩

set_option maxRecDepth 20000 in
theorem desc_num (L : Nat) (s : ByteArray) (x : Nat) (vp : Value) (w : World) (h0 : w.cell? ⟨L, 0, none⟩ = some (.string s)) (h1 : w.cell? ⟨L, 1, none⟩ = some (.float .f64 x)) :
    Calls Try.prog 26 #[.iface 68 (.pointer (some ⟨L, 0, none⟩)), vp, .pointer (some ⟨L, 0, none⟩)] w fun e w' => e = .returned (.tuple #[.int .i64 0, .int .i64 0, .int .i64 1, .string s, .float .f64 x, .bool true]) ∧ Below w.heap.size w w' := by
  go_enter Try.func26, Try.ntmps26
  go_wp2
  go_rounds 1
  go_quiet (fail)
  go_wp2
  refine bodyPost_ret (v := .tuple #[.int .i64 0, .int .i64 0, .int .i64 1, .string s, .float .f64 x, .bool true]) (by simp [results, Try.results26, go_sem]) rfl ⟨rfl, below_drewN (Below.refl _ _) _⟩

set_option maxRecDepth 20000 in
/-- the child is the numeric leaf -/
theorem negn_leaf (b L x : Nat) (w : World) (h : w.cell? ⟨b, 0, none⟩ = some (.iface 68 (.pointer (some ⟨L, 0, none⟩)))) (hf : w.frozen? ⟨b, 0, none⟩ = false)
    (hx : w.cell? ⟨L, 1, none⟩ = some (.float .f64 x)) (fx : w.frozen? ⟨L, 1, none⟩ = false) (_ : b ≠ L) :
    Calls Try.prog 57 #[.pointer (some ⟨b, 0, none⟩)] w fun e w' => e = .returned (.iface 68 (.pointer (some ⟨L, 0, none⟩))) ∧ w' = (w.setCell ⟨b, 0, none⟩ (.iface 68 (.pointer (some ⟨L, 0, none⟩)))).setCell ⟨L, 1, none⟩ (.float .f64 (x ^^^ 2 ^ 63)) := by
  go_enter Try.func57, Try.ntmps57
  go_wp2_with fail
  refine (num_simp _ _).mono ?_
  rintro e w' ⟨rfl, rfl⟩
  go_wp2_with fail
  go_ret
  exact ⟨rfl, rfl⟩

set_option maxRecDepth 20000 in
/-- the child is a negate node c that comes back as the numeric leaf -/
theorem negn_to_leaf (b c L x : Nat) (w : World) (R : World → Prop) (h : w.cell? ⟨b, 0, none⟩ = some (.iface 71 (.pointer (some ⟨c, 0, none⟩))))
    (K : Calls Try.prog 57 #[.pointer (some ⟨c, 0, none⟩)] w fun e w' => e = .returned (.iface 68 (.pointer (some ⟨L, 0, none⟩))) ∧ R w') (_ : b ≠ L)
    (hR : ∀ w', R w' → (∃ y, w'.cell? ⟨b, 0, none⟩ = some (.iface 71 y)) ∧ w'.frozen? ⟨b, 0, none⟩ = false ∧ w'.cell? ⟨L, 1, none⟩ = some (.float .f64 x) ∧ w'.frozen? ⟨L, 1, none⟩ = false) :
    Calls Try.prog 57 #[.pointer (some ⟨b, 0, none⟩)] w fun e w' => e = .returned (.iface 68 (.pointer (some ⟨L, 0, none⟩))) ∧ ∃ w1, R w1 ∧ w' = (w1.setCell ⟨b, 0, none⟩ (.iface 68 (.pointer (some ⟨L, 0, none⟩)))).setCell ⟨L, 1, none⟩ (.float .f64 (x ^^^ 2 ^ 63)) := by
  go_enter Try.func57, Try.ntmps57
  go_wp2_with fail
  refine K.mono ?_
  rintro e w' ⟨rfl, hr⟩
  obtain ⟨⟨y, q⟩, f, g, i⟩ := hR w' hr
  go_wp2_with fail
  go_ret
  exact ⟨rfl, w', hr, rfl⟩

/-- one over a word that is no NaN has an answer -/
theorem quo_one (v : Nat) (h : (FloatKind.f64.format.order v v != some .eq) = false) : ∃ r, floatBits .quo .f64 4607182418800017408 v = some r := by
  have e1 : Ieee.double.read 4607182418800017408 = .number false 4503599627370496 (-52) := by decide
  show ∃ r, Ieee.double.div 4607182418800017408 v = some r
  unfold Ieee.Format.div
  rw [e1]
  cases hv : Ieee.double.read v with
  | nan s f =>
    exfalso
    have : FloatKind.f64.format.order v v = none := by
      show Ieee.double.order v v = none
      unfold Ieee.Format.order
      rw [hv]; rfl
    rw [this] at h
    cases h
  | infinity t => exact ⟨_, rfl⟩
  | number t n j =>
    unfold Ieee.Datum.quotient
    dsimp only
    by_cases hn : n = 0
    · rw [if_pos hn, if_neg (by decide)]; exact ⟨_, rfl⟩
    · rw [if_neg hn]; exact ⟨_, rfl⟩

/-- zzSameFloatB3 of a word and itself -/
theorem same16 (v : Nat) (w : World) : Calls Try.prog 16 #[.float .f64 v, .float .f64 v] w fun e w' => e = .returned (.bool true) ∧ Below w.heap.size w w' := by
  by_cases hn : (FloatKind.f64.format.order v v != some .eq) = true
  · go_enter Try.func16, Try.ntmps16
    go_wp2
    go_ret
    exact ⟨rfl, Below.refl _ _⟩
  rw [Bool.not_eq_true] at hn
  obtain ⟨r, hr⟩ := quo_one v hn
  have c := fun w ty => run_float_arith (P := Try.prog) w .quo ty .f64 4607182418800017408 v _ hr
  clear hr
  by_cases hz : (FloatKind.f64.format.order v 0 == some .eq) = true
  · by_cases hg : (FloatKind.f64.format.order r 0 == some .gt) = true
    · go_enter Try.func16, Try.ntmps16
      go_wp2
      go_ret
      exact ⟨rfl, Below.refl _ _⟩
    · rw [Bool.not_eq_true] at hg
      go_enter Try.func16, Try.ntmps16
      go_wp2
      go_ret
      exact ⟨rfl, Below.refl _ _⟩
  · rw [Bool.not_eq_true] at hz
    go_enter Try.func16, Try.ntmps16
    go_wp2
    go_ret
    exact ⟨rfl, Below.refl _ _⟩

/-- what the call of node i leaves: nothing below the leaf is written; the unit stays; the number is y -/
structure FrN (L i : Nat) (s : ByteArray) (y : Nat) (w w' : World) : Prop where
  far : ∀ j, i < j → w'.cell? ⟨L + j, 0, none⟩ = w.cell? ⟨L + j, 0, none⟩
  froz : ∀ a, w'.frozen? a = w.frozen? a
  unit : w'.cell? ⟨L, 0, none⟩ = some (.string s)
  num : w'.cell? ⟨L, 1, none⟩ = some (.float .f64 y)
  below : ∀ w0, Below L w0 w → Below L w0 w'

theorem FrN.step {L i : Nat} {s : ByteArray} {y z : Nat} {w w1 : World} (h : FrN L i s y w w1) (v : Value) : FrN L (i + 1) s z w ((w1.setCell ⟨L + (i + 1), 0, none⟩ v).setCell ⟨L, 1, none⟩ (.float .f64 z)) := by
  have h3 := h.unit
  have h4 := h.num
  refine ⟨fun j hj => ?_, fun a => ?_, ?_, ?_, fun w0 hb => ?_⟩
  · have e1 : L ≠ L + j := by omega
    have e2 : L + (i + 1) ≠ L + j := by omega
    rw [← h.far j (by omega)]
    simp [go_sem]
  · rw [← h.froz a]; simp [go_sem]
  · have e1 : L + (i + 1) ≠ L := by omega
    simp [go_sem, h3]
  · have e1 : L + (i + 1) ≠ L := by omega
    simp [go_sem, h4]
  · exact Below.setCell (Below.setCell (h.below w0 hb) (by simp) _) (by simp) _

def sg (i x : Nat) : Nat := if i % 2 = 0 then x else x ^^^ 2 ^ 63
theorem sg_succ (i x : Nat) : sg (i + 1) x = sg i x ^^^ 2 ^ 63 := by
  unfold sg
  by_cases h : i % 2 = 0
  · rw [if_pos h, if_neg (by omega)]
  · rw [if_neg h, if_pos (by omega), nn]

theorem chain_num (L : Nat) (s : ByteArray) (x : Nat) : ∀ i w, Ch L (i + 1) (.iface 68 (.pointer (some ⟨L, 0, none⟩))) w →
    w.cell? ⟨L, 0, none⟩ = some (.string s) → w.cell? ⟨L, 1, none⟩ = some (.float .f64 x) → w.frozen? ⟨L, 1, none⟩ = false →
    Calls Try.prog 57 #[.pointer (some ⟨L + (i + 1), 0, none⟩)] w fun e w' =>
      e = .returned (.iface 68 (.pointer (some ⟨L, 0, none⟩))) ∧ FrN L (i + 1) s (sg (i + 1) x) w w' := by
  intro i
  induction i with
  | zero =>
    intro w h hs hx hf
    obtain ⟨h1, h2⟩ := h 1 (by omega) (by omega)
    rw [if_pos rfl] at h1
    refine (negn_leaf (L + 1) L x w h1 h2 hx hf (by omega)).mono ?_
    rintro e w' ⟨rfl, rfl⟩
    have f0 : FrN L 0 s x w w := ⟨fun _ _ => rfl, fun _ => rfl, hs, hx, fun _ h => h⟩
    exact ⟨rfl, f0.step _⟩
  | succ i ih =>
    intro w h hs hx hf
    obtain ⟨h1, h2⟩ := h (i + 2) (by omega) (by omega)
    rw [if_neg (by omega)] at h1
    have K := ih w (fun j a b => h j a (by omega)) hs hx hf
    have e1 : i + 2 - 1 = i + 1 := rfl
    rw [e1] at h1
    refine (negn_to_leaf (L + (i + 2)) (L + (i + 1)) L (sg (i + 1) x) w _ h1 K (by omega) ?_).mono ?_
    · intro w' b
      exact ⟨⟨_, by rw [b.far (i + 2) (by omega)]; exact h1⟩, by rw [b.froz]; exact h2, b.num, by rw [b.froz]; exact hf⟩
    · rintro e w' ⟨rfl, w1, b, rfl⟩
      rw [sg_succ]
      exact ⟨rfl, b.step _⟩
