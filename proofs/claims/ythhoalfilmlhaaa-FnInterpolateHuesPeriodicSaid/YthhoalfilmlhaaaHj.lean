/-
  interpolateHues takes the arc that its method names, and the words are exact. Conditions: Tn (bounded words).
-/
import Derived.Test.YthhoalfilmlhaaaHh
import Derived.Test.YthhoalfilmlhaaaFr
namespace Go.Proofs.Ythhoalfilmlhaaa
open Go.ChangeShapes Go.WideShapes Go.ChangeAt Go.RowKit

theorem half_ok : Fl.Fin 4602678819172646912 ∧ Fl.val 4602678819172646912 = 1 / 2 := by decide +kernel
theorem nhalf_ok : Fl.Fin 13826050856027422720 ∧ Fl.val 13826050856027422720 = -1 / 2 := by decide +kernel
def upA (m : Int) (a b : Nat) : Nat := if selA m (Fl.fr a) (Fl.fr b) (Fl.fsub (Fl.fr b) (Fl.fr a)) = true then Fl.fadd (Fl.fr a) 4607182418800017408 else Fl.fr a
def upB (m : Int) (a b : Nat) : Nat := if selB m (Fl.fr a) (Fl.fr b) (Fl.fsub (Fl.fr b) (Fl.fr a)) = true then Fl.fadd (Fl.fr b) 4607182418800017408 else Fl.fr b
theorem delta_ok {a b : Nat} {ka kb : Int} (ha : Fl.Tn a ka) (hb : Fl.Tn b kb) : Fl.Fin (Fl.fsub (Fl.fr b) (Fl.fr a)) ∧ Fl.ab (Fl.val (Fl.fsub (Fl.fr b) (Fl.fr a)) - (Fl.val (Fl.fr b) - Fl.val (Fl.fr a))) ≤ 1 / 10000000000000 := by
  have hB := Fl.BIG_big
  have h1 := ha.lo
  have h2 := ha.hi
  have h3 := hb.lo
  have h4 := hb.hi
  have s : Fl.ab (Fl.val (Fl.fr b) - Fl.val (Fl.fr a)) ≤ 2 := Fl.ab_le.2 ⟨by grind, by grind⟩
  obtain ⟨f, e⟩ := Fl.fsub_err hb.f ha.f (by grind)
  exact ⟨f, by grind⟩
theorem arc_sel {a b : Nat} {ka kb : Int} (ha : Fl.Tn a ka) (hb : Fl.Tn b kb) {m : Int} (hm : m = 0 ∨ m = 1 ∨ m = 2 ∨ m = 3) : Fl.Arc m (Fl.val (upB m a b) - Fl.val (upA m a b)) := by
  obtain ⟨fd, ed⟩ := delta_ok ha hb
  have o1 : (FloatKind.f64.format.order (Fl.fsub (Fl.fr b) (Fl.fr a)) 4602678819172646912 == some .gt) = decide (1 / 2 < Fl.val (Fl.fsub (Fl.fr b) (Fl.fr a))) := by
    have := (Fl.order_fin fd half_ok.1).2.2; rw [half_ok.2] at this; exact this
  have o2 : (FloatKind.f64.format.order (Fl.fsub (Fl.fr b) (Fl.fr a)) 13826050856027422720 == some .lt) = decide (Fl.val (Fl.fsub (Fl.fr b) (Fl.fr a)) < -1 / 2) := by
    have := (Fl.order_fin fd nhalf_ok.1).1; rw [nhalf_ok.2] at this; exact this
  have o3 : (FloatKind.f64.format.order (Fl.fsub (Fl.fr b) (Fl.fr a)) 0 == some .gt) = decide (0 < Fl.val (Fl.fsub (Fl.fr b) (Fl.fr a))) := by
    have := (Fl.order_fin fd Fl.fin_zero).2.2; rw [Fl.val_zero] at this; exact this
  have o4 : (FloatKind.f64.format.order (Fl.fsub (Fl.fr b) (Fl.fr a)) 4602678819172646912 == some .lt) = decide (Fl.val (Fl.fsub (Fl.fr b) (Fl.fr a)) < 1 / 2) := by
    have := (Fl.order_fin fd half_ok.1).1; rw [half_ok.2] at this; exact this
  have o5 : (FloatKind.f64.format.order (Fl.fsub (Fl.fr b) (Fl.fr a)) 13826050856027422720 == some .gt) = decide (-1 / 2 < Fl.val (Fl.fsub (Fl.fr b) (Fl.fr a))) := by
    have := (Fl.order_fin fd nhalf_ok.1).2.2; rw [nhalf_ok.2] at this; exact this
  have o6 : (FloatKind.f64.format.order (Fl.fsub (Fl.fr b) (Fl.fr a)) 0 == some .lt) = decide (Fl.val (Fl.fsub (Fl.fr b) (Fl.fr a)) < 0) := by
    have := (Fl.order_fin fd Fl.fin_zero).1; rw [Fl.val_zero] at this; exact this
  have o7 : (FloatKind.f64.format.order (Fl.fsub (Fl.fr b) (Fl.fr a)) 0 == some .eq) = decide (Fl.val (Fl.fsub (Fl.fr b) (Fl.fr a)) = 0) := by
    have := (Fl.order_fin fd Fl.fin_zero).2.1; rw [Fl.val_zero] at this; exact this
  have o8 : (FloatKind.f64.format.order (Fl.fr b) (Fl.fr a) == some .lt) = decide (Fl.val (Fl.fr b) < Fl.val (Fl.fr a)) := (Fl.order_fin hb.f ha.f).1
  have o9 : (FloatKind.f64.format.order (Fl.fr a) (Fl.fr b) == some .lt) = decide (Fl.val (Fl.fr a) < Fl.val (Fl.fr b)) := (Fl.order_fin ha.f hb.f).1
  have h1 := ha.lo
  have h2 := ha.hi
  have h3 := hb.lo
  have h4 := hb.hi
  have u1 := Fl.ab_le.1 ha.un
  have u2 := Fl.ab_le.1 hb.un
  have ed := Fl.ab_le.1 ed
  clear ha hb fd
  unfold upA upB
  generalize eu : Fl.fadd (Fl.fr a) 4607182418800017408 = a4 at *
  generalize ev : Fl.fadd (Fl.fr b) 4607182418800017408 = b4 at *
  generalize ew : Fl.fsub (Fl.fr b) (Fl.fr a) = d at *
  generalize ex : Fl.fr a = a3 at *
  generalize ey : Fl.fr b = b3 at *
  clear eu ev ew ex ey
  rcases hm with rfl | rfl | rfl | rfl
  · simp only [selA, selB, Fl.Arc, if_pos, o1, o2, decide_eq_true_iff]
    split <;> split <;> grind
  · simp only [selA, selB, Fl.Arc, if_pos, (by decide : ¬ (1 : Int) = 0), if_false, o3, o4, o5, o6, o7, Bool.and_eq_true, Bool.or_eq_true, decide_eq_true_iff]
    split <;> split <;> grind
  · simp only [selA, selB, Fl.Arc, if_pos, (by decide : ¬ (2 : Int) = 0), (by decide : ¬ (2 : Int) = 1), if_false, o8, decide_eq_true_iff, Bool.false_eq_true]
    split <;> grind
  · simp only [selA, selB, Fl.Arc, if_pos, (by decide : ¬ (3 : Int) = 0), (by decide : ¬ (3 : Int) = 1), (by decide : ¬ (3 : Int) = 2), if_false, o9, decide_eq_true_iff, Bool.false_eq_true]
    split <;> grind
theorem upA_ch {a b : Nat} {ka : Int} (ha : Fl.Tn a ka) (m : Int) : ∃ s, Fl.Ch a (upA m a b) s := ha.ch _
theorem upB_ch {a b : Nat} {kb : Int} (hb : Fl.Tn b kb) (m : Int) : ∃ s, Fl.Ch b (upB m a b) s := hb.ch _
/-- interpolateHues at bounded words -/
theorem huesTn {a b : Nat} {ka kb : Int} (fa : Fl.Fin a) (fb : Fl.Fin b) (ha : Fl.Tn a ka) (hb : Fl.Tn b kb) {m : Int} (hm : m = 0 ∨ m = 1 ∨ m = 2 ∨ m = 3) {t : Nat} (ht : Unit1 t) (w : World) :
    Calls Try.prog 12 #[.agg #[.float .f64 a], .agg #[.float .f64 b], .agg #[.float .f64 t], .int .u8 m] w fun e w' => e = .returned (.agg #[.float .f64 (hue (upA m a b) (upB m a b) t)]) ∧ Below w.heap.size w w' := by
  obtain ⟨sa, ca⟩ := upA_ch (b := b) ha m
  obtain ⟨sb, cb⟩ := upB_ch (a := a) hb m
  have ok := Fl.lerp_ok ca.f cb.f ht.f (by have := ca.b; grind) (by have := cb.b; grind) ht.s
  have ka1 := Fl.bits_div fa Fl.w360.1 (by rw [Fl.w360.2]; decide)
  have ka2 := floorIs _ ha.q
  have ka3 := Fl.bits_sub ha.q ha.l
  have ka4 := Fl.bits_add ha.f Fl.w1.1
  have kb1 := Fl.bits_div fb Fl.w360.1 (by rw [Fl.w360.2]; decide)
  have kb2 := floorIs _ hb.q
  have kb3 := Fl.bits_sub hb.q hb.l
  have kb4 := Fl.bits_add hb.f Fl.w1.1
  have kd := Fl.bits_sub hb.f ha.f
  have k1 := Fl.bits_sub cb.f ca.f
  have k2 := Fl.bits_mul ok.d ht.f
  have k3 := Fl.bits_add ok.p ca.f
  have k4 := Fl.bits_mul ok.r Fl.w360.1
  rcases hm with rfl | rfl | rfl | rfl
  · exact hues_0 a b t _ _ _ _ _ _ _ _ _ _ _ _ _ _ _ w ka1 ka2 ka3 ka4 kb1 kb2 kb3 kb4 kd rfl rfl k1 k2 k3 k4
  · exact hues_1 a b t _ _ _ _ _ _ _ _ _ _ _ _ _ _ _ w ka1 ka2 ka3 ka4 kb1 kb2 kb3 kb4 kd rfl rfl k1 k2 k3 k4
  · exact hues_2 a b t _ _ _ _ _ _ _ _ _ _ _ _ _ _ _ w ka1 ka2 ka3 ka4 kb1 kb2 kb3 kb4 kd rfl rfl k1 k2 k3 k4
  · exact hues_3 a b t _ _ _ _ _ _ _ _ _ _ _ _ _ _ _ w ka1 ka2 ka3 ka4 kb1 kb2 kb3 kb4 kd rfl rfl k1 k2 k3 k4
end Go.Proofs.Ythhoalfilmlhaaa
