/-
  The contract of rgb_to_hsl and rgb_to_hwb: the hue is NaN exactly for grays, else in [0, 360]. Condition: the channels are finite, of size at most 1e300.
-/
import Derived.Test.YtecdhjhobjagkaaFe
import Derived.Test.YtecdhjhobjagkaaFj
namespace Go.Proofs.Ytecdhjhobjagkaa
open Go.ChangeShapes Go.WideShapes Go.ChangeAt Go.RowKit
attribute [local go_sem] run_store_float unary_neg_float

theorem hsl_law (x y z : Nat) (w : World) (hx : Fl.Fin x) (hy : Fl.Fin y) (hz : Fl.Fin z) (bx : Fl.ab (Fl.val x) ≤ Fl.BIG / 64) (by' : Fl.ab (Fl.val y) ≤ Fl.BIG / 64) (bz : Fl.ab (Fl.val z) ≤ Fl.BIG / 64) :
    Calls Try.prog 31 #[.agg #[.float .f64 x], .agg #[.float .f64 y], .agg #[.float .f64 z]] w fun e w' => (∃ h s l, e = .returned (.tuple #[.agg #[.float .f64 h], .agg #[.float .f64 s], .agg #[.float .f64 l]]) ∧ HueOk x y z h) ∧ Below w.heap.size w w' := by
  obtain ⟨fX, gx, gy, gz, cX⟩ := max3_ok hx hy hz
  obtain ⟨fN, lx, ly, lz, cN⟩ := min3_ok hx hy hz
  obtain ⟨MX, hMX⟩ : ∃ m, fmax (fmax x y) z = m := ⟨_, rfl⟩
  obtain ⟨MN, hMN⟩ : ∃ m, fmin (fmin x y) z = m := ⟨_, rfl⟩
  rw [hMX] at fX gx gy gz cX
  rw [hMN] at fN lx ly lz cN
  have up := Fl.U_pos
  have ub := Fl.U_le
  have bX : Fl.ab (Fl.val MX) ≤ Fl.BIG / 64 := by rcases cX with c | c | c <;> rw [c] <;> assumption
  have bN : Fl.ab (Fl.val MN) ≤ Fl.BIG / 64 := by rcases cN with c | c | c <;> rw [c] <;> assumption
  have c2 : Fl.Fin 4611686018427387904 ∧ Fl.val 4611686018427387904 = 2 := by decide +kernel
  have c1 : Fl.Fin 4607182418800017408 ∧ Fl.val 4607182418800017408 = 1 := by decide +kernel
  have c4 : Fl.Fin 4616189618054758400 ∧ Fl.val 4616189618054758400 = 4 := by decide +kernel
  have c6 : Fl.Fin 4618441417868443648 ∧ Fl.val 4618441417868443648 = 6 := by decide +kernel
  have c5 : Fl.Fin 4617315517961601024 ∧ Fl.val 4617315517961601024 = 5 := by decide +kernel
  have c3 : Fl.Fin 4613937818241073152 ∧ Fl.val 4613937818241073152 = 3 := by decide +kernel
  have c60 : Fl.Fin 4633641066610819072 := by decide
  have c100 : Fl.Fin 4636737291354636288 ∧ Fl.val 4636737291354636288 = 100 := by decide +kernel
  have big : (1000 : Rat) ≤ Fl.BIG / 64 := by decide +kernel
  have aX := Fl.ab_le.1 bX
  have aN := Fl.ab_le.1 bN
  obtain ⟨f1, e1⟩ := Fl.fadd_err fN fX (Fl.ab_le.2 ⟨by grind, by grind⟩)
  have b1 : Fl.ab (Fl.val (Fl.fadd MN MX)) ≤ Fl.BIG / 16 := by
    have a := Fl.ab_add (Fl.val (Fl.fadd MN MX) - (Fl.val MN + Fl.val MX)) (Fl.val MN + Fl.val MX)
    rw [show Fl.val (Fl.fadd MN MX) - (Fl.val MN + Fl.val MX) + (Fl.val MN + Fl.val MX) = Fl.val (Fl.fadd MN MX) by grind] at a
    have b : Fl.ab (Fl.val MN + Fl.val MX) ≤ Fl.BIG / 32 := Fl.ab_le.2 ⟨by grind, by grind⟩
    grind
  have n2 : Fl.val 4611686018427387904 ≠ 0 := by rw [c2.2]; decide
  have q2 : Fl.ab (Fl.val (Fl.fadd MN MX) / Fl.val 4611686018427387904) ≤ Fl.BIG / 32 := by
    rw [c2.2]
    have a := Fl.ab_le.1 b1
    obtain ⟨d1, d2⟩ := rat_div (a := Fl.val (Fl.fadd MN MX)) (c := Fl.BIG / 32) (d := 2) (by decide)
    obtain ⟨d3, d4⟩ := rat_div (a := Fl.val (Fl.fadd MN MX)) (c := -(Fl.BIG / 32)) (d := 2) (by decide)
    exact Fl.ab_le.2 ⟨d3 (by grind), d2 (by grind)⟩
  obtain ⟨f2, e2⟩ := Fl.fdiv_err f1 c2.1 n2 (Rat.le_trans q2 (by grind))
  obtain ⟨li, hli⟩ : ∃ l, l = Fl.fdiv (Fl.fadd MN MX) 4611686018427387904 := ⟨_, rfl⟩
  have bli : Fl.ab (Fl.val li) ≤ Fl.BIG / 16 := by
    rw [← hli] at e2
    have a := Fl.ab_add (Fl.val li - Fl.val (Fl.fadd MN MX) / Fl.val 4611686018427387904) (Fl.val (Fl.fadd MN MX) / Fl.val 4611686018427387904)
    rw [show Fl.val li - Fl.val (Fl.fadd MN MX) / Fl.val 4611686018427387904 + Fl.val (Fl.fadd MN MX) / Fl.val 4611686018427387904 = Fl.val li by grind] at a
    grind
  have ali := Fl.ab_le.1 bli
  rw [← hli] at f2
  have fnl : Fl.Fin (Fl.fneg li) := Fl.fin_neg.2 f2
  have vnl : Fl.val (Fl.fneg li) = -Fl.val li := Fl.val_neg li
  obtain ⟨f7, _⟩ := Fl.fadd_err fnl c1.1 (Fl.ab_le.2 ⟨by grind, by grind⟩)
  obtain ⟨f9, _⟩ := Fl.fsub_err fX f2 (Fl.ab_le.2 ⟨by grind, by grind⟩)
  have fdv : Fl.Fin (fmin li (Fl.fadd (Fl.fneg li) 4607182418800017408)) := by
    rcases fmin_fin f2 f7 with ⟨e, _⟩ | ⟨e, _⟩ <;> rw [e] <;> assumption
  obtain ⟨d, hd⟩ : ∃ d, d = Fl.fsub MX MN := ⟨_, rfl⟩
  obtain ⟨fd0, _⟩ := Fl.fsub_err fX fN (Fl.ab_le.2 ⟨by grind, by grind⟩)
  rw [← hd] at fd0
  have zd : (FloatKind.f64.format.order d 0 == some .eq) = decide (Fl.val d = 0) := by
    have := (Fl.order_fin fd0 Fl.fin_zero).2.1
    rw [Fl.val_zero] at this
    exact this
  have eqd : Fl.val MX = Fl.val MN → Fl.val d = 0 := fun h => by rw [hd]; exact (fsub_zero_eq fX fN h).2
  have hall : Fl.val x = Fl.val y ∧ Fl.val y = Fl.val z → Fl.val d = 0 := fun h => eqd (by grind)
  have hne : Fl.val d ≠ 0 → Fl.val MN < Fl.val MX := fun h => by
    refine Decidable.byContradiction fun hc => h (eqd ?_)
    grind
  have hgray : Fl.val d = 0 → Fl.val x = Fl.val y ∧ Fl.val y = Fl.val z := fun h => by
    refine Decidable.byContradiction fun hc => ?_
    have hlt : Fl.val MN < Fl.val MX := by grind
    have := (quo_unit hx hy fX fN bX bN lx gx ly gy hlt).2.1
    rw [← hd] at this
    grind
  have nd : (FloatKind.f64.format.order d 0 == some .eq) = false → Fl.val d ≠ 0 := fun h => by rw [zd] at h; simpa using h
  have HPok : ∀ h, Fl.val d ≠ 0 → Fl.Fin h ∧ 0 ≤ Fl.val h ∧ Fl.val h ≤ 360 → HueOk x y z h := fun h hn hh => ⟨fun hc => absurd (hall hc) hn, fun _ => hh⟩
  have hyz := (Fl.order_fin hy hz).1
  have hXx := (Fl.order_fin fX hx).2.1
  have hXy := (Fl.order_fin fX hy).2.1
  have hXz := (Fl.order_fin fX hz).2.1
  change (FloatKind.f64.format.order y z == some .lt) = _ at hyz
  change (FloatKind.f64.format.order MX x == some .eq) = _ at hXx
  change (FloatKind.f64.format.order MX y == some .eq) = _ at hXy
  change (FloatKind.f64.format.order MX z == some .eq) = _ at hXz
  refine hsl31 (HueOk x y z) x y z MX MN (Fl.fadd MN MX) li d (Fl.fadd (Fl.fneg li) 4607182418800017408) _ (Fl.fsub MX li) (Fl.fmul li 4636737291354636288) w hMX hMN (Fl.bits_add fN fX) (by rw [hli]; exact Fl.bits_div f1 c2.1 n2) (by rw [hd]; exact Fl.bits_sub fX fN) (Fl.bits_add fnl c1.1) rfl (Fl.bits_sub fX f2) ?_ (by decide +kernel) (Fl.bits_mul f2 c100.1) ?_ ?_ ?_ ?_ ?_
  · intro hv
    have hv0 : Fl.val (fmin li (Fl.fadd (Fl.fneg li) 4607182418800017408)) ≠ 0 := by
      have := (Fl.order_fin fdv Fl.fin_zero).2.1
      rw [Fl.val_zero] at this
      change (FloatKind.f64.format.order _ 0 == some .eq) = _ at this
      rw [this] at hv
      simpa using hv
    obtain ⟨s5, hs5⟩ := mul_rd (Fl.fdiv_ok f9 fdv hv0).2 c100.1 (by rw [c100.2]; decide)
    exact ⟨_, s5, Fl.bits_div f9 fdv hv0, hs5⟩
  · intro h
    rw [zd, decide_eq_true_iff] at h
    exact ⟨fun _ => rfl, fun hc => absurd (hgray h) hc⟩
  · intro h0 h1 h2
    have n := nd h0
    obtain ⟨g1, g2, g3, g4, g5, g6, g7, g8⟩ := quo_unit hy hz fX fN bX bN ly gy lz gz (hne n)
    rw [← hd] at g1 g2 g4 g5 g6 g7 g8
    rw [hyz, decide_eq_true_iff] at h2
    have g9 := g8 (by grind)
    obtain ⟨p1, p2, p3⟩ := hue_of g4 c6.1 c5.1 c6.1 (by rw [c5.2, c6.2]; grind) (by rw [c6.2]; grind) (by rw [c5.2]; decide) (by rw [c6.2]; decide)
    obtain ⟨r1, r2, r3⟩ := hue60 p1 p2 p3
    exact ⟨_, _, _, _, Fl.bits_sub hy hz, Fl.bits_div g3 g1 (by grind), Fl.bits_add g4 c6.1, Fl.bits_mul p1 c60, HPok _ n ⟨r1, r2, r3⟩⟩
  · intro h0 h1 h2
    have n := nd h0
    obtain ⟨g1, g2, g3, g4, g5, g6, g7, g8⟩ := quo_unit hy hz fX fN bX bN ly gy lz gz (hne n)
    rw [← hd] at g1 g2 g4 g5 g6 g7 g8
    rw [hyz, decide_eq_false_iff_not] at h2
    have g9 := g7 (by grind)
    obtain ⟨r1, r2, r3⟩ := hue60 g4 g9 (by grind)
    exact ⟨_, _, _, Fl.bits_sub hy hz, Fl.bits_div g3 g1 (by grind), Fl.bits_mul g4 c60, HPok _ n ⟨r1, r2, r3⟩⟩
  · intro h0 h1 h2
    have n := nd h0
    obtain ⟨g1, g2, g3, g4, g5, g6, g7, g8⟩ := quo_unit hz hx fX fN bX bN lz gz lx gx (hne n)
    rw [← hd] at g1 g2 g4 g5 g6 g7 g8
    obtain ⟨p1, p2, p3⟩ := hue_of g4 c2.1 c1.1 c3.1 (by rw [c1.2, c2.2]; grind) (by rw [c2.2, c3.2]; grind) (by rw [c1.2]; decide) (by rw [c3.2]; decide)
    obtain ⟨r1, r2, r3⟩ := hue60 p1 p2 p3
    exact ⟨_, _, _, _, Fl.bits_sub hz hx, Fl.bits_div g3 g1 (by grind), Fl.bits_add g4 c2.1, Fl.bits_mul p1 c60, HPok _ n ⟨r1, r2, r3⟩⟩
  · intro h0 h1 h2
    have n := nd h0
    obtain ⟨g1, g2, g3, g4, g5, g6, g7, g8⟩ := quo_unit hx hy fX fN bX bN lx gx ly gy (hne n)
    rw [← hd] at g1 g2 g4 g5 g6 g7 g8
    rw [hXx, decide_eq_false_iff_not] at h1
    rw [hXy, decide_eq_false_iff_not] at h2
    obtain ⟨p1, p2, p3⟩ := hue_of g4 c4.1 c3.1 c5.1 (by rw [c3.2, c4.2]; grind) (by rw [c4.2, c5.2]; grind) (by rw [c3.2]; decide) (by rw [c5.2]; decide)
    obtain ⟨r1, r2, r3⟩ := hue60 p1 p2 p3
    refine ⟨?_, _, _, _, _, Fl.bits_sub hx hy, Fl.bits_div g3 g1 (by grind), Fl.bits_add g4 c4.1, Fl.bits_mul p1 c60, HPok _ n ⟨r1, r2, r3⟩⟩
    rw [hXz, decide_eq_true_iff]
    rcases cX with c | c | c
    · exact absurd c h1
    · exact absurd c h2
    · exact c
end Go.Proofs.Ytecdhjhobjagkaa
