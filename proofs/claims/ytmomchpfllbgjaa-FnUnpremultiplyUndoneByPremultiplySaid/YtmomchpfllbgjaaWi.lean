/-
  The contracts of n011_293's helpers (zzOrdinary, zzClose, zzMax3, zzClamp01), and the plain facts on them: monotony of a row, the greatest of three, clamping. Plain functions of the words; the world is left alone.
-/
import Derived.Test.YtmomchpfllbgjaaWh
namespace Go.Proofs.Ytmomchpfllbgjaa
open Go.ChangeShapes Go.WideShapes Go.ChangeAt Go.RowKit
attribute [local go_sem] unary_neg_float

theorem fmul_mono {x x' c : Nat} (hx : Fl.Fin x) (hx' : Fl.Fin x') (hc : Fl.Fin c) (h0 : 0 ≤ Fl.val c) (h : Fl.val x ≤ Fl.val x') (f : Fl.Fin (Fl.fmul x c)) (f' : Fl.Fin (Fl.fmul x' c)) : Fl.val (Fl.fmul x c) ≤ Fl.val (Fl.fmul x' c) :=
  (Fl.fmul_ok hx hc).2.mono (Fl.fmul_ok hx' hc).2 f f' (Rat.mul_le_mul_of_nonneg_right h h0)
theorem fadd_mono {x x' y y' : Nat} (hx : Fl.Fin x) (hx' : Fl.Fin x') (hy : Fl.Fin y) (hy' : Fl.Fin y') (h : Fl.val x ≤ Fl.val x') (k : Fl.val y ≤ Fl.val y') (f : Fl.Fin (Fl.fadd x y)) (f' : Fl.Fin (Fl.fadd x' y')) : Fl.val (Fl.fadd x y) ≤ Fl.val (Fl.fadd x' y') :=
  (Fl.fadd_ok hx hy).2.mono (Fl.fadd_ok hx' hy').2 f f' (by grind)
/-- a row of constants that are not negative is monotone -/
theorem mrow_mono {c0 c1 c2 x0 x1 x2 y0 y1 y2 : Nat} (r : Fl.RowFin c0 c1 c2 x0 x1 x2) (s : Fl.RowFin c0 c1 c2 y0 y1 y2) (fr : Fl.Fin (Fl.mrow c0 c1 c2 x0 x1 x2)) (fs : Fl.Fin (Fl.mrow c0 c1 c2 y0 y1 y2))
    (n0 : 0 ≤ Fl.val c0) (n1 : 0 ≤ Fl.val c1) (n2 : 0 ≤ Fl.val c2) (h0 : Fl.val x0 ≤ Fl.val y0) (h1 : Fl.val x1 ≤ Fl.val y1) (h2 : Fl.val x2 ≤ Fl.val y2) :
    Fl.val (Fl.mrow c0 c1 c2 x0 x1 x2) ≤ Fl.val (Fl.mrow c0 c1 c2 y0 y1 y2) :=
  fadd_mono r.s s.s r.p2 s.p2 (fadd_mono r.p0 s.p0 r.p1 s.p1 (fmul_mono r.fx0 s.fx0 r.fc0 n0 h0 r.p0 s.p0) (fmul_mono r.fx1 s.fx1 r.fc1 n1 h1 r.p1 s.p1) r.s s.s) (fmul_mono r.fx2 s.fx2 r.fc2 n2 h2 r.p2 s.p2) fr fs
theorem mrow_nonneg {c0 c1 c2 x0 x1 x2 : Nat} (r : Fl.RowFin c0 c1 c2 x0 x1 x2) (fr : Fl.Fin (Fl.mrow c0 c1 c2 x0 x1 x2))
    (n0 : 0 ≤ Fl.val c0) (n1 : 0 ≤ Fl.val c1) (n2 : 0 ≤ Fl.val c2) (h0 : 0 ≤ Fl.val x0) (h1 : 0 ≤ Fl.val x1) (h2 : 0 ≤ Fl.val x2) : 0 ≤ Fl.val (Fl.mrow c0 c1 c2 x0 x1 x2) := by
  have a0 := (Fl.fmul_ok r.fx0 r.fc0).2.nonneg r.p0 (Rat.mul_nonneg h0 n0)
  have a1 := (Fl.fmul_ok r.fx1 r.fc1).2.nonneg r.p1 (Rat.mul_nonneg h1 n1)
  have a2 := (Fl.fmul_ok r.fx2 r.fc2).2.nonneg r.p2 (Rat.mul_nonneg h2 n2)
  have b := (Fl.fadd_ok r.p0 r.p1).2.nonneg r.s (by grind)
  exact (Fl.fadd_ok r.s r.p2).2.nonneg fr (by grind)

/-! ### zzOrdinary: 'v == v && zzAbs(v) <= 1e300' -/
def ordB (x : Nat) : Bool := (FloatKind.f64.format.order x x == some .eq) && leB (Fl.fabs x) 9094988921128908188
theorem ord31 (x : Nat) (w : World) : Calls Try.prog 31 #[.float .f64 x] w fun e w' => e = .returned (.bool (ordB x)) ∧ w = w' := by
  by_cases h : (FloatKind.f64.format.order x x == some .eq) = true
  · go_enter Try.func31, Try.ntmps31
    go_wp2_with (go_at_call 33; refine (abs33 _ _).mono ?_; rintro e w' ⟨rfl, rfl⟩)
    go_ret
    exact ⟨ret_bool' (by unfold ordB leB; rw [h]; rfl), rfl⟩
  · rw [Bool.not_eq_true] at h
    go_enter Try.func31, Try.ntmps31
    go_wp2_with (go_at_call 33; refine (abs33 _ _).mono ?_; rintro e w' ⟨rfl, rfl⟩)
    go_ret
    exact ⟨ret_bool' (by unfold ordB; rw [h]; rfl), rfl⟩

theorem ng_fneg (x : Nat) : Fl.ng (Fl.fneg x) = !Fl.ng x := Fl.ng_neg x
theorem ordB_fin {x : Nat} (h : ordB x = true) : Fl.Fin x ∧ Fl.ab (Fl.val x) ≤ Fl.val 9094988921128908188 := by
  unfold ordB at h
  rw [Bool.and_eq_true] at h
  obtain ⟨h1, h2⟩ := h
  have hm : Fl.Fin 9094988921128908188 := by decide
  have hf : Fl.Fin x := by
    refine Decidable.byContradiction fun hn => ?_
    rcases Fl.read_not_fin hn with r | r
    · -- an infinity: its size is +infinity
      have ho : Ieee.double.order x 0 = some (if Fl.ng x then .lt else .gt) := by
        unfold Ieee.Format.order
        obtain ⟨m, i, e⟩ := Fl.read_number Fl.fin_zero
        rw [r, e]; rfl
      have hnf : ¬ Fl.Fin (Fl.fabs x) ∧ Fl.ng (Fl.fabs x) = false ∧ Ieee.double.read (Fl.fabs x) = .infinity false := by
        unfold Fl.fabs
        rw [ho]
        cases hg : Fl.ng x
        · rw [hg] at r
          simp [hn, hg, r]
        · have hn' : ¬ Fl.Fin (Fl.fneg x) := fun k => hn (Fl.fin_neg.1 k)
          have hr : Fl.rung (Fl.fneg x) = Fl.rung x := Fl.rung_neg x
          have hgn : Fl.ng (Fl.fneg x) = false := by rw [ng_fneg, hg]; rfl
          have hrr : Fl.rung x = 9218868437227405312 := by
            refine Decidable.byContradiction fun hne => ?_
            have hs : Ieee.double.signWeight = 9223372036854775808 := by decide
            have hb : Ieee.double.binade = 4503599627370496 := by decide
            have hi : Ieee.double.infRung = 9218868437227405312 := by decide
            have hlt : ¬ Fl.rung x < 9218868437227405312 := hn
            unfold Ieee.Format.read at r
            rw [hs, hb, hi] at r
            have e1 : x % 9223372036854775808 = Fl.rung x := rfl
            simp only [e1] at r
            rw [if_neg (by omega), if_neg hlt, if_neg hne] at r
            cases r
          simp only [beq_self_eq_true, if_true]
          refine ⟨hn', hgn, ?_⟩
          rcases Fl.read_not_fin hn' with q | q
          · rw [q, hgn]
          · have hs : Ieee.double.signWeight = 9223372036854775808 := by decide
            have hb : Ieee.double.binade = 4503599627370496 := by decide
            have hi : Ieee.double.infRung = 9218868437227405312 := by decide
            unfold Ieee.Format.read
            rw [hs, hb, hi]
            have e1 : Fl.fneg x % 9223372036854775808 = Fl.rung x := hr
            have e2 : (Fl.fneg x / 9223372036854775808 % 2 == 1) = false := hgn
            simp only [e1, e2]
            rw [if_neg (by omega), if_neg (by omega), if_pos hrr]
      have : Ieee.double.order (Fl.fabs x) 9094988921128908188 = some .gt := by
        unfold Ieee.Format.order
        obtain ⟨m, i, e⟩ := Fl.read_number hm
        rw [hnf.2.2, e]; rfl
      unfold leB at h2
      change (Ieee.double.order _ _ == _ || Ieee.double.order _ _ == _) = true at h2
      rw [this] at h2
      simp at h2
    · have : Ieee.double.order x x = none := by
        unfold Ieee.Format.order; rw [r]; rfl
      change (Ieee.double.order x x == some .eq) = true at h1
      rw [this] at h1
      simp at h1
  obtain ⟨ha, hv⟩ := Fl.fabs_fin hf
  have a : decide (Fl.val (Fl.fabs x) ≤ Fl.val 9094988921128908188) = true := by rw [← Fl.le_fin ha hm]; exact h2
  rw [decide_eq_true_iff, hv] at a
  exact ⟨hf, a⟩

/-! ### zzClose -/
theorem close34 (g t s rel : Nat) (w : World) (hg : Fl.Fin g) (ht : Fl.Fin t) (hr : Fl.Fin rel) (hs : Fl.Fin s) (hp : Fl.Fin (Fl.fmul rel s)) (h : leB (Fl.fabs (Fl.fsub g t)) (Fl.fadd (Fl.fmul rel s) 118622047889322841) = true) :
    Calls Try.prog 34 #[.float .f64 g, .float .f64 t, .float .f64 s, .float .f64 rel] w fun e w' => e = .returned (.bool true) ∧ w = w' := by
  have c1 := fun w ty => run_float_arith (P := Try.prog) w .sub ty .f64 g t _ (Fl.bits_sub hg ht)
  have c2 := fun w ty => run_float_arith (P := Try.prog) w .mul ty .f64 rel s _ (Fl.bits_mul hr hs)
  have c3 := fun w ty => run_float_arith (P := Try.prog) w .add ty .f64 (Fl.fmul rel s) 118622047889322841 _ (Fl.bits_add hp (by decide))
  have H := Lib.hid h
  clear h
  by_cases hd : (FloatKind.f64.format.order (Fl.fsub g t) 0 == some .lt) = true
  · go_enter Try.func34, Try.ntmps34
    go_wp2
    go_ret
    refine ⟨ret_bool ?_, rfl⟩
    have e : Fl.fabs (Fl.fsub g t) = Fl.fneg (Fl.fsub g t) := if_pos hd
    have := H.out
    rw [e] at this
    exact this
  · have hd' := hd
    rw [Bool.not_eq_true] at hd
    go_enter Try.func34, Try.ntmps34
    go_wp2
    go_ret
    refine ⟨ret_bool ?_, rfl⟩
    have e : Fl.fabs (Fl.fsub g t) = Fl.fsub g t := if_neg hd'
    have := H.out
    rw [e] at this
    exact this

/-! ### zzMax3, zzClamp01 -/
def fmx (a b : Nat) : Nat := if FloatKind.f64.format.order b a == some .gt then b else a
theorem fmx_ok {a b : Nat} (ha : Fl.Fin a) (hb : Fl.Fin b) : Fl.Fin (fmx a b) ∧ Fl.val a ≤ Fl.val (fmx a b) ∧ Fl.val b ≤ Fl.val (fmx a b) ∧ (Fl.val (fmx a b) = Fl.val a ∨ Fl.val (fmx a b) = Fl.val b) := by
  have h := (Fl.order_fin hb ha).2.2
  unfold fmx
  change (FloatKind.f64.format.order b a == some .gt) = _ at h
  rw [h]
  by_cases c : Fl.val a < Fl.val b
  · simp only [c, decide_true, if_true]; exact ⟨hb, by grind, by grind, Or.inr trivial⟩
  · simp only [c, decide_false, Bool.false_eq_true, if_false]; exact ⟨ha, by grind, by grind, Or.inl trivial⟩

theorem max36 (a b c : Nat) (w : World) : Calls Try.prog 36 #[.float .f64 a, .float .f64 b, .float .f64 c] w fun e w' => e = .returned (.float .f64 (fmx (fmx a b) c)) ∧ w = w' := by
  by_cases h1 : (FloatKind.f64.format.order b a == some .gt) = true
  · have e1 : fmx a b = b := if_pos h1
    rw [e1]
    by_cases h2 : (FloatKind.f64.format.order c b == some .gt) = true
    · have e2 : fmx b c = c := if_pos h2
      rw [e2]
      clear e1 e2
      go_enter Try.func36, Try.ntmps36
      go_wp2
      go_ret
      exact ⟨rfl, rfl⟩
    · have e2 : fmx b c = b := if_neg h2
      rw [e2]
      rw [Bool.not_eq_true] at h2
      clear e1 e2
      go_enter Try.func36, Try.ntmps36
      go_wp2
      go_ret
      exact ⟨rfl, rfl⟩
  · have e1 : fmx a b = a := if_neg h1
    rw [e1]
    rw [Bool.not_eq_true] at h1
    by_cases h2 : (FloatKind.f64.format.order c a == some .gt) = true
    · have e2 : fmx a c = c := if_pos h2
      rw [e2]
      clear e1 e2
      go_enter Try.func36, Try.ntmps36
      go_wp2
      go_ret
      exact ⟨rfl, rfl⟩
    · have e2 : fmx a c = a := if_neg h2
      rw [e2]
      rw [Bool.not_eq_true] at h2
      clear e1 e2
      go_enter Try.func36, Try.ntmps36
      go_wp2
      go_ret
      exact ⟨rfl, rfl⟩

def fcl (x : Nat) : Nat := if FloatKind.f64.format.order x 0 == some .lt then 0 else if FloatKind.f64.format.order x 4607182418800017408 == some .gt then 4607182418800017408 else x
theorem one_ok : Fl.Fin 4607182418800017408 ∧ Fl.val 4607182418800017408 = 1 := by decide +kernel
theorem fcl_ok {x : Nat} (hx : Fl.Fin x) : Fl.Fin (fcl x) ∧ 0 ≤ Fl.val (fcl x) ∧ Fl.val (fcl x) ≤ 1 := by
  have h1 := (Fl.order_fin hx Fl.fin_zero).1
  have h2 := (Fl.order_fin hx one_ok.1).2.2
  change (FloatKind.f64.format.order x 0 == some .lt) = _ at h1
  change (FloatKind.f64.format.order x 4607182418800017408 == some .gt) = _ at h2
  unfold fcl
  rw [h1, h2, Fl.val_zero, one_ok.2]
  by_cases c : Fl.val x < 0
  · simp only [c, decide_true, if_true]; rw [Fl.val_zero]; exact ⟨Fl.fin_zero, Rat.le_refl, by decide⟩
  · simp only [c, decide_false, Bool.false_eq_true, if_false]
    by_cases d : (1 : Rat) < Fl.val x
    · simp only [d, decide_true, if_true]; rw [one_ok.2]; exact ⟨one_ok.1, by decide, Rat.le_refl⟩
    · simp only [d, decide_false, Bool.false_eq_true, if_false]; exact ⟨hx, by grind, by grind⟩
theorem clamp37 (x : Nat) (w : World) : Calls Try.prog 37 #[.float .f64 x] w fun e w' => e = .returned (.float .f64 (fcl x)) ∧ w = w' := by
  by_cases h1 : (FloatKind.f64.format.order x 0 == some .lt) = true
  · have e1 : fcl x = 0 := if_pos h1
    rw [e1]
    clear e1
    go_enter Try.func37, Try.ntmps37
    go_wp2
    go_ret
    exact ⟨rfl, rfl⟩
  · have e0 := h1
    rw [Bool.not_eq_true] at h1
    by_cases h2 : (FloatKind.f64.format.order x 4607182418800017408 == some .gt) = true
    · have e1 : fcl x = 4607182418800017408 := by unfold fcl; rw [if_neg e0, if_pos h2]
      rw [e1]
      clear e1
      go_enter Try.func37, Try.ntmps37
      go_wp2
      go_ret
      exact ⟨rfl, rfl⟩
    · have e1 : fcl x = x := by unfold fcl; rw [if_neg e0, if_neg h2]
      rw [e1]
      rw [Bool.not_eq_true] at h2
      clear e1
      go_enter Try.func37, Try.ntmps37
      go_wp2
      go_ret
      exact ⟨rfl, rfl⟩
end Go.Proofs.Ytmomchpfllbgjaa
