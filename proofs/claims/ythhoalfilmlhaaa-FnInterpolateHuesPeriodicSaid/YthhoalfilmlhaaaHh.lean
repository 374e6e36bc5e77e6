/-
  interpolateHues, interpolateColors and the comparison of ends at bounded words. Conditions: the words are finite and at most 1e6.
-/
import Derived.Test.YthhoalfilmlhaaaHg
import Derived.Test.YthhoalfilmlhaaaFk
namespace Go.Proofs.Ythhoalfilmlhaaa
open Go.ChangeShapes Go.WideShapes Go.ChangeAt Go.RowKit

theorem inB_fin {x m : Nat} (hm : Fl.Fin m) (h : inB x m = true) : Fl.Fin x ∧ Fl.ab (Fl.val x) ≤ Fl.val m := by
  unfold inB at h
  rw [Bool.and_eq_true] at h
  obtain ⟨h1, h2⟩ := h
  have hn := Fl.fin_neg.2 hm
  have hf : Fl.Fin x := Fl.fin_of_bounds hm hn h2 h1
  have a : decide (Fl.val x ≤ Fl.val m) = true := by rw [← Fl.le_fin hf hm]; exact h2
  have b : decide (Fl.val (Fl.fneg m) ≤ Fl.val x) = true := by rw [← Fl.ge_fin hf hn]; exact h1
  rw [decide_eq_true_iff] at a b
  rw [Fl.val_neg] at b
  exact ⟨hf, Fl.ab_le.2 ⟨b, a⟩⟩
/-- a finite word of size at most 1e6 -/
structure Bd (x : Nat) : Prop where
  f : Fl.Fin x
  s : Fl.ab (Fl.val x) ≤ 1000000
theorem inB_bd {x : Nat} (h : inB x 4696837146684686336 = true) : Bd x := by
  obtain ⟨f, s⟩ := inB_fin Fl.mil_ok.1 h
  rw [Fl.mil_ok.2] at s
  exact ⟨f, s⟩
structure Unit1 (t : Nat) : Prop where
  f : Fl.Fin t
  s : Fl.ab (Fl.val t) ≤ 1
theorem unit_of {t : Nat} (h1 : geB t 0 = true) (h2 : leB t 4607182418800017408 = true) : Unit1 t := by
  have hf : Fl.Fin t := Fl.fin_of_bounds Fl.w1.1 Fl.fin_zero h2 h1
  have a : decide (Fl.val t ≤ Fl.val 4607182418800017408) = true := by rw [← Fl.le_fin hf Fl.w1.1]; exact h2
  have b : decide (Fl.val 0 ≤ Fl.val t) = true := by rw [← Fl.ge_fin hf Fl.fin_zero]; exact h1
  rw [decide_eq_true_iff] at a b
  rw [Fl.w1.2] at a
  rw [Fl.val_zero] at b
  exact ⟨hf, Fl.ab_le.2 ⟨by grind, a⟩⟩
theorem unit0 : Unit1 0 := ⟨Fl.fin_zero, by rw [Fl.val_zero]; decide +kernel⟩
theorem unit1 : Unit1 4607182418800017408 := ⟨Fl.w1.1, by rw [Fl.w1.2]; decide +kernel⟩
def hue (A B t : Nat) : Nat := Fl.fmul (Fl.lerp A B t) 4645040803167600640
theorem frac_bd {a A : Nat} (h : Fl.Frac a A) : Bd A := ⟨h.f, by have := h.s; grind⟩
theorem hue_fin {A B t : Nat} (hA : Bd A) (hB : Bd B) (ht : Unit1 t) : Fl.LerpOk A B t ∧ Fl.Fin (hue A B t) := by
  have ok := Fl.lerp_ok hA.f hB.f ht.f hA.s hB.s ht.s
  refine ⟨ok, ?_⟩
  have hBIG := Fl.BIG_big
  have h1 : Fl.ab (Fl.val (Fl.lerp A B t) * Fl.val 4645040803167600640) ≤ Fl.BIG := by
    rw [Fl.w360.2]
    have := Fl.ab_le.1 ok.s
    exact Fl.ab_le.2 ⟨by grind, by grind⟩
  exact (Fl.fmul_err ok.r Fl.w360.1 h1).1
theorem hueAny (a b : Nat) (m : Int) (ha : Bd a) (hb : Bd b) : ∃ A B, Fl.Frac a A ∧ Fl.Frac b B ∧ ∀ t, Unit1 t → Fl.Fin (hue A B t) ∧
    ∀ w, Calls Try.prog 12 #[.agg #[.float .f64 a], .agg #[.float .f64 b], .agg #[.float .f64 t], .int .u8 m] w fun e w' => e = .returned (.agg #[.float .f64 (hue A B t)]) ∧ Below w.heap.size w w' := by
  obtain ⟨qa, la, da, ua, loa, hia⟩ := Fl.frac_ok ha.f ha.s
  obtain ⟨qb, lb, db, ub, lob, hib⟩ := Fl.frac_ok hb.f hb.s
  have ka1 := Fl.bits_div ha.f Fl.w360.1 (by rw [Fl.w360.2]; decide)
  have ka2 := floorIs _ qa
  have ka3 := Fl.bits_sub qa la
  have ka4 := Fl.bits_add da Fl.w1.1
  have kb1 := Fl.bits_div hb.f Fl.w360.1 (by rw [Fl.w360.2]; decide)
  have kb2 := floorIs _ qb
  have kb3 := Fl.bits_sub qb lb
  have kb4 := Fl.bits_add db Fl.w1.1
  have kd := Fl.bits_sub db da
  have key : ∀ A B : Nat, Fl.Frac a A → Fl.Frac b B → ∀ t, Unit1 t → Fl.LerpOk A B t ∧ Fl.Fin (hue A B t) := fun A B h1 h2 t ht => hue_fin (frac_bd h1) (frac_bd h2) ht
  have kk : ∀ A B : Nat, Fl.Frac a A → Fl.Frac b B → ∀ t, Unit1 t → floatBits .sub .f64 B A = some (Fl.fsub B A) ∧ floatBits .mul .f64 (Fl.fsub B A) t = some (Fl.fmul (Fl.fsub B A) t) ∧ floatBits .add .f64 (Fl.fmul (Fl.fsub B A) t) A = some (Fl.lerp A B t) ∧ floatBits .mul .f64 (Fl.lerp A B t) 4645040803167600640 = some (hue A B t) := fun A B h1 h2 t ht => by
    obtain ⟨ok, _⟩ := key A B h1 h2 t ht
    exact ⟨Fl.bits_sub h2.f h1.f, Fl.bits_mul ok.d ht.f, Fl.bits_add ok.p h1.f, Fl.bits_mul ok.r Fl.w360.1⟩
  by_cases m0 : m = 0
  · subst m0
    have fA : Fl.Frac a (if selA 0 (Fl.fsub (Fl.fdiv a 4645040803167600640) (Fl.ffloor (Fl.fdiv a 4645040803167600640))) (Fl.fsub (Fl.fdiv b 4645040803167600640) (Fl.ffloor (Fl.fdiv b 4645040803167600640))) (Fl.fsub (Fl.fsub (Fl.fdiv b 4645040803167600640) (Fl.ffloor (Fl.fdiv b 4645040803167600640))) (Fl.fsub (Fl.fdiv a 4645040803167600640) (Fl.ffloor (Fl.fdiv a 4645040803167600640)))) then (Fl.fadd (Fl.fsub (Fl.fdiv a 4645040803167600640) (Fl.ffloor (Fl.fdiv a 4645040803167600640))) 4607182418800017408) else (Fl.fsub (Fl.fdiv a 4645040803167600640) (Fl.ffloor (Fl.fdiv a 4645040803167600640)))) := by split; exact hia; exact loa
    have fB : Fl.Frac b (if selB 0 (Fl.fsub (Fl.fdiv a 4645040803167600640) (Fl.ffloor (Fl.fdiv a 4645040803167600640))) (Fl.fsub (Fl.fdiv b 4645040803167600640) (Fl.ffloor (Fl.fdiv b 4645040803167600640))) (Fl.fsub (Fl.fsub (Fl.fdiv b 4645040803167600640) (Fl.ffloor (Fl.fdiv b 4645040803167600640))) (Fl.fsub (Fl.fdiv a 4645040803167600640) (Fl.ffloor (Fl.fdiv a 4645040803167600640)))) then (Fl.fadd (Fl.fsub (Fl.fdiv b 4645040803167600640) (Fl.ffloor (Fl.fdiv b 4645040803167600640))) 4607182418800017408) else (Fl.fsub (Fl.fdiv b 4645040803167600640) (Fl.ffloor (Fl.fdiv b 4645040803167600640)))) := by split; exact hib; exact lob
    refine ⟨_, _, fA, fB, fun t ht => ?_⟩
    obtain ⟨k1, k2, k3, k4⟩ := kk _ _ fA fB t ht
    exact ⟨(key _ _ fA fB t ht).2, fun w => hues_0 a b t _ _ _ _ _ _ _ _ _ _ _ _ _ _ _ w ka1 ka2 ka3 ka4 kb1 kb2 kb3 kb4 kd rfl rfl k1 k2 k3 k4⟩
  by_cases m1 : m = 1
  · subst m1
    have fA : Fl.Frac a (if selA 1 (Fl.fsub (Fl.fdiv a 4645040803167600640) (Fl.ffloor (Fl.fdiv a 4645040803167600640))) (Fl.fsub (Fl.fdiv b 4645040803167600640) (Fl.ffloor (Fl.fdiv b 4645040803167600640))) (Fl.fsub (Fl.fsub (Fl.fdiv b 4645040803167600640) (Fl.ffloor (Fl.fdiv b 4645040803167600640))) (Fl.fsub (Fl.fdiv a 4645040803167600640) (Fl.ffloor (Fl.fdiv a 4645040803167600640)))) then (Fl.fadd (Fl.fsub (Fl.fdiv a 4645040803167600640) (Fl.ffloor (Fl.fdiv a 4645040803167600640))) 4607182418800017408) else (Fl.fsub (Fl.fdiv a 4645040803167600640) (Fl.ffloor (Fl.fdiv a 4645040803167600640)))) := by split; exact hia; exact loa
    have fB : Fl.Frac b (if selB 1 (Fl.fsub (Fl.fdiv a 4645040803167600640) (Fl.ffloor (Fl.fdiv a 4645040803167600640))) (Fl.fsub (Fl.fdiv b 4645040803167600640) (Fl.ffloor (Fl.fdiv b 4645040803167600640))) (Fl.fsub (Fl.fsub (Fl.fdiv b 4645040803167600640) (Fl.ffloor (Fl.fdiv b 4645040803167600640))) (Fl.fsub (Fl.fdiv a 4645040803167600640) (Fl.ffloor (Fl.fdiv a 4645040803167600640)))) then (Fl.fadd (Fl.fsub (Fl.fdiv b 4645040803167600640) (Fl.ffloor (Fl.fdiv b 4645040803167600640))) 4607182418800017408) else (Fl.fsub (Fl.fdiv b 4645040803167600640) (Fl.ffloor (Fl.fdiv b 4645040803167600640)))) := by split; exact hib; exact lob
    refine ⟨_, _, fA, fB, fun t ht => ?_⟩
    obtain ⟨k1, k2, k3, k4⟩ := kk _ _ fA fB t ht
    exact ⟨(key _ _ fA fB t ht).2, fun w => hues_1 a b t _ _ _ _ _ _ _ _ _ _ _ _ _ _ _ w ka1 ka2 ka3 ka4 kb1 kb2 kb3 kb4 kd rfl rfl k1 k2 k3 k4⟩
  by_cases m2 : m = 2
  · subst m2
    have fA : Fl.Frac a (if selA 2 (Fl.fsub (Fl.fdiv a 4645040803167600640) (Fl.ffloor (Fl.fdiv a 4645040803167600640))) (Fl.fsub (Fl.fdiv b 4645040803167600640) (Fl.ffloor (Fl.fdiv b 4645040803167600640))) (Fl.fsub (Fl.fsub (Fl.fdiv b 4645040803167600640) (Fl.ffloor (Fl.fdiv b 4645040803167600640))) (Fl.fsub (Fl.fdiv a 4645040803167600640) (Fl.ffloor (Fl.fdiv a 4645040803167600640)))) then (Fl.fadd (Fl.fsub (Fl.fdiv a 4645040803167600640) (Fl.ffloor (Fl.fdiv a 4645040803167600640))) 4607182418800017408) else (Fl.fsub (Fl.fdiv a 4645040803167600640) (Fl.ffloor (Fl.fdiv a 4645040803167600640)))) := by split; exact hia; exact loa
    have fB : Fl.Frac b (if selB 2 (Fl.fsub (Fl.fdiv a 4645040803167600640) (Fl.ffloor (Fl.fdiv a 4645040803167600640))) (Fl.fsub (Fl.fdiv b 4645040803167600640) (Fl.ffloor (Fl.fdiv b 4645040803167600640))) (Fl.fsub (Fl.fsub (Fl.fdiv b 4645040803167600640) (Fl.ffloor (Fl.fdiv b 4645040803167600640))) (Fl.fsub (Fl.fdiv a 4645040803167600640) (Fl.ffloor (Fl.fdiv a 4645040803167600640)))) then (Fl.fadd (Fl.fsub (Fl.fdiv b 4645040803167600640) (Fl.ffloor (Fl.fdiv b 4645040803167600640))) 4607182418800017408) else (Fl.fsub (Fl.fdiv b 4645040803167600640) (Fl.ffloor (Fl.fdiv b 4645040803167600640)))) := by split; exact hib; exact lob
    refine ⟨_, _, fA, fB, fun t ht => ?_⟩
    obtain ⟨k1, k2, k3, k4⟩ := kk _ _ fA fB t ht
    exact ⟨(key _ _ fA fB t ht).2, fun w => hues_2 a b t _ _ _ _ _ _ _ _ _ _ _ _ _ _ _ w ka1 ka2 ka3 ka4 kb1 kb2 kb3 kb4 kd rfl rfl k1 k2 k3 k4⟩
  by_cases m3 : m = 3
  · subst m3
    have fA : Fl.Frac a (if selA 3 (Fl.fsub (Fl.fdiv a 4645040803167600640) (Fl.ffloor (Fl.fdiv a 4645040803167600640))) (Fl.fsub (Fl.fdiv b 4645040803167600640) (Fl.ffloor (Fl.fdiv b 4645040803167600640))) (Fl.fsub (Fl.fsub (Fl.fdiv b 4645040803167600640) (Fl.ffloor (Fl.fdiv b 4645040803167600640))) (Fl.fsub (Fl.fdiv a 4645040803167600640) (Fl.ffloor (Fl.fdiv a 4645040803167600640)))) then (Fl.fadd (Fl.fsub (Fl.fdiv a 4645040803167600640) (Fl.ffloor (Fl.fdiv a 4645040803167600640))) 4607182418800017408) else (Fl.fsub (Fl.fdiv a 4645040803167600640) (Fl.ffloor (Fl.fdiv a 4645040803167600640)))) := by split; exact hia; exact loa
    have fB : Fl.Frac b (if selB 3 (Fl.fsub (Fl.fdiv a 4645040803167600640) (Fl.ffloor (Fl.fdiv a 4645040803167600640))) (Fl.fsub (Fl.fdiv b 4645040803167600640) (Fl.ffloor (Fl.fdiv b 4645040803167600640))) (Fl.fsub (Fl.fsub (Fl.fdiv b 4645040803167600640) (Fl.ffloor (Fl.fdiv b 4645040803167600640))) (Fl.fsub (Fl.fdiv a 4645040803167600640) (Fl.ffloor (Fl.fdiv a 4645040803167600640)))) then (Fl.fadd (Fl.fsub (Fl.fdiv b 4645040803167600640) (Fl.ffloor (Fl.fdiv b 4645040803167600640))) 4607182418800017408) else (Fl.fsub (Fl.fdiv b 4645040803167600640) (Fl.ffloor (Fl.fdiv b 4645040803167600640)))) := by split; exact hib; exact lob
    refine ⟨_, _, fA, fB, fun t ht => ?_⟩
    obtain ⟨k1, k2, k3, k4⟩ := kk _ _ fA fB t ht
    exact ⟨(key _ _ fA fB t ht).2, fun w => hues_3 a b t _ _ _ _ _ _ _ _ _ _ _ _ _ _ _ w ka1 ka2 ka3 ka4 kb1 kb2 kb3 kb4 kd rfl rfl k1 k2 k3 k4⟩
  · refine ⟨_, _, loa, lob, fun t ht => ?_⟩
    obtain ⟨k1, k2, k3, k4⟩ := kk _ _ loa lob t ht
    exact ⟨(key _ _ loa lob t ht).2, fun w => hues_o a b t _ _ _ _ _ _ _ _ (Fl.fsub (Fl.fsub (Fl.fdiv b 4645040803167600640) (Fl.ffloor (Fl.fdiv b 4645040803167600640))) (Fl.fsub (Fl.fdiv a 4645040803167600640) (Fl.ffloor (Fl.fdiv a 4645040803167600640)))) _ _ _ _ _ _ m w ka1 ka2 ka3 ka4 kb1 kb2 kb3 kb4 kd (by simp [selA, m0, m1, m2, m3]) (by simp [selB, m0, m1, m2]) k1 k2 k3 k4 ⟨m0, m1, m2, m3⟩⟩
theorem lerpAny (x y : Nat) (hx : Bd x) (hy : Bd y) : ∀ t, Unit1 t → Fl.Fin (Fl.lerp x y t) ∧ ∀ w, Calls Try.prog 20 #[.agg #[.float .f64 x], .agg #[.float .f64 y], .agg #[.float .f64 t]] w fun e w' => e = .returned (.agg #[.float .f64 (Fl.lerp x y t)]) ∧ Below w.heap.size w w' := fun t ht => by
  have ok := Fl.lerp_ok hx.f hy.f ht.f hx.s hy.s ht.s
  exact ⟨ok.r, fun w => lerp20 x y t _ _ _ w (Fl.bits_sub hy.f hx.f) (Fl.bits_mul ok.d ht.f) (Fl.bits_add ok.p hx.f)⟩
/-- the end in a channel that is no hue -/
theorem endp_ok {v x o : Nat} (hv : Fl.Fin v) (hx : Bd x) (ho : Bd o) (h : Fl.ab (Fl.val v - Fl.val x) ≤ (Fl.ab (Fl.val x) + Fl.ab (Fl.val o)) / 1000000000000000) (w : World) :
    Calls Try.prog 10 #[.float .f64 v, .float .f64 x, .float .f64 o, .bool false] w fun e w' => e = .returned (.bool true) ∧ w' = w := by
  obtain ⟨g1, g2, f1, f2, f3, tol⟩ := Fl.tol_end hx.f ho.f hx.s ho.s
  have hB := Fl.BIG_big
  have n1 := Fl.ab_nonneg (Fl.val x)
  have n2 := Fl.ab_nonneg (Fl.val o)
  have s1 := hx.s
  have s2 := ho.s
  obtain ⟨_, _, hle⟩ := Fl.near_ok hv hx.f f3 h (by grind) (by grind)
  have := end10p v x o _ _ _ _ w (Fl.bits_sub hv hx.f) (Fl.bits_add g1 g2) (Fl.bits_add f1 Fl.w1.1) (Fl.bits_mul Fl.nano_ok.1 f2)
  have hl : leB (Fl.fabs (Fl.fsub v x)) (Fl.fmul 4472406533629990549 (Fl.fadd (Fl.fadd (Fl.fabs x) (Fl.fabs o)) 4607182418800017408)) = true := hle
  rw [hl] at this
  exact this
/-- .. in a hue's channel -/
theorem endh_ok {v x o : Nat} (hv : Fl.Fin v) (bv : Fl.ab (Fl.val v) ≤ 20000000) (hx : Bd x) (hk : ∃ k : Int, Fl.ab (Fl.val v - Fl.val x - 360 * (k : Rat)) ≤ 1 / 1000000000) (w : World) :
    Calls Try.prog 10 #[.float .f64 v, .float .f64 x, .float .f64 o, .bool true] w fun e w' => e = .returned (.bool true) ∧ w' = w := by
  obtain ⟨k, hk⟩ := hk
  have bx : Fl.ab (Fl.val x) ≤ 20000000 := by have := hx.s; grind
  obtain ⟨f1, e1, f2, e2, e3⟩ := Fl.circ_pre hv hx.f bv bx
  have qb : Fl.ab (Fl.val (Fl.fdiv (Fl.fsub v x) 4645040803167600640)) ≤ 4503599627370496 := by
    have h1 := Fl.ab_le.1 e2
    have h2 := Fl.ab_le.1 e3
    exact Fl.ab_le.2 ⟨by grind, by grind⟩
  obtain ⟨n, hn, hN, _⟩ := Fl.trunc_spec f2 qb
  obtain ⟨ok, hle⟩ := Fl.circ_spec hv hx.f bv bx hn hk (by decide +kernel)
  have := end10h v x o _ w (fun w => circ6 v x n hv hx.f hn hN ok w)
  have hl : leB (Fl.circ v x n) 4517329193108106637 = true := by
    have h1 := Fl.le_fin ok.c Fl.eps_ok.1
    unfold leB
    refine h1.trans ?_
    rw [decide_eq_true_iff]
    have := Fl.eps_ok.2
    grind
  rw [hl] at this
  exact this
theorem end_hue0 {a A B o : Nat} (ha : Bd a) (hA : Fl.Frac a A) (hB : Bd B) (w : World) : Calls Try.prog 10 #[.float .f64 (hue A B 0), .float .f64 a, .float .f64 o, .bool true] w fun e w' => e = .returned (.bool true) ∧ w' = w := by
  obtain ⟨ok, _⟩ := hue_fin (frac_bd hA) hB unit0
  obtain ⟨f, s, k⟩ := Fl.hue_near hA ok.r (by rw [Fl.lerp_zero hA.f ok, Rat.sub_self]; decide +kernel)
  exact endh_ok f s ha k w
theorem end_hue1 {b A B o : Nat} (hb : Bd b) (hA : Fl.ab (Fl.val A) ≤ 3) (fA : Fl.Fin A) (hB : Fl.Frac b B) (w : World) : Calls Try.prog 10 #[.float .f64 (hue A B 4607182418800017408), .float .f64 b, .float .f64 o, .bool true] w fun e w' => e = .returned (.bool true) ∧ w' = w := by
  have bA : Bd A := ⟨fA, by grind⟩
  obtain ⟨ok, _⟩ := hue_fin bA (frac_bd hB) unit1
  have h1 := Fl.lerp_one fA hB.f bA.s (frac_bd hB).s ok
  have h2 := hB.s
  obtain ⟨f, s, k⟩ := Fl.hue_near hB ok.r (by grind)
  exact endh_ok f s hb k w
theorem end_p0 {a b : Nat} (ha : Bd a) (hb : Bd b) (w : World) : Calls Try.prog 10 #[.float .f64 (Fl.lerp a b 0), .float .f64 a, .float .f64 b, .bool false] w fun e w' => e = .returned (.bool true) ∧ w' = w := by
  have ok := Fl.lerp_ok ha.f hb.f unit0.f ha.s hb.s unit0.s
  have n1 := Fl.ab_nonneg (Fl.val a)
  have n2 := Fl.ab_nonneg (Fl.val b)
  refine endp_ok ok.r ha hb ?_ w
  rw [Fl.lerp_zero ha.f ok, Rat.sub_self, show Fl.ab 0 = 0 by decide +kernel]
  grind
theorem end_p1 {a b : Nat} (ha : Bd a) (hb : Bd b) (w : World) : Calls Try.prog 10 #[.float .f64 (Fl.lerp a b 4607182418800017408), .float .f64 b, .float .f64 a, .bool false] w fun e w' => e = .returned (.bool true) ∧ w' = w := by
  have ok := Fl.lerp_ok ha.f hb.f unit1.f ha.s hb.s unit1.s
  refine endp_ok ok.r hb ha ?_ w
  have := Fl.lerp_one ha.f hb.f ha.s hb.s ok
  grind
end Go.Proofs.Ythhoalfilmlhaaa
