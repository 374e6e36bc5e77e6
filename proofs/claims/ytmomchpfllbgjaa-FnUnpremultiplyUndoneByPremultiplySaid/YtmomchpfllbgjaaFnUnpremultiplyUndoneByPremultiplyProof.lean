/-
  For 1e-100 <= alpha < 1 and tame channels, multiplying by alpha and dividing by it (in the law's order) gives each channel back: the hue exactly, the others within a relative 1e-15. No conditions.
-/
import Derived.Test.YtmomchpfllbgjaaIo
import Derived.WalkKit
import Derived.ProofKit
import Derived.OpenShut
import Derived.ShutString
import Derived.ChangeOld
import Derived.Below
import Derived.WalkLawsBesides
import Derived.Test.YtmomchpfllbgjaaWt
import Derived.Test.YtmomchpfllbgjaaWp
import Derived.LoopTactic
import Derived.Deep.QuietTactic
import Derived.BigQuiet
namespace Go.Proofs.Ytmomchpfllbgjaa.fnUnpremultiplyUndoneByPremultiply
open Go.ChangeShapes Go.WideShapes Go.ChangeAt Go.RowKit
open Go.ChangeMaps (open_string shut_string)
set_option linter.unusedVariables false

theorem own : ownKnob Try.prog.godebug = none := by kernel_rfl
theorem laidOut : laidOutB Try.prog = true := by kernel_rfl

attribute [local go_sem] run_store_float

/-- what the law asks of channel i: the hue channel is the very number; another one is close -/
structure Good (h i : Int) (o v : Nat) : Prop where
  same : h = i → (FloatKind.f64.format.order o v != some .eq) = false
  sub : h ≠ i → floatBits .sub .f64 o v = some (Fl.fsub o v)
  mul : h ≠ i → floatBits .mul .f64 4382569440205035030 (Fl.fabs v) = some (Fl.fmul 4382569440205035030 (Fl.fabs v))
  near : h ≠ i → (FloatKind.f64.format.order (Fl.fabs (Fl.fsub o v)) (Fl.fmul 4382569440205035030 (Fl.fabs v)) == some .gt) = false

theorem quiet_left {P : Program} {f : FuncId} {args : Array Value} {w : World} {n : Nat} {v : Value}
    (h : Calls P f args (w.drewN n) fun e w' => e = .returned v ∧ w.drewN n = w') : Calls P f args (w.drewN n) fun e w'' => e = .returned v ∧ ∃ m, w'' = w.drewN m :=
  h.mono fun _ _ ⟨he, hm⟩ => ⟨he, n, hm.symm⟩

/-- channel k of three -/
def ch (a0 a1 a2 : Nat) (k : Nat) : Nat := if k = 0 then a0 else if k = 1 then a1 else a2
/-- the two arrays 'in' and 'out', and that nothing old has turned -/
structure Arr (w wb : World) (a0 a1 a2 o0 o1 o2 : Nat) (wr : World) : Prop where
  inn : ∀ k, k < 3 → wr.cell? ⟨wb.heap.size, k, none⟩ = some (.float .f64 (ch a0 a1 a2 k))
  out : ∀ k, k < 3 → wr.cell? ⟨wb.heap.size + 1, k, none⟩ = some (.float .f64 (ch o0 o1 o2 k))
  below : Below w.heap.size w wr
theorem Arr.drewN {w wb : World} {a0 a1 a2 o0 o1 o2 : Nat} {wr : World} (h : Arr w wb a0 a1 a2 o0 o1 o2 wr) (n : Nat) : Arr w wb a0 a1 a2 o0 o1 o2 (wr.drewN n) :=
  ⟨fun k hk => by simpa using h.inn k hk, fun k hk => by simpa using h.out k hk, below_drewN h.below n⟩
theorem Arr.start {w wb : World} {a0 a1 a2 o0 o1 o2 : Nat} {t : TypeId} (h : Below w.heap.size w wb) :
    Arr w wb a0 a1 a2 o0 o1 o2 ((wb.alloc (.cells #[.float .f64 a0, .float .f64 a1, .float .f64 a2] t)).alloc (.cells #[.float .f64 o0, .float .f64 o1, .float .f64 o2] t)) := by
  refine ⟨fun k hk => ?_, fun k hk => ?_, (h.alloc h.size _).alloc (by have := h.size; simp; omega) _⟩
  · have : k = 0 ∨ k = 1 ∨ k = 2 := by omega
    rcases this with rfl | rfl | rfl <;> simp [go_sem, ch]
  · have : k = 0 ∨ k = 1 ∨ k = 2 := by omega
    rcases this with rfl | rfl | rfl <;> simp [go_sem, ch]
theorem good_ch {h : Int} {a0 a1 a2 o0 o1 o2 : Nat} (g0 : Good h 0 o0 a0) (g1 : Good h 1 o1 a1) (g2 : Good h 2 o2 a2) (k : Nat) (hk : k < 3) : Good h k (ch o0 o1 o2 k) (ch a0 a1 a2 k) := by
  have : k = 0 ∨ k = 1 ∨ k = 2 := by omega
  rcases this with rfl | rfl | rfl
  · exact g0
  · exact g1
  · exact g2

set_option maxHeartbeats 2000000 in
theorem tail14 (a0 a1 a2 a3 : Nat) (cs h : Int) (p0 p1 p2 o0 o1 o2 : Nat) (w : World)
    (jg : (FloatKind.f64.format.order a3 3110860544497550640 == some .gt || FloatKind.f64.format.order a3 3110860544497550640 == some .eq) = true) (jl : (FloatKind.f64.format.order a3 4607182418800017408 == some .lt) = true)
    (f0 : Fl.Fin a0) (f1 : Fl.Fin a1) (f2 : Fl.Fin a2) (t0 : tmF a0 7598952565167317594 = true) (t1 : tmF a1 7598952565167317594 = true) (t2 : tmF a2 7598952565167317594 = true)
    (K1 : ∀ w, Calls Try.prog 40 #[.float .f64 a0, .float .f64 a1, .float .f64 a2, .float .f64 a3, .int .u8 cs] w fun e w' => e = .returned (.tuple #[.float .f64 p0, .float .f64 p1, .float .f64 p2]) ∧ Below w.heap.size w w')
    (K2 : ∀ w, Calls Try.prog 39 #[.float .f64 p0, .float .f64 p1, .float .f64 p2, .float .f64 a3, .int .u8 cs] w fun e w' => e = .returned (.tuple #[.float .f64 o0, .float .f64 o1, .float .f64 o2]) ∧ Below w.heap.size w w')
    (KH : ∀ w, Calls Try.prog 41 #[.int .u8 cs] w fun e w' => e = .returned (.int .i64 h) ∧ w = w')
    (g0 : Good h 0 o0 a0) (g1 : Good h 1 o1 a1) (g2 : Good h 2 o2 a2) :
    Calls Try.prog 14 #[.float .f64 a0, .float .f64 a1, .float .f64 a2, .float .f64 a3, .int .u8 cs] w fun e w' => e = .returned (.bool true) ∧ Below w.heap.size w w' := by
  have K1 := Lib.hid K1
  have K2 := Lib.hid K2
  have KH := Lib.hid KH
  have F0 := Lib.hid f0
  have F1 := Lib.hid f1
  have F2 := Lib.hid f2
  clear f0 f1 f2
  go_enter Try.func14, Try.ntmps14
  go_wp2_with (first | (go_at_call 38; refine (tame_fin _ _ _ (by first | exact F0.out | exact F1.out | exact F2.out)).mono ?_; rintro e w' ⟨rfl, rfl⟩))
  refine (K1.out _).mono ?_
  rintro e wa ⟨rfl, hba⟩
  have HA := Lib.hid hba
  clear hba
  go_wp2_with fail
  refine (K2.out _).mono ?_
  rintro e wb ⟨rfl, hbb⟩
  have HB := Lib.hid hbb
  clear hbb
  go_wp2_with fail
  refine (KH.out _).mono ?_
  rintro e w' ⟨rfl, rfl⟩
  go_wp2_with fail
  have hA0 : Arr w wb a0 a1 a2 o0 o1 o2 _ := Arr.start (t := 35) (HA.out.trans (HB.out.mono HA.out.size))
  have G := fun k hk => good_ch g0 g1 g2 k hk
  have G := Lib.hid G
  clear g0 g1 g2 K1 K2 KH F0 F1 F2 HA HB t0 t1 t2 jg jl
  go_loopw [20] (fun i wr => ∃ k : Nat, k ≤ 3 ∧ i = .int .i64 k ∧ Arr w wb a0 a1 a2 o0 o1 o2 wr) (fun i _ => 3 - (intOf i).toNat)
  case atStart => exact ⟨0, by omega, rfl, hA0⟩
  case round =>
    obtain ⟨k, hk, rfl, hI⟩ := hrel
    clear hA0
    by_cases hlt : k < 3
    · have hci := hI.inn k hlt
      have hco := hI.out k hlt
      have g := G.out k hlt
      have b0 : (0 : Int) ≤ (k : Int) := by omega
      have b1 : (k : Int) < 3 := by omega
      obtain ⟨v, hv⟩ : ∃ v, v = ch a0 a1 a2 k := ⟨_, rfl⟩
      obtain ⟨o, ho⟩ : ∃ o, o = ch o0 o1 o2 k := ⟨_, rfl⟩
      rw [← hv] at hci g
      rw [← ho] at hco g
      clear hv ho
      have HI := Lib.hid hI
      clear hI
      by_cases hk' : h = (k : Int)
      · have e1 := g.same hk'
        have hb : ((k : Int) == h) = true := by rw [hk']; simp
        clear g hk'
        go_wp2_with fail
        go_quiet (fail)
        go_wp2_with fail
        go_roundw
        case rel => exact ⟨k + 1, by omega, by go_num, HI.out.drewN _⟩
        case measure => simp [intOf]; omega
      · have c1 := fun w ty => run_float_arith (P := Try.prog) w .sub ty .f64 o v _ (g.sub hk')
        have c2 := fun w ty => run_float_arith (P := Try.prog) w .mul ty .f64 4382569440205035030 (Fl.fabs v) _ (g.mul hk')
        have e1 := g.near hk'
        have hb : ((k : Int) == h) = false := by simpa using fun e => hk' e.symm
        clear g hk'
        go_wp2_with fail
        go_quiet ((go_at_call 42; exact quiet_left (abs42 _ _)))
        go_wp2_with fail
        go_roundw
        case rel => exact ⟨k + 1, by omega, by go_num, HI.out.drewN _⟩
        case measure => simp [intOf]; omega
    · have HI := Lib.hid hI
      clear hI
      go_wp2_with fail
      go_ret
      exact ⟨rfl, HI.out.below⟩

/-- which channel is the hue -/
def hslot (cs : Int) : Int := if cs = 2 ∨ cs = 3 then 0 else if cs = 5 ∨ cs = 7 then 2 else -1
theorem hue41 (cs : Int) (w : World) : Calls Try.prog 41 #[.int .u8 cs] w fun e w' => e = .returned (.int .i64 (hslot cs)) ∧ w = w' := by
  by_cases c2 : cs = 2
  · subst c2
    go_enter Try.func41, Try.ntmps41
    go_wp2
    go_ret
    exact ⟨rfl, rfl⟩
  by_cases c3 : cs = 3
  · subst c3
    go_enter Try.func41, Try.ntmps41
    go_wp2
    go_ret
    exact ⟨rfl, rfl⟩
  by_cases c5 : cs = 5
  · subst c5
    go_enter Try.func41, Try.ntmps41
    go_wp2
    go_ret
    exact ⟨rfl, rfl⟩
  by_cases c7 : cs = 7
  · subst c7
    go_enter Try.func41, Try.ntmps41
    go_wp2
    go_ret
    exact ⟨rfl, rfl⟩
  have d2 : (cs == 2) = false := by simpa using c2
  have d3 : (cs == 3) = false := by simpa using c3
  have d5 : (cs == 5) = false := by simpa using c5
  have d7 : (cs == 7) = false := by simpa using c7
  have eh : hslot cs = -1 := by unfold hslot; rw [if_neg (by omega), if_neg (by omega)]
  rw [eh]
  clear eh c2 c3 c5 c7
  go_enter Try.func41, Try.ntmps41
  go_wp2
  go_ret
  exact ⟨rfl, rfl⟩

open Fl
theorem kC : Fl.Fin 4382569440205035030 ∧ 10 / 9007199254740992 ≤ 2 * val 4382569440205035030 ∧ val 4382569440205035030 ≤ 1 := by decide +kernel
theorem kA : Fl.Fin 3110860544497550640 ∧ 0 < val 3110860544497550640 := by decide +kernel
theorem kV : Fl.Fin 1614679632300144556 ∧ 0 < val 1614679632300144556 ∧ NRM ≤ val 1614679632300144556 * val 3110860544497550640 ∧ NRM ≤ val 1614679632300144556 / 2 ∧ NRM ≤ val 1614679632300144556 / 1000000000000000000 := by decide +kernel
theorem kL : Fl.Fin 7598952565167317594 ∧ val 7598952565167317594 ≤ BIG / 1000000 ∧ val 7598952565167317594 / val 3110860544497550640 ≤ BIG / 1000000 := by decide +kernel

/-- what the tests on alpha say -/
theorem alpha_ok {a : Nat} (jg : (FloatKind.f64.format.order a 3110860544497550640 == some .gt || FloatKind.f64.format.order a 3110860544497550640 == some .eq) = true) (jl : (FloatKind.f64.format.order a 4607182418800017408 == some .lt) = true) :
    Fl.Fin a ∧ val 3110860544497550640 ≤ val a ∧ val a < 1 ∧ (FloatKind.f64.format.order a 0 == some .gt) = true := by
  have hf : Fl.Fin a := fin_of_bounds one_ok.1 kA.1 (by change (FloatKind.f64.format.order a 4607182418800017408 == some .lt || FloatKind.f64.format.order a 4607182418800017408 == some .eq) = true; rw [jl]; rfl) jg
  have h1 := ge_fin hf kA.1
  change (FloatKind.f64.format.order a 3110860544497550640 == some .gt || FloatKind.f64.format.order a 3110860544497550640 == some .eq) = _ at h1
  rw [jg] at h1
  have h1 := of_decide_eq_true h1.symm
  have h2 := (order_fin hf one_ok.1).1
  change (FloatKind.f64.format.order a 4607182418800017408 == some .lt) = _ at h2
  rw [jl, one_ok.2] at h2
  have h2 := of_decide_eq_true h2.symm
  refine ⟨hf, h1, h2, ?_⟩
  have h3 := (order_fin hf fin_zero).2.2
  change (FloatKind.f64.format.order a 0 == some .gt) = _ at h3
  rw [h3, val_zero, decide_eq_true_iff]
  have := kA.2
  grind
/-- what zzTame says of a finite channel -/
theorem tame_ok {x : Nat} (hf : Fl.Fin x) (h : tmF x 7598952565167317594 = true) : ab (val x) ≤ val 7598952565167317594 ∧ (val x = 0 ∨ val 1614679632300144556 ≤ ab (val x)) := by
  obtain ⟨fa, va⟩ := fabs_fin hf
  unfold tmF at h
  rw [Bool.and_eq_true, Bool.or_eq_true] at h
  obtain ⟨h1, h2⟩ := h
  constructor
  · have k := (order_fin fa kL.1).2.2
    change (FloatKind.f64.format.order (fabs x) 7598952565167317594 == some .gt) = _ at k
    rw [k, va] at h1
    simp at h1
    grind
  · rcases h2 with h2 | h2
    · left
      have k := (order_fin hf fin_zero).2.1
      change (FloatKind.f64.format.order x 0 == some .eq) = _ at k
      rw [k, val_zero] at h2
      exact of_decide_eq_true h2
    · right
      have k := ge_fin fa kV.1
      change geB (fabs x) 1614679632300144556 = _ at k
      rw [k, va] at h2
      exact of_decide_eq_true h2

/-- a channel there and back -/
theorem chan {v a : Nat} (hv : Fl.Fin v) (ha : Fl.Fin a) (a0 : val 3110860544497550640 ≤ val a) (a1 : val a < 1) (b : ab (val v) ≤ val 7598952565167317594) (z : val v = 0 ∨ val 1614679632300144556 ≤ ab (val v)) :
    Fl.Fin (fdiv v a) ∧ Fl.Fin (fmul (fdiv v a) a) ∧ Fl.Fin (fabs v)
    ∧ (FloatKind.f64.format.order (fabs (fsub (fmul (fdiv v a) a) v)) (fmul 4382569440205035030 (fabs v)) == some .gt) = false := by
  obtain ⟨_, v0, v1, v2, v3⟩ := kV
  obtain ⟨_, l1, l2⟩ := kL
  obtain ⟨c1, c2, c3⟩ := kC
  have ap : 0 < val a := by have := kA.2; grind
  have nv := ab_nonneg (val v)
  have n1 : val v = 0 ∨ NRM ≤ ab (val v) / 2 := by rcases z with h | h; exact Or.inl h; right; grind
  have n2 : val v = 0 ∨ NRM ≤ ab (val v) / 1000000000000000000 := by rcases z with h | h; exact Or.inl h; right; grind
  have n3 : ab (val v) / val a ≤ BIG / 1000000 := by
    have e1 : ab (val v) / val a * val a = ab (val v) := Rat.div_mul_cancel (Rat.ne_of_gt ap)
    have e2 : val 7598952565167317594 / val 3110860544497550640 * val 3110860544497550640 = val 7598952565167317594 := Rat.div_mul_cancel (Rat.ne_of_gt kA.2)
    apply Rat.le_of_mul_le_mul_right (c := val a) _ ap
    rw [e1]
    have bp : (0 : Rat) ≤ BIG / 1000000 := by decide +kernel
    have e3 := Rat.mul_le_mul_of_nonneg_left a0 bp
    have e4 := Rat.mul_le_mul_of_nonneg_right l2 (Rat.le_of_lt kA.2)
    grind
  obtain ⟨f1, f2, e⟩ := div_mul_back hv ha ap a1 n3 n1
  obtain ⟨g1, g2, g3, g4⟩ := chan_ok hv f2 c1 c2 c3 e (by grind) n2
  exact ⟨f1, f2, g2, g4⟩
theorem good_far {h i : Int} {o v : Nat} (hv : Fl.Fin v) (ho : Fl.Fin o) (hi : h ≠ i) (ha : Fl.Fin (fabs v)) (hn : (FloatKind.f64.format.order (fabs (fsub o v)) (fmul 4382569440205035030 (fabs v)) == some .gt) = false) : Good h i o v :=
  ⟨fun e => absurd e hi, fun _ => bits_sub ho hv, fun _ => bits_mul kC.1 ha, fun _ => hn⟩
theorem good_same {h i : Int} {v : Nat} (hv : Fl.Fin v) (hi : h = i) : Good h i v v :=
  ⟨fun _ => ne_of_eq (eq_self hv), fun e => absurd hi e, fun e => absurd hi e, fun e => absurd hi e⟩

set_option maxHeartbeats 2000000 in
theorem walk (a0 : Nat) (a1 : Nat) (a2 : Nat) (a3 : Nat) (a4 : Int) (w : World) (w0 : (Lit.float .f64 a0).wf = true) (w1 : (Lit.float .f64 a1).wf = true) (w2 : (Lit.float .f64 a2).wf = true) (w3 : (Lit.float .f64 a3).wf = true) (w4 : (Lit.int .u8 a4).wf = true) :
    Calls Try.prog 14 #[.float .f64 a0, .float .f64 a1, .float .f64 a2, .float .f64 a3, .int .u8 a4] w fun e w' => e = .returned (.bool true) ∧ Below w.heap.size w w' := by
  by_cases jg : (FloatKind.f64.format.order a3 3110860544497550640 == some .gt || FloatKind.f64.format.order a3 3110860544497550640 == some .eq) = true
  rotate_left
  · rw [Bool.not_eq_true] at jg
    go_enter Try.func14, Try.ntmps14
    go_wp2_with fail
    go_ret
    exact ⟨rfl, Below.refl _ _⟩
  by_cases jl : (FloatKind.f64.format.order a3 4607182418800017408 == some .lt) = true
  rotate_left
  · rw [Bool.not_eq_true] at jl
    go_enter Try.func14, Try.ntmps14
    go_wp2_with fail
    go_ret
    exact ⟨rfl, Below.refl _ _⟩
  by_cases f0 : Fl.Fin a0
  rotate_left
  · have F0 := Lib.hid f0
    clear f0
    go_enter Try.func14, Try.ntmps14
    go_wp2_with fail
    refine (tame_not _ _ _ F0.out).mono ?_
    rintro e wn ⟨rfl, hbn⟩
    have HN := Lib.hid hbn
    clear hbn
    go_wp2_with fail
    go_ret
    exact ⟨rfl, HN.out⟩
  have F0 := Lib.hid f0
  clear f0
  by_cases t0 : tmF a0 7598952565167317594 = true
  rotate_left
  · rw [Bool.not_eq_true] at t0
    go_enter Try.func14, Try.ntmps14
    go_wp2_with fail
    refine (tame_fin _ _ _ F0.out).mono ?_
    rintro e w' ⟨rfl, rfl⟩
    go_wp2_with fail
    go_ret
    exact ⟨rfl, Below.refl _ _⟩
  by_cases f1 : Fl.Fin a1
  rotate_left
  · have F1 := Lib.hid f1
    clear f1
    go_enter Try.func14, Try.ntmps14
    go_wp2_with fail
    refine (tame_fin _ _ _ F0.out).mono ?_
    rintro e w' ⟨rfl, rfl⟩
    go_wp2_with fail
    refine (tame_not _ _ _ F1.out).mono ?_
    rintro e wn ⟨rfl, hbn⟩
    have HN := Lib.hid hbn
    clear hbn
    go_wp2_with fail
    go_ret
    exact ⟨rfl, HN.out⟩
  have F1 := Lib.hid f1
  clear f1
  by_cases t1 : tmF a1 7598952565167317594 = true
  rotate_left
  · rw [Bool.not_eq_true] at t1
    go_enter Try.func14, Try.ntmps14
    go_wp2_with fail
    refine (tame_fin _ _ _ F0.out).mono ?_
    rintro e w' ⟨rfl, rfl⟩
    go_wp2_with fail
    refine (tame_fin _ _ _ F1.out).mono ?_
    rintro e w' ⟨rfl, rfl⟩
    go_wp2_with fail
    go_ret
    exact ⟨rfl, Below.refl _ _⟩
  by_cases f2 : Fl.Fin a2
  rotate_left
  · have F2 := Lib.hid f2
    clear f2
    go_enter Try.func14, Try.ntmps14
    go_wp2_with fail
    refine (tame_fin _ _ _ F0.out).mono ?_
    rintro e w' ⟨rfl, rfl⟩
    go_wp2_with fail
    refine (tame_fin _ _ _ F1.out).mono ?_
    rintro e w' ⟨rfl, rfl⟩
    go_wp2_with fail
    refine (tame_not _ _ _ F2.out).mono ?_
    rintro e wn ⟨rfl, hbn⟩
    have HN := Lib.hid hbn
    clear hbn
    go_wp2_with fail
    go_ret
    exact ⟨rfl, HN.out⟩
  have F2 := Lib.hid f2
  clear f2
  by_cases t2 : tmF a2 7598952565167317594 = true
  rotate_left
  · rw [Bool.not_eq_true] at t2
    go_enter Try.func14, Try.ntmps14
    go_wp2_with fail
    refine (tame_fin _ _ _ F0.out).mono ?_
    rintro e w' ⟨rfl, rfl⟩
    go_wp2_with fail
    refine (tame_fin _ _ _ F1.out).mono ?_
    rintro e w' ⟨rfl, rfl⟩
    go_wp2_with fail
    refine (tame_fin _ _ _ F2.out).mono ?_
    rintro e w' ⟨rfl, rfl⟩
    go_wp2_with fail
    go_ret
    exact ⟨rfl, Below.refl _ _⟩
  have f0 := F0.out
  have f1 := F1.out
  have f2 := F2.out
  obtain ⟨fa, a0', a1', hp⟩ := alpha_ok jg jl
  have ap : val a3 ≠ 0 := Rat.ne_of_gt (by have := kA.2; grind)
  obtain ⟨b0, z0⟩ := tame_ok f0 t0
  obtain ⟨b1, z1⟩ := tame_ok f1 t1
  obtain ⟨b2, z2⟩ := tame_ok f2 t2
  obtain ⟨p0, q0, m0, n0⟩ := chan f0 fa a0' a1' b0 z0
  obtain ⟨p1, q1, m1, n1⟩ := chan f1 fa a0' a1' b1 z1
  obtain ⟨p2, q2, m2, n2⟩ := chan f2 fa a0' a1' b2 z2
  by_cases hL : hueL a4 = true
  · have hc : a4 = 2 ∨ a4 = 3 := by unfold hueL at hL; simpa using hL
    have hR : hueR a4 = false := by rcases hc with rfl | rfl <;> rfl
    have hh : hslot a4 = 0 := if_pos hc
    exact tail14 a0 a1 a2 a3 a4 (hslot a4) a0 (fdiv a1 a3) (fdiv a2 a3) a0 (fmul (fdiv a1 a3) a3) (fmul (fdiv a2 a3) a3) w jg jl f0 f1 f2 t0 t1 t2
      (fun w => zzunp a0 a1 a2 a3 a0 (fdiv a1 a3) (fdiv a2 a3) a4 w hp jl (fun e => by rw [hL] at e; cases e) (bits_div f1 fa ap) (fun _ => bits_div f2 fa ap) (fun _ => rfl) (fun e => by rw [hR] at e; cases e))
      (fun w => zzpre a0 (fdiv a1 a3) (fdiv a2 a3) a3 a0 (fmul (fdiv a1 a3) a3) (fmul (fdiv a2 a3) a3) a4 w jl (fun e => by rw [hL] at e; cases e) (bits_mul p1 fa) (fun _ => bits_mul p2 fa) (fun _ => rfl) (fun e => by rw [hR] at e; cases e))
      (fun w => hue41 a4 w) (good_same f0 hh) (good_far f1 q1 (by rw [hh]; decide) m1 n1) (good_far f2 q2 (by rw [hh]; decide) m2 n2)
  rw [Bool.not_eq_true] at hL
  have hc : ¬ (a4 = 2 ∨ a4 = 3) := by unfold hueL at hL; simpa using hL
  by_cases hR : hueR a4 = true
  · have hd : a4 = 5 ∨ a4 = 7 := by unfold hueR at hR; simpa using hR
    have hh : hslot a4 = 2 := by unfold hslot; rw [if_neg hc, if_pos hd]
    exact tail14 a0 a1 a2 a3 a4 (hslot a4) (fdiv a0 a3) (fdiv a1 a3) a2 (fmul (fdiv a0 a3) a3) (fmul (fdiv a1 a3) a3) a2 w jg jl f0 f1 f2 t0 t1 t2
      (fun w => zzunp a0 a1 a2 a3 (fdiv a0 a3) (fdiv a1 a3) a2 a4 w hp jl (fun _ => bits_div f0 fa ap) (bits_div f1 fa ap) (fun e => by rw [hR] at e; cases e) (fun e => by rw [hL] at e; cases e) (fun _ => rfl))
      (fun w => zzpre (fdiv a0 a3) (fdiv a1 a3) a2 a3 (fmul (fdiv a0 a3) a3) (fmul (fdiv a1 a3) a3) a2 a4 w jl (fun _ => bits_mul p0 fa) (bits_mul p1 fa) (fun e => by rw [hR] at e; cases e) (fun e => by rw [hL] at e; cases e) (fun _ => rfl))
      (fun w => hue41 a4 w) (good_far f0 q0 (by rw [hh]; decide) m0 n0) (good_far f1 q1 (by rw [hh]; decide) m1 n1) (good_same f2 hh)
  rw [Bool.not_eq_true] at hR
  have hd : ¬ (a4 = 5 ∨ a4 = 7) := by unfold hueR at hR; simpa using hR
  have hh : hslot a4 = -1 := by unfold hslot; rw [if_neg hc, if_neg hd]
  exact tail14 a0 a1 a2 a3 a4 (hslot a4) (fdiv a0 a3) (fdiv a1 a3) (fdiv a2 a3) (fmul (fdiv a0 a3) a3) (fmul (fdiv a1 a3) a3) (fmul (fdiv a2 a3) a3) w jg jl f0 f1 f2 t0 t1 t2
      (fun w => zzunp a0 a1 a2 a3 (fdiv a0 a3) (fdiv a1 a3) (fdiv a2 a3) a4 w hp jl (fun _ => bits_div f0 fa ap) (bits_div f1 fa ap) (fun _ => bits_div f2 fa ap) (fun e => by rw [hL] at e; cases e) (fun e => by rw [hR] at e; cases e))
      (fun w => zzpre (fdiv a0 a3) (fdiv a1 a3) (fdiv a2 a3) a3 (fmul (fdiv a0 a3) a3) (fmul (fdiv a1 a3) a3) (fmul (fdiv a2 a3) a3) a4 w jl (fun _ => bits_mul p0 fa) (bits_mul p1 fa) (fun _ => bits_mul p2 fa) (fun e => by rw [hL] at e; cases e) (fun e => by rw [hR] at e; cases e))
      (fun w => hue41 a4 w) (good_far f0 q0 (by rw [hh]; decide) m0 n0) (good_far f1 q1 (by rw [hh]; decide) m1 n1) (good_far f2 q2 (by rw [hh]; decide) m2 n2)

set_option maxRecDepth 100000 in
theorem lifted (os : Os) (started : os.Started) (H : Type) (enc : TypeId × Value → H) :
    ReturnsInHanded {} Try.checked os 14 .any (Rows.fnUnpremultiplyUndoneByPremultiplySpec.pre6 enc Try.prog Try.f14 Rows.fnUnpremultiplyUndoneByPremultiplyRow.domain false) (Rows.fnUnpremultiplyUndoneByPremultiplySpec.post enc Try.prog Try.f14 false true false false) := by
  refine returnsInHanded_of_change (C := Try.checked) own started (by kernel_rfl) Try.func14
    (ChangeSpec.witness6 (enc := enc) (C := Try.checked) false ⟨#[], #[.float .f64 0, .float .f64 0, .float .f64 0, .float .f64 0, .int .u8 0], []⟩ 8 (by kernel_rfl) (by kernel_rfl) (by kernel_rfl) (by kernel_rfl)) ?_
  intro W base args ds gs before hval0 hW hcnd _
  have hval : ∀ (j : Nat) t v, Try.f14.params[j]? = some t → args[j]? = some v → Value.okWide Try.prog W .any base t v := hval0
  have hW' := hW
  obtain ⟨p, q, hA0, hV, rfl, hfz, hnd⟩ := hW
  have hA : DataW.TrodAll enc Try.prog W 0 (fun _ => true) true Try.f14.params.toList args.toList ds p := hA0
  rw [Try.params14] at hA hval
  obtain ⟨v0, vs0, d0, ds0, p0, q0, hargs, rfl, rfl, h0, r0⟩ := trodAll_cons hA
  obtain ⟨v1, vs1, d1, ds1, p1, q1, rfl, rfl, rfl, h1, r1⟩ := trodAll_cons r0
  obtain ⟨v2, vs2, d2, ds2, p2, q2, rfl, rfl, rfl, h2, r2⟩ := trodAll_cons r1
  obtain ⟨v3, vs3, d3, ds3, p3, q3, rfl, rfl, rfl, h3, r3⟩ := trodAll_cons r2
  obtain ⟨v4, vs4, d4, ds4, p4, q4, rfl, rfl, rfl, h4, r4⟩ := trodAll_cons r3
  obtain ⟨rfl, rfl, rfl⟩ := trodAll_nil r4
  obtain rfl : args = #[v0, v1, v2, v3, v4] := by cases args; simp_all
  obtain ⟨rfl, rfl⟩ := trodVars_none hV
  obtain ⟨a0, rfl, rfl, rfl, w0⟩ := open_float Try.underlying22 (hval 0 22 v0 rfl rfl) h0
  obtain ⟨a1, rfl, rfl, rfl, w1⟩ := open_float Try.underlying22 (hval 1 22 v1 rfl rfl) h1
  obtain ⟨a2, rfl, rfl, rfl, w2⟩ := open_float Try.underlying22 (hval 2 22 v2 rfl rfl) h2
  obtain ⟨a3, rfl, rfl, rfl, w3⟩ := open_float Try.underlying22 (hval 3 22 v3 rfl rfl) h3
  obtain ⟨a4, rfl, rfl, rfl, w4⟩ := open_int Try.underlying5 (hval 4 5 v4 rfl rfl) h4
  clear hA0 hval0
  refine (walk a0 a1 a2 a3 a4 W w0 w1 w2 w3 w4).mono fun e W' ⟨he, bel⟩ => ?_
  subst he
  exact ⟨_, rfl, _, _, _, [], _, [], hW', trodAll_mk1 (shut_bool Try.underlying4 _), (trodAll_cons_mk (shut_float Try.underlying22 w0) (trodAll_cons_mk (shut_float Try.underlying22 w1) (trodAll_cons_mk (shut_float Try.underlying22 w2) (trodAll_cons_mk (shut_float Try.underlying22 w3) (trodAll_cons_mk (shut_int Try.underlying5 w4) trodAll_mk0))))), rfl, bel.frame _, fun h => by cases h⟩

theorem q0 : (Rows.fnUnpremultiplyUndoneByPremultiplyRow.wf (OpenSpec.ofChange Rows.fnUnpremultiplyUndoneByPremultiplySpec)) = true := by kernel_rfl
theorem q3 : (Try.f14.params.all (Try.pinned.checked.prog.readableRec ·)) = true := by kernel_rfl
theorem q4 : (namedTie Try.pinned.checked.prog Rows.fnUnpremultiplyUndoneByPremultiplyRow.named Rows.fnUnpremultiplyUndoneByPremultiplySpec.vars) = true := by kernel_rfl
theorem q5 : ((Rows.fnUnpremultiplyUndoneByPremultiplyRow.stops == [])) = true := by kernel_rfl
theorem q7 : ((Rows.fnUnpremultiplyUndoneByPremultiplyRow.knobs == [])) = true := by kernel_rfl
theorem q9 : ((Rows.fnUnpremultiplyUndoneByPremultiplyRow.inPlace == Try.pinned.checked.prog.inPlace 14)) = true := by kernel_rfl
theorem q10 : ((Rows.fnUnpremultiplyUndoneByPremultiplyRow.unfollowed == Try.pinned.checked.prog.unfollowed 14)) = true := by kernel_rfl
theorem q11 : ((Rows.fnUnpremultiplyUndoneByPremultiplyRow.recurses == Try.pinned.checked.prog.recurses 14)) = true := by kernel_rfl
theorem q12 : ((Rows.fnUnpremultiplyUndoneByPremultiplyRow.named == Try.pinned.checked.prog.varsNamed 14)) = true := by kernel_rfl
theorem q13 : ((Rows.fnUnpremultiplyUndoneByPremultiplyRow.maps == (Try.f14.params.toList ++ Rows.fnUnpremultiplyUndoneByPremultiplySpec.plain.varTypes Try.pinned.checked.prog).any (Try.pinned.checked.prog.mapsRec ·))) = true := by kernel_rfl
theorem q14 : ((Rows.fnUnpremultiplyUndoneByPremultiplyRow.ifaces == (Try.f14.params.toList ++ Rows.fnUnpremultiplyUndoneByPremultiplySpec.plain.varTypes Try.pinned.checked.prog).any (Try.pinned.checked.prog.ifacesRec ·))) = true := by kernel_rfl
theorem q15 : ((Rows.fnUnpremultiplyUndoneByPremultiplyRow.mapsOut == Try.pinned.checked.prog.mapsAmong Try.f14.resultTypes.toList)) = true := by kernel_rfl
theorem q16 : ((Rows.fnUnpremultiplyUndoneByPremultiplyRow.loops == (Try.f14.params.toList ++ Rows.fnUnpremultiplyUndoneByPremultiplySpec.plain.varTypes Try.pinned.checked.prog).any (Try.pinned.checked.prog.loopsFrom ·))) = true := by kernel_rfl
theorem q17 : ((Rows.fnUnpremultiplyUndoneByPremultiplyRow.wideKeys == (Try.f14.params.toList ++ Rows.fnUnpremultiplyUndoneByPremultiplySpec.plain.varTypes Try.pinned.checked.prog ++ Try.f14.resultTypes.toList).any (Try.pinned.checked.prog.wideKeysFrom ·))) = true := by kernel_rfl
theorem q18 : (Rows.fnUnpremultiplyUndoneByPremultiplySpec.vars.all (Try.pinned.checked.prog.varReadable ·)) = true := by kernel_rfl
theorem q19 : (Try.f14.resultTypes.all (fun t => Try.pinned.checked.prog.readableRec t && decide (t < Try.pinned.checked.prog.types.size))) = true := by kernel_rfl
theorem q20 : ((Rows.fnUnpremultiplyUndoneByPremultiplyRow.ifacesOut == Try.f14.resultTypes.toList.any (Try.pinned.checked.prog.ifacesRec ·))) = true := by kernel_rfl
theorem q21 : ((Rows.fnUnpremultiplyUndoneByPremultiplyRow.loopsOut == Try.f14.resultTypes.toList.any (Try.pinned.checked.prog.loopsFrom ·))) = true := by kernel_rfl
theorem q22 : ((Rows.fnUnpremultiplyUndoneByPremultiplyRow.plainKeys == Try.pinned.checked.prog.plainKeys)) = true := by kernel_rfl
theorem q23 : (Rows.fnUnpremultiplyUndoneByPremultiplyRow.shortTexts.isNone) = true := by kernel_rfl
theorem q26 : ((Rows.fnUnpremultiplyUndoneByPremultiplyRow.lifted == Try.pinned.checked.prog.liftsFinal)) = true := by rw [g26]; kernel_rfl
theorem q27 : ((Try.pinned.checked.prog.make == some Rows.fnUnpremultiplyUndoneByPremultiplyRow.make)) = true := by rw [g27]; kernel_rfl
theorem q28 : ((Rows.fnUnpremultiplyUndoneByPremultiplyRow.kinds == (if Rows.fnUnpremultiplyUndoneByPremultiplyRow.domain.isEmpty then [] else Try.f14.params.toList.map fun t => match Try.pinned.checked.prog.underlying t with | some (.int k) => some k | _ => none))) = true := by kernel_rfl
theorem q29 : ((Rows.fnUnpremultiplyUndoneByPremultiplyRow.pinned == Rows.fnUnpremultiplyUndoneByPremultiplyRow.pinnedBy)) = true := by kernel_rfl
theorem q30 : ((Rows.fnUnpremultiplyUndoneByPremultiplyRow.veiled == (Try.f14.params.toList ++ Rows.fnUnpremultiplyUndoneByPremultiplySpec.plain.varTypes Try.pinned.checked.prog ++ Try.f14.resultTypes.toList).any (Try.pinned.checked.prog.veiledRec ·))) = true := by kernel_rfl
theorem q31 : (Rows.fnUnpremultiplyUndoneByPremultiplyRow.veiledFits Try.pinned.checked.prog Try.f14.params.toList (Try.f14.params.toList ++ Rows.fnUnpremultiplyUndoneByPremultiplySpec.plain.varTypes Try.pinned.checked.prog ++ Try.f14.resultTypes.toList)) = true := by kernel_rfl
set_option maxRecDepth 100000 in
theorem closed : joinedFacts Try.pinned.checked.prog 14 Try.f14 Rows.fnUnpremultiplyUndoneByPremultiplySpec Rows.fnUnpremultiplyUndoneByPremultiplyRow = true :=
  (andI (andI (andI (andI (andI (andI (andI (andI (andI (andI (andI (andI (andI (andI (andI (andI (andI (andI (andI (andI (andI (andI (andI (andI (andI (andI (andI (andI (andI (andI (andI q0 g1) g2) q3) q4) q5) g6) q7) g8) q9) q10) q11) q12) q13) q14) q15) q16) q17) q18) q19) q20) q21) q22) q23) g24) g25) q26) q27) q28) q29) q30) q31)
theorem over : Rows.fnUnpremultiplyUndoneByPremultiplyRow.holds Try.pinned (OpenSpec.ofChange Rows.fnUnpremultiplyUndoneByPremultiplySpec) :=
  OpenClaim.holds_of_wide 14 Try.f14 rfl rfl rfl rfl rfl rfl rfl ⟨rfl, rfl, rfl, rfl, rfl⟩ rfl rfl rfl rfl rfl (by kernel_rfl) Try.func14 closed
    (of_decide_eq_true (by kernel_rfl)) (by unfold Func.isWrapper; first | (rw [if_pos (by decide +kernel)]; kernel_rfl) | (rw [if_neg (by decide +kernel)]; exact ⟨rfl, rfl⟩))
    (fun os started H enc _ => lifted os started H enc)

theorem proved : Rows.FnUnpremultiplyUndoneByPremultiplySaid := over
#print axioms proved
end Go.Proofs.Ytmomchpfllbgjaa.fnUnpremultiplyUndoneByPremultiply
