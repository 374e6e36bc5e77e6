/-
  The contracts of helpers.F64's methods and of math.Floor that the interpolation laws reach; float cells; a law for a region that draws its order. Condition: the operation has an answer.
-/
import Derived.Test.YthhoalfilmlhaaaRows
import Derived.WalkKit
import Derived.ProofKit
import Derived.OpenShut
import Derived.WalkLawsBesides
import Derived.Lib.Hide
import Derived.Laws.Externs
import Derived.Deep.RegionHeld3
import Derived.Deep.QuietTactic
import Derived.BigQuiet
import Derived.BigRegion
import Derived.Handy
import Derived.Deep.DeepCutAuto
import Derived.Test.YthhoalfilmlhaaaFj
namespace Go.Proofs.Ythhoalfilmlhaaa
open Go.ChangeShapes Go.WideShapes Go.ChangeAt Go.RowKit

theorem run_store_float {P : Program} {w : World} {a : Addr} {m : Mode} (k : FloatKind) (b : Nat) : (store a (.float k b) m).run P w = stored P w a (.float k b) m := run_store P w a _ m rfl
theorem unary_neg_float (b : Nat) : Op.unary .neg (.float .f64 b) = pure (.float .f64 (Fl.fneg b)) := rfl
attribute [local go_sem] run_store_float unary_neg_float
theorem fnew (x : Nat) (w : World) :
    Calls Try.prog 13 #[.float .f64 x] w fun e w' => e = .returned (.agg #[.float .f64 x]) ∧ w.alloc (.cells #[.float .f64 x] 34) = w' := by
  go_enter Try.func13, Try.ntmps13
  go_wp2
  exact bodyPost_ret (v := .agg #[.float .f64 x]) (by simp [results, Try.results13, go_sem]) rfl ⟨rfl, rfl⟩
theorem fvalue (x : Nat) (w : World) :
    Calls Try.prog 14 #[.agg #[.float .f64 x]] w fun e w' => e = .returned (.float .f64 x) ∧ w.alloc (.cells #[.float .f64 x] 34) = w' := by
  go_enter Try.func14, Try.ntmps14
  go_wp2
  go_ret
  exact ⟨rfl, rfl⟩
theorem faddc (x y r : Nat) (w : World) (h : floatBits .add .f64 x y = some r) :
    Calls Try.prog 19 #[.agg #[.float .f64 x], .float .f64 y] w fun e w' => e = .returned (.agg #[.float .f64 r]) ∧ Below w.heap.size w w' := by
  have hr := fun w t => run_float_arith (P := Try.prog) w .add t .f64 x y r h
  clear h
  go_enter Try.func19, Try.ntmps19
  go_wp2_with (go_at_call 13; refine (fnew _ _).mono ?_; rintro e w1 ⟨rfl, rfl⟩)
  refine bodyPost_ret (v := .agg #[.float .f64 r]) (by simp [results, Try.results19, go_sem]) rfl ⟨rfl, ?_⟩
  exact (((Below.refl _ _).alloc (Nat.le_refl _) _).alloc (by simp) _).alloc (by simp; omega) _
theorem fmulc (x y r : Nat) (w : World) (h : floatBits .mul .f64 x y = some r) :
    Calls Try.prog 21 #[.agg #[.float .f64 x], .float .f64 y] w fun e w' => e = .returned (.agg #[.float .f64 r]) ∧ Below w.heap.size w w' := by
  have hr := fun w t => run_float_arith (P := Try.prog) w .mul t .f64 x y r h
  clear h
  go_enter Try.func21, Try.ntmps21
  go_wp2_with (go_at_call 13; refine (fnew _ _).mono ?_; rintro e w1 ⟨rfl, rfl⟩)
  refine bodyPost_ret (v := .agg #[.float .f64 r]) (by simp [results, Try.results21, go_sem]) rfl ⟨rfl, ?_⟩
  exact (((Below.refl _ _).alloc (Nat.le_refl _) _).alloc (by simp) _).alloc (by simp; omega) _
theorem fdivc (x y r : Nat) (w : World) (h : floatBits .quo .f64 x y = some r) :
    Calls Try.prog 16 #[.agg #[.float .f64 x], .float .f64 y] w fun e w' => e = .returned (.agg #[.float .f64 r]) ∧ Below w.heap.size w w' := by
  have hr := fun w t => run_float_arith (P := Try.prog) w .quo t .f64 x y r h
  clear h
  go_enter Try.func16, Try.ntmps16
  go_wp2_with (go_at_call 13; refine (fnew _ _).mono ?_; rintro e w1 ⟨rfl, rfl⟩)
  refine bodyPost_ret (v := .agg #[.float .f64 r]) (by simp [results, Try.results16, go_sem]) rfl ⟨rfl, ?_⟩
  exact (((Below.refl _ _).alloc (Nat.le_refl _) _).alloc (by simp) _).alloc (by simp; omega) _
theorem faddb (x y r : Nat) (w : World) (h : floatBits .add .f64 x y = some r) :
    Calls Try.prog 24 #[.agg #[.float .f64 x], .agg #[.float .f64 y]] w fun e w' => e = .returned (.agg #[.float .f64 r]) ∧ Below w.heap.size w w' := by
  have hr := fun w t => run_float_arith (P := Try.prog) w .add t .f64 x y r h
  clear h
  go_enter Try.func24, Try.ntmps24
  go_wp2_with (go_at_call 13; refine (fnew _ _).mono ?_; rintro e w1 ⟨rfl, rfl⟩)
  refine bodyPost_ret (v := .agg #[.float .f64 r]) (by simp [results, Try.results24, go_sem]) rfl ⟨rfl, ?_⟩
  exact ((((Below.refl _ _).alloc (Nat.le_refl _) _).alloc (by simp) _).alloc (by simp; omega) _).alloc (by simp; omega) _
theorem fmulb (x y r : Nat) (w : World) (h : floatBits .mul .f64 x y = some r) :
    Calls Try.prog 23 #[.agg #[.float .f64 x], .agg #[.float .f64 y]] w fun e w' => e = .returned (.agg #[.float .f64 r]) ∧ Below w.heap.size w w' := by
  have hr := fun w t => run_float_arith (P := Try.prog) w .mul t .f64 x y r h
  clear h
  go_enter Try.func23, Try.ntmps23
  go_wp2_with (go_at_call 13; refine (fnew _ _).mono ?_; rintro e w1 ⟨rfl, rfl⟩)
  refine bodyPost_ret (v := .agg #[.float .f64 r]) (by simp [results, Try.results23, go_sem]) rfl ⟨rfl, ?_⟩
  exact ((((Below.refl _ _).alloc (Nat.le_refl _) _).alloc (by simp) _).alloc (by simp; omega) _).alloc (by simp; omega) _
theorem fsubb (x y r : Nat) (w : World) (h : floatBits .sub .f64 x y = some r) :
    Calls Try.prog 17 #[.agg #[.float .f64 x], .agg #[.float .f64 y]] w fun e w' => e = .returned (.agg #[.float .f64 r]) ∧ Below w.heap.size w w' := by
  have hr := fun w t => run_float_arith (P := Try.prog) w .sub t .f64 x y r h
  clear h
  go_enter Try.func17, Try.ntmps17
  go_wp2_with (go_at_call 13; refine (fnew _ _).mono ?_; rintro e w1 ⟨rfl, rfl⟩)
  refine bodyPost_ret (v := .agg #[.float .f64 r]) (by simp [results, Try.results17, go_sem]) rfl ⟨rfl, ?_⟩
  exact ((((Below.refl _ _).alloc (Nat.le_refl _) _).alloc (by simp) _).alloc (by simp; omega) _).alloc (by simp; omega) _
/-- math.Floor of the word a is b -/
def FloorIs (a b : Nat) : Prop := ∀ w, (callFunc 25 #[.float .f64 a]).run Try.prog w = .ok (.value (.float .f64 b)) w
theorem floor22 (a b : Nat) (w : World) (h : FloorIs a b) : Calls Try.prog 22 #[.float .f64 a] w fun e w' => e = .returned (.float .f64 b) ∧ w' = w := by
  have hr := fun w => h w
  clear h
  go_enter Try.func22, Try.ntmps22
  go_wp2_with fail
  go_ret
  exact ⟨rfl, rfl⟩
theorem floor18 (a b : Nat) (w : World) (h : FloorIs a b) : Calls Try.prog 18 #[.agg #[.float .f64 a]] w fun e w' => e = .returned (.agg #[.float .f64 b]) ∧ Below w.heap.size w w' := by
  have H := Lib.hid (fun w => floor22 a b w h)
  clear h
  go_enter Try.func18, Try.ntmps18
  go_wp2_with (first | (go_at_call 22; with_reducible refine (H.out _).mono ?_; rintro e w1 ⟨rfl, hw⟩; obtain rfl := hw.symm) | (go_at_call 13; with_reducible refine (fnew _ _).mono ?_; rintro e w1 ⟨rfl, rfl⟩))
  refine bodyPost_ret (v := .agg #[.float .f64 b]) (by simp [results, Try.results18, go_sem]) rfl ⟨rfl, ?_⟩
  go_grown
theorem floorIs (x : Nat) (hx : Fl.Fin x) : FloorIs x (Fl.ffloor x) := by
  intro w
  obtain ⟨m, i, e⟩ := Fl.read_number hx
  rw [run_callFunc_extern (fn := Try.f25) Try.func25 (by kernel_rfl) (by kernel_rfl) (by kernel_rfl) (e := Go.Extern.MathFloor.toIntegral "math.archFloor" .down) (by kernel_rfl)]
  have e' : FloatKind.f64.decode x = .number (Fl.ng x) m i := e
  have ht : Go.Extern.MathFloor.toIntegral "math.archFloor" .down #[.float .f64 x] = pure (.float .f64 (FloatKind.f64.encode ((Ieee.Datum.number (Fl.ng x) m i).integral .down))) := by
    delta Go.Extern.MathFloor.toIntegral
    refine (rfl : _ = Go.Extern.MathFloor.toIntegral.match_1 (fun _ => Sem Value) (FloatKind.f64.decode x) _ _).trans ?_
    rw [e']
  rw [ht]
  unfold Fl.ffloor
  rw [e]
  rfl
/-- float cells that this call made, with their values -/
structure Ev (w0 w : World) (l : List (Nat × Nat)) : Prop where
  below : Below w0.heap.size w0 w
  c : ∀ p, p ∈ l → w0.heap.size ≤ p.1 ∧ p.1 < w.heap.size ∧ w.cell? ⟨p.1, 0, none⟩ = some (.float .f64 p.2) ∧ w.frozen? ⟨p.1, 0, none⟩ = false
  nd : l.Pairwise (fun p q => p.1 ≠ q.1)
theorem Ev.start (w : World) : Ev w w [] := ⟨Below.refl _ _, fun p h => by simp at h, List.Pairwise.nil⟩
theorem Ev.call {w0 w w' : World} {l : List (Nat × Nat)} (h : Ev w0 w l) (hb : Below w.heap.size w w') : Ev w0 w' l := by
  have hz := hb.size
  refine ⟨h.below.trans (hb.mono h.below.size), fun p hp => ?_, h.nd⟩
  obtain ⟨a, b, c, d⟩ := h.c p hp
  exact ⟨a, by omega, by rw [hb.cell (p := ⟨p.1, 0, none⟩) b]; exact c, by rw [hb.frozen (p := ⟨p.1, 0, none⟩) b]; exact d⟩
theorem Ev.grow {w0 w : World} {l : List (Nat × Nat)} (h : Ev w0 w l) (o : Obj) : Ev w0 (w.alloc o) l := h.call ((Below.refl _ _).alloc (Nat.le_refl _) o)
theorem Ev.new {w0 w : World} {l : List (Nat × Nat)} (h : Ev w0 w l) (v : Nat) (t : TypeId) : Ev w0 (w.alloc (.cells #[.float .f64 v] t)) ((w.heap.size, v) :: l) := by
  have h2 := h.grow (.cells #[.float .f64 v] t)
  refine ⟨h2.below, fun p hp => ?_, List.Pairwise.cons (fun p hp => ?_) h.nd⟩
  · rcases List.mem_cons.1 hp with rfl | hp
    · exact ⟨h.below.size, by simp [go_sem], by simp [go_sem], by simp [go_sem]⟩
    · exact h2.c p hp
  · have := (h.c p hp).2.1
    show w.heap.size ≠ p.1
    omega
theorem Ev.drew {w0 w : World} {l : List (Nat × Nat)} (h : Ev w0 w l) : Ev w0 w.drew l := ⟨h.below.drew, h.c, h.nd⟩
theorem Ev.perm {w0 w : World} {l l' : List (Nat × Nat)} (h : Ev w0 w l) (hp : l.Perm l') : Ev w0 w l' :=
  ⟨h.below, fun p q => h.c p (hp.mem_iff.2 q), hp.pairwise h.nd (fun q => Ne.symm q)⟩
theorem Ev.tail {w0 w : World} {p : Nat × Nat} {l : List (Nat × Nat)} (h : Ev w0 w (p :: l)) : Ev w0 w l := ⟨h.below, fun q hq => h.c q (List.mem_cons_of_mem _ hq), (List.pairwise_cons.1 h.nd).2⟩
theorem Ev.ne {w0 w : World} {p : Nat × Nat} {l : List (Nat × Nat)} (h : Ev w0 w (p :: l)) : ∀ q, q ∈ l → q.1 ≠ p.1 := fun q hq => ((List.pairwise_cons.1 h.nd).1 q hq).symm
/-- the first cell set -/
theorem Ev.set {w0 w : World} {l : List (Nat × Nat)} {b u : Nat} (h : Ev w0 w ((b, u) :: l)) (v : Nat) : Ev w0 (w.setCell ⟨b, 0, none⟩ (.float .f64 v)) ((b, v) :: l) := by
  obtain ⟨a1, b1, c1, d1⟩ := h.c _ (List.mem_cons_self ..)
  refine ⟨h.below.setCell a1 _, fun p hp => ?_, ?_⟩
  · rcases List.mem_cons.1 hp with rfl | hp
    · exact ⟨a1, by simpa [World.setCell] using b1, World.cell?_setCell_same _ _ _ c1, by rw [World.frozen?_setCell]; exact d1⟩
    · obtain ⟨a2, b2, c2, d2⟩ := h.c p (List.mem_cons_of_mem _ hp)
      have hn := h.ne p hp
      exact ⟨a2, by simpa [World.setCell] using b2, by rw [World.cell?_setCell_other _ _ _ _ (by simp <;> omega)]; exact c2, by rw [World.frozen?_setCell]; exact d2⟩
  · exact List.Pairwise.cons (List.pairwise_cons.1 h.nd).1 (List.pairwise_cons.1 h.nd).2
theorem Ev.cell {w0 w : World} {l : List (Nat × Nat)} (h : Ev w0 w l) {b v : Nat} (hp : (b, v) ∈ l) : w.cell? ⟨b, 0, none⟩ = some (.float .f64 v) := (h.c _ hp).2.2.1
theorem Ev.frz {w0 w : World} {l : List (Nat × Nat)} (h : Ev w0 w l) {b v : Nat} (hp : (b, v) ∈ l) : w.frozen? ⟨b, 0, none⟩ = false := (h.c _ hp).2.2.2
theorem Ev.lt {w0 w : World} {l : List (Nat × Nat)} (h : Ev w0 w l) {b v : Nat} (hp : (b, v) ∈ l) : b < w.heap.size := (h.c _ hp).2.1
/-- element k to the front -/
theorem Ev.mid {w0 w : World} {l : List (Nat × Nat)} (h : Ev w0 w l) (k : Nat) (l' : List (Nat × Nat)) (p : Nat × Nat) (e : l = l.take k ++ p :: l.drop (k + 1)) (e' : l' = p :: (l.take k ++ l.drop (k + 1))) : Ev w0 w l' := by
  refine h.perm ?_
  rw [e']
  conv => lhs; rw [e]
  exact List.perm_middle

def cnt : List Bool → Nat
  | [] => 0
  | b :: l => cnt l + if b then 0 else 1
theorem cnt_set : ∀ (l : List Bool) (i : Nat), l[i]? = some false → cnt (l.set i true) + 1 = cnt l
  | [], i, h => by simp at h
  | b :: l, 0, h => by
    simp at h
    subst h
    simp [cnt]
  | b :: l, i + 1, h => by
    simp at h
    have := cnt_set l i h
    simp only [List.set_cons_succ, cnt]
    omega
theorem cnt_zero : ∀ (l : List Bool), cnt l = 0 → ∀ b ∈ l, b = true
  | [], _, b, h => by simp at h
  | c :: l, h, b, hb => by
    have h1 : cnt l = 0 ∧ c = true := by
      simp only [cnt] at h
      cases c
      · simp at h
      · simp at h; exact ⟨h, rfl⟩
    rcases List.mem_cons.1 hb with rfl | hb
    · exact h1.2
    · exact cnt_zero l h1.1 b hb

section
variable {P : Program} {ops : Array Oper} {Q : Exit → Act → World → Prop} {md : Region.Mode}
/-- each operation waits for earlier ones alone -/
def Dag (ops : Array Oper) : Bool := (List.range ops.size).all fun i => ((ops[i]?).map (·.after.all fun e => decide (e.on < i))).getD true
theorem all_listed (hd : Dag ops = true) {listed : Array Bool} (hs : listed.size = ops.size) (h : Region.ready md ops listed = []) : ∀ i, i < ops.size → listed[i]? = some true := by
  intro i
  induction i using Nat.strongRecOn with
  | ind i ih =>
    intro hi
    refine Decidable.byContradiction fun hn => ?_
    have hi' : i < listed.size := by omega
    have hf : listed[i]? = some false := by
      rw [Array.getElem?_eq_getElem hi'] at hn ⊢
      cases hb : listed[i]
      · rfl
      · rw [hb] at hn; simp at hn
    have hm : i ∈ Region.ready md ops listed := by
      unfold Region.ready
      rw [List.mem_filter]
      refine ⟨List.mem_range.2 hi, ?_⟩
      have hget : listed.getD i true = false := by simp [hf]
      rw [hget]
      have hd' := List.all_eq_true.1 hd i (List.mem_range.2 hi)
      rw [Array.getElem?_eq_getElem hi] at hd' ⊢
      simp only [Option.map_some, Option.getD_some, Bool.not_false, Bool.true_and] at hd' ⊢
      rw [Array.all_eq_true] at hd' ⊢
      intro j hj
      have hlt := hd' j hj
      rw [decide_eq_true_iff] at hlt
      have := ih _ hlt (by omega)
      simp [this]
    rw [h] at hm
    cases hm
theorem wpAny_inv (I : Array Bool → Act → World → Prop) (hd : Dag ops = true)
    (hstep : ∀ (listed : Array Bool) (a : Act) (w : World) (i : Nat), listed.size = ops.size → i ∈ Region.ready md ops listed → I listed a w → wpOp P ops Q i (I (listed.setIfInBounds i true)) a w)
    (hend : ∀ (listed : Array Bool) (a : Act) (w : World), listed.size = ops.size → (∀ i, i < ops.size → listed[i]? = some true) → I listed a w → Q .normal a w) :
    ∀ (fuel : Nat) (listed : Array Bool) (a : Act) (w : World), listed.size = ops.size → cnt listed.toList ≤ fuel → I listed a w → wpAny P md ops Q fuel listed a w
  | 0, listed, a, w, hs, hc, hI => by
    have hall : ∀ i, i < ops.size → listed[i]? = some true := fun i hi => by
      have hi' : i < listed.size := by omega
      rw [Array.getElem?_eq_getElem hi']
      have := cnt_zero _ (Nat.le_zero.1 hc) listed[i] (by simp)
      rw [this]
    refine ⟨?_, hend listed a w hs hall hI⟩
    unfold Region.ready
    rw [List.filter_eq_nil_iff]
    intro i hi
    have := hall i (List.mem_range.1 hi)
    simp [this]
  | fuel + 1, listed, a, w, hs, hc, hI => by
    refine ⟨fun h => hend listed a w hs (all_listed hd hs h) hI, fun i hi => ?_⟩
    have hf : listed.toList[i]? = some false := by
      have h1 := hi
      unfold Region.ready at h1
      rw [List.mem_filter, Bool.and_eq_true] at h1
      have hlt : i < listed.size := by have := List.mem_range.1 h1.1; omega
      have h2 := h1.2.1
      have e : listed.getD i true = listed[i] := by simp [hlt]
      rw [e] at h2
      rw [Array.getElem?_toList, Array.getElem?_eq_getElem hlt]
      cases hb : listed[i]
      · rfl
      · rw [hb] at h2; simp at h2
    refine wpOp_mono (fun a' w' hI' => ?_) (hstep listed a w i hs hi hI)
    refine wpAny_inv I hd hstep hend fuel _ a' w' (by simpa using hs) ?_ hI'
    have := cnt_set _ i hf
    rw [Array.toList_setIfInBounds]
    omega
/-- a region that draws its order, by an invariant -/
theorem wp_region_inv (I : Array Bool → Act → World → Prop) {id : Nat} {a : Act} {w : World} (hm : P.follows .mixedOrders = true) (hd : Dag ops = true)
    (h0 : I (Array.replicate ops.size false) a w.drew)
    (hstep : ∀ (listed : Array Bool) (a : Act) (w : World) (i : Nat), listed.size = ops.size → i ∈ Region.ready .any ops listed → I listed a w → wpOp P ops Q i (I (listed.setIfInBounds i true)) a w)
    (hend : ∀ (listed : Array Bool) (a : Act) (w : World), listed.size = ops.size → (∀ i, i < ops.size → listed[i]? = some true) → I listed a w → Q .normal a w) :
    (Code.region id ops true).wp P Q a w := by
  refine wp_region_any hm (wpAny_inv I hd hstep hend _ _ _ _ (by simp) ?_ h0)
  have : ∀ n, cnt (List.replicate n false) = n := by
    intro n
    induction n with
    | zero => rfl
    | succ n ih => rw [List.replicate_succ]; simp [cnt, ih]
  rw [Array.toList_replicate, this]
  exact Nat.le_refl _
theorem wp_region_inv' (I : Act → Array Bool → Act → World → Prop) {id : Nat} {a : Act} {w : World} (hm : P.follows .mixedOrders = true) (hd : Dag ops = true)
    (h0 : I a (Array.replicate ops.size false) a w.drew)
    (hstep : ∀ (listed : Array Bool) (a' : Act) (w : World) (i : Nat), listed.size = ops.size → i ∈ Region.ready .any ops listed → I a listed a' w → wpOp P ops Q i (I a (listed.setIfInBounds i true)) a' w)
    (hend : ∀ (listed : Array Bool) (a' : Act) (w : World), listed.size = ops.size → (∀ i, i < ops.size → listed[i]? = some true) → I a listed a' w → Q .normal a' w) :
    (Code.region id ops true).wp P Q a w := wp_region_inv (I a) hm hd h0 hstep hend
end
theorem Ev.sub' {w0 w : World} {l l' : List (Nat × Nat)} (h : Ev w0 w l) (hs : l'.Sublist l) : Ev w0 w l' := ⟨h.below, fun p hp => h.c p (hs.subset hp), h.nd.sublist hs⟩
theorem Ev.pick13 {w0 w : World} {p0 p1 p2 p3 p4 p5 p6 p7 p8 p9 p10 p11 p12 : Nat × Nat} (h : Ev w0 w [p0, p1, p2, p3, p4, p5, p6, p7, p8, p9, p10, p11, p12]) : Ev w0 w [p9, p8, p7, p0, p1, p4] := by
  have h2 : Ev w0 w ([p0, p1, p4] ++ [p7, p8, p9]) := h.sub' (((((((((((List.nil_sublist _).cons_cons _).cons_cons _).cons_cons _).cons _).cons _).cons_cons _).cons _).cons _).cons_cons _).cons_cons _)
  exact h2.perm (List.perm_append_comm.trans ((List.reverse_perm [p7, p8, p9]).symm.append_right _))
theorem Ev.pick12 {w0 w : World} {p0 p1 p2 p3 p4 p5 p6 p7 p8 p9 p10 p11 : Nat × Nat} (h : Ev w0 w [p0, p1, p2, p3, p4, p5, p6, p7, p8, p9, p10, p11]) : Ev w0 w [p8, p7, p6, p1, p2, p3] := by
  have h2 : Ev w0 w ([p1, p2, p3] ++ [p6, p7, p8]) := h.sub' ((((((((((List.nil_sublist _).cons_cons _).cons_cons _).cons_cons _).cons _).cons _).cons_cons _).cons_cons _).cons_cons _).cons _)
  exact h2.perm (List.perm_append_comm.trans ((List.reverse_perm [p6, p7, p8]).symm.append_right _))
open Go.ChangeShapes Go.WideShapes Go.ChangeAt Go.RowKit in
theorem fvalueB (x : Nat) (w : World) : Calls Try.prog 14 #[.agg #[.float .f64 x]] w fun e w' => e = .returned (.float .f64 x) ∧ Below w.heap.size w w' := by
  refine (fvalue x w).mono ?_
  rintro e w1 ⟨h, rfl⟩
  exact ⟨h, (Below.refl _ _).alloc (Nat.le_refl _) _⟩
theorem eq22 (a b : Nat) (w : World) : (Op.equalIn 9999 22 (.float .f64 a) (.float .f64 b)).run Try.prog w = .ok (FloatKind.f64.format.order a b == some .eq) w := by kernel_rfl
/-- a slot that is to hold a new cell of the value c -/
def Oc (la ls : Bool) (u : Value) (o : List (Nat × Nat)) (c : Nat) : Prop := (la = false → o = []) ∧ (la = true → ∃ b v, u = .pointer (some ⟨b, 0, none⟩) ∧ o = [(b, v)] ∧ (ls = true → v = c)) ∧ (ls = true → la = true)

end Go.Proofs.Ythhoalfilmlhaaa
