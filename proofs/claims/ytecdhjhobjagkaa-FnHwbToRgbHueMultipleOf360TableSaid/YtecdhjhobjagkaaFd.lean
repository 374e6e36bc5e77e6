/-
  The contracts of math.NaN and Min2, and rows of float cells. No conditions.
-/
import Derived.Test.YtecdhjhobjagkaaFb
import Derived.Test.YtecdhjhobjagkaaFc
namespace Go.Proofs.Ytecdhjhobjagkaa
open Go.ChangeShapes Go.WideShapes Go.ChangeAt Go.RowKit
attribute [local go_sem] run_store_float unary_neg_float

theorem run_frombits (x : Nat) (w : World) : (callFunc 51 #[.int .u64 (x : Int)]).run Try.prog w = .ok (.value (.float .f64 x)) w := by
  rw [run_callFunc_extern (fn := Try.f51) Try.func51 (by kernel_rfl) (by kernel_rfl) (by kernel_rfl) (e := Go.Extern.MathFloatBits.float64frombits) (by kernel_rfl)]
  rfl
theorem run_nan (w : World) : (callFunc 51 #[.int .u64 9221120237041090561]).run Try.prog w = .ok (.value (.float .f64 9221120237041090561)) w := run_frombits 9221120237041090561 w
attribute [local go_sem] run_nan
theorem nan42 (w : World) : Calls Try.prog 42 #[] w fun e w' => e = .returned (.float .f64 9221120237041090561) ∧ w' = w := by
  go_enter Try.func42, Try.ntmps42
  go_wp2_with fail
  go_ret
  exact ⟨rfl, rfl⟩

theorem min44 (x y : Nat) (w : World) :
    Calls Try.prog 44 #[.agg #[.float .f64 x], .agg #[.float .f64 y]] w fun e w' => e = .returned (.agg #[.float .f64 (fmin x y)]) ∧ Below w.heap.size w w' := by
  go_enter Try.func44, Try.ntmps44
  go_wp2_with (first | (go_at_call 45; with_reducible refine (min45 _ _ _).mono ?_; rintro e w1 ⟨rfl, hw⟩; obtain rfl := hw.symm) | (go_at_call 25; with_reducible refine (fnew _ _).mono ?_; rintro e w1 ⟨rfl, rfl⟩))
  refine bodyPost_ret (v := .agg #[.float .f64 (fmin x y)]) (by simp [results, Try.results44, go_sem]) rfl ⟨rfl, ?_⟩
  exact ((((Below.refl _ _).alloc (Nat.le_refl _) _).alloc (by simp) _).alloc (by simp; omega) _).alloc (by simp; omega) _

/-- float cells that this call made, with their values -/
structure Ev (w0 w : World) (l : List (Nat × Nat)) : Prop where
  below : Below w0.heap.size w0 w
  c : ∀ p, p ∈ l → w0.heap.size ≤ p.1 ∧ p.1 < w.heap.size ∧ w.cell? ⟨p.1, 0, none⟩ = some (.float .f64 p.2) ∧ w.frozen? ⟨p.1, 0, none⟩ = false
  nd : l.Pairwise (fun p q => p.1 ≠ q.1)
theorem Ev.start (w : World) : Ev w w [] := ⟨Below.refl _ _, fun p h => by simp at h, List.Pairwise.nil⟩
theorem Ev.call {w0 w w' : World} {l : List (Nat × Nat)} (h : Ev w0 w l) (hb : Below w.heap.size w w') : Ev w0 w' l := by
  have hz := hb.size
  refine ⟨h.below.trans (hb.mono h.below.size), fun p hp => ?_, h.nd⟩
  obtain ⟨a, b, c, d⟩ := h.c p hp
  exact ⟨a, by omega, by rw [hb.cell (p := ⟨p.1, 0, none⟩) b]; exact c, by rw [hb.frozen (p := ⟨p.1, 0, none⟩) b]; exact d⟩
theorem Ev.grow {w0 w : World} {l : List (Nat × Nat)} (h : Ev w0 w l) (o : Obj) : Ev w0 (w.alloc o) l := h.call ((Below.refl _ _).alloc (Nat.le_refl _) o)
theorem Ev.new {w0 w : World} {l : List (Nat × Nat)} (h : Ev w0 w l) (v : Nat) (t : TypeId) : Ev w0 (w.alloc (.cells #[.float .f64 v] t)) ((w.heap.size, v) :: l) := by
  have h2 := h.grow (.cells #[.float .f64 v] t)
  refine ⟨h2.below, fun p hp => ?_, List.Pairwise.cons (fun p hp => ?_) h.nd⟩
  · rcases List.mem_cons.1 hp with rfl | hp
    · exact ⟨h.below.size, by simp [go_sem], by simp [go_sem], by simp [go_sem]⟩
    · exact h2.c p hp
  · have := (h.c p hp).2.1
    show w.heap.size ≠ p.1
    omega
theorem Ev.drew {w0 w : World} {l : List (Nat × Nat)} (h : Ev w0 w l) : Ev w0 w.drew l := ⟨h.below.drew, h.c, h.nd⟩
theorem Ev.perm {w0 w : World} {l l' : List (Nat × Nat)} (h : Ev w0 w l) (hp : l.Perm l') : Ev w0 w l' :=
  ⟨h.below, fun p q => h.c p (hp.mem_iff.2 q), hp.pairwise h.nd (fun q => Ne.symm q)⟩
theorem Ev.tail {w0 w : World} {p : Nat × Nat} {l : List (Nat × Nat)} (h : Ev w0 w (p :: l)) : Ev w0 w l := ⟨h.below, fun q hq => h.c q (List.mem_cons_of_mem _ hq), (List.pairwise_cons.1 h.nd).2⟩
theorem Ev.ne {w0 w : World} {p : Nat × Nat} {l : List (Nat × Nat)} (h : Ev w0 w (p :: l)) : ∀ q, q ∈ l → q.1 ≠ p.1 := fun q hq => ((List.pairwise_cons.1 h.nd).1 q hq).symm
/-- the first cell set -/
theorem Ev.set {w0 w : World} {l : List (Nat × Nat)} {b u : Nat} (h : Ev w0 w ((b, u) :: l)) (v : Nat) : Ev w0 (w.setCell ⟨b, 0, none⟩ (.float .f64 v)) ((b, v) :: l) := by
  obtain ⟨a1, b1, c1, d1⟩ := h.c _ (List.mem_cons_self ..)
  refine ⟨h.below.setCell a1 _, fun p hp => ?_, ?_⟩
  · rcases List.mem_cons.1 hp with rfl | hp
    · exact ⟨a1, by simpa [World.setCell] using b1, World.cell?_setCell_same _ _ _ c1, by rw [World.frozen?_setCell]; exact d1⟩
    · obtain ⟨a2, b2, c2, d2⟩ := h.c p (List.mem_cons_of_mem _ hp)
      have hn := h.ne p hp
      exact ⟨a2, by simpa [World.setCell] using b2, by rw [World.cell?_setCell_other _ _ _ _ (by simp <;> omega)]; exact c2, by rw [World.frozen?_setCell]; exact d2⟩
  · exact List.Pairwise.cons (List.pairwise_cons.1 h.nd).1 (List.pairwise_cons.1 h.nd).2
theorem Ev.cell {w0 w : World} {l : List (Nat × Nat)} (h : Ev w0 w l) {b v : Nat} (hp : (b, v) ∈ l) : w.cell? ⟨b, 0, none⟩ = some (.float .f64 v) := (h.c _ hp).2.2.1
theorem Ev.frz {w0 w : World} {l : List (Nat × Nat)} (h : Ev w0 w l) {b v : Nat} (hp : (b, v) ∈ l) : w.frozen? ⟨b, 0, none⟩ = false := (h.c _ hp).2.2.2
theorem Ev.lt {w0 w : World} {l : List (Nat × Nat)} (h : Ev w0 w l) {b v : Nat} (hp : (b, v) ∈ l) : b < w.heap.size := (h.c _ hp).2.1
/-- element k to the front -/
theorem Ev.mid {w0 w : World} {l : List (Nat × Nat)} (h : Ev w0 w l) (k : Nat) (l' : List (Nat × Nat)) (p : Nat × Nat) (e : l = l.take k ++ p :: l.drop (k + 1)) (e' : l' = p :: (l.take k ++ l.drop (k + 1))) : Ev w0 w l' := by
  refine h.perm ?_
  rw [e']
  conv => lhs; rw [e]
  exact List.perm_middle

/-- cells that may be written, beside cells that stand -/
structure Sv (w0 : World) (L X : List (Nat × Nat)) (w : World) : Prop where
  ex : ∃ X' : List (Nat × Nat), X'.map Prod.fst = X.map Prod.fst ∧ Ev w0 w (X' ++ L)
theorem Sv.start {w0 w : World} {L X : List (Nat × Nat)} (h : Ev w0 w (X ++ L)) : Sv w0 L X w := ⟨X, rfl, h⟩
theorem Sv.call {w0 w w' : World} {L X : List (Nat × Nat)} (h : Sv w0 L X w) (hb : Below w.heap.size w w') : Sv w0 L X w' := by
  obtain ⟨X', e, h⟩ := h.ex
  exact ⟨X', e, h.call hb⟩
theorem Sv.cell {w0 w : World} {L X : List (Nat × Nat)} (h : Sv w0 L X w) {b v : Nat} (hp : (b, v) ∈ L) : w.cell? ⟨b, 0, none⟩ = some (.float .f64 v) := by
  obtain ⟨X', e, h⟩ := h.ex
  exact h.cell (List.mem_append_right _ hp)
theorem Sv.has {w0 w : World} {L X : List (Nat × Nat)} (h : Sv w0 L X w) {b u : Nat} (hp : (b, u) ∈ X) : ∃ v, ∃ X1 X2 : List (Nat × Nat), (X1 ++ (b, v) :: X2).map Prod.fst = X.map Prod.fst ∧ Ev w0 w ((X1 ++ (b, v) :: X2) ++ L) := by
  obtain ⟨X', e, h⟩ := h.ex
  have : b ∈ X'.map Prod.fst := by rw [e]; exact List.mem_map.2 ⟨_, hp, rfl⟩
  obtain ⟨⟨b', v⟩, hm, rfl⟩ := List.mem_map.1 this
  obtain ⟨X1, X2, rfl⟩ := List.append_of_mem hm
  exact ⟨v, X1, X2, e, h⟩
theorem Sv.put {w0 w : World} {L X : List (Nat × Nat)} (h : Sv w0 L X w) {b u : Nat} (hp : (b, u) ∈ X) (v : Nat) : Sv w0 L X (w.setCell ⟨b, 0, none⟩ (.float .f64 v)) := by
  obtain ⟨q, X1, X2, e, h⟩ := h.has hp
  refine ⟨X1 ++ (b, v) :: X2, by rw [← e]; simp, ?_⟩
  have h2 : Ev w0 w ((b, q) :: (X1 ++ X2 ++ L)) := h.perm (by
    rw [List.append_assoc, List.append_assoc]
    exact List.perm_middle)
  refine (h2.set v).perm ?_
  rw [List.append_assoc, List.append_assoc]
  exact List.perm_middle.symm
theorem Sv.run {w0 w : World} {L X : List (Nat × Nat)} (h : Sv w0 L X w) {b u : Nat} (hp : (b, u) ∈ X) (v : Nat) (m : Mode) : (store ⟨b, 0, none⟩ (.float .f64 v) m).run Try.prog w = .ok () (w.setCell ⟨b, 0, none⟩ (.float .f64 v)) := by
  obtain ⟨q, X1, X2, e, h⟩ := h.has hp
  have hm : (b, q) ∈ (X1 ++ (b, q) :: X2) ++ L := by simp
  rw [run_store _ _ _ _ _ rfl, h.cell hm]
  simp [h.frz hm]
/-- a cell that was set last -/
theorem setCell_back {w : World} {a : Addr} {u v : Value} (h : (w.setCell a u).cell? a = some v) : ∃ x, w.cell? a = some x := by
  cases hc : w.cell? a with
  | some x => exact ⟨x, rfl⟩
  | none =>
    exfalso
    unfold World.cell? at hc
    unfold World.setCell World.cell? at h
    simp only [Array.getElem?_modify] at h
    rw [if_pos trivial] at h
    cases hb : w.heap[a.block]? with
    | none => rw [hb] at h; simp at h
    | some o =>
      rw [hb] at h hc
      cases o with
      | cells c e f =>
        simp only [Option.map_some] at h hc
        cases hs : a.spot.isSome with
        | true => simp [hs] at h
        | false =>
          rw [hs] at h hc
          simp at h hc
          rw [Array.getElem?_eq_none (by simpa using hc)] at h
          cases h
      | _ => simp at h
/-- behind the store of one writable cell all is known -/
theorem Sv.one {w0 w : World} {L : List (Nat × Nat)} {b u v : Nat} (h : Sv w0 L [(b, u)] (w.setCell ⟨b, 0, none⟩ (.float .f64 v))) : Ev w0 (w.setCell ⟨b, 0, none⟩ (.float .f64 v)) ((b, v) :: L) := by
  obtain ⟨X', e, h⟩ := h.ex
  cases X' with
  | nil => simp at e
  | cons p X' =>
    obtain ⟨b', q⟩ := p
    simp at e
    obtain ⟨rfl, rfl⟩ := e
    have hc := h.cell (b := b') (v := q) (by simp)
    obtain ⟨x, hx⟩ := setCell_back hc
    rw [World.cell?_setCell_same _ _ _ hx] at hc
    injection hc with hc
    injection hc with _ hc
    subst hc
    exact h
theorem fnewB (x : Nat) (w : World) :
    Calls Try.prog 25 #[.float .f64 x] w fun e w' => e = .returned (.agg #[.float .f64 x]) ∧ Below w.heap.size w w' := by
  refine (fnew x w).mono ?_
  rintro e w1 ⟨h, rfl⟩
  exact ⟨h, (Below.refl _ _).alloc (Nat.le_refl _) _⟩
theorem Ev.s12 {w0 w : World} {p q : Nat × Nat} {l : List (Nat × Nat)} (h : Ev w0 w (p :: q :: l)) : Ev w0 w (q :: p :: l) := h.perm (List.Perm.swap ..)
theorem Ev.s23 {w0 w : World} {p q r : Nat × Nat} {l : List (Nat × Nat)} (h : Ev w0 w (p :: q :: r :: l)) : Ev w0 w (p :: r :: q :: l) := h.perm ((List.Perm.swap ..).cons _)
theorem Sv.one1 {w0 w : World} {L X : List (Nat × Nat)} {a x : Nat} (h : Sv w0 L X w) (m : (a, x) ∈ L) : w.cell? ⟨a, 0, none⟩ = some (.float .f64 x) ∧ Sv w0 L X w := ⟨h.cell m, h⟩
theorem Sv.two {w0 w : World} {L X : List (Nat × Nat)} {a x b y : Nat} (h : Sv w0 L X w) (m : (a, x) ∈ L) (n : (b, y) ∈ L) : w.cell? ⟨a, 0, none⟩ = some (.float .f64 x) ∧ w.cell? ⟨b, 0, none⟩ = some (.float .f64 y) ∧ Sv w0 L X w := ⟨h.cell m, h.cell n, h⟩
theorem Sv.three {w0 w : World} {L X : List (Nat × Nat)} {a x b y c z : Nat} (h : Sv w0 L X w) (m : (a, x) ∈ L) (n : (b, y) ∈ L) (o : (c, z) ∈ L) : w.cell? ⟨a, 0, none⟩ = some (.float .f64 x) ∧ w.cell? ⟨b, 0, none⟩ = some (.float .f64 y) ∧ w.cell? ⟨c, 0, none⟩ = some (.float .f64 z) ∧ Sv w0 L X w := ⟨h.cell m, h.cell n, h.cell o, h⟩
theorem Sv.grow {w0 w : World} {L X : List (Nat × Nat)} (h : Sv w0 L X w) (o : Obj) : Sv w0 L X (w.alloc o) := h.call ((Below.refl _ _).alloc (Nat.le_refl _) o)
theorem Sv.ev {w0 w : World} {L : List (Nat × Nat)} (h : Sv w0 L [] w) : Ev w0 w L := by
  obtain ⟨X', e, h⟩ := h.ex
  cases X' with
  | nil => exact h
  | cons p l => simp at e
end Go.Proofs.Ytecdhjhobjagkaa
