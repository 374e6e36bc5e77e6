/-
  Updating a side stores the new side there, leaves the others alone and blanks exactly the old side's rule where the text says so. No conditions.
-/
import Derived.Test.YtgkphknholechaaIo
import Derived.WalkKit
import Derived.ProofKit
import Derived.OpenShut
import Derived.ShutString
import Derived.ChangeOld
import Derived.Below
import Derived.WalkLawsBesides
import Derived.Test.YtgkphknholechaaWh
import Derived.Deep.DeepCutAuto
namespace Go.Proofs.Ytgkphknholechaa.fnUpdateSideExact
open Go.ChangeShapes Go.WideShapes Go.ChangeAt Go.RowKit
open Go.ChangeMaps (open_string shut_string)
set_option linter.unusedVariables false

theorem own : ownKnob Try.prog.godebug = none := by kernel_rfl
theorem laidOut : laidOutB Try.prog = true := by kernel_rfl

theorem box_new (w : World) : Box (w.alloc (.cells boxCells 85)) w.heap.size (fun _ => ⟨0, 0, 0, false⟩) := by
  have key : ∀ j o, j < 4 → o < 11 → boxCells[1 + j * 11 + o]? = some ((Sd.mk 0 0 0 false).at o) := by
    intro j o hj ho
    have e : j = 0 ∨ j = 1 ∨ j = 2 ∨ j = 3 := by omega
    have e2 : o = 0 ∨ o = 1 ∨ o = 2 ∨ o = 3 ∨ o = 4 ∨ o = 5 ∨ o = 6 ∨ o = 7 ∨ o = 8 ∨ o = 9 ∨ o = 10 := by omega
    rcases e with rfl | rfl | rfl | rfl <;> rcases e2 with rfl | rfl | rfl | rfl | rfl | rfl | rfl | rfl | rfl | rfl | rfl <;> rfl
  refine ⟨fun j o hj ho => ?_, fun o => ?_⟩
  · have := key j o hj ho
    simp [go_sem, this]
  · simp [go_sem]

def fk (x : Sd) (k : Nat) : Nat → Sd := fun i => if i < k then x else ⟨0, 0, 0, false⟩
theorem fk_upd (x : Sd) (k : Nat) : upd (fk x k) k x = fk x (k + 1) := by
  funext i
  unfold upd fk
  by_cases e : i = k
  · subst e; simp
  · by_cases e2 : i < k
    · rw [if_neg e, if_pos e2, if_pos (by omega)]
    · rw [if_neg e, if_neg e2, if_neg (by omega)]

/-- the worlds of the loop that sets the four sides -/
structure St (w0 : World) (n b o : Nat) (x : Sd) (f : Nat → Sd) (w : World) : Prop where
  size : o < w.heap.size
  ob : b < o
  rb : w0.heap.size < b
  box : Box w b f
  rls : Rls w w0.heap.size n (fun i => if i < n then ((i + 1 : Nat) : Int) else 0)
  old : ∀ i, i < 11 → w.cell? ⟨o, i, none⟩ = some (x.at i)
  below : Below w0.heap.size w0 w

theorem St.start {w0 w1 : World} {n : Nat} (h : Mk w0 n n w1) (x : Sd) (k s ii : Int) (g : Bool) (hx : x = ⟨k, s, ii, g⟩) :
    St w0 n w1.heap.size (w1.heap.size + 1 + 1) x (fk x 0) (((w1.alloc (.cells boxCells 85)).alloc (.cells x.cells 54)).alloc (.cells x.cells 54)) := by
  have b0 := box_new w1
  have s0 : (w1.alloc (.cells boxCells 85)).heap.size = w1.heap.size + 1 := by simp [go_sem]
  have k0 : Below w1.heap.size w1 (w1.alloc (.cells boxCells 85)) := (Below.refl _ _).alloc (Nat.le_refl _) _
  have e0 := h.below.alloc (show w0.heap.size ≤ w1.heap.size by have := h.size; omega) (.cells boxCells 85)
  have r0 := bel_rls h.rls (by have := h.size; omega) k0
  have hs := h.size
  generalize w1.alloc (.cells boxCells 85) = V at *
  have k1 : Below V.heap.size V ((V.alloc (.cells x.cells 54)).alloc (.cells x.cells 54)) := ((Below.refl _ _).alloc (Nat.le_refl _) _).alloc (by simp [go_sem]) _
  refine ⟨by simp [go_sem]; omega, by omega, by omega, bel_box b0 (by omega) k1, bel_rls r0 (by omega) k1, fun i hi => ?_, (e0.alloc (by omega) _).alloc (by simp [go_sem]; omega) _⟩
  subst hx
  have s1 : (V.alloc (.cells (Sd.mk k s ii g).cells 54)).heap.size = w1.heap.size + 1 + 1 := by simp [go_sem]; omega
  generalize V.alloc (.cells (Sd.mk k s ii g).cells 54) = V1 at *
  rw [← s1]
  have e2 : i = 0 ∨ i = 1 ∨ i = 2 ∨ i = 3 ∨ i = 4 ∨ i = 5 ∨ i = 6 ∨ i = 7 ∨ i = 8 ∨ i = 9 ∨ i = 10 := by omega
  rcases e2 with rfl | rfl | rfl | rfl | rfl | rfl | rfl | rfl | rfl | rfl | rfl <;> simp [go_sem, Sd.cells, Sd.at]

theorem St.step {w0 w w' : World} {n b o k : Nat} {x : Sd} (h : St w0 n b o x (fk x k) w) (hk : Kept w w' b) (hb : Box w' b (upd (fk x k) k x)) : St w0 n b o x (fk x (k + 1)) w' := by
  have h1 := h.size
  have h2 := h.ob
  have h3 := h.rb
  refine ⟨by have := hk.size; omega, h2, h3, by rw [← fk_upd]; exact hb, ⟨fun i hi => ?_, fun i hi => ?_, fun o => ?_⟩, fun i hi => ?_, hk.below _ _ (by omega) h.below⟩
  · rw [hk.cell _ _ (by omega) (by omega)]; exact h.rls.d i hi
  · rw [hk.cell _ _ (by omega) (by omega)]; exact h.rls.l i hi
  · rw [hk.frozen _ _ (by omega)]; exact h.rls.z o
  · rw [hk.cell _ _ (by omega) (by omega)]; exact h.old i hi

/-- the worlds behind the update -/
structure Af (w0 : World) (n b : Nat) (f : Nat → Sd) (g : Nat → Int) (w : World) : Prop where
  size : b < w.heap.size
  rb : w0.heap.size < b
  box : Box w b f
  rls : Rls w w0.heap.size n g
  below : Below w0.heap.size w0 w

theorem Af.alloc {w0 w : World} {n b : Nat} {f : Nat → Sd} {g : Nat → Int} (h : Af w0 n b f g w) (o : Obj) : Af w0 n b f g (w.alloc o) := by
  have k0 : Below w.heap.size w (w.alloc o) := (Below.refl _ _).alloc (Nat.le_refl _) _
  have h1 := h.size
  have h3 := h.rb
  exact ⟨by simp [go_sem]; omega, h3, bel_box h.box h1 k0, bel_rls h.rls (by omega) k0, h.below.alloc (by omega) _⟩

set_option maxRecDepth 20000 in
set_option maxHeartbeats 4000000 in
theorem walk (a0 : Int) (a1 : Int) (a2 : Int) (a3 : Int) (a4 : Int) (a5 : Bool) (a6 : Int) (a7 : Int) (a8 : Int) (a9 : Bool) (w : World) (w0 : (Lit.int .i64 a0).wf = true) (w1 : (Lit.int .i64 a1).wf = true) (w2 : (Lit.int .u8 a2).wf = true) (w3 : (Lit.int .u8 a3).wf = true) (w4 : (Lit.int .u32 a4).wf = true) (w6 : (Lit.int .u8 a6).wf = true) (w7 : (Lit.int .u8 a7).wf = true) (w8 : (Lit.int .u32 a8).wf = true) :
    Calls Try.prog 7 #[.int .i64 a0, .int .i64 a1, .int .u8 a2, .int .u8 a3, .int .u32 a4, .bool a5, .int .u8 a6, .int .u8 a7, .int .u32 a8, .bool a9] w fun e w' => e = .returned (.bool true) ∧ Below w.heap.size w w' := by
  obtain ⟨k0, k0'⟩ := bounds_u8 w2
  obtain ⟨k1, k1'⟩ := bounds_u8 w3
  obtain ⟨k2, k2'⟩ := bounds_u32 w4
  obtain ⟨k3, k3'⟩ := bounds_u8 w6
  obtain ⟨k4, k4'⟩ := bounds_u8 w7
  obtain ⟨k5, k5'⟩ := bounds_u32 w8
  by_cases g1 : a0 < 1
  · go_enter Try.func7, Try.ntmps7
    go_wp2
    go_ret
    exact ⟨rfl, Below.refl _ _⟩
  by_cases g2 : 4096 < a0
  · go_enter Try.func7, Try.ntmps7
    go_wp2
    go_ret
    exact ⟨rfl, Below.refl _ _⟩
  by_cases g3 : a1 < 0
  · go_enter Try.func7, Try.ntmps7
    go_wp2
    go_ret
    exact ⟨rfl, Below.refl _ _⟩
  by_cases g4 : 3 < a1
  · go_enter Try.func7, Try.ntmps7
    go_wp2
    go_ret
    exact ⟨rfl, Below.refl _ _⟩
  by_cases g5 : 2 < a3
  · go_enter Try.func7, Try.ntmps7
    go_wp2
    go_ret
    exact ⟨rfl, Below.refl _ _⟩
  by_cases g6 : 2 < a7
  · go_enter Try.func7, Try.ntmps7
    go_wp2
    go_ret
    exact ⟨rfl, Below.refl _ _⟩
  by_cases g7 : a0 ≤ a4
  · go_enter Try.func7, Try.ntmps7
    go_wp2
    go_ret
    exact ⟨rfl, Below.refl _ _⟩
  by_cases g8 : a0 ≤ a8
  · go_enter Try.func7, Try.ntmps7
    go_wp2
    go_ret
    exact ⟨rfl, Below.refl _ _⟩
  obtain ⟨n, rfl⟩ : ∃ n : Nat, a0 = n := ⟨a0.toNat, by omega⟩
  obtain ⟨j, rfl⟩ : ∃ n : Nat, a1 = n := ⟨a1.toNat, by omega⟩
  obtain ⟨m, rfl⟩ : ∃ n : Nat, a4 = n := ⟨a4.toNat, by omega⟩
  have W2 := Lib.hid w2
  have W6 := Lib.hid w6
  clear w0 w1 w2 w3 w4 w6 w7 w8
  go_enter Try.func7, Try.ntmps7
  go_wp2_with fail
  refine (mark17 n (by omega) w).mono ?_
  rintro e w1 ⟨rfl, hM⟩
  have HM := Lib.hid hM
  clear hM
  go_wp2_with fail
  refine (new18 w1).mono ?_
  rintro e w2 ⟨rfl, rfl⟩
  go_wp2_with fail
  refine (kind20 _ _ W2.out).mono ?_
  rintro e w2 ⟨rfl, rfl⟩
  go_wp2_with fail
  refine (side19 ⟨kindOf a2, a3, m, a5⟩ _).mono ?_
  rintro e w2 ⟨rfl, rfl⟩
  unfold Sd.cells
  dsimp only
  go_wp2_with fail
  have hS0 := St.start HM.out ⟨kindOf a2, a3, m, a5⟩ _ _ _ _ rfl
  have HS := Lib.hid hS0
  clear hS0
  go_loopw [24] (fun i wr => ∃ k : Nat, k ≤ 4 ∧ i = .int .i64 k ∧ St w n w1.heap.size (w1.heap.size + 1 + 1) ⟨kindOf a2, a3, m, a5⟩ (fk ⟨kindOf a2, a3, m, a5⟩ k) wr) (fun i _ => 4 - (intOf i).toNat)
  case atStart => exact ⟨0, by omega, rfl, HS.out⟩
  case round =>
    clear HS
    obtain ⟨k, hk, rfl, hI⟩ := hrel
    have HI := Lib.hid hI
    by_cases hlt : k < 4
    · have q := hI.old
      clear hI
      have q0 := q 0 (by omega)
      have q1 := q 1 (by omega)
      have q2 := q 2 (by omega)
      have q3 := q 3 (by omega)
      have q4 := q 4 (by omega)
      have q5 := q 5 (by omega)
      have q6 := q 6 (by omega)
      have q7 := q 7 (by omega)
      have q8 := q 8 (by omega)
      have q9 := q 9 (by omega)
      have q10 := q 10 (by omega)
      clear q
      simp only [Sd.at, Sd.cells] at q0 q1 q2 q3 q4 q5 q6 q7 q8 q9 q10
      go_wp2_with fail
      refine (set21 w1.heap.size k hlt ⟨kindOf a2, a3, m, a5⟩ _ wr ?_ HI.out.box).mono ?_
      · have h1 := HI.out.size
        have h2 := HI.out.ob
        omega
      rintro e w3 ⟨rfl, hK, hB⟩
      have HN := Lib.hid (HI.out.step hK hB)
      clear hK hB q0 q1 q2 q3 q4 q5 q6 q7 q8 q9 q10
      go_wp2_with fail
      go_roundw
      case rel => exact ⟨k + 1, by omega, by go_num, HN.out⟩
      case measure => simp [intOf]; omega
    · have e : k = 4 := by omega
      subst e
      clear hI
      go_wp2_with fail
      refine (kind20 _ _ W6.out).mono ?_
      rintro e w2 ⟨rfl, hw2⟩
      obtain rfl := hw2.symm
      go_wp2_with fail
      refine (side19 ⟨kindOf a6, a7, a8, a9⟩ _).mono ?_
      rintro e w2 ⟨rfl, rfl⟩
      unfold Sd.cells
      dsimp only
      go_wp2_with fail
      have hA : Af w n w1.heap.size (fk ⟨kindOf a2, a3, m, a5⟩ 4) (fun i => if i < n then ((i + 1 : Nat) : Int) else 0) wr := ⟨by have h1 := HI.out.size; have h2 := HI.out.ob; omega, HI.out.rb, HI.out.box, HI.out.rls, HI.out.below⟩
      clear HI HM
      have hA2 := (hA.alloc (.cells (Sd.mk (kindOf a6) a7 a8 a9).cells 54)).alloc (.cells (Sd.mk (kindOf a6) a7 a8 a9).cells 54)
      refine (up22 w1.heap.size w.heap.size n m j (kindOf a6) a7 a8 (kindOf a2) a3 a9 a5 (fk ⟨kindOf a2, a3, m, a5⟩ 4) (fun i => if i < n then ((i + 1 : Nat) : Int) else 0) _ (by omega) hA2.size (by have := hA2.size; have := hA2.rb; omega) (by omega) (by omega) (by have := hA2.rb; omega) hA2.box hA2.rls (by simp [fk]; omega)).mono ?_
      rintro e w4 ⟨rfl, hU⟩
      have hA3 : Af w n w1.heap.size (upd (fk ⟨kindOf a2, a3, m, a5⟩ 4) j ⟨kindOf a6, a7, a8, a9⟩) (fun i => if dropB ⟨kindOf a2, a3, m, a5⟩ ⟨kindOf a6, a7, a8, a9⟩ = true ∧ i = m then 0 else if i < n then ((i + 1 : Nat) : Int) else 0) w4 :=
        ⟨by have := hA2.size; have := hU.size; omega, hA2.rb, hU.box, hU.rls, hU.below _ _ (by have := hA2.rb; omega) (Nat.le_refl _) hA2.below⟩
      have HA := Lib.hid hA3
      clear hA hA2 hA3 hU
      go_upto_region 18 with fail
      go_cut [26] (fun s26 wx => s26 = .bool (dropB ⟨kindOf a2, a3, m, a5⟩ ⟨kindOf a6, a7, a8, a9⟩) ∧ wx = w4)
      case first =>
        clear HA
        go_wp2_with fail
        refine (kind20 _ _ W2.out).mono ?_
        rintro e w5 ⟨rfl, hw2⟩
        obtain rfl := hw2.symm
        clear W2 W6
        cases hk : (kindOf a2 != 0)
        · go_wp2
          go_meet
          exact ⟨by simp [dropB, hk], rfl⟩
        cases a9
        · cases hs : (a3 == 0)
          · go_wp2
            go_meet
            exact ⟨by simp [dropB, hs], rfl⟩
          cases ht : (a7 == 0)
          · go_wp2
            go_meet
            exact ⟨by simp [dropB, ht], rfl⟩
          · go_wp2
            go_meet
            exact ⟨by simp [dropB, hk, hs, ht], rfl⟩
        cases a5
        · go_wp2
          go_meet
          exact ⟨by simp [dropB], rfl⟩
        · cases hs : (a3 == 0)
          · go_wp2
            go_meet
            exact ⟨by simp [dropB, hs], rfl⟩
          cases ht : (a7 == 0)
          · go_wp2
            go_meet
            exact ⟨by simp [dropB, ht], rfl⟩
          · go_wp2
            go_meet
            exact ⟨by simp [dropB, hk, hs, ht], rfl⟩
      case rest =>
        obtain ⟨rfl, hw⟩ := hcut
        obtain rfl := hw.symm
        clear hw
        generalize hD : dropB ⟨kindOf a2, a3, m, a5⟩ ⟨kindOf a6, a7, a8, a9⟩ = d at HA ⊢
        clear hD
        go_wp2_with fail
        go_loopw [27] (fun i wq => ∃ k : Nat, k ≤ n ∧ i = .int .i64 k ∧ Af w n w1.heap.size (upd (fk ⟨kindOf a2, a3, m, a5⟩ 4) j ⟨kindOf a6, a7, a8, a9⟩) (fun i => if d = true ∧ i = m then 0 else if i < n then ((i + 1 : Nat) : Int) else 0) wq) (fun i _ => n - (intOf i).toNat)
        case atStart => exact ⟨0, by omega, rfl, HA.out⟩
        case round =>
          clear HA
          obtain ⟨k, hk, rfl, hI⟩ := hrel
          have HI := Lib.hid hI
          by_cases hlt : k < n
          · have c0 := hI.rls.d k hlt
            have c1 := hI.rls.l k hlt
            have hne : w.heap.size < wr.heap.size := by have h1 := hI.size; have h2 := hI.rb; omega
            clear hI
            rw [if_pos hlt] at c1
            cases d
            · rw [if_neg (by simp)] at c1
              go_wp2_with fail
              refine (data23 _ _).mono ?_
              rintro e w6 ⟨rfl, rfl⟩
              have HN := Lib.hid (HI.out.alloc (.cells #[.nilIface, .int .i32 ((k + 1 : Nat) : Int)] 63))
              clear HI
              go_wp2_with fail
              go_roundw
              case rel => exact ⟨k + 1, by omega, by go_num, HN.out⟩
              case measure => simp [intOf]; omega
            · by_cases hkm : k = m
              · subst hkm
                rw [if_pos ⟨rfl, rfl⟩] at c1
                go_wp2_with fail
                refine (data23 _ _).mono ?_
                rintro e w6 ⟨rfl, rfl⟩
                have HN := Lib.hid (HI.out.alloc (.cells #[.nilIface, .int .i32 0] 63))
                clear HI
                go_wp2_with fail
                go_roundw
                case rel => exact ⟨k + 1, by omega, by go_num, HN.out⟩
                case measure => simp [intOf]; omega
              · rw [if_neg (by simpa using hkm)] at c1
                go_wp2_with fail
                refine (data23 _ _).mono ?_
                rintro e w6 ⟨rfl, rfl⟩
                have HN := Lib.hid (HI.out.alloc (.cells #[.nilIface, .int .i32 ((k + 1 : Nat) : Int)] 63))
                clear HI
                go_wp2_with fail
                go_roundw
                case rel => exact ⟨k + 1, by omega, by go_num, HN.out⟩
                case measure => simp [intOf]; omega
          · clear hI
            go_wp2_with fail
            go_loop [28] (fun i => ∃ l : Nat, l ≤ 4 ∧ i = .int .i64 l) (fun i => 4 - (intOf i).toNat)
            case atStart => exact ⟨0, by omega, rfl⟩
            case round =>
              obtain ⟨l, hl, rfl⟩ := hrel
              by_cases hl4 : l < 4
              · by_cases hlj : l = j
                · subst hlj
                  go_wp2_with fail
                  refine (kind20 _ _ W6.out).mono ?_
                  rintro e w5 ⟨rfl, hw2⟩
                  obtain rfl := hw2.symm
                  go_wp2_with fail
                  refine (is24 w1.heap.size l hl4 _ _ _ _ _ _ HI.out.box (by simp [upd])).mono ?_
                  rintro e w5 ⟨rfl, hw2⟩
                  obtain rfl := hw2.symm
                  go_wp2_with fail
                  go_round
                  case rel => exact ⟨l + 1, by omega, by go_num⟩
                  case measure => simp [intOf]; omega
                · go_wp2_with fail
                  refine (kind20 _ _ W2.out).mono ?_
                  rintro e w5 ⟨rfl, hw2⟩
                  obtain rfl := hw2.symm
                  go_wp2_with fail
                  refine (is24 w1.heap.size l hl4 _ _ _ _ _ _ HI.out.box (by simp [upd, fk, hlj, hl4])).mono ?_
                  rintro e w5 ⟨rfl, hw2⟩
                  obtain rfl := hw2.symm
                  go_wp2_with fail
                  go_round
                  case rel => exact ⟨l + 1, by omega, by go_num⟩
                  case measure => simp [intOf]; omega
              · go_wp2_with fail
                go_ret
                exact ⟨rfl, HI.out.below⟩

set_option maxRecDepth 100000 in
theorem lifted (os : Os) (started : os.Started) (H : Type) (enc : TypeId × Value → H) :
    ReturnsInHanded {} Try.checked os 7 .any (Rows.fnUpdateSideExactSpec.pre6 enc Try.prog Try.f7 Rows.fnUpdateSideExactRow.domain false) (Rows.fnUpdateSideExactSpec.post enc Try.prog Try.f7 false true false false) := by
  refine returnsInHanded_of_change (C := Try.checked) own started (by kernel_rfl) Try.func7
    (ChangeSpec.witness6 (enc := enc) (C := Try.checked) false ⟨#[], #[.int .i64 0, .int .i64 0, .int .u8 0, .int .u8 0, .int .u32 0, .bool false, .int .u8 0, .int .u8 0, .int .u32 0, .bool false], []⟩ 8 (by kernel_rfl) (by kernel_rfl) (by kernel_rfl) (by kernel_rfl)) ?_
  intro W base args ds gs before hval0 hW hcnd _
  have hval : ∀ (j : Nat) t v, Try.f7.params[j]? = some t → args[j]? = some v → Value.okWide Try.prog W .any base t v := hval0
  have hW' := hW
  obtain ⟨p, q, hA0, hV, rfl, hfz, hnd⟩ := hW
  have hA : DataW.TrodAll enc Try.prog W 0 (fun _ => true) true Try.f7.params.toList args.toList ds p := hA0
  rw [Try.params7] at hA hval
  obtain ⟨v0, vs0, d0, ds0, p0, q0, hargs, rfl, rfl, h0, r0⟩ := trodAll_cons hA
  obtain ⟨v1, vs1, d1, ds1, p1, q1, rfl, rfl, rfl, h1, r1⟩ := trodAll_cons r0
  obtain ⟨v2, vs2, d2, ds2, p2, q2, rfl, rfl, rfl, h2, r2⟩ := trodAll_cons r1
  obtain ⟨v3, vs3, d3, ds3, p3, q3, rfl, rfl, rfl, h3, r3⟩ := trodAll_cons r2
  obtain ⟨v4, vs4, d4, ds4, p4, q4, rfl, rfl, rfl, h4, r4⟩ := trodAll_cons r3
  obtain ⟨v5, vs5, d5, ds5, p5, q5, rfl, rfl, rfl, h5, r5⟩ := trodAll_cons r4
  obtain ⟨v6, vs6, d6, ds6, p6, q6, rfl, rfl, rfl, h6, r6⟩ := trodAll_cons r5
  obtain ⟨v7, vs7, d7, ds7, p7, q7, rfl, rfl, rfl, h7, r7⟩ := trodAll_cons r6
  obtain ⟨v8, vs8, d8, ds8, p8, q8, rfl, rfl, rfl, h8, r8⟩ := trodAll_cons r7
  obtain ⟨v9, vs9, d9, ds9, p9, q9, rfl, rfl, rfl, h9, r9⟩ := trodAll_cons r8
  obtain ⟨rfl, rfl, rfl⟩ := trodAll_nil r9
  obtain rfl : args = #[v0, v1, v2, v3, v4, v5, v6, v7, v8, v9] := by cases args; simp_all
  obtain ⟨rfl, rfl⟩ := trodVars_none hV
  obtain ⟨a0, rfl, rfl, rfl, w0⟩ := open_int Try.underlying3 (hval 0 3 v0 rfl rfl) h0
  obtain ⟨a1, rfl, rfl, rfl, w1⟩ := open_int Try.underlying3 (hval 1 3 v1 rfl rfl) h1
  obtain ⟨a2, rfl, rfl, rfl, w2⟩ := open_int Try.underlying5 (hval 2 5 v2 rfl rfl) h2
  obtain ⟨a3, rfl, rfl, rfl, w3⟩ := open_int Try.underlying5 (hval 3 5 v3 rfl rfl) h3
  obtain ⟨a4, rfl, rfl, rfl, w4⟩ := open_int Try.underlying27 (hval 4 27 v4 rfl rfl) h4
  obtain ⟨a5, rfl, rfl, rfl⟩ := open_bool Try.underlying4 (hval 5 4 v5 rfl rfl) h5
  obtain ⟨a6, rfl, rfl, rfl, w6⟩ := open_int Try.underlying5 (hval 6 5 v6 rfl rfl) h6
  obtain ⟨a7, rfl, rfl, rfl, w7⟩ := open_int Try.underlying5 (hval 7 5 v7 rfl rfl) h7
  obtain ⟨a8, rfl, rfl, rfl, w8⟩ := open_int Try.underlying27 (hval 8 27 v8 rfl rfl) h8
  obtain ⟨a9, rfl, rfl, rfl⟩ := open_bool Try.underlying4 (hval 9 4 v9 rfl rfl) h9
  clear hA0 hval0
  refine (walk a0 a1 a2 a3 a4 a5 a6 a7 a8 a9 W w0 w1 w2 w3 w4 w6 w7 w8).mono fun e W' ⟨he, bel⟩ => ?_
  subst he
  exact ⟨_, rfl, _, _, _, [], _, [], hW', trodAll_mk1 (shut_bool Try.underlying4 _), (trodAll_cons_mk (shut_int Try.underlying3 w0) (trodAll_cons_mk (shut_int Try.underlying3 w1) (trodAll_cons_mk (shut_int Try.underlying5 w2) (trodAll_cons_mk (shut_int Try.underlying5 w3) (trodAll_cons_mk (shut_int Try.underlying27 w4) (trodAll_cons_mk (shut_bool Try.underlying4 _) (trodAll_cons_mk (shut_int Try.underlying5 w6) (trodAll_cons_mk (shut_int Try.underlying5 w7) (trodAll_cons_mk (shut_int Try.underlying27 w8) (trodAll_cons_mk (shut_bool Try.underlying4 _) trodAll_mk0)))))))))), rfl, bel.frame _, fun h => by cases h⟩

theorem q0 : (Rows.fnUpdateSideExactRow.wf (OpenSpec.ofChange Rows.fnUpdateSideExactSpec)) = true := by kernel_rfl
theorem q3 : (Try.f7.params.all (Try.pinned.checked.prog.readableRec ·)) = true := by kernel_rfl
theorem q4 : (namedTie Try.pinned.checked.prog Rows.fnUpdateSideExactRow.named Rows.fnUpdateSideExactSpec.vars) = true := by kernel_rfl
theorem q5 : ((Rows.fnUpdateSideExactRow.stops == [])) = true := by kernel_rfl
theorem q7 : ((Rows.fnUpdateSideExactRow.knobs == [])) = true := by kernel_rfl
theorem q9 : ((Rows.fnUpdateSideExactRow.inPlace == Try.pinned.checked.prog.inPlace 7)) = true := by kernel_rfl
theorem q10 : ((Rows.fnUpdateSideExactRow.unfollowed == Try.pinned.checked.prog.unfollowed 7)) = true := by kernel_rfl
theorem q11 : ((Rows.fnUpdateSideExactRow.recurses == Try.pinned.checked.prog.recurses 7)) = true := by kernel_rfl
theorem q12 : ((Rows.fnUpdateSideExactRow.named == Try.pinned.checked.prog.varsNamed 7)) = true := by kernel_rfl
theorem q13 : ((Rows.fnUpdateSideExactRow.maps == (Try.f7.params.toList ++ Rows.fnUpdateSideExactSpec.plain.varTypes Try.pinned.checked.prog).any (Try.pinned.checked.prog.mapsRec ·))) = true := by kernel_rfl
theorem q14 : ((Rows.fnUpdateSideExactRow.ifaces == (Try.f7.params.toList ++ Rows.fnUpdateSideExactSpec.plain.varTypes Try.pinned.checked.prog).any (Try.pinned.checked.prog.ifacesRec ·))) = true := by kernel_rfl
theorem q15 : ((Rows.fnUpdateSideExactRow.mapsOut == Try.pinned.checked.prog.mapsAmong Try.f7.resultTypes.toList)) = true := by kernel_rfl
theorem q16 : ((Rows.fnUpdateSideExactRow.loops == (Try.f7.params.toList ++ Rows.fnUpdateSideExactSpec.plain.varTypes Try.pinned.checked.prog).any (Try.pinned.checked.prog.loopsFrom ·))) = true := by kernel_rfl
theorem q17 : ((Rows.fnUpdateSideExactRow.wideKeys == (Try.f7.params.toList ++ Rows.fnUpdateSideExactSpec.plain.varTypes Try.pinned.checked.prog ++ Try.f7.resultTypes.toList).any (Try.pinned.checked.prog.wideKeysFrom ·))) = true := by kernel_rfl
theorem q18 : (Rows.fnUpdateSideExactSpec.vars.all (Try.pinned.checked.prog.varReadable ·)) = true := by kernel_rfl
theorem q19 : (Try.f7.resultTypes.all (fun t => Try.pinned.checked.prog.readableRec t && decide (t < Try.pinned.checked.prog.types.size))) = true := by kernel_rfl
theorem q20 : ((Rows.fnUpdateSideExactRow.ifacesOut == Try.f7.resultTypes.toList.any (Try.pinned.checked.prog.ifacesRec ·))) = true := by kernel_rfl
theorem q21 : ((Rows.fnUpdateSideExactRow.loopsOut == Try.f7.resultTypes.toList.any (Try.pinned.checked.prog.loopsFrom ·))) = true := by kernel_rfl
theorem q22 : ((Rows.fnUpdateSideExactRow.plainKeys == Try.pinned.checked.prog.plainKeys)) = true := by kernel_rfl
theorem q23 : (Rows.fnUpdateSideExactRow.shortTexts.isNone) = true := by kernel_rfl
theorem q26 : ((Rows.fnUpdateSideExactRow.lifted == Try.pinned.checked.prog.liftsFinal)) = true := by rw [g26]; kernel_rfl
theorem q27 : ((Try.pinned.checked.prog.make == some Rows.fnUpdateSideExactRow.make)) = true := by rw [g27]; kernel_rfl
theorem q28 : ((Rows.fnUpdateSideExactRow.kinds == (if Rows.fnUpdateSideExactRow.domain.isEmpty then [] else Try.f7.params.toList.map fun t => match Try.pinned.checked.prog.underlying t with | some (.int k) => some k | _ => none))) = true := by kernel_rfl
theorem q29 : ((Rows.fnUpdateSideExactRow.pinned == Rows.fnUpdateSideExactRow.pinnedBy)) = true := by kernel_rfl
theorem q30 : ((Rows.fnUpdateSideExactRow.veiled == (Try.f7.params.toList ++ Rows.fnUpdateSideExactSpec.plain.varTypes Try.pinned.checked.prog ++ Try.f7.resultTypes.toList).any (Try.pinned.checked.prog.veiledRec ·))) = true := by kernel_rfl
theorem q31 : (Rows.fnUpdateSideExactRow.veiledFits Try.pinned.checked.prog Try.f7.params.toList (Try.f7.params.toList ++ Rows.fnUpdateSideExactSpec.plain.varTypes Try.pinned.checked.prog ++ Try.f7.resultTypes.toList)) = true := by kernel_rfl
set_option maxRecDepth 100000 in
theorem closed : joinedFacts Try.pinned.checked.prog 7 Try.f7 Rows.fnUpdateSideExactSpec Rows.fnUpdateSideExactRow = true :=
  (andI (andI (andI (andI (andI (andI (andI (andI (andI (andI (andI (andI (andI (andI (andI (andI (andI (andI (andI (andI (andI (andI (andI (andI (andI (andI (andI (andI (andI (andI (andI q0 g1) g2) q3) q4) q5) g6) q7) g8) q9) q10) q11) q12) q13) q14) q15) q16) q17) q18) q19) q20) q21) q22) q23) g24) g25) q26) q27) q28) q29) q30) q31)
theorem over : Rows.fnUpdateSideExactRow.holds Try.pinned (OpenSpec.ofChange Rows.fnUpdateSideExactSpec) :=
  OpenClaim.holds_of_wide 7 Try.f7 rfl rfl rfl rfl rfl rfl rfl ⟨rfl, rfl, rfl, rfl, rfl⟩ rfl rfl rfl rfl rfl (by kernel_rfl) Try.func7 closed
    (of_decide_eq_true (by kernel_rfl)) (by unfold Func.isWrapper; first | (rw [if_pos (by decide +kernel)]; kernel_rfl) | (rw [if_neg (by decide +kernel)]; exact ⟨rfl, rfl⟩))
    (fun os started H enc _ => lifted os started H enc)

theorem proved : Rows.FnUpdateSideExactSaid := over
#print axioms proved
end Go.Proofs.Ytgkphknholechaa.fnUpdateSideExact
