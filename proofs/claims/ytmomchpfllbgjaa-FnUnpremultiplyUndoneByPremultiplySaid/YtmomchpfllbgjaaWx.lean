/-
  The contracts of the matrix functions of css_color_spaces.go and of their exports: each result is one row of the constant matrix times the vector, in float64; nothing that was there is written. Condition: no step leaves the finite numbers (Fl.RowFin).
-/
import Derived.Test.YtmomchpfllbgjaaWm
import Derived.Lib.Hide
namespace Go.Proofs.Ytmomchpfllbgjaa
open Go.ChangeShapes Go.WideShapes Go.ChangeAt Go.RowKit
attribute [local go_sem] run_store_float
attribute [local go_sem ↓] Go.wp_at_zero Go.wp_at_succ

theorem value_any (x : Nat) (w : World) :
    Calls Try.prog 45 #[.agg #[.float .f64 x]] w fun e w' => e = .returned (.float .f64 x) ∧ Below w.heap.size w w' :=
  (value_exact x w).mono fun _ _ ⟨he, hw⟩ => ⟨he, hw ▸ (Below.refl _ _).alloc (Nat.le_refl _) _⟩

/-- three cells of floats from block B on, and nothing below B has turned -/
structure Kp (B : Nat) (W0 w' : World) : Prop where
  below : Below B W0 w'
  size : B + 3 ≤ w'.heap.size
def S3 (B a b c : Nat) (W0 w' : World) : Prop := w'.cell? ⟨B, 0, none⟩ = some (.float .f64 a) ∧ w'.cell? ⟨B + 1, 0, none⟩ = some (.float .f64 b) ∧ w'.cell? ⟨B + 1 + 1, 0, none⟩ = some (.float .f64 c) ∧ Kp B W0 w'
theorem S3.start (W : World) (a b c : Nat) (t : TypeId) :
    S3 W.heap.size a b c W (((W.alloc (.cells #[.float .f64 a] t)).alloc (.cells #[.float .f64 b] t)).alloc (.cells #[.float .f64 c] t)).drew := by
  refine ⟨by simp [go_sem], by simp [go_sem], by simp [go_sem], ?_, by simp⟩
  exact ((((Below.refl _ _).alloc (Nat.le_refl _) _).alloc (by simp) _).alloc (by simp; omega) _).drew
theorem S3.call {B a b c : Nat} {W0 w1 w2 : World} (h : S3 B a b c W0 w1) (hb : Below w1.heap.size w1 w2) : S3 B a b c W0 w2 := by
  obtain ⟨h0, h1, h2, hk⟩ := h
  have hs := hk.size
  have hz := hb.size
  refine ⟨?_, ?_, ?_, hk.below.trans (hb.mono (by omega)), by omega⟩
  · rw [hb.cell (p := ⟨B, 0, none⟩) (by show B < _; omega)]; exact h0
  · rw [hb.cell (p := ⟨B + 1, 0, none⟩) (by show B + 1 < _; omega)]; exact h1
  · rw [hb.cell (p := ⟨B + 1 + 1, 0, none⟩) (by show B + 1 + 1 < _; omega)]; exact h2

set_option maxHeartbeats 1000000 in
theorem unwrap_any (a b c : Nat) (w : World) :
    Calls Try.prog 47 #[.agg #[.float .f64 a], .agg #[.float .f64 b], .agg #[.float .f64 c]] w fun e w' => e = .returned (.tuple #[.float .f64 a, .float .f64 b, .float .f64 c]) ∧ Below w.heap.size w w' := by
  go_enter Try.func47, Try.ntmps47
  go_wp2_with fail
  go_region_held3 (fun w' => w'.cell? ⟨w.heap.size, 0, none⟩ = some (.float .f64 a) ∧ w'.cell? ⟨w.heap.size + 1, 0, none⟩ = some (.float .f64 b) ∧ w'.cell? ⟨w.heap.size + 1 + 1, 0, none⟩ = some (.float .f64 c) ∧ Kp w.heap.size w w')
    (first | exact S3.start _ _ _ _ _ | exact S3.call (by assumption) hb)
    (first | (go_at_call 45; refine (value_any _ _).mono ?_; rintro e w2 ⟨rfl, hb⟩))
  rename_i hH
  have hK := hH.2.2.2
  clear hH
  go_wp2
  go_ret3
  exact ⟨rfl, hK.below⟩

set_option maxHeartbeats 1000000 in
theorem d50_to_d65_any (x0 x1 x2 : Nat) (w : World) (r0 : Fl.RowFin 4606781359035228631 13805686934621605564 4589222729528858206 x0 x1 x2) (r1 : Fl.RowFin 13807206270255814006 4607227434071091789 4581722003917944388 x0 x1 x2) (r2 : Fl.RowFin 4578252168053708272 13804940185734608780 4608670254662337346 x0 x1 x2) :
    Calls Try.prog 43 #[.agg #[.float .f64 x0], .agg #[.float .f64 x1], .agg #[.float .f64 x2]] w fun e w' => e = .returned (.tuple #[.agg #[.float .f64 (Fl.mrow 4606781359035228631 13805686934621605564 4589222729528858206 x0 x1 x2)], .agg #[.float .f64 (Fl.mrow 13807206270255814006 4607227434071091789 4581722003917944388 x0 x1 x2)], .agg #[.float .f64 (Fl.mrow 4578252168053708272 13804940185734608780 4608670254662337346 x0 x1 x2)]]) ∧ Below w.heap.size w w' := by
  go_enter Try.func43, Try.ntmps43
  go_wp2_with fail
  refine (mm_any _ _ _ _ _ _ _ _ _ _ _ _ _ r0 r1 r2).mono ?_
  rintro e w1 ⟨rfl, hb⟩
  obtain ⟨hc, hf⟩ := bcell hb
  have hz := hb.size
  have HB := Lib.hid hb
  clear hb r0 r1 r2
  go_wp2_with fail
  refine bodyPost_ret (v := .tuple #[.agg #[.float .f64 (Fl.mrow 4606781359035228631 13805686934621605564 4589222729528858206 x0 x1 x2)], .agg #[.float .f64 (Fl.mrow 13807206270255814006 4607227434071091789 4581722003917944388 x0 x1 x2)], .agg #[.float .f64 (Fl.mrow 4578252168053708272 13804940185734608780 4608670254662337346 x0 x1 x2)]]) ?_ rfl ⟨rfl, ?_⟩
  · simp [results, Try.results43, go_sem, hc]
  · exact ((((((((((((Below.refl _ _).alloc (Nat.le_refl _) _).alloc (by simp) _).alloc (by simp; omega) _).alloc (by simp; omega) _).alloc (by simp; omega) _).alloc (by simp; omega) _).alloc (by simp; omega) _)).trans (HB.out.mono (by simp; omega))).setCell (by simp; omega) _).setCell (by simp; omega) _).setCell (by simp; omega) _

set_option maxHeartbeats 1000000 in
theorem ZZd50ToD65_n011_70_any (x0 x1 x2 : Nat) (w : World) (r0 : Fl.RowFin 4606781359035228631 13805686934621605564 4589222729528858206 x0 x1 x2) (r1 : Fl.RowFin 13807206270255814006 4607227434071091789 4581722003917944388 x0 x1 x2) (r2 : Fl.RowFin 4578252168053708272 13804940185734608780 4608670254662337346 x0 x1 x2) :
    Calls Try.prog 16 #[.float .f64 x0, .float .f64 x1, .float .f64 x2] w fun e w' => e = .returned (.tuple #[.float .f64 (Fl.mrow 4606781359035228631 13805686934621605564 4589222729528858206 x0 x1 x2), .float .f64 (Fl.mrow 13807206270255814006 4607227434071091789 4581722003917944388 x0 x1 x2), .float .f64 (Fl.mrow 4578252168053708272 13804940185734608780 4608670254662337346 x0 x1 x2)]) ∧ Below w.heap.size w w' := by
  go_enter Try.func16, Try.ntmps16
  go_wp2_with (first | (go_at_call 44; refine (new_exact _ _).mono ?_; rintro e w1 ⟨rfl, rfl⟩))
  refine (d50_to_d65_any _ _ _ _ r0 r1 r2).mono ?_
  rintro e w1 ⟨rfl, hb⟩
  have HB := Lib.hid hb
  clear hb r0 r1 r2
  go_wp2_with fail
  go_region_held3 (fun w' => w'.cell? ⟨w1.heap.size, 0, none⟩ = some (.float .f64 (Fl.mrow 4606781359035228631 13805686934621605564 4589222729528858206 x0 x1 x2)) ∧ w'.cell? ⟨w1.heap.size + 1, 0, none⟩ = some (.float .f64 (Fl.mrow 13807206270255814006 4607227434071091789 4581722003917944388 x0 x1 x2)) ∧ w'.cell? ⟨w1.heap.size + 1 + 1, 0, none⟩ = some (.float .f64 (Fl.mrow 4578252168053708272 13804940185734608780 4608670254662337346 x0 x1 x2)) ∧ Kp w1.heap.size w1 w')
    (first | exact S3.start _ _ _ _ _ | exact S3.call (by assumption) hb)
    (first | (go_at_call 45; refine (value_any _ _).mono ?_; rintro e w2 ⟨rfl, hb⟩))
  rename_i hH
  have hK := hH.2.2.2
  clear hH
  go_wp2
  go_ret3
  refine ⟨rfl, ?_⟩
  have hz := HB.out.size
  exact (((((Below.refl _ _).alloc (Nat.le_refl _) _).alloc (by simp) _).alloc (by simp; omega) _).trans (HB.out.mono (by simp; omega))).trans (hK.below.mono (by simp at hz; omega))

set_option maxHeartbeats 1000000 in
theorem d65_to_d50_any (x0 x1 x2 : Nat) (w : World) (r0 : Fl.RowFin 4607398275395863001 4582271206553430542 13810766325786792494 x0 x1 x2) (r1 : Fl.RowFin 4584196855874768158 4607096259775803785 13803950445789587696 x0 x1 x2) (r2 : Fl.RowFin 13799853908800311418 4579832348793622812 4604947501012614851 x0 x1 x2) :
    Calls Try.prog 51 #[.agg #[.float .f64 x0], .agg #[.float .f64 x1], .agg #[.float .f64 x2]] w fun e w' => e = .returned (.tuple #[.agg #[.float .f64 (Fl.mrow 4607398275395863001 4582271206553430542 13810766325786792494 x0 x1 x2)], .agg #[.float .f64 (Fl.mrow 4584196855874768158 4607096259775803785 13803950445789587696 x0 x1 x2)], .agg #[.float .f64 (Fl.mrow 13799853908800311418 4579832348793622812 4604947501012614851 x0 x1 x2)]]) ∧ Below w.heap.size w w' := by
  go_enter Try.func51, Try.ntmps51
  go_wp2_with fail
  refine (mm_any _ _ _ _ _ _ _ _ _ _ _ _ _ r0 r1 r2).mono ?_
  rintro e w1 ⟨rfl, hb⟩
  obtain ⟨hc, hf⟩ := bcell hb
  have hz := hb.size
  have HB := Lib.hid hb
  clear hb r0 r1 r2
  go_wp2_with fail
  refine bodyPost_ret (v := .tuple #[.agg #[.float .f64 (Fl.mrow 4607398275395863001 4582271206553430542 13810766325786792494 x0 x1 x2)], .agg #[.float .f64 (Fl.mrow 4584196855874768158 4607096259775803785 13803950445789587696 x0 x1 x2)], .agg #[.float .f64 (Fl.mrow 13799853908800311418 4579832348793622812 4604947501012614851 x0 x1 x2)]]) ?_ rfl ⟨rfl, ?_⟩
  · simp [results, Try.results51, go_sem, hc]
  · exact ((((((((((((Below.refl _ _).alloc (Nat.le_refl _) _).alloc (by simp) _).alloc (by simp; omega) _).alloc (by simp; omega) _).alloc (by simp; omega) _).alloc (by simp; omega) _).alloc (by simp; omega) _)).trans (HB.out.mono (by simp; omega))).setCell (by simp; omega) _).setCell (by simp; omega) _).setCell (by simp; omega) _

set_option maxHeartbeats 1000000 in
theorem ZZd65ToD50_n011_70_any (x0 x1 x2 : Nat) (w : World) (r0 : Fl.RowFin 4607398275395863001 4582271206553430542 13810766325786792494 x0 x1 x2) (r1 : Fl.RowFin 4584196855874768158 4607096259775803785 13803950445789587696 x0 x1 x2) (r2 : Fl.RowFin 13799853908800311418 4579832348793622812 4604947501012614851 x0 x1 x2) :
    Calls Try.prog 27 #[.float .f64 x0, .float .f64 x1, .float .f64 x2] w fun e w' => e = .returned (.tuple #[.float .f64 (Fl.mrow 4607398275395863001 4582271206553430542 13810766325786792494 x0 x1 x2), .float .f64 (Fl.mrow 4584196855874768158 4607096259775803785 13803950445789587696 x0 x1 x2), .float .f64 (Fl.mrow 13799853908800311418 4579832348793622812 4604947501012614851 x0 x1 x2)]) ∧ Below w.heap.size w w' := by
  go_enter Try.func27, Try.ntmps27
  go_wp2_with (first | (go_at_call 44; refine (new_exact _ _).mono ?_; rintro e w1 ⟨rfl, rfl⟩))
  refine (d65_to_d50_any _ _ _ _ r0 r1 r2).mono ?_
  rintro e w1 ⟨rfl, hb⟩
  have HB := Lib.hid hb
  clear hb r0 r1 r2
  go_wp2_with fail
  go_region_held3 (fun w' => w'.cell? ⟨w1.heap.size, 0, none⟩ = some (.float .f64 (Fl.mrow 4607398275395863001 4582271206553430542 13810766325786792494 x0 x1 x2)) ∧ w'.cell? ⟨w1.heap.size + 1, 0, none⟩ = some (.float .f64 (Fl.mrow 4584196855874768158 4607096259775803785 13803950445789587696 x0 x1 x2)) ∧ w'.cell? ⟨w1.heap.size + 1 + 1, 0, none⟩ = some (.float .f64 (Fl.mrow 13799853908800311418 4579832348793622812 4604947501012614851 x0 x1 x2)) ∧ Kp w1.heap.size w1 w')
    (first | exact S3.start _ _ _ _ _ | exact S3.call (by assumption) hb)
    (first | (go_at_call 45; refine (value_any _ _).mono ?_; rintro e w2 ⟨rfl, hb⟩))
  rename_i hH
  have hK := hH.2.2.2
  clear hH
  go_wp2
  go_ret3
  refine ⟨rfl, ?_⟩
  have hz := HB.out.size
  exact (((((Below.refl _ _).alloc (Nat.le_refl _) _).alloc (by simp) _).alloc (by simp; omega) _).trans (HB.out.mono (by simp; omega))).trans (hK.below.mono (by simp at hz; omega))

set_option maxHeartbeats 1000000 in
theorem xyz_to_lin_2020_any (x0 x1 x2 : Nat) (w : World) (r0 : Fl.RowFin 4610409928823119432 13823450852009809460 13821607897934212378 x0 x1 x2) (r1 : Fl.RowFin 13827552215197025300 4609958803467607422 4580202195299733041 x0 x1 x2) (r2 : Fl.RowFin 4580741564155148474 13809696752864339029 4606660930076757740 x0 x1 x2) :
    Calls Try.prog 46 #[.agg #[.float .f64 x0], .agg #[.float .f64 x1], .agg #[.float .f64 x2]] w fun e w' => e = .returned (.tuple #[.agg #[.float .f64 (Fl.mrow 4610409928823119432 13823450852009809460 13821607897934212378 x0 x1 x2)], .agg #[.float .f64 (Fl.mrow 13827552215197025300 4609958803467607422 4580202195299733041 x0 x1 x2)], .agg #[.float .f64 (Fl.mrow 4580741564155148474 13809696752864339029 4606660930076757740 x0 x1 x2)]]) ∧ Below w.heap.size w w' := by
  go_enter Try.func46, Try.ntmps46
  go_wp2_with fail
  refine (mm_any _ _ _ _ _ _ _ _ _ _ _ _ _ r0 r1 r2).mono ?_
  rintro e w1 ⟨rfl, hb⟩
  obtain ⟨hc, hf⟩ := bcell hb
  have hz := hb.size
  have HB := Lib.hid hb
  clear hb r0 r1 r2
  go_wp2_with fail
  refine bodyPost_ret (v := .tuple #[.agg #[.float .f64 (Fl.mrow 4610409928823119432 13823450852009809460 13821607897934212378 x0 x1 x2)], .agg #[.float .f64 (Fl.mrow 13827552215197025300 4609958803467607422 4580202195299733041 x0 x1 x2)], .agg #[.float .f64 (Fl.mrow 4580741564155148474 13809696752864339029 4606660930076757740 x0 x1 x2)]]) ?_ rfl ⟨rfl, ?_⟩
  · simp [results, Try.results46, go_sem, hc]
  · exact ((((((((((((Below.refl _ _).alloc (Nat.le_refl _) _).alloc (by simp) _).alloc (by simp; omega) _).alloc (by simp; omega) _).alloc (by simp; omega) _).alloc (by simp; omega) _).alloc (by simp; omega) _)).trans (HB.out.mono (by simp; omega))).setCell (by simp; omega) _).setCell (by simp; omega) _).setCell (by simp; omega) _

set_option maxHeartbeats 1000000 in
theorem ZZxyzToLin2020_n011_70_any (x0 x1 x2 : Nat) (w : World) (r0 : Fl.RowFin 4610409928823119432 13823450852009809460 13821607897934212378 x0 x1 x2) (r1 : Fl.RowFin 13827552215197025300 4609958803467607422 4580202195299733041 x0 x1 x2) (r2 : Fl.RowFin 4580741564155148474 13809696752864339029 4606660930076757740 x0 x1 x2) :
    Calls Try.prog 19 #[.float .f64 x0, .float .f64 x1, .float .f64 x2] w fun e w' => e = .returned (.tuple #[.float .f64 (Fl.mrow 4610409928823119432 13823450852009809460 13821607897934212378 x0 x1 x2), .float .f64 (Fl.mrow 13827552215197025300 4609958803467607422 4580202195299733041 x0 x1 x2), .float .f64 (Fl.mrow 4580741564155148474 13809696752864339029 4606660930076757740 x0 x1 x2)]) ∧ Below w.heap.size w w' := by
  go_enter Try.func19, Try.ntmps19
  go_wp2_with (first | (go_at_call 44; refine (new_exact _ _).mono ?_; rintro e w1 ⟨rfl, rfl⟩))
  refine (xyz_to_lin_2020_any _ _ _ _ r0 r1 r2).mono ?_
  rintro e w1 ⟨rfl, hb⟩
  have HB := Lib.hid hb
  clear hb r0 r1 r2
  go_wp2_with fail
  go_region_held3 (fun w' => w'.cell? ⟨w1.heap.size, 0, none⟩ = some (.float .f64 (Fl.mrow 4610409928823119432 13823450852009809460 13821607897934212378 x0 x1 x2)) ∧ w'.cell? ⟨w1.heap.size + 1, 0, none⟩ = some (.float .f64 (Fl.mrow 13827552215197025300 4609958803467607422 4580202195299733041 x0 x1 x2)) ∧ w'.cell? ⟨w1.heap.size + 1 + 1, 0, none⟩ = some (.float .f64 (Fl.mrow 4580741564155148474 13809696752864339029 4606660930076757740 x0 x1 x2)) ∧ Kp w1.heap.size w1 w')
    (first | exact S3.start _ _ _ _ _ | exact S3.call (by assumption) hb)
    (first | (go_at_call 45; refine (value_any _ _).mono ?_; rintro e w2 ⟨rfl, hb⟩))
  rename_i hH
  have hK := hH.2.2.2
  clear hH
  go_wp2
  go_ret3
  refine ⟨rfl, ?_⟩
  have hz := HB.out.size
  exact (((((Below.refl _ _).alloc (Nat.le_refl _) _).alloc (by simp) _).alloc (by simp; omega) _).trans (HB.out.mono (by simp; omega))).trans (hK.below.mono (by simp at hz; omega))

set_option maxHeartbeats 1000000 in
theorem lin_2020_to_xyz_any (x0 x1 x2 : Nat) (w : World) (r0 : Fl.RowFin 4603912427603237084 4594378393355354008 4595252598665090074 x0 x1 x2) (r1 : Fl.RowFin 4598404006225602290 4604282083269777021 4588707099058069666 x0 x1 x2) (r2 : Fl.RowFin 0 4583748624285553972 4607457071083198894 x0 x1 x2) :
    Calls Try.prog 52 #[.agg #[.float .f64 x0], .agg #[.float .f64 x1], .agg #[.float .f64 x2]] w fun e w' => e = .returned (.tuple #[.agg #[.float .f64 (Fl.mrow 4603912427603237084 4594378393355354008 4595252598665090074 x0 x1 x2)], .agg #[.float .f64 (Fl.mrow 4598404006225602290 4604282083269777021 4588707099058069666 x0 x1 x2)], .agg #[.float .f64 (Fl.mrow 0 4583748624285553972 4607457071083198894 x0 x1 x2)]]) ∧ Below w.heap.size w w' := by
  go_enter Try.func52, Try.ntmps52
  go_wp2_with fail
  refine (mm_any _ _ _ _ _ _ _ _ _ _ _ _ _ r0 r1 r2).mono ?_
  rintro e w1 ⟨rfl, hb⟩
  obtain ⟨hc, hf⟩ := bcell hb
  have hz := hb.size
  have HB := Lib.hid hb
  clear hb r0 r1 r2
  go_wp2_with fail
  refine bodyPost_ret (v := .tuple #[.agg #[.float .f64 (Fl.mrow 4603912427603237084 4594378393355354008 4595252598665090074 x0 x1 x2)], .agg #[.float .f64 (Fl.mrow 4598404006225602290 4604282083269777021 4588707099058069666 x0 x1 x2)], .agg #[.float .f64 (Fl.mrow 0 4583748624285553972 4607457071083198894 x0 x1 x2)]]) ?_ rfl ⟨rfl, ?_⟩
  · simp [results, Try.results52, go_sem, hc]
  · exact ((((((((((((Below.refl _ _).alloc (Nat.le_refl _) _).alloc (by simp) _).alloc (by simp; omega) _).alloc (by simp; omega) _).alloc (by simp; omega) _).alloc (by simp; omega) _).alloc (by simp; omega) _)).trans (HB.out.mono (by simp; omega))).setCell (by simp; omega) _).setCell (by simp; omega) _).setCell (by simp; omega) _

set_option maxHeartbeats 1000000 in
theorem ZZlin2020ToXyz_n011_70_any (x0 x1 x2 : Nat) (w : World) (r0 : Fl.RowFin 4603912427603237084 4594378393355354008 4595252598665090074 x0 x1 x2) (r1 : Fl.RowFin 4598404006225602290 4604282083269777021 4588707099058069666 x0 x1 x2) (r2 : Fl.RowFin 0 4583748624285553972 4607457071083198894 x0 x1 x2) :
    Calls Try.prog 28 #[.float .f64 x0, .float .f64 x1, .float .f64 x2] w fun e w' => e = .returned (.tuple #[.float .f64 (Fl.mrow 4603912427603237084 4594378393355354008 4595252598665090074 x0 x1 x2), .float .f64 (Fl.mrow 4598404006225602290 4604282083269777021 4588707099058069666 x0 x1 x2), .float .f64 (Fl.mrow 0 4583748624285553972 4607457071083198894 x0 x1 x2)]) ∧ Below w.heap.size w w' := by
  go_enter Try.func28, Try.ntmps28
  go_wp2_with (first | (go_at_call 44; refine (new_exact _ _).mono ?_; rintro e w1 ⟨rfl, rfl⟩))
  refine (lin_2020_to_xyz_any _ _ _ _ r0 r1 r2).mono ?_
  rintro e w1 ⟨rfl, hb⟩
  have HB := Lib.hid hb
  clear hb r0 r1 r2
  go_wp2_with fail
  go_region_held3 (fun w' => w'.cell? ⟨w1.heap.size, 0, none⟩ = some (.float .f64 (Fl.mrow 4603912427603237084 4594378393355354008 4595252598665090074 x0 x1 x2)) ∧ w'.cell? ⟨w1.heap.size + 1, 0, none⟩ = some (.float .f64 (Fl.mrow 4598404006225602290 4604282083269777021 4588707099058069666 x0 x1 x2)) ∧ w'.cell? ⟨w1.heap.size + 1 + 1, 0, none⟩ = some (.float .f64 (Fl.mrow 0 4583748624285553972 4607457071083198894 x0 x1 x2)) ∧ Kp w1.heap.size w1 w')
    (first | exact S3.start _ _ _ _ _ | exact S3.call (by assumption) hb)
    (first | (go_at_call 45; refine (value_any _ _).mono ?_; rintro e w2 ⟨rfl, hb⟩))
  rename_i hH
  have hK := hH.2.2.2
  clear hH
  go_wp2
  go_ret3
  refine ⟨rfl, ?_⟩
  have hz := HB.out.size
  exact (((((Below.refl _ _).alloc (Nat.le_refl _) _).alloc (by simp) _).alloc (by simp; omega) _).trans (HB.out.mono (by simp; omega))).trans (hK.below.mono (by simp at hz; omega))

set_option maxHeartbeats 1000000 in
theorem lin_prophoto_to_xyz_any (x0 x1 x2 : Nat) (w : World) (r0 : Fl.RowFin 4605360807233314590 4594038603377978885 4584678738446791632 x0 x1 x2) (r1 : Fl.RowFin 4598861048020904497 4604586933246227991 4545948571150199221 x0 x1 x2) (r2 : Fl.RowFin 0 0 4605607101106091995 x0 x1 x2) :
    Calls Try.prog 48 #[.agg #[.float .f64 x0], .agg #[.float .f64 x1], .agg #[.float .f64 x2]] w fun e w' => e = .returned (.tuple #[.agg #[.float .f64 (Fl.mrow 4605360807233314590 4594038603377978885 4584678738446791632 x0 x1 x2)], .agg #[.float .f64 (Fl.mrow 4598861048020904497 4604586933246227991 4545948571150199221 x0 x1 x2)], .agg #[.float .f64 (Fl.mrow 0 0 4605607101106091995 x0 x1 x2)]]) ∧ Below w.heap.size w w' := by
  go_enter Try.func48, Try.ntmps48
  go_wp2_with fail
  refine (mm_any _ _ _ _ _ _ _ _ _ _ _ _ _ r0 r1 r2).mono ?_
  rintro e w1 ⟨rfl, hb⟩
  obtain ⟨hc, hf⟩ := bcell hb
  have hz := hb.size
  have HB := Lib.hid hb
  clear hb r0 r1 r2
  go_wp2_with fail
  refine bodyPost_ret (v := .tuple #[.agg #[.float .f64 (Fl.mrow 4605360807233314590 4594038603377978885 4584678738446791632 x0 x1 x2)], .agg #[.float .f64 (Fl.mrow 4598861048020904497 4604586933246227991 4545948571150199221 x0 x1 x2)], .agg #[.float .f64 (Fl.mrow 0 0 4605607101106091995 x0 x1 x2)]]) ?_ rfl ⟨rfl, ?_⟩
  · simp [results, Try.results48, go_sem, hc]
  · exact ((((((((((((Below.refl _ _).alloc (Nat.le_refl _) _).alloc (by simp) _).alloc (by simp; omega) _).alloc (by simp; omega) _).alloc (by simp; omega) _).alloc (by simp; omega) _).alloc (by simp; omega) _)).trans (HB.out.mono (by simp; omega))).setCell (by simp; omega) _).setCell (by simp; omega) _).setCell (by simp; omega) _

set_option maxHeartbeats 1000000 in
theorem ZZlinProphotoToXyz_n011_83_any (x0 x1 x2 : Nat) (w : World) (r0 : Fl.RowFin 4605360807233314590 4594038603377978885 4584678738446791632 x0 x1 x2) (r1 : Fl.RowFin 4598861048020904497 4604586933246227991 4545948571150199221 x0 x1 x2) (r2 : Fl.RowFin 0 0 4605607101106091995 x0 x1 x2) :
    Calls Try.prog 21 #[.float .f64 x0, .float .f64 x1, .float .f64 x2] w fun e w' => e = .returned (.tuple #[.float .f64 (Fl.mrow 4605360807233314590 4594038603377978885 4584678738446791632 x0 x1 x2), .float .f64 (Fl.mrow 4598861048020904497 4604586933246227991 4545948571150199221 x0 x1 x2), .float .f64 (Fl.mrow 0 0 4605607101106091995 x0 x1 x2)]) ∧ Below w.heap.size w w' := by
  go_enter Try.func21, Try.ntmps21
  go_wp2_with (first | (go_at_call 44; refine (new_exact _ _).mono ?_; rintro e w1 ⟨rfl, rfl⟩))
  refine (lin_prophoto_to_xyz_any _ _ _ _ r0 r1 r2).mono ?_
  rintro e w1 ⟨rfl, hb⟩
  have HB := Lib.hid hb
  clear hb r0 r1 r2
  go_wp2_with fail
  refine (unwrap_any _ _ _ _).mono ?_
  rintro e w2 ⟨rfl, hb2⟩
  go_wp2_with fail
  go_ret3
  refine ⟨rfl, ?_⟩
  have hz := HB.out.size
  exact (((((Below.refl _ _).alloc (Nat.le_refl _) _).alloc (by simp) _).alloc (by simp; omega) _).trans (HB.out.mono (by simp; omega))).trans (hb2.mono (by simp at hz; omega))

set_option maxHeartbeats 1000000 in
theorem xyz_to_lin_prophoto_any (x0 x1 x2 : Nat) (w : World) (r0 : Fl.RowFin 4608739758926428405 13821647778546615692 13810898049774936208 x0 x1 x2) (r1 : Fl.RowFin 13826452779721249017 4609471295584413373 4581576329749283875 x0 x1 x2) (r2 : Fl.RowFin 0 0 4608137035759571601 x0 x1 x2) :
    Calls Try.prog 53 #[.agg #[.float .f64 x0], .agg #[.float .f64 x1], .agg #[.float .f64 x2]] w fun e w' => e = .returned (.tuple #[.agg #[.float .f64 (Fl.mrow 4608739758926428405 13821647778546615692 13810898049774936208 x0 x1 x2)], .agg #[.float .f64 (Fl.mrow 13826452779721249017 4609471295584413373 4581576329749283875 x0 x1 x2)], .agg #[.float .f64 (Fl.mrow 0 0 4608137035759571601 x0 x1 x2)]]) ∧ Below w.heap.size w w' := by
  go_enter Try.func53, Try.ntmps53
  go_wp2_with fail
  refine (mm_any _ _ _ _ _ _ _ _ _ _ _ _ _ r0 r1 r2).mono ?_
  rintro e w1 ⟨rfl, hb⟩
  obtain ⟨hc, hf⟩ := bcell hb
  have hz := hb.size
  have HB := Lib.hid hb
  clear hb r0 r1 r2
  go_wp2_with fail
  refine bodyPost_ret (v := .tuple #[.agg #[.float .f64 (Fl.mrow 4608739758926428405 13821647778546615692 13810898049774936208 x0 x1 x2)], .agg #[.float .f64 (Fl.mrow 13826452779721249017 4609471295584413373 4581576329749283875 x0 x1 x2)], .agg #[.float .f64 (Fl.mrow 0 0 4608137035759571601 x0 x1 x2)]]) ?_ rfl ⟨rfl, ?_⟩
  · simp [results, Try.results53, go_sem, hc]
  · exact ((((((((((((Below.refl _ _).alloc (Nat.le_refl _) _).alloc (by simp) _).alloc (by simp; omega) _).alloc (by simp; omega) _).alloc (by simp; omega) _).alloc (by simp; omega) _).alloc (by simp; omega) _)).trans (HB.out.mono (by simp; omega))).setCell (by simp; omega) _).setCell (by simp; omega) _).setCell (by simp; omega) _

set_option maxHeartbeats 1000000 in
theorem ZZxyzToLinProphoto_n011_83_any (x0 x1 x2 : Nat) (w : World) (r0 : Fl.RowFin 4608739758926428405 13821647778546615692 13810898049774936208 x0 x1 x2) (r1 : Fl.RowFin 13826452779721249017 4609471295584413373 4581576329749283875 x0 x1 x2) (r2 : Fl.RowFin 0 0 4608137035759571601 x0 x1 x2) :
    Calls Try.prog 29 #[.float .f64 x0, .float .f64 x1, .float .f64 x2] w fun e w' => e = .returned (.tuple #[.float .f64 (Fl.mrow 4608739758926428405 13821647778546615692 13810898049774936208 x0 x1 x2), .float .f64 (Fl.mrow 13826452779721249017 4609471295584413373 4581576329749283875 x0 x1 x2), .float .f64 (Fl.mrow 0 0 4608137035759571601 x0 x1 x2)]) ∧ Below w.heap.size w w' := by
  go_enter Try.func29, Try.ntmps29
  go_wp2_with (first | (go_at_call 44; refine (new_exact _ _).mono ?_; rintro e w1 ⟨rfl, rfl⟩))
  refine (xyz_to_lin_prophoto_any _ _ _ _ r0 r1 r2).mono ?_
  rintro e w1 ⟨rfl, hb⟩
  have HB := Lib.hid hb
  clear hb r0 r1 r2
  go_wp2_with fail
  refine (unwrap_any _ _ _ _).mono ?_
  rintro e w2 ⟨rfl, hb2⟩
  go_wp2_with fail
  go_ret3
  refine ⟨rfl, ?_⟩
  have hz := HB.out.size
  exact (((((Below.refl _ _).alloc (Nat.le_refl _) _).alloc (by simp) _).alloc (by simp; omega) _).trans (HB.out.mono (by simp; omega))).trans (hb2.mono (by simp at hz; omega))

set_option maxHeartbeats 1000000 in
theorem lin_srgb_to_xyz_any (x0 x1 x2 : Nat) (w : World) (r0 : Fl.RowFin 4601100592117526705 4600113286708316951 4595670525981687698 x0 x1 x2) (r1 : Fl.RowFin 4596829147871394358 4604616886335687447 4589866425216086747 x0 x1 x2) (r2 : Fl.RowFin 4581228950558139524 4593253309717046303 4606736852038626910 x0 x1 x2) :
    Calls Try.prog 49 #[.agg #[.float .f64 x0], .agg #[.float .f64 x1], .agg #[.float .f64 x2]] w fun e w' => e = .returned (.tuple #[.agg #[.float .f64 (Fl.mrow 4601100592117526705 4600113286708316951 4595670525981687698 x0 x1 x2)], .agg #[.float .f64 (Fl.mrow 4596829147871394358 4604616886335687447 4589866425216086747 x0 x1 x2)], .agg #[.float .f64 (Fl.mrow 4581228950558139524 4593253309717046303 4606736852038626910 x0 x1 x2)]]) ∧ Below w.heap.size w w' := by
  go_enter Try.func49, Try.ntmps49
  go_wp2_with fail
  refine (mm_any _ _ _ _ _ _ _ _ _ _ _ _ _ r0 r1 r2).mono ?_
  rintro e w1 ⟨rfl, hb⟩
  obtain ⟨hc, hf⟩ := bcell hb
  have hz := hb.size
  have HB := Lib.hid hb
  clear hb r0 r1 r2
  go_wp2_with fail
  refine bodyPost_ret (v := .tuple #[.agg #[.float .f64 (Fl.mrow 4601100592117526705 4600113286708316951 4595670525981687698 x0 x1 x2)], .agg #[.float .f64 (Fl.mrow 4596829147871394358 4604616886335687447 4589866425216086747 x0 x1 x2)], .agg #[.float .f64 (Fl.mrow 4581228950558139524 4593253309717046303 4606736852038626910 x0 x1 x2)]]) ?_ rfl ⟨rfl, ?_⟩
  · simp [results, Try.results49, go_sem, hc]
  · exact ((((((((((((Below.refl _ _).alloc (Nat.le_refl _) _).alloc (by simp) _).alloc (by simp; omega) _).alloc (by simp; omega) _).alloc (by simp; omega) _).alloc (by simp; omega) _).alloc (by simp; omega) _)).trans (HB.out.mono (by simp; omega))).setCell (by simp; omega) _).setCell (by simp; omega) _).setCell (by simp; omega) _

set_option maxHeartbeats 1000000 in
theorem ZZlinSrgbToXyzB1_n011_62_any (x0 x1 x2 : Nat) (w : World) (r0 : Fl.RowFin 4601100592117526705 4600113286708316951 4595670525981687698 x0 x1 x2) (r1 : Fl.RowFin 4596829147871394358 4604616886335687447 4589866425216086747 x0 x1 x2) (r2 : Fl.RowFin 4581228950558139524 4593253309717046303 4606736852038626910 x0 x1 x2) :
    Calls Try.prog 24 #[.float .f64 x0, .float .f64 x1, .float .f64 x2] w fun e w' => e = .returned (.tuple #[.float .f64 (Fl.mrow 4601100592117526705 4600113286708316951 4595670525981687698 x0 x1 x2), .float .f64 (Fl.mrow 4596829147871394358 4604616886335687447 4589866425216086747 x0 x1 x2), .float .f64 (Fl.mrow 4581228950558139524 4593253309717046303 4606736852038626910 x0 x1 x2)]) ∧ Below w.heap.size w w' := by
  go_enter Try.func24, Try.ntmps24
  go_wp2_with (first | (go_at_call 44; refine (new_exact _ _).mono ?_; rintro e w1 ⟨rfl, rfl⟩))
  refine (lin_srgb_to_xyz_any _ _ _ _ r0 r1 r2).mono ?_
  rintro e w1 ⟨rfl, hb⟩
  have HB := Lib.hid hb
  clear hb r0 r1 r2
  go_wp2_with fail
  go_region_held3 (fun w' => w'.cell? ⟨w1.heap.size, 0, none⟩ = some (.float .f64 (Fl.mrow 4601100592117526705 4600113286708316951 4595670525981687698 x0 x1 x2)) ∧ w'.cell? ⟨w1.heap.size + 1, 0, none⟩ = some (.float .f64 (Fl.mrow 4596829147871394358 4604616886335687447 4589866425216086747 x0 x1 x2)) ∧ w'.cell? ⟨w1.heap.size + 1 + 1, 0, none⟩ = some (.float .f64 (Fl.mrow 4581228950558139524 4593253309717046303 4606736852038626910 x0 x1 x2)) ∧ Kp w1.heap.size w1 w')
    (first | exact S3.start _ _ _ _ _ | exact S3.call (by assumption) hb)
    (first | (go_at_call 45; refine (value_any _ _).mono ?_; rintro e w2 ⟨rfl, hb⟩))
  rename_i hH
  have hK := hH.2.2.2
  clear hH
  go_wp2
  go_ret3
  refine ⟨rfl, ?_⟩
  have hz := HB.out.size
  exact (((((Below.refl _ _).alloc (Nat.le_refl _) _).alloc (by simp) _).alloc (by simp; omega) _).trans (HB.out.mono (by simp; omega))).trans (hK.below.mono (by simp at hz; omega))

set_option maxHeartbeats 1000000 in
theorem xyz_to_lin_srgb_any (x0 x1 x2 : Nat) (w : World) (r0 : Fl.RowFin 4614480434311357498 13832974614333053062 13826025829709715685 x0 x1 x2) (r1 : Fl.RowFin 13830277426958423814 4611127425713396243 4586149535949532533 x0 x1 x2) (r2 : Fl.RowFin 4588177960434001517 13819889101593667727 4607438995690332369 x0 x1 x2) :
    Calls Try.prog 50 #[.agg #[.float .f64 x0], .agg #[.float .f64 x1], .agg #[.float .f64 x2]] w fun e w' => e = .returned (.tuple #[.agg #[.float .f64 (Fl.mrow 4614480434311357498 13832974614333053062 13826025829709715685 x0 x1 x2)], .agg #[.float .f64 (Fl.mrow 13830277426958423814 4611127425713396243 4586149535949532533 x0 x1 x2)], .agg #[.float .f64 (Fl.mrow 4588177960434001517 13819889101593667727 4607438995690332369 x0 x1 x2)]]) ∧ Below w.heap.size w w' := by
  go_enter Try.func50, Try.ntmps50
  go_wp2_with fail
  refine (mm_any _ _ _ _ _ _ _ _ _ _ _ _ _ r0 r1 r2).mono ?_
  rintro e w1 ⟨rfl, hb⟩
  obtain ⟨hc, hf⟩ := bcell hb
  have hz := hb.size
  have HB := Lib.hid hb
  clear hb r0 r1 r2
  go_wp2_with fail
  refine bodyPost_ret (v := .tuple #[.agg #[.float .f64 (Fl.mrow 4614480434311357498 13832974614333053062 13826025829709715685 x0 x1 x2)], .agg #[.float .f64 (Fl.mrow 13830277426958423814 4611127425713396243 4586149535949532533 x0 x1 x2)], .agg #[.float .f64 (Fl.mrow 4588177960434001517 13819889101593667727 4607438995690332369 x0 x1 x2)]]) ?_ rfl ⟨rfl, ?_⟩
  · simp [results, Try.results50, go_sem, hc]
  · exact ((((((((((((Below.refl _ _).alloc (Nat.le_refl _) _).alloc (by simp) _).alloc (by simp; omega) _).alloc (by simp; omega) _).alloc (by simp; omega) _).alloc (by simp; omega) _).alloc (by simp; omega) _)).trans (HB.out.mono (by simp; omega))).setCell (by simp; omega) _).setCell (by simp; omega) _).setCell (by simp; omega) _

set_option maxHeartbeats 1000000 in
theorem ZZxyzToLinSrgbB1_n011_62_any (x0 x1 x2 : Nat) (w : World) (r0 : Fl.RowFin 4614480434311357498 13832974614333053062 13826025829709715685 x0 x1 x2) (r1 : Fl.RowFin 13830277426958423814 4611127425713396243 4586149535949532533 x0 x1 x2) (r2 : Fl.RowFin 4588177960434001517 13819889101593667727 4607438995690332369 x0 x1 x2) :
    Calls Try.prog 25 #[.float .f64 x0, .float .f64 x1, .float .f64 x2] w fun e w' => e = .returned (.tuple #[.float .f64 (Fl.mrow 4614480434311357498 13832974614333053062 13826025829709715685 x0 x1 x2), .float .f64 (Fl.mrow 13830277426958423814 4611127425713396243 4586149535949532533 x0 x1 x2), .float .f64 (Fl.mrow 4588177960434001517 13819889101593667727 4607438995690332369 x0 x1 x2)]) ∧ Below w.heap.size w w' := by
  go_enter Try.func25, Try.ntmps25
  go_wp2_with (first | (go_at_call 44; refine (new_exact _ _).mono ?_; rintro e w1 ⟨rfl, rfl⟩))
  refine (xyz_to_lin_srgb_any _ _ _ _ r0 r1 r2).mono ?_
  rintro e w1 ⟨rfl, hb⟩
  have HB := Lib.hid hb
  clear hb r0 r1 r2
  go_wp2_with fail
  go_region_held3 (fun w' => w'.cell? ⟨w1.heap.size, 0, none⟩ = some (.float .f64 (Fl.mrow 4614480434311357498 13832974614333053062 13826025829709715685 x0 x1 x2)) ∧ w'.cell? ⟨w1.heap.size + 1, 0, none⟩ = some (.float .f64 (Fl.mrow 13830277426958423814 4611127425713396243 4586149535949532533 x0 x1 x2)) ∧ w'.cell? ⟨w1.heap.size + 1 + 1, 0, none⟩ = some (.float .f64 (Fl.mrow 4588177960434001517 13819889101593667727 4607438995690332369 x0 x1 x2)) ∧ Kp w1.heap.size w1 w')
    (first | exact S3.start _ _ _ _ _ | exact S3.call (by assumption) hb)
    (first | (go_at_call 45; refine (value_any _ _).mono ?_; rintro e w2 ⟨rfl, hb⟩))
  rename_i hH
  have hK := hH.2.2.2
  clear hH
  go_wp2
  go_ret3
  refine ⟨rfl, ?_⟩
  have hz := HB.out.size
  exact (((((Below.refl _ _).alloc (Nat.le_refl _) _).alloc (by simp) _).alloc (by simp; omega) _).trans (HB.out.mono (by simp; omega))).trans (hK.below.mono (by simp at hz; omega))

set_option maxHeartbeats 1000000 in
theorem lin_a98rgb_to_xyz_any (x0 x1 x2 : Nat) (w : World) (r0 : Fl.RowFin 4603369392518808747 4595853460379267005 4595949671978890425 x0 x1 x2) (r1 : Fl.RowFin 4599028110796861136 4603826008191704300 4590089742013848929 x0 x1 x2) (r2 : Fl.RowFin 4583448480868722432 4589758089302198513 4607104394268277168 x0 x1 x2) :
    Calls Try.prog 55 #[.agg #[.float .f64 x0], .agg #[.float .f64 x1], .agg #[.float .f64 x2]] w fun e w' => e = .returned (.tuple #[.agg #[.float .f64 (Fl.mrow 4603369392518808747 4595853460379267005 4595949671978890425 x0 x1 x2)], .agg #[.float .f64 (Fl.mrow 4599028110796861136 4603826008191704300 4590089742013848929 x0 x1 x2)], .agg #[.float .f64 (Fl.mrow 4583448480868722432 4589758089302198513 4607104394268277168 x0 x1 x2)]]) ∧ Below w.heap.size w w' := by
  go_enter Try.func55, Try.ntmps55
  go_wp2_with fail
  refine (mm_any _ _ _ _ _ _ _ _ _ _ _ _ _ r0 r1 r2).mono ?_
  rintro e w1 ⟨rfl, hb⟩
  obtain ⟨hc, hf⟩ := bcell hb
  have hz := hb.size
  have HB := Lib.hid hb
  clear hb r0 r1 r2
  go_wp2_with fail
  refine bodyPost_ret (v := .tuple #[.agg #[.float .f64 (Fl.mrow 4603369392518808747 4595853460379267005 4595949671978890425 x0 x1 x2)], .agg #[.float .f64 (Fl.mrow 4599028110796861136 4603826008191704300 4590089742013848929 x0 x1 x2)], .agg #[.float .f64 (Fl.mrow 4583448480868722432 4589758089302198513 4607104394268277168 x0 x1 x2)]]) ?_ rfl ⟨rfl, ?_⟩
  · simp [results, Try.results55, go_sem, hc]
  · exact ((((((((((((Below.refl _ _).alloc (Nat.le_refl _) _).alloc (by simp) _).alloc (by simp; omega) _).alloc (by simp; omega) _).alloc (by simp; omega) _).alloc (by simp; omega) _).alloc (by simp; omega) _)).trans (HB.out.mono (by simp; omega))).setCell (by simp; omega) _).setCell (by simp; omega) _).setCell (by simp; omega) _

set_option maxHeartbeats 1000000 in
theorem ZZlinA98rgbToXyz_n011_293_any (x0 x1 x2 : Nat) (w : World) (r0 : Fl.RowFin 4603369392518808747 4595853460379267005 4595949671978890425 x0 x1 x2) (r1 : Fl.RowFin 4599028110796861136 4603826008191704300 4590089742013848929 x0 x1 x2) (r2 : Fl.RowFin 4583448480868722432 4589758089302198513 4607104394268277168 x0 x1 x2) :
    Calls Try.prog 32 #[.float .f64 x0, .float .f64 x1, .float .f64 x2] w fun e w' => e = .returned (.tuple #[.float .f64 (Fl.mrow 4603369392518808747 4595853460379267005 4595949671978890425 x0 x1 x2), .float .f64 (Fl.mrow 4599028110796861136 4603826008191704300 4590089742013848929 x0 x1 x2), .float .f64 (Fl.mrow 4583448480868722432 4589758089302198513 4607104394268277168 x0 x1 x2)]) ∧ Below w.heap.size w w' := by
  go_enter Try.func32, Try.ntmps32
  go_wp2_with (first | (go_at_call 44; refine (new_exact _ _).mono ?_; rintro e w1 ⟨rfl, rfl⟩))
  refine (lin_a98rgb_to_xyz_any _ _ _ _ r0 r1 r2).mono ?_
  rintro e w1 ⟨rfl, hb⟩
  have HB := Lib.hid hb
  clear hb r0 r1 r2
  go_wp2_with fail
  go_region_held3 (fun w' => w'.cell? ⟨w1.heap.size, 0, none⟩ = some (.float .f64 (Fl.mrow 4603369392518808747 4595853460379267005 4595949671978890425 x0 x1 x2)) ∧ w'.cell? ⟨w1.heap.size + 1, 0, none⟩ = some (.float .f64 (Fl.mrow 4599028110796861136 4603826008191704300 4590089742013848929 x0 x1 x2)) ∧ w'.cell? ⟨w1.heap.size + 1 + 1, 0, none⟩ = some (.float .f64 (Fl.mrow 4583448480868722432 4589758089302198513 4607104394268277168 x0 x1 x2)) ∧ Kp w1.heap.size w1 w')
    (first | exact S3.start _ _ _ _ _ | exact S3.call (by assumption) hb)
    (first | (go_at_call 45; refine (value_any _ _).mono ?_; rintro e w2 ⟨rfl, hb⟩))
  rename_i hH
  have hK := hH.2.2.2
  clear hH
  go_wp2
  go_ret3
  refine ⟨rfl, ?_⟩
  have hz := HB.out.size
  exact (((((Below.refl _ _).alloc (Nat.le_refl _) _).alloc (by simp) _).alloc (by simp; omega) _).trans (HB.out.mono (by simp; omega))).trans (hK.below.mono (by simp at hz; omega))

set_option maxHeartbeats 1000000 in
theorem xyz_to_lin_a98rgb_any (x0 x1 x2 : Nat) (w : World) (r0 : Fl.RowFin 4611779666061440502 13826636386797700231 13823253784704314578 x0 x1 x2) (r1 : Fl.RowFin 13830277426958423814 4611127425713396243 4586149535949532533 x0 x1 x2) (r2 : Fl.RowFin 4578903721908372390 13816565366726681444 4607250760899102990 x0 x1 x2) :
    Calls Try.prog 56 #[.agg #[.float .f64 x0], .agg #[.float .f64 x1], .agg #[.float .f64 x2]] w fun e w' => e = .returned (.tuple #[.agg #[.float .f64 (Fl.mrow 4611779666061440502 13826636386797700231 13823253784704314578 x0 x1 x2)], .agg #[.float .f64 (Fl.mrow 13830277426958423814 4611127425713396243 4586149535949532533 x0 x1 x2)], .agg #[.float .f64 (Fl.mrow 4578903721908372390 13816565366726681444 4607250760899102990 x0 x1 x2)]]) ∧ Below w.heap.size w w' := by
  go_enter Try.func56, Try.ntmps56
  go_wp2_with fail
  refine (mm_any _ _ _ _ _ _ _ _ _ _ _ _ _ r0 r1 r2).mono ?_
  rintro e w1 ⟨rfl, hb⟩
  obtain ⟨hc, hf⟩ := bcell hb
  have hz := hb.size
  have HB := Lib.hid hb
  clear hb r0 r1 r2
  go_wp2_with fail
  refine bodyPost_ret (v := .tuple #[.agg #[.float .f64 (Fl.mrow 4611779666061440502 13826636386797700231 13823253784704314578 x0 x1 x2)], .agg #[.float .f64 (Fl.mrow 13830277426958423814 4611127425713396243 4586149535949532533 x0 x1 x2)], .agg #[.float .f64 (Fl.mrow 4578903721908372390 13816565366726681444 4607250760899102990 x0 x1 x2)]]) ?_ rfl ⟨rfl, ?_⟩
  · simp [results, Try.results56, go_sem, hc]
  · exact ((((((((((((Below.refl _ _).alloc (Nat.le_refl _) _).alloc (by simp) _).alloc (by simp; omega) _).alloc (by simp; omega) _).alloc (by simp; omega) _).alloc (by simp; omega) _).alloc (by simp; omega) _)).trans (HB.out.mono (by simp; omega))).setCell (by simp; omega) _).setCell (by simp; omega) _).setCell (by simp; omega) _

set_option maxHeartbeats 1000000 in
theorem ZZxyzToLinA98rgb_n011_293_any (x0 x1 x2 : Nat) (w : World) (r0 : Fl.RowFin 4611779666061440502 13826636386797700231 13823253784704314578 x0 x1 x2) (r1 : Fl.RowFin 13830277426958423814 4611127425713396243 4586149535949532533 x0 x1 x2) (r2 : Fl.RowFin 4578903721908372390 13816565366726681444 4607250760899102990 x0 x1 x2) :
    Calls Try.prog 35 #[.float .f64 x0, .float .f64 x1, .float .f64 x2] w fun e w' => e = .returned (.tuple #[.float .f64 (Fl.mrow 4611779666061440502 13826636386797700231 13823253784704314578 x0 x1 x2), .float .f64 (Fl.mrow 13830277426958423814 4611127425713396243 4586149535949532533 x0 x1 x2), .float .f64 (Fl.mrow 4578903721908372390 13816565366726681444 4607250760899102990 x0 x1 x2)]) ∧ Below w.heap.size w w' := by
  go_enter Try.func35, Try.ntmps35
  go_wp2_with (first | (go_at_call 44; refine (new_exact _ _).mono ?_; rintro e w1 ⟨rfl, rfl⟩))
  refine (xyz_to_lin_a98rgb_any _ _ _ _ r0 r1 r2).mono ?_
  rintro e w1 ⟨rfl, hb⟩
  have HB := Lib.hid hb
  clear hb r0 r1 r2
  go_wp2_with fail
  go_region_held3 (fun w' => w'.cell? ⟨w1.heap.size, 0, none⟩ = some (.float .f64 (Fl.mrow 4611779666061440502 13826636386797700231 13823253784704314578 x0 x1 x2)) ∧ w'.cell? ⟨w1.heap.size + 1, 0, none⟩ = some (.float .f64 (Fl.mrow 13830277426958423814 4611127425713396243 4586149535949532533 x0 x1 x2)) ∧ w'.cell? ⟨w1.heap.size + 1 + 1, 0, none⟩ = some (.float .f64 (Fl.mrow 4578903721908372390 13816565366726681444 4607250760899102990 x0 x1 x2)) ∧ Kp w1.heap.size w1 w')
    (first | exact S3.start _ _ _ _ _ | exact S3.call (by assumption) hb)
    (first | (go_at_call 45; refine (value_any _ _).mono ?_; rintro e w2 ⟨rfl, hb⟩))
  rename_i hH
  have hK := hH.2.2.2
  clear hH
  go_wp2
  go_ret3
  refine ⟨rfl, ?_⟩
  have hz := HB.out.size
  exact (((((Below.refl _ _).alloc (Nat.le_refl _) _).alloc (by simp) _).alloc (by simp; omega) _).trans (HB.out.mono (by simp; omega))).trans (hK.below.mono (by simp at hz; omega))

end Go.Proofs.Ytmomchpfllbgjaa
