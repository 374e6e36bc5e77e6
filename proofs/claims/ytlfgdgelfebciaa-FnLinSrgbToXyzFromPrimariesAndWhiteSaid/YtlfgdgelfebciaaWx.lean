/-
  The contracts of the matrix functions of css_color_spaces.go and of their exports: each result is one row of the constant matrix times the vector, in float64; nothing that was there is written. Condition: no step leaves the finite numbers (Fl.RowFin).
-/
import Derived.Test.YtlfgdgelfebciaaWm
import Derived.Lib.Hide
namespace Go.Proofs.Ytlfgdgelfebciaa
open Go.ChangeShapes Go.WideShapes Go.ChangeAt Go.RowKit
attribute [local go_sem] run_store_float
attribute [local go_sem ↓] Go.wp_at_zero Go.wp_at_succ

theorem value_any (x : Nat) (w : World) :
    Calls Try.prog 11 #[.agg #[.float .f64 x]] w fun e w' => e = .returned (.float .f64 x) ∧ Below w.heap.size w w' :=
  (value_exact x w).mono fun _ _ ⟨he, hw⟩ => ⟨he, hw ▸ (Below.refl _ _).alloc (Nat.le_refl _) _⟩

/-- three cells of floats from block B on, and nothing below B has turned -/
structure Kp (B : Nat) (W0 w' : World) : Prop where
  below : Below B W0 w'
  size : B + 3 ≤ w'.heap.size
def S3 (B a b c : Nat) (W0 w' : World) : Prop := w'.cell? ⟨B, 0, none⟩ = some (.float .f64 a) ∧ w'.cell? ⟨B + 1, 0, none⟩ = some (.float .f64 b) ∧ w'.cell? ⟨B + 1 + 1, 0, none⟩ = some (.float .f64 c) ∧ Kp B W0 w'
theorem S3.start (W : World) (a b c : Nat) (t : TypeId) :
    S3 W.heap.size a b c W (((W.alloc (.cells #[.float .f64 a] t)).alloc (.cells #[.float .f64 b] t)).alloc (.cells #[.float .f64 c] t)).drew := by
  refine ⟨by simp [go_sem], by simp [go_sem], by simp [go_sem], ?_, by simp⟩
  exact ((((Below.refl _ _).alloc (Nat.le_refl _) _).alloc (by simp) _).alloc (by simp; omega) _).drew
theorem S3.call {B a b c : Nat} {W0 w1 w2 : World} (h : S3 B a b c W0 w1) (hb : Below w1.heap.size w1 w2) : S3 B a b c W0 w2 := by
  obtain ⟨h0, h1, h2, hk⟩ := h
  have hs := hk.size
  have hz := hb.size
  refine ⟨?_, ?_, ?_, hk.below.trans (hb.mono (by omega)), by omega⟩
  · rw [hb.cell (p := ⟨B, 0, none⟩) (by show B < _; omega)]; exact h0
  · rw [hb.cell (p := ⟨B + 1, 0, none⟩) (by show B + 1 < _; omega)]; exact h1
  · rw [hb.cell (p := ⟨B + 1 + 1, 0, none⟩) (by show B + 1 + 1 < _; omega)]; exact h2

set_option maxHeartbeats 1000000 in
theorem lin_srgb_to_xyz_any (x0 x1 x2 : Nat) (w : World) (r0 : Fl.RowFin 4601100592117526705 4600113286708316951 4595670525981687698 x0 x1 x2) (r1 : Fl.RowFin 4596829147871394358 4604616886335687447 4589866425216086747 x0 x1 x2) (r2 : Fl.RowFin 4581228950558139524 4593253309717046303 4606736852038626910 x0 x1 x2) :
    Calls Try.prog 9 #[.agg #[.float .f64 x0], .agg #[.float .f64 x1], .agg #[.float .f64 x2]] w fun e w' => e = .returned (.tuple #[.agg #[.float .f64 (Fl.mrow 4601100592117526705 4600113286708316951 4595670525981687698 x0 x1 x2)], .agg #[.float .f64 (Fl.mrow 4596829147871394358 4604616886335687447 4589866425216086747 x0 x1 x2)], .agg #[.float .f64 (Fl.mrow 4581228950558139524 4593253309717046303 4606736852038626910 x0 x1 x2)]]) ∧ Below w.heap.size w w' := by
  go_enter Try.func9, Try.ntmps9
  go_wp2_with fail
  refine (mm_any _ _ _ _ _ _ _ _ _ _ _ _ _ r0 r1 r2).mono ?_
  rintro e w1 ⟨rfl, hb⟩
  obtain ⟨hc, hf⟩ := bcell hb
  have hz := hb.size
  have HB := Lib.hid hb
  clear hb r0 r1 r2
  go_wp2_with fail
  refine bodyPost_ret (v := .tuple #[.agg #[.float .f64 (Fl.mrow 4601100592117526705 4600113286708316951 4595670525981687698 x0 x1 x2)], .agg #[.float .f64 (Fl.mrow 4596829147871394358 4604616886335687447 4589866425216086747 x0 x1 x2)], .agg #[.float .f64 (Fl.mrow 4581228950558139524 4593253309717046303 4606736852038626910 x0 x1 x2)]]) ?_ rfl ⟨rfl, ?_⟩
  · simp [results, Try.results9, go_sem, hc]
  · exact ((((((((((((Below.refl _ _).alloc (Nat.le_refl _) _).alloc (by simp) _).alloc (by simp; omega) _).alloc (by simp; omega) _).alloc (by simp; omega) _).alloc (by simp; omega) _).alloc (by simp; omega) _)).trans (HB.out.mono (by simp; omega))).setCell (by simp; omega) _).setCell (by simp; omega) _).setCell (by simp; omega) _

set_option maxHeartbeats 1000000 in
theorem ZZlinSrgbToXyzB1_n011_62_any (x0 x1 x2 : Nat) (w : World) (r0 : Fl.RowFin 4601100592117526705 4600113286708316951 4595670525981687698 x0 x1 x2) (r1 : Fl.RowFin 4596829147871394358 4604616886335687447 4589866425216086747 x0 x1 x2) (r2 : Fl.RowFin 4581228950558139524 4593253309717046303 4606736852038626910 x0 x1 x2) :
    Calls Try.prog 6 #[.float .f64 x0, .float .f64 x1, .float .f64 x2] w fun e w' => e = .returned (.tuple #[.float .f64 (Fl.mrow 4601100592117526705 4600113286708316951 4595670525981687698 x0 x1 x2), .float .f64 (Fl.mrow 4596829147871394358 4604616886335687447 4589866425216086747 x0 x1 x2), .float .f64 (Fl.mrow 4581228950558139524 4593253309717046303 4606736852038626910 x0 x1 x2)]) ∧ Below w.heap.size w w' := by
  go_enter Try.func6, Try.ntmps6
  go_wp2_with (first | (go_at_call 10; refine (new_exact _ _).mono ?_; rintro e w1 ⟨rfl, rfl⟩))
  refine (lin_srgb_to_xyz_any _ _ _ _ r0 r1 r2).mono ?_
  rintro e w1 ⟨rfl, hb⟩
  have HB := Lib.hid hb
  clear hb r0 r1 r2
  go_wp2_with fail
  go_region_held3 (fun w' => w'.cell? ⟨w1.heap.size, 0, none⟩ = some (.float .f64 (Fl.mrow 4601100592117526705 4600113286708316951 4595670525981687698 x0 x1 x2)) ∧ w'.cell? ⟨w1.heap.size + 1, 0, none⟩ = some (.float .f64 (Fl.mrow 4596829147871394358 4604616886335687447 4589866425216086747 x0 x1 x2)) ∧ w'.cell? ⟨w1.heap.size + 1 + 1, 0, none⟩ = some (.float .f64 (Fl.mrow 4581228950558139524 4593253309717046303 4606736852038626910 x0 x1 x2)) ∧ Kp w1.heap.size w1 w')
    (first | exact S3.start _ _ _ _ _ | exact S3.call (by assumption) hb)
    (first | (go_at_call 11; refine (value_any _ _).mono ?_; rintro e w2 ⟨rfl, hb⟩))
  rename_i hH
  have hK := hH.2.2.2
  clear hH
  go_wp2
  go_ret3
  refine ⟨rfl, ?_⟩
  have hz := HB.out.size
  exact (((((Below.refl _ _).alloc (Nat.le_refl _) _).alloc (by simp) _).alloc (by simp; omega) _).trans (HB.out.mono (by simp; omega))).trans (hK.below.mono (by simp at hz; omega))

end Go.Proofs.Ytlfgdgelfebciaa
