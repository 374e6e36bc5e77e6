/-
  The contract of the quad's making. Condition: tokens without children.
-/
import Derived.Test.YtecdhjhobjagkaaWc
import Derived.Deep.DeepCutAuto
namespace Go.Proofs.Ytecdhjhobjagkaa
open Go.ChangeShapes Go.WideShapes Go.ChangeAt Go.RowKit

theorem below_setCells {m : Nat} {w0 w : World} (h : Below m w0 w) (b : Nat) (hb : m ≤ b) : ∀ (vs : List Value) (o : Nat), Below m w0 (w.setCells b o vs) := by
  intro vs
  induction vs generalizing w with
  | nil => intro o; exact h
  | cons v r ih => intro o; rw [World.setCells]; exact ih (h.setCell hb _) _
set_option maxRecDepth 20000 in
set_option maxHeartbeats 2000000 in
theorem quad14 (x0 x1 x2 x3 : Tok) (w : World) (s0 : x0.s = 0) (s1 : x1.s = 1) (s2 : x2.s = 2) (s3 : x3.s = 3) :
    Calls Try.prog 14 #[.agg #[.int .u8 x0.k, .int .u8 x1.k, .int .u8 x2.k, .int .u8 x3.k], .agg #[.string x0.t, .string x1.t, .string x2.t, .string x3.t], .agg #[.int .u32 x0.p, .int .u32 x1.p, .int .u32 x2.p, .int .u32 x3.p], .agg #[.int .u8 x0.ws, .int .u8 x1.ws, .int .u8 x2.ws, .int .u8 x3.ws]] w fun e w' =>
      e = .returned (.agg (list28 x0 x1 x2 x3).toArray) ∧ Below w.heap.size w w' := by
  have HX := Lib.hid (show ∀ k, k < 4 → (four x0 x1 x2 x3 k).s = k by
    intro k hk
    have e : k = 0 ∨ k = 1 ∨ k = 2 ∨ k = 3 := by omega
    rcases e with rfl | rfl | rfl | rfl <;> simp [four, *])
  clear s0 s1 s2 s3
  go_enter Try.func14, Try.ntmps14
  go_wp2_with fail
  have h0 : TkQ (w.heap.size + 1 + 1 + 1 + 1 + 1) 0 (four x0 x1 x2 x3) (W6 x0 x1 x2 x3 w) := by
    refine ⟨by simp [go_sem], fun o ho => ?_, fun i o hi => by omega, fun o => by simp [go_sem]⟩
    cases hc : (W6 x0 x1 x2 x3 w).cell? ⟨w.heap.size + 1 + 1 + 1 + 1 + 1, o, none⟩ with
    | some v => exact ⟨v, rfl⟩
    | none =>
      exfalso
      simp [go_sem] at hc
      omega
  have H0 := Lib.hid (⟨⟨0, by omega, rfl, h0, Below.refl _ _⟩⟩ : LoopQ x0 x1 x2 x3 w (.int .i64 (0 : Nat)) (W6 x0 x1 x2 x3 w))
  clear h0
  go_loopw [10] (fun i wr => LoopQ x0 x1 x2 x3 w i wr) (fun i _ => 4 - (intOf i).toNat)
  case atStart => exact H0.out
  case round =>
    obtain ⟨k, hk, rfl, hT, hB⟩ := hrel.ex
    clear hrel H0
    by_cases hlt : k < 4
    · obtain ⟨c0, c1, c2, c3⟩ := W6_cells x0 x1 x2 x3 w k hlt
      have d0 : wr.cell? ⟨w.heap.size, k, none⟩ = some (.int .u8 (four x0 x1 x2 x3 k).k) := by rw [hB.cell (p := ⟨w.heap.size, k, none⟩) (by show w.heap.size < _; omega)]; exact c0
      have d1 : wr.cell? ⟨w.heap.size + 1, k, none⟩ = some (.string (four x0 x1 x2 x3 k).t) := by rw [hB.cell (p := ⟨w.heap.size + 1, k, none⟩) (by show w.heap.size + 1 < _; omega)]; exact c1
      have d2 : wr.cell? ⟨w.heap.size + 1 + 1, k, none⟩ = some (.int .u32 (four x0 x1 x2 x3 k).p) := by rw [hB.cell (p := ⟨w.heap.size + 1 + 1, k, none⟩) (by show w.heap.size + 1 + 1 < _; omega)]; exact c2
      have d3 : wr.cell? ⟨w.heap.size + 1 + 1 + 1, k, none⟩ = some (.int .u8 (four x0 x1 x2 x3 k).ws) := by rw [hB.cell (p := ⟨w.heap.size + 1 + 1 + 1, k, none⟩) (by show w.heap.size + 1 + 1 + 1 < _; omega)]; exact c3
      clear c0 c1 c2 c3
      have hN := hT.next hlt
      rw [HX.out k hlt] at hN
      have HN := Lib.hid hN
      have hBN : ∀ (o0 o1 o2 o3 o4 o5 o6 o7 : Value), Below (w.heap.size + 1 + 1 + 1 + 1 + 1) (W6 x0 x1 x2 x3 w) ((put7 (w.heap.size + 1 + 1 + 1 + 1 + 1) (k * 7) o0 o1 o2 o3 o4 o5 o6 wr).setCell ⟨w.heap.size + 1 + 1 + 1 + 1 + 1, k * 7 + 2, none⟩ o7).drew :=
        fun o0 o1 o2 o3 o4 o5 o6 o7 => ((((((((hB.setCell (Nat.le_refl _) _).setCell (Nat.le_refl _) _).setCell (Nat.le_refl _) _).setCell (Nat.le_refl _) _).setCell (Nat.le_refl _) _).setCell (Nat.le_refl _) _).setCell (Nat.le_refl _) _).setCell (Nat.le_refl _) _).drew
      have HB := Lib.hid hBN
      clear hN hBN hB
      generalize hf : four x0 x1 x2 x3 = f at *
      have e0 : ∀ w' : World, TkQ (w.heap.size + 1 + 1 + 1 + 1 + 1) k f w' → w'.cell? ⟨w.heap.size + 1 + 1 + 1 + 1 + 1, k * 7, none⟩ = some (cellAt w' ⟨w.heap.size + 1 + 1 + 1 + 1 + 1, k * 7, none⟩) := fun w' h => h.holds _ (by omega)
      have e1 : ∀ w' : World, TkQ (w.heap.size + 1 + 1 + 1 + 1 + 1) k f w' → w'.cell? ⟨w.heap.size + 1 + 1 + 1 + 1 + 1, k * 7 + 1, none⟩ = some (cellAt w' ⟨w.heap.size + 1 + 1 + 1 + 1 + 1, k * 7 + 1, none⟩) := fun w' h => h.holds _ (by omega)
      have e2 : ∀ w' : World, TkQ (w.heap.size + 1 + 1 + 1 + 1 + 1) k f w' → w'.cell? ⟨w.heap.size + 1 + 1 + 1 + 1 + 1, k * 7 + 2, none⟩ = some (cellAt w' ⟨w.heap.size + 1 + 1 + 1 + 1 + 1, k * 7 + 2, none⟩) := fun w' h => h.holds _ (by omega)
      have e3 : ∀ w' : World, TkQ (w.heap.size + 1 + 1 + 1 + 1 + 1) k f w' → w'.cell? ⟨w.heap.size + 1 + 1 + 1 + 1 + 1, k * 7 + 3, none⟩ = some (cellAt w' ⟨w.heap.size + 1 + 1 + 1 + 1 + 1, k * 7 + 3, none⟩) := fun w' h => h.holds _ (by omega)
      have e4 : ∀ w' : World, TkQ (w.heap.size + 1 + 1 + 1 + 1 + 1) k f w' → w'.cell? ⟨w.heap.size + 1 + 1 + 1 + 1 + 1, k * 7 + 4, none⟩ = some (cellAt w' ⟨w.heap.size + 1 + 1 + 1 + 1 + 1, k * 7 + 4, none⟩) := fun w' h => h.holds _ (by omega)
      have e5 : ∀ w' : World, TkQ (w.heap.size + 1 + 1 + 1 + 1 + 1) k f w' → w'.cell? ⟨w.heap.size + 1 + 1 + 1 + 1 + 1, k * 7 + 5, none⟩ = some (cellAt w' ⟨w.heap.size + 1 + 1 + 1 + 1 + 1, k * 7 + 5, none⟩) := fun w' h => h.holds _ (by omega)
      have e6 : ∀ w' : World, TkQ (w.heap.size + 1 + 1 + 1 + 1 + 1) k f w' → w'.cell? ⟨w.heap.size + 1 + 1 + 1 + 1 + 1, k * 7 + 6, none⟩ = some (cellAt w' ⟨w.heap.size + 1 + 1 + 1 + 1 + 1, k * 7 + 6, none⟩) := fun w' h => h.holds _ (by omega)
      have ez : ∀ (w' : World) (o : Nat), TkQ (w.heap.size + 1 + 1 + 1 + 1 + 1) k f w' → w'.frozen? ⟨w.heap.size + 1 + 1 + 1 + 1 + 1, o, none⟩ = false := fun w' o h => h.z o
      have b0 : (0 : Int) ≤ (k : Int) := by omega
      have b1 : (k : Int) < 4 := by omega
      have hS : (fun w' => w'.cell? ⟨w.heap.size, k, none⟩ = some (.int .u8 (f k).k) ∧ w'.cell? ⟨w.heap.size + 1, k, none⟩ = some (.string (f k).t) ∧ w'.cell? ⟨w.heap.size + 1 + 1, k, none⟩ = some (.int .u32 (f k).p) ∧ w'.cell? ⟨w.heap.size + 1 + 1 + 1, k, none⟩ = some (.int .u8 (f k).ws) ∧ TkQ (w.heap.size + 1 + 1 + 1 + 1 + 1) k f w') wr.drew := ⟨d0, d1, d2, d3, hT.drew⟩
      have HS := Lib.hid hS
      have hS2 : (fun w' => w'.cell? ⟨w.heap.size, k, none⟩ = some (.int .u8 (f k).k) ∧ w'.cell? ⟨w.heap.size + 1, k, none⟩ = some (.string (f k).t) ∧ w'.cell? ⟨w.heap.size + 1 + 1, k, none⟩ = some (.int .u32 (f k).p) ∧ w'.cell? ⟨w.heap.size + 1 + 1 + 1, k, none⟩ = some (.int .u8 (f k).ws) ∧ TkQ (w.heap.size + 1 + 1 + 1 + 1 + 1) k f w') (put7 (w.heap.size + 1 + 1 + 1 + 1 + 1) (k * 7) (.pointer none) (.string (f k).t) (.int .i32 0) (.int .u32 (f k).p) (.int .u16 0) (.int .u8 (f k).k) (.int .u8 (f k).ws) wr).drew := by
        refine ⟨?_, ?_, ?_, ?_, (((((((hT.put (k * 7) _ (Nat.le_refl _)).put (k * 7 + 1) _ (by omega)).put (k * 7 + 2) _ (by omega)).put (k * 7 + 3) _ (by omega)).put (k * 7 + 4) _ (by omega)).put (k * 7 + 5) _ (by omega)).put (k * 7 + 6) _ (by omega)).drew⟩
        all_goals
          rw [cell_drew, World.cell?_setCell_other _ _ _ _ (by simp <;> omega), World.cell?_setCell_other _ _ _ _ (by simp <;> omega), World.cell?_setCell_other _ _ _ _ (by simp <;> omega), World.cell?_setCell_other _ _ _ _ (by simp <;> omega), World.cell?_setCell_other _ _ _ _ (by simp <;> omega), World.cell?_setCell_other _ _ _ _ (by simp <;> omega), World.cell?_setCell_other _ _ _ _ (by simp <;> omega)]
          assumption
      have HS2 := Lib.hid hS2
      clear hS hS2
      go_wp2_with fail
      go_region_held3 (fun w' => w'.cell? ⟨w.heap.size, k, none⟩ = some (.int .u8 (f k).k) ∧ w'.cell? ⟨w.heap.size + 1, k, none⟩ = some (.string (f k).t) ∧ w'.cell? ⟨w.heap.size + 1 + 1, k, none⟩ = some (.int .u32 (f k).p) ∧ w'.cell? ⟨w.heap.size + 1 + 1 + 1, k, none⟩ = some (.int .u8 (f k).ws) ∧ TkQ (w.heap.size + 1 + 1 + 1 + 1 + 1) k f w')
        (first | with_reducible exact HS.out | with_reducible exact HS2.out)
        (fail)
      rename_i hH
      clear hH HS HS2
      go_wp2_with fail
      go_roundw
      case rel =>
            refine ⟨k + 1, by omega, by go_num, ?_, ?_⟩
            · rw [hf]; with_reducible exact HN.out
            · with_reducible exact HB.out _ _ _ _ _ _ _ _
      case measure => first | (simp [intOf]; done) | (simp [intOf]; omega)
    · obtain rfl : k = 4 := by omega
      have hc : wr.rangeAt (w.heap.size + 1 + 1 + 1 + 1 + 1) 0 (list28 x0 x1 x2 x3) := by
        intro j v hv
        have hj : j < 28 := by
          have := (List.getElem?_eq_some_iff.1 hv).1
          simpa [list28] using this
        have hq := hT.t (j / 7) (j % 7) (by omega) (by omega)
        rw [show j / 7 * 7 + j % 7 = j by omega] at hq
        rw [Nat.zero_add, hq, ← list28_at x0 x1 x2 x3 j hj, hv]
      have ht : wr.there (w.heap.size + 1 + 1 + 1 + 1) 0 (list28 x0 x1 x2 x3).toArray.size := by
        intro j hj
        have hj' : j < 28 := by simpa [list28] using hj
        constructor
        · rw [hB.cell (p := ⟨w.heap.size + 1 + 1 + 1 + 1, 0 + j, none⟩) (by show w.heap.size + 1 + 1 + 1 + 1 < _; omega)]
          simp [go_sem]
          omega
        · rw [hB.frozen (p := ⟨w.heap.size + 1 + 1 + 1 + 1, 0 + j, none⟩) (by show w.heap.size + 1 + 1 + 1 + 1 < _; omega)]
          simp [go_sem]
      have hbl : Below w.heap.size w wr := by
        have h6 : Below w.heap.size w (W6 x0 x1 x2 x3 w) := ((((((Below.refl _ _).alloc (Nat.le_refl _) _).alloc (by simp [go_sem]) _).alloc (by simp [go_sem]; omega) _).alloc (by simp [go_sem]; omega) _).alloc (by simp [go_sem]; omega) _).alloc (by simp [go_sem]; omega) _
        exact h6.trans (hB.mono (by omega))
      have h1 : (list28 x0 x1 x2 x3).toArray.all (·.oneCell') = true := by simp [list28, Value.oneCell']
      have hi : (Try.prog.info? 43).map (·.size) = some (list28 x0 x1 x2 x3).length := by rw [info43]; rfl
      have hi2 : (Try.prog.info? 43).map (·.size) = some (list28 x0 x1 x2 x3).toArray.size := by rw [info43]; rfl
      have HR := Lib.hid (World.rangeAt_setCells_same wr (w.heap.size + 1 + 1 + 1 + 1) 0 (list28 x0 x1 x2 x3) ht)
      have HBL := Lib.hid hbl
      have HC := Lib.hid hc
      have HT := Lib.hid ht
      have HI := Lib.hid hi
      have HI2 := Lib.hid hi2
      clear hT hB hbl HX hc ht hi hi2
      go_upto_region 7 with (fail)
      refine wp_region_lit ?_
      refine wpList_load_mid rfl 43 (.tmp 9) rfl (w.heap.size + 1 + 1 + 1 + 1 + 1) 0 rfl (list28 x0 x1 x2 x3) _ HC.out Try.underlying43 rfl HI.out ?_
      refine wpList_store_mid rfl 43 (.tmp 8) (.tmp 36) rfl (w.heap.size + 1 + 1 + 1 + 1) 0 (list28 x0 x1 x2 x3).toArray rfl rfl HT.out HI2.out h1 ?_
      have hl := run_loadVar_mid (P := Try.prog) _ (w.heap.size + 1 + 1 + 1 + 1) 0 43 (list28 x0 x1 x2 x3) _ HR.out Try.underlying43 rfl HI.out
      have HBS := Lib.hid (show Below w.heap.size w (wr.setCells (w.heap.size + 1 + 1 + 1 + 1) 0 (list28 x0 x1 x2 x3)) from below_setCells HBL.out (w.heap.size + 1 + 1 + 1 + 1) (by omega) (list28 x0 x1 x2 x3) 0)
      generalize wr.setCells (w.heap.size + 1 + 1 + 1 + 1) 0 (list28 x0 x1 x2 x3) = wz at *
      clear HC HT HI HI2 h1 HBL HR
      refine wpList_nil ?_
      go_wp2_with fail
      refine bodyPost_ret (v := .agg (list28 x0 x1 x2 x3).toArray) ?_ rfl ⟨rfl, HBS.out⟩
      simp [results, Try.results14, asAddr, Act.put, hl]
end Go.Proofs.Ytecdhjhobjagkaa
