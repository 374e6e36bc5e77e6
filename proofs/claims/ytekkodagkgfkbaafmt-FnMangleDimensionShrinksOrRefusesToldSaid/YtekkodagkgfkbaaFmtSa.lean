/-
  isSUnit and isMsUnit. Conditions: none beyond the shapes.
-/
import Derived.Test.YtekkodagkgfkbaaFmtRows
import Derived.WalkKit
import Derived.ProofKit
import Derived.Laws.Strings3
import Derived.Lib.Walk
import Derived.Lib.Strings
namespace Go.Proofs.YtekkodagkgfkbaaFmt
open Go.RowKit

def sUnit (u : ByteArray) : Bool := u.toList == [115] || u.toList == [83] || u.toList == [197, 191]
set_option maxRecDepth 20000 in
theorem isS7 (u : ByteArray) (w : World) : Calls Tryf.prog 7 #[.string u] w fun e w' => e = .returned (.bool (sUnit u)) ∧ w' = w := by
  unfold sUnit
  by_cases h1 : u.toList = [115]
  · go_enter Tryf.func7, Tryf.ntmps7
    go_wp2_with fail
    exact bodyPost_ret (v := .bool true) (by simp [results, Tryf.results7, go_sem]) rfl ⟨by simp [h1], rfl⟩
  by_cases h2 : u.toList = [83]
  · go_enter Tryf.func7, Tryf.ntmps7
    go_wp2_with fail
    exact bodyPost_ret (v := .bool true) (by simp [results, Tryf.results7, go_sem]) rfl ⟨by simp [h2], rfl⟩
  have e : (u.toList == [115] || u.toList == [83] || u.toList == [197, 191]) = (u.toList == [197, 191]) := by simp [h1, h2]
  rw [e]
  go_enter Tryf.func7, Tryf.ntmps7
  go_wp2_with fail
  exact bodyPost_ret (v := .bool (u.toList == [197, 191])) (by simp [results, Tryf.results7, go_sem]) rfl ⟨rfl, rfl⟩

def msUnit (u : ByteArray) : Bool := if h : 0 < u.size then (((u[0].toNat : Int) == 109 || (u[0].toNat : Int) == 77) && sUnit (u.extract 1 u.size)) else false
set_option maxRecDepth 20000 in
theorem isMs6 (u : ByteArray) (w : World) : Calls Tryf.prog 6 #[.string u] w fun e w' => e = .returned (.bool (msUnit u)) ∧ w' = w := by
  by_cases h0 : 0 < u.size
  · have e : msUnit u = (((u[0].toNat : Int) == 109 || (u[0].toNat : Int) == 77) && sUnit (u.extract 1 u.size)) := by unfold msUnit; rw [dif_pos h0]
    rw [e]
    go_enter Tryf.func6, Tryf.ntmps6
    go_wp2_with fail
    · refine (isS7 _ _).mono ?_
      rintro e wx ⟨rfl, hw⟩
      obtain rfl := hw.symm
      go_wp2_with fail
      exact bodyPost_ret (v := .bool (sUnit (u.extract 1 u.size))) (by simp [results, Tryf.results6, go_sem]) rfl ⟨by simp_all, rfl⟩
    · refine (isS7 _ _).mono ?_
      rintro e wx ⟨rfl, hw⟩
      obtain rfl := hw.symm
      go_wp2_with fail
      exact bodyPost_ret (v := .bool (sUnit (u.extract 1 u.size))) (by simp [results, Tryf.results6, go_sem]) rfl ⟨by simp_all, rfl⟩
    · exact bodyPost_ret (v := .bool false) (by simp [results, Tryf.results6, go_sem]) rfl ⟨by simp_all, rfl⟩
  · have : msUnit u = false := by unfold msUnit; rw [dif_neg h0]
    rw [this]
    go_enter Tryf.func6, Tryf.ntmps6
    go_wp2_with fail
    exact bodyPost_ret (v := .bool false) (by simp [results, Tryf.results6, go_sem]) rfl ⟨rfl, rfl⟩
end Go.Proofs.YtekkodagkgfkbaaFmt
