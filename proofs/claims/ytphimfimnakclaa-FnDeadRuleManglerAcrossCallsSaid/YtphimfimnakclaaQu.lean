/-
  Equal of two plain pseudo-classes. Conditions: each theorem's own.
-/
import Derived.Test.YtphimfimnakclaaQt
import Derived.Test.YtphimfimnakclaaDr
namespace Go.Proofs.Ytphimfimnakclaa
open Go.RowKit Go.Lib
theorem as107_107 (v : Value) (w : World) : (Instr.typeAssert (.iface 107 v) 92 107 true).run Try.prog w = .ok (.tuple #[v, .bool true]) w := by kernel_rfl
theorem as98_107 (v : Value) (w : World) : (Instr.typeAssert (.iface 98 v) 92 107 true).run Try.prog w = .ok (.tuple #[.pointer none, .bool false]) w := by kernel_rfl
set_option maxHeartbeats 16000000 in
set_option maxRecDepth 100000 in
theorem e64f (a : Addr) (x v : Value) (w : World) : Calls Try.prog 64 #[.pointer (some a), .iface 98 x, v] w fun e w' => e = .returned (.bool false) ∧ Below w.heap.size w w' := by
  have ta := as98_107
  go_enter Try.func64, Try.ntmps64
  go_wp2_with fail
  go_region
  go_wp2_with fail
  go_ret
  exact ⟨rfl, (Below.refl _ _).drew⟩
set_option maxHeartbeats 16000000 in
set_option maxRecDepth 100000 in
theorem e64t (a b : Nat) (v : Value) (w : World) (ha : w.heap[a]? = some (.cells hov 110 (0, 0))) (hb : w.heap[b]? = some (.cells hov 110 (0, 0))) : Calls Try.prog 64 #[.pointer (some ⟨a, 0, none⟩), .iface 107 (.pointer (some ⟨b, 0, none⟩)), v] w fun e w' => e = .returned (.bool true) ∧ Below w.heap.size w w' := by
  have ta := as107_107
  have HA := hid ha
  have HB := hid hb
  clear ha hb
  go_enter Try.func64, Try.ntmps64
  go_wp2_with fail
  refine wp_region_rel [(some 14, .bool true), (some 15, .bool true), (some 16, .pointer (some ⟨a, 0, none⟩)), (some 17, .pointer (some ⟨a, 0, none⟩)), (some 18, .pointer (some ⟨a, 0, none⟩)), (some 19, .string hovS), (some 20, .pointer (some ⟨b, 0, none⟩)), (some 21, .pointer (some ⟨b, 0, none⟩)), (some 22, .pointer (some ⟨b, 0, none⟩)), (some 23, .string hovS), (some 24, .bool true), (some 25, .bool true), (some 26, .bool true), (some 27, .pointer (some ⟨a, 0, none⟩)), (some 28, .pointer (some ⟨a, 0, none⟩)), (some 29, .pointer (some ⟨a, 1, none⟩)), (some 30, .slice none 0 0), (some 31, .pointer (some ⟨b, 0, none⟩)), (some 32, .pointer (some ⟨b, 0, none⟩)), (some 33, .pointer (some ⟨b, 1, none⟩)), (some 34, .slice none 0 0), (some 35, v), (some 36, .bool true), (some 37, .bool true), (some 38, .bool true), (some 39, .pointer (some ⟨a, 0, none⟩)), (some 40, .pointer (some ⟨a, 0, none⟩)), (some 41, .pointer (some ⟨a, 2, none⟩)), (some 42, .bool false), (some 43, .pointer (some ⟨b, 0, none⟩)), (some 44, .pointer (some ⟨b, 0, none⟩)), (some 45, .pointer (some ⟨b, 2, none⟩)), (some 46, .bool false), (some 47, .bool true), (some 48, .bool true), (some 6, .bool true)] (fun wz => Below w.heap.size w wz) 49 (by kernel_rfl) (by kernel_rfl) (by kernel_rfl) (by kernel_rfl) ?h0 (by kernel_rfl) ?hop ?hend
  case hop =>
    intro i o az wz ho hR hd hf K hK
    have hin : i = 0 ∨ i = 1 ∨ i = 2 ∨ i = 3 ∨ i = 4 ∨ i = 5 ∨ i = 6 ∨ i = 7 ∨ i = 8 ∨ i = 9 ∨ i = 10 ∨ i = 11 ∨ i = 12 ∨ i = 13 ∨ i = 14 ∨ i = 15 ∨ i = 16 ∨ i = 17 ∨ i = 18 ∨ i = 19 ∨ i = 20 ∨ i = 21 ∨ i = 22 ∨ i = 23 ∨ i = 24 ∨ i = 25 ∨ i = 26 ∨ i = 27 ∨ i = 28 ∨ i = 29 ∨ i = 30 ∨ i = 31 ∨ i = 32 ∨ i = 33 ∨ i = 34 ∨ i = 35 := by
      rcases Nat.lt_or_ge i 36 with h | h
      · omega
      · rw [Array.getElem?_eq_none h] at ho
        cases ho
    rcases hin with rfl | rfl | rfl | rfl | rfl | rfl | rfl | rfl | rfl | rfl | rfl | rfl | rfl | rfl | rfl | rfl | rfl | rfl | rfl | rfl | rfl | rfl | rfl | rfl | rfl | rfl | rfl | rfl | rfl | rfl | rfl | rfl | rfl | rfl | rfl | rfl
    · simp only [List.getElem?_toArray, List.getElem?_cons_zero, Option.some.injEq] at ho
      subst ho
      have v0 : az.eval (.tmp 8) = .bool true := (hf 8 (by kernel_rfl)).trans (by kernel_rfl)
      have u0 : az.tmps[8]?.getD undef = .bool true := by rw [← Array.getD_eq_getD_getElem?]; exact v0
      clear v0
      clear hd hf
      replace hK : ∀ w', (fun wz => Below w.heap.size w wz) w' → K (az.put (some 14) (.bool true)) w' := hK
      have HK := Lib.hid hK
      clear hK
      show if Region.wanted _ (yielded _ az.tmps) = true then Oper.wp _ _ az wz K _ else _
      go_simp
      exact HK.out _ hR
    · simp only [List.getElem?_toArray, List.getElem?_cons_zero, List.getElem?_cons_succ, Option.some.injEq] at ho
      subst ho
      have v0 : az.eval (.tmp 14) = .bool true := hd 0 14 (by kernel_rfl) (by kernel_rfl)
      have u0 : az.tmps[14]?.getD undef = .bool true := by rw [← Array.getD_eq_getD_getElem?]; exact v0
      clear v0
      clear hd hf
      replace hK : ∀ w', (fun wz => Below w.heap.size w wz) w' → K (az.put (some 15) (.bool true)) w' := hK
      have HK := Lib.hid hK
      clear hK
      show if Region.wanted _ (yielded _ az.tmps) = true then Oper.wp _ _ az wz K _ else _
      go_simp
      exact HK.out _ hR
    · simp only [List.getElem?_toArray, List.getElem?_cons_zero, List.getElem?_cons_succ, Option.some.injEq] at ho
      subst ho
      have v0 : az.eval (.tmp 0) = .pointer (some ⟨a, 0, none⟩) := (hf 0 (by kernel_rfl)).trans (by kernel_rfl)
      have u0 : az.tmps[0]?.getD undef = .pointer (some ⟨a, 0, none⟩) := by rw [← Array.getD_eq_getD_getElem?]; exact v0
      clear v0
      have v1 : az.eval (.tmp 15) = .bool true := hd 1 15 (by kernel_rfl) (by kernel_rfl)
      have g1 := tmp_bool v1
      have u1 : az.tmps[15]?.getD undef = .bool true := by rw [← Array.getD_eq_getD_getElem?]; exact v1
      clear v1
      clear hd hf
      replace hK : ∀ w', (fun wz => Below w.heap.size w wz) w' → K (az.put (some 16) (.pointer (some ⟨a, 0, none⟩))) w' := hK
      have HK := Lib.hid hK
      clear hK
      show if Region.wanted _ (yielded _ az.tmps) = true then Oper.wp _ _ az wz K _ else _
      go_simp
      exact HK.out _ hR
    · simp only [List.getElem?_toArray, List.getElem?_cons_zero, List.getElem?_cons_succ, Option.some.injEq] at ho
      subst ho
      have v0 : az.eval (.tmp 16) = .pointer (some ⟨a, 0, none⟩) := hd 2 16 (by kernel_rfl) (by kernel_rfl)
      have u0 : az.tmps[16]?.getD undef = .pointer (some ⟨a, 0, none⟩) := by rw [← Array.getD_eq_getD_getElem?]; exact v0
      clear v0
      have v1 : az.eval (.tmp 15) = .bool true := hd 1 15 (by kernel_rfl) (by kernel_rfl)
      have g1 := tmp_bool v1
      have u1 : az.tmps[15]?.getD undef = .bool true := by rw [← Array.getD_eq_getD_getElem?]; exact v1
      clear v1
      clear hd hf
      replace hK : ∀ w', (fun wz => Below w.heap.size w wz) w' → K (az.put (some 17) (.pointer (some ⟨a, 0, none⟩))) w' := hK
      have HK := Lib.hid hK
      clear hK
      show if Region.wanted _ (yielded _ az.tmps) = true then Oper.wp _ _ az wz K _ else _
      go_simp
      exact HK.out _ hR
    · simp only [List.getElem?_toArray, List.getElem?_cons_zero, List.getElem?_cons_succ, Option.some.injEq] at ho
      subst ho
      have v0 : az.eval (.tmp 17) = .pointer (some ⟨a, 0, none⟩) := hd 3 17 (by kernel_rfl) (by kernel_rfl)
      have u0 : az.tmps[17]?.getD undef = .pointer (some ⟨a, 0, none⟩) := by rw [← Array.getD_eq_getD_getElem?]; exact v0
      clear v0
      have v1 : az.eval (.tmp 15) = .bool true := hd 1 15 (by kernel_rfl) (by kernel_rfl)
      have g1 := tmp_bool v1
      have u1 : az.tmps[15]?.getD undef = .bool true := by rw [← Array.getD_eq_getD_getElem?]; exact v1
      clear v1
      clear hd hf
      replace hK : ∀ w', (fun wz => Below w.heap.size w wz) w' → K (az.put (some 18) (.pointer (some ⟨a, 0, none⟩))) w' := hK
      have HK := Lib.hid hK
      clear hK
      show if Region.wanted _ (yielded _ az.tmps) = true then Oper.wp _ _ az wz K _ else _
      go_simp
      exact HK.out _ hR
    · simp only [List.getElem?_toArray, List.getElem?_cons_zero, List.getElem?_cons_succ, Option.some.injEq] at ho
      subst ho
      have v0 : az.eval (.tmp 18) = .pointer (some ⟨a, 0, none⟩) := hd 4 18 (by kernel_rfl) (by kernel_rfl)
      have u0 : az.tmps[18]?.getD undef = .pointer (some ⟨a, 0, none⟩) := by rw [← Array.getD_eq_getD_getElem?]; exact v0
      clear v0
      have v1 : az.eval (.tmp 15) = .bool true := hd 1 15 (by kernel_rfl) (by kernel_rfl)
      have g1 := tmp_bool v1
      have u1 : az.tmps[15]?.getD undef = .bool true := by rw [← Array.getD_eq_getD_getElem?]; exact v1
      clear v1
      clear hd hf
      replace hK : ∀ w', (fun wz => Below w.heap.size w wz) w' → K (az.put (some 19) (.string hovS)) w' := hK
      have HK := Lib.hid hK
      clear hK
      have c0 : wz.cell? ⟨a, 0, none⟩ = some (.string hovS) := (hcell ((hR.block a (heap_lt HA.out)).trans HA.out) 0 _ rfl).1
      show if Region.wanted _ (yielded _ az.tmps) = true then Oper.wp _ _ az wz K _ else _
      go_simp
      exact HK.out _ hR
    · simp only [List.getElem?_toArray, List.getElem?_cons_zero, List.getElem?_cons_succ, Option.some.injEq] at ho
      subst ho
      have v0 : az.eval (.tmp 7) = .pointer (some ⟨b, 0, none⟩) := (hf 7 (by kernel_rfl)).trans (by kernel_rfl)
      have u0 : az.tmps[7]?.getD undef = .pointer (some ⟨b, 0, none⟩) := by rw [← Array.getD_eq_getD_getElem?]; exact v0
      clear v0
      have v1 : az.eval (.tmp 15) = .bool true := hd 1 15 (by kernel_rfl) (by kernel_rfl)
      have g1 := tmp_bool v1
      have u1 : az.tmps[15]?.getD undef = .bool true := by rw [← Array.getD_eq_getD_getElem?]; exact v1
      clear v1
      clear hd hf
      replace hK : ∀ w', (fun wz => Below w.heap.size w wz) w' → K (az.put (some 20) (.pointer (some ⟨b, 0, none⟩))) w' := hK
      have HK := Lib.hid hK
      clear hK
      show if Region.wanted _ (yielded _ az.tmps) = true then Oper.wp _ _ az wz K _ else _
      go_simp
      exact HK.out _ hR
    · simp only [List.getElem?_toArray, List.getElem?_cons_zero, List.getElem?_cons_succ, Option.some.injEq] at ho
      subst ho
      have v0 : az.eval (.tmp 20) = .pointer (some ⟨b, 0, none⟩) := hd 6 20 (by kernel_rfl) (by kernel_rfl)
      have u0 : az.tmps[20]?.getD undef = .pointer (some ⟨b, 0, none⟩) := by rw [← Array.getD_eq_getD_getElem?]; exact v0
      clear v0
      have v1 : az.eval (.tmp 15) = .bool true := hd 1 15 (by kernel_rfl) (by kernel_rfl)
      have g1 := tmp_bool v1
      have u1 : az.tmps[15]?.getD undef = .bool true := by rw [← Array.getD_eq_getD_getElem?]; exact v1
      clear v1
      clear hd hf
      replace hK : ∀ w', (fun wz => Below w.heap.size w wz) w' → K (az.put (some 21) (.pointer (some ⟨b, 0, none⟩))) w' := hK
      have HK := Lib.hid hK
      clear hK
      show if Region.wanted _ (yielded _ az.tmps) = true then Oper.wp _ _ az wz K _ else _
      go_simp
      exact HK.out _ hR
    · simp only [List.getElem?_toArray, List.getElem?_cons_zero, List.getElem?_cons_succ, Option.some.injEq] at ho
      subst ho
      have v0 : az.eval (.tmp 21) = .pointer (some ⟨b, 0, none⟩) := hd 7 21 (by kernel_rfl) (by kernel_rfl)
      have u0 : az.tmps[21]?.getD undef = .pointer (some ⟨b, 0, none⟩) := by rw [← Array.getD_eq_getD_getElem?]; exact v0
      clear v0
      have v1 : az.eval (.tmp 15) = .bool true := hd 1 15 (by kernel_rfl) (by kernel_rfl)
      have g1 := tmp_bool v1
      have u1 : az.tmps[15]?.getD undef = .bool true := by rw [← Array.getD_eq_getD_getElem?]; exact v1
      clear v1
      clear hd hf
      replace hK : ∀ w', (fun wz => Below w.heap.size w wz) w' → K (az.put (some 22) (.pointer (some ⟨b, 0, none⟩))) w' := hK
      have HK := Lib.hid hK
      clear hK
      show if Region.wanted _ (yielded _ az.tmps) = true then Oper.wp _ _ az wz K _ else _
      go_simp
      exact HK.out _ hR
    · simp only [List.getElem?_toArray, List.getElem?_cons_zero, List.getElem?_cons_succ, Option.some.injEq] at ho
      subst ho
      have v0 : az.eval (.tmp 22) = .pointer (some ⟨b, 0, none⟩) := hd 8 22 (by kernel_rfl) (by kernel_rfl)
      have u0 : az.tmps[22]?.getD undef = .pointer (some ⟨b, 0, none⟩) := by rw [← Array.getD_eq_getD_getElem?]; exact v0
      clear v0
      have v1 : az.eval (.tmp 15) = .bool true := hd 1 15 (by kernel_rfl) (by kernel_rfl)
      have g1 := tmp_bool v1
      have u1 : az.tmps[15]?.getD undef = .bool true := by rw [← Array.getD_eq_getD_getElem?]; exact v1
      clear v1
      clear hd hf
      replace hK : ∀ w', (fun wz => Below w.heap.size w wz) w' → K (az.put (some 23) (.string hovS)) w' := hK
      have HK := Lib.hid hK
      clear hK
      have c0 : wz.cell? ⟨b, 0, none⟩ = some (.string hovS) := (hcell ((hR.block b (heap_lt HB.out)).trans HB.out) 0 _ rfl).1
      show if Region.wanted _ (yielded _ az.tmps) = true then Oper.wp _ _ az wz K _ else _
      go_simp
      exact HK.out _ hR
    · simp only [List.getElem?_toArray, List.getElem?_cons_zero, List.getElem?_cons_succ, Option.some.injEq] at ho
      subst ho
      have v0 : az.eval (.tmp 19) = .string hovS := hd 5 19 (by kernel_rfl) (by kernel_rfl)
      have u0 : az.tmps[19]?.getD undef = .string hovS := by rw [← Array.getD_eq_getD_getElem?]; exact v0
      clear v0
      have v1 : az.eval (.tmp 23) = .string hovS := hd 9 23 (by kernel_rfl) (by kernel_rfl)
      have u1 : az.tmps[23]?.getD undef = .string hovS := by rw [← Array.getD_eq_getD_getElem?]; exact v1
      clear v1
      have v2 : az.eval (.tmp 15) = .bool true := hd 1 15 (by kernel_rfl) (by kernel_rfl)
      have g2 := tmp_bool v2
      have u2 : az.tmps[15]?.getD undef = .bool true := by rw [← Array.getD_eq_getD_getElem?]; exact v2
      clear v2
      clear hd hf
      replace hK : ∀ w', (fun wz => Below w.heap.size w wz) w' → K (az.put (some 24) (.bool true)) w' := hK
      have HK := Lib.hid hK
      clear hK
      show if Region.wanted _ (yielded _ az.tmps) = true then Oper.wp _ _ az wz K _ else _
      go_simp
      exact HK.out _ hR
    · simp only [List.getElem?_toArray, List.getElem?_cons_zero, List.getElem?_cons_succ, Option.some.injEq] at ho
      subst ho
      have v0 : az.eval (.tmp 15) = .bool true := hd 1 15 (by kernel_rfl) (by kernel_rfl)
      have u0 : az.tmps[15]?.getD undef = .bool true := by rw [← Array.getD_eq_getD_getElem?]; exact v0
      clear v0
      have v1 : az.eval (.tmp 24) = .bool true := hd 10 24 (by kernel_rfl) (by kernel_rfl)
      have u1 : az.tmps[24]?.getD undef = .bool true := by rw [← Array.getD_eq_getD_getElem?]; exact v1
      clear v1
      clear hd hf
      replace hK : ∀ w', (fun wz => Below w.heap.size w wz) w' → K (az.put (some 25) (.bool true)) w' := hK
      have HK := Lib.hid hK
      clear hK
      show if Region.wanted _ (yielded _ az.tmps) = true then Oper.wp _ _ az wz K _ else _
      go_simp
      exact HK.out _ hR
    · simp only [List.getElem?_toArray, List.getElem?_cons_zero, List.getElem?_cons_succ, Option.some.injEq] at ho
      subst ho
      have v0 : az.eval (.tmp 25) = .bool true := hd 11 25 (by kernel_rfl) (by kernel_rfl)
      have u0 : az.tmps[25]?.getD undef = .bool true := by rw [← Array.getD_eq_getD_getElem?]; exact v0
      clear v0
      clear hd hf
      replace hK : ∀ w', (fun wz => Below w.heap.size w wz) w' → K (az.put (some 26) (.bool true)) w' := hK
      have HK := Lib.hid hK
      clear hK
      show if Region.wanted _ (yielded _ az.tmps) = true then Oper.wp _ _ az wz K _ else _
      go_simp
      exact HK.out _ hR
    · simp only [List.getElem?_toArray, List.getElem?_cons_zero, List.getElem?_cons_succ, Option.some.injEq] at ho
      subst ho
      have v0 : az.eval (.tmp 0) = .pointer (some ⟨a, 0, none⟩) := (hf 0 (by kernel_rfl)).trans (by kernel_rfl)
      have u0 : az.tmps[0]?.getD undef = .pointer (some ⟨a, 0, none⟩) := by rw [← Array.getD_eq_getD_getElem?]; exact v0
      clear v0
      have v1 : az.eval (.tmp 26) = .bool true := hd 12 26 (by kernel_rfl) (by kernel_rfl)
      have g1 := tmp_bool v1
      have u1 : az.tmps[26]?.getD undef = .bool true := by rw [← Array.getD_eq_getD_getElem?]; exact v1
      clear v1
      clear hd hf
      replace hK : ∀ w', (fun wz => Below w.heap.size w wz) w' → K (az.put (some 27) (.pointer (some ⟨a, 0, none⟩))) w' := hK
      have HK := Lib.hid hK
      clear hK
      show if Region.wanted _ (yielded _ az.tmps) = true then Oper.wp _ _ az wz K _ else _
      go_simp
      exact HK.out _ hR
    · simp only [List.getElem?_toArray, List.getElem?_cons_zero, List.getElem?_cons_succ, Option.some.injEq] at ho
      subst ho
      have v0 : az.eval (.tmp 27) = .pointer (some ⟨a, 0, none⟩) := hd 13 27 (by kernel_rfl) (by kernel_rfl)
      have u0 : az.tmps[27]?.getD undef = .pointer (some ⟨a, 0, none⟩) := by rw [← Array.getD_eq_getD_getElem?]; exact v0
      clear v0
      have v1 : az.eval (.tmp 26) = .bool true := hd 12 26 (by kernel_rfl) (by kernel_rfl)
      have g1 := tmp_bool v1
      have u1 : az.tmps[26]?.getD undef = .bool true := by rw [← Array.getD_eq_getD_getElem?]; exact v1
      clear v1
      clear hd hf
      replace hK : ∀ w', (fun wz => Below w.heap.size w wz) w' → K (az.put (some 28) (.pointer (some ⟨a, 0, none⟩))) w' := hK
      have HK := Lib.hid hK
      clear hK
      show if Region.wanted _ (yielded _ az.tmps) = true then Oper.wp _ _ az wz K _ else _
      go_simp
      exact HK.out _ hR
    · simp only [List.getElem?_toArray, List.getElem?_cons_zero, List.getElem?_cons_succ, Option.some.injEq] at ho
      subst ho
      have v0 : az.eval (.tmp 28) = .pointer (some ⟨a, 0, none⟩) := hd 14 28 (by kernel_rfl) (by kernel_rfl)
      have u0 : az.tmps[28]?.getD undef = .pointer (some ⟨a, 0, none⟩) := by rw [← Array.getD_eq_getD_getElem?]; exact v0
      clear v0
      have v1 : az.eval (.tmp 26) = .bool true := hd 12 26 (by kernel_rfl) (by kernel_rfl)
      have g1 := tmp_bool v1
      have u1 : az.tmps[26]?.getD undef = .bool true := by rw [← Array.getD_eq_getD_getElem?]; exact v1
      clear v1
      clear hd hf
      replace hK : ∀ w', (fun wz => Below w.heap.size w wz) w' → K (az.put (some 29) (.pointer (some ⟨a, 1, none⟩))) w' := hK
      have HK := Lib.hid hK
      clear hK
      show if Region.wanted _ (yielded _ az.tmps) = true then Oper.wp _ _ az wz K _ else _
      go_simp
      exact HK.out _ hR
    · simp only [List.getElem?_toArray, List.getElem?_cons_zero, List.getElem?_cons_succ, Option.some.injEq] at ho
      subst ho
      have v0 : az.eval (.tmp 29) = .pointer (some ⟨a, 1, none⟩) := hd 15 29 (by kernel_rfl) (by kernel_rfl)
      have u0 : az.tmps[29]?.getD undef = .pointer (some ⟨a, 1, none⟩) := by rw [← Array.getD_eq_getD_getElem?]; exact v0
      clear v0
      have v1 : az.eval (.tmp 26) = .bool true := hd 12 26 (by kernel_rfl) (by kernel_rfl)
      have g1 := tmp_bool v1
      have u1 : az.tmps[26]?.getD undef = .bool true := by rw [← Array.getD_eq_getD_getElem?]; exact v1
      clear v1
      clear hd hf
      replace hK : ∀ w', (fun wz => Below w.heap.size w wz) w' → K (az.put (some 30) (.slice none 0 0)) w' := hK
      have HK := Lib.hid hK
      clear hK
      have c0 : wz.cell? ⟨a, 1, none⟩ = some (.slice none 0 0) := (hcell ((hR.block a (heap_lt HA.out)).trans HA.out) 1 _ rfl).1
      show if Region.wanted _ (yielded _ az.tmps) = true then Oper.wp _ _ az wz K _ else _
      go_simp
      exact HK.out _ hR
    · simp only [List.getElem?_toArray, List.getElem?_cons_zero, List.getElem?_cons_succ, Option.some.injEq] at ho
      subst ho
      have v0 : az.eval (.tmp 7) = .pointer (some ⟨b, 0, none⟩) := (hf 7 (by kernel_rfl)).trans (by kernel_rfl)
      have u0 : az.tmps[7]?.getD undef = .pointer (some ⟨b, 0, none⟩) := by rw [← Array.getD_eq_getD_getElem?]; exact v0
      clear v0
      have v1 : az.eval (.tmp 26) = .bool true := hd 12 26 (by kernel_rfl) (by kernel_rfl)
      have g1 := tmp_bool v1
      have u1 : az.tmps[26]?.getD undef = .bool true := by rw [← Array.getD_eq_getD_getElem?]; exact v1
      clear v1
      clear hd hf
      replace hK : ∀ w', (fun wz => Below w.heap.size w wz) w' → K (az.put (some 31) (.pointer (some ⟨b, 0, none⟩))) w' := hK
      have HK := Lib.hid hK
      clear hK
      show if Region.wanted _ (yielded _ az.tmps) = true then Oper.wp _ _ az wz K _ else _
      go_simp
      exact HK.out _ hR
    · simp only [List.getElem?_toArray, List.getElem?_cons_zero, List.getElem?_cons_succ, Option.some.injEq] at ho
      subst ho
      have v0 : az.eval (.tmp 31) = .pointer (some ⟨b, 0, none⟩) := hd 17 31 (by kernel_rfl) (by kernel_rfl)
      have u0 : az.tmps[31]?.getD undef = .pointer (some ⟨b, 0, none⟩) := by rw [← Array.getD_eq_getD_getElem?]; exact v0
      clear v0
      have v1 : az.eval (.tmp 26) = .bool true := hd 12 26 (by kernel_rfl) (by kernel_rfl)
      have g1 := tmp_bool v1
      have u1 : az.tmps[26]?.getD undef = .bool true := by rw [← Array.getD_eq_getD_getElem?]; exact v1
      clear v1
      clear hd hf
      replace hK : ∀ w', (fun wz => Below w.heap.size w wz) w' → K (az.put (some 32) (.pointer (some ⟨b, 0, none⟩))) w' := hK
      have HK := Lib.hid hK
      clear hK
      show if Region.wanted _ (yielded _ az.tmps) = true then Oper.wp _ _ az wz K _ else _
      go_simp
      exact HK.out _ hR
    · simp only [List.getElem?_toArray, List.getElem?_cons_zero, List.getElem?_cons_succ, Option.some.injEq] at ho
      subst ho
      have v0 : az.eval (.tmp 32) = .pointer (some ⟨b, 0, none⟩) := hd 18 32 (by kernel_rfl) (by kernel_rfl)
      have u0 : az.tmps[32]?.getD undef = .pointer (some ⟨b, 0, none⟩) := by rw [← Array.getD_eq_getD_getElem?]; exact v0
      clear v0
      have v1 : az.eval (.tmp 26) = .bool true := hd 12 26 (by kernel_rfl) (by kernel_rfl)
      have g1 := tmp_bool v1
      have u1 : az.tmps[26]?.getD undef = .bool true := by rw [← Array.getD_eq_getD_getElem?]; exact v1
      clear v1
      clear hd hf
      replace hK : ∀ w', (fun wz => Below w.heap.size w wz) w' → K (az.put (some 33) (.pointer (some ⟨b, 1, none⟩))) w' := hK
      have HK := Lib.hid hK
      clear hK
      show if Region.wanted _ (yielded _ az.tmps) = true then Oper.wp _ _ az wz K _ else _
      go_simp
      exact HK.out _ hR
    · simp only [List.getElem?_toArray, List.getElem?_cons_zero, List.getElem?_cons_succ, Option.some.injEq] at ho
      subst ho
      have v0 : az.eval (.tmp 33) = .pointer (some ⟨b, 1, none⟩) := hd 19 33 (by kernel_rfl) (by kernel_rfl)
      have u0 : az.tmps[33]?.getD undef = .pointer (some ⟨b, 1, none⟩) := by rw [← Array.getD_eq_getD_getElem?]; exact v0
      clear v0
      have v1 : az.eval (.tmp 26) = .bool true := hd 12 26 (by kernel_rfl) (by kernel_rfl)
      have g1 := tmp_bool v1
      have u1 : az.tmps[26]?.getD undef = .bool true := by rw [← Array.getD_eq_getD_getElem?]; exact v1
      clear v1
      clear hd hf
      replace hK : ∀ w', (fun wz => Below w.heap.size w wz) w' → K (az.put (some 34) (.slice none 0 0)) w' := hK
      have HK := Lib.hid hK
      clear hK
      have c0 : wz.cell? ⟨b, 1, none⟩ = some (.slice none 0 0) := (hcell ((hR.block b (heap_lt HB.out)).trans HB.out) 1 _ rfl).1
      show if Region.wanted _ (yielded _ az.tmps) = true then Oper.wp _ _ az wz K _ else _
      go_simp
      exact HK.out _ hR
    · simp only [List.getElem?_toArray, List.getElem?_cons_zero, List.getElem?_cons_succ, Option.some.injEq] at ho
      subst ho
      have v0 : az.eval (.tmp 2) = v := (hf 2 (by kernel_rfl)).trans (by kernel_rfl)
      have u0 : az.tmps[2]?.getD undef = v := by rw [← Array.getD_eq_getD_getElem?]; exact v0
      clear v0
      have v1 : az.eval (.tmp 26) = .bool true := hd 12 26 (by kernel_rfl) (by kernel_rfl)
      have g1 := tmp_bool v1
      have u1 : az.tmps[26]?.getD undef = .bool true := by rw [← Array.getD_eq_getD_getElem?]; exact v1
      clear v1
      clear hd hf
      replace hK : ∀ w', (fun wz => Below w.heap.size w wz) w' → K (az.put (some 35) (v)) w' := hK
      have HK := Lib.hid hK
      clear hK
      show if Region.wanted _ (yielded _ az.tmps) = true then Oper.wp _ _ az wz K _ else _
      go_simp
      exact HK.out _ hR
    · simp only [List.getElem?_toArray, List.getElem?_cons_zero, List.getElem?_cons_succ, Option.some.injEq] at ho
      subst ho
      have v0 : az.eval (.tmp 30) = .slice none 0 0 := hd 16 30 (by kernel_rfl) (by kernel_rfl)
      have u0 : az.tmps[30]?.getD undef = .slice none 0 0 := by rw [← Array.getD_eq_getD_getElem?]; exact v0
      clear v0
      have v1 : az.eval (.tmp 34) = .slice none 0 0 := hd 20 34 (by kernel_rfl) (by kernel_rfl)
      have u1 : az.tmps[34]?.getD undef = .slice none 0 0 := by rw [← Array.getD_eq_getD_getElem?]; exact v1
      clear v1
      have v2 : az.eval (.tmp 35) = v := hd 21 35 (by kernel_rfl) (by kernel_rfl)
      have u2 : az.tmps[35]?.getD undef = v := by rw [← Array.getD_eq_getD_getElem?]; exact v2
      clear v2
      have v3 : az.eval (.tmp 26) = .bool true := hd 12 26 (by kernel_rfl) (by kernel_rfl)
      have g3 := tmp_bool v3
      have u3 : az.tmps[26]?.getD undef = .bool true := by rw [← Array.getD_eq_getD_getElem?]; exact v3
      clear v3
      clear hd hf
      replace hK : ∀ w', (fun wz => Below w.heap.size w wz) w' → K (az.put (some 36) (.bool true)) w' := hK
      have HK := Lib.hid hK
      clear hK
      show if Region.wanted _ (yielded _ az.tmps) = true then Oper.wp _ _ az wz K _ else _
      go_simp
      trace_state
      refine (e66nil _ _).mono ?_
      rintro _ _ ⟨rfl, rfl⟩
      go_simp
      exact HK.out _ hR
    · simp only [List.getElem?_toArray, List.getElem?_cons_zero, List.getElem?_cons_succ, Option.some.injEq] at ho
      subst ho
      have v0 : az.eval (.tmp 26) = .bool true := hd 12 26 (by kernel_rfl) (by kernel_rfl)
      have u0 : az.tmps[26]?.getD undef = .bool true := by rw [← Array.getD_eq_getD_getElem?]; exact v0
      clear v0
      have v1 : az.eval (.tmp 36) = .bool true := hd 22 36 (by kernel_rfl) (by kernel_rfl)
      have u1 : az.tmps[36]?.getD undef = .bool true := by rw [← Array.getD_eq_getD_getElem?]; exact v1
      clear v1
      clear hd hf
      replace hK : ∀ w', (fun wz => Below w.heap.size w wz) w' → K (az.put (some 37) (.bool true)) w' := hK
      have HK := Lib.hid hK
      clear hK
      show if Region.wanted _ (yielded _ az.tmps) = true then Oper.wp _ _ az wz K _ else _
      go_simp
      exact HK.out _ hR
    · simp only [List.getElem?_toArray, List.getElem?_cons_zero, List.getElem?_cons_succ, Option.some.injEq] at ho
      subst ho
      have v0 : az.eval (.tmp 37) = .bool true := hd 23 37 (by kernel_rfl) (by kernel_rfl)
      have u0 : az.tmps[37]?.getD undef = .bool true := by rw [← Array.getD_eq_getD_getElem?]; exact v0
      clear v0
      clear hd hf
      replace hK : ∀ w', (fun wz => Below w.heap.size w wz) w' → K (az.put (some 38) (.bool true)) w' := hK
      have HK := Lib.hid hK
      clear hK
      show if Region.wanted _ (yielded _ az.tmps) = true then Oper.wp _ _ az wz K _ else _
      go_simp
      exact HK.out _ hR
    · simp only [List.getElem?_toArray, List.getElem?_cons_zero, List.getElem?_cons_succ, Option.some.injEq] at ho
      subst ho
      have v0 : az.eval (.tmp 0) = .pointer (some ⟨a, 0, none⟩) := (hf 0 (by kernel_rfl)).trans (by kernel_rfl)
      have u0 : az.tmps[0]?.getD undef = .pointer (some ⟨a, 0, none⟩) := by rw [← Array.getD_eq_getD_getElem?]; exact v0
      clear v0
      have v1 : az.eval (.tmp 38) = .bool true := hd 24 38 (by kernel_rfl) (by kernel_rfl)
      have g1 := tmp_bool v1
      have u1 : az.tmps[38]?.getD undef = .bool true := by rw [← Array.getD_eq_getD_getElem?]; exact v1
      clear v1
      clear hd hf
      replace hK : ∀ w', (fun wz => Below w.heap.size w wz) w' → K (az.put (some 39) (.pointer (some ⟨a, 0, none⟩))) w' := hK
      have HK := Lib.hid hK
      clear hK
      show if Region.wanted _ (yielded _ az.tmps) = true then Oper.wp _ _ az wz K _ else _
      go_simp
      exact HK.out _ hR
    · simp only [List.getElem?_toArray, List.getElem?_cons_zero, List.getElem?_cons_succ, Option.some.injEq] at ho
      subst ho
      have v0 : az.eval (.tmp 39) = .pointer (some ⟨a, 0, none⟩) := hd 25 39 (by kernel_rfl) (by kernel_rfl)
      have u0 : az.tmps[39]?.getD undef = .pointer (some ⟨a, 0, none⟩) := by rw [← Array.getD_eq_getD_getElem?]; exact v0
      clear v0
      have v1 : az.eval (.tmp 38) = .bool true := hd 24 38 (by kernel_rfl) (by kernel_rfl)
      have g1 := tmp_bool v1
      have u1 : az.tmps[38]?.getD undef = .bool true := by rw [← Array.getD_eq_getD_getElem?]; exact v1
      clear v1
      clear hd hf
      replace hK : ∀ w', (fun wz => Below w.heap.size w wz) w' → K (az.put (some 40) (.pointer (some ⟨a, 0, none⟩))) w' := hK
      have HK := Lib.hid hK
      clear hK
      show if Region.wanted _ (yielded _ az.tmps) = true then Oper.wp _ _ az wz K _ else _
      go_simp
      exact HK.out _ hR
    · simp only [List.getElem?_toArray, List.getElem?_cons_zero, List.getElem?_cons_succ, Option.some.injEq] at ho
      subst ho
      have v0 : az.eval (.tmp 40) = .pointer (some ⟨a, 0, none⟩) := hd 26 40 (by kernel_rfl) (by kernel_rfl)
      have u0 : az.tmps[40]?.getD undef = .pointer (some ⟨a, 0, none⟩) := by rw [← Array.getD_eq_getD_getElem?]; exact v0
      clear v0
      have v1 : az.eval (.tmp 38) = .bool true := hd 24 38 (by kernel_rfl) (by kernel_rfl)
      have g1 := tmp_bool v1
      have u1 : az.tmps[38]?.getD undef = .bool true := by rw [← Array.getD_eq_getD_getElem?]; exact v1
      clear v1
      clear hd hf
      replace hK : ∀ w', (fun wz => Below w.heap.size w wz) w' → K (az.put (some 41) (.pointer (some ⟨a, 2, none⟩))) w' := hK
      have HK := Lib.hid hK
      clear hK
      show if Region.wanted _ (yielded _ az.tmps) = true then Oper.wp _ _ az wz K _ else _
      go_simp
      exact HK.out _ hR
    · simp only [List.getElem?_toArray, List.getElem?_cons_zero, List.getElem?_cons_succ, Option.some.injEq] at ho
      subst ho
      have v0 : az.eval (.tmp 41) = .pointer (some ⟨a, 2, none⟩) := hd 27 41 (by kernel_rfl) (by kernel_rfl)
      have u0 : az.tmps[41]?.getD undef = .pointer (some ⟨a, 2, none⟩) := by rw [← Array.getD_eq_getD_getElem?]; exact v0
      clear v0
      have v1 : az.eval (.tmp 38) = .bool true := hd 24 38 (by kernel_rfl) (by kernel_rfl)
      have g1 := tmp_bool v1
      have u1 : az.tmps[38]?.getD undef = .bool true := by rw [← Array.getD_eq_getD_getElem?]; exact v1
      clear v1
      clear hd hf
      replace hK : ∀ w', (fun wz => Below w.heap.size w wz) w' → K (az.put (some 42) (.bool false)) w' := hK
      have HK := Lib.hid hK
      clear hK
      have c0 : wz.cell? ⟨a, 2, none⟩ = some (.bool false) := (hcell ((hR.block a (heap_lt HA.out)).trans HA.out) 2 _ rfl).1
      show if Region.wanted _ (yielded _ az.tmps) = true then Oper.wp _ _ az wz K _ else _
      go_simp
      exact HK.out _ hR
    · simp only [List.getElem?_toArray, List.getElem?_cons_zero, List.getElem?_cons_succ, Option.some.injEq] at ho
      subst ho
      have v0 : az.eval (.tmp 7) = .pointer (some ⟨b, 0, none⟩) := (hf 7 (by kernel_rfl)).trans (by kernel_rfl)
      have u0 : az.tmps[7]?.getD undef = .pointer (some ⟨b, 0, none⟩) := by rw [← Array.getD_eq_getD_getElem?]; exact v0
      clear v0
      have v1 : az.eval (.tmp 38) = .bool true := hd 24 38 (by kernel_rfl) (by kernel_rfl)
      have g1 := tmp_bool v1
      have u1 : az.tmps[38]?.getD undef = .bool true := by rw [← Array.getD_eq_getD_getElem?]; exact v1
      clear v1
      clear hd hf
      replace hK : ∀ w', (fun wz => Below w.heap.size w wz) w' → K (az.put (some 43) (.pointer (some ⟨b, 0, none⟩))) w' := hK
      have HK := Lib.hid hK
      clear hK
      show if Region.wanted _ (yielded _ az.tmps) = true then Oper.wp _ _ az wz K _ else _
      go_simp
      exact HK.out _ hR
    · simp only [List.getElem?_toArray, List.getElem?_cons_zero, List.getElem?_cons_succ, Option.some.injEq] at ho
      subst ho
      have v0 : az.eval (.tmp 43) = .pointer (some ⟨b, 0, none⟩) := hd 29 43 (by kernel_rfl) (by kernel_rfl)
      have u0 : az.tmps[43]?.getD undef = .pointer (some ⟨b, 0, none⟩) := by rw [← Array.getD_eq_getD_getElem?]; exact v0
      clear v0
      have v1 : az.eval (.tmp 38) = .bool true := hd 24 38 (by kernel_rfl) (by kernel_rfl)
      have g1 := tmp_bool v1
      have u1 : az.tmps[38]?.getD undef = .bool true := by rw [← Array.getD_eq_getD_getElem?]; exact v1
      clear v1
      clear hd hf
      replace hK : ∀ w', (fun wz => Below w.heap.size w wz) w' → K (az.put (some 44) (.pointer (some ⟨b, 0, none⟩))) w' := hK
      have HK := Lib.hid hK
      clear hK
      show if Region.wanted _ (yielded _ az.tmps) = true then Oper.wp _ _ az wz K _ else _
      go_simp
      exact HK.out _ hR
    · simp only [List.getElem?_toArray, List.getElem?_cons_zero, List.getElem?_cons_succ, Option.some.injEq] at ho
      subst ho
      have v0 : az.eval (.tmp 44) = .pointer (some ⟨b, 0, none⟩) := hd 30 44 (by kernel_rfl) (by kernel_rfl)
      have u0 : az.tmps[44]?.getD undef = .pointer (some ⟨b, 0, none⟩) := by rw [← Array.getD_eq_getD_getElem?]; exact v0
      clear v0
      have v1 : az.eval (.tmp 38) = .bool true := hd 24 38 (by kernel_rfl) (by kernel_rfl)
      have g1 := tmp_bool v1
      have u1 : az.tmps[38]?.getD undef = .bool true := by rw [← Array.getD_eq_getD_getElem?]; exact v1
      clear v1
      clear hd hf
      replace hK : ∀ w', (fun wz => Below w.heap.size w wz) w' → K (az.put (some 45) (.pointer (some ⟨b, 2, none⟩))) w' := hK
      have HK := Lib.hid hK
      clear hK
      show if Region.wanted _ (yielded _ az.tmps) = true then Oper.wp _ _ az wz K _ else _
      go_simp
      exact HK.out _ hR
    · simp only [List.getElem?_toArray, List.getElem?_cons_zero, List.getElem?_cons_succ, Option.some.injEq] at ho
      subst ho
      have v0 : az.eval (.tmp 45) = .pointer (some ⟨b, 2, none⟩) := hd 31 45 (by kernel_rfl) (by kernel_rfl)
      have u0 : az.tmps[45]?.getD undef = .pointer (some ⟨b, 2, none⟩) := by rw [← Array.getD_eq_getD_getElem?]; exact v0
      clear v0
      have v1 : az.eval (.tmp 38) = .bool true := hd 24 38 (by kernel_rfl) (by kernel_rfl)
      have g1 := tmp_bool v1
      have u1 : az.tmps[38]?.getD undef = .bool true := by rw [← Array.getD_eq_getD_getElem?]; exact v1
      clear v1
      clear hd hf
      replace hK : ∀ w', (fun wz => Below w.heap.size w wz) w' → K (az.put (some 46) (.bool false)) w' := hK
      have HK := Lib.hid hK
      clear hK
      have c0 : wz.cell? ⟨b, 2, none⟩ = some (.bool false) := (hcell ((hR.block b (heap_lt HB.out)).trans HB.out) 2 _ rfl).1
      show if Region.wanted _ (yielded _ az.tmps) = true then Oper.wp _ _ az wz K _ else _
      go_simp
      exact HK.out _ hR
    · simp only [List.getElem?_toArray, List.getElem?_cons_zero, List.getElem?_cons_succ, Option.some.injEq] at ho
      subst ho
      have v0 : az.eval (.tmp 42) = .bool false := hd 28 42 (by kernel_rfl) (by kernel_rfl)
      have u0 : az.tmps[42]?.getD undef = .bool false := by rw [← Array.getD_eq_getD_getElem?]; exact v0
      clear v0
      have v1 : az.eval (.tmp 46) = .bool false := hd 32 46 (by kernel_rfl) (by kernel_rfl)
      have u1 : az.tmps[46]?.getD undef = .bool false := by rw [← Array.getD_eq_getD_getElem?]; exact v1
      clear v1
      have v2 : az.eval (.tmp 38) = .bool true := hd 24 38 (by kernel_rfl) (by kernel_rfl)
      have g2 := tmp_bool v2
      have u2 : az.tmps[38]?.getD undef = .bool true := by rw [← Array.getD_eq_getD_getElem?]; exact v2
      clear v2
      clear hd hf
      replace hK : ∀ w', (fun wz => Below w.heap.size w wz) w' → K (az.put (some 47) (.bool true)) w' := hK
      have HK := Lib.hid hK
      clear hK
      show if Region.wanted _ (yielded _ az.tmps) = true then Oper.wp _ _ az wz K _ else _
      go_simp
      exact HK.out _ hR
    · simp only [List.getElem?_toArray, List.getElem?_cons_zero, List.getElem?_cons_succ, Option.some.injEq] at ho
      subst ho
      have v0 : az.eval (.tmp 38) = .bool true := hd 24 38 (by kernel_rfl) (by kernel_rfl)
      have u0 : az.tmps[38]?.getD undef = .bool true := by rw [← Array.getD_eq_getD_getElem?]; exact v0
      clear v0
      have v1 : az.eval (.tmp 47) = .bool true := hd 33 47 (by kernel_rfl) (by kernel_rfl)
      have u1 : az.tmps[47]?.getD undef = .bool true := by rw [← Array.getD_eq_getD_getElem?]; exact v1
      clear v1
      clear hd hf
      replace hK : ∀ w', (fun wz => Below w.heap.size w wz) w' → K (az.put (some 48) (.bool true)) w' := hK
      have HK := Lib.hid hK
      clear hK
      show if Region.wanted _ (yielded _ az.tmps) = true then Oper.wp _ _ az wz K _ else _
      go_simp
      exact HK.out _ hR
    · simp only [List.getElem?_toArray, List.getElem?_cons_zero, List.getElem?_cons_succ, Option.some.injEq] at ho
      subst ho
      have v0 : az.eval (.tmp 48) = .bool true := hd 34 48 (by kernel_rfl) (by kernel_rfl)
      have u0 : az.tmps[48]?.getD undef = .bool true := by rw [← Array.getD_eq_getD_getElem?]; exact v0
      clear v0
      clear hd hf
      replace hK : ∀ w', (fun wz => Below w.heap.size w wz) w' → K (az.put (some 6) (.bool true)) w' := hK
      have HK := Lib.hid hK
      clear hK
      show if Region.wanted _ (yielded _ az.tmps) = true then Oper.wp _ _ az wz K _ else _
      go_simp
      exact HK.out _ hR
  case h0 => exact (Below.refl _ _).drew
  case hend =>
    intro wz hR
    have HR := hid hR
    clear hR
    simp only [List.foldl_cons, List.foldl_nil, Act.put, List.setIfInBounds_toArray, List.set_cons_zero, List.set_cons_succ]
    go_wp2_with fail
    go_ret
    exact ⟨rfl, HR.out⟩
end Go.Proofs.Ytphimfimnakclaa
