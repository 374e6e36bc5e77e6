/-
  The guards, and rows of the same places. Conditions: each theorem's own.
-/
import Derived.Test.YtphimfimnakclaaRd
namespace Go.Proofs.Ytphimfimnakclaa
open Go.RowKit Go.Lib Go.ChangeMaps
open Go.Maps (Keyed IsMap)
theorem bytes5 (a0 a1 a2 a3 a4 : Option Addr) (n0 n1 n2 n3 n4 k0 k1 k2 k3 k4 : Nat) (w : World) :
    Calls Try.prog 5 #[.slice a0 n0 k0, .slice a1 n1 k1, .slice a2 n2 k2, .slice a3 n3 k3, .slice a4 n4 k4] w fun e w' => (∃ b, e = .returned (.bool b)) ∧ w' = w := by
  go_enter Try.func5, Try.ntmps5
  go_wp2_with fail
  all_goals (go_ret; exact ⟨⟨_, rfl⟩, rfl⟩)
structure Bg6 (n0 n1 n2 n3 n4 : Nat) (w : World) (e : Ending) (w' : World) : Prop where
  ex : ∃ b, e = .returned (.bool b) ∧ (b = false → n0 ≤ 4096 ∧ n1 ≤ 65536 ∧ n2 ≤ 65536 ∧ n3 ≤ 65536 ∧ n4 ≤ 65536) ∧ w' = w
set_option maxRecDepth 100000 in
theorem big6 (a0 a1 a2 a3 a4 : Option Addr) (n0 n1 n2 n3 n4 k0 k1 k2 k3 k4 : Nat) (w : World) :
    Calls Try.prog 6 #[.slice a0 n0 k0, .slice a1 n1 k1, .slice a2 n2 k2, .slice a3 n3 k3, .slice a4 n4 k4] w fun e w' => Bg6 n0 n1 n2 n3 n4 w e w' := by
  go_enter Try.func6, Try.ntmps6
  go_wp2_with fail
  all_goals (go_ret; refine ⟨_, rfl, fun h => ?_, rfl⟩; first | (exfalso; cases h; done) | (refine ⟨?_, ?_, ?_, ?_, ?_⟩ <;> first | omega | (simp at h; omega)))
/-- the places of a row of rules -/
def Locs (w : World) (a : Option Addr) (l : List Int) : Prop := ∀ j (_ : j < l.length), ∃ g o, a = some ⟨g, o, none⟩ ∧ g < w.heap.size ∧ w.cell? ⟨g, o + j * 2 + 1, none⟩ = some (.int .i32 l[j])
theorem Locs.keep {w w' : World} {a : Option Addr} {l : List Int} (h : Locs w a l) (hs : w.heap.size ≤ w'.heap.size) (hb : ∀ g o, a = some ⟨g, o, none⟩ → w'.heap[g]? = w.heap[g]?) : Locs w' a l := fun j hj => by
  obtain ⟨g, o, ha, hg, hc⟩ := h j hj
  exact ⟨g, o, ha, Nat.lt_of_lt_of_le hg hs, (cellLow (hb g o ha) _).trans hc⟩
structure Lo10 (w : World) (n : Nat) (g : Nat) (vi : Value) (wx : World) : Prop where
  ex : ∃ i, i + g = n ∧ vi = .int .i64 (i : Nat) ∧ Below w.heap.size w wx
set_option maxHeartbeats 16000000 in
set_option maxRecDepth 100000 in
/-- two rows of the same places -/
theorem sr10 (a1 a2 : Option Addr) (c1 c2 : Nat) (l : List Int) (w : World) (hn : l.length ≤ 4096) (h1 : Locs w a1 l) (h2 : Locs w a2 l) :
    Calls Try.prog 10 #[.slice a1 l.length c1, .slice a2 l.length c2] w fun e w' => DdR true w e w' := by
  have HL1 := hid h1
  have HL2 := hid h2
  have HL0 := hid (show Lo10 w l.length l.length (.int .i64 0) w from ⟨0, by simp, rfl, Below.refl _ _⟩)
  clear h1 h2
  go_enter Try.func10, Try.ntmps10
  go_wp2_with fail
  go_loopg [5] l.length (fun g v5 wx => Lo10 w l.length g v5 wx)
  case atStart => exact HL0.out
  case round =>
    obtain ⟨i, hig, rfl, hb⟩ := hrel.ex
    clear hrel HL0
    have HB := hid hb
    clear hb
    cases gk with
    | zero =>
      have hcd : ¬ ((i : Int) < (l.length : Int)) := by omega
      go_wp2_with fail
      go_ret
      exact ⟨rfl, HB.out⟩
    | succ g =>
      have hil : i < l.length := by omega
      have hcd : (i : Int) < (l.length : Int) := by omega
      obtain ⟨g1, o1, rfl, hg1, q1⟩ := HL1.out i hil
      obtain ⟨g2, o2, rfl, hg2, q2⟩ := HL2.out i hil
      generalize l[i] = x at *
      have H1 := hid (And.intro hg1 q1)
      have H2 := hid (And.intro hg2 q2)
      have e4 : IntKind.i64.wrap ((i : Int) + 1) = ((i + 1 : Nat) : Int) := by rw [IntKind.wrap_i64]; omega
      clear hg1 hg2 q1 q2
      go_wp2_with fail
      refine wp_region_rel [(some 17, .slice (some ⟨g1, o1, none⟩) l.length c1), (some 18, .int .i64 (i : Nat)), (some 19, .pointer (some ⟨g1, o1 + i * 2, none⟩)), (some 20, .pointer (some ⟨g1, o1 + i * 2 + 1, none⟩)), (some 21, .pointer (some ⟨g1, o1 + i * 2 + 1, none⟩)), (some 22, .int .i32 x), (some 23, .slice (some ⟨g2, o2, none⟩) l.length c2), (some 24, .int .i64 (i : Nat)), (some 25, .pointer (some ⟨g2, o2 + i * 2, none⟩)), (some 26, .pointer (some ⟨g2, o2 + i * 2 + 1, none⟩)), (some 27, .pointer (some ⟨g2, o2 + i * 2 + 1, none⟩)), (some 28, .int .i32 x), (some 29, .bool false)] (fun wz => Below w.heap.size w wz) 30 (by kernel_rfl) (by kernel_rfl) (by kernel_rfl) (by kernel_rfl) ?h06 (by kernel_rfl) ?hop6 ?hend6
      case hop6 =>
        intro i o az wz ho hR hd hf K hK
        have hin : i = 0 ∨ i = 1 ∨ i = 2 ∨ i = 3 ∨ i = 4 ∨ i = 5 ∨ i = 6 ∨ i = 7 ∨ i = 8 ∨ i = 9 ∨ i = 10 ∨ i = 11 ∨ i = 12 := by
          rcases Nat.lt_or_ge i 13 with h | h
          · omega
          · rw [Array.getElem?_eq_none h] at ho
            cases ho
        rcases hin with rfl | rfl | rfl | rfl | rfl | rfl | rfl | rfl | rfl | rfl | rfl | rfl | rfl
        · simp only [List.getElem?_toArray, List.getElem?_cons_zero, Option.some.injEq] at ho
          subst ho
          have v0 : az.eval (.tmp 0) = .slice (some ⟨g1, o1, none⟩) l.length c1 := (hf 0 (by kernel_rfl)).trans (by kernel_rfl)
          have u0 : az.tmps[0]?.getD undef = .slice (some ⟨g1, o1, none⟩) l.length c1 := by rw [← Array.getD_eq_getD_getElem?]; exact v0
          clear v0
          clear hd hf
          replace hK : ∀ w', (fun wz => Below w.heap.size w wz) w' → K (az.put (some 17) (.slice (some ⟨g1, o1, none⟩) l.length c1)) w' := hK
          have HK := Lib.hid hK
          clear hK
          show if Region.wanted _ (yielded _ az.tmps) = true then Oper.wp _ _ az wz K _ else _
          go_simp
          exact HK.out _ hR
        · simp only [List.getElem?_toArray, List.getElem?_cons_zero, List.getElem?_cons_succ, Option.some.injEq] at ho
          subst ho
          have v0 : az.eval (.tmp 5) = .int .i64 (i : Nat) := (hf 5 (by kernel_rfl)).trans (by kernel_rfl)
          have u0 : az.tmps[5]?.getD undef = .int .i64 (i : Nat) := by rw [← Array.getD_eq_getD_getElem?]; exact v0
          clear v0
          clear hd hf
          replace hK : ∀ w', (fun wz => Below w.heap.size w wz) w' → K (az.put (some 18) (.int .i64 (i : Nat))) w' := hK
          have HK := Lib.hid hK
          clear hK
          show if Region.wanted _ (yielded _ az.tmps) = true then Oper.wp _ _ az wz K _ else _
          go_simp
          exact HK.out _ hR
        · simp only [List.getElem?_toArray, List.getElem?_cons_zero, List.getElem?_cons_succ, Option.some.injEq] at ho
          subst ho
          have v0 : az.eval (.tmp 17) = .slice (some ⟨g1, o1, none⟩) l.length c1 := hd 0 17 (by kernel_rfl) (by kernel_rfl)
          have u0 : az.tmps[17]?.getD undef = .slice (some ⟨g1, o1, none⟩) l.length c1 := by rw [← Array.getD_eq_getD_getElem?]; exact v0
          clear v0
          have v1 : az.eval (.tmp 18) = .int .i64 (i : Nat) := hd 1 18 (by kernel_rfl) (by kernel_rfl)
          have u1 : az.tmps[18]?.getD undef = .int .i64 (i : Nat) := by rw [← Array.getD_eq_getD_getElem?]; exact v1
          clear v1
          clear hd hf
          replace hK : ∀ w', (fun wz => Below w.heap.size w wz) w' → K (az.put (some 19) (.pointer (some ⟨g1, o1 + i * 2, none⟩))) w' := hK
          have HK := Lib.hid hK
          clear hK
          have hjl := hil
          show if Region.wanted _ (yielded _ az.tmps) = true then Oper.wp _ _ az wz K _ else _
          go_simp
          exact HK.out _ hR
        · simp only [List.getElem?_toArray, List.getElem?_cons_zero, List.getElem?_cons_succ, Option.some.injEq] at ho
          subst ho
          have v0 : az.eval (.tmp 19) = .pointer (some ⟨g1, o1 + i * 2, none⟩) := hd 2 19 (by kernel_rfl) (by kernel_rfl)
          have u0 : az.tmps[19]?.getD undef = .pointer (some ⟨g1, o1 + i * 2, none⟩) := by rw [← Array.getD_eq_getD_getElem?]; exact v0
          clear v0
          clear hd hf
          replace hK : ∀ w', (fun wz => Below w.heap.size w wz) w' → K (az.put (some 20) (.pointer (some ⟨g1, o1 + i * 2 + 1, none⟩))) w' := hK
          have HK := Lib.hid hK
          clear hK
          show if Region.wanted _ (yielded _ az.tmps) = true then Oper.wp _ _ az wz K _ else _
          go_simp
          exact HK.out _ hR
        · simp only [List.getElem?_toArray, List.getElem?_cons_zero, List.getElem?_cons_succ, Option.some.injEq] at ho
          subst ho
          have v0 : az.eval (.tmp 20) = .pointer (some ⟨g1, o1 + i * 2 + 1, none⟩) := hd 3 20 (by kernel_rfl) (by kernel_rfl)
          have u0 : az.tmps[20]?.getD undef = .pointer (some ⟨g1, o1 + i * 2 + 1, none⟩) := by rw [← Array.getD_eq_getD_getElem?]; exact v0
          clear v0
          clear hd hf
          replace hK : ∀ w', (fun wz => Below w.heap.size w wz) w' → K (az.put (some 21) (.pointer (some ⟨g1, o1 + i * 2 + 1, none⟩))) w' := hK
          have HK := Lib.hid hK
          clear hK
          show if Region.wanted _ (yielded _ az.tmps) = true then Oper.wp _ _ az wz K _ else _
          go_simp
          exact HK.out _ hR
        · simp only [List.getElem?_toArray, List.getElem?_cons_zero, List.getElem?_cons_succ, Option.some.injEq] at ho
          subst ho
          have v0 : az.eval (.tmp 21) = .pointer (some ⟨g1, o1 + i * 2 + 1, none⟩) := hd 4 21 (by kernel_rfl) (by kernel_rfl)
          have u0 : az.tmps[21]?.getD undef = .pointer (some ⟨g1, o1 + i * 2 + 1, none⟩) := by rw [← Array.getD_eq_getD_getElem?]; exact v0
          clear v0
          clear hd hf
          replace hK : ∀ w', (fun wz => Below w.heap.size w wz) w' → K (az.put (some 22) (.int .i32 x)) w' := hK
          have HK := Lib.hid hK
          clear hK
          have c0 := (cellLow (hR.block _ H1.out.1) _).trans H1.out.2
          have hjl := hil
          show if Region.wanted _ (yielded _ az.tmps) = true then Oper.wp _ _ az wz K _ else _
          go_simp
          exact HK.out _ hR
        · simp only [List.getElem?_toArray, List.getElem?_cons_zero, List.getElem?_cons_succ, Option.some.injEq] at ho
          subst ho
          have v0 : az.eval (.tmp 1) = .slice (some ⟨g2, o2, none⟩) l.length c2 := (hf 1 (by kernel_rfl)).trans (by kernel_rfl)
          have u0 : az.tmps[1]?.getD undef = .slice (some ⟨g2, o2, none⟩) l.length c2 := by rw [← Array.getD_eq_getD_getElem?]; exact v0
          clear v0
          clear hd hf
          replace hK : ∀ w', (fun wz => Below w.heap.size w wz) w' → K (az.put (some 23) (.slice (some ⟨g2, o2, none⟩) l.length c2)) w' := hK
          have HK := Lib.hid hK
          clear hK
          show if Region.wanted _ (yielded _ az.tmps) = true then Oper.wp _ _ az wz K _ else _
          go_simp
          exact HK.out _ hR
        · simp only [List.getElem?_toArray, List.getElem?_cons_zero, List.getElem?_cons_succ, Option.some.injEq] at ho
          subst ho
          have v0 : az.eval (.tmp 5) = .int .i64 (i : Nat) := (hf 5 (by kernel_rfl)).trans (by kernel_rfl)
          have u0 : az.tmps[5]?.getD undef = .int .i64 (i : Nat) := by rw [← Array.getD_eq_getD_getElem?]; exact v0
          clear v0
          clear hd hf
          replace hK : ∀ w', (fun wz => Below w.heap.size w wz) w' → K (az.put (some 24) (.int .i64 (i : Nat))) w' := hK
          have HK := Lib.hid hK
          clear hK
          show if Region.wanted _ (yielded _ az.tmps) = true then Oper.wp _ _ az wz K _ else _
          go_simp
          exact HK.out _ hR
        · simp only [List.getElem?_toArray, List.getElem?_cons_zero, List.getElem?_cons_succ, Option.some.injEq] at ho
          subst ho
          have v0 : az.eval (.tmp 23) = .slice (some ⟨g2, o2, none⟩) l.length c2 := hd 6 23 (by kernel_rfl) (by kernel_rfl)
          have u0 : az.tmps[23]?.getD undef = .slice (some ⟨g2, o2, none⟩) l.length c2 := by rw [← Array.getD_eq_getD_getElem?]; exact v0
          clear v0
          have v1 : az.eval (.tmp 24) = .int .i64 (i : Nat) := hd 7 24 (by kernel_rfl) (by kernel_rfl)
          have u1 : az.tmps[24]?.getD undef = .int .i64 (i : Nat) := by rw [← Array.getD_eq_getD_getElem?]; exact v1
          clear v1
          clear hd hf
          replace hK : ∀ w', (fun wz => Below w.heap.size w wz) w' → K (az.put (some 25) (.pointer (some ⟨g2, o2 + i * 2, none⟩))) w' := hK
          have HK := Lib.hid hK
          clear hK
          have hjl := hil
          show if Region.wanted _ (yielded _ az.tmps) = true then Oper.wp _ _ az wz K _ else _
          go_simp
          exact HK.out _ hR
        · simp only [List.getElem?_toArray, List.getElem?_cons_zero, List.getElem?_cons_succ, Option.some.injEq] at ho
          subst ho
          have v0 : az.eval (.tmp 25) = .pointer (some ⟨g2, o2 + i * 2, none⟩) := hd 8 25 (by kernel_rfl) (by kernel_rfl)
          have u0 : az.tmps[25]?.getD undef = .pointer (some ⟨g2, o2 + i * 2, none⟩) := by rw [← Array.getD_eq_getD_getElem?]; exact v0
          clear v0
          clear hd hf
          replace hK : ∀ w', (fun wz => Below w.heap.size w wz) w' → K (az.put (some 26) (.pointer (some ⟨g2, o2 + i * 2 + 1, none⟩))) w' := hK
          have HK := Lib.hid hK
          clear hK
          show if Region.wanted _ (yielded _ az.tmps) = true then Oper.wp _ _ az wz K _ else _
          go_simp
          exact HK.out _ hR
        · simp only [List.getElem?_toArray, List.getElem?_cons_zero, List.getElem?_cons_succ, Option.some.injEq] at ho
          subst ho
          have v0 : az.eval (.tmp 26) = .pointer (some ⟨g2, o2 + i * 2 + 1, none⟩) := hd 9 26 (by kernel_rfl) (by kernel_rfl)
          have u0 : az.tmps[26]?.getD undef = .pointer (some ⟨g2, o2 + i * 2 + 1, none⟩) := by rw [← Array.getD_eq_getD_getElem?]; exact v0
          clear v0
          clear hd hf
          replace hK : ∀ w', (fun wz => Below w.heap.size w wz) w' → K (az.put (some 27) (.pointer (some ⟨g2, o2 + i * 2 + 1, none⟩))) w' := hK
          have HK := Lib.hid hK
          clear hK
          show if Region.wanted _ (yielded _ az.tmps) = true then Oper.wp _ _ az wz K _ else _
          go_simp
          exact HK.out _ hR
        · simp only [List.getElem?_toArray, List.getElem?_cons_zero, List.getElem?_cons_succ, Option.some.injEq] at ho
          subst ho
          have v0 : az.eval (.tmp 27) = .pointer (some ⟨g2, o2 + i * 2 + 1, none⟩) := hd 10 27 (by kernel_rfl) (by kernel_rfl)
          have u0 : az.tmps[27]?.getD undef = .pointer (some ⟨g2, o2 + i * 2 + 1, none⟩) := by rw [← Array.getD_eq_getD_getElem?]; exact v0
          clear v0
          clear hd hf
          replace hK : ∀ w', (fun wz => Below w.heap.size w wz) w' → K (az.put (some 28) (.int .i32 x)) w' := hK
          have HK := Lib.hid hK
          clear hK
          have c0 := (cellLow (hR.block _ H2.out.1) _).trans H2.out.2
          have hjl := hil
          show if Region.wanted _ (yielded _ az.tmps) = true then Oper.wp _ _ az wz K _ else _
          go_simp
          exact HK.out _ hR
        · simp only [List.getElem?_toArray, List.getElem?_cons_zero, List.getElem?_cons_succ, Option.some.injEq] at ho
          subst ho
          have v0 : az.eval (.tmp 22) = .int .i32 x := hd 5 22 (by kernel_rfl) (by kernel_rfl)
          have u0 : az.tmps[22]?.getD undef = .int .i32 x := by rw [← Array.getD_eq_getD_getElem?]; exact v0
          clear v0
          have v1 : az.eval (.tmp 28) = .int .i32 x := hd 11 28 (by kernel_rfl) (by kernel_rfl)
          have u1 : az.tmps[28]?.getD undef = .int .i32 x := by rw [← Array.getD_eq_getD_getElem?]; exact v1
          clear v1
          clear hd hf
          replace hK : ∀ w', (fun wz => Below w.heap.size w wz) w' → K (az.put (some 29) (.bool false)) w' := hK
          have HK := Lib.hid hK
          clear hK
          show if Region.wanted _ (yielded _ az.tmps) = true then Oper.wp _ _ az wz K _ else _
          go_simp
          exact HK.out _ hR
      case h06 => exact HB.out.drew
      case hend6 =>
        intro wz hR
        have HR := hid hR
        clear hR
        simp only [List.foldl_cons, List.foldl_nil, Act.put, List.setIfInBounds_toArray, List.set_cons_zero, List.set_cons_succ]
        go_wp2_with fail
        go_roundg g
        case measure => omega
        case rel => exact ⟨i + 1, by omega, rfl, HR.out⟩
end Go.Proofs.Ytphimfimnakclaa
