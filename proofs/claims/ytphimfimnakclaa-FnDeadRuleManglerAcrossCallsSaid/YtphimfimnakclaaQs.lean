/-
  Dead selectors walked. Conditions: each theorem's own.
-/
import Derived.Test.YtphimfimnakclaaQr
namespace Go.Proofs.Ytphimfimnakclaa
open Go.RowKit Go.Lib
theorem as107_98 (v : Value) (w : World) : (Instr.typeAssert (.iface 107 v) 92 98 true).run Try.prog w = .ok (.tuple #[.pointer none, .bool false]) w := by kernel_rfl
theorem as98_98 (v : Value) (w : World) : (Instr.typeAssert (.iface 98 v) 92 98 true).run Try.prog w = .ok (.tuple #[v, .bool true]) w := by kernel_rfl
set_option maxHeartbeats 16000000 in
set_option maxRecDepth 100000 in
theorem cd20 (a : Option Addr) (n c : Nat) (cx : List (List Nat)) (P : Nat → Prop) (w : World) (hg : GoodC cx) (hr : RowL (CpT SubT) w P (.slice a n c) cx) :
    Calls Try.prog 20 #[.slice a n c] w fun e w' => DdR (cx.any fun m => m.any deadK) w e w' := by
  obtain ⟨rfl, _⟩ := hr.at'
  have HR := hid hr
  have HG := hid hg
  have HL0 := hid (show DdL w (fun i => (cx.getD i []).any deadK) cx.length cx.length (.int .i64 0) w from ⟨0, by simp, rfl, (fun k hk => by omega), Below.refl _ _⟩)
  clear hr hg
  go_enter Try.func20, Try.ntmps20
  go_wp2_with fail
  go_loopg [11] cx.length (fun g v11 wx => DdL w (fun i => (cx.getD i []).any deadK) cx.length g v11 wx)
  case atStart => exact HL0.out
  case round =>
    obtain ⟨i, hig, rfl, hf, hb⟩ := hrel.ex
    clear hrel HL0
    cases gk with
    | zero =>
      have hi : i = cx.length := by omega
      have hcd : ¬ ((i : Int) < (cx.length : Int)) := by omega
      have HQ := hid (And.intro hi (And.intro hf hb))
      clear hi hb hig hf
      go_wp2_with fail
      go_ret
      refine ⟨?_, HQ.out.2.2⟩
      have e : (cx.any fun m => m.any deadK) = false := by
        rw [List.any_eq_false]
        intro m hm
        obtain ⟨k, hk, rfl⟩ := List.getElem_of_mem hm
        have := HQ.out.2.1 k (by rw [HQ.out.1]; exact hk)
        simp only [List.getD_eq_getElem?_getD, List.getElem?_eq_getElem hk, Option.getD_some] at this
        rw [this]
        simp
      rw [e]
      rfl
    | succ g =>
      have hil : i < cx.length := by omega
      have hcd : (i : Int) < (cx.length : Int) := by omega
      obtain ⟨b2, rfl, hpb, hbl2, q0, ⟨s, q1, hrow⟩, q2, q3, q4, q5⟩ := HR.out.at'.2 i hil
      have hmg := HG.out.2 cx[i] (List.getElem_mem hil)
      have hgd : cx.getD i [] = cx[i] := by rw [List.getD_eq_getElem?_getD, List.getElem?_eq_getElem hil, Option.getD_some]
      have hmem := List.getElem_mem hil
      generalize cx[i] = m at *
      obtain ⟨ma, mc, rfl, _⟩ := id hrow
      have cl : ∀ t, wr.cell? ⟨b2, i * 6 + t, none⟩ = w.cell? ⟨b2, i * 6 + t, none⟩ := fun t => hb.cell (p := ⟨b2, i * 6 + t, none⟩) hbl2
      have c0 : wr.cell? ⟨b2, i * 6, none⟩ = some (.pointer none) := (cl 0).trans q0
      have c1 := (cl 1).trans q1
      have c2 := (cl 2).trans q2
      have c3 := (cl 3).trans q3
      have c4 := (cl 4).trans q4
      have c5 := (cl 5).trans q5
      obtain ⟨W2, hW2⟩ : ∃ W, W = wr.alloc (.cells #[.pointer none, .slice ma m.length mc, .slice none 0 0, .int .i32 0, .int .u8 0, .bool false] 85) := ⟨_, rfl⟩
      have hbW : Below w.heap.size w W2 := by rw [hW2]; exact hb.alloc hb.size _
      have HL1 := hid (show DdL w (fun j => deadK (m.getD j 0)) m.length m.length (.int .i64 0) W2 from ⟨0, by simp, rfl, (fun k hk => by omega), hbW⟩)
      have HROW := hid hrow
      have HF := hid (And.intro hf (And.intro hgd hmem))
      have hcl := HG.out.1
      clear hrow hf hgd hmem hpb hb hbW cl q0 q1 q2 q3 q4 q5
      go_wp2_with fail
      rw [← hW2]
      clear hW2 c0 c1 c2 c3 c4 c5
      go_loopg [18] m.length (fun g v18 wx => DdL w (fun j => deadK (m.getD j 0)) m.length g v18 wx)
      case atStart => exact HL1.out
      case round =>
        obtain ⟨j, hjg, rfl, hf, hb⟩ := hrel.ex
        clear hrel HL1
        cases gk with
        | zero =>
          have hi : j = m.length := by omega
          have hcd : ¬ ((j : Int) < (m.length : Int)) := by omega
          have HQ := hid (And.intro hi (And.intro hf hb))
          have e9 : IntKind.i64.wrap ((i : Int) + 1) = ((i + 1 : Nat) : Int) := by rw [IntKind.wrap_i64]; omega
          clear hi hb hjg hf
          go_wp2_with fail
          go_roundg g
          case measure => omega
          case rel =>
            refine ⟨i + 1, by omega, rfl, fun k hk => ?_, HQ.out.2.2⟩
            by_cases e : k < i
            · exact HF.out.1 k e
            · have e2 : k = i := by omega
              subst e2
              show (cx.getD k []).any deadK = false
              rw [HF.out.2.1, List.any_eq_false]
              intro x hx
              obtain ⟨l, hl, rfl⟩ := List.getElem_of_mem hx
              have := HQ.out.2.1 l (by rw [HQ.out.1]; exact hl)
              simp only [List.getD_eq_getElem?_getD, List.getElem?_eq_getElem hl, Option.getD_some] at this
              rw [this]
              simp
        | succ g3 =>
          have hil3 : j < m.length := by omega
          have hcd : (j : Int) < (m.length : Int) := by omega
          obtain ⟨b3, rfl, hpb, hbl3, hE⟩ := HROW.out.at'.2 j hil3
          have hgd : m.getD j 0 = m[j] := by rw [List.getD_eq_getElem?_getD, List.getElem?_eq_getElem hil3, Option.getD_some]
          have hmem3 := List.getElem_mem hil3
          generalize m[j] = key at *
          have cl : ∀ t, wr.cell? ⟨b3, j * 3 + t, none⟩ = w.cell? ⟨b3, j * 3 + t, none⟩ := fun t => hb.cell (p := ⟨b3, j * 3 + t, none⟩) hbl3
          obtain ⟨q1, q2, hD⟩ := sub_shows hE hb
          have c1 := (cl 1).trans q1
          have c2 := (cl 2).trans q2
          have e9 : IntKind.i64.wrap ((j : Int) + 1) = ((j + 1 : Nat) : Int) := by rw [IntKind.wrap_i64]; omega
          have HB := hid (And.intro hf (And.intro hb (And.intro hgd hmem3)))
          rcases hD with ⟨b4, q0, hK⟩ | ⟨b4, k4, a4, n4, cc4, q0, hb4, hh4, hk4, hK⟩
          · have c0 : wr.cell? ⟨b3, j * 3, none⟩ = _ := (cl 0).trans q0
            have HK := hid hK
            have ta := as107_98
            clear hf hb hgd hmem3 cl q0 q1 q2 hK hE hpb
            go_wp2_with fail
            go_roundg g3
            case measure => omega
            case rel =>
              refine ⟨j + 1, by omega, rfl, fun k hk => ?_, HB.out.2.1.alloc HB.out.2.1.size _⟩
              by_cases e : k < j
              · exact HB.out.1 k e
              · have e2 : k = j := by omega
                subst e2
                show deadK (m.getD k 0) = false
                rw [HB.out.2.2.1]
                exact HK.out
          · have c0 : wr.cell? ⟨b3, j * 3, none⟩ = _ := (cl 0).trans q0
            have HK := hid hK
            have ta := as98_98
            have hh5 : (wr.alloc (.cells #[.iface 98 (.pointer (some ⟨b4, 0, none⟩)), .int .i32 0, .int .i32 0] 96)).heap[b4]? = _ := (Below.heap_alloc _ _ _ hb4).trans hh4
            obtain ⟨d0, _⟩ := hcell hh5 0 _ rfl
            obtain ⟨d3, _⟩ := hcell hh5 3 _ rfl
            clear hf hb hgd hmem3 cl q0 q1 q2 hK hE hpb hh4 hh5
            have goon : deadK key = false → DdL w (fun j => deadK (m.getD j 0)) m.length g3 (.int .i64 ((j + 1 : Nat) : Int)) (wr.alloc (.cells #[.iface 98 (.pointer (some ⟨b4, 0, none⟩)), .int .i32 0, .int .i32 0] 96)) := fun hdk =>
              ⟨j + 1, by omega, rfl, fun k hk => by
                by_cases e : k < j
                · exact HB.out.1 k e
                · have e2 : k = j := by omega
                  subst e2
                  show deadK (m.getD k 0) = false
                  rw [HB.out.2.2.1]
                  exact hdk, HB.out.2.1.alloc HB.out.2.1.size _⟩
            have HGO := hid goon
            clear goon
            by_cases n0 : n4 = 0
            · subst n0
              by_cases k2 : k4 = 2 ∨ k4 = 9
              · have hdead : (cx.any fun m => m.any deadK) = true := by
                  refine List.any_eq_true.2 ⟨m, HF.out.2.2, List.any_eq_true.2 ⟨key, HB.out.2.2.2, ?_⟩⟩
                  rw [HK.out]
                  rcases k2 with rfl | rfl <;> rfl
                have HDD := hid hdead
                clear hdead
                rcases k2 with rfl | rfl
                all_goals
                  go_wp2_with fail
                  go_ret
                  exact ⟨by rw [HDD.out]; rfl, HB.out.2.1.alloc HB.out.2.1.size _⟩
              · have k9 : ¬ (k4 : Int) = 2 := by omega
                have k10 : ¬ (k4 : Int) = 9 := by omega
                have g9 : ((k4 : Int) == 2) = false := by first | (simp; omega) | (simp; done)
                have g10 : ((k4 : Int) == 9) = false := by first | (simp; omega) | (simp; done)
                have HK2 := hid k2
                clear k2
                go_wp2_with fail
                go_roundg g3
                case measure => omega
                case rel =>
                  refine HGO.out ?_
                  rw [HK.out]
                  have := HK2.out
                  simp only [Bool.and_eq_false_iff, Bool.or_eq_false_iff, decide_eq_false_iff_not]
                  omega
            · have k9 : ¬ (n4 : Int) = 0 := by omega
              have g9 : ((n4 : Int) == 0) = false := by first | (simp; omega) | (simp; done)
              have HN4 := hid n0
              clear n0
              go_wp2_with fail
              go_roundg g3
              case measure => omega
              case rel =>
                refine HGO.out ?_
                rw [HK.out]
                have := HN4.out
                simp only [Bool.and_eq_false_iff, decide_eq_false_iff_not]
                omega
end Go.Proofs.Ytphimfimnakclaa
