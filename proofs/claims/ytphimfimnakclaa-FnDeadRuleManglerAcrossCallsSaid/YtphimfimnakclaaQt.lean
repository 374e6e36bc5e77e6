/-
  Are all selectors of a rule dead. Conditions: each theorem's own.
-/
import Derived.Test.YtphimfimnakclaaQs
namespace Go.Proofs.Ytphimfimnakclaa
open Go.RowKit Go.Lib
set_option maxHeartbeats 16000000 in
set_option maxRecDepth 100000 in
theorem ad16 (a : Option Addr) (n c : Nat) (r : Rl) (P : Nat → Prop) (w : World) (hg : Good r) (hr : RowL (CxT SubT) w P (.slice a n c) r) :
    Calls Try.prog 16 #[.slice a n c] w fun e w' => DdR (deadR r) w e w' := by
  obtain ⟨rfl, _⟩ := hr.at'
  have HR := hid hr
  have HG := hid hg
  have HL0 := hid (show DdL w (fun i => !((r.getD i []).any fun m => m.any deadK)) r.length r.length (.int .i64 0) w from ⟨0, by simp, rfl, (fun k hk => by omega), Below.refl _ _⟩)
  clear hr hg
  go_enter Try.func16, Try.ntmps16
  go_wp2_with fail
  go_loopg [7] r.length (fun g v7 wx => DdL w (fun i => !((r.getD i []).any fun m => m.any deadK)) r.length g v7 wx)
  case atStart => exact HL0.out
  case round =>
    obtain ⟨i, hig, rfl, hf, hb⟩ := hrel.ex
    clear hrel HL0
    cases gk with
    | zero =>
      have hi : i = r.length := by omega
      have hcd : ¬ ((i : Int) < (r.length : Int)) := by omega
      have HQ := hid (And.intro hi (And.intro hf hb))
      clear hi hb hig hf
      go_wp2_with fail
      go_ret
      refine ⟨?_, HQ.out.2.2⟩
      have e : deadR r = true := by
        refine List.all_eq_true.2 fun cx hcx => ?_
        obtain ⟨k, hk, rfl⟩ := List.getElem_of_mem hcx
        have := HQ.out.2.1 k (by rw [HQ.out.1]; exact hk)
        simpa only [List.getD_eq_getElem?_getD, List.getElem?_eq_getElem hk, Option.getD_some, Bool.not_eq_false'] using this
      rw [e]
      rfl
    | succ g =>
      have hil : i < r.length := by omega
      have hcd : (i : Int) < (r.length : Int) := by omega
      obtain ⟨b, rfl, hpb, hbl, s, hs, hrow⟩ := HR.out.at'.2 i hil
      have hcg := HG.out.2 r[i] (List.getElem_mem hil)
      have hgd : r.getD i [] = r[i] := by rw [List.getD_eq_getElem?_getD, List.getElem?_eq_getElem hil, Option.getD_some]
      have hmem := List.getElem_mem hil
      generalize r[i] = cx at *
      obtain ⟨va, vc, rfl, _⟩ := id hrow
      have c1 : wr.cell? ⟨b, i, none⟩ = some (.slice va cx.length vc) := (hb.cell (p := ⟨b, i, none⟩) hbl).trans (by simpa using hs)
      have hW : Below w.heap.size w (wr.alloc (.cells #[.slice va cx.length vc] 56)) := hb.alloc hb.size _
      have C := hid (cd20 va cx.length vc cx P (wr.alloc (.cells #[.slice va cx.length vc] 56)) hcg (hrow.below hW))
      have HH := hid (And.intro hf (And.intro hW (And.intro hgd hmem)))
      have hr3 := HG.out.1
      have e9 : IntKind.i64.wrap ((i : Int) + 1) = ((i + 1 : Nat) : Int) := by rw [IntKind.wrap_i64]; omega
      clear hf hb hgd hmem hrow hs hpb hW
      go_wp2_with fail
      refine C.out.mono ?_
      rintro e w5 hR
      obtain ⟨rfl, hB⟩ := hR.ex
      obtain ⟨hf, hW, hgd, hmem⟩ := HH.out
      have HB := hid (hW.trans (hB.mono hW.size))
      obtain ⟨d, hd⟩ : ∃ d, (cx.any fun m => m.any deadK) = d := ⟨_, rfl⟩
      rw [hd]
      have HD := hid hd
      clear C hR hB hW hf hgd hmem hd c1
      cases d
      · go_wp2_with fail
        go_ret
        refine ⟨?_, HB.out⟩
        have e : deadR r = false := by
          refine List.all_eq_false.2 ⟨cx, HH.out.2.2.2, ?_⟩
          rw [HD.out]
          simp
        rw [e]
        rfl
      · go_wp2_with fail
        go_roundg g
        case measure => omega
        case rel =>
          refine ⟨i + 1, by omega, rfl, fun k hk => ?_, HB.out⟩
          by_cases e : k < i
          · exact HH.out.1 k e
          · have e2 : k = i := by omega
            subst e2
            show (!((r.getD k []).any fun m => m.any deadK)) = false
            rw [HH.out.2.2.1, HD.out]
            rfl
end Go.Proofs.Ytphimfimnakclaa
