/-
  The hash of complex selectors walked. Conditions: each theorem's own.
-/
import Derived.Test.YtphimfimnakclaaQn
namespace Go.Proofs.Ytphimfimnakclaa
open Go.RowKit Go.Lib
theorem wrap32 (n : Nat) (h : n ≤ 65536) : IntKind.u32.wrap (n : Int) = (n : Int) := by
  unfold IntKind.wrap
  simp [IntKind.bits, IntKind.signed]
  omega
set_option maxHeartbeats 16000000 in
set_option maxRecDepth 100000 in
theorem hx51 (S : Elt Nat 3) (hsub : Nat → Int) (hS : HashOK S hsub) (x : Int) (a : Option Addr) (n c : Nat) (r : Rl) (P : Nat → Prop) (w : World) (hg : Good r) (hr : RowL (CxT S) w P (.slice a n c) r) :
    Calls Try.prog 51 #[.int .u32 x, .slice a n c] w fun e w' => HsR (hRs hsub x r) w e w' := by
  obtain ⟨rfl, hrr⟩ := hr.at'
  have HR := hid hr
  have HS := hid hS
  have HG := hid hg
  have HL0 := hid (show HxL w (fun i => (r.take i).foldl (hCx hsub) x) r.length r.length (.int .u32 x) (.int .i64 0) w from ⟨0, by simp, rfl, rfl, Below.refl _ _⟩)
  clear hr hrr hS hg
  go_enter Try.func51, Try.ntmps51
  go_wp2_with fail
  go_loopg [0, 13] r.length (fun g v0 v13 wx => HxL w (fun i => (r.take i).foldl (hCx hsub) x) r.length g v0 v13 wx)
  case atStart => exact HL0.out
  case round =>
    obtain ⟨i, hig, rfl, rfl, hb⟩ := hrel.ex
    clear hrel HL0
    cases gk with
    | zero =>
      have hi : i = r.length := by omega
      have hcd : ¬ ((i : Int) < (r.length : Int)) := by omega
      have HQ := hid (And.intro hi hb)
      clear hi hb hig
      go_wp2_with fail
      exact bodyPost_ret (v := .int .u32 ((r.take i).foldl (hCx hsub) x)) (by simp [results, Try.results51, go_sem]) rfl ⟨by have := HQ.out.1; subst this; rw [List.take_length]; rfl, HQ.out.2⟩
    | succ g =>
      have hil : i < r.length := by omega
      have hcd : (i : Int) < (r.length : Int) := by omega
      obtain ⟨b, rfl, hpb, hbl, s, hs, hrow⟩ := HR.out.at'.2 i hil
      have hcg := HG.out.2 r[i] (List.getElem_mem hil)
      have hft := foldl_take (hCx hsub) x r i hil
      generalize r[i] = cx at *
      obtain ⟨va, vc, rfl, _⟩ := id hrow
      have c1 : wr.cell? ⟨b, i, none⟩ = some (.slice va cx.length vc) := (hb.cell (p := ⟨b, i, none⟩) hbl).trans (by simpa using hs)
      have hcl := hcg.1
      have e1 := wrap32 cx.length (by omega)
      generalize (r.take i).foldl (hCx hsub) x = X at *
      obtain ⟨W, hW⟩ : ∃ W, W = wr.alloc (.cells #[.slice va cx.length vc] 56) := ⟨_, rfl⟩
      have hbW : Below w.heap.size w W := by rw [hW]; exact hb.alloc hb.size _
      have HL1 := hid (show HxL w (fun k => (cx.take k).foldl (hCp hsub) (hc X (cx.length : Nat))) cx.length cx.length (.int .u32 (hc X (cx.length : Nat))) (.int .i64 0) W from ⟨0, by simp, rfl, rfl, hbW⟩)
      have HROW := hid hrow
      have HCG := hid hcg
      have HFT := hid hft
      have e9 : IntKind.i64.wrap ((i : Int) + 1) = ((i + 1 : Nat) : Int) := by rw [IntKind.wrap_i64]; have := HG.out.1; omega
      clear hrow hcg hft hs hpb hb hbW
      go_wp2_with (go_at_call 50; go_must (refine (hc50 _ _ _).mono ?_); rintro _ _ ⟨rfl, rfl⟩)
      rw [← hW]
      clear hW c1 e1
      go_loopg [0, 26] cx.length (fun g v0 v26 wx => HxL w (fun k => (cx.take k).foldl (hCp hsub) (hc X (cx.length : Nat))) cx.length g v0 v26 wx)
      case atStart => exact HL1.out
      case round =>
        obtain ⟨k, hkg, rfl, rfl, hb⟩ := hrel.ex
        clear hrel HL1
        cases gk with
        | zero =>
          have hi : k = cx.length := by omega
          have hcd : ¬ ((k : Int) < (cx.length : Int)) := by omega
          have HQ := hid (And.intro hi hb)
          clear hi hb hkg
          go_wp2_with fail
          go_roundg g
          case measure => omega
          case rel => exact ⟨i + 1, by omega, rfl, by rw [HFT.out]; have := HQ.out.1; subst this; rw [List.take_length]; rfl, HQ.out.2⟩
        | succ g2 =>
          have hil2 : k < cx.length := by omega
          have hcd : (k : Int) < (cx.length : Int) := by omega
          obtain ⟨b2, rfl, hpb, hbl2, q0, ⟨s, q1, hrow⟩, q2, q3, q4, q5⟩ := HROW.out.at'.2 k hil2
          have hmg := HCG.out.2 cx[k] (List.getElem_mem hil2)
          have hft := foldl_take (hCp hsub) (hc X (cx.length : Nat)) cx k hil2
          generalize cx[k] = m at *
          obtain ⟨ma, mc, rfl, _⟩ := id hrow
          have cl : ∀ t, wr.cell? ⟨b2, k * 6 + t, none⟩ = w.cell? ⟨b2, k * 6 + t, none⟩ := fun t => hb.cell (p := ⟨b2, k * 6 + t, none⟩) hbl2
          have c0 : wr.cell? ⟨b2, k * 6, none⟩ = some (.pointer none) := (cl 0).trans q0
          have c1 := (cl 1).trans q1
          have c2 := (cl 2).trans q2
          have c3 := (cl 3).trans q3
          have c4 := (cl 4).trans q4
          have c5 := (cl 5).trans q5
          have e1 := wrap32 m.length (by omega)
          generalize (cx.take k).foldl (hCp hsub) (hc X (cx.length : Nat)) = Y at *
          obtain ⟨W2, hW2⟩ : ∃ W, W = wr.alloc (.cells #[.pointer none, .slice ma m.length mc, .slice none 0 0, .int .i32 0, .int .u8 0, .bool false] 85) := ⟨_, rfl⟩
          have hbW : Below w.heap.size w W2 := by rw [hW2]; exact hb.alloc hb.size _
          have hN : W2.heap[wr.heap.size]? = some (.cells #[.pointer none, .slice ma m.length mc, .slice none 0 0, .int .i32 0, .int .u8 0, .bool false] 85 (0, 0)) := by rw [hW2]; exact heap_alloc_new _ _
          have HL2 := hid (show HxL W2 (fun k => (m.take k).foldl (fun x k => hc x (hsub k)) (hc (hc Y 0) (m.length : Nat))) m.length m.length (.int .u32 (hc (hc Y 0) (m.length : Nat))) (.int .i64 0) W2 from ⟨0, by simp, rfl, rfl, Below.refl _ _⟩)
          have HROW2 := hid hrow
          have HFT2 := hid hft
          have HBW := hid (And.intro hbW hN)
          clear hrow hft hpb hb hbW cl q0 q1 q2 q3 q4 q5 hN
          go_wp2_with (go_at_call 50; go_must (refine (hc50 _ _ _).mono ?_); rintro _ _ ⟨rfl, rfl⟩)
          rw [← hW2]
          clear hW2 c0 c1 c2 c3 c4 c5 e1
          go_loopg [0, 52] m.length (fun g v0 v52 wx => HxL W2 (fun k => (m.take k).foldl (fun x k => hc x (hsub k)) (hc (hc Y 0) (m.length : Nat))) m.length g v0 v52 wx)
          case atStart => exact HL2.out
          case round =>
            obtain ⟨j, hjg, rfl, rfl, hb⟩ := hrel.ex
            clear hrel HL2
            cases gk with
            | zero =>
              have hi : j = m.length := by omega
              have hcd : ¬ ((j : Int) < (m.length : Int)) := by omega
              have hN2 := (hb.block _ (heap_lt HBW.out.2)).trans HBW.out.2
              obtain ⟨c4, _⟩ := hcell hN2 4 _ rfl
              have HQ := hid (And.intro hi hb)
              have e9 : IntKind.i64.wrap ((k : Int) + 1) = ((k + 1 : Nat) : Int) := by rw [IntKind.wrap_i64]; omega
              clear hi hb hjg hN2
              go_wp2_with (go_at_call 50; go_must (refine (hc50 _ _ _).mono ?_); rintro _ _ ⟨rfl, rfl⟩)
              go_roundg g2
              case measure => omega
              case rel => exact ⟨k + 1, by omega, rfl, by rw [HFT2.out]; have := HQ.out.1; subst this; rw [List.take_length]; rfl, HBW.out.1.trans (HQ.out.2.mono HBW.out.1.size)⟩
            | succ g3 =>
              have hil3 : j < m.length := by omega
              have hcd : (j : Int) < (m.length : Int) := by omega
              obtain ⟨b3, rfl, hpb, hbl3, hE⟩ := HROW2.out.at'.2 j hil3
              have hft := foldl_take (fun x k => hc x (hsub k)) (hc (hc Y 0) (m.length : Nat)) m j hil3
              generalize m[j] = key at *
              have hbw := HBW.out.1.trans (hb.mono HBW.out.1.size)
              have cl : ∀ t, wr.cell? ⟨b3, j * 3 + t, none⟩ = w.cell? ⟨b3, j * 3 + t, none⟩ := fun t => hbw.cell (p := ⟨b3, j * 3 + t, none⟩) hbl3
              obtain ⟨q1, q2, hD⟩ := HS.out.h hE
              have c1 := (cl 1).trans q1
              have c2 := (cl 2).trans q2
              have e9 : IntKind.i64.wrap ((j : Int) + 1) = ((j + 1 : Nat) : Int) := by rw [IntKind.wrap_i64]; omega
              generalize (m.take j).foldl (fun x k => hc x (hsub k)) (hc (hc Y 0) (m.length : Nat)) = Z at *
              have HFT3 := hid hft
              have HB := hid (And.intro hb hbw)
              have m65 := meth65
              have m60 := meth60
              rcases hD with ⟨b4, q0, hC⟩ | ⟨b4, q0, hC⟩
              all_goals
                have c0 : wr.cell? ⟨b3, j * 3, none⟩ = _ := (cl 0).trans q0
                have HC := hid hC
                clear hft hb hbw cl q0 q1 q2 hC hE hpb
                go_wp2_with fail
                refine (HC.out _ (HB.out.2.alloc HB.out.2.size _)).mono ?_
                rintro e w5 hR
                obtain ⟨rfl, hB5⟩ := hR.ex
                have HB5 := hid ((HB.out.1.alloc HB.out.1.size _).trans (hB5.mono (HB.out.1.alloc HB.out.1.size _).size))
                clear hR hB5 HC c0 c1 c2
                go_wp2_with (go_at_call 50; go_must (refine (hc50 _ _ _).mono ?_); rintro _ _ ⟨rfl, rfl⟩)
                go_roundg g3
                case measure => omega
                case rel => exact ⟨j + 1, by omega, rfl, by rw [HFT3.out], HB5.out⟩
end Go.Proofs.Ytphimfimnakclaa
