/-
  Two rows of rules, the same. Conditions: each theorem's own.
-/
import Derived.Test.YtjebnjjhdefejaaGreatFmtNe
import Derived.Test.YtjebnjjhdefejaaGreatFmtNd
import Derived.Test.YtjebnjjhdefejaaGreatFmtDt
namespace Go.Proofs.YtjebnjjhdefejaaGreatFmt
open Go.RowKit Go.Lib Go.ChangeMaps
/-- a lowered rule as the reading functions see it -/
theorem elt_read {d : Nat} {w : World} {P : Nat → Prop} {c : Cells} {t : Tr} (h : (OutE (d + 1)).E w P c t) : ∃ T b a n cc, c 0 = some (.iface T (.pointer (some ⟨b, 0, none⟩))) ∧ c 1 = some (.int .i32 t.loc) ∧
    (∀ w', Below w.heap.size w w' → Calls Tryz.prog 21 #[.agg #[.iface T (.pointer (some ⟨b, 0, none⟩)), .int .i32 t.loc]] w' fun e w'' => I32R t.loc w' e w'') ∧
    (∀ w', Below w.heap.size w w' → Calls Tryz.prog 22 #[.agg #[.iface T (.pointer (some ⟨b, 0, none⟩)), .int .i32 t.loc]] w' fun e w'' => TuR (.tuple #[.int .i64 (t.kind : Nat), .slice a n cc]) w' e w'') ∧
    RowL (OutE d) w P (.slice a n cc) t.kids := by
  obtain ⟨e1, ⟨k, c0, b, e0⟩ | ⟨k, b, s, rs, x, e0, hp, hb, hh, hr⟩ | ⟨k, b, rs, arr, e0, hp, hb, hh, ha, hr⟩⟩ := h
  · refine ⟨103, b, none, 0, 0, e0, e1, fun w' _ => lo14 b _ w', fun w' _ => (ki15 b _ w').mono ?_, by rw [c0]; exact RowL.nil _ _ _ _⟩
    rintro e w2 hR
    obtain ⟨rfl, h2⟩ := hR.ex
    rw [k]
    exact ⟨rfl, h2⟩
  · obtain ⟨a, cc, rfl, hx⟩ := hr
    refine ⟨110, b, a, _, cc, e0, e1, fun w' _ => lo_s b _ w', fun w' hw => ?_, ⟨a, cc, rfl, hx⟩⟩
    rw [k]
    exact ki_s b _ w' s a _ cc x ((hw.block _ hb).trans hh)
  · obtain ⟨a, cc, rfl, hx⟩ := hr
    refine ⟨115, b, a, _, cc, e0, e1, fun w' _ => lo_k b _ w', fun w' hw => ?_, ⟨a, cc, rfl, hx⟩⟩
    rw [k]
    exact ki_k b _ w' arr a _ cc ((hw.block _ hb).trans hh) ha
def SamP (d : Nat) : Prop := ∀ (w : World) (ts : List Tr) (rg rm : Value) (P1 P2 : Nat → Prop), RowL (OutE d) w P1 rg ts → RowL (MdE d) w P2 rm ts → ts.length ≤ 1000000 → Calls Tryz.prog 15 #[rg, rm] w fun e w' => BoR true w e w'
set_option maxHeartbeats 16000000 in
set_option maxRecDepth 100000 in
theorem sam_step (d : Nat) (H : ∀ d', d = d' + 1 → SamP d') : SamP d := by
  intro w ts rg rm P1 P2 hR hM hL
  obtain ⟨ga, gc, rfl, hRx⟩ := hR
  obtain ⟨ma, mc, rfl, hMx⟩ := hM
  obtain ⟨L, hLL⟩ : ∃ L, L = ts.length := ⟨_, rfl⟩
  rw [← hLL] at hL ⊢
  have H0 := hid (show EqL w (fun _ => True) L L (.int .i64 0) w from ⟨0, by omega, rfl, fun _ _ => trivial, Below.refl _ _⟩)
  have HH := hid (And.intro hRx (And.intro hMx (And.intro hL hLL)))
  have HI := hid H
  clear hRx hMx hL hLL H
  go_enter Tryz.func15, Tryz.ntmps15
  go_upto_region 4 with fail
  go_loopg [5] L (fun g v5 wx => EqL w (fun _ => True) L g v5 wx)
  case atStart => exact H0.out
  case round =>
    obtain ⟨j, hjg, rfl, _, hb⟩ := hrel.ex
    cases gk with
    | zero =>
      obtain rfl : j = L := by omega
      have hcd : ¬ (j : Int) < (j : Int) := by omega
      have HB := hid hb
      clear hrel H0 hb
      go_wp2_with fail
      exact bodyPost_ret (v := .bool true) (by simp [results, Tryz.results15, go_sem]) rfl ⟨rfl, HB.out⟩
    | succ g =>
      obtain ⟨hRx, hMx, hL, hLL⟩ := HH.out
      have hjt : j < ts.length := by omega
      obtain ⟨rb, rfl, r1, r2, r3⟩ := hRx j hjt
      obtain ⟨mb, rfl, m1, m2, m3⟩ := hMx j hjt
      obtain ⟨t, ht⟩ : ∃ t, t = ts[j] := ⟨_, rfl⟩
      rw [← ht] at r3 m3
      obtain ⟨d', rfl⟩ : ∃ d', d = d' + 1 := by
        cases d with
        | zero => exact r3.elim
        | succ d => exact ⟨d, rfl⟩
      have r3' := (OutE (d' + 1)).keep (Keep.below P1 (w := w) (w' := wr) hb) r3
      have m3' := (MdE (d' + 1)).keep (Keep.below P2 (w := w) (w' := wr) hb) m3
      obtain ⟨T, b, ka, kn, kc, q0, q1, CLO, CKI, hrk⟩ := elt_read r3'
      obtain ⟨m0, mk, mkl, mv, mvv, hmk⟩ := m3'
      have IH := hid (HI.out d' rfl)
      have hblk : ∀ g o, g < w.heap.size → wr.cell? ⟨g, o, none⟩ = w.cell? ⟨g, o, none⟩ := fun g o hg => cellLow (hb.block g hg) o
      have q0' : wr.cell? ⟨rb, j * 2, none⟩ = some (.iface T (.pointer (some ⟨b, 0, none⟩))) := (hblk rb _ r2).trans q0
      have q1' : wr.cell? ⟨rb, j * 2 + 1, none⟩ = some (.int .i32 t.loc) := (hblk rb _ r2).trans q1
      have m0' : wr.cell? ⟨mb, j * 3, none⟩ = some (.int .i32 t.loc) := (hblk mb _ m2).trans m0
      have mk' : wr.cell? ⟨mb, j * 3 + 1, none⟩ = some (.int .i64 (t.kind : Nat)) := (hblk mb _ m2).trans mk
      have mv' : wr.cell? ⟨mb, j * 3 + 2, none⟩ = some mv := (hblk mb _ m2).trans mvv
      have hrl : rb < wr.heap.size := Nat.lt_of_lt_of_le r2 hb.size
      have hml : mb < wr.heap.size := Nat.lt_of_lt_of_le m2 hb.size
      obtain ⟨x, hx⟩ : ∃ x, x = t.loc := ⟨_, rfl⟩
      obtain ⟨kk, hkk⟩ : ∃ kk, kk = t.kind := ⟨_, rfl⟩
      rw [← hx] at q1' m0' CLO CKI
      rw [← hkk] at mk' CKI
      obtain ⟨va, vc, rfl, hmk2⟩ := hmk
      obtain ⟨vn, hvn⟩ : ∃ vn, vn = t.kids.length := ⟨_, rfl⟩
      rw [← hvn] at mv'
      have HQ := hid (And.intro q0' (And.intro q1' (And.intro m0' (And.intro mk' (And.intro mv' (And.intro hrl hml))))))
      have HC := hid (And.intro CLO CKI)
      have HS := hid (show ∀ w2, Below wr.heap.size wr w2 → Calls Tryz.prog 15 #[.slice ka kn kc, .slice va vn vc] w2 fun e w' => BoR true w2 e w' from fun w2 h2 => by
        rw [hvn]
        exact IH.out w2 t.kids _ _ P1 P2 (hrk.below h2) (RowL.below h2 ⟨va, vc, rfl, hmk2⟩) mkl)
      have HB := hid (And.intro hb hjg)
      have hc : (j : Int) < (L : Int) := by omega
      have hjL : (j : Int) < (L : Int) := hc
      have e1 : IntKind.i64.wrap ((j : Int) + 1) = ((j + 1 : Nat) : Int) := by rw [IntKind.wrap_i64]; omega
      have HE := hid (And.intro hc e1)
      clear hrel H0 hRx hMx hL hLL hjt r1 r2 r3 m1 m2 m3 ht r3' q0 q1 CLO CKI hrk m0 mk mkl mvv hmk2 IH hblk q0' q1' m0' mk' mv' hrl hml hx hkk hvn hb hjg e1
      go_upto_region 6 with fail
      clear hc
      refine wp_region_rel [(some 19, .slice (some ⟨rb, 0, none⟩) L gc), (some 20, .int .i64 (j : Nat)), (some 21, .pointer (some ⟨rb, j * 2, none⟩)), (some 22, .agg #[.iface T (.pointer (some ⟨b, 0, none⟩)), .int .i32 (x : Int)]), (some 23, .int .i32 (x : Int)), (some 24, .slice (some ⟨mb, 0, none⟩) L mc), (some 25, .int .i64 (j : Nat)), (some 26, .pointer (some ⟨mb, j * 3, none⟩)), (some 27, .pointer (some ⟨mb, j * 3, none⟩)), (some 28, .int .i32 (x : Int)), (some 29, .bool false)] (fun X => Below wr.heap.size wr X) 53 (by kernel_rfl) (by kernel_rfl) (by kernel_rfl) (by kernel_rfl) ?h06 (by kernel_rfl) ?hop6 ?hend6
      case hop6 =>
        intro i o az wz ho hR hd hf KK hK
        have hin : i = 0 ∨ i = 1 ∨ i = 2 ∨ i = 3 ∨ i = 4 ∨ i = 5 ∨ i = 6 ∨ i = 7 ∨ i = 8 ∨ i = 9 ∨ i = 10 := by
          rcases Nat.lt_or_ge i 11 with h | h
          · omega
          · rw [Array.getElem?_eq_none h] at ho
            cases ho
        rcases hin with rfl | rfl | rfl | rfl | rfl | rfl | rfl | rfl | rfl | rfl | rfl
        · simp only [List.getElem?_toArray, List.getElem?_cons_zero, Option.some.injEq] at ho
          subst ho
          have v0 : az.eval (.tmp 0) = .slice (some ⟨rb, 0, none⟩) L gc := (hf 0 (by kernel_rfl)).trans (by kernel_rfl)
          have u0 : az.tmps[0]?.getD undef = .slice (some ⟨rb, 0, none⟩) L gc := by rw [← Array.getD_eq_getD_getElem?]; exact v0
          clear v0
          clear hd hf
          replace hK : ∀ w', (fun X => Below wr.heap.size wr X) w' → KK (az.put (some 19) (.slice (some ⟨rb, 0, none⟩) L gc)) w' := hK
          have HK2 := Lib.hid hK
          clear hK
          show if Region.wanted _ (yielded _ az.tmps) = true then Oper.wp _ _ az wz KK _ else _
          go_simp
          exact HK2.out _ hR
        · simp only [List.getElem?_toArray, List.getElem?_cons_zero, List.getElem?_cons_succ, Option.some.injEq] at ho
          subst ho
          have v0 : az.eval (.tmp 5) = .int .i64 (j : Nat) := (hf 5 (by kernel_rfl)).trans (by kernel_rfl)
          have u0 : az.tmps[5]?.getD undef = .int .i64 (j : Nat) := by rw [← Array.getD_eq_getD_getElem?]; exact v0
          clear v0
          clear hd hf
          replace hK : ∀ w', (fun X => Below wr.heap.size wr X) w' → KK (az.put (some 20) (.int .i64 (j : Nat))) w' := hK
          have HK2 := Lib.hid hK
          clear hK
          show if Region.wanted _ (yielded _ az.tmps) = true then Oper.wp _ _ az wz KK _ else _
          go_simp
          exact HK2.out _ hR
        · simp only [List.getElem?_toArray, List.getElem?_cons_zero, List.getElem?_cons_succ, Option.some.injEq] at ho
          subst ho
          have v0 : az.eval (.tmp 19) = .slice (some ⟨rb, 0, none⟩) L gc := hd 0 19 (by kernel_rfl) (by kernel_rfl)
          have u0 : az.tmps[19]?.getD undef = .slice (some ⟨rb, 0, none⟩) L gc := by rw [← Array.getD_eq_getD_getElem?]; exact v0
          clear v0
          have v1 : az.eval (.tmp 20) = .int .i64 (j : Nat) := hd 1 20 (by kernel_rfl) (by kernel_rfl)
          have u1 : az.tmps[20]?.getD undef = .int .i64 (j : Nat) := by rw [← Array.getD_eq_getD_getElem?]; exact v1
          clear v1
          clear hd hf
          replace hK : ∀ w', (fun X => Below wr.heap.size wr X) w' → KK (az.put (some 21) (.pointer (some ⟨rb, j * 2, none⟩))) w' := hK
          have HK2 := Lib.hid hK
          clear hK
          show if Region.wanted _ (yielded _ az.tmps) = true then Oper.wp _ _ az wz KK _ else _
          go_simp
          exact HK2.out _ hR
        · simp only [List.getElem?_toArray, List.getElem?_cons_zero, List.getElem?_cons_succ, Option.some.injEq] at ho
          subst ho
          have v0 : az.eval (.tmp 21) = .pointer (some ⟨rb, j * 2, none⟩) := hd 2 21 (by kernel_rfl) (by kernel_rfl)
          have u0 : az.tmps[21]?.getD undef = .pointer (some ⟨rb, j * 2, none⟩) := by rw [← Array.getD_eq_getD_getElem?]; exact v0
          clear v0
          clear hd hf
          replace hK : ∀ w', (fun X => Below wr.heap.size wr X) w' → KK (az.put (some 22) (.agg #[.iface T (.pointer (some ⟨b, 0, none⟩)), .int .i32 (x : Int)])) w' := hK
          have HK2 := Lib.hid hK
          clear hK
          obtain ⟨q0', q1', m0', mk', mv', hrl, hml⟩ := HQ.out
          have r0 := (cellLow (hR.block _ hrl) _).trans q0'
          have r1 := (cellLow (hR.block _ hrl) _).trans q1'
          have hy := Nat.lt_of_lt_of_le hrl hR.size
          clear q0' q1' m0' mk' mv' hrl hml
          show if Region.wanted _ (yielded _ az.tmps) = true then Oper.wp _ _ az wz KK _ else _
          go_simp
          exact HK2.out _ hR
        · simp only [List.getElem?_toArray, List.getElem?_cons_zero, List.getElem?_cons_succ, Option.some.injEq] at ho
          subst ho
          have v0 : az.eval (.tmp 22) = .agg #[.iface T (.pointer (some ⟨b, 0, none⟩)), .int .i32 (x : Int)] := hd 3 22 (by kernel_rfl) (by kernel_rfl)
          have u0 : az.tmps[22]?.getD undef = .agg #[.iface T (.pointer (some ⟨b, 0, none⟩)), .int .i32 (x : Int)] := by rw [← Array.getD_eq_getD_getElem?]; exact v0
          clear v0
          clear hd hf
          replace hK : ∀ w', (fun X => Below wr.heap.size wr X) w' → KK (az.put (some 23) (.int .i32 (x : Int))) w' := hK
          have HK2 := Lib.hid hK
          clear hK
          show if Region.wanted _ (yielded _ az.tmps) = true then Oper.wp _ _ az wz KK _ else _
          go_simp
          refine (HC.out.1 wz hR).mono ?_
          rintro e w' hq
          obtain ⟨rfl, hq2⟩ := hq.ex
          exact HK2.out _ (hR.trans (hq2.mono hR.size))
        · simp only [List.getElem?_toArray, List.getElem?_cons_zero, List.getElem?_cons_succ, Option.some.injEq] at ho
          subst ho
          have v0 : az.eval (.tmp 1) = .slice (some ⟨mb, 0, none⟩) L mc := (hf 1 (by kernel_rfl)).trans (by kernel_rfl)
          have u0 : az.tmps[1]?.getD undef = .slice (some ⟨mb, 0, none⟩) L mc := by rw [← Array.getD_eq_getD_getElem?]; exact v0
          clear v0
          clear hd hf
          replace hK : ∀ w', (fun X => Below wr.heap.size wr X) w' → KK (az.put (some 24) (.slice (some ⟨mb, 0, none⟩) L mc)) w' := hK
          have HK2 := Lib.hid hK
          clear hK
          show if Region.wanted _ (yielded _ az.tmps) = true then Oper.wp _ _ az wz KK _ else _
          go_simp
          exact HK2.out _ hR
        · simp only [List.getElem?_toArray, List.getElem?_cons_zero, List.getElem?_cons_succ, Option.some.injEq] at ho
          subst ho
          have v0 : az.eval (.tmp 5) = .int .i64 (j : Nat) := (hf 5 (by kernel_rfl)).trans (by kernel_rfl)
          have u0 : az.tmps[5]?.getD undef = .int .i64 (j : Nat) := by rw [← Array.getD_eq_getD_getElem?]; exact v0
          clear v0
          clear hd hf
          replace hK : ∀ w', (fun X => Below wr.heap.size wr X) w' → KK (az.put (some 25) (.int .i64 (j : Nat))) w' := hK
          have HK2 := Lib.hid hK
          clear hK
          show if Region.wanted _ (yielded _ az.tmps) = true then Oper.wp _ _ az wz KK _ else _
          go_simp
          exact HK2.out _ hR
        · simp only [List.getElem?_toArray, List.getElem?_cons_zero, List.getElem?_cons_succ, Option.some.injEq] at ho
          subst ho
          have v0 : az.eval (.tmp 24) = .slice (some ⟨mb, 0, none⟩) L mc := hd 5 24 (by kernel_rfl) (by kernel_rfl)
          have u0 : az.tmps[24]?.getD undef = .slice (some ⟨mb, 0, none⟩) L mc := by rw [← Array.getD_eq_getD_getElem?]; exact v0
          clear v0
          have v1 : az.eval (.tmp 25) = .int .i64 (j : Nat) := hd 6 25 (by kernel_rfl) (by kernel_rfl)
          have u1 : az.tmps[25]?.getD undef = .int .i64 (j : Nat) := by rw [← Array.getD_eq_getD_getElem?]; exact v1
          clear v1
          clear hd hf
          replace hK : ∀ w', (fun X => Below wr.heap.size wr X) w' → KK (az.put (some 26) (.pointer (some ⟨mb, j * 3, none⟩))) w' := hK
          have HK2 := Lib.hid hK
          clear hK
          show if Region.wanted _ (yielded _ az.tmps) = true then Oper.wp _ _ az wz KK _ else _
          go_simp
          exact HK2.out _ hR
        · simp only [List.getElem?_toArray, List.getElem?_cons_zero, List.getElem?_cons_succ, Option.some.injEq] at ho
          subst ho
          have v0 : az.eval (.tmp 26) = .pointer (some ⟨mb, j * 3, none⟩) := hd 7 26 (by kernel_rfl) (by kernel_rfl)
          have u0 : az.tmps[26]?.getD undef = .pointer (some ⟨mb, j * 3, none⟩) := by rw [← Array.getD_eq_getD_getElem?]; exact v0
          clear v0
          clear hd hf
          replace hK : ∀ w', (fun X => Below wr.heap.size wr X) w' → KK (az.put (some 27) (.pointer (some ⟨mb, j * 3, none⟩))) w' := hK
          have HK2 := Lib.hid hK
          clear hK
          show if Region.wanted _ (yielded _ az.tmps) = true then Oper.wp _ _ az wz KK _ else _
          go_simp
          exact HK2.out _ hR
        · simp only [List.getElem?_toArray, List.getElem?_cons_zero, List.getElem?_cons_succ, Option.some.injEq] at ho
          subst ho
          have v0 : az.eval (.tmp 27) = .pointer (some ⟨mb, j * 3, none⟩) := hd 8 27 (by kernel_rfl) (by kernel_rfl)
          have u0 : az.tmps[27]?.getD undef = .pointer (some ⟨mb, j * 3, none⟩) := by rw [← Array.getD_eq_getD_getElem?]; exact v0
          clear v0
          clear hd hf
          replace hK : ∀ w', (fun X => Below wr.heap.size wr X) w' → KK (az.put (some 28) (.int .i32 (x : Int))) w' := hK
          have HK2 := Lib.hid hK
          clear hK
          obtain ⟨q0', q1', m0', mk', mv', hrl, hml⟩ := HQ.out
          have s0 := (cellLow (hR.block _ hml) _).trans m0'
          have hy := Nat.lt_of_lt_of_le hml hR.size
          clear q0' q1' m0' mk' mv' hrl hml
          show if Region.wanted _ (yielded _ az.tmps) = true then Oper.wp _ _ az wz KK _ else _
          go_simp
          exact HK2.out _ hR
        · simp only [List.getElem?_toArray, List.getElem?_cons_zero, List.getElem?_cons_succ, Option.some.injEq] at ho
          subst ho
          have v0 : az.eval (.tmp 23) = .int .i32 (x : Int) := hd 4 23 (by kernel_rfl) (by kernel_rfl)
          have u0 : az.tmps[23]?.getD undef = .int .i32 (x : Int) := by rw [← Array.getD_eq_getD_getElem?]; exact v0
          clear v0
          have v1 : az.eval (.tmp 28) = .int .i32 (x : Int) := hd 9 28 (by kernel_rfl) (by kernel_rfl)
          have u1 : az.tmps[28]?.getD undef = .int .i32 (x : Int) := by rw [← Array.getD_eq_getD_getElem?]; exact v1
          clear v1
          clear hd hf
          replace hK : ∀ w', (fun X => Below wr.heap.size wr X) w' → KK (az.put (some 29) (.bool false)) w' := hK
          have HK2 := Lib.hid hK
          clear hK
          show if Region.wanted _ (yielded _ az.tmps) = true then Oper.wp _ _ az wz KK _ else _
          go_simp
          exact HK2.out _ hR
      case h06 => exact (Below.refl _ _).drew
      intro wz hwz
      simp only [List.foldl_cons, List.foldl_nil]
      simp only [Act.put, List.setIfInBounds_toArray, List.set_cons_zero, List.set_cons_succ]
      have HWZ := hid hwz
      clear hwz
      have keepc : ∀ (X : World) (g o : Nat) (v : Value), Below wr.heap.size wr X → g < wr.heap.size → wr.cell? ⟨g, o, none⟩ = some v → X.cell? ⟨g, o, none⟩ = some v := fun X g o v hX hg hv => (cellLow (hX.block _ hg) _).trans hv
      obtain ⟨q0', q1', m0', mk', mv', hrl, hml⟩ := HQ.out
      have z0 := keepc _ _ _ _ HWZ.out hrl q0'
      have z1 := keepc _ _ _ _ HWZ.out hrl q1'
      have hrz := Nat.lt_of_lt_of_le hrl HWZ.out.size
      have CK := hid (HC.out.2 wz HWZ.out)
      clear q0' q1' m0' mk' mv' hrl hml
      have KC := hid keepc
      clear keepc
      go_wp2_with fail
      refine CK.out.mono ?_
      rintro e w2 hR2
      obtain ⟨rfl, hb2⟩ := hR2.ex
      obtain ⟨q0', q1', m0', mk', mv', hrl, hml⟩ := HQ.out
      have hb2' := HWZ.out.trans (hb2.mono HWZ.out.size)
      have y1 := KC.out _ _ _ _ hb2' hml mk'
      have y2 := KC.out _ _ _ _ hb2' hml mv'
      have hmz := Nat.lt_of_lt_of_le hml hb2'.size
      have CS := hid (HS.out w2 hb2')
      have HB2 := hid hb2'
      clear hR2 CK HS hb2 hb2' q0' q1' m0' mk' mv' hrl hml z0 z1 hrz
      go_wp2_with fail
      refine CS.out.mono ?_
      rintro e w3 hR3
      obtain ⟨rfl, hb3⟩ := hR3.ex
      obtain ⟨hb, hjg⟩ := HB.out
      have HN := hid (show EqL w (fun _ => True) L g (.int .i64 ((j + 1 : Nat) : Int)) w3 from ⟨j + 1, by omega, rfl, fun _ _ => trivial, hb.trans ((HB2.out.trans (hb3.mono HB2.out.size)).mono hb.size)⟩)
      obtain ⟨hc, e1⟩ := HE.out
      clear hR3 CS y1 y2 hmz hb3 hb hjg
      go_wp2_with fail
      go_roundg g
      case measure => omega
      case rel => exact HN.out
theorem samP : ∀ d, SamP d
  | 0 => sam_step 0 fun d' h => by omega
  | d + 1 => sam_step (d + 1) fun d' h => by
    obtain rfl : d = d' := by omega
    exact samP d
end Go.Proofs.YtjebnjjhdefejaaGreatFmt
