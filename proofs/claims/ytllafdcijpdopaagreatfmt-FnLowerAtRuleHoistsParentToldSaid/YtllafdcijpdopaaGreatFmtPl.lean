/-
  At-rules lowered. Conditions: each theorem's own.
-/
import Derived.Test.YtllafdcijpdopaaGreatFmtPj
import Derived.Test.YtllafdcijpdopaaGreatFmtDt
namespace Go.Proofs.YtllafdcijpdopaaGreatFmt
open Go.RowKit Go.Lib
attribute [local go_sem] ta_112_112 ta_112_50 ta_112_55 ta_112_59 ta_112_113 ta_50_112 ta_50_50 ta_50_55 ta_50_59 ta_50_113 ta_55_112 ta_55_50 ta_55_55 ta_55_59 ta_55_113 ta_59_112 ta_59_50 ta_59_55 ta_59_59 ta_59_113 ta_113_112 ta_113_50 ta_113_55 ta_113_59 ta_113_113 ta_nil_112 ta_nil_50 ta_nil_55 ta_nil_59 ta_nil_113 ta_169_169 ta_169_149 nn_112 ne_112 nn_50 ne_50 nn_55 ne_55 nn_59 ne_59 nn_113 ne_113 ne_nil nn_nil
structure LowS_k (Bl m : Nat) (D C : Nat) (q q2 : Value) (rules low : Value) (sa : Option Addr) (sn sc : Nat) (xl : List Value) (w : World) (e : Ending) (w' : World) : Prop where
  ex : ∃ S, e = .returned (.agg #[.nilIface, .int .i32 0]) ∧ Fin 59 62 (fun rv => #[q, q2, rv, .int .i32 0]) D C (.slice sa sn sc) low Bl m xl w (.slice (some ⟨S + 1, 0, none⟩) 1 1) [(S, .cells #[.slice sa sn sc, rules, .int .i32 0] 115), (S + 1, .cells #[.iface 112 (.pointer (some ⟨S, 0, none⟩)), .int .i32 0] 30)] w'

set_option maxHeartbeats 16000000 in
set_option maxRecDepth 100000 in
theorem low20k (B n Bl m : Nat) (hn : n ≤ 4096) (hm : m ≤ 4096) (h0 : 0 < n) (p : Option Addr) (D C : Nat) (q q2 : Value) (rules low : Value) (sa : Option Addr) (sn sc : Nat) (xl : List Value) (w : World)
    (hD : w.heap[D]? = some (.cells ((fun rv => #[q, q2, rv, .int .i32 0]) rules) 62 (0, 0))) (hC : w.heap[C]? = some (.cells #[.slice sa sn sc, .slice sa sn sc, low] 109 (0, 0))) (hDC : D ≠ C) (hr : DecO B n rules w) (hl : w.ownsRow Bl 30 2 low m xl) (hBl : Bl ≤ w.heap.size) :
    Calls Tryz.prog 20 #[.pointer p, .agg #[.iface 59 (.pointer (some ⟨D, 0, none⟩)), .int .i32 0], .pointer (some ⟨C, 0, none⟩)] w fun e w' => LowS_k Bl m D C q q2 rules low sa sn sc xl w e w' := by
  have HDD := hid hD
  have HCC := hid hC
  obtain ⟨ra, rc, rfl, hrc, _⟩ := hr.opn
  obtain ⟨la, lc, rfl⟩ : ∃ la lc, low = .slice la m lc := by
    rcases hl.2 with ⟨e, h0⟩ | ⟨g, cap, cur, e, _⟩
    · exact ⟨none, 0, by rw [e, h0]⟩
    · exact ⟨_, cap, e⟩
  have hDl := heap_lt hD
  have hCl := heap_lt hC
  obtain ⟨W, hW⟩ : ∃ W, W = ((w.alloc (.cells #[.iface 59 (.pointer (some ⟨D, 0, none⟩)), .int .i32 0] 30)).alloc (.cells #[.pointer (some ⟨C, 0, none⟩)] 111)).alloc (.cells #[.nilIface, .int .i32 0] 30) := ⟨_, rfl⟩
  have hWb : Below w.heap.size w W := by rw [hW]; exact (((Below.refl _ _).alloc (Nat.le_refl _) _).alloc (by simp) _).alloc (by simp; omega) _
  have hWs : W.heap.size = w.heap.size + 3 := by rw [hW]; simp
  obtain ⟨b0, b1, b2⟩ : W.heap[w.heap.size]? = some (.cells #[.iface 59 (.pointer (some ⟨D, 0, none⟩)), .int .i32 0] 30 (0, 0)) ∧ W.heap[w.heap.size + 1]? = some (.cells #[.pointer (some ⟨C, 0, none⟩)] 111 (0, 0)) ∧ W.heap[w.heap.size + 2]? = some (.cells #[.nilIface, .int .i32 0] 30 (0, 0)) := by
    rw [hW]
    refine ⟨?_, ?_, ?_⟩
    · rw [Below.heap_alloc _ _ _ (by simp; omega), Below.heap_alloc _ _ _ (by simp), heap_alloc_new]
    · have := heap_alloc_new (w.alloc (.cells #[.iface 59 (.pointer (some ⟨D, 0, none⟩)), .int .i32 0] 30)) (.cells #[.pointer (some ⟨C, 0, none⟩)] 111)
      rw [Below.heap_alloc _ _ _ (by simp)]
      simpa using this
    · have := heap_alloc_new ((w.alloc (.cells #[.iface 59 (.pointer (some ⟨D, 0, none⟩)), .int .i32 0] 30)).alloc (.cells #[.pointer (some ⟨C, 0, none⟩)] 111)) (.cells #[.nilIface, .int .i32 0] 30)
      simpa using this
  have HS0 : Hid (St 59 62 (fun rv => #[q, q2, rv, .int .i32 0]) D C (.slice sa sn sc) (.slice la m lc) w (.slice ra n rc) (.slice none 0 0) [] (W.alloc (.cells #[.slice sa sn sc, .slice sa sn sc, .slice none 0 0] 109))) := hid (by
    have a : ∀ g, g < W.heap.size → (W.alloc (.cells #[.slice sa sn sc, .slice sa sn sc, .slice none 0 0] 109)).heap[g]? = W.heap[g]? := fun g h => Below.heap_alloc _ _ _ h
    refine ⟨fun g hg _ _ => (a g (by omega)).trans (hWb.block g hg), ⟨hWb.os, hWb.tape, hWb.output⟩, by simp; omega, (a _ (by omega)).trans b0, (a _ (by omega)).trans b1, (a _ (by omega)).trans b2, ?_, ((a D (by omega)).trans (hWb.block D hDl)).trans hD, ((a C (by omega)).trans (hWb.block C hCl)).trans hC, fun p hp => by cases hp⟩
    have := heap_alloc_new W (.cells #[.slice sa sn sc, .slice sa sn sc, .slice none 0 0] 109)
    rw [hWs] at this
    exact this)
  have HC := hid ((hWb.block C hCl).trans hC)
  have HR := hid hr
  have HL := hid hl
  have HB1 := hid b1
  have hdd : ∀ r r', ((fun rv => #[q, q2, rv, .int .i32 0]) r).setIfInBounds 2 r' = (fun rv => #[q, q2, rv, .int .i32 0]) r' := fun r r' => by simp
  have HDC := hid hdd
  clear hr hD hC hWb b0 b1 b2 hl hdd
  go_enter Tryz.func20, Tryz.ntmps20
  go_wp2_with fail
  rw [← hW]
  obtain ⟨u5, _⟩ : W.cell? ⟨w.heap.size + 1, 0, none⟩ = some (.pointer (some ⟨C, 0, none⟩)) ∧ W.frozen? ⟨w.heap.size + 1, 0, none⟩ = false := hcell HB1.out 0 _ rfl
  obtain ⟨c0, _⟩ : W.cell? ⟨C, 0, none⟩ = some (.slice sa sn sc) ∧ W.frozen? ⟨C, 0, none⟩ = false := hcell HC.out 0 _ rfl
  obtain ⟨c1, _⟩ : W.cell? ⟨C, 1, none⟩ = some (.slice sa sn sc) ∧ W.frozen? ⟨C, 1, none⟩ = false := hcell HC.out 1 _ rfl
  have hC3 : C < W.heap.size := by omega
  have hC4 : C ≠ W.heap.size := by omega
  have hN1 : w.heap.size + 1 < W.heap.size := by omega
  have hN14 : w.heap.size + 1 ≠ W.heap.size := by omega
  have HWS := hid hWs
  clear hWs hW
  refine wp_region_dl [(some 269, .pointer (some ⟨C, 0, none⟩)), (some 270, .pointer (some ⟨C, 0, none⟩)), (some 271, .pointer (some ⟨C, 0, none⟩)), (some 272, .slice sa sn sc), (some 273, .pointer (some ⟨C, 0, none⟩)), (some 274, .pointer (some ⟨C, 0, none⟩)), (some 275, .pointer (some ⟨C, 1, none⟩)), (some 276, .slice sa sn sc), (some 277, .agg #[.slice sa sn sc, .slice sa sn sc, .slice none 0 0]), (some 32, .pointer (some ⟨W.heap.size, 0, none⟩)), (none, undef)] [9, 10] (fun j => ([W.drew, (W.alloc (.cells #[.slice none 0 0, .slice none 0 0, .slice none 0 0] 109)).drew, (W.alloc (.cells #[.slice sa sn sc, .slice sa sn sc, .slice none 0 0] 109)).drew] : List World).getD j W.drew) (fun i => [0, 0, 0, 0, 0, 0, 0, 0, 0, 0, 1].getD i 0) (fun i => [1, 1, 1, 1, 1, 1, 1, 1, 1, 0, 1].getD i 0) 461 (by kernel_rfl) (by kernel_rfl) (by kernel_rfl) (by kernel_rfl) (by decide) (by kernel_rfl) rfl (by kernel_rfl) ?hop76 ?hend76
  case hop76 =>
    intro i o j a ho h1 h2 hd hf K hK
    have hin : i = 0 ∨ i = 1 ∨ i = 2 ∨ i = 3 ∨ i = 4 ∨ i = 5 ∨ i = 6 ∨ i = 7 ∨ i = 8 ∨ i = 9 ∨ i = 10 := by
      rcases Nat.lt_or_ge i 11 with h | h
      · omega
      · rw [Array.getElem?_eq_none h] at ho
        cases ho
    rcases hin with rfl | rfl | rfl | rfl | rfl | rfl | rfl | rfl | rfl | rfl | rfl
    · simp only [List.getElem?_toArray, List.getElem?_cons_zero, Option.some.injEq] at ho
      subst ho
      have v0 : a.eval (.tmp 5) = .pointer (some ⟨w.heap.size + 1, 0, none⟩) := (hf 5 (by kernel_rfl)).trans (by kernel_rfl)
      have u0 : a.tmps[5]?.getD undef = .pointer (some ⟨w.heap.size + 1, 0, none⟩) := by rw [← Array.getD_eq_getD_getElem?]; exact v0
      clear v0
      have hj : j = 0 ∨ j = 1 := by simp at h1 h2; omega
      clear h1 h2 hd hf
      rcases hj with rfl | rfl
      · replace hK : K (a.put (some 269) (.pointer (some ⟨C, 0, none⟩))) (W.drew) := hK
        have HK := Lib.hid hK
        clear hK
        show if Region.wanted _ (yielded _ a.tmps) = true then Oper.wp _ _ a (W.drew) K _ else _
        go_simp
        exact HK.out
      · replace hK : K (a.put (some 269) (.pointer (some ⟨C, 0, none⟩))) ((W.alloc (.cells #[.slice none 0 0, .slice none 0 0, .slice none 0 0] 109)).drew) := hK
        have HK := Lib.hid hK
        clear hK
        show if Region.wanted _ (yielded _ a.tmps) = true then Oper.wp _ _ a ((W.alloc (.cells #[.slice none 0 0, .slice none 0 0, .slice none 0 0] 109)).drew) K _ else _
        go_simp
        exact HK.out
    · simp only [List.getElem?_toArray, List.getElem?_cons_zero, List.getElem?_cons_succ, Option.some.injEq] at ho
      subst ho
      have v0 : a.eval (.tmp 269) = .pointer (some ⟨C, 0, none⟩) := hd 0 269 (by kernel_rfl) (by kernel_rfl)
      have u0 : a.tmps[269]?.getD undef = .pointer (some ⟨C, 0, none⟩) := by rw [← Array.getD_eq_getD_getElem?]; exact v0
      clear v0
      have hj : j = 0 ∨ j = 1 := by simp at h1 h2; omega
      clear h1 h2 hd hf
      rcases hj with rfl | rfl
      · replace hK : K (a.put (some 270) (.pointer (some ⟨C, 0, none⟩))) (W.drew) := hK
        have HK := Lib.hid hK
        clear hK
        show if Region.wanted _ (yielded _ a.tmps) = true then Oper.wp _ _ a (W.drew) K _ else _
        go_simp
        exact HK.out
      · replace hK : K (a.put (some 270) (.pointer (some ⟨C, 0, none⟩))) ((W.alloc (.cells #[.slice none 0 0, .slice none 0 0, .slice none 0 0] 109)).drew) := hK
        have HK := Lib.hid hK
        clear hK
        show if Region.wanted _ (yielded _ a.tmps) = true then Oper.wp _ _ a ((W.alloc (.cells #[.slice none 0 0, .slice none 0 0, .slice none 0 0] 109)).drew) K _ else _
        go_simp
        exact HK.out
    · simp only [List.getElem?_toArray, List.getElem?_cons_zero, List.getElem?_cons_succ, Option.some.injEq] at ho
      subst ho
      have v0 : a.eval (.tmp 270) = .pointer (some ⟨C, 0, none⟩) := hd 1 270 (by kernel_rfl) (by kernel_rfl)
      have u0 : a.tmps[270]?.getD undef = .pointer (some ⟨C, 0, none⟩) := by rw [← Array.getD_eq_getD_getElem?]; exact v0
      clear v0
      have hj : j = 0 ∨ j = 1 := by simp at h1 h2; omega
      clear h1 h2 hd hf
      rcases hj with rfl | rfl
      · replace hK : K (a.put (some 271) (.pointer (some ⟨C, 0, none⟩))) (W.drew) := hK
        have HK := Lib.hid hK
        clear hK
        show if Region.wanted _ (yielded _ a.tmps) = true then Oper.wp _ _ a (W.drew) K _ else _
        go_simp
        exact HK.out
      · replace hK : K (a.put (some 271) (.pointer (some ⟨C, 0, none⟩))) ((W.alloc (.cells #[.slice none 0 0, .slice none 0 0, .slice none 0 0] 109)).drew) := hK
        have HK := Lib.hid hK
        clear hK
        show if Region.wanted _ (yielded _ a.tmps) = true then Oper.wp _ _ a ((W.alloc (.cells #[.slice none 0 0, .slice none 0 0, .slice none 0 0] 109)).drew) K _ else _
        go_simp
        exact HK.out
    · simp only [List.getElem?_toArray, List.getElem?_cons_zero, List.getElem?_cons_succ, Option.some.injEq] at ho
      subst ho
      have v0 : a.eval (.tmp 271) = .pointer (some ⟨C, 0, none⟩) := hd 2 271 (by kernel_rfl) (by kernel_rfl)
      have u0 : a.tmps[271]?.getD undef = .pointer (some ⟨C, 0, none⟩) := by rw [← Array.getD_eq_getD_getElem?]; exact v0
      clear v0
      have hj : j = 0 ∨ j = 1 := by simp at h1 h2; omega
      clear h1 h2 hd hf
      rcases hj with rfl | rfl
      · replace hK : K (a.put (some 272) (.slice sa sn sc)) (W.drew) := hK
        have HK := Lib.hid hK
        clear hK
        show if Region.wanted _ (yielded _ a.tmps) = true then Oper.wp _ _ a (W.drew) K _ else _
        go_simp
        exact HK.out
      · replace hK : K (a.put (some 272) (.slice sa sn sc)) ((W.alloc (.cells #[.slice none 0 0, .slice none 0 0, .slice none 0 0] 109)).drew) := hK
        have HK := Lib.hid hK
        clear hK
        show if Region.wanted _ (yielded _ a.tmps) = true then Oper.wp _ _ a ((W.alloc (.cells #[.slice none 0 0, .slice none 0 0, .slice none 0 0] 109)).drew) K _ else _
        go_simp
        exact HK.out
    · simp only [List.getElem?_toArray, List.getElem?_cons_zero, List.getElem?_cons_succ, Option.some.injEq] at ho
      subst ho
      have v0 : a.eval (.tmp 5) = .pointer (some ⟨w.heap.size + 1, 0, none⟩) := (hf 5 (by kernel_rfl)).trans (by kernel_rfl)
      have u0 : a.tmps[5]?.getD undef = .pointer (some ⟨w.heap.size + 1, 0, none⟩) := by rw [← Array.getD_eq_getD_getElem?]; exact v0
      clear v0
      have hj : j = 0 ∨ j = 1 := by simp at h1 h2; omega
      clear h1 h2 hd hf
      rcases hj with rfl | rfl
      · replace hK : K (a.put (some 273) (.pointer (some ⟨C, 0, none⟩))) (W.drew) := hK
        have HK := Lib.hid hK
        clear hK
        show if Region.wanted _ (yielded _ a.tmps) = true then Oper.wp _ _ a (W.drew) K _ else _
        go_simp
        exact HK.out
      · replace hK : K (a.put (some 273) (.pointer (some ⟨C, 0, none⟩))) ((W.alloc (.cells #[.slice none 0 0, .slice none 0 0, .slice none 0 0] 109)).drew) := hK
        have HK := Lib.hid hK
        clear hK
        show if Region.wanted _ (yielded _ a.tmps) = true then Oper.wp _ _ a ((W.alloc (.cells #[.slice none 0 0, .slice none 0 0, .slice none 0 0] 109)).drew) K _ else _
        go_simp
        exact HK.out
    · simp only [List.getElem?_toArray, List.getElem?_cons_zero, List.getElem?_cons_succ, Option.some.injEq] at ho
      subst ho
      have v0 : a.eval (.tmp 273) = .pointer (some ⟨C, 0, none⟩) := hd 4 273 (by kernel_rfl) (by kernel_rfl)
      have u0 : a.tmps[273]?.getD undef = .pointer (some ⟨C, 0, none⟩) := by rw [← Array.getD_eq_getD_getElem?]; exact v0
      clear v0
      have hj : j = 0 ∨ j = 1 := by simp at h1 h2; omega
      clear h1 h2 hd hf
      rcases hj with rfl | rfl
      · replace hK : K (a.put (some 274) (.pointer (some ⟨C, 0, none⟩))) (W.drew) := hK
        have HK := Lib.hid hK
        clear hK
        show if Region.wanted _ (yielded _ a.tmps) = true then Oper.wp _ _ a (W.drew) K _ else _
        go_simp
        exact HK.out
      · replace hK : K (a.put (some 274) (.pointer (some ⟨C, 0, none⟩))) ((W.alloc (.cells #[.slice none 0 0, .slice none 0 0, .slice none 0 0] 109)).drew) := hK
        have HK := Lib.hid hK
        clear hK
        show if Region.wanted _ (yielded _ a.tmps) = true then Oper.wp _ _ a ((W.alloc (.cells #[.slice none 0 0, .slice none 0 0, .slice none 0 0] 109)).drew) K _ else _
        go_simp
        exact HK.out
    · simp only [List.getElem?_toArray, List.getElem?_cons_zero, List.getElem?_cons_succ, Option.some.injEq] at ho
      subst ho
      have v0 : a.eval (.tmp 274) = .pointer (some ⟨C, 0, none⟩) := hd 5 274 (by kernel_rfl) (by kernel_rfl)
      have u0 : a.tmps[274]?.getD undef = .pointer (some ⟨C, 0, none⟩) := by rw [← Array.getD_eq_getD_getElem?]; exact v0
      clear v0
      have hj : j = 0 ∨ j = 1 := by simp at h1 h2; omega
      clear h1 h2 hd hf
      rcases hj with rfl | rfl
      · replace hK : K (a.put (some 275) (.pointer (some ⟨C, 1, none⟩))) (W.drew) := hK
        have HK := Lib.hid hK
        clear hK
        show if Region.wanted _ (yielded _ a.tmps) = true then Oper.wp _ _ a (W.drew) K _ else _
        go_simp
        exact HK.out
      · replace hK : K (a.put (some 275) (.pointer (some ⟨C, 1, none⟩))) ((W.alloc (.cells #[.slice none 0 0, .slice none 0 0, .slice none 0 0] 109)).drew) := hK
        have HK := Lib.hid hK
        clear hK
        show if Region.wanted _ (yielded _ a.tmps) = true then Oper.wp _ _ a ((W.alloc (.cells #[.slice none 0 0, .slice none 0 0, .slice none 0 0] 109)).drew) K _ else _
        go_simp
        exact HK.out
    · simp only [List.getElem?_toArray, List.getElem?_cons_zero, List.getElem?_cons_succ, Option.some.injEq] at ho
      subst ho
      have v0 : a.eval (.tmp 275) = .pointer (some ⟨C, 1, none⟩) := hd 6 275 (by kernel_rfl) (by kernel_rfl)
      have u0 : a.tmps[275]?.getD undef = .pointer (some ⟨C, 1, none⟩) := by rw [← Array.getD_eq_getD_getElem?]; exact v0
      clear v0
      have hj : j = 0 ∨ j = 1 := by simp at h1 h2; omega
      clear h1 h2 hd hf
      rcases hj with rfl | rfl
      · replace hK : K (a.put (some 276) (.slice sa sn sc)) (W.drew) := hK
        have HK := Lib.hid hK
        clear hK
        show if Region.wanted _ (yielded _ a.tmps) = true then Oper.wp _ _ a (W.drew) K _ else _
        go_simp
        exact HK.out
      · replace hK : K (a.put (some 276) (.slice sa sn sc)) ((W.alloc (.cells #[.slice none 0 0, .slice none 0 0, .slice none 0 0] 109)).drew) := hK
        have HK := Lib.hid hK
        clear hK
        show if Region.wanted _ (yielded _ a.tmps) = true then Oper.wp _ _ a ((W.alloc (.cells #[.slice none 0 0, .slice none 0 0, .slice none 0 0] 109)).drew) K _ else _
        go_simp
        exact HK.out
    · simp only [List.getElem?_toArray, List.getElem?_cons_zero, List.getElem?_cons_succ, Option.some.injEq] at ho
      subst ho
      have v0 : a.eval (.tmp 272) = .slice sa sn sc := hd 3 272 (by kernel_rfl) (by kernel_rfl)
      have u0 : a.tmps[272]?.getD undef = .slice sa sn sc := by rw [← Array.getD_eq_getD_getElem?]; exact v0
      clear v0
      have v1 : a.eval (.tmp 276) = .slice sa sn sc := hd 7 276 (by kernel_rfl) (by kernel_rfl)
      have u1 : a.tmps[276]?.getD undef = .slice sa sn sc := by rw [← Array.getD_eq_getD_getElem?]; exact v1
      clear v1
      have hj : j = 0 ∨ j = 1 := by simp at h1 h2; omega
      clear h1 h2 hd hf
      rcases hj with rfl | rfl
      · replace hK : K (a.put (some 277) (.agg #[.slice sa sn sc, .slice sa sn sc, .slice none 0 0])) (W.drew) := hK
        have HK := Lib.hid hK
        clear hK
        show if Region.wanted _ (yielded _ a.tmps) = true then Oper.wp _ _ a (W.drew) K _ else _
        go_simp
        exact HK.out
      · replace hK : K (a.put (some 277) (.agg #[.slice sa sn sc, .slice sa sn sc, .slice none 0 0])) ((W.alloc (.cells #[.slice none 0 0, .slice none 0 0, .slice none 0 0] 109)).drew) := hK
        have HK := Lib.hid hK
        clear hK
        show if Region.wanted _ (yielded _ a.tmps) = true then Oper.wp _ _ a ((W.alloc (.cells #[.slice none 0 0, .slice none 0 0, .slice none 0 0] 109)).drew) K _ else _
        go_simp
        exact HK.out
    · simp only [List.getElem?_toArray, List.getElem?_cons_zero, List.getElem?_cons_succ, Option.some.injEq] at ho
      subst ho
      have hj : j = 0 := by simp at h1 h2; omega
      clear h1 h2 hd hf
      rcases hj with rfl
      · replace hK : K (a.put (some 32) (.pointer (some ⟨W.heap.size, 0, none⟩))) ((W.alloc (.cells #[.slice none 0 0, .slice none 0 0, .slice none 0 0] 109)).drew) := hK
        have HK := Lib.hid hK
        clear hK
        show if Region.wanted _ (yielded _ a.tmps) = true then Oper.wp _ _ a (W.drew) K _ else _
        go_simp
        exact HK.out
    · simp only [List.getElem?_toArray, List.getElem?_cons_zero, List.getElem?_cons_succ, Option.some.injEq] at ho
      subst ho
      have v0 : a.eval (.tmp 32) = .pointer (some ⟨W.heap.size, 0, none⟩) := hd 9 32 (by kernel_rfl) (by kernel_rfl)
      have u0 : a.tmps[32]?.getD undef = .pointer (some ⟨W.heap.size, 0, none⟩) := by rw [← Array.getD_eq_getD_getElem?]; exact v0
      clear v0
      have v1 : a.eval (.tmp 277) = .agg #[.slice sa sn sc, .slice sa sn sc, .slice none 0 0] := hd 8 277 (by kernel_rfl) (by kernel_rfl)
      have u1 : a.tmps[277]?.getD undef = .agg #[.slice sa sn sc, .slice sa sn sc, .slice none 0 0] := by rw [← Array.getD_eq_getD_getElem?]; exact v1
      clear v1
      have hj : j = 1 := by simp at h1 h2; omega
      clear h1 h2 hd hf
      rcases hj with rfl
      · replace hK : K (a.put (none) (undef)) ((W.alloc (.cells #[.slice sa sn sc, .slice sa sn sc, .slice none 0 0] 109)).drew) := hK
        have HK := Lib.hid hK
        clear hK
        show if Region.wanted _ (yielded _ a.tmps) = true then Oper.wp _ _ a ((W.alloc (.cells #[.slice none 0 0, .slice none 0 0, .slice none 0 0] 109)).drew) K _ else _
        go_simp
        exact HK.out
  simp only [List.foldl_cons, List.foldl_nil, List.length_cons, List.length_nil, List.getD_cons_succ, List.getD_cons_zero, Nat.zero_add, Nat.reduceAdd]
  simp only [Act.put, List.setIfInBounds_toArray, List.set_cons_zero, List.set_cons_succ]
  have HS : Hid (St 59 62 (fun rv => #[q, q2, rv, .int .i32 0]) D C (.slice sa sn sc) (.slice la m lc) w (.slice ra n rc) (.slice none 0 0) [] ((W.alloc (.cells #[.slice sa sn sc, .slice sa sn sc, .slice none 0 0] 109)).drew)) := hid (HS0.out.below (Below.refl _ _).drew)
  generalize (W.alloc (.cells #[.slice sa sn sc, .slice sa sn sc, .slice none 0 0] 109)).drew = wc at *
  rw [HWS.out]
  clear HS0 u5 c0 c1 hC3 hC4 hN1 hN14 HC HB1
  obtain ⟨d1, df⟩ : wc.cell? ⟨D, 2, none⟩ = some (.slice ra n rc) ∧ wc.frozen? ⟨D, 2, none⟩ = false := hcell HS.out.d 2 _ rfl
  have C32 := hid (rem32 B n hn p ⟨w.heap.size + 3, 0, none⟩ (.slice ra n rc) wc (HS.out.dec (by decide) HDD.out HCC.out HR.out))
  have hDc : D < wc.heap.size := heap_lt HS.out.d
  go_wp2_with fail
  refine C32.out.mono ?_
  rintro e w5 ⟨rfl, hb5⟩
  have h5 := HS.out.below hb5
  obtain ⟨d5, df5⟩ : w5.cell? ⟨D, 2, none⟩ = some (.slice ra n rc) ∧ w5.frozen? ⟨D, 2, none⟩ = false := hcell h5.d 2 _ rfl
  have hD5 : D < w5.heap.size := heap_lt h5.d
  have H5 := hid (h5.setD hDl hDC HDC.out (.slice ra n rc))
  clear h5 hb5 C32 d1 df HS hDc
  have hn0 : (0 : Int) < (n : Int) := by omega
  go_wp2_with fail
  generalize w5.setCell ⟨D, 2, none⟩ (.slice ra n rc) = w6 at *
  obtain ⟨u5, _⟩ : w6.cell? ⟨w.heap.size + 1, 0, none⟩ = some (.pointer (some ⟨C, 0, none⟩)) ∧ w6.frozen? ⟨w.heap.size + 1, 0, none⟩ = false := hcell H5.out.b1 0 _ rfl
  obtain ⟨c0, _⟩ : w6.cell? ⟨C, 0, none⟩ = some (.slice sa sn sc) ∧ w6.frozen? ⟨C, 0, none⟩ = false := hcell H5.out.c 0 _ rfl
  obtain ⟨l1, _⟩ : w6.cell? ⟨w.heap.size, 1, none⟩ = some (.int .i32 0) ∧ w6.frozen? ⟨w.heap.size, 1, none⟩ = false := hcell H5.out.b0 1 _ rfl
  obtain ⟨x2, xf2⟩ : w6.cell? ⟨w.heap.size + 3, 2, none⟩ = some (.slice none 0 0) ∧ w6.frozen? ⟨w.heap.size + 3, 2, none⟩ = false := hcell H5.out.b3 2 _ rfl
  obtain ⟨d1, df⟩ : w6.cell? ⟨D, 2, none⟩ = some (.slice ra n rc) ∧ w6.frozen? ⟨D, 2, none⟩ = false := hcell H5.out.d 2 _ rfl
  have hDc : D < w6.heap.size := heap_lt H5.out.d
  have hCc : C < w6.heap.size := heap_lt H5.out.c
  have hN0 : w.heap.size < w6.heap.size := heap_lt H5.out.b0
  have hN1 : w.heap.size + 1 < w6.heap.size := heap_lt H5.out.b1
  have hN3 : w.heap.size + 3 < w6.heap.size := heap_lt H5.out.b3
  clear d5 df5 hD5
  refine wp_region_dl [(some 293, .pointer (some ⟨w.heap.size, 1, none⟩)), (some 294, .agg #[.int .i32 0]), (some 295, .pointer (some ⟨C, 0, none⟩)), (some 296, .pointer (some ⟨C, 0, none⟩)), (some 297, .pointer (some ⟨C, 0, none⟩)), (some 298, .slice sa sn sc), (some 299, .pointer (some ⟨D, 0, none⟩)), (some 300, .pointer (some ⟨D, 0, none⟩)), (some 301, .pointer (some ⟨D, 2, none⟩)), (some 302, .slice ra n rc), (some 303, .agg #[.slice sa sn sc, .slice ra n rc, .int .i32 0]), (some 304, .pointer (some ⟨w6.heap.size, 0, none⟩)), (some 305, .iface 112 (.pointer (some ⟨w6.heap.size, 0, none⟩))), (some 306, .agg #[.iface 112 (.pointer (some ⟨w6.heap.size, 0, none⟩)), .int .i32 0]), (some 307, .slice (some ⟨w6.heap.size + 1, 0, none⟩) 1 1), (some 308, .pointer (some ⟨w.heap.size + 3, 2, none⟩)), (some 309, .slice none 0 0), (some 310, .slice (some ⟨w6.heap.size + 1, 0, none⟩) 1 1), (some 311, .pointer (some ⟨w.heap.size + 3, 2, none⟩)), (none, undef)] [11, 14, 19] (fun j => ([w6.drew, (w6.alloc (.cells #[.slice sa sn sc, .slice ra n rc, .int .i32 0] 115)).drew, ((w6.alloc (.cells #[.slice sa sn sc, .slice ra n rc, .int .i32 0] 115)).alloc (.cells #[.iface 112 (.pointer (some ⟨w6.heap.size, 0, none⟩)), .int .i32 0] 30)).drew, (((w6.setCell ⟨w.heap.size + 3, 2, none⟩ (.slice (some ⟨w6.heap.size + 1, 0, none⟩) 1 1)).alloc (.cells #[.slice sa sn sc, .slice ra n rc, .int .i32 0] 115)).alloc (.cells #[.iface 112 (.pointer (some ⟨w6.heap.size, 0, none⟩)), .int .i32 0] 30)).drew] : List World).getD j w6.drew) (fun i => [0, 0, 0, 0, 0, 0, 0, 0, 0, 0, 0, 0, 1, 1, 1, 0, 0, 2, 0, 2].getD i 0) (fun i => [1, 1, 0, 0, 0, 0, 0, 0, 0, 0, 0, 0, 1, 1, 1, 2, 2, 2, 2, 2].getD i 0) 461 (by kernel_rfl) (by kernel_rfl) (by kernel_rfl) (by kernel_rfl) (by decide) (by kernel_rfl) rfl (by kernel_rfl) ?hop79 ?hend79
  case hop79 =>
    intro i o j a ho h1 h2 hd hf K hK
    have hin : i = 0 ∨ i = 1 ∨ i = 2 ∨ i = 3 ∨ i = 4 ∨ i = 5 ∨ i = 6 ∨ i = 7 ∨ i = 8 ∨ i = 9 ∨ i = 10 ∨ i = 11 ∨ i = 12 ∨ i = 13 ∨ i = 14 ∨ i = 15 ∨ i = 16 ∨ i = 17 ∨ i = 18 ∨ i = 19 := by
      rcases Nat.lt_or_ge i 20 with h | h
      · omega
      · rw [Array.getElem?_eq_none h] at ho
        cases ho
    rcases hin with rfl | rfl | rfl | rfl | rfl | rfl | rfl | rfl | rfl | rfl | rfl | rfl | rfl | rfl | rfl | rfl | rfl | rfl | rfl | rfl
    · simp only [List.getElem?_toArray, List.getElem?_cons_zero, Option.some.injEq] at ho
      subst ho
      have v0 : a.eval (.tmp 4) = .pointer (some ⟨w.heap.size, 0, none⟩) := (hf 4 (by kernel_rfl)).trans (by kernel_rfl)
      have u0 : a.tmps[4]?.getD undef = .pointer (some ⟨w.heap.size, 0, none⟩) := by rw [← Array.getD_eq_getD_getElem?]; exact v0
      clear v0
      have hj : j = 0 ∨ j = 1 := by simp at h1 h2; omega
      clear h1 h2 hd hf
      rcases hj with rfl | rfl
      · replace hK : K (a.put (some 293) (.pointer (some ⟨w.heap.size, 1, none⟩))) (w6.drew) := hK
        have HK := Lib.hid hK
        clear hK
        show if Region.wanted _ (yielded _ a.tmps) = true then Oper.wp _ _ a (w6.drew) K _ else _
        go_simp
        exact HK.out
      · replace hK : K (a.put (some 293) (.pointer (some ⟨w.heap.size, 1, none⟩))) ((w6.alloc (.cells #[.slice sa sn sc, .slice ra n rc, .int .i32 0] 115)).drew) := hK
        have HK := Lib.hid hK
        clear hK
        show if Region.wanted _ (yielded _ a.tmps) = true then Oper.wp _ _ a ((w6.alloc (.cells #[.slice sa sn sc, .slice ra n rc, .int .i32 0] 115)).drew) K _ else _
        go_simp
        exact HK.out
    · simp only [List.getElem?_toArray, List.getElem?_cons_zero, List.getElem?_cons_succ, Option.some.injEq] at ho
      subst ho
      have v0 : a.eval (.tmp 293) = .pointer (some ⟨w.heap.size, 1, none⟩) := hd 0 293 (by kernel_rfl) (by kernel_rfl)
      have u0 : a.tmps[293]?.getD undef = .pointer (some ⟨w.heap.size, 1, none⟩) := by rw [← Array.getD_eq_getD_getElem?]; exact v0
      clear v0
      have hj : j = 0 ∨ j = 1 := by simp at h1 h2; omega
      clear h1 h2 hd hf
      rcases hj with rfl | rfl
      · replace hK : K (a.put (some 294) (.agg #[.int .i32 0])) (w6.drew) := hK
        have HK := Lib.hid hK
        clear hK
        show if Region.wanted _ (yielded _ a.tmps) = true then Oper.wp _ _ a (w6.drew) K _ else _
        go_simp
        exact HK.out
      · replace hK : K (a.put (some 294) (.agg #[.int .i32 0])) ((w6.alloc (.cells #[.slice sa sn sc, .slice ra n rc, .int .i32 0] 115)).drew) := hK
        have HK := Lib.hid hK
        clear hK
        show if Region.wanted _ (yielded _ a.tmps) = true then Oper.wp _ _ a ((w6.alloc (.cells #[.slice sa sn sc, .slice ra n rc, .int .i32 0] 115)).drew) K _ else _
        go_simp
        exact HK.out
    · simp only [List.getElem?_toArray, List.getElem?_cons_zero, List.getElem?_cons_succ, Option.some.injEq] at ho
      subst ho
      have v0 : a.eval (.tmp 5) = .pointer (some ⟨w.heap.size + 1, 0, none⟩) := (hf 5 (by kernel_rfl)).trans (by kernel_rfl)
      have u0 : a.tmps[5]?.getD undef = .pointer (some ⟨w.heap.size + 1, 0, none⟩) := by rw [← Array.getD_eq_getD_getElem?]; exact v0
      clear v0
      have hj : j = 0 := by simp at h1 h2; omega
      clear h1 h2 hd hf
      rcases hj with rfl
      · replace hK : K (a.put (some 295) (.pointer (some ⟨C, 0, none⟩))) (w6.drew) := hK
        have HK := Lib.hid hK
        clear hK
        show if Region.wanted _ (yielded _ a.tmps) = true then Oper.wp _ _ a (w6.drew) K _ else _
        go_simp
        exact HK.out
    · simp only [List.getElem?_toArray, List.getElem?_cons_zero, List.getElem?_cons_succ, Option.some.injEq] at ho
      subst ho
      have v0 : a.eval (.tmp 295) = .pointer (some ⟨C, 0, none⟩) := hd 2 295 (by kernel_rfl) (by kernel_rfl)
      have u0 : a.tmps[295]?.getD undef = .pointer (some ⟨C, 0, none⟩) := by rw [← Array.getD_eq_getD_getElem?]; exact v0
      clear v0
      have hj : j = 0 := by simp at h1 h2; omega
      clear h1 h2 hd hf
      rcases hj with rfl
      · replace hK : K (a.put (some 296) (.pointer (some ⟨C, 0, none⟩))) (w6.drew) := hK
        have HK := Lib.hid hK
        clear hK
        show if Region.wanted _ (yielded _ a.tmps) = true then Oper.wp _ _ a (w6.drew) K _ else _
        go_simp
        exact HK.out
    · simp only [List.getElem?_toArray, List.getElem?_cons_zero, List.getElem?_cons_succ, Option.some.injEq] at ho
      subst ho
      have v0 : a.eval (.tmp 296) = .pointer (some ⟨C, 0, none⟩) := hd 3 296 (by kernel_rfl) (by kernel_rfl)
      have u0 : a.tmps[296]?.getD undef = .pointer (some ⟨C, 0, none⟩) := by rw [← Array.getD_eq_getD_getElem?]; exact v0
      clear v0
      have hj : j = 0 := by simp at h1 h2; omega
      clear h1 h2 hd hf
      rcases hj with rfl
      · replace hK : K (a.put (some 297) (.pointer (some ⟨C, 0, none⟩))) (w6.drew) := hK
        have HK := Lib.hid hK
        clear hK
        show if Region.wanted _ (yielded _ a.tmps) = true then Oper.wp _ _ a (w6.drew) K _ else _
        go_simp
        exact HK.out
    · simp only [List.getElem?_toArray, List.getElem?_cons_zero, List.getElem?_cons_succ, Option.some.injEq] at ho
      subst ho
      have v0 : a.eval (.tmp 297) = .pointer (some ⟨C, 0, none⟩) := hd 4 297 (by kernel_rfl) (by kernel_rfl)
      have u0 : a.tmps[297]?.getD undef = .pointer (some ⟨C, 0, none⟩) := by rw [← Array.getD_eq_getD_getElem?]; exact v0
      clear v0
      have hj : j = 0 := by simp at h1 h2; omega
      clear h1 h2 hd hf
      rcases hj with rfl
      · replace hK : K (a.put (some 298) (.slice sa sn sc)) (w6.drew) := hK
        have HK := Lib.hid hK
        clear hK
        show if Region.wanted _ (yielded _ a.tmps) = true then Oper.wp _ _ a (w6.drew) K _ else _
        go_simp
        exact HK.out
    · simp only [List.getElem?_toArray, List.getElem?_cons_zero, List.getElem?_cons_succ, Option.some.injEq] at ho
      subst ho
      have v0 : a.eval (.tmp 31) = .pointer (some ⟨D, 0, none⟩) := (hf 31 (by kernel_rfl)).trans (by kernel_rfl)
      have u0 : a.tmps[31]?.getD undef = .pointer (some ⟨D, 0, none⟩) := by rw [← Array.getD_eq_getD_getElem?]; exact v0
      clear v0
      have hj : j = 0 := by simp at h1 h2; omega
      clear h1 h2 hd hf
      rcases hj with rfl
      · replace hK : K (a.put (some 299) (.pointer (some ⟨D, 0, none⟩))) (w6.drew) := hK
        have HK := Lib.hid hK
        clear hK
        show if Region.wanted _ (yielded _ a.tmps) = true then Oper.wp _ _ a (w6.drew) K _ else _
        go_simp
        exact HK.out
    · simp only [List.getElem?_toArray, List.getElem?_cons_zero, List.getElem?_cons_succ, Option.some.injEq] at ho
      subst ho
      have v0 : a.eval (.tmp 299) = .pointer (some ⟨D, 0, none⟩) := hd 6 299 (by kernel_rfl) (by kernel_rfl)
      have u0 : a.tmps[299]?.getD undef = .pointer (some ⟨D, 0, none⟩) := by rw [← Array.getD_eq_getD_getElem?]; exact v0
      clear v0
      have hj : j = 0 := by simp at h1 h2; omega
      clear h1 h2 hd hf
      rcases hj with rfl
      · replace hK : K (a.put (some 300) (.pointer (some ⟨D, 0, none⟩))) (w6.drew) := hK
        have HK := Lib.hid hK
        clear hK
        show if Region.wanted _ (yielded _ a.tmps) = true then Oper.wp _ _ a (w6.drew) K _ else _
        go_simp
        exact HK.out
    · simp only [List.getElem?_toArray, List.getElem?_cons_zero, List.getElem?_cons_succ, Option.some.injEq] at ho
      subst ho
      have v0 : a.eval (.tmp 300) = .pointer (some ⟨D, 0, none⟩) := hd 7 300 (by kernel_rfl) (by kernel_rfl)
      have u0 : a.tmps[300]?.getD undef = .pointer (some ⟨D, 0, none⟩) := by rw [← Array.getD_eq_getD_getElem?]; exact v0
      clear v0
      have hj : j = 0 := by simp at h1 h2; omega
      clear h1 h2 hd hf
      rcases hj with rfl
      · replace hK : K (a.put (some 301) (.pointer (some ⟨D, 2, none⟩))) (w6.drew) := hK
        have HK := Lib.hid hK
        clear hK
        show if Region.wanted _ (yielded _ a.tmps) = true then Oper.wp _ _ a (w6.drew) K _ else _
        go_simp
        exact HK.out
    · simp only [List.getElem?_toArray, List.getElem?_cons_zero, List.getElem?_cons_succ, Option.some.injEq] at ho
      subst ho
      have v0 : a.eval (.tmp 301) = .pointer (some ⟨D, 2, none⟩) := hd 8 301 (by kernel_rfl) (by kernel_rfl)
      have u0 : a.tmps[301]?.getD undef = .pointer (some ⟨D, 2, none⟩) := by rw [← Array.getD_eq_getD_getElem?]; exact v0
      clear v0
      have hj : j = 0 := by simp at h1 h2; omega
      clear h1 h2 hd hf
      rcases hj with rfl
      · replace hK : K (a.put (some 302) (.slice ra n rc)) (w6.drew) := hK
        have HK := Lib.hid hK
        clear hK
        show if Region.wanted _ (yielded _ a.tmps) = true then Oper.wp _ _ a (w6.drew) K _ else _
        go_simp
        exact HK.out
    · simp only [List.getElem?_toArray, List.getElem?_cons_zero, List.getElem?_cons_succ, Option.some.injEq] at ho
      subst ho
      have v0 : a.eval (.tmp 298) = .slice sa sn sc := hd 5 298 (by kernel_rfl) (by kernel_rfl)
      have u0 : a.tmps[298]?.getD undef = .slice sa sn sc := by rw [← Array.getD_eq_getD_getElem?]; exact v0
      clear v0
      have v1 : a.eval (.tmp 302) = .slice ra n rc := hd 9 302 (by kernel_rfl) (by kernel_rfl)
      have u1 : a.tmps[302]?.getD undef = .slice ra n rc := by rw [← Array.getD_eq_getD_getElem?]; exact v1
      clear v1
      have hj : j = 0 := by simp at h1 h2; omega
      clear h1 h2 hd hf
      rcases hj with rfl
      · replace hK : K (a.put (some 303) (.agg #[.slice sa sn sc, .slice ra n rc, .int .i32 0])) (w6.drew) := hK
        have HK := Lib.hid hK
        clear hK
        show if Region.wanted _ (yielded _ a.tmps) = true then Oper.wp _ _ a (w6.drew) K _ else _
        go_simp
        exact HK.out
    · simp only [List.getElem?_toArray, List.getElem?_cons_zero, List.getElem?_cons_succ, Option.some.injEq] at ho
      subst ho
      have v0 : a.eval (.tmp 303) = .agg #[.slice sa sn sc, .slice ra n rc, .int .i32 0] := hd 10 303 (by kernel_rfl) (by kernel_rfl)
      have u0 : a.tmps[303]?.getD undef = .agg #[.slice sa sn sc, .slice ra n rc, .int .i32 0] := by rw [← Array.getD_eq_getD_getElem?]; exact v0
      clear v0
      have hj : j = 0 := by simp at h1 h2; omega
      clear h1 h2 hd hf
      rcases hj with rfl
      · replace hK : K (a.put (some 304) (.pointer (some ⟨w6.heap.size, 0, none⟩))) ((w6.alloc (.cells #[.slice sa sn sc, .slice ra n rc, .int .i32 0] 115)).drew) := hK
        have HK := Lib.hid hK
        clear hK
        show if Region.wanted _ (yielded _ a.tmps) = true then Oper.wp _ _ a (w6.drew) K _ else _
        go_simp
        exact HK.out
    · simp only [List.getElem?_toArray, List.getElem?_cons_zero, List.getElem?_cons_succ, Option.some.injEq] at ho
      subst ho
      have v0 : a.eval (.tmp 304) = .pointer (some ⟨w6.heap.size, 0, none⟩) := hd 11 304 (by kernel_rfl) (by kernel_rfl)
      have u0 : a.tmps[304]?.getD undef = .pointer (some ⟨w6.heap.size, 0, none⟩) := by rw [← Array.getD_eq_getD_getElem?]; exact v0
      clear v0
      have hj : j = 1 := by simp at h1 h2; omega
      clear h1 h2 hd hf
      rcases hj with rfl
      · replace hK : K (a.put (some 305) (.iface 112 (.pointer (some ⟨w6.heap.size, 0, none⟩)))) ((w6.alloc (.cells #[.slice sa sn sc, .slice ra n rc, .int .i32 0] 115)).drew) := hK
        have HK := Lib.hid hK
        clear hK
        show if Region.wanted _ (yielded _ a.tmps) = true then Oper.wp _ _ a ((w6.alloc (.cells #[.slice sa sn sc, .slice ra n rc, .int .i32 0] 115)).drew) K _ else _
        go_simp
        exact HK.out
    · simp only [List.getElem?_toArray, List.getElem?_cons_zero, List.getElem?_cons_succ, Option.some.injEq] at ho
      subst ho
      have v0 : a.eval (.tmp 294) = .agg #[.int .i32 0] := hd 1 294 (by kernel_rfl) (by kernel_rfl)
      have u0 : a.tmps[294]?.getD undef = .agg #[.int .i32 0] := by rw [← Array.getD_eq_getD_getElem?]; exact v0
      clear v0
      have v1 : a.eval (.tmp 305) = .iface 112 (.pointer (some ⟨w6.heap.size, 0, none⟩)) := hd 12 305 (by kernel_rfl) (by kernel_rfl)
      have u1 : a.tmps[305]?.getD undef = .iface 112 (.pointer (some ⟨w6.heap.size, 0, none⟩)) := by rw [← Array.getD_eq_getD_getElem?]; exact v1
      clear v1
      have hj : j = 1 := by simp at h1 h2; omega
      clear h1 h2 hd hf
      rcases hj with rfl
      · replace hK : K (a.put (some 306) (.agg #[.iface 112 (.pointer (some ⟨w6.heap.size, 0, none⟩)), .int .i32 0])) ((w6.alloc (.cells #[.slice sa sn sc, .slice ra n rc, .int .i32 0] 115)).drew) := hK
        have HK := Lib.hid hK
        clear hK
        show if Region.wanted _ (yielded _ a.tmps) = true then Oper.wp _ _ a ((w6.alloc (.cells #[.slice sa sn sc, .slice ra n rc, .int .i32 0] 115)).drew) K _ else _
        go_simp
        exact HK.out
    · simp only [List.getElem?_toArray, List.getElem?_cons_zero, List.getElem?_cons_succ, Option.some.injEq] at ho
      subst ho
      have v0 : a.eval (.tmp 306) = .agg #[.iface 112 (.pointer (some ⟨w6.heap.size, 0, none⟩)), .int .i32 0] := hd 13 306 (by kernel_rfl) (by kernel_rfl)
      have u0 : a.tmps[306]?.getD undef = .agg #[.iface 112 (.pointer (some ⟨w6.heap.size, 0, none⟩)), .int .i32 0] := by rw [← Array.getD_eq_getD_getElem?]; exact v0
      clear v0
      have hj : j = 1 := by simp at h1 h2; omega
      clear h1 h2 hd hf
      rcases hj with rfl
      · replace hK : K (a.put (some 307) (.slice (some ⟨w6.heap.size + 1, 0, none⟩) 1 1)) (((w6.alloc (.cells #[.slice sa sn sc, .slice ra n rc, .int .i32 0] 115)).alloc (.cells #[.iface 112 (.pointer (some ⟨w6.heap.size, 0, none⟩)), .int .i32 0] 30)).drew) := hK
        have HK := Lib.hid hK
        clear hK
        show if Region.wanted _ (yielded _ a.tmps) = true then Oper.wp _ _ a ((w6.alloc (.cells #[.slice sa sn sc, .slice ra n rc, .int .i32 0] 115)).drew) K _ else _
        go_simp
        exact HK.out
    · simp only [List.getElem?_toArray, List.getElem?_cons_zero, List.getElem?_cons_succ, Option.some.injEq] at ho
      subst ho
      have v0 : a.eval (.tmp 32) = .pointer (some ⟨w.heap.size + 3, 0, none⟩) := (hf 32 (by kernel_rfl)).trans (by kernel_rfl)
      have u0 : a.tmps[32]?.getD undef = .pointer (some ⟨w.heap.size + 3, 0, none⟩) := by rw [← Array.getD_eq_getD_getElem?]; exact v0
      clear v0
      have hj : j = 0 ∨ j = 1 ∨ j = 2 := by simp at h1 h2; omega
      clear h1 h2 hd hf
      rcases hj with rfl | rfl | rfl
      · replace hK : K (a.put (some 308) (.pointer (some ⟨w.heap.size + 3, 2, none⟩))) (w6.drew) := hK
        have HK := Lib.hid hK
        clear hK
        show if Region.wanted _ (yielded _ a.tmps) = true then Oper.wp _ _ a (w6.drew) K _ else _
        go_simp
        exact HK.out
      · replace hK : K (a.put (some 308) (.pointer (some ⟨w.heap.size + 3, 2, none⟩))) ((w6.alloc (.cells #[.slice sa sn sc, .slice ra n rc, .int .i32 0] 115)).drew) := hK
        have HK := Lib.hid hK
        clear hK
        show if Region.wanted _ (yielded _ a.tmps) = true then Oper.wp _ _ a ((w6.alloc (.cells #[.slice sa sn sc, .slice ra n rc, .int .i32 0] 115)).drew) K _ else _
        go_simp
        exact HK.out
      · replace hK : K (a.put (some 308) (.pointer (some ⟨w.heap.size + 3, 2, none⟩))) (((w6.alloc (.cells #[.slice sa sn sc, .slice ra n rc, .int .i32 0] 115)).alloc (.cells #[.iface 112 (.pointer (some ⟨w6.heap.size, 0, none⟩)), .int .i32 0] 30)).drew) := hK
        have HK := Lib.hid hK
        clear hK
        show if Region.wanted _ (yielded _ a.tmps) = true then Oper.wp _ _ a (((w6.alloc (.cells #[.slice sa sn sc, .slice ra n rc, .int .i32 0] 115)).alloc (.cells #[.iface 112 (.pointer (some ⟨w6.heap.size, 0, none⟩)), .int .i32 0] 30)).drew) K _ else _
        go_simp
        exact HK.out
    · simp only [List.getElem?_toArray, List.getElem?_cons_zero, List.getElem?_cons_succ, Option.some.injEq] at ho
      subst ho
      have v0 : a.eval (.tmp 308) = .pointer (some ⟨w.heap.size + 3, 2, none⟩) := hd 15 308 (by kernel_rfl) (by kernel_rfl)
      have u0 : a.tmps[308]?.getD undef = .pointer (some ⟨w.heap.size + 3, 2, none⟩) := by rw [← Array.getD_eq_getD_getElem?]; exact v0
      clear v0
      have hj : j = 0 ∨ j = 1 ∨ j = 2 := by simp at h1 h2; omega
      clear h1 h2 hd hf
      rcases hj with rfl | rfl | rfl
      · replace hK : K (a.put (some 309) (.slice none 0 0)) (w6.drew) := hK
        have HK := Lib.hid hK
        clear hK
        show if Region.wanted _ (yielded _ a.tmps) = true then Oper.wp _ _ a (w6.drew) K _ else _
        go_simp
        exact HK.out
      · replace hK : K (a.put (some 309) (.slice none 0 0)) ((w6.alloc (.cells #[.slice sa sn sc, .slice ra n rc, .int .i32 0] 115)).drew) := hK
        have HK := Lib.hid hK
        clear hK
        show if Region.wanted _ (yielded _ a.tmps) = true then Oper.wp _ _ a ((w6.alloc (.cells #[.slice sa sn sc, .slice ra n rc, .int .i32 0] 115)).drew) K _ else _
        go_simp
        exact HK.out
      · replace hK : K (a.put (some 309) (.slice none 0 0)) (((w6.alloc (.cells #[.slice sa sn sc, .slice ra n rc, .int .i32 0] 115)).alloc (.cells #[.iface 112 (.pointer (some ⟨w6.heap.size, 0, none⟩)), .int .i32 0] 30)).drew) := hK
        have HK := Lib.hid hK
        clear hK
        show if Region.wanted _ (yielded _ a.tmps) = true then Oper.wp _ _ a (((w6.alloc (.cells #[.slice sa sn sc, .slice ra n rc, .int .i32 0] 115)).alloc (.cells #[.iface 112 (.pointer (some ⟨w6.heap.size, 0, none⟩)), .int .i32 0] 30)).drew) K _ else _
        go_simp
        exact HK.out
    · simp only [List.getElem?_toArray, List.getElem?_cons_zero, List.getElem?_cons_succ, Option.some.injEq] at ho
      subst ho
      have u0 : a.eval (.tmp 307) = .slice (some ⟨w6.heap.size + 1, 0, none⟩) 1 1 := hd 14 307 (by kernel_rfl) (by kernel_rfl)
      have u1 : a.eval (.tmp 309) = .slice none 0 0 := hd 16 309 (by kernel_rfl) (by kernel_rfl)
      have hj : j = 2 := by simp at h1 h2; omega
      clear h1 h2 hd hf
      rcases hj with rfl
      · replace hK : K (a.put (some 310) (.slice (some ⟨w6.heap.size + 1, 0, none⟩) 1 1)) (((w6.alloc (.cells #[.slice sa sn sc, .slice ra n rc, .int .i32 0] 115)).alloc (.cells #[.iface 112 (.pointer (some ⟨w6.heap.size, 0, none⟩)), .int .i32 0] 30)).drew) := hK
        have HK := Lib.hid hK
        clear hK
        show if Region.wanted _ (yielded _ a.tmps) = true then Oper.wp _ _ a (((w6.alloc (.cells #[.slice sa sn sc, .slice ra n rc, .int .i32 0] 115)).alloc (.cells #[.iface 112 (.pointer (some ⟨w6.heap.size, 0, none⟩)), .int .i32 0] 30)).drew) K _ else _
        exact step_run rfl (.tmp 307) (.tmp 309) 32 rfl (.slice (some ⟨w6.heap.size + 1, 0, none⟩) 1 1) (.slice none 0 0) _ _ u0 u1 (appNil _ _ _) HK.out
    · simp only [List.getElem?_toArray, List.getElem?_cons_zero, List.getElem?_cons_succ, Option.some.injEq] at ho
      subst ho
      have v0 : a.eval (.tmp 32) = .pointer (some ⟨w.heap.size + 3, 0, none⟩) := (hf 32 (by kernel_rfl)).trans (by kernel_rfl)
      have u0 : a.tmps[32]?.getD undef = .pointer (some ⟨w.heap.size + 3, 0, none⟩) := by rw [← Array.getD_eq_getD_getElem?]; exact v0
      clear v0
      have hj : j = 0 ∨ j = 1 ∨ j = 2 := by simp at h1 h2; omega
      clear h1 h2 hd hf
      rcases hj with rfl | rfl | rfl
      · replace hK : K (a.put (some 311) (.pointer (some ⟨w.heap.size + 3, 2, none⟩))) (w6.drew) := hK
        have HK := Lib.hid hK
        clear hK
        show if Region.wanted _ (yielded _ a.tmps) = true then Oper.wp _ _ a (w6.drew) K _ else _
        go_simp
        exact HK.out
      · replace hK : K (a.put (some 311) (.pointer (some ⟨w.heap.size + 3, 2, none⟩))) ((w6.alloc (.cells #[.slice sa sn sc, .slice ra n rc, .int .i32 0] 115)).drew) := hK
        have HK := Lib.hid hK
        clear hK
        show if Region.wanted _ (yielded _ a.tmps) = true then Oper.wp _ _ a ((w6.alloc (.cells #[.slice sa sn sc, .slice ra n rc, .int .i32 0] 115)).drew) K _ else _
        go_simp
        exact HK.out
      · replace hK : K (a.put (some 311) (.pointer (some ⟨w.heap.size + 3, 2, none⟩))) (((w6.alloc (.cells #[.slice sa sn sc, .slice ra n rc, .int .i32 0] 115)).alloc (.cells #[.iface 112 (.pointer (some ⟨w6.heap.size, 0, none⟩)), .int .i32 0] 30)).drew) := hK
        have HK := Lib.hid hK
        clear hK
        show if Region.wanted _ (yielded _ a.tmps) = true then Oper.wp _ _ a (((w6.alloc (.cells #[.slice sa sn sc, .slice ra n rc, .int .i32 0] 115)).alloc (.cells #[.iface 112 (.pointer (some ⟨w6.heap.size, 0, none⟩)), .int .i32 0] 30)).drew) K _ else _
        go_simp
        exact HK.out
    · simp only [List.getElem?_toArray, List.getElem?_cons_zero, List.getElem?_cons_succ, Option.some.injEq] at ho
      subst ho
      have v0 : a.eval (.tmp 311) = .pointer (some ⟨w.heap.size + 3, 2, none⟩) := hd 18 311 (by kernel_rfl) (by kernel_rfl)
      have u0 : a.tmps[311]?.getD undef = .pointer (some ⟨w.heap.size + 3, 2, none⟩) := by rw [← Array.getD_eq_getD_getElem?]; exact v0
      clear v0
      have v1 : a.eval (.tmp 310) = .slice (some ⟨w6.heap.size + 1, 0, none⟩) 1 1 := hd 17 310 (by kernel_rfl) (by kernel_rfl)
      have u1 : a.tmps[310]?.getD undef = .slice (some ⟨w6.heap.size + 1, 0, none⟩) 1 1 := by rw [← Array.getD_eq_getD_getElem?]; exact v1
      clear v1
      have hj : j = 2 := by simp at h1 h2; omega
      clear h1 h2 hd hf
      rcases hj with rfl
      · replace hK : K (a.put (none) (undef)) ((((w6.setCell ⟨w.heap.size + 3, 2, none⟩ (.slice (some ⟨w6.heap.size + 1, 0, none⟩) 1 1)).alloc (.cells #[.slice sa sn sc, .slice ra n rc, .int .i32 0] 115)).alloc (.cells #[.iface 112 (.pointer (some ⟨w6.heap.size, 0, none⟩)), .int .i32 0] 30)).drew) := hK
        have HK := Lib.hid hK
        clear hK
        show if Region.wanted _ (yielded _ a.tmps) = true then Oper.wp _ _ a (((w6.alloc (.cells #[.slice sa sn sc, .slice ra n rc, .int .i32 0] 115)).alloc (.cells #[.iface 112 (.pointer (some ⟨w6.heap.size, 0, none⟩)), .int .i32 0] 30)).drew) K _ else _
        go_simp
        exact HK.out
  simp only [List.foldl_cons, List.foldl_nil, List.length_cons, List.length_nil, List.getD_cons_succ, List.getD_cons_zero, Nat.zero_add, Nat.reduceAdd]
  simp only [Act.put, List.setIfInBounds_toArray, List.set_cons_zero, List.set_cons_succ]
  have hs6 : (w6.setCell ⟨w.heap.size + 3, 2, none⟩ (.slice (some ⟨w6.heap.size + 1, 0, none⟩) 1 1)).heap.size = w6.heap.size := by simp [World.setCell]
  have H7 : Hid (St 59 62 (fun rv => #[q, q2, rv, .int .i32 0]) D C (.slice sa sn sc) (.slice la m lc) w (.slice ra n rc) (.slice (some ⟨w6.heap.size + 1, 0, none⟩) 1 1) ([(w6.heap.size, .cells #[.slice sa sn sc, .slice ra n rc, .int .i32 0] 115), (w6.heap.size + 1, .cells #[.iface 112 (.pointer (some ⟨w6.heap.size, 0, none⟩)), .int .i32 0] 30)]) ((((w6.setCell ⟨w.heap.size + 3, 2, none⟩ (.slice (some ⟨w6.heap.size + 1, 0, none⟩) 1 1)).alloc (.cells #[.slice sa sn sc, .slice ra n rc, .int .i32 0] 115)).alloc (.cells #[.iface 112 (.pointer (some ⟨w6.heap.size, 0, none⟩)), .int .i32 0] 30)).drew)) := hid (by
    have h7 := H5.out.set3 hDl hCl (.slice (some ⟨w6.heap.size + 1, 0, none⟩) 1 1)
    have hz6 := H5.out.sz
    generalize w6.setCell ⟨w.heap.size + 3, 2, none⟩ (.slice (some ⟨w6.heap.size + 1, 0, none⟩) 1 1) = X at *
    refine (h7.below (((Below.refl _ _).alloc (Nat.le_refl _) _).alloc (by simp) _).drew).more fun p hp => ?_
    have e1 := heap_alloc_new X (.cells #[.slice sa sn sc, .slice ra n rc, .int .i32 0] 115)
    have e2 := heap_alloc_new (X.alloc (.cells #[.slice sa sn sc, .slice ra n rc, .int .i32 0] 115)) (.cells #[.iface 112 (.pointer (some ⟨w6.heap.size, 0, none⟩)), .int .i32 0] 30)
    have e3 := Below.heap_alloc (X.alloc (.cells #[.slice sa sn sc, .slice ra n rc, .int .i32 0] 115)) (.cells #[.iface 112 (.pointer (some ⟨w6.heap.size, 0, none⟩)), .int .i32 0] 30) X.heap.size (by simp)
    have e4 : (X.alloc (.cells #[.slice sa sn sc, .slice ra n rc, .int .i32 0] 115)).heap.size = w6.heap.size + 1 := by simp [hs6]
    rw [e1] at e3
    rw [hs6] at e3
    rw [e4] at e2
    rcases List.mem_cons.1 hp with rfl | hp
    · exact ⟨hz6, e3⟩
    · rcases List.mem_cons.1 hp with rfl | hp
      · exact ⟨by show _ ≤ _ + 1; omega, e2⟩
      · cases hp)
  generalize (((w6.setCell ⟨w.heap.size + 3, 2, none⟩ (.slice (some ⟨w6.heap.size + 1, 0, none⟩) 1 1)).alloc (.cells #[.slice sa sn sc, .slice ra n rc, .int .i32 0] 115)).alloc (.cells #[.iface 112 (.pointer (some ⟨w6.heap.size, 0, none⟩)), .int .i32 0] 30)).drew = w7 at *
  clear u5 c0 l1 x2 xf2 d1 df hDc hCc hN0 hN1 hN3 hs6 H5
  generalize w6.heap.size = S at *
  obtain ⟨x7, _⟩ : w7.cell? ⟨w.heap.size + 3, 2, none⟩ = some (.slice (some ⟨S + 1, 0, none⟩) 1 1) ∧ w7.frozen? ⟨w.heap.size + 3, 2, none⟩ = false := hcell H7.out.b3 2 _ rfl
  obtain ⟨d7, df7⟩ : w7.cell? ⟨D, 2, none⟩ = some (.slice ra n rc) ∧ w7.frozen? ⟨D, 2, none⟩ = false := hcell H7.out.d 2 _ rfl
  have hD7 : D < w7.heap.size := heap_lt H7.out.d
  go_wp2_with fail
  have H8 := hid (H7.out.setD hDl hDC HDC.out (.slice (some ⟨S + 1, 0, none⟩) 1 1))
  generalize w7.setCell ⟨D, 2, none⟩ (.slice (some ⟨S + 1, 0, none⟩) 1 1) = w8 at *
  clear x7 d7 df7 hD7 H7
  obtain ⟨ho8, ho8b⟩ := H8.out.ownR (by decide) ⟨_, HDD.out⟩ ⟨_, HCC.out⟩ HL.out
  obtain ⟨g9, c9, w9, ha9, ho9, hg9, hat9⟩ := appN (w := w8.drew) Bl 32 30 _ 2 24 [.iface 59 (.pointer (some ⟨D, 0, none⟩)), .int .i32 0] xl m (.slice la m lc) Tryz.underlying32 info30 rfl (by decide) (by decide) ho8 rfl (by intro u hu; simp at hu; rcases hu with rfl | rfl <;> rfl) (by omega) (by have := H8.out.sz; show Bl ≤ w8.heap.size; omega)
  have hs8 := H8.out.sz
  have k9 : ∀ g, g < w8.heap.size → g = C ∨ w.heap.size ≤ g → w9.heap[g]? = w8.heap[g]? := fun g h1 h2 => by
    rw [hg9.block g (by simp; omega) (fun e => by have := ho8b g e.symm; omega)]
    exact Below.heap_alloc w8 _ g h1
  obtain ⟨c92, cf92⟩ : w9.cell? ⟨C, 2, none⟩ = some (.slice la m lc) ∧ w9.frozen? ⟨C, 2, none⟩ = false := hcell ((k9 C (heap_lt H8.out.c) (Or.inl rfl)).trans H8.out.c) 2 _ rfl
  obtain ⟨n90, nf90⟩ : w9.cell? ⟨w.heap.size + 1 + 1, 0, none⟩ = some (.nilIface) ∧ w9.frozen? ⟨w.heap.size + 1 + 1, 0, none⟩ = false := hcell ((k9 (w.heap.size + 2) (heap_lt H8.out.b2) (Or.inr (by omega))).trans H8.out.b2) 0 _ rfl
  obtain ⟨n91, nf91⟩ : w9.cell? ⟨w.heap.size + 1 + 1, 1, none⟩ = some (.int .i32 0) ∧ w9.frozen? ⟨w.heap.size + 1 + 1, 1, none⟩ = false := hcell ((k9 (w.heap.size + 2) (heap_lt H8.out.b2) (Or.inr (by omega))).trans H8.out.b2) 1 _ rfl
  obtain ⟨u9, _⟩ : w9.cell? ⟨w.heap.size + 1, 0, none⟩ = some (.pointer (some ⟨C, 0, none⟩)) ∧ w9.frozen? ⟨w.heap.size + 1, 0, none⟩ = false := hcell ((k9 (w.heap.size + 1) (heap_lt H8.out.b1) (Or.inr (by omega))).trans H8.out.b1) 0 _ rfl
  have hN91 : w.heap.size + 1 < w9.heap.size := heap_lt ((k9 (w.heap.size + 1) (heap_lt H8.out.b1) (Or.inr (by omega))).trans H8.out.b1)
  have hC9 : C < w9.heap.size := heap_lt ((k9 C (heap_lt H8.out.c) (Or.inl rfl)).trans H8.out.c)
  have hN9 : w.heap.size + 1 + 1 < w9.heap.size := heap_lt ((k9 (w.heap.size + 2) (heap_lt H8.out.b2) (Or.inr (by omega))).trans H8.out.b2)
  have hNC : w.heap.size + 1 + 1 ≠ C := by omega
  have hCN : C ≠ w.heap.size + 1 + 1 := by omega
  have HF := hid (H8.out.fin hDl hCl hDC (by decide) ⟨_, HDD.out⟩ ⟨_, HCC.out⟩ HL.out hg9 ho9 hat9 .nilIface (.int .i32 0))
  have ha9' : (Builtin.append_ #[32, 32] 32 #[.slice la m lc, .slice (some ⟨w8.heap.size, 0, none⟩) 1 1]).run Tryz.prog (w8.alloc (.cells #[.iface 59 (.pointer (some ⟨D, 0, none⟩)), .int .i32 0] 30)).drew = .ok (.slice (some ⟨g9, 0, none⟩) (m + 1) c9) w9 := ha9
  obtain ⟨u8, _⟩ : w8.cell? ⟨w.heap.size + 1, 0, none⟩ = some (.pointer (some ⟨C, 0, none⟩)) ∧ w8.frozen? ⟨w.heap.size + 1, 0, none⟩ = false := hcell H8.out.b1 0 _ rfl
  obtain ⟨c82, cf82⟩ : w8.cell? ⟨C, 2, none⟩ = some (.slice la m lc) ∧ w8.frozen? ⟨C, 2, none⟩ = false := hcell H8.out.c 2 _ rfl
  obtain ⟨l80, _⟩ : w8.cell? ⟨w.heap.size, 0, none⟩ = some (.iface 59 (.pointer (some ⟨D, 0, none⟩))) ∧ w8.frozen? ⟨w.heap.size, 0, none⟩ = false := hcell H8.out.b0 0 _ rfl
  obtain ⟨l81, _⟩ : w8.cell? ⟨w.heap.size, 1, none⟩ = some (.int .i32 0) ∧ w8.frozen? ⟨w.heap.size, 1, none⟩ = false := hcell H8.out.b0 1 _ rfl
  have hC8 : C < w8.heap.size := heap_lt H8.out.c
  have hN81 : w.heap.size + 1 < w8.heap.size := heap_lt H8.out.b1
  have hN80 : w.heap.size < w8.heap.size := heap_lt H8.out.b0
  have HK9 := hid k9
  have HS8 := hid hs8
  clear k9 hs8 ho8 ho8b ho9 hg9 hat9 ha9 H8
  have HA9 := hid ha9'
  clear ha9'
  clear cf82
  refine wp_region_dl [(some 321, .pointer (some ⟨C, 0, none⟩)), (some 322, .pointer (some ⟨C, 0, none⟩)), (some 323, .pointer (some ⟨C, 0, none⟩)), (some 324, .pointer (some ⟨C, 2, none⟩)), (some 325, .slice la m lc), (some 326, .agg #[.iface 59 (.pointer (some ⟨D, 0, none⟩)), .int .i32 0]), (some 327, .slice (some ⟨w8.heap.size, 0, none⟩) 1 1), (some 328, .slice (some ⟨g9, 0, none⟩) (m + 1) c9), (some 329, .pointer (some ⟨C, 0, none⟩)), (some 330, .pointer (some ⟨C, 2, none⟩)), (none, undef)] [6, 7, 10] (fun j => ([w8.drew, (w8.alloc (.cells #[.iface 59 (.pointer (some ⟨D, 0, none⟩)), .int .i32 0] 30)).drew, w9, w9.setCell ⟨C, 2, none⟩ (.slice (some ⟨g9, 0, none⟩) (m + 1) c9)] : List World).getD j w8.drew) (fun i => [0, 0, 0, 0, 0, 0, 0, 1, 0, 0, 2].getD i 0) (fun i => [2, 1, 1, 1, 1, 0, 0, 1, 2, 2, 2].getD i 0) 461 (by kernel_rfl) (by kernel_rfl) (by kernel_rfl) (by kernel_rfl) (by decide) (by kernel_rfl) rfl (by kernel_rfl) ?hop82 ?hend82
  case hop82 =>
    intro i o j a ho h1 h2 hd hf K hK
    have hin : i = 0 ∨ i = 1 ∨ i = 2 ∨ i = 3 ∨ i = 4 ∨ i = 5 ∨ i = 6 ∨ i = 7 ∨ i = 8 ∨ i = 9 ∨ i = 10 := by
      rcases Nat.lt_or_ge i 11 with h | h
      · omega
      · rw [Array.getElem?_eq_none h] at ho
        cases ho
    rcases hin with rfl | rfl | rfl | rfl | rfl | rfl | rfl | rfl | rfl | rfl | rfl
    · simp only [List.getElem?_toArray, List.getElem?_cons_zero, Option.some.injEq] at ho
      subst ho
      have v0 : a.eval (.tmp 5) = .pointer (some ⟨w.heap.size + 1, 0, none⟩) := (hf 5 (by kernel_rfl)).trans (by kernel_rfl)
      have u0 : a.tmps[5]?.getD undef = .pointer (some ⟨w.heap.size + 1, 0, none⟩) := by rw [← Array.getD_eq_getD_getElem?]; exact v0
      clear v0
      have hj : j = 0 ∨ j = 1 ∨ j = 2 := by simp at h1 h2; omega
      clear h1 h2 hd hf
      rcases hj with rfl | rfl | rfl
      · replace hK : K (a.put (some 321) (.pointer (some ⟨C, 0, none⟩))) (w8.drew) := hK
        have HK := Lib.hid hK
        clear hK
        show if Region.wanted _ (yielded _ a.tmps) = true then Oper.wp _ _ a (w8.drew) K _ else _
        go_simp
        exact HK.out
      · replace hK : K (a.put (some 321) (.pointer (some ⟨C, 0, none⟩))) ((w8.alloc (.cells #[.iface 59 (.pointer (some ⟨D, 0, none⟩)), .int .i32 0] 30)).drew) := hK
        have HK := Lib.hid hK
        clear hK
        show if Region.wanted _ (yielded _ a.tmps) = true then Oper.wp _ _ a ((w8.alloc (.cells #[.iface 59 (.pointer (some ⟨D, 0, none⟩)), .int .i32 0] 30)).drew) K _ else _
        go_simp
        exact HK.out
      · replace hK : K (a.put (some 321) (.pointer (some ⟨C, 0, none⟩))) (w9) := hK
        have HK := Lib.hid hK
        clear hK
        show if Region.wanted _ (yielded _ a.tmps) = true then Oper.wp _ _ a (w9) K _ else _
        go_simp
        exact HK.out
    · simp only [List.getElem?_toArray, List.getElem?_cons_zero, List.getElem?_cons_succ, Option.some.injEq] at ho
      subst ho
      have v0 : a.eval (.tmp 5) = .pointer (some ⟨w.heap.size + 1, 0, none⟩) := (hf 5 (by kernel_rfl)).trans (by kernel_rfl)
      have u0 : a.tmps[5]?.getD undef = .pointer (some ⟨w.heap.size + 1, 0, none⟩) := by rw [← Array.getD_eq_getD_getElem?]; exact v0
      clear v0
      have hj : j = 0 ∨ j = 1 := by simp at h1 h2; omega
      clear h1 h2 hd hf
      rcases hj with rfl | rfl
      · replace hK : K (a.put (some 322) (.pointer (some ⟨C, 0, none⟩))) (w8.drew) := hK
        have HK := Lib.hid hK
        clear hK
        show if Region.wanted _ (yielded _ a.tmps) = true then Oper.wp _ _ a (w8.drew) K _ else _
        go_simp
        exact HK.out
      · replace hK : K (a.put (some 322) (.pointer (some ⟨C, 0, none⟩))) ((w8.alloc (.cells #[.iface 59 (.pointer (some ⟨D, 0, none⟩)), .int .i32 0] 30)).drew) := hK
        have HK := Lib.hid hK
        clear hK
        show if Region.wanted _ (yielded _ a.tmps) = true then Oper.wp _ _ a ((w8.alloc (.cells #[.iface 59 (.pointer (some ⟨D, 0, none⟩)), .int .i32 0] 30)).drew) K _ else _
        go_simp
        exact HK.out
    · simp only [List.getElem?_toArray, List.getElem?_cons_zero, List.getElem?_cons_succ, Option.some.injEq] at ho
      subst ho
      have v0 : a.eval (.tmp 322) = .pointer (some ⟨C, 0, none⟩) := hd 1 322 (by kernel_rfl) (by kernel_rfl)
      have u0 : a.tmps[322]?.getD undef = .pointer (some ⟨C, 0, none⟩) := by rw [← Array.getD_eq_getD_getElem?]; exact v0
      clear v0
      have hj : j = 0 ∨ j = 1 := by simp at h1 h2; omega
      clear h1 h2 hd hf
      rcases hj with rfl | rfl
      · replace hK : K (a.put (some 323) (.pointer (some ⟨C, 0, none⟩))) (w8.drew) := hK
        have HK := Lib.hid hK
        clear hK
        show if Region.wanted _ (yielded _ a.tmps) = true then Oper.wp _ _ a (w8.drew) K _ else _
        go_simp
        exact HK.out
      · replace hK : K (a.put (some 323) (.pointer (some ⟨C, 0, none⟩))) ((w8.alloc (.cells #[.iface 59 (.pointer (some ⟨D, 0, none⟩)), .int .i32 0] 30)).drew) := hK
        have HK := Lib.hid hK
        clear hK
        show if Region.wanted _ (yielded _ a.tmps) = true then Oper.wp _ _ a ((w8.alloc (.cells #[.iface 59 (.pointer (some ⟨D, 0, none⟩)), .int .i32 0] 30)).drew) K _ else _
        go_simp
        exact HK.out
    · simp only [List.getElem?_toArray, List.getElem?_cons_zero, List.getElem?_cons_succ, Option.some.injEq] at ho
      subst ho
      have v0 : a.eval (.tmp 323) = .pointer (some ⟨C, 0, none⟩) := hd 2 323 (by kernel_rfl) (by kernel_rfl)
      have u0 : a.tmps[323]?.getD undef = .pointer (some ⟨C, 0, none⟩) := by rw [← Array.getD_eq_getD_getElem?]; exact v0
      clear v0
      have hj : j = 0 ∨ j = 1 := by simp at h1 h2; omega
      clear h1 h2 hd hf
      rcases hj with rfl | rfl
      · replace hK : K (a.put (some 324) (.pointer (some ⟨C, 2, none⟩))) (w8.drew) := hK
        have HK := Lib.hid hK
        clear hK
        show if Region.wanted _ (yielded _ a.tmps) = true then Oper.wp _ _ a (w8.drew) K _ else _
        go_simp
        exact HK.out
      · replace hK : K (a.put (some 324) (.pointer (some ⟨C, 2, none⟩))) ((w8.alloc (.cells #[.iface 59 (.pointer (some ⟨D, 0, none⟩)), .int .i32 0] 30)).drew) := hK
        have HK := Lib.hid hK
        clear hK
        show if Region.wanted _ (yielded _ a.tmps) = true then Oper.wp _ _ a ((w8.alloc (.cells #[.iface 59 (.pointer (some ⟨D, 0, none⟩)), .int .i32 0] 30)).drew) K _ else _
        go_simp
        exact HK.out
    · simp only [List.getElem?_toArray, List.getElem?_cons_zero, List.getElem?_cons_succ, Option.some.injEq] at ho
      subst ho
      have v0 : a.eval (.tmp 324) = .pointer (some ⟨C, 2, none⟩) := hd 3 324 (by kernel_rfl) (by kernel_rfl)
      have u0 : a.tmps[324]?.getD undef = .pointer (some ⟨C, 2, none⟩) := by rw [← Array.getD_eq_getD_getElem?]; exact v0
      clear v0
      have hj : j = 0 ∨ j = 1 := by simp at h1 h2; omega
      clear h1 h2 hd hf
      rcases hj with rfl | rfl
      · replace hK : K (a.put (some 325) (.slice la m lc)) (w8.drew) := hK
        have HK := Lib.hid hK
        clear hK
        show if Region.wanted _ (yielded _ a.tmps) = true then Oper.wp _ _ a (w8.drew) K _ else _
        go_simp
        exact HK.out
      · replace hK : K (a.put (some 325) (.slice la m lc)) ((w8.alloc (.cells #[.iface 59 (.pointer (some ⟨D, 0, none⟩)), .int .i32 0] 30)).drew) := hK
        have HK := Lib.hid hK
        clear hK
        show if Region.wanted _ (yielded _ a.tmps) = true then Oper.wp _ _ a ((w8.alloc (.cells #[.iface 59 (.pointer (some ⟨D, 0, none⟩)), .int .i32 0] 30)).drew) K _ else _
        go_simp
        exact HK.out
    · simp only [List.getElem?_toArray, List.getElem?_cons_zero, List.getElem?_cons_succ, Option.some.injEq] at ho
      subst ho
      have v0 : a.eval (.tmp 4) = .pointer (some ⟨w.heap.size, 0, none⟩) := (hf 4 (by kernel_rfl)).trans (by kernel_rfl)
      have u0 : a.tmps[4]?.getD undef = .pointer (some ⟨w.heap.size, 0, none⟩) := by rw [← Array.getD_eq_getD_getElem?]; exact v0
      clear v0
      have hj : j = 0 := by simp at h1 h2; omega
      clear h1 h2 hd hf
      rcases hj with rfl
      · replace hK : K (a.put (some 326) (.agg #[.iface 59 (.pointer (some ⟨D, 0, none⟩)), .int .i32 0])) (w8.drew) := hK
        have HK := Lib.hid hK
        clear hK
        show if Region.wanted _ (yielded _ a.tmps) = true then Oper.wp _ _ a (w8.drew) K _ else _
        go_simp
        exact HK.out
    · simp only [List.getElem?_toArray, List.getElem?_cons_zero, List.getElem?_cons_succ, Option.some.injEq] at ho
      subst ho
      have v0 : a.eval (.tmp 326) = .agg #[.iface 59 (.pointer (some ⟨D, 0, none⟩)), .int .i32 0] := hd 5 326 (by kernel_rfl) (by kernel_rfl)
      have u0 : a.tmps[326]?.getD undef = .agg #[.iface 59 (.pointer (some ⟨D, 0, none⟩)), .int .i32 0] := by rw [← Array.getD_eq_getD_getElem?]; exact v0
      clear v0
      have hj : j = 0 := by simp at h1 h2; omega
      clear h1 h2 hd hf
      rcases hj with rfl
      · replace hK : K (a.put (some 327) (.slice (some ⟨w8.heap.size, 0, none⟩) 1 1)) ((w8.alloc (.cells #[.iface 59 (.pointer (some ⟨D, 0, none⟩)), .int .i32 0] 30)).drew) := hK
        have HK := Lib.hid hK
        clear hK
        show if Region.wanted _ (yielded _ a.tmps) = true then Oper.wp _ _ a (w8.drew) K _ else _
        go_simp
        exact HK.out
    · simp only [List.getElem?_toArray, List.getElem?_cons_zero, List.getElem?_cons_succ, Option.some.injEq] at ho
      subst ho
      have u0 : a.eval (.tmp 325) = .slice la m lc := hd 4 325 (by kernel_rfl) (by kernel_rfl)
      have u1 : a.eval (.tmp 327) = .slice (some ⟨w8.heap.size, 0, none⟩) 1 1 := hd 6 327 (by kernel_rfl) (by kernel_rfl)
      have hj : j = 1 := by simp at h1 h2; omega
      clear h1 h2 hd hf
      rcases hj with rfl
      · replace hK : K (a.put (some 328) (.slice (some ⟨g9, 0, none⟩) (m + 1) c9)) (w9) := hK
        have HK := Lib.hid hK
        clear hK
        show if Region.wanted _ (yielded _ a.tmps) = true then Oper.wp _ _ a ((w8.alloc (.cells #[.iface 59 (.pointer (some ⟨D, 0, none⟩)), .int .i32 0] 30)).drew) K _ else _
        exact step_run rfl (.tmp 325) (.tmp 327) 32 rfl (.slice la m lc) (.slice (some ⟨w8.heap.size, 0, none⟩) 1 1) _ w9 u0 u1 HA9.out HK.out
    · simp only [List.getElem?_toArray, List.getElem?_cons_zero, List.getElem?_cons_succ, Option.some.injEq] at ho
      subst ho
      have v0 : a.eval (.tmp 321) = .pointer (some ⟨C, 0, none⟩) := hd 0 321 (by kernel_rfl) (by kernel_rfl)
      have u0 : a.tmps[321]?.getD undef = .pointer (some ⟨C, 0, none⟩) := by rw [← Array.getD_eq_getD_getElem?]; exact v0
      clear v0
      have hj : j = 0 ∨ j = 1 ∨ j = 2 := by simp at h1 h2; omega
      clear h1 h2 hd hf
      rcases hj with rfl | rfl | rfl
      · replace hK : K (a.put (some 329) (.pointer (some ⟨C, 0, none⟩))) (w8.drew) := hK
        have HK := Lib.hid hK
        clear hK
        show if Region.wanted _ (yielded _ a.tmps) = true then Oper.wp _ _ a (w8.drew) K _ else _
        go_simp
        exact HK.out
      · replace hK : K (a.put (some 329) (.pointer (some ⟨C, 0, none⟩))) ((w8.alloc (.cells #[.iface 59 (.pointer (some ⟨D, 0, none⟩)), .int .i32 0] 30)).drew) := hK
        have HK := Lib.hid hK
        clear hK
        show if Region.wanted _ (yielded _ a.tmps) = true then Oper.wp _ _ a ((w8.alloc (.cells #[.iface 59 (.pointer (some ⟨D, 0, none⟩)), .int .i32 0] 30)).drew) K _ else _
        go_simp
        exact HK.out
      · replace hK : K (a.put (some 329) (.pointer (some ⟨C, 0, none⟩))) (w9) := hK
        have HK := Lib.hid hK
        clear hK
        show if Region.wanted _ (yielded _ a.tmps) = true then Oper.wp _ _ a (w9) K _ else _
        go_simp
        exact HK.out
    · simp only [List.getElem?_toArray, List.getElem?_cons_zero, List.getElem?_cons_succ, Option.some.injEq] at ho
      subst ho
      have v0 : a.eval (.tmp 329) = .pointer (some ⟨C, 0, none⟩) := hd 8 329 (by kernel_rfl) (by kernel_rfl)
      have u0 : a.tmps[329]?.getD undef = .pointer (some ⟨C, 0, none⟩) := by rw [← Array.getD_eq_getD_getElem?]; exact v0
      clear v0
      have hj : j = 0 ∨ j = 1 ∨ j = 2 := by simp at h1 h2; omega
      clear h1 h2 hd hf
      rcases hj with rfl | rfl | rfl
      · replace hK : K (a.put (some 330) (.pointer (some ⟨C, 2, none⟩))) (w8.drew) := hK
        have HK := Lib.hid hK
        clear hK
        show if Region.wanted _ (yielded _ a.tmps) = true then Oper.wp _ _ a (w8.drew) K _ else _
        go_simp
        exact HK.out
      · replace hK : K (a.put (some 330) (.pointer (some ⟨C, 2, none⟩))) ((w8.alloc (.cells #[.iface 59 (.pointer (some ⟨D, 0, none⟩)), .int .i32 0] 30)).drew) := hK
        have HK := Lib.hid hK
        clear hK
        show if Region.wanted _ (yielded _ a.tmps) = true then Oper.wp _ _ a ((w8.alloc (.cells #[.iface 59 (.pointer (some ⟨D, 0, none⟩)), .int .i32 0] 30)).drew) K _ else _
        go_simp
        exact HK.out
      · replace hK : K (a.put (some 330) (.pointer (some ⟨C, 2, none⟩))) (w9) := hK
        have HK := Lib.hid hK
        clear hK
        show if Region.wanted _ (yielded _ a.tmps) = true then Oper.wp _ _ a (w9) K _ else _
        go_simp
        exact HK.out
    · simp only [List.getElem?_toArray, List.getElem?_cons_zero, List.getElem?_cons_succ, Option.some.injEq] at ho
      subst ho
      have v0 : a.eval (.tmp 330) = .pointer (some ⟨C, 2, none⟩) := hd 9 330 (by kernel_rfl) (by kernel_rfl)
      have u0 : a.tmps[330]?.getD undef = .pointer (some ⟨C, 2, none⟩) := by rw [← Array.getD_eq_getD_getElem?]; exact v0
      clear v0
      have v1 : a.eval (.tmp 328) = .slice (some ⟨g9, 0, none⟩) (m + 1) c9 := hd 7 328 (by kernel_rfl) (by kernel_rfl)
      have u1 : a.tmps[328]?.getD undef = .slice (some ⟨g9, 0, none⟩) (m + 1) c9 := by rw [← Array.getD_eq_getD_getElem?]; exact v1
      clear v1
      have hj : j = 2 := by simp at h1 h2; omega
      clear h1 h2 hd hf
      rcases hj with rfl
      · replace hK : K (a.put (none) (undef)) (w9.setCell ⟨C, 2, none⟩ (.slice (some ⟨g9, 0, none⟩) (m + 1) c9)) := hK
        have HK := Lib.hid hK
        clear hK
        show if Region.wanted _ (yielded _ a.tmps) = true then Oper.wp _ _ a (w9) K _ else _
        go_simp
        exact HK.out
  simp only [List.foldl_cons, List.foldl_nil, List.length_cons, List.length_nil, List.getD_cons_succ, List.getD_cons_zero, Nat.zero_add, Nat.reduceAdd]
  simp only [Act.put, List.setIfInBounds_toArray, List.set_cons_zero, List.set_cons_succ]
  go_wp2_with fail
  exact bodyPost_ret (v := .agg #[.nilIface, .int .i32 0]) (by simp [results, Tryz.results20, go_sem, n90, n91]) rfl ⟨S, rfl, HF.out⟩

set_option maxHeartbeats 16000000 in
set_option maxRecDepth 100000 in
theorem low20kz (B n Bl m : Nat) (hn : n ≤ 4096) (h0 : ¬ 0 < n) (p : Option Addr) (D C : Nat) (q q2 : Value) (rules low : Value) (sa : Option Addr) (sn sc : Nat) (xl : List Value) (w : World)
    (hD : w.heap[D]? = some (.cells ((fun rv => #[q, q2, rv, .int .i32 0]) rules) 62 (0, 0))) (hC : w.heap[C]? = some (.cells #[.slice sa sn sc, .slice sa sn sc, low] 109 (0, 0))) (hDC : D ≠ C) (hr : DecO B n rules w) (hl : w.ownsRow Bl 30 2 low m xl) :
    Calls Tryz.prog 20 #[.pointer p, .agg #[.iface 59 (.pointer (some ⟨D, 0, none⟩)), .int .i32 0], .pointer (some ⟨C, 0, none⟩)] w fun e w' => e = .returned (.agg #[.nilIface, .int .i32 0]) ∧ Below w.heap.size w w' := by
  have HDD := hid hD
  have HCC := hid hC
  obtain ⟨ra, rc, rfl, hrc, _⟩ := hr.opn
  obtain ⟨la, lc, rfl⟩ : ∃ la lc, low = .slice la m lc := by
    rcases hl.2 with ⟨e, h0⟩ | ⟨g, cap, cur, e, _⟩
    · exact ⟨none, 0, by rw [e, h0]⟩
    · exact ⟨_, cap, e⟩
  have hDl := heap_lt hD
  have hCl := heap_lt hC
  obtain ⟨W, hW⟩ : ∃ W, W = ((w.alloc (.cells #[.iface 59 (.pointer (some ⟨D, 0, none⟩)), .int .i32 0] 30)).alloc (.cells #[.pointer (some ⟨C, 0, none⟩)] 111)).alloc (.cells #[.nilIface, .int .i32 0] 30) := ⟨_, rfl⟩
  have hWb : Below w.heap.size w W := by rw [hW]; exact (((Below.refl _ _).alloc (Nat.le_refl _) _).alloc (by simp) _).alloc (by simp; omega) _
  have hWs : W.heap.size = w.heap.size + 3 := by rw [hW]; simp
  obtain ⟨b0, b1, b2⟩ : W.heap[w.heap.size]? = some (.cells #[.iface 59 (.pointer (some ⟨D, 0, none⟩)), .int .i32 0] 30 (0, 0)) ∧ W.heap[w.heap.size + 1]? = some (.cells #[.pointer (some ⟨C, 0, none⟩)] 111 (0, 0)) ∧ W.heap[w.heap.size + 2]? = some (.cells #[.nilIface, .int .i32 0] 30 (0, 0)) := by
    rw [hW]
    refine ⟨?_, ?_, ?_⟩
    · rw [Below.heap_alloc _ _ _ (by simp; omega), Below.heap_alloc _ _ _ (by simp), heap_alloc_new]
    · have := heap_alloc_new (w.alloc (.cells #[.iface 59 (.pointer (some ⟨D, 0, none⟩)), .int .i32 0] 30)) (.cells #[.pointer (some ⟨C, 0, none⟩)] 111)
      rw [Below.heap_alloc _ _ _ (by simp)]
      simpa using this
    · have := heap_alloc_new ((w.alloc (.cells #[.iface 59 (.pointer (some ⟨D, 0, none⟩)), .int .i32 0] 30)).alloc (.cells #[.pointer (some ⟨C, 0, none⟩)] 111)) (.cells #[.nilIface, .int .i32 0] 30)
      simpa using this
  have HS0 : Hid (St 59 62 (fun rv => #[q, q2, rv, .int .i32 0]) D C (.slice sa sn sc) (.slice la m lc) w (.slice ra n rc) (.slice none 0 0) [] (W.alloc (.cells #[.slice sa sn sc, .slice sa sn sc, .slice none 0 0] 109))) := hid (by
    have a : ∀ g, g < W.heap.size → (W.alloc (.cells #[.slice sa sn sc, .slice sa sn sc, .slice none 0 0] 109)).heap[g]? = W.heap[g]? := fun g h => Below.heap_alloc _ _ _ h
    refine ⟨fun g hg _ _ => (a g (by omega)).trans (hWb.block g hg), ⟨hWb.os, hWb.tape, hWb.output⟩, by simp; omega, (a _ (by omega)).trans b0, (a _ (by omega)).trans b1, (a _ (by omega)).trans b2, ?_, ((a D (by omega)).trans (hWb.block D hDl)).trans hD, ((a C (by omega)).trans (hWb.block C hCl)).trans hC, fun p hp => by cases hp⟩
    have := heap_alloc_new W (.cells #[.slice sa sn sc, .slice sa sn sc, .slice none 0 0] 109)
    rw [hWs] at this
    exact this)
  have HC := hid ((hWb.block C hCl).trans hC)
  have HR := hid hr
  have HB1 := hid b1
  have hdd : ∀ r r', ((fun rv => #[q, q2, rv, .int .i32 0]) r).setIfInBounds 2 r' = (fun rv => #[q, q2, rv, .int .i32 0]) r' := fun r r' => by simp
  have HDC := hid hdd
  clear hr hD hC hWb b0 b1 b2 hl hdd
  go_enter Tryz.func20, Tryz.ntmps20
  go_wp2_with fail
  rw [← hW]
  obtain ⟨u5, _⟩ : W.cell? ⟨w.heap.size + 1, 0, none⟩ = some (.pointer (some ⟨C, 0, none⟩)) ∧ W.frozen? ⟨w.heap.size + 1, 0, none⟩ = false := hcell HB1.out 0 _ rfl
  obtain ⟨c0, _⟩ : W.cell? ⟨C, 0, none⟩ = some (.slice sa sn sc) ∧ W.frozen? ⟨C, 0, none⟩ = false := hcell HC.out 0 _ rfl
  obtain ⟨c1, _⟩ : W.cell? ⟨C, 1, none⟩ = some (.slice sa sn sc) ∧ W.frozen? ⟨C, 1, none⟩ = false := hcell HC.out 1 _ rfl
  have hC3 : C < W.heap.size := by omega
  have hC4 : C ≠ W.heap.size := by omega
  have hN1 : w.heap.size + 1 < W.heap.size := by omega
  have hN14 : w.heap.size + 1 ≠ W.heap.size := by omega
  have HWS := hid hWs
  clear hWs hW
  refine wp_region_dl [(some 269, .pointer (some ⟨C, 0, none⟩)), (some 270, .pointer (some ⟨C, 0, none⟩)), (some 271, .pointer (some ⟨C, 0, none⟩)), (some 272, .slice sa sn sc), (some 273, .pointer (some ⟨C, 0, none⟩)), (some 274, .pointer (some ⟨C, 0, none⟩)), (some 275, .pointer (some ⟨C, 1, none⟩)), (some 276, .slice sa sn sc), (some 277, .agg #[.slice sa sn sc, .slice sa sn sc, .slice none 0 0]), (some 32, .pointer (some ⟨W.heap.size, 0, none⟩)), (none, undef)] [9, 10] (fun j => ([W.drew, (W.alloc (.cells #[.slice none 0 0, .slice none 0 0, .slice none 0 0] 109)).drew, (W.alloc (.cells #[.slice sa sn sc, .slice sa sn sc, .slice none 0 0] 109)).drew] : List World).getD j W.drew) (fun i => [0, 0, 0, 0, 0, 0, 0, 0, 0, 0, 1].getD i 0) (fun i => [1, 1, 1, 1, 1, 1, 1, 1, 1, 0, 1].getD i 0) 461 (by kernel_rfl) (by kernel_rfl) (by kernel_rfl) (by kernel_rfl) (by decide) (by kernel_rfl) rfl (by kernel_rfl) ?hop76 ?hend76
  case hop76 =>
    intro i o j a ho h1 h2 hd hf K hK
    have hin : i = 0 ∨ i = 1 ∨ i = 2 ∨ i = 3 ∨ i = 4 ∨ i = 5 ∨ i = 6 ∨ i = 7 ∨ i = 8 ∨ i = 9 ∨ i = 10 := by
      rcases Nat.lt_or_ge i 11 with h | h
      · omega
      · rw [Array.getElem?_eq_none h] at ho
        cases ho
    rcases hin with rfl | rfl | rfl | rfl | rfl | rfl | rfl | rfl | rfl | rfl | rfl
    · simp only [List.getElem?_toArray, List.getElem?_cons_zero, Option.some.injEq] at ho
      subst ho
      have v0 : a.eval (.tmp 5) = .pointer (some ⟨w.heap.size + 1, 0, none⟩) := (hf 5 (by kernel_rfl)).trans (by kernel_rfl)
      have u0 : a.tmps[5]?.getD undef = .pointer (some ⟨w.heap.size + 1, 0, none⟩) := by rw [← Array.getD_eq_getD_getElem?]; exact v0
      clear v0
      have hj : j = 0 ∨ j = 1 := by simp at h1 h2; omega
      clear h1 h2 hd hf
      rcases hj with rfl | rfl
      · replace hK : K (a.put (some 269) (.pointer (some ⟨C, 0, none⟩))) (W.drew) := hK
        have HK := Lib.hid hK
        clear hK
        show if Region.wanted _ (yielded _ a.tmps) = true then Oper.wp _ _ a (W.drew) K _ else _
        go_simp
        exact HK.out
      · replace hK : K (a.put (some 269) (.pointer (some ⟨C, 0, none⟩))) ((W.alloc (.cells #[.slice none 0 0, .slice none 0 0, .slice none 0 0] 109)).drew) := hK
        have HK := Lib.hid hK
        clear hK
        show if Region.wanted _ (yielded _ a.tmps) = true then Oper.wp _ _ a ((W.alloc (.cells #[.slice none 0 0, .slice none 0 0, .slice none 0 0] 109)).drew) K _ else _
        go_simp
        exact HK.out
    · simp only [List.getElem?_toArray, List.getElem?_cons_zero, List.getElem?_cons_succ, Option.some.injEq] at ho
      subst ho
      have v0 : a.eval (.tmp 269) = .pointer (some ⟨C, 0, none⟩) := hd 0 269 (by kernel_rfl) (by kernel_rfl)
      have u0 : a.tmps[269]?.getD undef = .pointer (some ⟨C, 0, none⟩) := by rw [← Array.getD_eq_getD_getElem?]; exact v0
      clear v0
      have hj : j = 0 ∨ j = 1 := by simp at h1 h2; omega
      clear h1 h2 hd hf
      rcases hj with rfl | rfl
      · replace hK : K (a.put (some 270) (.pointer (some ⟨C, 0, none⟩))) (W.drew) := hK
        have HK := Lib.hid hK
        clear hK
        show if Region.wanted _ (yielded _ a.tmps) = true then Oper.wp _ _ a (W.drew) K _ else _
        go_simp
        exact HK.out
      · replace hK : K (a.put (some 270) (.pointer (some ⟨C, 0, none⟩))) ((W.alloc (.cells #[.slice none 0 0, .slice none 0 0, .slice none 0 0] 109)).drew) := hK
        have HK := Lib.hid hK
        clear hK
        show if Region.wanted _ (yielded _ a.tmps) = true then Oper.wp _ _ a ((W.alloc (.cells #[.slice none 0 0, .slice none 0 0, .slice none 0 0] 109)).drew) K _ else _
        go_simp
        exact HK.out
    · simp only [List.getElem?_toArray, List.getElem?_cons_zero, List.getElem?_cons_succ, Option.some.injEq] at ho
      subst ho
      have v0 : a.eval (.tmp 270) = .pointer (some ⟨C, 0, none⟩) := hd 1 270 (by kernel_rfl) (by kernel_rfl)
      have u0 : a.tmps[270]?.getD undef = .pointer (some ⟨C, 0, none⟩) := by rw [← Array.getD_eq_getD_getElem?]; exact v0
      clear v0
      have hj : j = 0 ∨ j = 1 := by simp at h1 h2; omega
      clear h1 h2 hd hf
      rcases hj with rfl | rfl
      · replace hK : K (a.put (some 271) (.pointer (some ⟨C, 0, none⟩))) (W.drew) := hK
        have HK := Lib.hid hK
        clear hK
        show if Region.wanted _ (yielded _ a.tmps) = true then Oper.wp _ _ a (W.drew) K _ else _
        go_simp
        exact HK.out
      · replace hK : K (a.put (some 271) (.pointer (some ⟨C, 0, none⟩))) ((W.alloc (.cells #[.slice none 0 0, .slice none 0 0, .slice none 0 0] 109)).drew) := hK
        have HK := Lib.hid hK
        clear hK
        show if Region.wanted _ (yielded _ a.tmps) = true then Oper.wp _ _ a ((W.alloc (.cells #[.slice none 0 0, .slice none 0 0, .slice none 0 0] 109)).drew) K _ else _
        go_simp
        exact HK.out
    · simp only [List.getElem?_toArray, List.getElem?_cons_zero, List.getElem?_cons_succ, Option.some.injEq] at ho
      subst ho
      have v0 : a.eval (.tmp 271) = .pointer (some ⟨C, 0, none⟩) := hd 2 271 (by kernel_rfl) (by kernel_rfl)
      have u0 : a.tmps[271]?.getD undef = .pointer (some ⟨C, 0, none⟩) := by rw [← Array.getD_eq_getD_getElem?]; exact v0
      clear v0
      have hj : j = 0 ∨ j = 1 := by simp at h1 h2; omega
      clear h1 h2 hd hf
      rcases hj with rfl | rfl
      · replace hK : K (a.put (some 272) (.slice sa sn sc)) (W.drew) := hK
        have HK := Lib.hid hK
        clear hK
        show if Region.wanted _ (yielded _ a.tmps) = true then Oper.wp _ _ a (W.drew) K _ else _
        go_simp
        exact HK.out
      · replace hK : K (a.put (some 272) (.slice sa sn sc)) ((W.alloc (.cells #[.slice none 0 0, .slice none 0 0, .slice none 0 0] 109)).drew) := hK
        have HK := Lib.hid hK
        clear hK
        show if Region.wanted _ (yielded _ a.tmps) = true then Oper.wp _ _ a ((W.alloc (.cells #[.slice none 0 0, .slice none 0 0, .slice none 0 0] 109)).drew) K _ else _
        go_simp
        exact HK.out
    · simp only [List.getElem?_toArray, List.getElem?_cons_zero, List.getElem?_cons_succ, Option.some.injEq] at ho
      subst ho
      have v0 : a.eval (.tmp 5) = .pointer (some ⟨w.heap.size + 1, 0, none⟩) := (hf 5 (by kernel_rfl)).trans (by kernel_rfl)
      have u0 : a.tmps[5]?.getD undef = .pointer (some ⟨w.heap.size + 1, 0, none⟩) := by rw [← Array.getD_eq_getD_getElem?]; exact v0
      clear v0
      have hj : j = 0 ∨ j = 1 := by simp at h1 h2; omega
      clear h1 h2 hd hf
      rcases hj with rfl | rfl
      · replace hK : K (a.put (some 273) (.pointer (some ⟨C, 0, none⟩))) (W.drew) := hK
        have HK := Lib.hid hK
        clear hK
        show if Region.wanted _ (yielded _ a.tmps) = true then Oper.wp _ _ a (W.drew) K _ else _
        go_simp
        exact HK.out
      · replace hK : K (a.put (some 273) (.pointer (some ⟨C, 0, none⟩))) ((W.alloc (.cells #[.slice none 0 0, .slice none 0 0, .slice none 0 0] 109)).drew) := hK
        have HK := Lib.hid hK
        clear hK
        show if Region.wanted _ (yielded _ a.tmps) = true then Oper.wp _ _ a ((W.alloc (.cells #[.slice none 0 0, .slice none 0 0, .slice none 0 0] 109)).drew) K _ else _
        go_simp
        exact HK.out
    · simp only [List.getElem?_toArray, List.getElem?_cons_zero, List.getElem?_cons_succ, Option.some.injEq] at ho
      subst ho
      have v0 : a.eval (.tmp 273) = .pointer (some ⟨C, 0, none⟩) := hd 4 273 (by kernel_rfl) (by kernel_rfl)
      have u0 : a.tmps[273]?.getD undef = .pointer (some ⟨C, 0, none⟩) := by rw [← Array.getD_eq_getD_getElem?]; exact v0
      clear v0
      have hj : j = 0 ∨ j = 1 := by simp at h1 h2; omega
      clear h1 h2 hd hf
      rcases hj with rfl | rfl
      · replace hK : K (a.put (some 274) (.pointer (some ⟨C, 0, none⟩))) (W.drew) := hK
        have HK := Lib.hid hK
        clear hK
        show if Region.wanted _ (yielded _ a.tmps) = true then Oper.wp _ _ a (W.drew) K _ else _
        go_simp
        exact HK.out
      · replace hK : K (a.put (some 274) (.pointer (some ⟨C, 0, none⟩))) ((W.alloc (.cells #[.slice none 0 0, .slice none 0 0, .slice none 0 0] 109)).drew) := hK
        have HK := Lib.hid hK
        clear hK
        show if Region.wanted _ (yielded _ a.tmps) = true then Oper.wp _ _ a ((W.alloc (.cells #[.slice none 0 0, .slice none 0 0, .slice none 0 0] 109)).drew) K _ else _
        go_simp
        exact HK.out
    · simp only [List.getElem?_toArray, List.getElem?_cons_zero, List.getElem?_cons_succ, Option.some.injEq] at ho
      subst ho
      have v0 : a.eval (.tmp 274) = .pointer (some ⟨C, 0, none⟩) := hd 5 274 (by kernel_rfl) (by kernel_rfl)
      have u0 : a.tmps[274]?.getD undef = .pointer (some ⟨C, 0, none⟩) := by rw [← Array.getD_eq_getD_getElem?]; exact v0
      clear v0
      have hj : j = 0 ∨ j = 1 := by simp at h1 h2; omega
      clear h1 h2 hd hf
      rcases hj with rfl | rfl
      · replace hK : K (a.put (some 275) (.pointer (some ⟨C, 1, none⟩))) (W.drew) := hK
        have HK := Lib.hid hK
        clear hK
        show if Region.wanted _ (yielded _ a.tmps) = true then Oper.wp _ _ a (W.drew) K _ else _
        go_simp
        exact HK.out
      · replace hK : K (a.put (some 275) (.pointer (some ⟨C, 1, none⟩))) ((W.alloc (.cells #[.slice none 0 0, .slice none 0 0, .slice none 0 0] 109)).drew) := hK
        have HK := Lib.hid hK
        clear hK
        show if Region.wanted _ (yielded _ a.tmps) = true then Oper.wp _ _ a ((W.alloc (.cells #[.slice none 0 0, .slice none 0 0, .slice none 0 0] 109)).drew) K _ else _
        go_simp
        exact HK.out
    · simp only [List.getElem?_toArray, List.getElem?_cons_zero, List.getElem?_cons_succ, Option.some.injEq] at ho
      subst ho
      have v0 : a.eval (.tmp 275) = .pointer (some ⟨C, 1, none⟩) := hd 6 275 (by kernel_rfl) (by kernel_rfl)
      have u0 : a.tmps[275]?.getD undef = .pointer (some ⟨C, 1, none⟩) := by rw [← Array.getD_eq_getD_getElem?]; exact v0
      clear v0
      have hj : j = 0 ∨ j = 1 := by simp at h1 h2; omega
      clear h1 h2 hd hf
      rcases hj with rfl | rfl
      · replace hK : K (a.put (some 276) (.slice sa sn sc)) (W.drew) := hK
        have HK := Lib.hid hK
        clear hK
        show if Region.wanted _ (yielded _ a.tmps) = true then Oper.wp _ _ a (W.drew) K _ else _
        go_simp
        exact HK.out
      · replace hK : K (a.put (some 276) (.slice sa sn sc)) ((W.alloc (.cells #[.slice none 0 0, .slice none 0 0, .slice none 0 0] 109)).drew) := hK
        have HK := Lib.hid hK
        clear hK
        show if Region.wanted _ (yielded _ a.tmps) = true then Oper.wp _ _ a ((W.alloc (.cells #[.slice none 0 0, .slice none 0 0, .slice none 0 0] 109)).drew) K _ else _
        go_simp
        exact HK.out
    · simp only [List.getElem?_toArray, List.getElem?_cons_zero, List.getElem?_cons_succ, Option.some.injEq] at ho
      subst ho
      have v0 : a.eval (.tmp 272) = .slice sa sn sc := hd 3 272 (by kernel_rfl) (by kernel_rfl)
      have u0 : a.tmps[272]?.getD undef = .slice sa sn sc := by rw [← Array.getD_eq_getD_getElem?]; exact v0
      clear v0
      have v1 : a.eval (.tmp 276) = .slice sa sn sc := hd 7 276 (by kernel_rfl) (by kernel_rfl)
      have u1 : a.tmps[276]?.getD undef = .slice sa sn sc := by rw [← Array.getD_eq_getD_getElem?]; exact v1
      clear v1
      have hj : j = 0 ∨ j = 1 := by simp at h1 h2; omega
      clear h1 h2 hd hf
      rcases hj with rfl | rfl
      · replace hK : K (a.put (some 277) (.agg #[.slice sa sn sc, .slice sa sn sc, .slice none 0 0])) (W.drew) := hK
        have HK := Lib.hid hK
        clear hK
        show if Region.wanted _ (yielded _ a.tmps) = true then Oper.wp _ _ a (W.drew) K _ else _
        go_simp
        exact HK.out
      · replace hK : K (a.put (some 277) (.agg #[.slice sa sn sc, .slice sa sn sc, .slice none 0 0])) ((W.alloc (.cells #[.slice none 0 0, .slice none 0 0, .slice none 0 0] 109)).drew) := hK
        have HK := Lib.hid hK
        clear hK
        show if Region.wanted _ (yielded _ a.tmps) = true then Oper.wp _ _ a ((W.alloc (.cells #[.slice none 0 0, .slice none 0 0, .slice none 0 0] 109)).drew) K _ else _
        go_simp
        exact HK.out
    · simp only [List.getElem?_toArray, List.getElem?_cons_zero, List.getElem?_cons_succ, Option.some.injEq] at ho
      subst ho
      have hj : j = 0 := by simp at h1 h2; omega
      clear h1 h2 hd hf
      rcases hj with rfl
      · replace hK : K (a.put (some 32) (.pointer (some ⟨W.heap.size, 0, none⟩))) ((W.alloc (.cells #[.slice none 0 0, .slice none 0 0, .slice none 0 0] 109)).drew) := hK
        have HK := Lib.hid hK
        clear hK
        show if Region.wanted _ (yielded _ a.tmps) = true then Oper.wp _ _ a (W.drew) K _ else _
        go_simp
        exact HK.out
    · simp only [List.getElem?_toArray, List.getElem?_cons_zero, List.getElem?_cons_succ, Option.some.injEq] at ho
      subst ho
      have v0 : a.eval (.tmp 32) = .pointer (some ⟨W.heap.size, 0, none⟩) := hd 9 32 (by kernel_rfl) (by kernel_rfl)
      have u0 : a.tmps[32]?.getD undef = .pointer (some ⟨W.heap.size, 0, none⟩) := by rw [← Array.getD_eq_getD_getElem?]; exact v0
      clear v0
      have v1 : a.eval (.tmp 277) = .agg #[.slice sa sn sc, .slice sa sn sc, .slice none 0 0] := hd 8 277 (by kernel_rfl) (by kernel_rfl)
      have u1 : a.tmps[277]?.getD undef = .agg #[.slice sa sn sc, .slice sa sn sc, .slice none 0 0] := by rw [← Array.getD_eq_getD_getElem?]; exact v1
      clear v1
      have hj : j = 1 := by simp at h1 h2; omega
      clear h1 h2 hd hf
      rcases hj with rfl
      · replace hK : K (a.put (none) (undef)) ((W.alloc (.cells #[.slice sa sn sc, .slice sa sn sc, .slice none 0 0] 109)).drew) := hK
        have HK := Lib.hid hK
        clear hK
        show if Region.wanted _ (yielded _ a.tmps) = true then Oper.wp _ _ a ((W.alloc (.cells #[.slice none 0 0, .slice none 0 0, .slice none 0 0] 109)).drew) K _ else _
        go_simp
        exact HK.out
  simp only [List.foldl_cons, List.foldl_nil, List.length_cons, List.length_nil, List.getD_cons_succ, List.getD_cons_zero, Nat.zero_add, Nat.reduceAdd]
  simp only [Act.put, List.setIfInBounds_toArray, List.set_cons_zero, List.set_cons_succ]
  have HS : Hid (St 59 62 (fun rv => #[q, q2, rv, .int .i32 0]) D C (.slice sa sn sc) (.slice la m lc) w (.slice ra n rc) (.slice none 0 0) [] ((W.alloc (.cells #[.slice sa sn sc, .slice sa sn sc, .slice none 0 0] 109)).drew)) := hid (HS0.out.below (Below.refl _ _).drew)
  generalize (W.alloc (.cells #[.slice sa sn sc, .slice sa sn sc, .slice none 0 0] 109)).drew = wc at *
  rw [HWS.out]
  clear HS0 u5 c0 c1 hC3 hC4 hN1 hN14 HC HB1
  obtain ⟨d1, df⟩ : wc.cell? ⟨D, 2, none⟩ = some (.slice ra n rc) ∧ wc.frozen? ⟨D, 2, none⟩ = false := hcell HS.out.d 2 _ rfl
  have C32 := hid (rem32 B n hn p ⟨w.heap.size + 3, 0, none⟩ (.slice ra n rc) wc (HS.out.dec (by decide) HDD.out HCC.out HR.out))
  have hDc : D < wc.heap.size := heap_lt HS.out.d
  go_wp2_with fail
  refine C32.out.mono ?_
  rintro e w5 ⟨rfl, hb5⟩
  have h5 := HS.out.below hb5
  obtain ⟨d5, df5⟩ : w5.cell? ⟨D, 2, none⟩ = some (.slice ra n rc) ∧ w5.frozen? ⟨D, 2, none⟩ = false := hcell h5.d 2 _ rfl
  have hD5 : D < w5.heap.size := heap_lt h5.d
  have H5 := hid (h5.setD hDl hDC HDC.out (.slice ra n rc))
  clear h5 hb5 C32 d1 df HS hDc
  have hn0 : ¬ (0 : Int) < (n : Int) := by omega
  obtain ⟨x5, _⟩ : (w5.setCell ⟨D, 2, none⟩ (.slice ra n rc)).cell? ⟨w.heap.size + 3, 2, none⟩ = some (.slice none 0 0) ∧ (w5.setCell ⟨D, 2, none⟩ (.slice ra n rc)).frozen? ⟨w.heap.size + 3, 2, none⟩ = false := hcell H5.out.b3 2 _ rfl
  have x52 : w5.cell? ⟨w.heap.size + 3, 2, none⟩ = some (.slice none 0 0) := by
    rw [World.cell?_setCell_other _ _ _ _ (by simp)] at x5
    exact x5
  have hne : D ≠ w.heap.size + 3 := by omega
  have hne2 : w.heap.size + 3 ≠ D := by omega
  obtain ⟨n90, nf90⟩ : (w5.setCell ⟨D, 2, none⟩ (.slice ra n rc)).cell? ⟨w.heap.size + 1 + 1, 0, none⟩ = some .nilIface ∧ (w5.setCell ⟨D, 2, none⟩ (.slice ra n rc)).frozen? ⟨w.heap.size + 1 + 1, 0, none⟩ = false := hcell H5.out.b2 0 _ rfl
  obtain ⟨n91, nf91⟩ : (w5.setCell ⟨D, 2, none⟩ (.slice ra n rc)).cell? ⟨w.heap.size + 1 + 1, 1, none⟩ = some (.int .i32 0) ∧ (w5.setCell ⟨D, 2, none⟩ (.slice ra n rc)).frozen? ⟨w.heap.size + 1 + 1, 1, none⟩ = false := hcell H5.out.b2 1 _ rfl
  have hN5 : w.heap.size + 1 + 1 < (w5.setCell ⟨D, 2, none⟩ (.slice ra n rc)).heap.size := heap_lt H5.out.b2
  have HF := hid (((H5.out.same HDD.out HCC.out).setCell (p := ⟨w.heap.size + 1 + 1, 0, none⟩) (by show _ ≤ _ + 1 + 1; omega) .nilIface).setCell (p := ⟨w.heap.size + 1 + 1, 1, none⟩) (by show _ ≤ _ + 1 + 1; omega) (.int .i32 0))
  go_upto_if 315 with fail
  generalize w5.setCell ⟨D, 2, none⟩ (.slice ra n rc) = w6 at *
  clear x52
  go_wp2_with fail
  exact bodyPost_ret (v := .agg #[.nilIface, .int .i32 0]) (by simp [results, Tryz.results20, go_sem, n90, n91]) rfl ⟨rfl, HF.out⟩
end Go.Proofs.YtllafdcijpdopaaGreatFmt
