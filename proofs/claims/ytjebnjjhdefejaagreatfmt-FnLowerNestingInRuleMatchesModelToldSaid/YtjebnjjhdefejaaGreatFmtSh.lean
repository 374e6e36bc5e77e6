/-
  An at-rule without declarations of its own, with what it leaves. Conditions: each theorem's own.
-/
import Derived.Test.YtjebnjjhdefejaaGreatFmtSg
namespace Go.Proofs.YtjebnjjhdefejaaGreatFmt
open Go.RowKit Go.Lib Go.ChangeMaps
set_option maxHeartbeats 16000000 in
set_option maxRecDepth 100000 in
theorem ctx26k_zS (d : Nat) (H : PRemS d) (kids : List Tr) (w : World) (lo mid hi b : Nat) (l : Int) (rs : Value) (arr4 : Array Value) (cb : Nat) (pw pn lw : Value) (n : Nat) (S : Nat → Prop) (m pb : Nat) (h1 : lo ≤ mid) (h2 : mid ≤ b) (h3 : b < hi) (h4 : hi ≤ w.heap.size) (hb : w.heap[b]? = some (.cells arr4 117 (0, 0))) (ha2 : arr4[2]? = some rs) (ha4 : arr4.size = 4) (hk : KidsR (fun lo hi => InT d w lo hi) w lo mid rs kids) (hC : CtxOK w cb pw pn lw n S m pb) (hOff : Off lo hi cb pb lw S) (hmd : m + d ≤ 10000) (hnn : n + 1 + cntTL d kids ≤ 1000000) (out : List Tr) (P : Nat → Prop) (hOS : OutS w lw n out P) (hPO : ∀ g, P g → (g < lo ∨ hi ≤ g) ∧ g ≠ cb) (hK0 : ¬ (0 < (keptM kids).length)) :
    Calls Tryz.prog 35 #[.pointer (some ⟨pb, 0, none⟩), .agg #[.iface 115 (.pointer (some ⟨b, 0, none⟩)), .int .i32 l], .pointer (some ⟨cb, 0, none⟩)] w fun e w' => KatRS d kids l lo hi cb pw pn lw n S m pb out P w e w' := by
  have HK0 := hid hK0
  clear hK0
  obtain ⟨ap, cp, rfl⟩ : ∃ a c, pw = .slice a 1 c := by
    obtain ⟨a, c, e, _⟩ := hC.rp
    exact ⟨a, c, e⟩
  obtain ⟨an, cn, rfl⟩ : ∃ a c, pn = .slice a 1 c := by
    obtain ⟨a, c, e, _⟩ := hC.rn
    exact ⟨a, c, e⟩
  obtain ⟨la, lc, rfl, hlc⟩ : ∃ a c, lw = .slice a n c ∧ n ≤ c := by
    obtain ⟨xs, ho, _⟩ := hC.own
    exact own_shape ho
  have HOS := hid (And.intro hOS hPO)
  clear hOS hPO
  obtain ⟨W1, hW1⟩ : ∃ X, X = w.alloc (.cells #[.iface 115 (.pointer (some ⟨b, 0, none⟩)), .int .i32 l] 39) := ⟨_, rfl⟩
  have hw1 : Below w.heap.size w W1 := by rw [hW1]; exact (Below.refl _ _).alloc (Nat.le_refl _) _
  have h11 : W1.heap[w.heap.size]? = some (.cells #[.iface 115 (.pointer (some ⟨b, 0, none⟩)), .int .i32 l] 39 (0, 0)) := by rw [hW1]; exact heap_alloc_new _ _
  have s1 : W1.heap.size = w.heap.size + 1 := by rw [hW1]; simp
  obtain ⟨W2, hW2⟩ : ∃ X, X = W1.alloc (.cells #[.pointer (some ⟨cb, 0, none⟩)] 141) := ⟨_, rfl⟩
  have hw2 : Below W1.heap.size W1 W2 := by rw [hW2]; exact (Below.refl _ _).alloc (Nat.le_refl _) _
  have h22 : W2.heap[W1.heap.size]? = some (.cells #[.pointer (some ⟨cb, 0, none⟩)] 141 (0, 0)) := by rw [hW2]; exact heap_alloc_new _ _
  obtain ⟨W3, hW3⟩ : ∃ X, X = W2.alloc (.cells #[.nilIface, .int .i32 0] 39) := ⟨_, rfl⟩
  have hw3 : Below W2.heap.size W2 W3 := by rw [hW3]; exact (Below.refl _ _).alloc (Nat.le_refl _) _
  have s2 : W2.heap.size = W1.heap.size + 1 := by rw [hW2]; simp
  have s3 : W3.heap.size = W2.heap.size + 1 := by rw [hW3]; simp
  have h31 := (hw3.block _ (heap_lt ((hw2.block _ (heap_lt h11)).trans h11))).trans ((hw2.block _ (heap_lt h11)).trans h11)
  have h32 := (hw3.block _ (heap_lt h22)).trans h22
  have h33 : W3.heap[W2.heap.size]? = some (.cells #[.nilIface, .int .i32 0] 39 (0, 0)) := by rw [hW3]; exact heap_alloc_new _ _
  rw [s2, s1] at h33
  rw [s1] at h32
  have hw13 : Below w.heap.size w W3 := hw1.trans ((hw2.mono (by omega)).trans (hw3.mono (by omega)))
  have hcb3 := (hw13.block _ (heap_lt hC.cx)).trans hC.cx
  have c0 := (hcell h31 0 _ rfl).1
  have c2 := (hcell h32 0 _ rfl).1
  have p0 := (hcell hcb3 0 _ rfl).1
  have p1 := (hcell hcb3 1 _ rfl).1
  have hs3 : W3.heap.size = w.heap.size + 1 + 1 + 1 := by omega
  obtain ⟨W4, hW4⟩ : ∃ X, X = (W3.alloc (.cells #[.slice ap 1 cp, .slice an 1 cn, .slice none 0 0] 139)).drew := ⟨_, rfl⟩
  have hw4 : Below W3.heap.size W3 W4 := by rw [hW4]; exact ((Below.refl _ _).alloc (Nat.le_refl _) _).drew
  have h44 : W4.heap[W3.heap.size]? = some (.cells #[.slice ap 1 cp, .slice an 1 cn, .slice none 0 0] 139 (0, 0)) := by rw [hW4]; exact heap_alloc_new _ _
  have A0 := Below.heap_alloc W3 (.cells #[.slice none 0 0, .slice none 0 0, .slice none 0 0] 139)
  have x2 := (cellLow (A0 _ (heap_lt h32)) 0).trans c2
  have xp0 := (cellLow (A0 _ (heap_lt hcb3)) 0).trans p0
  have xp1 := (cellLow (A0 _ (heap_lt hcb3)) 1).trans p1
  have t1 := asK_S
  have t2 := asK_K
  have HW := hid (And.intro hW1 (And.intro hW2 (And.intro hW3 hW4)))
  have HH := hid (And.intro h1 (And.intro h2 (And.intro h3 (And.intro h4 (And.intro hb (And.intro ha2 (And.intro ha4 (And.intro hk (And.intro hC (And.intro hOff (And.intro hmd (And.intro hnn hlc))))))))))))
  have HX := hid (And.intro hw13 (And.intro h31 (And.intro h32 (And.intro h33 (And.intro hs3 (And.intro hw4 h44))))))
  clear hW1 hW2 hW3 hW4 h1 h2 h3 h4 hb ha2 ha4 hk hC hOff hmd hnn hlc hw13 h31 h32 h33 hs3 hw4 h44 hw1 hw2 hw3 h11 s1 h22 s2 s3 hcb3 A0
  go_enter Tryz.func35, Tryz.ntmps35
  go_upto_region 1 with fail
  rw [← HW.out.1, ← HW.out.2.1, ← HW.out.2.2.1]
  go_upto_region 66 with fail
  clear t1 t2 c0
  refine wp_region_dl [(some 269, .pointer (some ⟨cb, 0, none⟩)), (some 270, .pointer (some ⟨cb, 0, none⟩)), (some 271, .pointer (some ⟨cb, 0, none⟩)), (some 272, .slice ap 1 cp), (some 273, .pointer (some ⟨cb, 0, none⟩)), (some 274, .pointer (some ⟨cb, 0, none⟩)), (some 275, .pointer (some ⟨cb, 1, none⟩)), (some 276, .slice an 1 cn), (some 277, .agg #[.slice ap 1 cp, .slice an 1 cn, .slice none 0 0]), (some 32, .pointer (some ⟨W3.heap.size, 0, none⟩)), (none, undef)] [9, 10] (fun j => ([W3.drew, (W3.alloc (.cells #[.slice none 0 0, .slice none 0 0, .slice none 0 0] 139)).drew, (W3.alloc (.cells #[.slice ap 1 cp, .slice an 1 cn, .slice none 0 0] 139)).drew] : List World).getD j W3.drew) (fun i => [0, 0, 0, 0, 0, 0, 0, 0, 0, 0, 1].getD i 0) (fun i => [1, 1, 1, 1, 1, 1, 1, 1, 1, 0, 1].getD i 0) 461 (by kernel_rfl) (by kernel_rfl) (by kernel_rfl) (by kernel_rfl) (by decide) (by kernel_rfl) rfl (by kernel_rfl) ?hop66 ?hend66
  case hop66 =>
    intro i o j a ho h1 h2 hd hf K hK
    have hin : i = 0 ∨ i = 1 ∨ i = 2 ∨ i = 3 ∨ i = 4 ∨ i = 5 ∨ i = 6 ∨ i = 7 ∨ i = 8 ∨ i = 9 ∨ i = 10 := by
      rcases Nat.lt_or_ge i 11 with h | h
      · omega
      · rw [Array.getElem?_eq_none h] at ho
        cases ho
    rcases hin with rfl | rfl | rfl | rfl | rfl | rfl | rfl | rfl | rfl | rfl | rfl
    · simp only [List.getElem?_toArray, List.getElem?_cons_zero, Option.some.injEq] at ho
      subst ho
      have v0 : a.eval (.tmp 5) = .pointer (some ⟨w.heap.size + 1, 0, none⟩) := (hf 5 (by kernel_rfl)).trans (by kernel_rfl)
      have u0 : a.tmps[5]?.getD undef = .pointer (some ⟨w.heap.size + 1, 0, none⟩) := by rw [← Array.getD_eq_getD_getElem?]; exact v0
      clear v0
      have hj : j = 0 ∨ j = 1 := by simp at h1 h2; omega
      clear h1 h2 hd hf
      rcases hj with rfl | rfl
      · replace hK : K (a.put (some 269) (.pointer (some ⟨cb, 0, none⟩))) (W3.drew) := hK
        have HK := Lib.hid hK
        clear hK
        show if Region.wanted _ (yielded _ a.tmps) = true then Oper.wp _ _ a (W3.drew) K _ else _
        go_simp
        exact HK.out
      · replace hK : K (a.put (some 269) (.pointer (some ⟨cb, 0, none⟩))) ((W3.alloc (.cells #[.slice none 0 0, .slice none 0 0, .slice none 0 0] 139)).drew) := hK
        have HK := Lib.hid hK
        clear hK
        show if Region.wanted _ (yielded _ a.tmps) = true then Oper.wp _ _ a ((W3.alloc (.cells #[.slice none 0 0, .slice none 0 0, .slice none 0 0] 139)).drew) K _ else _
        go_simp
        exact HK.out
    · simp only [List.getElem?_toArray, List.getElem?_cons_zero, List.getElem?_cons_succ, Option.some.injEq] at ho
      subst ho
      have v0 : a.eval (.tmp 269) = .pointer (some ⟨cb, 0, none⟩) := hd 0 269 (by kernel_rfl) (by kernel_rfl)
      have u0 : a.tmps[269]?.getD undef = .pointer (some ⟨cb, 0, none⟩) := by rw [← Array.getD_eq_getD_getElem?]; exact v0
      clear v0
      have hj : j = 0 ∨ j = 1 := by simp at h1 h2; omega
      clear h1 h2 hd hf
      rcases hj with rfl | rfl
      · replace hK : K (a.put (some 270) (.pointer (some ⟨cb, 0, none⟩))) (W3.drew) := hK
        have HK := Lib.hid hK
        clear hK
        show if Region.wanted _ (yielded _ a.tmps) = true then Oper.wp _ _ a (W3.drew) K _ else _
        go_simp
        exact HK.out
      · replace hK : K (a.put (some 270) (.pointer (some ⟨cb, 0, none⟩))) ((W3.alloc (.cells #[.slice none 0 0, .slice none 0 0, .slice none 0 0] 139)).drew) := hK
        have HK := Lib.hid hK
        clear hK
        show if Region.wanted _ (yielded _ a.tmps) = true then Oper.wp _ _ a ((W3.alloc (.cells #[.slice none 0 0, .slice none 0 0, .slice none 0 0] 139)).drew) K _ else _
        go_simp
        exact HK.out
    · simp only [List.getElem?_toArray, List.getElem?_cons_zero, List.getElem?_cons_succ, Option.some.injEq] at ho
      subst ho
      have v0 : a.eval (.tmp 270) = .pointer (some ⟨cb, 0, none⟩) := hd 1 270 (by kernel_rfl) (by kernel_rfl)
      have u0 : a.tmps[270]?.getD undef = .pointer (some ⟨cb, 0, none⟩) := by rw [← Array.getD_eq_getD_getElem?]; exact v0
      clear v0
      have hj : j = 0 ∨ j = 1 := by simp at h1 h2; omega
      clear h1 h2 hd hf
      rcases hj with rfl | rfl
      · replace hK : K (a.put (some 271) (.pointer (some ⟨cb, 0, none⟩))) (W3.drew) := hK
        have HK := Lib.hid hK
        clear hK
        show if Region.wanted _ (yielded _ a.tmps) = true then Oper.wp _ _ a (W3.drew) K _ else _
        go_simp
        exact HK.out
      · replace hK : K (a.put (some 271) (.pointer (some ⟨cb, 0, none⟩))) ((W3.alloc (.cells #[.slice none 0 0, .slice none 0 0, .slice none 0 0] 139)).drew) := hK
        have HK := Lib.hid hK
        clear hK
        show if Region.wanted _ (yielded _ a.tmps) = true then Oper.wp _ _ a ((W3.alloc (.cells #[.slice none 0 0, .slice none 0 0, .slice none 0 0] 139)).drew) K _ else _
        go_simp
        exact HK.out
    · simp only [List.getElem?_toArray, List.getElem?_cons_zero, List.getElem?_cons_succ, Option.some.injEq] at ho
      subst ho
      have v0 : a.eval (.tmp 271) = .pointer (some ⟨cb, 0, none⟩) := hd 2 271 (by kernel_rfl) (by kernel_rfl)
      have u0 : a.tmps[271]?.getD undef = .pointer (some ⟨cb, 0, none⟩) := by rw [← Array.getD_eq_getD_getElem?]; exact v0
      clear v0
      have hj : j = 0 ∨ j = 1 := by simp at h1 h2; omega
      clear h1 h2 hd hf
      rcases hj with rfl | rfl
      · replace hK : K (a.put (some 272) (.slice ap 1 cp)) (W3.drew) := hK
        have HK := Lib.hid hK
        clear hK
        show if Region.wanted _ (yielded _ a.tmps) = true then Oper.wp _ _ a (W3.drew) K _ else _
        go_simp
        exact HK.out
      · replace hK : K (a.put (some 272) (.slice ap 1 cp)) ((W3.alloc (.cells #[.slice none 0 0, .slice none 0 0, .slice none 0 0] 139)).drew) := hK
        have HK := Lib.hid hK
        clear hK
        show if Region.wanted _ (yielded _ a.tmps) = true then Oper.wp _ _ a ((W3.alloc (.cells #[.slice none 0 0, .slice none 0 0, .slice none 0 0] 139)).drew) K _ else _
        go_simp
        exact HK.out
    · simp only [List.getElem?_toArray, List.getElem?_cons_zero, List.getElem?_cons_succ, Option.some.injEq] at ho
      subst ho
      have v0 : a.eval (.tmp 5) = .pointer (some ⟨w.heap.size + 1, 0, none⟩) := (hf 5 (by kernel_rfl)).trans (by kernel_rfl)
      have u0 : a.tmps[5]?.getD undef = .pointer (some ⟨w.heap.size + 1, 0, none⟩) := by rw [← Array.getD_eq_getD_getElem?]; exact v0
      clear v0
      have hj : j = 0 ∨ j = 1 := by simp at h1 h2; omega
      clear h1 h2 hd hf
      rcases hj with rfl | rfl
      · replace hK : K (a.put (some 273) (.pointer (some ⟨cb, 0, none⟩))) (W3.drew) := hK
        have HK := Lib.hid hK
        clear hK
        show if Region.wanted _ (yielded _ a.tmps) = true then Oper.wp _ _ a (W3.drew) K _ else _
        go_simp
        exact HK.out
      · replace hK : K (a.put (some 273) (.pointer (some ⟨cb, 0, none⟩))) ((W3.alloc (.cells #[.slice none 0 0, .slice none 0 0, .slice none 0 0] 139)).drew) := hK
        have HK := Lib.hid hK
        clear hK
        show if Region.wanted _ (yielded _ a.tmps) = true then Oper.wp _ _ a ((W3.alloc (.cells #[.slice none 0 0, .slice none 0 0, .slice none 0 0] 139)).drew) K _ else _
        go_simp
        exact HK.out
    · simp only [List.getElem?_toArray, List.getElem?_cons_zero, List.getElem?_cons_succ, Option.some.injEq] at ho
      subst ho
      have v0 : a.eval (.tmp 273) = .pointer (some ⟨cb, 0, none⟩) := hd 4 273 (by kernel_rfl) (by kernel_rfl)
      have u0 : a.tmps[273]?.getD undef = .pointer (some ⟨cb, 0, none⟩) := by rw [← Array.getD_eq_getD_getElem?]; exact v0
      clear v0
      have hj : j = 0 ∨ j = 1 := by simp at h1 h2; omega
      clear h1 h2 hd hf
      rcases hj with rfl | rfl
      · replace hK : K (a.put (some 274) (.pointer (some ⟨cb, 0, none⟩))) (W3.drew) := hK
        have HK := Lib.hid hK
        clear hK
        show if Region.wanted _ (yielded _ a.tmps) = true then Oper.wp _ _ a (W3.drew) K _ else _
        go_simp
        exact HK.out
      · replace hK : K (a.put (some 274) (.pointer (some ⟨cb, 0, none⟩))) ((W3.alloc (.cells #[.slice none 0 0, .slice none 0 0, .slice none 0 0] 139)).drew) := hK
        have HK := Lib.hid hK
        clear hK
        show if Region.wanted _ (yielded _ a.tmps) = true then Oper.wp _ _ a ((W3.alloc (.cells #[.slice none 0 0, .slice none 0 0, .slice none 0 0] 139)).drew) K _ else _
        go_simp
        exact HK.out
    · simp only [List.getElem?_toArray, List.getElem?_cons_zero, List.getElem?_cons_succ, Option.some.injEq] at ho
      subst ho
      have v0 : a.eval (.tmp 274) = .pointer (some ⟨cb, 0, none⟩) := hd 5 274 (by kernel_rfl) (by kernel_rfl)
      have u0 : a.tmps[274]?.getD undef = .pointer (some ⟨cb, 0, none⟩) := by rw [← Array.getD_eq_getD_getElem?]; exact v0
      clear v0
      have hj : j = 0 ∨ j = 1 := by simp at h1 h2; omega
      clear h1 h2 hd hf
      rcases hj with rfl | rfl
      · replace hK : K (a.put (some 275) (.pointer (some ⟨cb, 1, none⟩))) (W3.drew) := hK
        have HK := Lib.hid hK
        clear hK
        show if Region.wanted _ (yielded _ a.tmps) = true then Oper.wp _ _ a (W3.drew) K _ else _
        go_simp
        exact HK.out
      · replace hK : K (a.put (some 275) (.pointer (some ⟨cb, 1, none⟩))) ((W3.alloc (.cells #[.slice none 0 0, .slice none 0 0, .slice none 0 0] 139)).drew) := hK
        have HK := Lib.hid hK
        clear hK
        show if Region.wanted _ (yielded _ a.tmps) = true then Oper.wp _ _ a ((W3.alloc (.cells #[.slice none 0 0, .slice none 0 0, .slice none 0 0] 139)).drew) K _ else _
        go_simp
        exact HK.out
    · simp only [List.getElem?_toArray, List.getElem?_cons_zero, List.getElem?_cons_succ, Option.some.injEq] at ho
      subst ho
      have v0 : a.eval (.tmp 275) = .pointer (some ⟨cb, 1, none⟩) := hd 6 275 (by kernel_rfl) (by kernel_rfl)
      have u0 : a.tmps[275]?.getD undef = .pointer (some ⟨cb, 1, none⟩) := by rw [← Array.getD_eq_getD_getElem?]; exact v0
      clear v0
      have hj : j = 0 ∨ j = 1 := by simp at h1 h2; omega
      clear h1 h2 hd hf
      rcases hj with rfl | rfl
      · replace hK : K (a.put (some 276) (.slice an 1 cn)) (W3.drew) := hK
        have HK := Lib.hid hK
        clear hK
        show if Region.wanted _ (yielded _ a.tmps) = true then Oper.wp _ _ a (W3.drew) K _ else _
        go_simp
        exact HK.out
      · replace hK : K (a.put (some 276) (.slice an 1 cn)) ((W3.alloc (.cells #[.slice none 0 0, .slice none 0 0, .slice none 0 0] 139)).drew) := hK
        have HK := Lib.hid hK
        clear hK
        show if Region.wanted _ (yielded _ a.tmps) = true then Oper.wp _ _ a ((W3.alloc (.cells #[.slice none 0 0, .slice none 0 0, .slice none 0 0] 139)).drew) K _ else _
        go_simp
        exact HK.out
    · simp only [List.getElem?_toArray, List.getElem?_cons_zero, List.getElem?_cons_succ, Option.some.injEq] at ho
      subst ho
      have v0 : a.eval (.tmp 272) = .slice ap 1 cp := hd 3 272 (by kernel_rfl) (by kernel_rfl)
      have u0 : a.tmps[272]?.getD undef = .slice ap 1 cp := by rw [← Array.getD_eq_getD_getElem?]; exact v0
      clear v0
      have v1 : a.eval (.tmp 276) = .slice an 1 cn := hd 7 276 (by kernel_rfl) (by kernel_rfl)
      have u1 : a.tmps[276]?.getD undef = .slice an 1 cn := by rw [← Array.getD_eq_getD_getElem?]; exact v1
      clear v1
      have hj : j = 0 ∨ j = 1 := by simp at h1 h2; omega
      clear h1 h2 hd hf
      rcases hj with rfl | rfl
      · replace hK : K (a.put (some 277) (.agg #[.slice ap 1 cp, .slice an 1 cn, .slice none 0 0])) (W3.drew) := hK
        have HK := Lib.hid hK
        clear hK
        show if Region.wanted _ (yielded _ a.tmps) = true then Oper.wp _ _ a (W3.drew) K _ else _
        go_simp
        exact HK.out
      · replace hK : K (a.put (some 277) (.agg #[.slice ap 1 cp, .slice an 1 cn, .slice none 0 0])) ((W3.alloc (.cells #[.slice none 0 0, .slice none 0 0, .slice none 0 0] 139)).drew) := hK
        have HK := Lib.hid hK
        clear hK
        show if Region.wanted _ (yielded _ a.tmps) = true then Oper.wp _ _ a ((W3.alloc (.cells #[.slice none 0 0, .slice none 0 0, .slice none 0 0] 139)).drew) K _ else _
        go_simp
        exact HK.out
    · simp only [List.getElem?_toArray, List.getElem?_cons_zero, List.getElem?_cons_succ, Option.some.injEq] at ho
      subst ho
      have hj : j = 0 := by simp at h1 h2; omega
      clear h1 h2 hd hf
      rcases hj with rfl
      · replace hK : K (a.put (some 32) (.pointer (some ⟨W3.heap.size, 0, none⟩))) ((W3.alloc (.cells #[.slice none 0 0, .slice none 0 0, .slice none 0 0] 139)).drew) := hK
        have HK := Lib.hid hK
        clear hK
        show if Region.wanted _ (yielded _ a.tmps) = true then Oper.wp _ _ a (W3.drew) K _ else _
        go_simp
        exact HK.out
    · simp only [List.getElem?_toArray, List.getElem?_cons_zero, List.getElem?_cons_succ, Option.some.injEq] at ho
      subst ho
      have v0 : a.eval (.tmp 32) = .pointer (some ⟨W3.heap.size, 0, none⟩) := hd 9 32 (by kernel_rfl) (by kernel_rfl)
      have u0 : a.tmps[32]?.getD undef = .pointer (some ⟨W3.heap.size, 0, none⟩) := by rw [← Array.getD_eq_getD_getElem?]; exact v0
      clear v0
      have v1 : a.eval (.tmp 277) = .agg #[.slice ap 1 cp, .slice an 1 cn, .slice none 0 0] := hd 8 277 (by kernel_rfl) (by kernel_rfl)
      have u1 : a.tmps[277]?.getD undef = .agg #[.slice ap 1 cp, .slice an 1 cn, .slice none 0 0] := by rw [← Array.getD_eq_getD_getElem?]; exact v1
      clear v1
      have hj : j = 1 := by simp at h1 h2; omega
      clear h1 h2 hd hf
      rcases hj with rfl
      · replace hK : K (a.put (none) (undef)) ((W3.alloc (.cells #[.slice ap 1 cp, .slice an 1 cn, .slice none 0 0] 139)).drew) := hK
        have HK := Lib.hid hK
        clear hK
        show if Region.wanted _ (yielded _ a.tmps) = true then Oper.wp _ _ a ((W3.alloc (.cells #[.slice none 0 0, .slice none 0 0, .slice none 0 0] 139)).drew) K _ else _
        go_simp
        exact HK.out
  simp only [List.foldl_cons, List.foldl_nil, List.length_cons, List.length_nil, List.getD_cons_succ, List.getD_cons_zero, Nat.zero_add, Nat.reduceAdd]
  simp only [Act.put, List.setIfInBounds_toArray, List.set_cons_zero, List.set_cons_succ]
  rw [← HW.out.2.2.2]
  clear c2 p0 p1 x2 xp0 xp1
  obtain ⟨h1, h2, h3, h4, hb, ha2, ha4, hk, hC, hOff, hmd, hnn, hlc⟩ := HH.out
  obtain ⟨hw13, h31, h32, h33, hs3, hw4, h44⟩ := HX.out
  have hs4 := hw4.size
  have hw14 : Below w.heap.size w W4 := hw13.trans (hw4.mono (by omega))
  have hs44 : W3.heap.size < W4.heap.size := heap_lt h44
  have hb4 := (hw14.block _ (heap_lt hb)).trans hb
  obtain ⟨rb, cap, arr, rfl, hkc, hlr, hrh, hrow, hsz, hK⟩ := hk
  have b2 := (hcell hb4 2 _ ha2).1
  have hCk : CtxOK W4 W3.heap.size (.slice ap 1 cp) (.slice an 1 cn) (.slice none 0 0) 0 S m pb := by
    have hkS : Keep w W4 S S := ⟨hw14.size, fun g _ hl => hw14.block g hl, fun g hg _ => hg⟩
    refine ⟨h44, ⟨[], World.ownsRow_nil _ _ _ _, fun u hu => by cases hu⟩, hC.rp.keep hkS, hC.rn.keep hkS, hC.m1, fun g hg => ⟨by have := (hC.sS g hg).1; omega, by have := (hC.sS g hg).1; omega, fun e => by cases e⟩, ?_⟩
    obtain ⟨arr, q1, q2⟩ := hC.par.ex
    exact ⟨arr, (hw14.block _ hC.par.lt).trans q1, q2⟩
  have hOk : Off lo mid W3.heap.size pb (.slice none 0 0) S := ⟨Or.inr (by omega), hOff.2.1.imp id (fun q => by omega), (fun g hg => by cases hg), fun g hg => (hOff.2.2.2 g hg).imp id (fun q => by omega)⟩
  have hlen := KidsAt.len kids (rb + 1) mid 0 hK
  have CL := hid (H kids W4 lo mid rb cap arr W3.heap.size (.slice ap 1 cp) (.slice an 1 cn) (.slice none 0 0) 0 S m pb [] (fun _ => False) hlr hrh (by omega) ((hw14.block _ (heap_lt hrow)).trans hrow) hsz hkc (by omega) (hK.keep kids (rb + 1) mid 0 lo mid (by omega) (Nat.le_refl _) (fun lo2 hi2 v t q1 q2 q3 => InT.keep d lo2 hi2 v t (by omega) (fun g g1 g2 => hw14.block g (by omega)) q3)) hCk hOk hmd (by omega) (OutS.nil W4) (fun _ h => h.elim))
  have HY := hid (And.intro hs4 (And.intro hw14 (And.intro hs44 (And.intro hb4 (And.intro hlr (And.intro hrh hlen))))))
  clear h1 h2 h3 h4 hb ha2 ha4 hC hOff hmd hnn hlc hw13 h31 h32 h33 hs3 hw4 h44 hs4 hw14 hs44 hb4 hkc hlr hrh hrow hsz hK hCk hOk hlen
  go_wp2_with fail
  refine CL.out.mono ?_
  rintro e w5 hR
  obtain ⟨lwk, nk, arr5, P5, rfl, h51, h52, h5c, h5F, h5O, h5r, h5s, h5k, h5S, h5P⟩ := hR.ex
  clear hR CL b2
  obtain ⟨h1, h2, h3, h4, hb, ha2, ha4, -, hC, hOff, hmd, hnn, hlc⟩ := HH.out
  obtain ⟨hw13, h31, h32, h33, hs3, hw4, h44⟩ := HX.out
  obtain ⟨hs4, hw14, hs44, hb4, hlr, hrh, hlen⟩ := HY.out
  obtain ⟨kN, hK⟩ : ∃ kN, (keptM kids).length = kN := ⟨_, rfl⟩
  have hKL : kN ≤ 1000000 := by have := keptM_len kids; omega
  have HKL := hid hKL
  rw [hK]
  have hs5 := h5F.size
  have k5 : ∀ g, g < W4.heap.size → (g < lo ∨ mid ≤ g) → g ≠ W3.heap.size → w5.heap[g]? = W4.heap[g]? := fun g q1 q2 q3 => h5F.block g q1 (by
    rintro (q | q | q)
    · omega
    · exact q3 q
    · cases q)
  have hbl := heap_lt hb
  have hb5 := (k5 b (by omega) (Or.inr h2) (by omega)).trans hb4
  obtain ⟨W6, hW6⟩ : ∃ X, X = w5.setCell ⟨b, 2, none⟩ (.slice (some ⟨rb, 0, none⟩) kN cap) := ⟨_, rfl⟩
  have k6 : ∀ g, g ≠ b → W6.heap[g]? = w5.heap[g]? := fun g hg => by rw [hW6]; exact hother _ _ _ hg
  have hb6 : W6.heap[b]? = some (.cells (arr4.setIfInBounds 2 (.slice (some ⟨rb, 0, none⟩) kN cap)) 117 (0, 0)) := by rw [hW6]; exact hset hb5 2 _
  have hz6 : W6.heap.size = w5.heap.size := by rw [hW6]; simp [World.setCell]
  have ho6 : W6.os = w5.os ∧ W6.tape = w5.tape ∧ W6.output = w5.output := by rw [hW6]; exact ⟨rfl, rfl, rfl⟩
  obtain ⟨y2, y2f⟩ := hcell hb5 2 _ ha2
  have kk : ∀ g, g < W4.heap.size → (g < lo ∨ hi ≤ g) → g ≠ W3.heap.size → W6.heap[g]? = W4.heap[g]? := fun g q1 q2 q3 => (k6 g (by omega)).trans (k5 g q1 (by omega) q3)
  have hF6 : FrM (fun g => lo ≤ g ∧ g < hi) w W6 := ⟨ho6.1.trans (h5F.os.trans hw14.os), ho6.2.1.trans (h5F.tape.trans hw14.tape), ho6.2.2.trans (h5F.output.trans hw14.output), by omega, fun g q1 q2 => (kk g (by omega) (by omega) (by omega)).trans (hw14.block g q1)⟩
  have hge : ∀ g, lwk.ownBlock = some g → W4.heap.size ≤ g := fun g hg => by
    rcases h5O with q | ⟨g', q, hg'⟩
    · rw [q] at hg; cases hg
    · rw [q] at hg; have e : g' = g := Option.some.inj hg; omega
  have hst : KatS w W6 lo hi b l cb W3.heap.size (.slice ap 1 cp) (.slice an 1 cn) (.slice la n lc) lwk n nk S m pb (.slice (some ⟨rb, 0, none⟩) kN cap) := by
    refine ⟨⟨_, hb6, by rw [Array.getElem?_setIfInBounds, if_pos rfl, if_pos (by omega)], by simp [ha4]⟩, (k6 _ (by omega)).trans h5c.cx, (kk _ (by omega) (by omega) (by omega)).trans ((hw4.block _ (by omega)).trans h31), (kk _ (by omega) (by omega) (by omega)).trans ((hw4.block _ (by omega)).trans h32), (kk _ (by omega) (by omega) (by omega)).trans ((hw4.block _ (by omega)).trans h33), hC.frame hF6 (fun g hg q => by have := hOff.out hg; omega), ?_, fun g hg => by have := hge g hg; omega, by omega, hF6⟩
    obtain ⟨ys, ho, hy⟩ := h5c.own
    exact ⟨ys, own_keep ho (fun g hg => k6 g (by have := hge g hg; omega)), hy⟩
  have h5P' : ∀ g, P5 g → (rb + 1 ≤ g ∧ g < mid) ∨ (W3.heap.size < g) := fun g hg => by
    rcases h5P g hg with h | h | h
    · exact h.elim
    · exact Or.inl h
    · exact Or.inr (by omega)
  have h6S : OutS W6 lwk nk (kids.flatMap (lowM d true)) P5 := h5S.keep (by omega) (fun g hg => k6 g (by
    rcases hg with hg | hg
    · have := h5P' g hg; omega
    · have := hge g hg; omega))
  have h6O := HOS.out.1.frame hF6 (fun g hg q => by
    rcases hg with hg | hg
    · have := (HOS.out.2 g hg).1; omega
    · have := hOff.2.2.1 g hg; omega)
  have HS6 := hid (And.intro h6S (And.intro h5P' (And.intro ((k6 rb (by omega)).trans h5r) (And.intro h5k (And.intro h6O (And.intro hK (And.intro hlr (And.intro hrh hge))))))))
  clear h5S h5P h5P' h6S h6O
  have HST := hid hst
  have HK1 := hid (show ¬ (0 < kN) by have := HK0.out; rw [hK] at this; exact this)
  have HW6 := hid hW6
  obtain ⟨ak, ck, rfl, hck⟩ : ∃ a c, lwk = .slice a nk c ∧ nk ≤ c := by
    obtain ⟨ys, ho, _⟩ := h5c.own
    exact own_shape ho
  have q2 := (hcell hb6 2 _ (by rw [Array.getElem?_setIfInBounds, if_pos rfl, if_pos (by omega)])).1
  have HN := hid (And.intro h51 (And.intro h52 (And.intro hck hnn)))
  have HQ2 := hid q2
  clear h1 h2 h3 h4 hb ha2 ha4 hC hOff hmd hnn hlc hw13 h31 h32 h33 hs3 hw4 h44 hs4 hw14 hs44 hb4 hlr hrh hlen hK hs5 k5 hbl hb5 k6 hb6 hz6 ho6 kk hF6 hge hst hW6 h51 h52 h5c h5F h5O h5r h5s h5k hck q2
  go_upto_region 68 with fail
  rw [← HW6.out]
  clear y2 y2f
  have q2 := HQ2.out
  have hg2 : ¬ (0 < kN) := HK1.out
  clear q2
  by_cases hg3 : 0 < nk
  · have HST7 := HST
    obtain ⟨W7, hW7⟩ : ∃ X, X = W6 := ⟨_, rfl⟩
    clear HW6 HST HQ2
    subst hW7
    obtain ⟨h6S, h5P, h6r, h5k, h6O, hKe, hlr, hrh, hge⟩ := HS6.out
    have hke : keptM kids = [] := List.length_eq_zero_iff.1 (by omega)
    have hfl : kids.flatMap (lowM d true) ≠ [] := fun e => by
      have := h6S.len
      rw [e] at this
      simp at this
      omega
    have HLOW := hid (show lowM (d + 1) true (.mk l 2 kids) = [.mk l 2 (kids.flatMap (lowM d true))] by rw [lowM_at, if_pos hke, List.nil_append, if_neg hfl])
    have HS7 := hid (show OutS W7 (.slice ak nk ck) nk (kids.flatMap (lowM d true)) P5 ∧ OutS W7 (.slice la n lc) n out P ∧ (∀ g, P5 g → (lo ≤ g ∧ g < mid) ∨ w.heap.size + 1 + 1 < g) ∧ (∀ t ∈ kids.flatMap (lowM d true), t.kind ≤ 2) ∧ (∀ g, (Value.slice ak nk ck).ownBlock = some g → w.heap.size + 1 + 1 < g) from ⟨h6S, h6O, fun g hg => by
      rcases h5P g hg with q | q
      · exact Or.inl ⟨by omega, q.2⟩
      · exact Or.inr (by have := HST7.out.cnge; omega), fun t ht => by
      obtain ⟨u, _, ht⟩ := List.mem_flatMap.1 ht
      exact lowM_kind d true u t ht, fun g hg => (HST7.out.ge g hg).1⟩)
    clear h6S h5P h6r h5k h6O hKe hlr hrh hge hke hfl HS6
    obtain ⟨x7, xf7⟩ : W7.cell? ⟨W3.heap.size, 2, none⟩ = some (.slice ak nk ck) ∧ W7.frozen? ⟨W3.heap.size, 2, none⟩ = false := hcell HST7.out.hcn 2 _ rfl
    obtain ⟨d7, df7⟩ : W7.cell? ⟨b, 2, none⟩ = some (.slice (some ⟨rb, 0, none⟩) kN cap) ∧ W7.frozen? ⟨b, 2, none⟩ = false := by
      obtain ⟨arr, q1, q2, _⟩ := HST7.out.hb
      exact hcell q1 2 _ q2
    have hD7 : b < W7.heap.size := by
      obtain ⟨arr, q1, _⟩ := HST7.out.hb
      exact heap_lt q1
    obtain ⟨W8, hW8⟩ : ∃ X, X = W7.setCell ⟨b, 2, none⟩ (.slice ak nk ck) := ⟨_, rfl⟩
    have HST8 := hid (hW8 ▸ HST7.out.setb (Nat.le_trans HH.out.1 HH.out.2.1) HH.out.2.2.1 HH.out.2.2.2.1 HH.out.2.2.2.2.2.2.2.2.2.1 (.slice ak nk ck))
    have HW8 := hid hW8
    have HW8b := hid hW8
    clear hW8
    go_upto_region 72 with fail
    rw [← HW8.out]
    clear x7 xf7 d7 df7 hD7 HW8
    obtain ⟨h1, h2, h3, h4, hb, ha2, ha4, -, hC, hOff, hmd, hnn, hlc⟩ := HH.out
    have h8 := HST8.out
    have hW8' := HW8b.out
    have hb8 : Below W8.heap.size W8 (W8.alloc (.cells #[.iface 115 (.pointer (some ⟨b, 0, none⟩)), .int .i32 l] 39)).drew := ((Below.refl _ _).alloc (Nat.le_refl _) _).drew
    have hnew := heap_alloc_new W8 (.cells #[.iface 115 (.pointer (some ⟨b, 0, none⟩)), .int .i32 l] 39)
    have hcb8 := heap_lt h8.ok.cx
    obtain ⟨h7S, h7O, h7P, h7lk, h7c⟩ := HS7.out
    have hb8n : ∀ g, P5 g ∨ P g ∨ (.slice ak nk ck : Value).ownBlock = some g ∨ (Value.slice la n lc).ownBlock = some g → g ≠ b := fun g hg e => by
      rcases hg with hg | hg | hg | hg
      · have := h7P g hg; omega
      · have := (HOS.out.2 g hg).1; omega
      · have := h7c g hg; have := heap_lt hb; omega
      · have := hOff.2.2.1 g hg; omega
    have h8S := h7S.keep (w' := W8) (by rw [hW8']; simp [World.setCell]) (fun g hg => by rw [hW8']; exact hother _ _ _ (hb8n g (by
      rcases hg with hg | hg
      · exact Or.inl hg
      · exact Or.inr (Or.inr (Or.inl hg)))))
    have h8O := h7O.keep (w' := W8) (by rw [hW8']; simp [World.setCell]) (fun g hg => by rw [hW8']; exact hother _ _ _ (hb8n g (by
      rcases hg with hg | hg
      · exact Or.inr (Or.inl hg)
      · exact Or.inr (Or.inr (Or.inr hg)))))
    obtain ⟨arr8, b81, b82, _⟩ := h8.hb
    obtain ⟨v9, w9, ha9, hS9, hg9, hat9⟩ := appS9 hb8 hnew h8S h8O h7lk b81 b82 (fun g hg e => by
      have h1 := hC.ownlt e.symm
      have h2 := hOff.2.2.1 g e.symm
      rcases hg with hg | hg | hg
      · have := h7P g hg; omega
      · have := h7c g hg; omega
      · omega) (by omega)
    have ho9 := hS9.ru
    have hat9' : v9.ownBlock = (Value.slice la n lc).ownBlock ∨ ∃ g, v9.ownBlock = some g ∧ W8.heap.size ≤ g := hat9.imp id fun ⟨g, e, hq⟩ => ⟨g, e, Nat.le_trans hb8.size hq⟩
    obtain ⟨r1, r2, r3⟩ := h8.fin hC hOff hb8 hg9 ho9 hat9'
    obtain ⟨a9, c9, rfl, hc9⟩ : ∃ a c, v9 = .slice a (n + 1) c ∧ n + 1 ≤ c := by
      obtain ⟨xs, ho, _⟩ := ho9
      exact own_shape ho
    have hSF := hS9.keep (w' := ((w9.setCell ⟨cb, 2, none⟩ (.slice a9 (n + 1) c9)).setCell ⟨w.heap.size + 1 + 1, 0, none⟩ .nilIface).setCell ⟨w.heap.size + 1 + 1, 1, none⟩ (.int .i32 0)) (by simp [World.setCell]) (fun g hg => by
      have hne : g ≠ cb ∧ g ≠ w.heap.size + 1 + 1 := by
        have hbl := heap_lt hb
        have hcl := heap_lt hC.cx
        have hcb := hOff.1
        rcases hg with (hg | hg | hg | hg) | hg
        · have h1 := HOS.out.2 g hg
          have h2 := (HOS.out.1.sP g hg).1
          exact ⟨h1.2, by omega⟩
        · have := h7P g hg; exact ⟨by omega, by omega⟩
        · have := h7c g hg; exact ⟨by omega, by omega⟩
        · exact ⟨by omega, by omega⟩
        · refine ⟨?_, ?_⟩
          · rintro rfl
            rcases hat9' with e | ⟨g', e, hq⟩
            · rw [hg] at e
              obtain ⟨xs, hox, _⟩ := h8.ok.own
              obtain ⟨cur, q⟩ := own_type hox e.symm
              rw [h8.ok.cx] at q
              injection q with q
              injection q with _ q _
              exact absurd q (by decide)
            · rw [e] at hg
              have := Option.some.inj hg
              omega
          · rintro rfl
            rcases hat9' with e | ⟨g', e, hq⟩
            · rw [hg] at e
              have := hC.ownlt e.symm
              omega
            · rw [e] at hg
              have := Option.some.inj hg
              have := heap_lt h8.b6
              omega
      exact (set2o _ 0 _ _ hne.2).trans (hother _ _ _ hne.1))
    have hPF : ∀ g, (P g ∨ P5 g ∨ (.slice ak nk ck : Value).ownBlock = some g ∨ g = b) → P g ∨ (lo ≤ g ∧ g < hi) ∨ w.heap.size ≤ g := fun g hg => by
      rcases hg with hg | hg | hg | hg
      · exact Or.inl hg
      · have := h7P g hg
        rcases this with q | q
        · exact Or.inr (Or.inl ⟨q.1, by omega⟩)
        · exact Or.inr (Or.inr (by omega))
      · have := h7c g hg; exact Or.inr (Or.inr (by omega))
      · exact Or.inr (Or.inl ⟨by omega, by omega⟩)
    have HSF := hid (And.intro hSF hPF)
    have HFIN := hid (And.intro r1 (And.intro r2 r3))
    have HA9 := hid ha9
    have hcbo : some cb ≠ (Value.slice la n lc).ownBlock := fun e => by
      obtain ⟨xs, ho, _⟩ := h8.ok.own
      obtain ⟨cur, q⟩ := own_type ho e.symm
      rw [h8.ok.cx] at q
      injection q with q
      injection q with _ q _
      exact absurd q (by decide)
    have hold : ∀ g, w.heap.size ≤ g → some g ≠ (Value.slice la n lc).ownBlock := fun g hg e => by have := hC.ownlt e.symm; omega
    have k9 : ∀ g, g < W8.heap.size → some g ≠ (Value.slice la n lc).ownBlock → w9.heap[g]? = W8.heap[g]? := fun g q1 q2 => (hg9.block g (Nat.lt_of_lt_of_le q1 hb8.size) q2).trans (hb8.block g q1)
    have b59 := (k9 _ (heap_lt h8.b5) (hold _ (by omega))).trans h8.b5
    have b69 := (k9 _ (heap_lt h8.b6) (hold _ (by omega))).trans h8.b6
    have cb9 := (k9 _ hcb8 hcbo).trans h8.ok.cx
    obtain ⟨u8, _⟩ := hcell h8.b5 0 _ rfl
    obtain ⟨l80, _⟩ := hcell h8.b4 0 _ rfl
    obtain ⟨l81, _⟩ := hcell h8.b4 1 _ rfl
    obtain ⟨c82, _⟩ := hcell h8.ok.cx 2 _ rfl
    obtain ⟨u9, _⟩ := hcell b59 0 _ rfl
    obtain ⟨c92, cf92⟩ := hcell cb9 2 _ rfl
    obtain ⟨n90, nf90⟩ := hcell b69 0 _ rfl
    obtain ⟨n91, nf91⟩ := hcell b69 1 _ rfl
    have hN81 : w.heap.size + 1 < W8.heap.size := heap_lt h8.b5
    have hN80 : w.heap.size < W8.heap.size := heap_lt h8.b4
    have hN91 : w.heap.size + 1 < w9.heap.size := heap_lt b59
    have hN9 : w.heap.size + 1 + 1 < w9.heap.size := heap_lt b69
    have hC9 : cb < w9.heap.size := heap_lt cb9
    have hclt := heap_lt hC.cx
    have hNC : w.heap.size + 1 + 1 ≠ cb := by omega
    have hCN : cb ≠ w.heap.size + 1 + 1 := by omega
    clear h1 h2 h3 h4 hb ha2 ha4 hC hOff hmd hnn hlc h8 hb8 hnew ha9 ho9 hg9 hat9 hat9' r1 r2 r3 hc9 hcbo hold k9 b59 b69 cb9 hclt h7S h7O h7P h7lk h7c hb8n h8S h8O b81 b82 hS9 hW8' hSF hPF HW8b
    refine wp_region_dl [(some 321, .pointer (some ⟨cb, 0, none⟩)), (some 322, .pointer (some ⟨cb, 0, none⟩)), (some 323, .pointer (some ⟨cb, 0, none⟩)), (some 324, .pointer (some ⟨cb, 2, none⟩)), (some 325, .slice la n lc), (some 326, .agg #[.iface 115 (.pointer (some ⟨b, 0, none⟩)), .int .i32 l]), (some 327, .slice (some ⟨W8.heap.size, 0, none⟩) 1 1), (some 328, .slice a9 (n + 1) c9), (some 329, .pointer (some ⟨cb, 0, none⟩)), (some 330, .pointer (some ⟨cb, 2, none⟩)), (none, undef)] [6, 7, 10] (fun j => ([W8.drew, (W8.alloc (.cells #[.iface 115 (.pointer (some ⟨b, 0, none⟩)), .int .i32 l] 39)).drew, w9, w9.setCell ⟨cb, 2, none⟩ (.slice a9 (n + 1) c9)] : List World).getD j W8.drew) (fun i => [0, 0, 0, 0, 0, 0, 0, 1, 0, 0, 2].getD i 0) (fun i => [2, 1, 1, 1, 1, 0, 0, 1, 2, 2, 2].getD i 0) 461 (by kernel_rfl) (by kernel_rfl) (by kernel_rfl) (by kernel_rfl) (by decide) (by kernel_rfl) rfl (by kernel_rfl) ?hop82 ?hend82
    case hop82 =>
      intro i o j a ho h1 h2 hd hf K hK
      have hin : i = 0 ∨ i = 1 ∨ i = 2 ∨ i = 3 ∨ i = 4 ∨ i = 5 ∨ i = 6 ∨ i = 7 ∨ i = 8 ∨ i = 9 ∨ i = 10 := by
        rcases Nat.lt_or_ge i 11 with h | h
        · omega
        · rw [Array.getElem?_eq_none h] at ho
          cases ho
      rcases hin with rfl | rfl | rfl | rfl | rfl | rfl | rfl | rfl | rfl | rfl | rfl
      · simp only [List.getElem?_toArray, List.getElem?_cons_zero, Option.some.injEq] at ho
        subst ho
        have v0 : a.eval (.tmp 5) = .pointer (some ⟨w.heap.size + 1, 0, none⟩) := (hf 5 (by kernel_rfl)).trans (by kernel_rfl)
        have u0 : a.tmps[5]?.getD undef = .pointer (some ⟨w.heap.size + 1, 0, none⟩) := by rw [← Array.getD_eq_getD_getElem?]; exact v0
        clear v0
        have hj : j = 0 ∨ j = 1 ∨ j = 2 := by simp at h1 h2; omega
        clear h1 h2 hd hf
        rcases hj with rfl | rfl | rfl
        · replace hK : K (a.put (some 321) (.pointer (some ⟨cb, 0, none⟩))) (W8.drew) := hK
          have HK := Lib.hid hK
          clear hK
          show if Region.wanted _ (yielded _ a.tmps) = true then Oper.wp _ _ a (W8.drew) K _ else _
          go_simp
          exact HK.out
        · replace hK : K (a.put (some 321) (.pointer (some ⟨cb, 0, none⟩))) ((W8.alloc (.cells #[.iface 115 (.pointer (some ⟨b, 0, none⟩)), .int .i32 l] 39)).drew) := hK
          have HK := Lib.hid hK
          clear hK
          show if Region.wanted _ (yielded _ a.tmps) = true then Oper.wp _ _ a ((W8.alloc (.cells #[.iface 115 (.pointer (some ⟨b, 0, none⟩)), .int .i32 l] 39)).drew) K _ else _
          go_simp
          exact HK.out
        · replace hK : K (a.put (some 321) (.pointer (some ⟨cb, 0, none⟩))) (w9) := hK
          have HK := Lib.hid hK
          clear hK
          show if Region.wanted _ (yielded _ a.tmps) = true then Oper.wp _ _ a (w9) K _ else _
          go_simp
          exact HK.out
      · simp only [List.getElem?_toArray, List.getElem?_cons_zero, List.getElem?_cons_succ, Option.some.injEq] at ho
        subst ho
        have v0 : a.eval (.tmp 5) = .pointer (some ⟨w.heap.size + 1, 0, none⟩) := (hf 5 (by kernel_rfl)).trans (by kernel_rfl)
        have u0 : a.tmps[5]?.getD undef = .pointer (some ⟨w.heap.size + 1, 0, none⟩) := by rw [← Array.getD_eq_getD_getElem?]; exact v0
        clear v0
        have hj : j = 0 ∨ j = 1 := by simp at h1 h2; omega
        clear h1 h2 hd hf
        rcases hj with rfl | rfl
        · replace hK : K (a.put (some 322) (.pointer (some ⟨cb, 0, none⟩))) (W8.drew) := hK
          have HK := Lib.hid hK
          clear hK
          show if Region.wanted _ (yielded _ a.tmps) = true then Oper.wp _ _ a (W8.drew) K _ else _
          go_simp
          exact HK.out
        · replace hK : K (a.put (some 322) (.pointer (some ⟨cb, 0, none⟩))) ((W8.alloc (.cells #[.iface 115 (.pointer (some ⟨b, 0, none⟩)), .int .i32 l] 39)).drew) := hK
          have HK := Lib.hid hK
          clear hK
          show if Region.wanted _ (yielded _ a.tmps) = true then Oper.wp _ _ a ((W8.alloc (.cells #[.iface 115 (.pointer (some ⟨b, 0, none⟩)), .int .i32 l] 39)).drew) K _ else _
          go_simp
          exact HK.out
      · simp only [List.getElem?_toArray, List.getElem?_cons_zero, List.getElem?_cons_succ, Option.some.injEq] at ho
        subst ho
        have v0 : a.eval (.tmp 322) = .pointer (some ⟨cb, 0, none⟩) := hd 1 322 (by kernel_rfl) (by kernel_rfl)
        have u0 : a.tmps[322]?.getD undef = .pointer (some ⟨cb, 0, none⟩) := by rw [← Array.getD_eq_getD_getElem?]; exact v0
        clear v0
        have hj : j = 0 ∨ j = 1 := by simp at h1 h2; omega
        clear h1 h2 hd hf
        rcases hj with rfl | rfl
        · replace hK : K (a.put (some 323) (.pointer (some ⟨cb, 0, none⟩))) (W8.drew) := hK
          have HK := Lib.hid hK
          clear hK
          show if Region.wanted _ (yielded _ a.tmps) = true then Oper.wp _ _ a (W8.drew) K _ else _
          go_simp
          exact HK.out
        · replace hK : K (a.put (some 323) (.pointer (some ⟨cb, 0, none⟩))) ((W8.alloc (.cells #[.iface 115 (.pointer (some ⟨b, 0, none⟩)), .int .i32 l] 39)).drew) := hK
          have HK := Lib.hid hK
          clear hK
          show if Region.wanted _ (yielded _ a.tmps) = true then Oper.wp _ _ a ((W8.alloc (.cells #[.iface 115 (.pointer (some ⟨b, 0, none⟩)), .int .i32 l] 39)).drew) K _ else _
          go_simp
          exact HK.out
      · simp only [List.getElem?_toArray, List.getElem?_cons_zero, List.getElem?_cons_succ, Option.some.injEq] at ho
        subst ho
        have v0 : a.eval (.tmp 323) = .pointer (some ⟨cb, 0, none⟩) := hd 2 323 (by kernel_rfl) (by kernel_rfl)
        have u0 : a.tmps[323]?.getD undef = .pointer (some ⟨cb, 0, none⟩) := by rw [← Array.getD_eq_getD_getElem?]; exact v0
        clear v0
        have hj : j = 0 ∨ j = 1 := by simp at h1 h2; omega
        clear h1 h2 hd hf
        rcases hj with rfl | rfl
        · replace hK : K (a.put (some 324) (.pointer (some ⟨cb, 2, none⟩))) (W8.drew) := hK
          have HK := Lib.hid hK
          clear hK
          show if Region.wanted _ (yielded _ a.tmps) = true then Oper.wp _ _ a (W8.drew) K _ else _
          go_simp
          exact HK.out
        · replace hK : K (a.put (some 324) (.pointer (some ⟨cb, 2, none⟩))) ((W8.alloc (.cells #[.iface 115 (.pointer (some ⟨b, 0, none⟩)), .int .i32 l] 39)).drew) := hK
          have HK := Lib.hid hK
          clear hK
          show if Region.wanted _ (yielded _ a.tmps) = true then Oper.wp _ _ a ((W8.alloc (.cells #[.iface 115 (.pointer (some ⟨b, 0, none⟩)), .int .i32 l] 39)).drew) K _ else _
          go_simp
          exact HK.out
      · simp only [List.getElem?_toArray, List.getElem?_cons_zero, List.getElem?_cons_succ, Option.some.injEq] at ho
        subst ho
        have v0 : a.eval (.tmp 324) = .pointer (some ⟨cb, 2, none⟩) := hd 3 324 (by kernel_rfl) (by kernel_rfl)
        have u0 : a.tmps[324]?.getD undef = .pointer (some ⟨cb, 2, none⟩) := by rw [← Array.getD_eq_getD_getElem?]; exact v0
        clear v0
        have hj : j = 0 ∨ j = 1 := by simp at h1 h2; omega
        clear h1 h2 hd hf
        rcases hj with rfl | rfl
        · replace hK : K (a.put (some 325) (.slice la n lc)) (W8.drew) := hK
          have HK := Lib.hid hK
          clear hK
          show if Region.wanted _ (yielded _ a.tmps) = true then Oper.wp _ _ a (W8.drew) K _ else _
          go_simp
          exact HK.out
        · replace hK : K (a.put (some 325) (.slice la n lc)) ((W8.alloc (.cells #[.iface 115 (.pointer (some ⟨b, 0, none⟩)), .int .i32 l] 39)).drew) := hK
          have HK := Lib.hid hK
          clear hK
          show if Region.wanted _ (yielded _ a.tmps) = true then Oper.wp _ _ a ((W8.alloc (.cells #[.iface 115 (.pointer (some ⟨b, 0, none⟩)), .int .i32 l] 39)).drew) K _ else _
          go_simp
          exact HK.out
      · simp only [List.getElem?_toArray, List.getElem?_cons_zero, List.getElem?_cons_succ, Option.some.injEq] at ho
        subst ho
        have v0 : a.eval (.tmp 4) = .pointer (some ⟨w.heap.size, 0, none⟩) := (hf 4 (by kernel_rfl)).trans (by kernel_rfl)
        have u0 : a.tmps[4]?.getD undef = .pointer (some ⟨w.heap.size, 0, none⟩) := by rw [← Array.getD_eq_getD_getElem?]; exact v0
        clear v0
        have hj : j = 0 := by simp at h1 h2; omega
        clear h1 h2 hd hf
        rcases hj with rfl
        · replace hK : K (a.put (some 326) (.agg #[.iface 115 (.pointer (some ⟨b, 0, none⟩)), .int .i32 l])) (W8.drew) := hK
          have HK := Lib.hid hK
          clear hK
          show if Region.wanted _ (yielded _ a.tmps) = true then Oper.wp _ _ a (W8.drew) K _ else _
          go_simp
          exact HK.out
      · simp only [List.getElem?_toArray, List.getElem?_cons_zero, List.getElem?_cons_succ, Option.some.injEq] at ho
        subst ho
        have v0 : a.eval (.tmp 326) = .agg #[.iface 115 (.pointer (some ⟨b, 0, none⟩)), .int .i32 l] := hd 5 326 (by kernel_rfl) (by kernel_rfl)
        have u0 : a.tmps[326]?.getD undef = .agg #[.iface 115 (.pointer (some ⟨b, 0, none⟩)), .int .i32 l] := by rw [← Array.getD_eq_getD_getElem?]; exact v0
        clear v0
        have hj : j = 0 := by simp at h1 h2; omega
        clear h1 h2 hd hf
        rcases hj with rfl
        · replace hK : K (a.put (some 327) (.slice (some ⟨W8.heap.size, 0, none⟩) 1 1)) ((W8.alloc (.cells #[.iface 115 (.pointer (some ⟨b, 0, none⟩)), .int .i32 l] 39)).drew) := hK
          have HK := Lib.hid hK
          clear hK
          show if Region.wanted _ (yielded _ a.tmps) = true then Oper.wp _ _ a (W8.drew) K _ else _
          go_simp
          exact HK.out
      · simp only [List.getElem?_toArray, List.getElem?_cons_zero, List.getElem?_cons_succ, Option.some.injEq] at ho
        subst ho
        have u0 : a.eval (.tmp 325) = .slice la n lc := hd 4 325 (by kernel_rfl) (by kernel_rfl)
        have u1 : a.eval (.tmp 327) = .slice (some ⟨W8.heap.size, 0, none⟩) 1 1 := hd 6 327 (by kernel_rfl) (by kernel_rfl)
        have hj : j = 1 := by simp at h1 h2; omega
        clear h1 h2 hd hf
        rcases hj with rfl
        · replace hK : K (a.put (some 328) (.slice a9 (n + 1) c9)) (w9) := hK
          have HK := Lib.hid hK
          clear hK
          show if Region.wanted _ (yielded _ a.tmps) = true then Oper.wp _ _ a ((W8.alloc (.cells #[.iface 115 (.pointer (some ⟨b, 0, none⟩)), .int .i32 l] 39)).drew) K _ else _
          exact step_run rfl (.tmp 325) (.tmp 327) 43 rfl (.slice la n lc) (.slice (some ⟨W8.heap.size, 0, none⟩) 1 1) _ w9 u0 u1 HA9.out HK.out
      · simp only [List.getElem?_toArray, List.getElem?_cons_zero, List.getElem?_cons_succ, Option.some.injEq] at ho
        subst ho
        have v0 : a.eval (.tmp 321) = .pointer (some ⟨cb, 0, none⟩) := hd 0 321 (by kernel_rfl) (by kernel_rfl)
        have u0 : a.tmps[321]?.getD undef = .pointer (some ⟨cb, 0, none⟩) := by rw [← Array.getD_eq_getD_getElem?]; exact v0
        clear v0
        have hj : j = 0 ∨ j = 1 ∨ j = 2 := by simp at h1 h2; omega
        clear h1 h2 hd hf
        rcases hj with rfl | rfl | rfl
        · replace hK : K (a.put (some 329) (.pointer (some ⟨cb, 0, none⟩))) (W8.drew) := hK
          have HK := Lib.hid hK
          clear hK
          show if Region.wanted _ (yielded _ a.tmps) = true then Oper.wp _ _ a (W8.drew) K _ else _
          go_simp
          exact HK.out
        · replace hK : K (a.put (some 329) (.pointer (some ⟨cb, 0, none⟩))) ((W8.alloc (.cells #[.iface 115 (.pointer (some ⟨b, 0, none⟩)), .int .i32 l] 39)).drew) := hK
          have HK := Lib.hid hK
          clear hK
          show if Region.wanted _ (yielded _ a.tmps) = true then Oper.wp _ _ a ((W8.alloc (.cells #[.iface 115 (.pointer (some ⟨b, 0, none⟩)), .int .i32 l] 39)).drew) K _ else _
          go_simp
          exact HK.out
        · replace hK : K (a.put (some 329) (.pointer (some ⟨cb, 0, none⟩))) (w9) := hK
          have HK := Lib.hid hK
          clear hK
          show if Region.wanted _ (yielded _ a.tmps) = true then Oper.wp _ _ a (w9) K _ else _
          go_simp
          exact HK.out
      · simp only [List.getElem?_toArray, List.getElem?_cons_zero, List.getElem?_cons_succ, Option.some.injEq] at ho
        subst ho
        have v0 : a.eval (.tmp 329) = .pointer (some ⟨cb, 0, none⟩) := hd 8 329 (by kernel_rfl) (by kernel_rfl)
        have u0 : a.tmps[329]?.getD undef = .pointer (some ⟨cb, 0, none⟩) := by rw [← Array.getD_eq_getD_getElem?]; exact v0
        clear v0
        have hj : j = 0 ∨ j = 1 ∨ j = 2 := by simp at h1 h2; omega
        clear h1 h2 hd hf
        rcases hj with rfl | rfl | rfl
        · replace hK : K (a.put (some 330) (.pointer (some ⟨cb, 2, none⟩))) (W8.drew) := hK
          have HK := Lib.hid hK
          clear hK
          show if Region.wanted _ (yielded _ a.tmps) = true then Oper.wp _ _ a (W8.drew) K _ else _
          go_simp
          exact HK.out
        · replace hK : K (a.put (some 330) (.pointer (some ⟨cb, 2, none⟩))) ((W8.alloc (.cells #[.iface 115 (.pointer (some ⟨b, 0, none⟩)), .int .i32 l] 39)).drew) := hK
          have HK := Lib.hid hK
          clear hK
          show if Region.wanted _ (yielded _ a.tmps) = true then Oper.wp _ _ a ((W8.alloc (.cells #[.iface 115 (.pointer (some ⟨b, 0, none⟩)), .int .i32 l] 39)).drew) K _ else _
          go_simp
          exact HK.out
        · replace hK : K (a.put (some 330) (.pointer (some ⟨cb, 2, none⟩))) (w9) := hK
          have HK := Lib.hid hK
          clear hK
          show if Region.wanted _ (yielded _ a.tmps) = true then Oper.wp _ _ a (w9) K _ else _
          go_simp
          exact HK.out
      · simp only [List.getElem?_toArray, List.getElem?_cons_zero, List.getElem?_cons_succ, Option.some.injEq] at ho
        subst ho
        have v0 : a.eval (.tmp 330) = .pointer (some ⟨cb, 2, none⟩) := hd 9 330 (by kernel_rfl) (by kernel_rfl)
        have u0 : a.tmps[330]?.getD undef = .pointer (some ⟨cb, 2, none⟩) := by rw [← Array.getD_eq_getD_getElem?]; exact v0
        clear v0
        have v1 : a.eval (.tmp 328) = .slice a9 (n + 1) c9 := hd 7 328 (by kernel_rfl) (by kernel_rfl)
        have u1 : a.tmps[328]?.getD undef = .slice a9 (n + 1) c9 := by rw [← Array.getD_eq_getD_getElem?]; exact v1
        clear v1
        have hj : j = 2 := by simp at h1 h2; omega
        clear h1 h2 hd hf
        rcases hj with rfl
        · replace hK : K (a.put (none) (undef)) (w9.setCell ⟨cb, 2, none⟩ (.slice a9 (n + 1) c9)) := hK
          have HK := Lib.hid hK
          clear hK
          show if Region.wanted _ (yielded _ a.tmps) = true then Oper.wp _ _ a (w9) K _ else _
          go_simp
          exact HK.out
    simp only [List.foldl_cons, List.foldl_nil, List.length_cons, List.length_nil, List.getD_cons_succ, List.getD_cons_zero, Nat.zero_add, Nat.reduceAdd]
    simp only [Act.put, List.setIfInBounds_toArray, List.set_cons_zero, List.set_cons_succ]
    go_wp2_with fail
    exact bodyPost_ret (v := .agg #[.nilIface, .int .i32 0]) (by simp [results, Tryz.results35, go_sem, n90, n91]) rfl ⟨_, n + 1, _, rfl, by omega, by omega, HFIN.out.1, HFIN.out.2.1, HFIN.out.2.2, by rw [HLOW.out]; exact HSF.out.1, HSF.out.2⟩
  · have HST7 := HST
    obtain ⟨x7, xf7⟩ : W6.cell? ⟨W3.heap.size, 2, none⟩ = some (.slice ak nk ck) ∧ W6.frozen? ⟨W3.heap.size, 2, none⟩ = false := hcell HST7.out.hcn 2 _ rfl
    obtain ⟨d7, df7⟩ : W6.cell? ⟨b, 2, none⟩ = some (.slice (some ⟨rb, 0, none⟩) kN cap) ∧ W6.frozen? ⟨b, 2, none⟩ = false := by
      obtain ⟨arr, q1, q2, _⟩ := HST7.out.hb
      exact hcell q1 2 _ q2
    have hD7 : b < W6.heap.size := by
      obtain ⟨arr, q1, _⟩ := HST7.out.hb
      exact heap_lt q1
    obtain ⟨n90, nf90⟩ := hcell HST.out.b6 0 _ rfl
    obtain ⟨n91, nf91⟩ := hcell HST.out.b6 1 _ rfl
    have hN5 := heap_lt HST.out.b6
    have HFIN := hid (HST.out.none HH.out.2.2.2.2.2.2.2.2.1)
    obtain ⟨h6S, h5P, h6r, h5k, h6O, hKe, hlr, hrh, hge⟩ := HS6.out
    have hke : keptM kids = [] := List.length_eq_zero_iff.1 (by omega)
    have hfl : kids.flatMap (lowM d true) = [] := List.length_eq_zero_iff.1 (by have := h6S.len; omega)
    have HLOW := hid (show lowM (d + 1) true (.mk l 2 kids) = [] by rw [lowM_at, if_pos hke, List.nil_append, if_pos hfl])
    have hSF := h6O.keep (w' := (W6.setCell ⟨w.heap.size + 1 + 1, 0, none⟩ .nilIface).setCell ⟨w.heap.size + 1 + 1, 1, none⟩ (.int .i32 0)) (by simp [World.setCell]) (fun g hg => set2o _ 0 _ _ (by
      rcases hg with hg | hg
      · have := (HOS.out.1.sP g hg).1; omega
      · have := HOS.out.1.ownlt hg; omega))
    have HSF := hid hSF
    clear h6S h5P h6r h5k h6O hKe hlr hrh hge hke hfl hSF
    go_wp2_with fail
    exact bodyPost_ret (v := .agg #[.nilIface, .int .i32 0]) (by simp [results, Tryz.results35, go_sem, n90, n91]) rfl ⟨_, n, P, rfl, by omega, by omega, HFIN.out.1, HFIN.out.2.1, HFIN.out.2.2, by rw [HLOW.out, List.append_nil]; exact HSF.out, fun g hg => Or.inl hg⟩
end Go.Proofs.YtjebnjjhdefejaaGreatFmt
