/-
  The bound on sizes; copies of bytes and words. Conditions: each theorem's own.
-/
import Derived.Test.YtjebnjjhdefejaaGreatFmtMa
import Derived.Laws.CopyOwn
import Derived.Laws.Cover3
namespace Go.Proofs.YtjebnjjhdefejaaGreatFmt
open Go.RowKit Go.Lib Go.ChangeMaps
theorem bytes4 (a0 a1 : Option Addr) (n0 n1 k0 k1 : Nat) (w : World) :
    Calls Tryz.prog 4 #[.slice a0 n0 k0, .slice a1 n1 k1] w fun e w' => (∃ b, e = .returned (.bool b)) ∧ w' = w := by
  go_enter Tryz.func4, Tryz.ntmps4
  go_wp2_with fail
  all_goals (go_ret; exact ⟨⟨_, rfl⟩, rfl⟩)

theorem infou8 : (Tryz.prog.info? 5).map (fun i => (i.zero, i.size, i.bytes)) = some (some (.int .u8 0), 1, 1) := by kernel_rfl
theorem eql_nilu8 (a : Option Addr) (l c : Nat) (w : World) : (binOp .eql 22 (.slice a l c) (.slice none 0 0)).run Tryz.prog w = .ok (.bool a.isNone) w := by
  simp [binOp, run_equal_slice_nil w 22 5 a l c Tryz.underlying22, Result.andThen]
attribute [local go_sem] eql_nilu8
set_option maxRecDepth 20000 in
set_option maxHeartbeats 1000000 in
theorem cloneu8 (a : Option Addr) (n c : Nat) (z : List Int) (w : World) (hn : n ≤ 1048576) (r : IsRow .u8 w a n c z) :
    Calls Tryz.prog 5 #[.slice a n c] w fun e w' => (∃ a' c', e = .returned (.slice a' n c') ∧ Row .u8 w' a' n z) ∧ Below w.heap.size w w' := by
  have hrow := r.row.1
  rcases r with ⟨rfl, rfl, rfl, rfl⟩ | ⟨x, rfl, hl, hm, hz, hc, hw⟩
  · have R := Lib.hid hrow
    clear hrow
    go_enter Tryz.func5, Tryz.ntmps5
    go_wp2_with fail
    go_ret
    exact ⟨⟨none, 0, rfl, R.out⟩, Below.refl _ _⟩
  · obtain ⟨i5, hi5⟩ : ∃ i, Tryz.prog.info? 5 = some i := by cases h : Tryz.prog.info? 5 with
      | some i => exact ⟨i, rfl⟩
      | none => have := infou8; rw [h] at this; cases this
    have hi5' := infou8
    rw [hi5] at hi5'
    simp at hi5'
    obtain ⟨z51, z52, z53⟩ := hi5'
    obtain ⟨cs, hcs⟩ : ∃ cs, cs = (List.range n).map (fun i => Value.int .u8 (z.getD i 0)) := ⟨_, rfl⟩
    have cl : cs.length = n := by rw [hcs]; simp
    have cg : ∀ j v, cs[j]? = some v → j < n ∧ v = .int .u8 (z.getD j 0) := by
      intro j v h
      rw [hcs] at h
      simp only [List.getElem?_map] at h
      by_cases hj : j < n
      · rw [List.getElem?_range hj] at h
        simp only [Option.map_some, Option.some.injEq] at h
        exact ⟨hj, h.symm⟩
      · rw [List.getElem?_eq_none (by simpa using hj)] at h
        cases h
    have ca : ∀ j, j < n → cs[j]? = some (.int .u8 (z.getD j 0)) := by
      intro j hj
      rw [hcs]
      simp only [List.getElem?_map]
      rw [List.getElem?_range hj]
      rfl
    have c1 : ∀ v ∈ cs, v.oneCell' = true := by
      intro v hv
      obtain ⟨j, hj⟩ := List.mem_iff_getElem?.1 hv
      rw [(cg j v hj).2]
      rfl
    have src : ∀ j v, cs[j]? = some v → w.cell? (x.add j) = some v := by
      intro j v h
      obtain ⟨hj, rfl⟩ := cg j v h
      exact hc j (by omega)
    have SRC := Lib.hid src
    have CA := Lib.hid ca
    have C1 := Lib.hid c1
    have CL := Lib.hid cl
    have WF := Lib.hid hrow.wf
    have LT := Lib.hid (show 0 < n → x.block < w.heap.size from fun h => (addr_lt (hc 0 (by omega))).1)
    clear src ca c1 cl cg hc hw hrow hcs hz
    go_enter Tryz.func5, Tryz.ntmps5
    go_wp2_with (at_make; go_loud (refine wpList_make_full _ rfl _ _ 22 rfl w.heap.size 5 i5 _ 1 (by kernel_rfl) hi5 z51 z52 .i64 .i64 (n : Int) (n : Int) n rfl rfl rfl rfl ?d1 ?d2 ?d3 ?_))
    case d1 => rw [z53]; omega
    case d2 => unfold maxLen; omega
    case d3 => omega
    intro w1 ho1 hg1
    obtain ⟨cur, hcur⟩ := own_type ho1 (g := w.heap.size) rfl
    have hsz : cur.size = n := by
      rcases ho1.2 with ⟨e, _⟩ | ⟨g', cap, cur', e, _, hh, _, _, hs, _⟩
      · cases e
      · injection e with e1 _ e3
        injection e1 with e1
        injection e1 with e1
        subst e1; subst e3
        rw [hcur] at hh
        injection hh with hh
        injection hh with hh
        subst hh
        simpa using hs
    have b1 := Lib.hid (show Below w.heap.size w w1 from ⟨hg1.os, hg1.tape, hg1.output, hg1.size, fun k hk => hg1.block k hk (by simp)⟩)
    have src1 := Lib.hid (show ∀ j v, cs[j]? = some v → w1.cell? (x.add j) = some v from fun j v h => by
      have hj : j < n := by rw [← CL.out]; exact (List.getElem?_eq_some_iff.1 h).1
      have hlt := LT.out (by omega)
      rw [b1.out.cell (p := x.add j) (by unfold Addr.add; split <;> exact hlt)]
      exact SRC.out j v h)
    have HC := Lib.hid hcur
    clear ho1 hg1 hcur SRC
    go_wp2_with (refine wpList_copy_splice rfl _ _ 22 22 rfl 5 (by kernel_rfl) (by kernel_rfl) _ _ n n n c rfl rfl w.heap.size 0 cur.toList 5 HC.out cs ?e1 ?e2 ?e3 C1.out w.heap.size w b1.out (Nat.le_refl _) ?_)
    case e1 => rw [CL.out]; exact (Nat.min_self n).symm
    case e2 => exact fun _ => src1.out
    case e3 => rw [CL.out]; simp [hsz]
    intro w2 hc2 hb2
    have RR := Lib.hid (show Row .u8 w2 (some ⟨w.heap.size, 0, none⟩) n z from ⟨fun _ => ⟨w.heap.size, 0, rfl, (Array.getElem?_eq_some_iff.1 hc2.out).1, fun i hi => by
      simp only [World.cell?, hc2.out, Nat.zero_add]
      simp only [List.getElem?_toArray, splice, List.take_zero, List.nil_append]
      rw [List.getElem?_append_left (by rw [CL.out]; exact hi)]
      exact CA.out i hi⟩, WF.out⟩)
    have B2 := Lib.hid hb2
    clear hc2 hb2
    go_wp2_with fail
    go_ret
    exact ⟨⟨_, _, rfl, RR.out⟩, B2.out⟩

theorem infou16 : (Tryz.prog.info? 50).map (fun i => (i.zero, i.size, i.bytes)) = some (some (.int .u16 0), 1, 2) := by kernel_rfl
theorem eql_nilu16 (a : Option Addr) (l c : Nat) (w : World) : (binOp .eql 23 (.slice a l c) (.slice none 0 0)).run Tryz.prog w = .ok (.bool a.isNone) w := by
  simp [binOp, run_equal_slice_nil w 23 50 a l c Tryz.underlying23, Result.andThen]
attribute [local go_sem] eql_nilu16
set_option maxRecDepth 20000 in
set_option maxHeartbeats 1000000 in
theorem cloneu16 (a : Option Addr) (n c : Nat) (z : List Int) (w : World) (hn : n ≤ 1048576) (r : IsRow .u16 w a n c z) :
    Calls Tryz.prog 6 #[.slice a n c] w fun e w' => (∃ a' c', e = .returned (.slice a' n c') ∧ Row .u16 w' a' n z) ∧ Below w.heap.size w w' := by
  have hrow := r.row.1
  rcases r with ⟨rfl, rfl, rfl, rfl⟩ | ⟨x, rfl, hl, hm, hz, hc, hw⟩
  · have R := Lib.hid hrow
    clear hrow
    go_enter Tryz.func6, Tryz.ntmps6
    go_wp2_with fail
    go_ret
    exact ⟨⟨none, 0, rfl, R.out⟩, Below.refl _ _⟩
  · obtain ⟨i5, hi5⟩ : ∃ i, Tryz.prog.info? 50 = some i := by cases h : Tryz.prog.info? 50 with
      | some i => exact ⟨i, rfl⟩
      | none => have := infou16; rw [h] at this; cases this
    have hi5' := infou16
    rw [hi5] at hi5'
    simp at hi5'
    obtain ⟨z51, z52, z53⟩ := hi5'
    obtain ⟨cs, hcs⟩ : ∃ cs, cs = (List.range n).map (fun i => Value.int .u16 (z.getD i 0)) := ⟨_, rfl⟩
    have cl : cs.length = n := by rw [hcs]; simp
    have cg : ∀ j v, cs[j]? = some v → j < n ∧ v = .int .u16 (z.getD j 0) := by
      intro j v h
      rw [hcs] at h
      simp only [List.getElem?_map] at h
      by_cases hj : j < n
      · rw [List.getElem?_range hj] at h
        simp only [Option.map_some, Option.some.injEq] at h
        exact ⟨hj, h.symm⟩
      · rw [List.getElem?_eq_none (by simpa using hj)] at h
        cases h
    have ca : ∀ j, j < n → cs[j]? = some (.int .u16 (z.getD j 0)) := by
      intro j hj
      rw [hcs]
      simp only [List.getElem?_map]
      rw [List.getElem?_range hj]
      rfl
    have c1 : ∀ v ∈ cs, v.oneCell' = true := by
      intro v hv
      obtain ⟨j, hj⟩ := List.mem_iff_getElem?.1 hv
      rw [(cg j v hj).2]
      rfl
    have src : ∀ j v, cs[j]? = some v → w.cell? (x.add j) = some v := by
      intro j v h
      obtain ⟨hj, rfl⟩ := cg j v h
      exact hc j (by omega)
    have SRC := Lib.hid src
    have CA := Lib.hid ca
    have C1 := Lib.hid c1
    have CL := Lib.hid cl
    have WF := Lib.hid hrow.wf
    have LT := Lib.hid (show 0 < n → x.block < w.heap.size from fun h => (addr_lt (hc 0 (by omega))).1)
    clear src ca c1 cl cg hc hw hrow hcs hz
    go_enter Tryz.func6, Tryz.ntmps6
    go_wp2_with (at_make; go_loud (refine wpList_make_full _ rfl _ _ 23 rfl w.heap.size 50 i5 _ 1 (by kernel_rfl) hi5 z51 z52 .i64 .i64 (n : Int) (n : Int) n rfl rfl rfl rfl ?d1 ?d2 ?d3 ?_))
    case d1 => rw [z53]; omega
    case d2 => unfold maxLen; omega
    case d3 => omega
    intro w1 ho1 hg1
    obtain ⟨cur, hcur⟩ := own_type ho1 (g := w.heap.size) rfl
    have hsz : cur.size = n := by
      rcases ho1.2 with ⟨e, _⟩ | ⟨g', cap, cur', e, _, hh, _, _, hs, _⟩
      · cases e
      · injection e with e1 _ e3
        injection e1 with e1
        injection e1 with e1
        subst e1; subst e3
        rw [hcur] at hh
        injection hh with hh
        injection hh with hh
        subst hh
        simpa using hs
    have b1 := Lib.hid (show Below w.heap.size w w1 from ⟨hg1.os, hg1.tape, hg1.output, hg1.size, fun k hk => hg1.block k hk (by simp)⟩)
    have src1 := Lib.hid (show ∀ j v, cs[j]? = some v → w1.cell? (x.add j) = some v from fun j v h => by
      have hj : j < n := by rw [← CL.out]; exact (List.getElem?_eq_some_iff.1 h).1
      have hlt := LT.out (by omega)
      rw [b1.out.cell (p := x.add j) (by unfold Addr.add; split <;> exact hlt)]
      exact SRC.out j v h)
    have HC := Lib.hid hcur
    clear ho1 hg1 hcur SRC
    go_wp2_with (refine wpList_copy_splice rfl _ _ 23 23 rfl 50 (by kernel_rfl) (by kernel_rfl) _ _ n n n c rfl rfl w.heap.size 0 cur.toList 50 HC.out cs ?e1 ?e2 ?e3 C1.out w.heap.size w b1.out (Nat.le_refl _) ?_)
    case e1 => rw [CL.out]; exact (Nat.min_self n).symm
    case e2 => exact fun _ => src1.out
    case e3 => rw [CL.out]; simp [hsz]
    intro w2 hc2 hb2
    have RR := Lib.hid (show Row .u16 w2 (some ⟨w.heap.size, 0, none⟩) n z from ⟨fun _ => ⟨w.heap.size, 0, rfl, (Array.getElem?_eq_some_iff.1 hc2.out).1, fun i hi => by
      simp only [World.cell?, hc2.out, Nat.zero_add]
      simp only [List.getElem?_toArray, splice, List.take_zero, List.nil_append]
      rw [List.getElem?_append_left (by rw [CL.out]; exact hi)]
      exact CA.out i hi⟩, WF.out⟩)
    have B2 := Lib.hid hb2
    clear hc2 hb2
    go_wp2_with fail
    go_ret
    exact ⟨⟨_, _, rfl, RR.out⟩, B2.out⟩
end Go.Proofs.YtjebnjjhdefejaaGreatFmt
