/-
  The contracts of the bytes' copy, of the tokens' count and of the top compound's parser. Conditions: the bytes and the cursor.
-/
import Derived.Test.YtlhcgnlbhncfkaaCd
import Derived.Laws.CopyOwn
import Derived.Laws.Cover3
namespace Go.Proofs.Ytlhcgnlbhncfkaa
open Go.ChangeShapes Go.WideShapes Go.ChangeAt Go.RowKit

theorem info5 : (Try.prog.info? 5).map (fun i => (i.zero, i.size, i.bytes)) = some (some (.int .u8 0), 1, 1) := by kernel_rfl
theorem eql_nil (a : Option Addr) (l c : Nat) (w : World) : (binOp .eql 22 (.slice a l c) (.slice none 0 0)).run Try.prog w = .ok (.bool a.isNone) w := by
  simp [binOp, run_equal_slice_nil w 22 5 a l c Try.underlying22, Result.andThen]
attribute [local go_sem] eql_nil
set_option maxRecDepth 20000 in
set_option maxHeartbeats 1000000 in
theorem clone9 (a : Option Addr) (n c : Nat) (z : List Int) (w : World) (hn : n ≤ 1048576) (r : IsRow .u8 w a n c z) :
    Calls Try.prog 9 #[.slice a n c] w fun e w' => (∃ a' c', e = .returned (.slice a' n c') ∧ Row .u8 w' a' n z) ∧ Below w.heap.size w w' := by
  have hrow := r.row.1
  rcases r with ⟨rfl, rfl, rfl, rfl⟩ | ⟨x, rfl, hl, hm, hz, hc, hw⟩
  · have R := Lib.hid hrow
    clear hrow
    go_enter Try.func9, Try.ntmps9
    go_wp2_with fail
    go_ret
    exact ⟨⟨none, 0, rfl, R.out⟩, Below.refl _ _⟩
  · obtain ⟨i5, hi5⟩ : ∃ i, Try.prog.info? 5 = some i := by cases h : Try.prog.info? 5 with
      | some i => exact ⟨i, rfl⟩
      | none => have := info5; rw [h] at this; cases this
    have hi5' := info5
    rw [hi5] at hi5'
    simp at hi5'
    obtain ⟨z51, z52, z53⟩ := hi5'
    obtain ⟨cs, hcs⟩ : ∃ cs, cs = (List.range n).map (fun i => Value.int .u8 (z.getD i 0)) := ⟨_, rfl⟩
    have cl : cs.length = n := by rw [hcs]; simp
    have cg : ∀ j v, cs[j]? = some v → j < n ∧ v = .int .u8 (z.getD j 0) := by
      intro j v h
      rw [hcs] at h
      simp only [List.getElem?_map] at h
      by_cases hj : j < n
      · rw [List.getElem?_range hj] at h
        simp only [Option.map_some, Option.some.injEq] at h
        exact ⟨hj, h.symm⟩
      · rw [List.getElem?_eq_none (by simpa using hj)] at h
        cases h
    have ca : ∀ j, j < n → cs[j]? = some (.int .u8 (z.getD j 0)) := by
      intro j hj
      rw [hcs]
      simp only [List.getElem?_map]
      rw [List.getElem?_range hj]
      rfl
    have c1 : ∀ v ∈ cs, v.oneCell' = true := by
      intro v hv
      obtain ⟨j, hj⟩ := List.mem_iff_getElem?.1 hv
      rw [(cg j v hj).2]
      rfl
    have src : ∀ j v, cs[j]? = some v → w.cell? (x.add j) = some v := by
      intro j v h
      obtain ⟨hj, rfl⟩ := cg j v h
      exact hc j (by omega)
    have SRC := Lib.hid src
    have CA := Lib.hid ca
    have C1 := Lib.hid c1
    have CL := Lib.hid cl
    have WF := Lib.hid hrow.wf
    have LT := Lib.hid (show 0 < n → x.block < w.heap.size from fun h => (cell_lt (hc 0 (by omega))).1)
    clear src ca c1 cl cg hc hw hrow hcs hz
    go_enter Try.func9, Try.ntmps9
    go_wp2_with (at_make; go_loud (refine wpList_make_full _ rfl _ _ 22 rfl w.heap.size 5 i5 _ 1 (by kernel_rfl) hi5 z51 z52 .i64 .i64 (n : Int) (n : Int) n rfl rfl rfl rfl ?d1 ?d2 ?d3 ?_))
    case d1 => rw [z53]; omega
    case d2 => unfold maxLen; omega
    case d3 => omega
    intro w1 ho1 hg1
    obtain ⟨cur, hcur⟩ := own_block ho1 w.heap.size rfl
    have hsz : cur.size = n := by
      rcases ho1.2 with ⟨e, _⟩ | ⟨g', cap, cur', e, _, hh, _, _, hs, _⟩
      · cases e
      · injection e with e1 _ e3
        injection e1 with e1
        injection e1 with e1
        subst e1; subst e3
        rw [hcur] at hh
        injection hh with hh
        injection hh with hh
        subst hh
        simpa using hs
    have b1 := Lib.hid (show Below w.heap.size w w1 from ⟨hg1.os, hg1.tape, hg1.output, hg1.size, fun k hk => hg1.block k hk (by simp)⟩)
    have src1 := Lib.hid (show ∀ j v, cs[j]? = some v → w1.cell? (x.add j) = some v from fun j v h => by
      have hj : j < n := by rw [← CL.out]; exact (List.getElem?_eq_some_iff.1 h).1
      have hlt := LT.out (by omega)
      rw [b1.out.cell (p := x.add j) (by unfold Addr.add; split <;> exact hlt)]
      exact SRC.out j v h)
    have HC := Lib.hid hcur
    clear ho1 hg1 hcur SRC
    go_wp2_with (refine wpList_copy_splice rfl _ _ 22 22 rfl 5 (by kernel_rfl) (by kernel_rfl) _ _ n n n c rfl rfl w.heap.size 0 cur.toList 5 HC.out cs ?e1 ?e2 ?e3 C1.out w.heap.size w b1.out (Nat.le_refl _) ?_)
    case e1 => rw [CL.out]; exact (Nat.min_self n).symm
    case e2 => exact fun _ => src1.out
    case e3 => rw [CL.out]; simp [hsz]
    intro w2 hc2 hb2
    have RR := Lib.hid (show Row .u8 w2 (some ⟨w.heap.size, 0, none⟩) n z from ⟨fun _ => ⟨w.heap.size, 0, rfl, (Array.getElem?_eq_some_iff.1 hc2.out).1, fun i hi => by
      simp only [World.cell?, hc2.out, Nat.zero_add]
      simp only [List.getElem?_toArray, splice, List.take_zero, List.nil_append]
      rw [List.getElem?_append_left (by rw [CL.out]; exact hi)]
      exact CA.out i hi⟩, WF.out⟩)
    have B2 := Lib.hid hb2
    clear hc2 hb2
    go_wp2_with fail
    go_ret
    exact ⟨⟨_, _, rfl, RR.out⟩, B2.out⟩
set_option maxRecDepth 20000 in
set_option maxHeartbeats 1000000 in
theorem count12 (a : Option Addr) (n c : Nat) (z : List Int) (w : World) (hn : n ≤ 1048576) (r : Row .u8 w a n z) :
    Calls Try.prog 12 #[.slice a n c] w fun e w' => e = .returned (.int .i64 ((toks z n : Nat) : Int)) ∧ Below w.heap.size w w' := by
  have R := Lib.hid r
  clear r
  have HL := Lib.hid (show Lk w n (tok z) 0 (.int .i64 0) (.int .i64 0) w from ⟨⟨0, by omega, rfl, rfl⟩, Below.refl _ _⟩)
  go_enter Try.func12, Try.ntmps12
  go_wp2_with fail
  go_loopw [3, 4] (fun vk vi wr => Lk w n (tok z) 0 vk vi wr) (fun _ vi _ => n - (intOf vi).toNat)
  case atStart => exact HL.out
  case round =>
    obtain ⟨i, hi, rfl, rfl⟩ := hrel.ex
    have HB := Lib.hid hrel.below
    clear hrel HL
    by_cases hlt : i < n
    · have R2 := R.out.below (Nat.le_refl _) HB.out
      obtain ⟨b, o, rfl, lb, q⟩ := R2.cell (by omega)
      have x := q i hlt
      obtain ⟨y0, y1⟩ := wf_u8 (R2.wf i hlt)
      have hle := Lib.hid (toks_le z i)
      have hsucc := Lib.hid (show sumTo (tok z) (i + 1) = sumTo (tok z) i + tok z i from rfl)
      have htok := Lib.hid (show tok z i = if z.getD i 0 % 5 ≤ 1 then 1 else 0 from rfl)
      clear q R2
      have hle2 : sumTo (tok z) i ≤ i := hle.out
      generalize z.getD i 0 = X at *
      by_cases h : X % 5 ≤ 1
      · have ht := Lib.hid (show tok z i = 1 from by rw [htok.out, if_pos h])
        go_wp2_with fail
        go_roundw
        case rel => exact ⟨⟨i + 1, by omega, by go_num, by rw [hsucc.out, ht.out]; go_num⟩, HB.out⟩
        case measure => simp [intOf]; omega
      · have ht := Lib.hid (show tok z i = 0 from by rw [htok.out, if_neg h])
        go_wp2_with fail
        go_roundw
        case rel => exact ⟨⟨i + 1, by omega, by go_num, by rw [hsucc.out, ht.out]; go_num⟩, HB.out⟩
        case measure => simp [intOf]; omega
    · have e : i = n := by omega
      subst e
      go_wp2_with fail
      go_ret
      exact ⟨by simp [toks], HB.out⟩
end Go.Proofs.Ytlhcgnlbhncfkaa
