/-
  symbolForName, walked at a name that is new, global mode; the three cases joined. Conditions: the parser's symbols stand as PS says.
-/
import Derived.Test.YtgjoklbljmpkgaaFmtGg
namespace Go.Proofs.YtgjoklbljmpkgaaFmt
open Go.RowKit Go.Lib Go.ChangeMaps
open Go.Maps (Keyed IsMap)
set_option maxHeartbeats 4000000 in
set_option maxRecDepth 100000 in
theorem sym_missG (c : PC) (l : List NM) (vS vL : Value) (nm : NM) (w : World) (h : PS c l vS vL w) (hi1 : w.cell? ⟨1, 0, none⟩ = some (.int .u32 4294967295) ∧ w.cell? ⟨1, 1, none⟩ = some (.int .u32 4294967295)) (h1b : 1 < c.base ∧ 1 ≠ c.pb ∧ 1 ≠ c.mb)
    (hnm : nm.length ≤ 1048576) (hlen : l.length < 1048576) (hm : nm ∉ l) (hmm : c.m = false) :
    Calls Tryf.prog 20 #[.pointer (some ⟨c.pb, 0, none⟩), .agg #[.int .i32 0], .string (ba nm)] w fun e w' => SymR c l nm vS vL w e w' := by
  obtain ⟨xS, xL, D, hP, hX, hM⟩ := h.ex
  rw [hmm] at hP
  simp only [Bool.false_eq_true, if_false] at hP
  have hd : dist (l ++ [nm]) = dist l ++ [nm] := by rw [dist_snoc, if_neg (fun e => hm ((mem_dist l nm).1 e))]
  have hlast : (dist (l ++ [nm])).idxOf nm = (dist l).length := by
    rw [hd, List.idxOf_append, if_neg (fun e => hm ((mem_dist l nm).1 e))]; simp
  have hdl := dist_len l
  have HX := hid (hX.miss hP.oS.1 nm hm)
  have hxl := hP.oS.1
  have HM := hid (hM.miss nm hm)
  obtain ⟨i, hrun, _⟩ := look40 ((hP.alloc locB).alloc zeroB) hM nm hnm
  rw [show decide (nm ∈ l) = false from decide_eq_false hm] at hrun
  have hplt : c.pb < w.heap.size := Nat.lt_of_lt_of_le c.hp hP.sz
  have hbs := hP.sz
  have q54 := hP.c54
  have q25 := hP.c25
  have hSlt := fun g e => (hP.oS.lt g e).2
  have hLlt := fun g e => (hP.oL.lt g e).2
  have HP := hid hP
  have hmb : c.mb = if c.m then c.lb else c.gb := rfl
  generalize hNN : (dist l).length = n at *
  rw [hmm] at q54 hmb
  simp only [Bool.false_eq_true, if_false] at hmb
  rw [hmb] at hrun
  clear hP hX hM h
  go_enter Tryf.func20, Tryf.ntmps20
  go_wp2_with fail
  have P3 := ((HP.out.alloc locB).alloc zeroB).alloc (entZ i)
  obtain ⟨⟨l0, r0⟩, e0⟩ := heap3 w locB zeroB (entZ i)
  have s3 : (((w.alloc locB).alloc zeroB).alloc (entZ i)).heap.size = w.heap.size + 3 := by simp [go_sem]
  have F3 := hid ((((Fr.refl (Ex c vS vL) w.heap.size w).alloc (Nat.le_refl _) locB).alloc (Nat.le_refl _) zeroB).alloc (Nat.le_refl _) (entZ i))
  generalize (((w.alloc locB).alloc zeroB).alloc (entZ i)) = W3 at *
  obtain ⟨a0, a1, a2, a3⟩ := cells3 e0
  have k0 : W3.cell? ⟨w.heap.size, 0, none⟩ = some (.int .i32 0) := by unfold World.cell?; simp [l0]
  have p15 := P3.c15
  have p21 := P3.c21
  have P3h := hid P3
  obtain ⟨sa, scap, rfl⟩ : ∃ sa scap, vS = .slice sa n scap := by
    rcases P3.oS.2 with ⟨e, h0⟩ | ⟨g, cap, _, e, _⟩
    · exact ⟨none, 0, by rw [e, h0]⟩
    · exact ⟨_, cap, e⟩
  clear P3 q25 q54 hrun HP
  have hcv : IntKind.u32.wrap (n : Int) = n := by rw [IntKind.wrap_u32]; omega
  go_region
  clear a0 a1 a2 a3 k0 p15 p21
  have hb2 : c.base ≤ w.heap.size + 1 + 1 := by omega
  have nS2 : (Value.slice sa n scap).ownBlock ≠ some (w.heap.size + 1 + 1) := fun e => by have := hSlt _ e; omega
  have nL2 : vL.ownBlock ≠ some (w.heap.size + 1 + 1) := fun e => by have := hLlt _ e; omega
  have P4 := ((P3h.out.other (a := ⟨w.heap.size + 1 + 1, 0, none⟩) hb2 nS2 nL2 (.int .i32 0)).other (a := ⟨w.heap.size + 1 + 1, 1, none⟩) hb2 nS2 nL2 (.int .u32 0)).other (a := ⟨w.heap.size + 1 + 1, 2, none⟩) hb2 nS2 nL2 (.int .u32 n) |>.drew
  have F4 := ((F3.out.set ⟨w.heap.size + 1 + 1, 0, none⟩ (.int .i32 0) (Or.inr (by simp; omega))).set ⟨w.heap.size + 1 + 1, 1, none⟩ (.int .u32 0) (Or.inr (by simp; omega))).set ⟨w.heap.size + 1 + 1, 2, none⟩ (.int .u32 n) (Or.inr (by simp; omega)) |>.drew
  have e4 : ((((W3.setCell ⟨w.heap.size + 1 + 1, 0, none⟩ (.int .i32 0)).setCell ⟨w.heap.size + 1 + 1, 1, none⟩ (.int .u32 0)).setCell ⟨w.heap.size + 1 + 1, 2, none⟩ (.int .u32 n)).drew).heap[w.heap.size + 1 + 1]? = some (entZ n) := ent_set e0
  have r4 : ((((W3.setCell ⟨w.heap.size + 1 + 1, 0, none⟩ (.int .i32 0)).setCell ⟨w.heap.size + 1 + 1, 1, none⟩ (.int .u32 0)).setCell ⟨w.heap.size + 1 + 1, 2, none⟩ (.int .u32 n)).drew).heap[w.heap.size + 1]? = some zeroB := (ent_far (by omega)).trans r0
  have s4 : ((((W3.setCell ⟨w.heap.size + 1 + 1, 0, none⟩ (.int .i32 0)).setCell ⟨w.heap.size + 1 + 1, 1, none⟩ (.int .u32 0)).setCell ⟨w.heap.size + 1 + 1, 2, none⟩ (.int .u32 n)).drew).heap.size = w.heap.size + 3 := by simp [s3]
  clear e0 r0 l0 s3 F3 P3h
  generalize (((W3.setCell ⟨w.heap.size + 1 + 1, 0, none⟩ (.int .i32 0)).setCell ⟨w.heap.size + 1 + 1, 1, none⟩ (.int .u32 0)).setCell ⟨w.heap.size + 1 + 1, 2, none⟩ (.int .u32 n)).drew = W4 at *
  have nEx1 : ¬ Ex c (.slice sa n scap) vL 1 := by
    rintro (e | e | e | e)
    · exact h1b.2.1 e
    · exact h1b.2.2 e
    · have := (P4.oS.lt _ e).1; omega
    · have := (P4.oL.lt _ e).1; omega
  have i0 : W4.cell? ⟨1, 0, none⟩ = some (.int .u32 4294967295) := (World.cell?_of_block (a := ⟨1, 0, none⟩) (F4.block 1 (by omega) nEx1)).trans hi1.1
  have i1 : W4.cell? ⟨1, 1, none⟩ = some (.int .u32 4294967295) := (World.cell?_of_block (a := ⟨1, 1, none⟩) (F4.block 1 (by omega) nEx1)).trans hi1.2
  obtain ⟨g5, k5, w5, ha5, ho5, hg5, hat5⟩ := appN (w := W4.drew) c.base 63 110 _ 10 48 (symV false nm 0) xS n (.slice sa n scap) Tryf.underlying63 info110 rfl (by decide) (by decide) P4.drew.oS rfl (sym_one _ _ _) (by omega) P4.drew.sz
  have P4a := P4.drew.alloc (.cells (symV false nm 0).toArray 110)
  have P6 := hid (P4a.symTo hg5 ho5 (by simpa using hat5))
  have hneS : some c.pb ≠ (Value.slice sa n scap).ownBlock := own_ne P4.oS c.hp
  have p21 := P4.c21
  have z21 := P4.drew.c21
  have y21 : w5.cell? ⟨c.pb, 21, none⟩ = some (.slice sa n scap) := (World.cell?_of_block (a := ⟨c.pb, 21, none⟩) (hg5.block c.pb (Nat.lt_of_lt_of_le c.hp P4a.sz) hneS)).trans P4a.c21
  have x21 : w5.frozen? ⟨c.pb, 21, none⟩ = false := (World.frozen?_of_block (a := ⟨c.pb, 21, none⟩) (hg5.block c.pb (Nat.lt_of_lt_of_le c.hp P4a.sz) hneS)).trans (P4a.fr 21)
  have HA5 : (Builtin.append_ #[63, 63] 63 #[.slice sa n scap, .slice (some ⟨W4.heap.size, 0, none⟩) 1 1]).run Tryf.prog (W4.drew.alloc (.cells #[.pointer none, .string (ba nm), .int .u32 4294967295, .int .u32 4294967295, .int .u32 0, .int .u32 0, .int .u32 0, .int .u16 0, .int .u8 25, .int .u8 0] 110)) = .ok (.slice (some ⟨g5, 0, none⟩) (n + 1) k5) w5 := ha5
  have hA5 := hid HA5
  have ra21 : ((W4.alloc (.cells #[.pointer none, .string (ba nm), .int .u32 4294967295, .int .u32 4294967295, .int .u32 0, .int .u32 0, .int .u32 0, .int .u16 0, .int .u8 25, .int .u8 0] 110)).drew).cell? ⟨c.pb, 21, none⟩ = some (.slice sa n scap) := P4a.c21
  have hplt4 : c.pb < W4.heap.size := by omega
  clear HA5 ha5 P4a
  have hF5 := hid hg5
  have HF4 := hid F4
  have HP4 := hid P4
  clear hg5 F4 P4 ho5
  go_upto_region 11 with fail
  go_cut [] (fun wx => WEq wx (w5.setCell ⟨c.pb, 21, none⟩ (.slice (some ⟨g5, 0, none⟩) (n + 1) k5)))
  case first =>
    rename_i J KK hJ hKK
    go_region_law (refine step_run rfl (.tmp 49) (.tmp 54) 63 rfl (.slice sa n scap) (.slice (some ⟨W4.heap.size, 0, none⟩) 1 1) _ w5 (by simp [Act.eval]) (by simp [Act.eval]) hA5.out ?_)
    all_goals
      refine hKK _ _ (Met.intro (hJ _ _ ?_))
      repeat apply Exists.intro
      exact ⟨⟨rfl⟩, rfl⟩
  case rest =>
    have hw := hcut.ex
    obtain rfl := hw.symm
    clear hcut hw y21 x21 hA5 ra21 p21 z21 i0 i1
    have hl4 : w.heap.size + 3 ≤ w5.heap.size := by have := hF5.out.size; simp [s4] at this; omega
    have e5 : w5.heap[w.heap.size + 1 + 1]? = some (entZ n) := (hF5.out.block _ (by simp [s4]; try omega) (Ne.symm nS2)).trans (((World.grownBy_alloc W4.drew (.cells (symV false nm 0).toArray 110) none).block _ (by simp [s4]) (by simp)).trans e4)
    have r5 : w5.heap[w.heap.size + 1]? = some zeroB := (hF5.out.block _ (by simp [s4]; try omega) (fun e => by have := hSlt _ e.symm; omega)).trans (((World.grownBy_alloc W4.drew (.cells (symV false nm 0).toArray 110) none).block _ (by simp [s4]; try omega) (by simp)).trans r4)
    have e6 : (w5.setCell ⟨c.pb, 21, none⟩ (.slice (some ⟨g5, 0, none⟩) (n + 1) k5)).heap[w.heap.size + 1 + 1]? = some (entZ n) := (heap_setCell_other _ _ _ _ (by simp; omega)).trans e5
    have r6 : (w5.setCell ⟨c.pb, 21, none⟩ (.slice (some ⟨g5, 0, none⟩) (n + 1) k5)).heap[w.heap.size + 1]? = some zeroB := (heap_setCell_other _ _ _ _ (by simp; omega)).trans r5
    have hl6 : w.heap.size + 3 ≤ (w5.setCell ⟨c.pb, 21, none⟩ (.slice (some ⟨g5, 0, none⟩) (n + 1) k5)).heap.size := by simp; exact hl4
    have F6 := hid ((((HF4.out.drew.alloc (Nat.le_refl _) (.cells (symV false nm 0).toArray 110)).grown (Nat.le_refl _) hF5.out (fun g hg => Or.inl (Or.inr (Or.inr (Or.inl hg)))))).set ⟨c.pb, 21, none⟩ (.slice (some ⟨g5, 0, none⟩) (n + 1) k5) (Or.inl (Or.inl rfl)))
    have hNew : New w (.slice sa n scap) (.slice (some ⟨g5, 0, none⟩) (n + 1) k5) := by
      rcases hat5 with h | h
      · exact Or.inl h
      · exact Or.inr ⟨_, h, by simp [s4]; omega⟩
    have hg5far : g5 ≠ w.heap.size + 1 ∧ g5 ≠ w.heap.size + 1 + 1 := by
      rcases hat5 with h | h
      · have h1 := hSlt g5 (by rw [← h]; rfl)
        omega
      · simp [Value.ownBlock, s4] at h
        omega
    have hExg5 : Ex c (.slice sa n scap) vL g5 ∨ w.heap.size ≤ g5 := by
      rcases hat5 with h | h
      · exact Or.inl (Or.inr (Or.inr (Or.inl (by rw [← h]; rfl))))
      · simp [Value.ownBlock, s4] at h
        exact Or.inr (by omega)
    clear hat5 hF5 HF4 HP4 e4 r4 s4 e5 r5 hl4
    generalize w5.setCell ⟨c.pb, 21, none⟩ (.slice (some ⟨g5, 0, none⟩) (n + 1) k5) = W6 at *
    have hk : keyOf Tryf.prog 9 (.string (ba nm)) = some (.string nm) := by
      rw [WideMaps.keyOf_string_mk Tryf.underlying9 (by simp [ba, ByteArray.size, maxLen]; omega), ba_list]
    obtain ⟨w7, hr7, hm7, hg7⟩ := P6.out.mp.update str_keyed Tryf.underlying40 (by unfold maxLen; omega) hk (locE_mk n)
    rw [hmb] at hr7
    have P7 := P6.out.put hg7 hm7
    obtain ⟨a0, a1, a2, a3⟩ := cells3 e6
    have hmbl := c.mb_lt
    have e7 : w7.heap[w.heap.size + 1 + 1]? = some (entZ n) := (hg7.block _ (by omega) (fun e => by simp at e; omega)).trans e6
    have r7 : w7.heap[w.heap.size + 1]? = some zeroB := (hg7.block _ (by omega) (fun e => by simp at e; omega)).trans r6
    have F7 := hid (F6.out.grown (Nat.le_refl _) hg7 (fun g hg => Or.inl (Or.inr (Or.inl (by simpa using hg.symm)))))
    have hl7 : w.heap.size + 3 ≤ w7.heap.size := Nat.le_trans hl6 hg7.size
    clear hg7 hm7 P6 F6 r6 hl6
    go_upto_region 15 with fail
    clear a0 a1 a2 a3 e6 hr7
    have P7h := hid P7
    clear P7
    obtain ⟨a0, a1, a2, a3⟩ := cells3 e7
    have p21 := P7h.out.c21
    have hg5b := hg5far
    have hc3 : w7.cell? ⟨g5, n * 10 + 4, none⟩ = some (.int .u32 0) := by
      rw [P7h.out.oS.cellAt _ (by omega), List.getElem?_append_right (by omega), hxl, show n * 10 + 4 - n * 10 = 4 by omega]
      rfl
    have hf3 : w7.frozen? ⟨g5, n * 10 + 4, none⟩ = false := P7h.out.oS.frozenAt _
    have P10 := hid (P7h.out.symSet (n * 10 + 4) (.int .u32 1))
    have hIn : n < n + 1 := by omega
    go_region
    clear p21 hc3 hf3 a0 a1 a2 a3 hIn P7h
    have P11 := hid P10.out.drew
    have F11 := hid ((F7.out.set ⟨g5, n * 10 + 4, none⟩ (.int .u32 1) hExg5).drew)
    have r11 : (w7.setCell ⟨g5, n * 10 + 4, none⟩ (.int .u32 1)).drew.heap[w.heap.size + 1]? = some zeroB := (heap_setCell_other w7 ⟨g5, n * 10 + 4, none⟩ (w.heap.size + 1) _ (Ne.symm hg5b.1)).trans r7
    have e11 : (w7.setCell ⟨g5, n * 10 + 4, none⟩ (.int .u32 1)).drew.heap[w.heap.size + 1 + 1]? = some (entZ n) := (heap_setCell_other w7 ⟨g5, n * 10 + 4, none⟩ (w.heap.size + 1 + 1) _ (Ne.symm hg5b.2)).trans e7
    clear P10 F7 r7 e7
    generalize (w7.setCell ⟨g5, n * 10 + 4, none⟩ (.int .u32 1)).drew = W11 at *
    obtain ⟨a0, a1, a2, a3⟩ := cells3 e11
    obtain ⟨b0, b1, b2, b3⟩ := cells3 r11
    clear e11
    go_wp2_with fail
    have hb1 : c.base ≤ w.heap.size + 1 := by omega
    have nSf : (Value.slice (some ⟨g5, 0, none⟩) (n + 1) k5).ownBlock ≠ some (w.heap.size + 1) := fun e => by simp [Value.ownBlock] at e; exact hg5b.1 e
    have nLf : vL.ownBlock ≠ some (w.heap.size + 1) := fun e => by have := hLlt _ e; omega
    have P12 := hid (((P11.out.other (a := ⟨w.heap.size + 1, 0, none⟩) hb1 nSf nLf (.int .i32 0)).other (a := ⟨w.heap.size + 1, 1, none⟩) hb1 nSf nLf (.int .u32 0)).other (a := ⟨w.heap.size + 1, 2, none⟩) hb1 nSf nLf (.int .u32 n))
    have F12 := hid (((F11.out.set ⟨w.heap.size + 1, 0, none⟩ (.int .i32 0) (Or.inr (by simp))).set ⟨w.heap.size + 1, 1, none⟩ (.int .u32 0) (Or.inr (by simp))).set ⟨w.heap.size + 1, 2, none⟩ (.int .u32 n) (Or.inr (by simp)))
    have PSf : PS c (l ++ [nm]) (.slice (some ⟨g5, 0, none⟩) (n + 1) k5) vL (((W11.setCell ⟨w.heap.size + 1, 0, none⟩ (.int .i32 0)).setCell ⟨w.heap.size + 1, 1, none⟩ (.int .u32 0)).setCell ⟨w.heap.size + 1, 2, none⟩ (.int .u32 n)) := by
      refine ⟨_, xL, _, ?_, HX.out, HM.out⟩
      rw [hd, List.length_append, hNN, hmm]
      exact P12.out
    refine bodyPost_ret (v := .agg #[.int .i32 0, .int .u32 0, .int .u32 n]) (by simp [results, Tryf.results20, go_sem, b0, b1, b2]) rfl ?_
    exact ⟨_, vL, by rw [hlast], PSf, F12.out, hNew, Or.inl rfl⟩
theorem sym20 (c : PC) (l : List NM) (vS vL : Value) (nm : NM) (w : World) (h : PS c l vS vL w) (hi1 : w.cell? ⟨1, 0, none⟩ = some (.int .u32 4294967295) ∧ w.cell? ⟨1, 1, none⟩ = some (.int .u32 4294967295)) (h1b : 1 < c.base ∧ 1 ≠ c.pb ∧ 1 ≠ c.mb)
    (hnm : nm.length ≤ 1048576) (hlen : l.length < 1048576) :
    Calls Tryf.prog 20 #[.pointer (some ⟨c.pb, 0, none⟩), .agg #[.int .i32 0], .string (ba nm)] w fun e w' => SymR c l nm vS vL w e w' := by
  by_cases hm : nm ∈ l
  · exact sym_hit c l vS vL nm w h hnm hlen hm
  · cases hmm : c.m with
    | true => exact sym_missL c l vS vL nm w h hi1 h1b hnm hlen hm hmm
    | false => exact sym_missG c l vS vL nm w h hi1 h1b hnm hlen hm hmm
end Go.Proofs.YtgjoklbljmpkgaaFmt
