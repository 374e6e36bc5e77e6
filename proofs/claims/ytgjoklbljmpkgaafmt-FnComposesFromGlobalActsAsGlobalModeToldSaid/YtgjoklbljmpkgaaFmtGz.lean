/-
  The second law, walked. Conditions: each theorem's own.
-/
import Derived.Test.YtgjoklbljmpkgaaFmtGt
import Derived.Test.YtgjoklbljmpkgaaFmtGx
import Derived.Test.YtgjoklbljmpkgaaFmtGy
import Derived.Test.YtgjoklbljmpkgaaFmtGp
import Derived.BigQuiet
namespace Go.Proofs.YtgjoklbljmpkgaaFmt
open Go.RowKit Go.Lib Go.ChangeMaps
structure F2 (f1 f2 : NM) (w : World) (v : Value) (wx : World) : Prop where
  ex : ∃ b : Bool, v = .bool b ∧ Below w.heap.size w wx ∧ (b = false → Fit (ba f1) tFrom ∧ Fit (ba f2) tGlobal)
structure WR (l : List NM) (w9 : World) (v : Value) (wx : World) : Prop where
  bel : Below w9.heap.size w9 wx
  ex : ∃ q c xs, v = .slice (some ⟨q, 0, none⟩) l.length c ∧ wx.ownsRow w9.heap.size 9 1 v l.length xs ∧ ∀ j (h : j < l.length), xs[j]? = some (.string (ba l[j]))
structure WRI (ws : List NM) (w9 : World) (gk : Nat) (v11 v12 : Value) (wx : World) : Prop where
  ex : ∃ i : Nat, i + gk = ws.length ∧ v12 = .int .i64 i ∧ WR (ws.take i) w9 v11 wx
theorem mkWR (w : World) (n : Nat) (hn : n ≤ 5000) : WR [] w (.slice (some ⟨w.heap.size, 0, none⟩) 0 n) (w.alloc (mkO (.string ⟨#[]⟩) n 9)) := by
  have o := World.ownsRow_made (e := 9) (size := 1) w (madeCells (Value.string ⟨#[]⟩).cells n) n (Nat.le_refl _) (by unfold maxLen; omega) (by rw [size_madeCells, Nat.mul_one])
  exact ⟨(Below.refl _ _).alloc (Nat.le_refl _) _, w.heap.size, n, [], rfl, o, fun j hj => by simp at hj⟩
theorem WR.step {l : List NM} {w9 wx : World} {q c0 : Nat} (x : NM) (hl : l.length ≤ 5000) (h : WR l w9 (.slice (some ⟨q, 0, none⟩) l.length c0) wx) :
    ∃ g c w', (Builtin.append_ #[22, 22] 22 #[.slice (some ⟨q, 0, none⟩) l.length c0, .slice (some ⟨wx.heap.size, 0, none⟩) 1 1]).run Tryf.prog (wx.alloc (.cells #[.string (ba x)] 9)) = .ok (.slice (some ⟨g, 0, none⟩) (l.length + 1) c) w' ∧ WR (l ++ [x]) w9 (.slice (some ⟨g, 0, none⟩) (l.length + 1) c) w' := by
  obtain ⟨q', c', xs, e, ho, hx⟩ := h.ex
  have hb := h.bel
  have hsz := hb.size
  have hxl := ho.1
  obtain ⟨g, c, w', a1, o1, r1, t1⟩ := appN (w := wx) w9.heap.size 22 9 _ 1 16 [.string (ba x)] xs _ _ Tryf.underlying22 info9 rfl (by decide) (by decide) ho rfl (by intro u hu; simp at hu; rcases hu with rfl; rfl) (by omega) (by omega)
  have s1 : wx.heap.size + 1 ≤ w'.heap.size := by have := r1.size; simp at this; omega
  have hlt := ho.lt
  refine ⟨g, c, w', a1, ⟨r1.os.trans hb.os, r1.tape.trans hb.tape, r1.output.trans hb.output, by omega, fun k hk => ?_⟩, g, c, xs ++ [.string (ba x)], ?_, ?_, ?_⟩
  · rw [r1.block k (by simp; omega) (fun e => by have := (hlt k e.symm).1; omega), (World.grownBy_alloc wx _ none).block k (by omega) (by simp)]
    exact hb.block k hk
  · rw [List.length_append]; rfl
  · rw [List.length_append]; exact o1
  · intro j hj
    by_cases e : j < l.length
    · rw [List.getElem?_append_left (by omega), List.getElem_append_left e]
      exact hx j e
    · have e2 : j = l.length := by simp at hj; omega
      subst e2
      rw [List.getElem?_append_right (by omega), hxl]
      simp
theorem WR.shape {l : List NM} {w9 : World} {v : Value} {wx : World} (h : WR l w9 v wx) : ∃ q c, v = .slice (some ⟨q, 0, none⟩) l.length c := by
  obtain ⟨q, c, xs, e, _⟩ := h.ex
  exact ⟨q, c, e⟩
theorem WR.words {l : List NM} {w9 : World} {q c : Nat} {n : Nat} {wx : World} (h : WR l w9 (.slice (some ⟨q, 0, none⟩) n c) wx) : WordsAt (some ⟨q, 0, none⟩) l wx := by
  obtain ⟨q', c', xs, e, ho, hx⟩ := h.ex
  cases e
  have hlt := ho.lt q rfl
  exact ⟨fun i hi => ⟨q, 0, rfl, hlt.2, by rw [Nat.zero_add, ho.cellAt _ (by omega)]; exact hx i hi⟩⟩
abbrev resZ (pc D P S1 S2 S3 : Nat) (g : Bool) : Array Value := #[.slice (some ⟨P, 0, none⟩) pc pc, .slice (some ⟨S1, 0, none⟩) D D, .slice (some ⟨S2, 0, none⟩) D D, .slice (some ⟨S3, 0, none⟩) D D, .int .i64 0, .bool g]
theorem ZR.zc0 {pc : Nat} {ns : List NM} {ml : Bool} {w : World} {e : Ending} {w' : World} (h : ZR pc ns false ml w e w') : ∃ P S1 S2 S3 : Nat, e = .returned (.agg (resZ pc (dist (flat pc ns)).length P S1 S2 S3 ml)) ∧ ZC pc ns false P S1 S2 S3 w' := by
  obtain ⟨_, P, S1, S2, S3, e1, l1, l2, l3, l4, hr, hs⟩ := h
  exact ⟨P, S1, S2, S3, e1, ⟨l1, l2, l3, l4⟩, hr, hs⟩
theorem same0 (pc : Nat) (ws : List NM) (g g' : Bool) (P S1 S2 S3 P' S1' S2' S3' : Nat) (w : World) (hpc : pc ≤ 255) (hn : ws.length ≤ 4096) (h : ZC pc ws false P S1 S2 S3 w) (h' : ZC pc ws false P' S1' S2' S3' w) :
    Calls Tryf.prog 11 #[.agg (resZ pc (dist (flat pc ws)).length P S1 S2 S3 g), .agg (resZ pc (dist (flat pc ws)).length P' S1' S2' S3' g')] w fun e w' => e = .returned (.bool true) ∧ Below w.heap.size w w' :=
  same11 pc ws false 0 g g' P S1 S2 S3 P' S1' S2' S3' w hpc hn h h'
structure BX (M : Nat) (cs : Array Value) (w wx : World) : Prop where
  bel : Below w.heap.size w wx
  sz : wx.heap.size = w.heap.size + 1
  e : M = w.heap.size
  c : wx.heap[M]? = some (.cells cs 31)
theorem mkBX (w : World) (cs : Array Value) : BX w.heap.size cs w (w.alloc (.cells cs 31)) := ⟨(Below.refl _ _).alloc (Nat.le_refl _) _, by simp, rfl, (MapKept.heap_alloc w _).1⟩
def lFrom : NM := [102, 114, 111, 109]
def lGlobal : NM := [103, 108, 111, 98, 97, 108]
theorem words2 (ws : List NM) (f1 f2 : NM) (h1 : Fit (ba f1) tFrom) (h2 : Fit (ba f2) tGlobal) (hs1 : f1.length ≤ 1048576) (hs2 : f2.length ≤ 1048576) (hno : ∀ i (h : i < ws.length), i + 2 = (ws ++ [f1] ++ [f2]).length → ¬ Fit (ba ws[i]) tFrom) : Words (ws ++ [f1] ++ [f2]) ws true := by
  have e1 : (ws ++ [f1] ++ [f2]).length = ws.length + 2 := by simp
  have g1 : ∀ (h : ws.length < (ws ++ [f1] ++ [f2]).length), (ws ++ [f1] ++ [f2])[ws.length] = f1 := fun h => by
    rw [List.getElem_append_left (by simp), List.getElem_append_right (by omega)]
    simp
  have g2 : ∀ (h : ws.length + 1 < (ws ++ [f1] ++ [f2]).length), (ws ++ [f1] ++ [f2])[ws.length + 1] = f2 := fun h => by
    rw [List.getElem_append_right (by simp)]
    simp
  refine ⟨by omega, fun i hi => ?_, hno, Or.inr ⟨e1, rfl, fun h w => ?_, fun h w => ?_⟩⟩
  · rw [List.getElem_append_left (by simp; omega), List.getElem_append_left hi]
  · rw [g1 h]
    exact efYes f1 lFrom h1 (by unfold Good lFrom; decide) hs1 w
  · rw [g2 h]
    exact efYes f2 lGlobal h2 (by unfold Good lGlobal; decide) hs2 w
theorem noFin (ws : List NM) (f1 f2 : NM) : ∀ i (h : i < ws.length), i + 2 = (ws ++ [f1] ++ [f2]).length → ¬ Fit (ba ws[i]) tFrom := fun i h e => by
  simp at e
  omega
theorem len2 (ws : List NM) (f1 f2 : NM) : (ws ++ [f1] ++ [f2]).length = ws.length + 1 + 1 := by simp
theorem all2 (ws : List NM) (f1 f2 : NM) (h : ∀ x ∈ ws, x.length ≤ 1048576) (h1 : f1.length ≤ 1048576) (h2 : f2.length ≤ 1048576) : ∀ x ∈ ws ++ [f1] ++ [f2], x.length ≤ 1048576 := by
  intro x hx
  rw [List.mem_append, List.mem_append, List.mem_singleton, List.mem_singleton] at hx
  rcases hx with (hx | rfl) | rfl
  · exact h x hx
  · exact h1
  · exact h2
set_option maxHeartbeats 80000000 in
set_option maxRecDepth 100000 in
theorem walk4 (sa : Option Addr) (n cap pc : Nat) (f1 f2 : NM) (g : Bool) (ws : List NM) (w : World) (hN : NamesAt sa n ws w) (hn : n ≤ maxLen) (hcap : sa = none → cap = 0) (hf1 : f1.length ≤ maxLen) (hf2 : f2.length ≤ maxLen) (hpc : pc ≤ 255) (hT : Tabs w) (h7 : 7 ≤ w.heap.size) :
    Calls Tryf.prog 4 #[.slice sa n cap, .string (ba f1), .string (ba f2), .int .u8 pc, .bool g] w fun e w' => e = .returned (.bool true) ∧ Below w.heap.size w w' := by
  obtain rfl := hN.len.symm
  have HN := hid hN
  have HT := hid hT
  have C10 := hid (zz10 sa ws.length cap ws (ba f1) (ba f2) pc g w hN hn (by rw [ba_size]; exact hf1) (by rw [ba_size]; exact hf2))
  clear hN hT
  go_enter Tryf.func4, Tryf.ntmps4
  go_wp2_with fail
  refine C10.out.mono ?_
  rintro e w1 ⟨⟨b, rfl, hb5⟩, hw⟩
  obtain rfl := hw.symm
  cases b with
  | false =>
    go_wp2_with fail
    go_ret
    exact ⟨rfl, Below.refl _ _⟩
  | true =>
    obtain ⟨hS, hs1, hs2⟩ := hb5 rfl
    rw [ba_size] at hs1 hs2
    have HS := hid hS
    have HS1 := hid hs1
    have HS2 := hid hs2
    clear hb5 C10 hS hf1 hf2 hs1 hs2
    by_cases h4 : (4096 : Int) < ws.length
    · go_wp2_with fail
      go_ret
      exact ⟨rfl, Below.refl _ _⟩
    · have C6 := hid (zz6 sa ws.length cap ws w HN.out (by omega) HS.out)
      go_wp2_with fail
      refine C6.out.mono ?_
      rintro e w1 ⟨⟨k, rfl⟩, hw⟩
      obtain rfl := hw.symm
      obtain ⟨K1, hK1⟩ : ∃ K, IntKind.i64.wrap (k + ((ba f1).size : Int)) = K := ⟨_, rfl⟩
      obtain ⟨K, hK⟩ : ∃ K, IntKind.i64.wrap (K1 + ((ba f2).size : Int)) = K := ⟨_, rfl⟩
      by_cases h6 : (1048576 : Int) < K
      · go_wp2_with fail
        go_ret
        exact ⟨rfl, Below.refl _ _⟩
      · go_upto_region 7 with fail
        clear C6 hK1 hK h6
        go_cut [41] (fun v41 wx => F2 f1 f2 w v41 wx)
        case first =>
          rename_i J KK hJ hKK
          have C7 := hid (fold7 (ba f1) tFrom w (by decide) good_from)
          go_wp2_with fail
          refine C7.out.mono ?_
          rintro e w1 ⟨⟨b, rfl, hb⟩, hbel⟩
          clear C7
          cases b with
          | false =>
            go_wp2_with fail
            refine Met.intro (hJ _ _ ?_)
            repeat apply Exists.intro
            exact ⟨⟨true, rfl, hbel, fun h => by cases h⟩, rfl⟩
          | true =>
            have HF1 := hid (hb.1 rfl)
            have C7 := hid (fold7 (ba f2) tGlobal w1 (by decide) good_global)
            clear hb
            have HB1 := hid hbel
            clear hbel
            go_wp2_with fail
            refine C7.out.mono ?_
            rintro e w2 ⟨⟨b, rfl, hb⟩, hbel⟩
            have hbb := HB1.out.trans (hbel.mono HB1.out.size)
            clear C7
            cases b with
            | false =>
              go_wp2_with fail
              refine Met.intro (hJ _ _ ?_)
              repeat apply Exists.intro
              exact ⟨⟨true, rfl, hbb, fun h => by cases h⟩, rfl⟩
            | true =>
              have HFB := hid (hb.1 rfl)
              clear hb
              go_wp2_with fail
              refine Met.intro (hJ _ _ ?_)
              repeat apply Exists.intro
              exact ⟨⟨false, rfl, hbb, fun _ => ⟨HF1.out, HFB.out⟩⟩, rfl⟩
        case rest =>
          obtain ⟨b, rfl, hbel, hfit⟩ := hcut.ex
          clear hcut
          cases b with
          | true =>
            go_wp2_with fail
            go_ret
            exact ⟨rfl, hbel⟩
          | false =>
            have HW2 := hid (words2 ws f1 f2 (hfit rfl).1 (hfit rfl).2 HS1.out HS2.out (noFin ws f1 f2))
            have HN1 := hid (HN.out.below' hbel)
            have HBE := hid hbel
            clear hfit hbel HN
            go_upto_region 9 with fail
            go_cut [53] (fun v53 wx => FR ws wc v53 wx)
            case first =>
              rename_i J KK hJ hKK
              by_cases h2 : (2 : Int) ≤ ws.length
              · obtain ⟨gx, o, rfl, hgl, hgc⟩ := HN1.out.cell (ws.length - 2) (by omega)
                have C7 := hid (fold7 (ba ws[ws.length - 2]) tFrom wc (by decide) good_from)
                have hw2 : IntKind.i64.wrap ((ws.length : Int) - 2) = ((ws.length - 2 : Nat) : Int) := by rw [IntKind.wrap_i64]; unfold maxLen at hn; omega
                have hix : ws.length - 2 < ws.length := by omega
                go_wp2_with fail
                refine C7.out.mono ?_
                rintro e w1 ⟨⟨b, rfl, hb⟩, hbel⟩
                go_wp2_with fail
                refine Met.intro (hJ _ _ ?_)
                repeat apply Exists.intro
                refine ⟨⟨b, rfl, hbel, fun hbf i hi hi2 hF => ?_⟩, rfl⟩
                obtain rfl : i = ws.length - 2 := by omega
                rw [hb.2 hF] at hbf
                cases hbf
              · go_wp2_with fail
                refine Met.intro (hJ _ _ ?_)
                repeat apply Exists.intro
                exact ⟨⟨false, rfl, Below.refl _ _, fun _ i hi hi2 => by omega⟩, rfl⟩
            case rest =>
              obtain ⟨b, rfl, hbel, hno⟩ := hcut.ex
              clear hcut
              cases b with
              | true =>
                have hb := HBE.out.trans (hbel.mono HBE.out.size)
                go_wp2_with fail
                go_ret
                exact ⟨rfl, hb⟩
              | false =>
                have HNO := hid (hno rfl)
                have HB2 := hid (HBE.out.trans (hbel.mono HBE.out.size))
                have C8 := hid (copy8 sa ws.length cap ws wc (HN1.out.below' hbel) (by omega) hcap)
                clear hno hbel HBE HN1
                go_wp2_with fail
                refine C8.out.mono ?_
                rintro e w2 ⟨sb, cb, rfl, hN3, hb3⟩
                have HN3 := hid hN3
                have HB3 := hid (HB2.out.trans (hb3.mono HB2.out.size))
                clear hN3 hb3 HB2 C8
                have hw2 : IntKind.i64.wrap ((ws.length : Int) + 2) = ((ws.length + 2 : Nat) : Int) := by rw [IntKind.wrap_i64]; omega
                have m22 : ∀ w0 : World, (Instr.makeSlice 22 (.int .i64 0) (.int .i64 ((ws.length : Int) + 2))).run Tryf.prog w0 = .ok (.slice (some ⟨w0.heap.size, 0, none⟩) 0 (ws.length + 2)) (w0.alloc (mkO (.string ⟨#[]⟩) (ws.length + 2) 9)) := fun w0 => by
                  have q := mkS0 22 9 _ 1 16 Tryf.underlying22 info9 (by decide) (ws.length + 2) (by omega) w0
                  rw [Nat.mul_one, Int.natCast_add] at q
                  exact q
                go_upto_block 0 with fail
                have HW0 := hid (mkWR w2 (ws.length + 2) (by omega))
                clear m22 hw2
                generalize w2.alloc (mkO (.string ⟨#[]⟩) (ws.length + 2) 9) = w4 at *
                go_cut [11] (fun v11 wx => WR ws w2 v11 wx)
                case first =>
                  rename_i J KK hJ hKK
                  go_wp2_with fail
                  go_loopg [11, 12] ws.length (fun g v11 v12 wx => WRI ws w2 g v11 v12 wx)
                  case atStart => exact ⟨0, by omega, by first | rfl | simp, by simpa using HW0.out⟩
                  case round =>
                    clear HW0
                    obtain ⟨i, hig, rfl, hD⟩ := hrel.ex
                    clear hrel
                    cases gk with
                    | zero =>
                      obtain rfl : i = ws.length := by omega
                      have hcmp : ¬ ((ws.length : Int) < (ws.length : Int)) := by omega
                      rw [List.take_length] at hD
                      have HD := hid hD
                      clear hD
                      go_wp2_with fail
                      refine Met.intro (hJ _ _ ?_)
                      repeat apply Exists.intro
                      exact ⟨HD.out, rfl⟩
                    | succ gi =>
                      have hi : i < ws.length := by omega
                      have hcmp : (i : Int) < (ws.length : Int) := by omega
                      have ht : (ws.take i).length = i := by rw [List.length_take]; omega
                      obtain ⟨q, c, rfl⟩ := hD.shape
                      obtain ⟨g1, c1, w5, a1, hS⟩ := hD.step ws[i] (by omega)
                      rw [← List.take_succ_eq_append_getElem hi] at hS
                      rw [ht] at a1 hS
                      obtain ⟨gn, o, rfl, hgl, hgc⟩ := HN3.out.cell i hi
                      have q0 : wr.cell? ⟨gn, o + i, none⟩ = some (.string (ba ws[i])) := (cellLow (hD.bel.block gn hgl) _).trans hgc
                      have hgs : gn < wr.heap.size := Nat.lt_of_lt_of_le hgl hD.bel.size
                      have hw1 : IntKind.i64.wrap ((i : Int) + 1) = ((i + 1 : Nat) : Int) := by rw [IntKind.wrap_i64]; omega
                      have A1 := hid a1
                      have HS5 := hid hS
                      rw [ht]
                      clear a1 hS hD ht hgl hgc
                      go_wp2_with (at_builtin; go_loud (refine list_run rfl _ _ 22 rfl (.slice (some ⟨q, 0, none⟩) i c) (.slice (some ⟨wr.heap.size, 0, none⟩) 1 1) _ w5 rfl rfl A1.out ?_))
                      go_roundg gi
                      case measure => omega
                      case rel => exact ⟨i + 1, by omega, by simp, HS5.out⟩
                case rest =>
                  clear HW0
                  obtain ⟨q, c, rfl⟩ := hcut.shape
                  obtain ⟨g1, c1, w5, a1, hS1⟩ := hcut.step f1 (by omega)
                  have e1 : (ws ++ [f1]).length = ws.length + 1 := by simp
                  have hS1' : WR (ws ++ [f1]) w2 (.slice (some ⟨g1, 0, none⟩) (ws ++ [f1]).length c1) w5 := by rw [e1]; exact hS1
                  obtain ⟨g2, c2, w6, a2, hS2⟩ := hS1'.step f2 (by omega)
                  rw [e1] at a2 hS2
                  have A1 := hid a1
                  have A2 := hid a2
                  have HB6 := hid (HB3.out.trans (hS2.bel.mono HB3.out.size))
                  have HN6 := hid (HN3.out.below' hS2.bel)
                  have C9 := zz9 H13_of (some ⟨g2, 0, none⟩) c2 pc g true (ws ++ [f1] ++ [f2]) ws w6 hpc hS2.words (by rw [len2]; omega) HW2.out (all2 ws f1 f2 HS.out HS1.out HS2.out) (by omega) (HT.out.below HB6.out) (by have := HB6.out.size; omega)
                  rw [len2, show (g && !true) = false from by cases g <;> rfl] at C9
                  have C9 := hid C9
                  have hcv : IntKind.i64.wrap (pc : Int) = pc := by rw [IntKind.wrap_i64]; omega
                  clear hcut a1 hS1 e1 hS1' a2 hS2 HB3 HN3 HW2
                  go_wp2_with (at_builtin; go_loud (first | refine list_run rfl _ _ 22 rfl (.slice (some ⟨q, 0, none⟩) ws.length c) (.slice (some ⟨wc.heap.size, 0, none⟩) 1 1) _ w5 rfl rfl A1.out ?_ | refine list_run rfl _ _ 22 rfl (.slice (some ⟨g1, 0, none⟩) (ws.length + 1) c1) (.slice (some ⟨w5.heap.size, 0, none⟩) 1 1) _ w6 rfl rfl A2.out ?_))
                  refine C9.out.mono ?_
                  rintro e w7 hZ
                  obtain ⟨P, S1, S2, S3, rfl, hzc⟩ := hZ.zc0
                  have hb7 := hZ.bel
                  clear hZ C9 A1 A2
                  have HB7 := hid (HB6.out.trans (hb7.mono HB6.out.size))
                  have HN7 := hid (HN6.out.below' hb7)
                  have HZ7 := hid hzc
                  clear hb7 hzc HB6 HN6
                  go_upto_region 20 with fail
                  have hbx := mkBX w7 (resZ pc (dist (flat pc ws)).length P S1 S2 S3 g)
                  generalize w7.alloc (.cells (resZ pc (dist (flat pc ws)).length P S1 S2 S3 g) 31) = w8 at *
                  have HBX := hid hbx
                  have HB8 := hid (HB7.out.trans (hbx.bel.mono HB7.out.size))
                  have HN8 := hid (HN7.out.below' hbx.bel)
                  have HZ8 := hid (HZ7.out.below hbx.bel)
                  have hMs : w7.heap.size < w8.heap.size := by have := hbx.sz; omega
                  clear hbx HB7 HN7 HZ7
                  generalize hM : w7.heap.size = M at *
                  have HM := hid hM
                  clear hM
                  have C9 := zz9 H13_of sb cb pc false false ws ws w8 hpc HN8.out.words (by omega) ⟨Nat.le_refl _, fun i h => rfl, HNO.out, Or.inl ⟨rfl, rfl⟩⟩ HS.out (by omega) (HT.out.below HB8.out) (by have := HB8.out.size; omega)
                  rw [show (false && !false) = false from rfl] at C9
                  have C9 := hid C9
                  clear HN8 HNO
                  go_wp2_with fail
                  refine C9.out.mono ?_
                  rintro e w9 hZ
                  obtain ⟨P', S1', S2', S3', rfl, hzc⟩ := hZ.zc0
                  have hb9 := hZ.bel
                  clear hZ C9
                  have HB9 := hid (HB8.out.trans (hb9.mono HB8.out.size))
                  have HZa := hid (HZ8.out.below hb9)
                  have HZb := hid hzc
                  have HC1 := hid (show w9.heap[M]? = some (.cells (resZ pc (dist (flat pc ws)).length P S1 S2 S3 g) 31) from (hb9.block M hMs).trans HBX.out.c)
                  have hM9 : M < w9.heap.size := Nat.lt_of_lt_of_le hMs hb9.size
                  clear hb9 hzc HB8 HZ8 HBX HM hMs
                  go_upto_region 21 with fail
                  have hbx := mkBX w9 (resZ pc (dist (flat pc ws)).length P' S1' S2' S3' false)
                  generalize w9.alloc (.cells (resZ pc (dist (flat pc ws)).length P' S1' S2' S3' false) 31) = wz at *
                  have HBz := hid (HB9.out.trans (hbx.bel.mono HB9.out.size))
                  have C11 := hid (same0 pc ws g false P S1 S2 S3 P' S1' S2' S3' wz hpc (by omega) (HZa.out.below hbx.bel) (HZb.out.below hbx.bel))
                  obtain ⟨a0, a1, a2, a3, a4, a5⟩ := sixR ((hbx.bel.block M hM9).trans HC1.out)
                  obtain ⟨b0, b1, b2, b3, b4, b5⟩ := sixR hbx.c
                  have hMz : M < wz.heap.size := by have := hbx.sz; omega
                  have hMz2 : w9.heap.size < wz.heap.size := by have := hbx.sz; omega
                  clear hbx HZa HZb HC1 HB9 hM9
                  generalize w9.heap.size = M2 at *
                  obtain ⟨D, hD⟩ : ∃ D, (dist (flat pc ws)).length = D := ⟨_, rfl⟩
                  rw [hD] at a1 a2 a3 b1 b2 b3 C11
                  clear hD
                  go_wp2_with fail
                  refine C11.out.mono ?_
                  rintro e w' ⟨rfl, hb⟩
                  have hbb := HBz.out.trans (hb.mono HBz.out.size)
                  go_wp2_with fail
                  go_ret
                  exact ⟨rfl, hbb⟩
end Go.Proofs.YtgjoklbljmpkgaaFmt
