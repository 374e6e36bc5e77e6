/-
  The model of what is kept, walked. Conditions: each theorem's own.
-/
import Derived.Test.YtphimfimnakclaaRk
namespace Go.Proofs.Ytphimfimnakclaa
open Go.RowKit Go.Lib Go.ChangeMaps
open Go.Maps (Keyed IsMap)
/-- a row of keys -/
def KyT : Elt (List Int) 1 where
  E w P c m := ∃ s, c 0 = some s ∧ RowL IntT w P s m
  keep := by
    rintro w w' P P' h c m ⟨s, e1, hr⟩
    exact ⟨s, e1, hr.keep h⟩
  loc := by
    rintro w P c c' m h ⟨s, e0, hr⟩
    exact ⟨s, by rw [← h 0 (by omega)]; exact e0, hr⟩
/-- a row of truth values -/
def BlT : Elt Bool 1 where
  E _ _ c m := c 0 = some (.bool m)
  keep := by
    rintro w w' P P' h c m e
    exact e
  loc := by
    rintro w P c c' m h e
    exact (h 0 (by omega)).symm.trans e
abbrev TT : Nat → Prop := fun _ => True
theorem RowL.cellB {w : World} {P : Nat → Prop} {a : Option Addr} {n c : Nat} {ms : List Bool} (h : RowL BlT w P (.slice a n c) ms) {i : Nat} (hi : i < ms.length) : ∃ g, a = some ⟨g, 0, none⟩ ∧ g < w.heap.size ∧ w.cell? ⟨g, i, none⟩ = some (.bool ms[i]) := by
  obtain ⟨g, ha, _, hg, hE⟩ := h.at'.2 i hi
  refine ⟨g, ha, hg, ?_⟩
  have : w.cell? ⟨g, i * 1 + 0, none⟩ = some (.bool ms[i]) := hE
  simpa using this
theorem RowL.cellK {w : World} {P : Nat → Prop} {a : Option Addr} {n c : Nat} {ms : List (List Int)} (h : RowL KyT w P (.slice a n c) ms) {i : Nat} (hi : i < ms.length) : ∃ g sa sl sc, a = some ⟨g, 0, none⟩ ∧ g < w.heap.size ∧ w.cell? ⟨g, i, none⟩ = some (.slice sa sl sc) ∧ RowL IntT w P (.slice sa sl sc) ms[i] := by
  obtain ⟨g, ha, _, hg, s, hs, hr⟩ := h.at'.2 i hi
  have hs' : w.cell? ⟨g, i * 1 + 0, none⟩ = some s := hs
  obtain ⟨sa, sc, rfl, _⟩ := id hr
  exact ⟨g, sa, _, sc, ha, hg, by simpa using hs', hr⟩
theorem kept_len (seen : List (List Int)) : ∀ (l : List KD) (k : Nat), (keptR seen k l).length ≤ l.length
  | [], k => Nat.le_refl _
  | p :: l, k => by
    unfold keptR
    have ih := kept_len seen l (k + 1)
    split
    · simp; exact ih
    · simp; omega
theorem BO.lit0 (w : World) : BO IntT 3 w.heap.size (.slice (some ⟨w.heap.size, 0, none⟩) 0 0) [] (w.alloc (.cells #[] 3)) := by
  have o := World.ownsRow_lit (e := 3) (size := 1) w #[] 0 (Nat.le_refl _) (by unfold maxLen; omega) (by simp)
  exact ⟨by simp, _, o, fun i hi => by simp at hi⟩
structure Kp12 (res : List Int) (w : World) (e : Ending) (w' : World) : Prop where
  ex : ∃ a c, e = .returned (.slice a res.length c) ∧ RowL IntT w' (fun g => w.heap.size ≤ g) (.slice a res.length c) res ∧ Below w.heap.size w w'
structure K1 (w : World) (seen : List (List Int)) (l : List KD) (n : Nat) (g : Nat) (v7 v8 : Value) (wx : World) : Prop where
  ex : ∃ (r : Nat) (ms : List Int), r + g = n ∧ v8 = .int .i64 (r : Nat) ∧ BO IntT 3 w.heap.size v7 ms wx ∧ ms.length ≤ r ∧ ms ++ keptR seen r (l.drop r) = keptR seen 0 l ∧ Below w.heap.size w wx
/-- a live equal behind -/
def Dup (l : List KD) (key : List Int) (j : Nat) : Prop := ∃ h : j < l.length, l[j].2 = false ∧ l[j].1 = key
structure K2 (w : World) (l : List KD) (key : List Int) (r n : Nat) (v7 : Value) (ms : List Int) (g : Nat) (v9 v10 : Value) (wx : World) : Prop where
  ex : ∃ (q : Nat) (dup : Bool), v10 = .int .i64 (q : Nat) ∧ v9 = .bool dup ∧ g = (if dup then 0 else n - q) ∧ r < q ∧ q ≤ n ∧ (dup = true → ∃ j, r < j ∧ Dup l key j) ∧ (dup = false → ∀ j, r < j → j < q → ¬ Dup l key j) ∧ BO IntT 3 w.heap.size v7 ms wx ∧ Below w.heap.size w wx
structure K3 (w : World) (H2 : Prop) (seen : List (List Int)) (key : List Int) (ns : Nat) (v7 : Value) (ms : List Int) (g : Nat) (v9 v11 : Value) (wx : World) : Prop where
  ex : ∃ (q : Nat) (dup : Bool), v11 = .int .i64 (q : Nat) ∧ v9 = .bool dup ∧ g = (if dup then 0 else ns - q) ∧ q ≤ ns ∧ (dup = true → H2 ∨ key ∈ seen) ∧ (dup = false → ¬ H2 ∧ ∀ j, j < q → seen.getD j [] ≠ key) ∧ BO IntT 3 w.heap.size v7 ms wx ∧ Below w.heap.size w wx
theorem dup_iff (l : List KD) (key : List Int) (r : Nat) : (∃ q ∈ l.drop (r + 1), q.2 = false ∧ q.1 = key) ↔ ∃ j, r < j ∧ Dup l key j := by
  constructor
  · rintro ⟨q, hq, h1, h2⟩
    obtain ⟨i, hi, rfl⟩ := List.getElem_of_mem hq
    rw [List.getElem_drop] at h1 h2
    exact ⟨r + 1 + i, by omega, by simp at hi; omega, h1, h2⟩
  · rintro ⟨j, hj, hl, h1, h2⟩
    refine ⟨l[j], ?_, h1, h2⟩
    rw [List.mem_iff_getElem]
    refine ⟨j - (r + 1), by simp; omega, ?_⟩
    rw [List.getElem_drop]
    congr 1
    omega
theorem kept_yes {seen : List (List Int)} {l : List KD} {r : Nat} {key : List Int} (h : r < l.length) (hl : l[r] = (key, false)) (h1 : ¬ ∃ j, r < j ∧ Dup l key j) (h2 : ¬ key ∈ seen) : keptR seen r (l.drop r) = (r : Int) :: keptR seen (r + 1) (l.drop (r + 1)) := by
  rw [List.drop_eq_getElem_cons h, hl]
  show (if _ then _ else _) = _
  rw [if_pos]
  exact ⟨rfl, fun h => h1 ((dup_iff l key r).1 h), h2⟩
theorem kept_no {seen : List (List Int)} {l : List KD} {r : Nat} {key : List Int} {dd : Bool} (h : r < l.length) (hl : l[r] = (key, dd)) (h1 : dd = true ∨ (∃ j, r < j ∧ Dup l key j) ∨ key ∈ seen) : keptR seen r (l.drop r) = keptR seen (r + 1) (l.drop (r + 1)) := by
  rw [List.drop_eq_getElem_cons h, hl]
  show (if _ then _ else _) = _
  rw [if_neg]
  rintro ⟨c1, c2, c3⟩
  rcases h1 with h | h | h
  · rw [h] at c1; cases c1
  · exact c2 ((dup_iff l key r).2 h)
  · exact c3 h
set_option maxHeartbeats 64000000 in
set_option maxRecDepth 100000 in
theorem kp12 (a1 a2 a3 : Option Addr) (n c1 c2 ns c3 : Nat) (ks : List (List Int)) (ds : List Bool) (seen : List (List Int)) (w : World) (hn : n ≤ 4096) (hns : ns ≤ 4096) (h1 : n = ks.length) (h2 : n = ds.length) (h3 : ns = seen.length) (hk : ∀ k ∈ ks, k.length ≤ 1000000)
    (r1 : RowL KyT w TT (.slice a1 n c1) ks) (r2 : RowL BlT w TT (.slice a2 n c2) ds) (r3 : RowL KyT w TT (.slice a3 ns c3) seen) :
    Calls Try.prog 12 #[.slice a1 n c1, .slice a2 n c2, .slice a3 ns c3] w fun e w' => Kp12 (keptR seen 0 (ks.zip ds)) w e w' := by
  obtain ⟨l, hl⟩ : ∃ l, l = ks.zip ds := ⟨_, rfl⟩
  have hll : l.length = n := by rw [hl, List.length_zip]; omega
  have hlg : ∀ (j : Nat) (hj : j < l.length) (hj1 : j < ks.length) (hj2 : j < ds.length), l[j] = (ks[j], ds[j]) := fun j hj hj1 hj2 => by
    subst hl
    exact List.getElem_zip
  rw [← hl]
  have HR1 := hid r1
  have HR2 := hid r2
  have HR3 := hid r3
  have HN := hid (And.intro h1 (And.intro h2 h3))
  have HLL := hid (And.intro hll hlg)
  have HKL := hid hk
  have hb0 : Below w.heap.size w (w.alloc (.cells #[] 3)) := (Below.refl _ _).alloc (Nat.le_refl _) _
  have HL1 := hid (show K1 w seen l n n (.slice (some ⟨w.heap.size, 0, none⟩) 0 0) (.int .i64 0) (w.alloc (.cells #[] 3)) from ⟨0, [], by simp, rfl, BO.lit0 w, Nat.le_refl _, rfl, hb0⟩)
  clear r1 r2 r3 h1 h2 h3 hll hlg hl hk hb0
  go_enter Try.func12, Try.ntmps12
  go_wp2_with fail
  go_loopg [7, 8] n (fun g v7 v8 wx => K1 w seen l n g v7 v8 wx)
  case atStart => exact HL1.out
  case round =>
    obtain ⟨r, ms, hrg, rfl, hbo, hml, hst, hbl⟩ := hrel.ex
    clear hrel HL1
    cases gk with
    | zero =>
      have hr : r = n := by omega
      have hcd : ¬ ((r : Int) < (n : Int)) := by omega
      obtain ⟨va, vc, rfl, hvl⟩ := hbo.shape
      have hres : ms = keptR seen 0 l := by
        rw [hr, ← HLL.out.1, List.drop_length] at hst
        simpa [keptR] using hst
      have hrow : RowL IntT wr (fun g => w.heap.size ≤ g) (.slice va ms.length vc) ms := (hbo.doneI (Nat.le_refl _)).keep (Keep.weak wr (fun _ h _ => h.1))
      have HF := hid (And.intro hres (And.intro hrow hbl))
      clear hbo hst hbl hres hrow hr
      go_wp2_with fail
      go_ret
      refine ⟨va, vc, ?_, ?_, HF.out.2.2⟩
      · rw [← HF.out.1]; rfl
      · rw [← HF.out.1]; exact HF.out.2.1
    | succ g =>
      have hrn : r < n := by omega
      have hcd : (r : Int) < (n : Int) := by omega
      have hrk : r < ks.length := by rw [← HN.out.1]; exact hrn
      have hrd : r < ds.length := by rw [← HN.out.2.1]; exact hrn
      have hrl : r < l.length := by rw [HLL.out.1]; exact hrn
      obtain ⟨bd, hbd, hbdl, hdc⟩ := HR2.out.cellB hrd
      obtain rfl := hbd.symm
      have hdc' := (cellLow (hbl.block _ hbdl) _).trans hdc
      have hlr := HLL.out.2 r hrl hrk hrd
      obtain ⟨va, vc, rfl, hvl⟩ := hbo.shape
      have hkeyl := HKL.out ks[r] (List.getElem_mem hrk)
      have hkr := (rfl : ks[r] = ks[r])
      generalize hkeq : ks[r] = key at *
      generalize ds[r] = dd at *
      have HKE := hid hkeq
      have HLK := hid hkeyl
      have HBO := hid (And.intro hbo hbl)
      have e9 : IntKind.i64.wrap ((r : Int) + 1) = ((r + 1 : Nat) : Int) := by rw [IntKind.wrap_i64]; omega
      clear hkr hkeyl hkeq hbo hbl hdc
      rcases Bool.eq_false_or_eq_true dd with rfl | rfl
      · rw [kept_no hrl hlr (Or.inl rfl)] at hst
        have HST := hid hst
        clear hst hlr
        go_wp2_with fail
        go_roundg g
        case measure => omega
        case rel => exact ⟨r + 1, ms, by omega, rfl, HBO.out.1, by omega, HST.out, HBO.out.2⟩
      · have HST := hid (And.intro hlr hst)
        have HL2 := hid (show K2 w l key r n (.slice va ms.length vc) ms (n - (r + 1)) (.bool false) (.int .i64 ((r + 1 : Nat) : Int)) wr from ⟨r + 1, false, rfl, rfl, by simp, by omega, by omega, (fun h => by cases h), fun _ j h1 h2 => by omega, HBO.out.1, HBO.out.2⟩)
        clear hst hlr
        go_wp2_with fail
        clear hdc'
        go_loopg [9, 10] (n - (r + 1)) (fun g2 v9 v10 wx => K2 w l key r n (.slice va ms.length vc) ms g2 v9 v10 wx)
        case atStart => exact HL2.out
        case round =>
          obtain ⟨q, dup, rfl, rfl, hgm, hrq, hqn', hdt, hdf, hbo, hbl⟩ := hrel.ex
          clear hrel HL2
          cases gk with
          | zero =>
            have HBO := hid (And.intro hbo hbl)
            have H2T : dup = true → (∃ j, r < j ∧ Dup l key j) ∨ key ∈ seen := fun h => Or.inl (hdt h)
            cases dup
            · have hqe : q = n := by simp at hgm; omega
              have H2F : false = false → ¬ (∃ j, r < j ∧ Dup l key j) ∧ ∀ j, j < 0 → seen.getD j [] ≠ key := fun _ => ⟨fun ⟨j, h1, h2⟩ => hdf rfl j h1 (by obtain ⟨hj, _⟩ := h2; have := HLL.out.1; omega) h2, fun j hj => by omega⟩
              have hcd2 : ¬ ((q : Int) < (n : Int)) := by omega
              clear hbo hbl hdt hdf hgm
              have HL3 := hid (show K3 w (∃ j, r < j ∧ Dup l key j) seen key ns (.slice va ms.length vc) ms (if false then 0 else ns - 0) (.bool false) (.int .i64 0) wr from ⟨0, false, rfl, rfl, rfl, by omega, H2T, H2F, HBO.out.1, HBO.out.2⟩)
              go_wp2_with fail
              go_loopg [9, 11] (if false then 0 else ns - 0) (fun g3 v9 v11 wx => K3 w (∃ j, r < j ∧ Dup l key j) seen key ns (.slice va ms.length vc) ms g3 v9 v11 wx)
              case atStart => exact HL3.out
              case round =>
                obtain ⟨q, dup, rfl, rfl, hgm, hqs, hdt, hdf, hbo, hbl⟩ := hrel.ex
                clear hrel HL3
                cases gk with
                | zero =>
                  have HBO3 := hid (And.intro hbo (And.intro hbl (And.intro hdt hdf)))
                  clear hbo hbl hdt hdf
                  cases dup
                  · have hqe : q = ns := by simp at hgm; omega
                    have hcd3 : ¬ ((q : Int) < (ns : Int)) := by omega
                    obtain ⟨gn, cn, w2, hap, hbo2, hgr, hat⟩ := HBO3.out.1.app 50 3 _ 8 [.int .i64 (r : Nat)] (r : Int) Try.underlying50 info3 rfl (by decide) (by decide) rfl (by intro u hu; simp at hu; rcases hu with rfl; rfl) rfl (by omega)
                    have HAP := hid hap
                    have hkeep : ms ++ [(r : Int)] ++ keptR seen (r + 1) (l.drop (r + 1)) = keptR seen 0 l := by
                      obtain ⟨c1, c2⟩ := HBO3.out.2.2.2 rfl
                      have hs := HST.out.2
                      rw [kept_yes hrl HST.out.1 c1 (fun hm => by
                        obtain ⟨j, hj, e⟩ := List.getElem_of_mem hm
                        have := c2 j (by rw [hqe, HN.out.2.2]; exact hj)
                        rw [List.getD_eq_getElem?_getD, List.getElem?_eq_getElem hj] at this
                        exact this e)] at hs
                      rw [← hs, List.append_assoc]
                      rfl
                    have hlow : Below w.heap.size w w2 := by
                      have h0 := HBO3.out.2.1.alloc HBO3.out.2.1.size (.cells #[.int .i64 (r : Nat)] 3)
                      refine h0.trans ⟨hgr.os, hgr.tape, hgr.output, hgr.size, fun k hk => hgr.block k (Nat.lt_of_lt_of_le hk h0.size) (fun e => ?_)⟩
                      have := (HBO3.out.1.ge k e.symm).1
                      omega
                    have HF := hid (And.intro hbo2 (And.intro hkeep hlow))
                    have e9 : IntKind.i64.wrap ((r : Int) + 1) = ((r + 1 : Nat) : Int) := by rw [IntKind.wrap_i64]; omega
                    clear hap hbo2 hgr hat hkeep hlow hgm
                    go_wp2_with (at_builtin; go_loud (refine list_run rfl _ _ 50 rfl (.slice va ms.length vc) (.slice (some ⟨wr.heap.size, 0, none⟩) 1 1) _ w2 rfl rfl HAP.out ?_))
                    go_roundg g
                    case measure => omega
                    case rel => exact ⟨r + 1, ms ++ [(r : Int)], by omega, rfl, HF.out.1, by simp; omega, HF.out.2.1, HF.out.2.2⟩
                  · have hkeep : ms ++ keptR seen (r + 1) (l.drop (r + 1)) = keptR seen 0 l := by
                      have hs := HST.out.2
                      rw [kept_no hrl HST.out.1 (Or.inr (HBO3.out.2.2.1 rfl))] at hs
                      exact hs
                    have HF := hid hkeep
                    have e9 : IntKind.i64.wrap ((r : Int) + 1) = ((r + 1 : Nat) : Int) := by rw [IntKind.wrap_i64]; omega
                    clear hkeep hgm
                    rcases Nat.lt_or_ge q ns with hqn | hqn
                    · have hcd3 : ((q : Int) < (ns : Int)) := by omega
                      go_wp2_with fail
                      go_roundg g
                      case measure => omega
                      case rel => exact ⟨r + 1, ms, by omega, rfl, HBO3.out.1, by omega, HF.out, HBO3.out.2.1⟩
                    · have hcd3 : ¬ ((q : Int) < (ns : Int)) := by omega
                      go_wp2_with fail
                      go_roundg g
                      case measure => omega
                      case rel => exact ⟨r + 1, ms, by omega, rfl, HBO3.out.1, by omega, HF.out, HBO3.out.2.1⟩
                | succ g4 =>
                  have hdup : dup = false := by
                    cases dup
                    · rfl
                    · simp at hgm
                  subst hdup
                  have hqn : q < ns := by simp at hgm; omega
                  have hg4 : g4 = ns - (q + 1) := by simp at hgm; omega
                  have hcd3 : ((q : Int) < (ns : Int)) := by omega
                  have hqk : q < seen.length := by rw [← HN.out.2.2]; exact hqn
                  obtain ⟨bk, ra, rl, rc, hbk, hbkl, hkc, hkr⟩ := HR1.out.cellK hrk
                  obtain ⟨bs, qa, ql, qc, hbs, hbsl, hqc, hqr⟩ := HR3.out.cellK hqk
                  obtain rfl := hbk.symm
                  obtain rfl := hbs.symm
                  rw [HKE.out] at hkr
                  have hgd : seen.getD q [] = seen[q] := getD_at hqk
                  have hmem := List.getElem_mem hqk
                  generalize seen[q] = keyq at *
                  have HKR := hid (And.intro (Nat.lt_of_lt_of_le hbkl hbl.size) (And.intro ((cellLow (hbl.block _ hbkl) _).trans hkc) (hkr.below hbl)))
                  have HKQ := hid (And.intro (Nat.lt_of_lt_of_le hbsl hbl.size) (And.intro ((cellLow (hbl.block _ hbsl) _).trans hqc) (hqr.below hbl)))
                  obtain ⟨d, hdd⟩ : ∃ d, decide (key = keyq) = d := ⟨_, rfl⟩
                  have HDD := hid hdd
                  have HBL := hid (And.intro hbo (And.intro hbl (And.intro hdf (And.intro hgd hmem))))
                  have e8 : IntKind.i64.wrap ((q : Int) + 1) = ((q + 1 : Nat) : Int) := by rw [IntKind.wrap_i64]; omega
                  clear hkc hkr hqc hqr hdd hbo hbl hdf hdt hgm hgd hmem
                  go_wp2_with fail
                  refine wp_region_rel [(some 61, .slice (some ⟨bk, 0, none⟩) n c1), (some 62, .int .i64 (r : Nat)), (some 63, .pointer (some ⟨bk, r, none⟩)), (some 64, .slice ra rl rc), (some 65, .slice (some ⟨bs, 0, none⟩) ns c3), (some 66, .int .i64 (q : Nat)), (some 67, .pointer (some ⟨bs, q, none⟩)), (some 68, .slice qa ql qc), (some 69, .bool d)] (fun wz => Below wr.heap.size wr wz) 77 (by kernel_rfl) (by kernel_rfl) (by kernel_rfl) (by kernel_rfl) ?h015 (by kernel_rfl) ?hop15 ?hend15
                  case hop15 =>
                    intro i o az wz ho hR hd hf K hK
                    have hin : i = 0 ∨ i = 1 ∨ i = 2 ∨ i = 3 ∨ i = 4 ∨ i = 5 ∨ i = 6 ∨ i = 7 ∨ i = 8 := by
                      rcases Nat.lt_or_ge i 9 with h | h
                      · omega
                      · rw [Array.getElem?_eq_none h] at ho
                        cases ho
                    rcases hin with rfl | rfl | rfl | rfl | rfl | rfl | rfl | rfl | rfl
                    · simp only [List.getElem?_toArray, List.getElem?_cons_zero, Option.some.injEq] at ho
                      subst ho
                      have v0 : az.eval (.tmp 0) = .slice (some ⟨bk, 0, none⟩) n c1 := (hf 0 (by kernel_rfl)).trans (by kernel_rfl)
                      have u0 : az.tmps[0]?.getD undef = .slice (some ⟨bk, 0, none⟩) n c1 := by rw [← Array.getD_eq_getD_getElem?]; exact v0
                      clear v0
                      clear hd hf
                      replace hK : ∀ w', (fun wz => Below wr.heap.size wr wz) w' → K (az.put (some 61) (.slice (some ⟨bk, 0, none⟩) n c1)) w' := hK
                      have HK := Lib.hid hK
                      clear hK
                      show if Region.wanted _ (yielded _ az.tmps) = true then Oper.wp _ _ az wz K _ else _
                      go_simp
                      exact HK.out _ hR
                    · simp only [List.getElem?_toArray, List.getElem?_cons_zero, List.getElem?_cons_succ, Option.some.injEq] at ho
                      subst ho
                      have v0 : az.eval (.tmp 8) = .int .i64 (r : Nat) := (hf 8 (by kernel_rfl)).trans (by kernel_rfl)
                      have u0 : az.tmps[8]?.getD undef = .int .i64 (r : Nat) := by rw [← Array.getD_eq_getD_getElem?]; exact v0
                      clear v0
                      clear hd hf
                      replace hK : ∀ w', (fun wz => Below wr.heap.size wr wz) w' → K (az.put (some 62) (.int .i64 (r : Nat))) w' := hK
                      have HK := Lib.hid hK
                      clear hK
                      show if Region.wanted _ (yielded _ az.tmps) = true then Oper.wp _ _ az wz K _ else _
                      go_simp
                      exact HK.out _ hR
                    · simp only [List.getElem?_toArray, List.getElem?_cons_zero, List.getElem?_cons_succ, Option.some.injEq] at ho
                      subst ho
                      have v0 : az.eval (.tmp 61) = .slice (some ⟨bk, 0, none⟩) n c1 := hd 0 61 (by kernel_rfl) (by kernel_rfl)
                      have u0 : az.tmps[61]?.getD undef = .slice (some ⟨bk, 0, none⟩) n c1 := by rw [← Array.getD_eq_getD_getElem?]; exact v0
                      clear v0
                      have v1 : az.eval (.tmp 62) = .int .i64 (r : Nat) := hd 1 62 (by kernel_rfl) (by kernel_rfl)
                      have u1 : az.tmps[62]?.getD undef = .int .i64 (r : Nat) := by rw [← Array.getD_eq_getD_getElem?]; exact v1
                      clear v1
                      clear hd hf
                      replace hK : ∀ w', (fun wz => Below wr.heap.size wr wz) w' → K (az.put (some 63) (.pointer (some ⟨bk, r, none⟩))) w' := hK
                      have HK := Lib.hid hK
                      clear hK
                      have hjl := hrn
                      show if Region.wanted _ (yielded _ az.tmps) = true then Oper.wp _ _ az wz K _ else _
                      go_simp
                      exact HK.out _ hR
                    · simp only [List.getElem?_toArray, List.getElem?_cons_zero, List.getElem?_cons_succ, Option.some.injEq] at ho
                      subst ho
                      have v0 : az.eval (.tmp 63) = .pointer (some ⟨bk, r, none⟩) := hd 2 63 (by kernel_rfl) (by kernel_rfl)
                      have u0 : az.tmps[63]?.getD undef = .pointer (some ⟨bk, r, none⟩) := by rw [← Array.getD_eq_getD_getElem?]; exact v0
                      clear v0
                      clear hd hf
                      replace hK : ∀ w', (fun wz => Below wr.heap.size wr wz) w' → K (az.put (some 64) (.slice ra rl rc)) w' := hK
                      have HK := Lib.hid hK
                      clear hK
                      have c0 := (cellLow (hR.block _ HKR.out.1) _).trans HKR.out.2.1
                      show if Region.wanted _ (yielded _ az.tmps) = true then Oper.wp _ _ az wz K _ else _
                      go_simp
                      exact HK.out _ hR
                    · simp only [List.getElem?_toArray, List.getElem?_cons_zero, List.getElem?_cons_succ, Option.some.injEq] at ho
                      subst ho
                      have v0 : az.eval (.tmp 2) = .slice (some ⟨bs, 0, none⟩) ns c3 := (hf 2 (by kernel_rfl)).trans (by kernel_rfl)
                      have u0 : az.tmps[2]?.getD undef = .slice (some ⟨bs, 0, none⟩) ns c3 := by rw [← Array.getD_eq_getD_getElem?]; exact v0
                      clear v0
                      clear hd hf
                      replace hK : ∀ w', (fun wz => Below wr.heap.size wr wz) w' → K (az.put (some 65) (.slice (some ⟨bs, 0, none⟩) ns c3)) w' := hK
                      have HK := Lib.hid hK
                      clear hK
                      show if Region.wanted _ (yielded _ az.tmps) = true then Oper.wp _ _ az wz K _ else _
                      go_simp
                      exact HK.out _ hR
                    · simp only [List.getElem?_toArray, List.getElem?_cons_zero, List.getElem?_cons_succ, Option.some.injEq] at ho
                      subst ho
                      have v0 : az.eval (.tmp 11) = .int .i64 (q : Nat) := (hf 11 (by kernel_rfl)).trans (by kernel_rfl)
                      have u0 : az.tmps[11]?.getD undef = .int .i64 (q : Nat) := by rw [← Array.getD_eq_getD_getElem?]; exact v0
                      clear v0
                      clear hd hf
                      replace hK : ∀ w', (fun wz => Below wr.heap.size wr wz) w' → K (az.put (some 66) (.int .i64 (q : Nat))) w' := hK
                      have HK := Lib.hid hK
                      clear hK
                      show if Region.wanted _ (yielded _ az.tmps) = true then Oper.wp _ _ az wz K _ else _
                      go_simp
                      exact HK.out _ hR
                    · simp only [List.getElem?_toArray, List.getElem?_cons_zero, List.getElem?_cons_succ, Option.some.injEq] at ho
                      subst ho
                      have v0 : az.eval (.tmp 65) = .slice (some ⟨bs, 0, none⟩) ns c3 := hd 4 65 (by kernel_rfl) (by kernel_rfl)
                      have u0 : az.tmps[65]?.getD undef = .slice (some ⟨bs, 0, none⟩) ns c3 := by rw [← Array.getD_eq_getD_getElem?]; exact v0
                      clear v0
                      have v1 : az.eval (.tmp 66) = .int .i64 (q : Nat) := hd 5 66 (by kernel_rfl) (by kernel_rfl)
                      have u1 : az.tmps[66]?.getD undef = .int .i64 (q : Nat) := by rw [← Array.getD_eq_getD_getElem?]; exact v1
                      clear v1
                      clear hd hf
                      replace hK : ∀ w', (fun wz => Below wr.heap.size wr wz) w' → K (az.put (some 67) (.pointer (some ⟨bs, q, none⟩))) w' := hK
                      have HK := Lib.hid hK
                      clear hK
                      have hjl := hqn
                      show if Region.wanted _ (yielded _ az.tmps) = true then Oper.wp _ _ az wz K _ else _
                      go_simp
                      exact HK.out _ hR
                    · simp only [List.getElem?_toArray, List.getElem?_cons_zero, List.getElem?_cons_succ, Option.some.injEq] at ho
                      subst ho
                      have v0 : az.eval (.tmp 67) = .pointer (some ⟨bs, q, none⟩) := hd 6 67 (by kernel_rfl) (by kernel_rfl)
                      have u0 : az.tmps[67]?.getD undef = .pointer (some ⟨bs, q, none⟩) := by rw [← Array.getD_eq_getD_getElem?]; exact v0
                      clear v0
                      clear hd hf
                      replace hK : ∀ w', (fun wz => Below wr.heap.size wr wz) w' → K (az.put (some 68) (.slice qa ql qc)) w' := hK
                      have HK := Lib.hid hK
                      clear hK
                      have c0 := (cellLow (hR.block _ HKQ.out.1) _).trans HKQ.out.2.1
                      show if Region.wanted _ (yielded _ az.tmps) = true then Oper.wp _ _ az wz K _ else _
                      go_simp
                      exact HK.out _ hR
                    · simp only [List.getElem?_toArray, List.getElem?_cons_zero, List.getElem?_cons_succ, Option.some.injEq] at ho
                      subst ho
                      have v0 : az.eval (.tmp 64) = .slice ra rl rc := hd 3 64 (by kernel_rfl) (by kernel_rfl)
                      have u0 : az.tmps[64]?.getD undef = .slice ra rl rc := by rw [← Array.getD_eq_getD_getElem?]; exact v0
                      clear v0
                      have v1 : az.eval (.tmp 68) = .slice qa ql qc := hd 7 68 (by kernel_rfl) (by kernel_rfl)
                      have u1 : az.tmps[68]?.getD undef = .slice qa ql qc := by rw [← Array.getD_eq_getD_getElem?]; exact v1
                      clear v1
                      clear hd hf
                      replace hK : ∀ w', (fun wz => Below wr.heap.size wr wz) w' → K (az.put (some 69) (.bool d)) w' := hK
                      have HK := Lib.hid hK
                      clear hK
                      show if Region.wanted _ (yielded _ az.tmps) = true then Oper.wp _ _ az wz K _ else _
                      go_simp
                      refine (ek17 ra qa rl rc ql qc key keyq (fun _ => True) (fun _ => True) wz (HLK.out) (HKR.out.2.2.below hR) (HKQ.out.2.2.below hR)).mono ?_
                      rintro e w5 hD
                      obtain ⟨he, hB5⟩ := hD.ex
                      rw [HDD.out] at he
                      obtain rfl := he.symm
                      go_simp
                      exact HK.out _ (hR.trans (hB5.mono hR.size))
                  case h015 => exact (Below.refl _ _).drew
                  case hend15 =>
                    intro wz hR
                    have HR := hid hR
                    clear hR
                    simp only [List.foldl_cons, List.foldl_nil, Act.put, List.setIfInBounds_toArray, List.set_cons_zero, List.set_cons_succ]
                    cases d
                    · go_wp2_with fail
                      go_roundg g4
                      case measure => omega
                      case rel =>
                        refine ⟨q + 1, false, rfl, rfl, by simp; omega, by omega, (fun h => by cases h), fun _ => ⟨(HBL.out.2.2.1 (by first | rfl | trivial)).1, fun j hj => ?_⟩, HBL.out.1.keepI HR.out.size (fun k hk => HR.out.block k (HBL.out.1.ge k hk).2), HBL.out.2.1.trans (HR.out.mono HBL.out.2.1.size)⟩
                        by_cases e : j < q
                        · exact (HBL.out.2.2.1 (by first | rfl | trivial)).2 j e
                        · have e2 : j = q := by omega
                          subst e2
                          rw [HBL.out.2.2.2.1]
                          exact fun h => (of_decide_eq_false HDD.out) h.symm
                    · go_wp2_with fail
                      go_roundg 0
                      case measure => omega
                      case rel =>
                        exact ⟨q + 1, true, rfl, rfl, by simp, by omega, fun _ => Or.inr (by rw [of_decide_eq_true HDD.out]; exact HBL.out.2.2.2.2), (fun h => by cases h), HBL.out.1.keepI HR.out.size (fun k hk => HR.out.block k (HBL.out.1.ge k hk).2), HBL.out.2.1.trans (HR.out.mono HBL.out.2.1.size)⟩
            · have H2F : true = false → ¬ (∃ j, r < j ∧ Dup l key j) ∧ ∀ j, j < 0 → seen.getD j [] ≠ key := fun h => by cases h
              clear hbo hbl hdt hdf hgm
              rcases Nat.lt_or_ge q n with hqn | hqn
              · have hcd2 : ((q : Int) < (n : Int)) := by omega
                have HL3 := hid (show K3 w (∃ j, r < j ∧ Dup l key j) seen key ns (.slice va ms.length vc) ms (if true then 0 else ns - 0) (.bool true) (.int .i64 0) wr from ⟨0, true, rfl, rfl, rfl, by omega, H2T, H2F, HBO.out.1, HBO.out.2⟩)
                go_wp2_with fail
                go_loopg [9, 11] (if true then 0 else ns - 0) (fun g3 v9 v11 wx => K3 w (∃ j, r < j ∧ Dup l key j) seen key ns (.slice va ms.length vc) ms g3 v9 v11 wx)
                case atStart => exact HL3.out
                case round =>
                  obtain ⟨q, dup, rfl, rfl, hgm, hqs, hdt, hdf, hbo, hbl⟩ := hrel.ex
                  clear hrel HL3
                  cases gk with
                  | zero =>
                    have HBO3 := hid (And.intro hbo (And.intro hbl (And.intro hdt hdf)))
                    clear hbo hbl hdt hdf
                    cases dup
                    · have hqe : q = ns := by simp at hgm; omega
                      have hcd3 : ¬ ((q : Int) < (ns : Int)) := by omega
                      obtain ⟨gn, cn, w2, hap, hbo2, hgr, hat⟩ := HBO3.out.1.app 50 3 _ 8 [.int .i64 (r : Nat)] (r : Int) Try.underlying50 info3 rfl (by decide) (by decide) rfl (by intro u hu; simp at hu; rcases hu with rfl; rfl) rfl (by omega)
                      have HAP := hid hap
                      have hkeep : ms ++ [(r : Int)] ++ keptR seen (r + 1) (l.drop (r + 1)) = keptR seen 0 l := by
                        obtain ⟨c1, c2⟩ := HBO3.out.2.2.2 rfl
                        have hs := HST.out.2
                        rw [kept_yes hrl HST.out.1 c1 (fun hm => by
                          obtain ⟨j, hj, e⟩ := List.getElem_of_mem hm
                          have := c2 j (by rw [hqe, HN.out.2.2]; exact hj)
                          rw [List.getD_eq_getElem?_getD, List.getElem?_eq_getElem hj] at this
                          exact this e)] at hs
                        rw [← hs, List.append_assoc]
                        rfl
                      have hlow : Below w.heap.size w w2 := by
                        have h0 := HBO3.out.2.1.alloc HBO3.out.2.1.size (.cells #[.int .i64 (r : Nat)] 3)
                        refine h0.trans ⟨hgr.os, hgr.tape, hgr.output, hgr.size, fun k hk => hgr.block k (Nat.lt_of_lt_of_le hk h0.size) (fun e => ?_)⟩
                        have := (HBO3.out.1.ge k e.symm).1
                        omega
                      have HF := hid (And.intro hbo2 (And.intro hkeep hlow))
                      have e9 : IntKind.i64.wrap ((r : Int) + 1) = ((r + 1 : Nat) : Int) := by rw [IntKind.wrap_i64]; omega
                      clear hap hbo2 hgr hat hkeep hlow hgm
                      go_wp2_with (at_builtin; go_loud (refine list_run rfl _ _ 50 rfl (.slice va ms.length vc) (.slice (some ⟨wr.heap.size, 0, none⟩) 1 1) _ w2 rfl rfl HAP.out ?_))
                      go_roundg g
                      case measure => omega
                      case rel => exact ⟨r + 1, ms ++ [(r : Int)], by omega, rfl, HF.out.1, by simp; omega, HF.out.2.1, HF.out.2.2⟩
                    · have hkeep : ms ++ keptR seen (r + 1) (l.drop (r + 1)) = keptR seen 0 l := by
                        have hs := HST.out.2
                        rw [kept_no hrl HST.out.1 (Or.inr (HBO3.out.2.2.1 rfl))] at hs
                        exact hs
                      have HF := hid hkeep
                      have e9 : IntKind.i64.wrap ((r : Int) + 1) = ((r + 1 : Nat) : Int) := by rw [IntKind.wrap_i64]; omega
                      clear hkeep hgm
                      rcases Nat.lt_or_ge q ns with hqn | hqn
                      · have hcd3 : ((q : Int) < (ns : Int)) := by omega
                        go_wp2_with fail
                        go_roundg g
                        case measure => omega
                        case rel => exact ⟨r + 1, ms, by omega, rfl, HBO3.out.1, by omega, HF.out, HBO3.out.2.1⟩
                      · have hcd3 : ¬ ((q : Int) < (ns : Int)) := by omega
                        go_wp2_with fail
                        go_roundg g
                        case measure => omega
                        case rel => exact ⟨r + 1, ms, by omega, rfl, HBO3.out.1, by omega, HF.out, HBO3.out.2.1⟩
                  | succ g4 =>
                    have hdup : dup = false := by
                      cases dup
                      · rfl
                      · simp at hgm
                    subst hdup
                    have hqn : q < ns := by simp at hgm; omega
                    have hg4 : g4 = ns - (q + 1) := by simp at hgm; omega
                    have hcd3 : ((q : Int) < (ns : Int)) := by omega
                    have hqk : q < seen.length := by rw [← HN.out.2.2]; exact hqn
                    obtain ⟨bk, ra, rl, rc, hbk, hbkl, hkc, hkr⟩ := HR1.out.cellK hrk
                    obtain ⟨bs, qa, ql, qc, hbs, hbsl, hqc, hqr⟩ := HR3.out.cellK hqk
                    obtain rfl := hbk.symm
                    obtain rfl := hbs.symm
                    rw [HKE.out] at hkr
                    have hgd : seen.getD q [] = seen[q] := getD_at hqk
                    have hmem := List.getElem_mem hqk
                    generalize seen[q] = keyq at *
                    have HKR := hid (And.intro (Nat.lt_of_lt_of_le hbkl hbl.size) (And.intro ((cellLow (hbl.block _ hbkl) _).trans hkc) (hkr.below hbl)))
                    have HKQ := hid (And.intro (Nat.lt_of_lt_of_le hbsl hbl.size) (And.intro ((cellLow (hbl.block _ hbsl) _).trans hqc) (hqr.below hbl)))
                    obtain ⟨d, hdd⟩ : ∃ d, decide (key = keyq) = d := ⟨_, rfl⟩
                    have HDD := hid hdd
                    have HBL := hid (And.intro hbo (And.intro hbl (And.intro hdf (And.intro hgd hmem))))
                    have e8 : IntKind.i64.wrap ((q : Int) + 1) = ((q + 1 : Nat) : Int) := by rw [IntKind.wrap_i64]; omega
                    clear hkc hkr hqc hqr hdd hbo hbl hdf hdt hgm hgd hmem
                    go_wp2_with fail
                    refine wp_region_rel [(some 61, .slice (some ⟨bk, 0, none⟩) n c1), (some 62, .int .i64 (r : Nat)), (some 63, .pointer (some ⟨bk, r, none⟩)), (some 64, .slice ra rl rc), (some 65, .slice (some ⟨bs, 0, none⟩) ns c3), (some 66, .int .i64 (q : Nat)), (some 67, .pointer (some ⟨bs, q, none⟩)), (some 68, .slice qa ql qc), (some 69, .bool d)] (fun wz => Below wr.heap.size wr wz) 77 (by kernel_rfl) (by kernel_rfl) (by kernel_rfl) (by kernel_rfl) ?h015 (by kernel_rfl) ?hop15 ?hend15
                    case hop15 =>
                      intro i o az wz ho hR hd hf K hK
                      have hin : i = 0 ∨ i = 1 ∨ i = 2 ∨ i = 3 ∨ i = 4 ∨ i = 5 ∨ i = 6 ∨ i = 7 ∨ i = 8 := by
                        rcases Nat.lt_or_ge i 9 with h | h
                        · omega
                        · rw [Array.getElem?_eq_none h] at ho
                          cases ho
                      rcases hin with rfl | rfl | rfl | rfl | rfl | rfl | rfl | rfl | rfl
                      · simp only [List.getElem?_toArray, List.getElem?_cons_zero, Option.some.injEq] at ho
                        subst ho
                        have v0 : az.eval (.tmp 0) = .slice (some ⟨bk, 0, none⟩) n c1 := (hf 0 (by kernel_rfl)).trans (by kernel_rfl)
                        have u0 : az.tmps[0]?.getD undef = .slice (some ⟨bk, 0, none⟩) n c1 := by rw [← Array.getD_eq_getD_getElem?]; exact v0
                        clear v0
                        clear hd hf
                        replace hK : ∀ w', (fun wz => Below wr.heap.size wr wz) w' → K (az.put (some 61) (.slice (some ⟨bk, 0, none⟩) n c1)) w' := hK
                        have HK := Lib.hid hK
                        clear hK
                        show if Region.wanted _ (yielded _ az.tmps) = true then Oper.wp _ _ az wz K _ else _
                        go_simp
                        exact HK.out _ hR
                      · simp only [List.getElem?_toArray, List.getElem?_cons_zero, List.getElem?_cons_succ, Option.some.injEq] at ho
                        subst ho
                        have v0 : az.eval (.tmp 8) = .int .i64 (r : Nat) := (hf 8 (by kernel_rfl)).trans (by kernel_rfl)
                        have u0 : az.tmps[8]?.getD undef = .int .i64 (r : Nat) := by rw [← Array.getD_eq_getD_getElem?]; exact v0
                        clear v0
                        clear hd hf
                        replace hK : ∀ w', (fun wz => Below wr.heap.size wr wz) w' → K (az.put (some 62) (.int .i64 (r : Nat))) w' := hK
                        have HK := Lib.hid hK
                        clear hK
                        show if Region.wanted _ (yielded _ az.tmps) = true then Oper.wp _ _ az wz K _ else _
                        go_simp
                        exact HK.out _ hR
                      · simp only [List.getElem?_toArray, List.getElem?_cons_zero, List.getElem?_cons_succ, Option.some.injEq] at ho
                        subst ho
                        have v0 : az.eval (.tmp 61) = .slice (some ⟨bk, 0, none⟩) n c1 := hd 0 61 (by kernel_rfl) (by kernel_rfl)
                        have u0 : az.tmps[61]?.getD undef = .slice (some ⟨bk, 0, none⟩) n c1 := by rw [← Array.getD_eq_getD_getElem?]; exact v0
                        clear v0
                        have v1 : az.eval (.tmp 62) = .int .i64 (r : Nat) := hd 1 62 (by kernel_rfl) (by kernel_rfl)
                        have u1 : az.tmps[62]?.getD undef = .int .i64 (r : Nat) := by rw [← Array.getD_eq_getD_getElem?]; exact v1
                        clear v1
                        clear hd hf
                        replace hK : ∀ w', (fun wz => Below wr.heap.size wr wz) w' → K (az.put (some 63) (.pointer (some ⟨bk, r, none⟩))) w' := hK
                        have HK := Lib.hid hK
                        clear hK
                        have hjl := hrn
                        show if Region.wanted _ (yielded _ az.tmps) = true then Oper.wp _ _ az wz K _ else _
                        go_simp
                        exact HK.out _ hR
                      · simp only [List.getElem?_toArray, List.getElem?_cons_zero, List.getElem?_cons_succ, Option.some.injEq] at ho
                        subst ho
                        have v0 : az.eval (.tmp 63) = .pointer (some ⟨bk, r, none⟩) := hd 2 63 (by kernel_rfl) (by kernel_rfl)
                        have u0 : az.tmps[63]?.getD undef = .pointer (some ⟨bk, r, none⟩) := by rw [← Array.getD_eq_getD_getElem?]; exact v0
                        clear v0
                        clear hd hf
                        replace hK : ∀ w', (fun wz => Below wr.heap.size wr wz) w' → K (az.put (some 64) (.slice ra rl rc)) w' := hK
                        have HK := Lib.hid hK
                        clear hK
                        have c0 := (cellLow (hR.block _ HKR.out.1) _).trans HKR.out.2.1
                        show if Region.wanted _ (yielded _ az.tmps) = true then Oper.wp _ _ az wz K _ else _
                        go_simp
                        exact HK.out _ hR
                      · simp only [List.getElem?_toArray, List.getElem?_cons_zero, List.getElem?_cons_succ, Option.some.injEq] at ho
                        subst ho
                        have v0 : az.eval (.tmp 2) = .slice (some ⟨bs, 0, none⟩) ns c3 := (hf 2 (by kernel_rfl)).trans (by kernel_rfl)
                        have u0 : az.tmps[2]?.getD undef = .slice (some ⟨bs, 0, none⟩) ns c3 := by rw [← Array.getD_eq_getD_getElem?]; exact v0
                        clear v0
                        clear hd hf
                        replace hK : ∀ w', (fun wz => Below wr.heap.size wr wz) w' → K (az.put (some 65) (.slice (some ⟨bs, 0, none⟩) ns c3)) w' := hK
                        have HK := Lib.hid hK
                        clear hK
                        show if Region.wanted _ (yielded _ az.tmps) = true then Oper.wp _ _ az wz K _ else _
                        go_simp
                        exact HK.out _ hR
                      · simp only [List.getElem?_toArray, List.getElem?_cons_zero, List.getElem?_cons_succ, Option.some.injEq] at ho
                        subst ho
                        have v0 : az.eval (.tmp 11) = .int .i64 (q : Nat) := (hf 11 (by kernel_rfl)).trans (by kernel_rfl)
                        have u0 : az.tmps[11]?.getD undef = .int .i64 (q : Nat) := by rw [← Array.getD_eq_getD_getElem?]; exact v0
                        clear v0
                        clear hd hf
                        replace hK : ∀ w', (fun wz => Below wr.heap.size wr wz) w' → K (az.put (some 66) (.int .i64 (q : Nat))) w' := hK
                        have HK := Lib.hid hK
                        clear hK
                        show if Region.wanted _ (yielded _ az.tmps) = true then Oper.wp _ _ az wz K _ else _
                        go_simp
                        exact HK.out _ hR
                      · simp only [List.getElem?_toArray, List.getElem?_cons_zero, List.getElem?_cons_succ, Option.some.injEq] at ho
                        subst ho
                        have v0 : az.eval (.tmp 65) = .slice (some ⟨bs, 0, none⟩) ns c3 := hd 4 65 (by kernel_rfl) (by kernel_rfl)
                        have u0 : az.tmps[65]?.getD undef = .slice (some ⟨bs, 0, none⟩) ns c3 := by rw [← Array.getD_eq_getD_getElem?]; exact v0
                        clear v0
                        have v1 : az.eval (.tmp 66) = .int .i64 (q : Nat) := hd 5 66 (by kernel_rfl) (by kernel_rfl)
                        have u1 : az.tmps[66]?.getD undef = .int .i64 (q : Nat) := by rw [← Array.getD_eq_getD_getElem?]; exact v1
                        clear v1
                        clear hd hf
                        replace hK : ∀ w', (fun wz => Below wr.heap.size wr wz) w' → K (az.put (some 67) (.pointer (some ⟨bs, q, none⟩))) w' := hK
                        have HK := Lib.hid hK
                        clear hK
                        have hjl := hqn
                        show if Region.wanted _ (yielded _ az.tmps) = true then Oper.wp _ _ az wz K _ else _
                        go_simp
                        exact HK.out _ hR
                      · simp only [List.getElem?_toArray, List.getElem?_cons_zero, List.getElem?_cons_succ, Option.some.injEq] at ho
                        subst ho
                        have v0 : az.eval (.tmp 67) = .pointer (some ⟨bs, q, none⟩) := hd 6 67 (by kernel_rfl) (by kernel_rfl)
                        have u0 : az.tmps[67]?.getD undef = .pointer (some ⟨bs, q, none⟩) := by rw [← Array.getD_eq_getD_getElem?]; exact v0
                        clear v0
                        clear hd hf
                        replace hK : ∀ w', (fun wz => Below wr.heap.size wr wz) w' → K (az.put (some 68) (.slice qa ql qc)) w' := hK
                        have HK := Lib.hid hK
                        clear hK
                        have c0 := (cellLow (hR.block _ HKQ.out.1) _).trans HKQ.out.2.1
                        show if Region.wanted _ (yielded _ az.tmps) = true then Oper.wp _ _ az wz K _ else _
                        go_simp
                        exact HK.out _ hR
                      · simp only [List.getElem?_toArray, List.getElem?_cons_zero, List.getElem?_cons_succ, Option.some.injEq] at ho
                        subst ho
                        have v0 : az.eval (.tmp 64) = .slice ra rl rc := hd 3 64 (by kernel_rfl) (by kernel_rfl)
                        have u0 : az.tmps[64]?.getD undef = .slice ra rl rc := by rw [← Array.getD_eq_getD_getElem?]; exact v0
                        clear v0
                        have v1 : az.eval (.tmp 68) = .slice qa ql qc := hd 7 68 (by kernel_rfl) (by kernel_rfl)
                        have u1 : az.tmps[68]?.getD undef = .slice qa ql qc := by rw [← Array.getD_eq_getD_getElem?]; exact v1
                        clear v1
                        clear hd hf
                        replace hK : ∀ w', (fun wz => Below wr.heap.size wr wz) w' → K (az.put (some 69) (.bool d)) w' := hK
                        have HK := Lib.hid hK
                        clear hK
                        show if Region.wanted _ (yielded _ az.tmps) = true then Oper.wp _ _ az wz K _ else _
                        go_simp
                        refine (ek17 ra qa rl rc ql qc key keyq (fun _ => True) (fun _ => True) wz (HLK.out) (HKR.out.2.2.below hR) (HKQ.out.2.2.below hR)).mono ?_
                        rintro e w5 hD
                        obtain ⟨he, hB5⟩ := hD.ex
                        rw [HDD.out] at he
                        obtain rfl := he.symm
                        go_simp
                        exact HK.out _ (hR.trans (hB5.mono hR.size))
                    case h015 => exact (Below.refl _ _).drew
                    case hend15 =>
                      intro wz hR
                      have HR := hid hR
                      clear hR
                      simp only [List.foldl_cons, List.foldl_nil, Act.put, List.setIfInBounds_toArray, List.set_cons_zero, List.set_cons_succ]
                      cases d
                      · go_wp2_with fail
                        go_roundg g4
                        case measure => omega
                        case rel =>
                          refine ⟨q + 1, false, rfl, rfl, by simp; omega, by omega, (fun h => by cases h), fun _ => ⟨(HBL.out.2.2.1 (by first | rfl | trivial)).1, fun j hj => ?_⟩, HBL.out.1.keepI HR.out.size (fun k hk => HR.out.block k (HBL.out.1.ge k hk).2), HBL.out.2.1.trans (HR.out.mono HBL.out.2.1.size)⟩
                          by_cases e : j < q
                          · exact (HBL.out.2.2.1 (by first | rfl | trivial)).2 j e
                          · have e2 : j = q := by omega
                            subst e2
                            rw [HBL.out.2.2.2.1]
                            exact fun h => (of_decide_eq_false HDD.out) h.symm
                      · go_wp2_with fail
                        go_roundg 0
                        case measure => omega
                        case rel =>
                          exact ⟨q + 1, true, rfl, rfl, by simp, by omega, fun _ => Or.inr (by rw [of_decide_eq_true HDD.out]; exact HBL.out.2.2.2.2), (fun h => by cases h), HBL.out.1.keepI HR.out.size (fun k hk => HR.out.block k (HBL.out.1.ge k hk).2), HBL.out.2.1.trans (HR.out.mono HBL.out.2.1.size)⟩
              · have hcd2 : ¬ ((q : Int) < (n : Int)) := by omega
                have HL3 := hid (show K3 w (∃ j, r < j ∧ Dup l key j) seen key ns (.slice va ms.length vc) ms (if true then 0 else ns - 0) (.bool true) (.int .i64 0) wr from ⟨0, true, rfl, rfl, rfl, by omega, H2T, H2F, HBO.out.1, HBO.out.2⟩)
                go_wp2_with fail
                go_loopg [9, 11] (if true then 0 else ns - 0) (fun g3 v9 v11 wx => K3 w (∃ j, r < j ∧ Dup l key j) seen key ns (.slice va ms.length vc) ms g3 v9 v11 wx)
                case atStart => exact HL3.out
                case round =>
                  obtain ⟨q, dup, rfl, rfl, hgm, hqs, hdt, hdf, hbo, hbl⟩ := hrel.ex
                  clear hrel HL3
                  cases gk with
                  | zero =>
                    have HBO3 := hid (And.intro hbo (And.intro hbl (And.intro hdt hdf)))
                    clear hbo hbl hdt hdf
                    cases dup
                    · have hqe : q = ns := by simp at hgm; omega
                      have hcd3 : ¬ ((q : Int) < (ns : Int)) := by omega
                      obtain ⟨gn, cn, w2, hap, hbo2, hgr, hat⟩ := HBO3.out.1.app 50 3 _ 8 [.int .i64 (r : Nat)] (r : Int) Try.underlying50 info3 rfl (by decide) (by decide) rfl (by intro u hu; simp at hu; rcases hu with rfl; rfl) rfl (by omega)
                      have HAP := hid hap
                      have hkeep : ms ++ [(r : Int)] ++ keptR seen (r + 1) (l.drop (r + 1)) = keptR seen 0 l := by
                        obtain ⟨c1, c2⟩ := HBO3.out.2.2.2 rfl
                        have hs := HST.out.2
                        rw [kept_yes hrl HST.out.1 c1 (fun hm => by
                          obtain ⟨j, hj, e⟩ := List.getElem_of_mem hm
                          have := c2 j (by rw [hqe, HN.out.2.2]; exact hj)
                          rw [List.getD_eq_getElem?_getD, List.getElem?_eq_getElem hj] at this
                          exact this e)] at hs
                        rw [← hs, List.append_assoc]
                        rfl
                      have hlow : Below w.heap.size w w2 := by
                        have h0 := HBO3.out.2.1.alloc HBO3.out.2.1.size (.cells #[.int .i64 (r : Nat)] 3)
                        refine h0.trans ⟨hgr.os, hgr.tape, hgr.output, hgr.size, fun k hk => hgr.block k (Nat.lt_of_lt_of_le hk h0.size) (fun e => ?_)⟩
                        have := (HBO3.out.1.ge k e.symm).1
                        omega
                      have HF := hid (And.intro hbo2 (And.intro hkeep hlow))
                      have e9 : IntKind.i64.wrap ((r : Int) + 1) = ((r + 1 : Nat) : Int) := by rw [IntKind.wrap_i64]; omega
                      clear hap hbo2 hgr hat hkeep hlow hgm
                      go_wp2_with (at_builtin; go_loud (refine list_run rfl _ _ 50 rfl (.slice va ms.length vc) (.slice (some ⟨wr.heap.size, 0, none⟩) 1 1) _ w2 rfl rfl HAP.out ?_))
                      go_roundg g
                      case measure => omega
                      case rel => exact ⟨r + 1, ms ++ [(r : Int)], by omega, rfl, HF.out.1, by simp; omega, HF.out.2.1, HF.out.2.2⟩
                    · have hkeep : ms ++ keptR seen (r + 1) (l.drop (r + 1)) = keptR seen 0 l := by
                        have hs := HST.out.2
                        rw [kept_no hrl HST.out.1 (Or.inr (HBO3.out.2.2.1 rfl))] at hs
                        exact hs
                      have HF := hid hkeep
                      have e9 : IntKind.i64.wrap ((r : Int) + 1) = ((r + 1 : Nat) : Int) := by rw [IntKind.wrap_i64]; omega
                      clear hkeep hgm
                      rcases Nat.lt_or_ge q ns with hqn | hqn
                      · have hcd3 : ((q : Int) < (ns : Int)) := by omega
                        go_wp2_with fail
                        go_roundg g
                        case measure => omega
                        case rel => exact ⟨r + 1, ms, by omega, rfl, HBO3.out.1, by omega, HF.out, HBO3.out.2.1⟩
                      · have hcd3 : ¬ ((q : Int) < (ns : Int)) := by omega
                        go_wp2_with fail
                        go_roundg g
                        case measure => omega
                        case rel => exact ⟨r + 1, ms, by omega, rfl, HBO3.out.1, by omega, HF.out, HBO3.out.2.1⟩
                  | succ g4 =>
                    have hdup : dup = false := by
                      cases dup
                      · rfl
                      · simp at hgm
                    subst hdup
                    have hqn : q < ns := by simp at hgm; omega
                    have hg4 : g4 = ns - (q + 1) := by simp at hgm; omega
                    have hcd3 : ((q : Int) < (ns : Int)) := by omega
                    have hqk : q < seen.length := by rw [← HN.out.2.2]; exact hqn
                    obtain ⟨bk, ra, rl, rc, hbk, hbkl, hkc, hkr⟩ := HR1.out.cellK hrk
                    obtain ⟨bs, qa, ql, qc, hbs, hbsl, hqc, hqr⟩ := HR3.out.cellK hqk
                    obtain rfl := hbk.symm
                    obtain rfl := hbs.symm
                    rw [HKE.out] at hkr
                    have hgd : seen.getD q [] = seen[q] := getD_at hqk
                    have hmem := List.getElem_mem hqk
                    generalize seen[q] = keyq at *
                    have HKR := hid (And.intro (Nat.lt_of_lt_of_le hbkl hbl.size) (And.intro ((cellLow (hbl.block _ hbkl) _).trans hkc) (hkr.below hbl)))
                    have HKQ := hid (And.intro (Nat.lt_of_lt_of_le hbsl hbl.size) (And.intro ((cellLow (hbl.block _ hbsl) _).trans hqc) (hqr.below hbl)))
                    obtain ⟨d, hdd⟩ : ∃ d, decide (key = keyq) = d := ⟨_, rfl⟩
                    have HDD := hid hdd
                    have HBL := hid (And.intro hbo (And.intro hbl (And.intro hdf (And.intro hgd hmem))))
                    have e8 : IntKind.i64.wrap ((q : Int) + 1) = ((q + 1 : Nat) : Int) := by rw [IntKind.wrap_i64]; omega
                    clear hkc hkr hqc hqr hdd hbo hbl hdf hdt hgm hgd hmem
                    go_wp2_with fail
                    refine wp_region_rel [(some 61, .slice (some ⟨bk, 0, none⟩) n c1), (some 62, .int .i64 (r : Nat)), (some 63, .pointer (some ⟨bk, r, none⟩)), (some 64, .slice ra rl rc), (some 65, .slice (some ⟨bs, 0, none⟩) ns c3), (some 66, .int .i64 (q : Nat)), (some 67, .pointer (some ⟨bs, q, none⟩)), (some 68, .slice qa ql qc), (some 69, .bool d)] (fun wz => Below wr.heap.size wr wz) 77 (by kernel_rfl) (by kernel_rfl) (by kernel_rfl) (by kernel_rfl) ?h015 (by kernel_rfl) ?hop15 ?hend15
                    case hop15 =>
                      intro i o az wz ho hR hd hf K hK
                      have hin : i = 0 ∨ i = 1 ∨ i = 2 ∨ i = 3 ∨ i = 4 ∨ i = 5 ∨ i = 6 ∨ i = 7 ∨ i = 8 := by
                        rcases Nat.lt_or_ge i 9 with h | h
                        · omega
                        · rw [Array.getElem?_eq_none h] at ho
                          cases ho
                      rcases hin with rfl | rfl | rfl | rfl | rfl | rfl | rfl | rfl | rfl
                      · simp only [List.getElem?_toArray, List.getElem?_cons_zero, Option.some.injEq] at ho
                        subst ho
                        have v0 : az.eval (.tmp 0) = .slice (some ⟨bk, 0, none⟩) n c1 := (hf 0 (by kernel_rfl)).trans (by kernel_rfl)
                        have u0 : az.tmps[0]?.getD undef = .slice (some ⟨bk, 0, none⟩) n c1 := by rw [← Array.getD_eq_getD_getElem?]; exact v0
                        clear v0
                        clear hd hf
                        replace hK : ∀ w', (fun wz => Below wr.heap.size wr wz) w' → K (az.put (some 61) (.slice (some ⟨bk, 0, none⟩) n c1)) w' := hK
                        have HK := Lib.hid hK
                        clear hK
                        show if Region.wanted _ (yielded _ az.tmps) = true then Oper.wp _ _ az wz K _ else _
                        go_simp
                        exact HK.out _ hR
                      · simp only [List.getElem?_toArray, List.getElem?_cons_zero, List.getElem?_cons_succ, Option.some.injEq] at ho
                        subst ho
                        have v0 : az.eval (.tmp 8) = .int .i64 (r : Nat) := (hf 8 (by kernel_rfl)).trans (by kernel_rfl)
                        have u0 : az.tmps[8]?.getD undef = .int .i64 (r : Nat) := by rw [← Array.getD_eq_getD_getElem?]; exact v0
                        clear v0
                        clear hd hf
                        replace hK : ∀ w', (fun wz => Below wr.heap.size wr wz) w' → K (az.put (some 62) (.int .i64 (r : Nat))) w' := hK
                        have HK := Lib.hid hK
                        clear hK
                        show if Region.wanted _ (yielded _ az.tmps) = true then Oper.wp _ _ az wz K _ else _
                        go_simp
                        exact HK.out _ hR
                      · simp only [List.getElem?_toArray, List.getElem?_cons_zero, List.getElem?_cons_succ, Option.some.injEq] at ho
                        subst ho
                        have v0 : az.eval (.tmp 61) = .slice (some ⟨bk, 0, none⟩) n c1 := hd 0 61 (by kernel_rfl) (by kernel_rfl)
                        have u0 : az.tmps[61]?.getD undef = .slice (some ⟨bk, 0, none⟩) n c1 := by rw [← Array.getD_eq_getD_getElem?]; exact v0
                        clear v0
                        have v1 : az.eval (.tmp 62) = .int .i64 (r : Nat) := hd 1 62 (by kernel_rfl) (by kernel_rfl)
                        have u1 : az.tmps[62]?.getD undef = .int .i64 (r : Nat) := by rw [← Array.getD_eq_getD_getElem?]; exact v1
                        clear v1
                        clear hd hf
                        replace hK : ∀ w', (fun wz => Below wr.heap.size wr wz) w' → K (az.put (some 63) (.pointer (some ⟨bk, r, none⟩))) w' := hK
                        have HK := Lib.hid hK
                        clear hK
                        have hjl := hrn
                        show if Region.wanted _ (yielded _ az.tmps) = true then Oper.wp _ _ az wz K _ else _
                        go_simp
                        exact HK.out _ hR
                      · simp only [List.getElem?_toArray, List.getElem?_cons_zero, List.getElem?_cons_succ, Option.some.injEq] at ho
                        subst ho
                        have v0 : az.eval (.tmp 63) = .pointer (some ⟨bk, r, none⟩) := hd 2 63 (by kernel_rfl) (by kernel_rfl)
                        have u0 : az.tmps[63]?.getD undef = .pointer (some ⟨bk, r, none⟩) := by rw [← Array.getD_eq_getD_getElem?]; exact v0
                        clear v0
                        clear hd hf
                        replace hK : ∀ w', (fun wz => Below wr.heap.size wr wz) w' → K (az.put (some 64) (.slice ra rl rc)) w' := hK
                        have HK := Lib.hid hK
                        clear hK
                        have c0 := (cellLow (hR.block _ HKR.out.1) _).trans HKR.out.2.1
                        show if Region.wanted _ (yielded _ az.tmps) = true then Oper.wp _ _ az wz K _ else _
                        go_simp
                        exact HK.out _ hR
                      · simp only [List.getElem?_toArray, List.getElem?_cons_zero, List.getElem?_cons_succ, Option.some.injEq] at ho
                        subst ho
                        have v0 : az.eval (.tmp 2) = .slice (some ⟨bs, 0, none⟩) ns c3 := (hf 2 (by kernel_rfl)).trans (by kernel_rfl)
                        have u0 : az.tmps[2]?.getD undef = .slice (some ⟨bs, 0, none⟩) ns c3 := by rw [← Array.getD_eq_getD_getElem?]; exact v0
                        clear v0
                        clear hd hf
                        replace hK : ∀ w', (fun wz => Below wr.heap.size wr wz) w' → K (az.put (some 65) (.slice (some ⟨bs, 0, none⟩) ns c3)) w' := hK
                        have HK := Lib.hid hK
                        clear hK
                        show if Region.wanted _ (yielded _ az.tmps) = true then Oper.wp _ _ az wz K _ else _
                        go_simp
                        exact HK.out _ hR
                      · simp only [List.getElem?_toArray, List.getElem?_cons_zero, List.getElem?_cons_succ, Option.some.injEq] at ho
                        subst ho
                        have v0 : az.eval (.tmp 11) = .int .i64 (q : Nat) := (hf 11 (by kernel_rfl)).trans (by kernel_rfl)
                        have u0 : az.tmps[11]?.getD undef = .int .i64 (q : Nat) := by rw [← Array.getD_eq_getD_getElem?]; exact v0
                        clear v0
                        clear hd hf
                        replace hK : ∀ w', (fun wz => Below wr.heap.size wr wz) w' → K (az.put (some 66) (.int .i64 (q : Nat))) w' := hK
                        have HK := Lib.hid hK
                        clear hK
                        show if Region.wanted _ (yielded _ az.tmps) = true then Oper.wp _ _ az wz K _ else _
                        go_simp
                        exact HK.out _ hR
                      · simp only [List.getElem?_toArray, List.getElem?_cons_zero, List.getElem?_cons_succ, Option.some.injEq] at ho
                        subst ho
                        have v0 : az.eval (.tmp 65) = .slice (some ⟨bs, 0, none⟩) ns c3 := hd 4 65 (by kernel_rfl) (by kernel_rfl)
                        have u0 : az.tmps[65]?.getD undef = .slice (some ⟨bs, 0, none⟩) ns c3 := by rw [← Array.getD_eq_getD_getElem?]; exact v0
                        clear v0
                        have v1 : az.eval (.tmp 66) = .int .i64 (q : Nat) := hd 5 66 (by kernel_rfl) (by kernel_rfl)
                        have u1 : az.tmps[66]?.getD undef = .int .i64 (q : Nat) := by rw [← Array.getD_eq_getD_getElem?]; exact v1
                        clear v1
                        clear hd hf
                        replace hK : ∀ w', (fun wz => Below wr.heap.size wr wz) w' → K (az.put (some 67) (.pointer (some ⟨bs, q, none⟩))) w' := hK
                        have HK := Lib.hid hK
                        clear hK
                        have hjl := hqn
                        show if Region.wanted _ (yielded _ az.tmps) = true then Oper.wp _ _ az wz K _ else _
                        go_simp
                        exact HK.out _ hR
                      · simp only [List.getElem?_toArray, List.getElem?_cons_zero, List.getElem?_cons_succ, Option.some.injEq] at ho
                        subst ho
                        have v0 : az.eval (.tmp 67) = .pointer (some ⟨bs, q, none⟩) := hd 6 67 (by kernel_rfl) (by kernel_rfl)
                        have u0 : az.tmps[67]?.getD undef = .pointer (some ⟨bs, q, none⟩) := by rw [← Array.getD_eq_getD_getElem?]; exact v0
                        clear v0
                        clear hd hf
                        replace hK : ∀ w', (fun wz => Below wr.heap.size wr wz) w' → K (az.put (some 68) (.slice qa ql qc)) w' := hK
                        have HK := Lib.hid hK
                        clear hK
                        have c0 := (cellLow (hR.block _ HKQ.out.1) _).trans HKQ.out.2.1
                        show if Region.wanted _ (yielded _ az.tmps) = true then Oper.wp _ _ az wz K _ else _
                        go_simp
                        exact HK.out _ hR
                      · simp only [List.getElem?_toArray, List.getElem?_cons_zero, List.getElem?_cons_succ, Option.some.injEq] at ho
                        subst ho
                        have v0 : az.eval (.tmp 64) = .slice ra rl rc := hd 3 64 (by kernel_rfl) (by kernel_rfl)
                        have u0 : az.tmps[64]?.getD undef = .slice ra rl rc := by rw [← Array.getD_eq_getD_getElem?]; exact v0
                        clear v0
                        have v1 : az.eval (.tmp 68) = .slice qa ql qc := hd 7 68 (by kernel_rfl) (by kernel_rfl)
                        have u1 : az.tmps[68]?.getD undef = .slice qa ql qc := by rw [← Array.getD_eq_getD_getElem?]; exact v1
                        clear v1
                        clear hd hf
                        replace hK : ∀ w', (fun wz => Below wr.heap.size wr wz) w' → K (az.put (some 69) (.bool d)) w' := hK
                        have HK := Lib.hid hK
                        clear hK
                        show if Region.wanted _ (yielded _ az.tmps) = true then Oper.wp _ _ az wz K _ else _
                        go_simp
                        refine (ek17 ra qa rl rc ql qc key keyq (fun _ => True) (fun _ => True) wz (HLK.out) (HKR.out.2.2.below hR) (HKQ.out.2.2.below hR)).mono ?_
                        rintro e w5 hD
                        obtain ⟨he, hB5⟩ := hD.ex
                        rw [HDD.out] at he
                        obtain rfl := he.symm
                        go_simp
                        exact HK.out _ (hR.trans (hB5.mono hR.size))
                    case h015 => exact (Below.refl _ _).drew
                    case hend15 =>
                      intro wz hR
                      have HR := hid hR
                      clear hR
                      simp only [List.foldl_cons, List.foldl_nil, Act.put, List.setIfInBounds_toArray, List.set_cons_zero, List.set_cons_succ]
                      cases d
                      · go_wp2_with fail
                        go_roundg g4
                        case measure => omega
                        case rel =>
                          refine ⟨q + 1, false, rfl, rfl, by simp; omega, by omega, (fun h => by cases h), fun _ => ⟨(HBL.out.2.2.1 (by first | rfl | trivial)).1, fun j hj => ?_⟩, HBL.out.1.keepI HR.out.size (fun k hk => HR.out.block k (HBL.out.1.ge k hk).2), HBL.out.2.1.trans (HR.out.mono HBL.out.2.1.size)⟩
                          by_cases e : j < q
                          · exact (HBL.out.2.2.1 (by first | rfl | trivial)).2 j e
                          · have e2 : j = q := by omega
                            subst e2
                            rw [HBL.out.2.2.2.1]
                            exact fun h => (of_decide_eq_false HDD.out) h.symm
                      · go_wp2_with fail
                        go_roundg 0
                        case measure => omega
                        case rel =>
                          exact ⟨q + 1, true, rfl, rfl, by simp, by omega, fun _ => Or.inr (by rw [of_decide_eq_true HDD.out]; exact HBL.out.2.2.2.2), (fun h => by cases h), HBL.out.1.keepI HR.out.size (fun k hk => HR.out.block k (HBL.out.1.ge k hk).2), HBL.out.2.1.trans (HR.out.mono HBL.out.2.1.size)⟩
          | succ g4 =>
            have hdup : dup = false := by
              cases dup
              · rfl
              · simp at hgm
            subst hdup
            have hqn : q < n := by simp at hgm; omega
            have hg4 : g4 = n - (q + 1) := by simp at hgm; omega
            have hcd2 : ((q : Int) < (n : Int)) := by omega
            have hqk : q < ks.length := by rw [← HN.out.1]; exact hqn
            have hqd : q < ds.length := by rw [← HN.out.2.1]; exact hqn
            have hql : q < l.length := by rw [HLL.out.1]; exact hqn
            obtain ⟨bd2, hbd2, hbdl2, hdc2⟩ := HR2.out.cellB hqd
            injection hbd2 with hbd2
            injection hbd2 with hbd2 _ _
            subst hbd2
            obtain ⟨bk, ra, rl, rc, hbk, hbkl, hkc, hkr⟩ := HR1.out.cellK hrk
            obtain ⟨bk2, qa, ql, qc, hbk2, hbkl2, hqc, hqr⟩ := HR1.out.cellK hqk
            obtain rfl := hbk.symm
            injection hbk2 with hbk2
            injection hbk2 with hbk2 _ _
            subst hbk2
            rw [HKE.out] at hkr
            have hlq := HLL.out.2 q hql hqk hqd
            generalize ks[q] = keyq at *
            generalize ds[q] = dq at *
            have HQ := hid (And.intro (Nat.lt_of_lt_of_le hbdl2 hbl.size) ((cellLow (hbl.block _ hbdl2) _).trans hdc2))
            have HKR := hid (And.intro (Nat.lt_of_lt_of_le hbkl hbl.size) (And.intro ((cellLow (hbl.block _ hbkl) _).trans hkc) (hkr.below hbl)))
            have HKQ := hid (And.intro (Nat.lt_of_lt_of_le hbkl2 hbl.size) (And.intro ((cellLow (hbl.block _ hbkl2) _).trans hqc) (hqr.below hbl)))
            have HBL := hid (And.intro hbo (And.intro hbl (And.intro hdf hlq)))
            have e8 : IntKind.i64.wrap ((q : Int) + 1) = ((q + 1 : Nat) : Int) := by rw [IntKind.wrap_i64]; omega
            clear hkc hkr hqc hqr hbo hbl hdf hdt hgm hlq hdc2
            rcases Bool.eq_false_or_eq_true dq with rfl | rfl
            · go_wp2_with fail
              refine wp_region_rel [(some 35, .slice (some ⟨bd, 0, none⟩) n c2), (some 36, .int .i64 (q : Nat)), (some 37, .pointer (some ⟨bd, q, none⟩)), (some 38, .bool true), (some 39, .bool false), (some 40, .bool false), (some 41, undef), (some 42, undef), (some 43, undef), (some 44, undef), (some 45, undef), (some 46, undef), (some 47, undef), (some 48, undef), (some 49, undef), (some 50, .bool false)] (fun wz => Below wr.heap.size wr wz) 77 (by kernel_rfl) (by kernel_rfl) (by kernel_rfl) (by kernel_rfl) ?h010 (by kernel_rfl) ?hop10 ?hend10
              case hop10 =>
                intro i o az wz ho hR hd hf K hK
                have hin : i = 0 ∨ i = 1 ∨ i = 2 ∨ i = 3 ∨ i = 4 ∨ i = 5 ∨ i = 6 ∨ i = 7 ∨ i = 8 ∨ i = 9 ∨ i = 10 ∨ i = 11 ∨ i = 12 ∨ i = 13 ∨ i = 14 ∨ i = 15 := by
                  rcases Nat.lt_or_ge i 16 with h | h
                  · omega
                  · rw [Array.getElem?_eq_none h] at ho
                    cases ho
                rcases hin with rfl | rfl | rfl | rfl | rfl | rfl | rfl | rfl | rfl | rfl | rfl | rfl | rfl | rfl | rfl | rfl
                · simp only [List.getElem?_toArray, List.getElem?_cons_zero, Option.some.injEq] at ho
                  subst ho
                  have v0 : az.eval (.tmp 1) = .slice (some ⟨bd, 0, none⟩) n c2 := (hf 1 (by kernel_rfl)).trans (by kernel_rfl)
                  have u0 : az.tmps[1]?.getD undef = .slice (some ⟨bd, 0, none⟩) n c2 := by rw [← Array.getD_eq_getD_getElem?]; exact v0
                  clear v0
                  clear hd hf
                  replace hK : ∀ w', (fun wz => Below wr.heap.size wr wz) w' → K (az.put (some 35) (.slice (some ⟨bd, 0, none⟩) n c2)) w' := hK
                  have HK := Lib.hid hK
                  clear hK
                  show if Region.wanted _ (yielded _ az.tmps) = true then Oper.wp _ _ az wz K _ else _
                  go_simp
                  exact HK.out _ hR
                · simp only [List.getElem?_toArray, List.getElem?_cons_zero, List.getElem?_cons_succ, Option.some.injEq] at ho
                  subst ho
                  have v0 : az.eval (.tmp 10) = .int .i64 (q : Nat) := (hf 10 (by kernel_rfl)).trans (by kernel_rfl)
                  have u0 : az.tmps[10]?.getD undef = .int .i64 (q : Nat) := by rw [← Array.getD_eq_getD_getElem?]; exact v0
                  clear v0
                  clear hd hf
                  replace hK : ∀ w', (fun wz => Below wr.heap.size wr wz) w' → K (az.put (some 36) (.int .i64 (q : Nat))) w' := hK
                  have HK := Lib.hid hK
                  clear hK
                  show if Region.wanted _ (yielded _ az.tmps) = true then Oper.wp _ _ az wz K _ else _
                  go_simp
                  exact HK.out _ hR
                · simp only [List.getElem?_toArray, List.getElem?_cons_zero, List.getElem?_cons_succ, Option.some.injEq] at ho
                  subst ho
                  have v0 : az.eval (.tmp 35) = .slice (some ⟨bd, 0, none⟩) n c2 := hd 0 35 (by kernel_rfl) (by kernel_rfl)
                  have u0 : az.tmps[35]?.getD undef = .slice (some ⟨bd, 0, none⟩) n c2 := by rw [← Array.getD_eq_getD_getElem?]; exact v0
                  clear v0
                  have v1 : az.eval (.tmp 36) = .int .i64 (q : Nat) := hd 1 36 (by kernel_rfl) (by kernel_rfl)
                  have u1 : az.tmps[36]?.getD undef = .int .i64 (q : Nat) := by rw [← Array.getD_eq_getD_getElem?]; exact v1
                  clear v1
                  clear hd hf
                  replace hK : ∀ w', (fun wz => Below wr.heap.size wr wz) w' → K (az.put (some 37) (.pointer (some ⟨bd, q, none⟩))) w' := hK
                  have HK := Lib.hid hK
                  clear hK
                  have hjl := hqn
                  show if Region.wanted _ (yielded _ az.tmps) = true then Oper.wp _ _ az wz K _ else _
                  go_simp
                  exact HK.out _ hR
                · simp only [List.getElem?_toArray, List.getElem?_cons_zero, List.getElem?_cons_succ, Option.some.injEq] at ho
                  subst ho
                  have v0 : az.eval (.tmp 37) = .pointer (some ⟨bd, q, none⟩) := hd 2 37 (by kernel_rfl) (by kernel_rfl)
                  have u0 : az.tmps[37]?.getD undef = .pointer (some ⟨bd, q, none⟩) := by rw [← Array.getD_eq_getD_getElem?]; exact v0
                  clear v0
                  clear hd hf
                  replace hK : ∀ w', (fun wz => Below wr.heap.size wr wz) w' → K (az.put (some 38) (.bool true)) w' := hK
                  have HK := Lib.hid hK
                  clear hK
                  have c0 := (cellLow (hR.block _ HQ.out.1) _).trans HQ.out.2
                  show if Region.wanted _ (yielded _ az.tmps) = true then Oper.wp _ _ az wz K _ else _
                  go_simp
                  exact HK.out _ hR
                · simp only [List.getElem?_toArray, List.getElem?_cons_zero, List.getElem?_cons_succ, Option.some.injEq] at ho
                  subst ho
                  have v0 : az.eval (.tmp 38) = .bool true := hd 3 38 (by kernel_rfl) (by kernel_rfl)
                  have u0 : az.tmps[38]?.getD undef = .bool true := by rw [← Array.getD_eq_getD_getElem?]; exact v0
                  clear v0
                  clear hd hf
                  replace hK : ∀ w', (fun wz => Below wr.heap.size wr wz) w' → K (az.put (some 39) (.bool false)) w' := hK
                  have HK := Lib.hid hK
                  clear hK
                  show if Region.wanted _ (yielded _ az.tmps) = true then Oper.wp _ _ az wz K _ else _
                  go_simp
                  exact HK.out _ hR
                · simp only [List.getElem?_toArray, List.getElem?_cons_zero, List.getElem?_cons_succ, Option.some.injEq] at ho
                  subst ho
                  have v0 : az.eval (.tmp 39) = .bool false := hd 4 39 (by kernel_rfl) (by kernel_rfl)
                  have u0 : az.tmps[39]?.getD undef = .bool false := by rw [← Array.getD_eq_getD_getElem?]; exact v0
                  clear v0
                  clear hd hf
                  replace hK : ∀ w', (fun wz => Below wr.heap.size wr wz) w' → K (az.put (some 40) (.bool false)) w' := hK
                  have HK := Lib.hid hK
                  clear hK
                  show if Region.wanted _ (yielded _ az.tmps) = true then Oper.wp _ _ az wz K _ else _
                  go_simp
                  exact HK.out _ hR
                · simp only [List.getElem?_toArray, List.getElem?_cons_zero, List.getElem?_cons_succ, Option.some.injEq] at ho
                  subst ho
                  have v0 : az.eval (.tmp 0) = .slice (some ⟨bk, 0, none⟩) n c1 := (hf 0 (by kernel_rfl)).trans (by kernel_rfl)
                  have u0 : az.tmps[0]?.getD undef = .slice (some ⟨bk, 0, none⟩) n c1 := by rw [← Array.getD_eq_getD_getElem?]; exact v0
                  clear v0
                  have v1 : az.eval (.tmp 40) = .bool false := hd 5 40 (by kernel_rfl) (by kernel_rfl)
                  have g1 := tmp_bool v1
                  have u1 : az.tmps[40]?.getD undef = .bool false := by rw [← Array.getD_eq_getD_getElem?]; exact v1
                  clear v1
                  clear hd hf
                  replace hK : ∀ w', (fun wz => Below wr.heap.size wr wz) w' → K (az.put (some 41) (undef)) w' := hK
                  have HK := Lib.hid hK
                  clear hK
                  show if Region.wanted _ (yielded _ az.tmps) = true then Oper.wp _ _ az wz K _ else _
                  go_simp
                  exact HK.out _ hR
                · simp only [List.getElem?_toArray, List.getElem?_cons_zero, List.getElem?_cons_succ, Option.some.injEq] at ho
                  subst ho
                  have v0 : az.eval (.tmp 8) = .int .i64 (r : Nat) := (hf 8 (by kernel_rfl)).trans (by kernel_rfl)
                  have u0 : az.tmps[8]?.getD undef = .int .i64 (r : Nat) := by rw [← Array.getD_eq_getD_getElem?]; exact v0
                  clear v0
                  have v1 : az.eval (.tmp 40) = .bool false := hd 5 40 (by kernel_rfl) (by kernel_rfl)
                  have g1 := tmp_bool v1
                  have u1 : az.tmps[40]?.getD undef = .bool false := by rw [← Array.getD_eq_getD_getElem?]; exact v1
                  clear v1
                  clear hd hf
                  replace hK : ∀ w', (fun wz => Below wr.heap.size wr wz) w' → K (az.put (some 42) (undef)) w' := hK
                  have HK := Lib.hid hK
                  clear hK
                  show if Region.wanted _ (yielded _ az.tmps) = true then Oper.wp _ _ az wz K _ else _
                  go_simp
                  exact HK.out _ hR
                · simp only [List.getElem?_toArray, List.getElem?_cons_zero, List.getElem?_cons_succ, Option.some.injEq] at ho
                  subst ho
                  have v0 : az.eval (.tmp 41) = undef := hd 6 41 (by kernel_rfl) (by kernel_rfl)
                  have u0 : az.tmps[41]?.getD undef = undef := by rw [← Array.getD_eq_getD_getElem?]; exact v0
                  clear v0
                  have v1 : az.eval (.tmp 42) = undef := hd 7 42 (by kernel_rfl) (by kernel_rfl)
                  have u1 : az.tmps[42]?.getD undef = undef := by rw [← Array.getD_eq_getD_getElem?]; exact v1
                  clear v1
                  have v2 : az.eval (.tmp 40) = .bool false := hd 5 40 (by kernel_rfl) (by kernel_rfl)
                  have g2 := tmp_bool v2
                  have u2 : az.tmps[40]?.getD undef = .bool false := by rw [← Array.getD_eq_getD_getElem?]; exact v2
                  clear v2
                  clear hd hf
                  replace hK : ∀ w', (fun wz => Below wr.heap.size wr wz) w' → K (az.put (some 43) (undef)) w' := hK
                  have HK := Lib.hid hK
                  clear hK
                  show if Region.wanted _ (yielded _ az.tmps) = true then Oper.wp _ _ az wz K _ else _
                  go_simp
                  exact HK.out _ hR
                · simp only [List.getElem?_toArray, List.getElem?_cons_zero, List.getElem?_cons_succ, Option.some.injEq] at ho
                  subst ho
                  have v0 : az.eval (.tmp 43) = undef := hd 8 43 (by kernel_rfl) (by kernel_rfl)
                  have u0 : az.tmps[43]?.getD undef = undef := by rw [← Array.getD_eq_getD_getElem?]; exact v0
                  clear v0
                  have v1 : az.eval (.tmp 40) = .bool false := hd 5 40 (by kernel_rfl) (by kernel_rfl)
                  have g1 := tmp_bool v1
                  have u1 : az.tmps[40]?.getD undef = .bool false := by rw [← Array.getD_eq_getD_getElem?]; exact v1
                  clear v1
                  clear hd hf
                  replace hK : ∀ w', (fun wz => Below wr.heap.size wr wz) w' → K (az.put (some 44) (undef)) w' := hK
                  have HK := Lib.hid hK
                  clear hK
                  show if Region.wanted _ (yielded _ az.tmps) = true then Oper.wp _ _ az wz K _ else _
                  go_simp
                  exact HK.out _ hR
                · simp only [List.getElem?_toArray, List.getElem?_cons_zero, List.getElem?_cons_succ, Option.some.injEq] at ho
                  subst ho
                  have v0 : az.eval (.tmp 0) = .slice (some ⟨bk, 0, none⟩) n c1 := (hf 0 (by kernel_rfl)).trans (by kernel_rfl)
                  have u0 : az.tmps[0]?.getD undef = .slice (some ⟨bk, 0, none⟩) n c1 := by rw [← Array.getD_eq_getD_getElem?]; exact v0
                  clear v0
                  have v1 : az.eval (.tmp 40) = .bool false := hd 5 40 (by kernel_rfl) (by kernel_rfl)
                  have g1 := tmp_bool v1
                  have u1 : az.tmps[40]?.getD undef = .bool false := by rw [← Array.getD_eq_getD_getElem?]; exact v1
                  clear v1
                  clear hd hf
                  replace hK : ∀ w', (fun wz => Below wr.heap.size wr wz) w' → K (az.put (some 45) (undef)) w' := hK
                  have HK := Lib.hid hK
                  clear hK
                  show if Region.wanted _ (yielded _ az.tmps) = true then Oper.wp _ _ az wz K _ else _
                  go_simp
                  exact HK.out _ hR
                · simp only [List.getElem?_toArray, List.getElem?_cons_zero, List.getElem?_cons_succ, Option.some.injEq] at ho
                  subst ho
                  have v0 : az.eval (.tmp 10) = .int .i64 (q : Nat) := (hf 10 (by kernel_rfl)).trans (by kernel_rfl)
                  have u0 : az.tmps[10]?.getD undef = .int .i64 (q : Nat) := by rw [← Array.getD_eq_getD_getElem?]; exact v0
                  clear v0
                  have v1 : az.eval (.tmp 40) = .bool false := hd 5 40 (by kernel_rfl) (by kernel_rfl)
                  have g1 := tmp_bool v1
                  have u1 : az.tmps[40]?.getD undef = .bool false := by rw [← Array.getD_eq_getD_getElem?]; exact v1
                  clear v1
                  clear hd hf
                  replace hK : ∀ w', (fun wz => Below wr.heap.size wr wz) w' → K (az.put (some 46) (undef)) w' := hK
                  have HK := Lib.hid hK
                  clear hK
                  show if Region.wanted _ (yielded _ az.tmps) = true then Oper.wp _ _ az wz K _ else _
                  go_simp
                  exact HK.out _ hR
                · simp only [List.getElem?_toArray, List.getElem?_cons_zero, List.getElem?_cons_succ, Option.some.injEq] at ho
                  subst ho
                  have v0 : az.eval (.tmp 45) = undef := hd 10 45 (by kernel_rfl) (by kernel_rfl)
                  have u0 : az.tmps[45]?.getD undef = undef := by rw [← Array.getD_eq_getD_getElem?]; exact v0
                  clear v0
                  have v1 : az.eval (.tmp 46) = undef := hd 11 46 (by kernel_rfl) (by kernel_rfl)
                  have u1 : az.tmps[46]?.getD undef = undef := by rw [← Array.getD_eq_getD_getElem?]; exact v1
                  clear v1
                  have v2 : az.eval (.tmp 40) = .bool false := hd 5 40 (by kernel_rfl) (by kernel_rfl)
                  have g2 := tmp_bool v2
                  have u2 : az.tmps[40]?.getD undef = .bool false := by rw [← Array.getD_eq_getD_getElem?]; exact v2
                  clear v2
                  clear hd hf
                  replace hK : ∀ w', (fun wz => Below wr.heap.size wr wz) w' → K (az.put (some 47) (undef)) w' := hK
                  have HK := Lib.hid hK
                  clear hK
                  show if Region.wanted _ (yielded _ az.tmps) = true then Oper.wp _ _ az wz K _ else _
                  go_simp
                  exact HK.out _ hR
                · simp only [List.getElem?_toArray, List.getElem?_cons_zero, List.getElem?_cons_succ, Option.some.injEq] at ho
                  subst ho
                  have v0 : az.eval (.tmp 47) = undef := hd 12 47 (by kernel_rfl) (by kernel_rfl)
                  have u0 : az.tmps[47]?.getD undef = undef := by rw [← Array.getD_eq_getD_getElem?]; exact v0
                  clear v0
                  have v1 : az.eval (.tmp 40) = .bool false := hd 5 40 (by kernel_rfl) (by kernel_rfl)
                  have g1 := tmp_bool v1
                  have u1 : az.tmps[40]?.getD undef = .bool false := by rw [← Array.getD_eq_getD_getElem?]; exact v1
                  clear v1
                  clear hd hf
                  replace hK : ∀ w', (fun wz => Below wr.heap.size wr wz) w' → K (az.put (some 48) (undef)) w' := hK
                  have HK := Lib.hid hK
                  clear hK
                  show if Region.wanted _ (yielded _ az.tmps) = true then Oper.wp _ _ az wz K _ else _
                  go_simp
                  exact HK.out _ hR
                · simp only [List.getElem?_toArray, List.getElem?_cons_zero, List.getElem?_cons_succ, Option.some.injEq] at ho
                  subst ho
                  have v0 : az.eval (.tmp 44) = undef := hd 9 44 (by kernel_rfl) (by kernel_rfl)
                  have u0 : az.tmps[44]?.getD undef = undef := by rw [← Array.getD_eq_getD_getElem?]; exact v0
                  clear v0
                  have v1 : az.eval (.tmp 48) = undef := hd 13 48 (by kernel_rfl) (by kernel_rfl)
                  have u1 : az.tmps[48]?.getD undef = undef := by rw [← Array.getD_eq_getD_getElem?]; exact v1
                  clear v1
                  have v2 : az.eval (.tmp 40) = .bool false := hd 5 40 (by kernel_rfl) (by kernel_rfl)
                  have g2 := tmp_bool v2
                  have u2 : az.tmps[40]?.getD undef = .bool false := by rw [← Array.getD_eq_getD_getElem?]; exact v2
                  clear v2
                  clear hd hf
                  replace hK : ∀ w', (fun wz => Below wr.heap.size wr wz) w' → K (az.put (some 49) (undef)) w' := hK
                  have HK := Lib.hid hK
                  clear hK
                  show if Region.wanted _ (yielded _ az.tmps) = true then Oper.wp _ _ az wz K _ else _
                  go_simp
                  exact HK.out _ hR
                · simp only [List.getElem?_toArray, List.getElem?_cons_zero, List.getElem?_cons_succ, Option.some.injEq] at ho
                  subst ho
                  have v0 : az.eval (.tmp 40) = .bool false := hd 5 40 (by kernel_rfl) (by kernel_rfl)
                  have u0 : az.tmps[40]?.getD undef = .bool false := by rw [← Array.getD_eq_getD_getElem?]; exact v0
                  clear v0
                  have v1 : az.eval (.tmp 49) = undef := hd 14 49 (by kernel_rfl) (by kernel_rfl)
                  have u1 : az.tmps[49]?.getD undef = undef := by rw [← Array.getD_eq_getD_getElem?]; exact v1
                  clear v1
                  clear hd hf
                  replace hK : ∀ w', (fun wz => Below wr.heap.size wr wz) w' → K (az.put (some 50) (.bool false)) w' := hK
                  have HK := Lib.hid hK
                  clear hK
                  show if Region.wanted _ (yielded _ az.tmps) = true then Oper.wp _ _ az wz K _ else _
                  go_simp
                  exact HK.out _ hR
              case h010 => exact (Below.refl _ _).drew
              case hend10 =>
                intro wz hR
                have HR := hid hR
                clear hR
                simp only [List.foldl_cons, List.foldl_nil, Act.put, List.setIfInBounds_toArray, List.set_cons_zero, List.set_cons_succ]
                go_wp2_with fail
                go_roundg g4
                case measure => omega
                case rel =>
                  refine ⟨q + 1, false, rfl, rfl, by simp; omega, by omega, by omega, (fun h => by cases h), fun _ j h1 h2 => ?_, HBL.out.1.keepI HR.out.size (fun k hk => HR.out.block k (HBL.out.1.ge k hk).2), HBL.out.2.1.trans (HR.out.mono HBL.out.2.1.size)⟩
                  by_cases e : j < q
                  · exact HBL.out.2.2.1 (by first | rfl | trivial) j h1 e
                  · have e2 : j = q := by omega
                    subst e2
                    rintro ⟨_, c1, _⟩
                    rw [HBL.out.2.2.2] at c1
                    cases c1
            · obtain ⟨d, hdd⟩ : ∃ d, decide (key = keyq) = d := ⟨_, rfl⟩
              have HDD := hid hdd
              clear hdd
              go_wp2_with fail
              refine wp_region_rel [(some 35, .slice (some ⟨bd, 0, none⟩) n c2), (some 36, .int .i64 (q : Nat)), (some 37, .pointer (some ⟨bd, q, none⟩)), (some 38, .bool false), (some 39, .bool true), (some 40, .bool true), (some 41, .slice (some ⟨bk, 0, none⟩) n c1), (some 42, .int .i64 (r : Nat)), (some 43, .pointer (some ⟨bk, r, none⟩)), (some 44, .slice ra rl rc), (some 45, .slice (some ⟨bk, 0, none⟩) n c1), (some 46, .int .i64 (q : Nat)), (some 47, .pointer (some ⟨bk, q, none⟩)), (some 48, .slice qa ql qc), (some 49, .bool d), (some 50, .bool d)] (fun wz => Below wr.heap.size wr wz) 77 (by kernel_rfl) (by kernel_rfl) (by kernel_rfl) (by kernel_rfl) ?h010 (by kernel_rfl) ?hop10 ?hend10
              case hop10 =>
                intro i o az wz ho hR hd hf K hK
                have hin : i = 0 ∨ i = 1 ∨ i = 2 ∨ i = 3 ∨ i = 4 ∨ i = 5 ∨ i = 6 ∨ i = 7 ∨ i = 8 ∨ i = 9 ∨ i = 10 ∨ i = 11 ∨ i = 12 ∨ i = 13 ∨ i = 14 ∨ i = 15 := by
                  rcases Nat.lt_or_ge i 16 with h | h
                  · omega
                  · rw [Array.getElem?_eq_none h] at ho
                    cases ho
                rcases hin with rfl | rfl | rfl | rfl | rfl | rfl | rfl | rfl | rfl | rfl | rfl | rfl | rfl | rfl | rfl | rfl
                · simp only [List.getElem?_toArray, List.getElem?_cons_zero, Option.some.injEq] at ho
                  subst ho
                  have v0 : az.eval (.tmp 1) = .slice (some ⟨bd, 0, none⟩) n c2 := (hf 1 (by kernel_rfl)).trans (by kernel_rfl)
                  have u0 : az.tmps[1]?.getD undef = .slice (some ⟨bd, 0, none⟩) n c2 := by rw [← Array.getD_eq_getD_getElem?]; exact v0
                  clear v0
                  clear hd hf
                  replace hK : ∀ w', (fun wz => Below wr.heap.size wr wz) w' → K (az.put (some 35) (.slice (some ⟨bd, 0, none⟩) n c2)) w' := hK
                  have HK := Lib.hid hK
                  clear hK
                  show if Region.wanted _ (yielded _ az.tmps) = true then Oper.wp _ _ az wz K _ else _
                  go_simp
                  exact HK.out _ hR
                · simp only [List.getElem?_toArray, List.getElem?_cons_zero, List.getElem?_cons_succ, Option.some.injEq] at ho
                  subst ho
                  have v0 : az.eval (.tmp 10) = .int .i64 (q : Nat) := (hf 10 (by kernel_rfl)).trans (by kernel_rfl)
                  have u0 : az.tmps[10]?.getD undef = .int .i64 (q : Nat) := by rw [← Array.getD_eq_getD_getElem?]; exact v0
                  clear v0
                  clear hd hf
                  replace hK : ∀ w', (fun wz => Below wr.heap.size wr wz) w' → K (az.put (some 36) (.int .i64 (q : Nat))) w' := hK
                  have HK := Lib.hid hK
                  clear hK
                  show if Region.wanted _ (yielded _ az.tmps) = true then Oper.wp _ _ az wz K _ else _
                  go_simp
                  exact HK.out _ hR
                · simp only [List.getElem?_toArray, List.getElem?_cons_zero, List.getElem?_cons_succ, Option.some.injEq] at ho
                  subst ho
                  have v0 : az.eval (.tmp 35) = .slice (some ⟨bd, 0, none⟩) n c2 := hd 0 35 (by kernel_rfl) (by kernel_rfl)
                  have u0 : az.tmps[35]?.getD undef = .slice (some ⟨bd, 0, none⟩) n c2 := by rw [← Array.getD_eq_getD_getElem?]; exact v0
                  clear v0
                  have v1 : az.eval (.tmp 36) = .int .i64 (q : Nat) := hd 1 36 (by kernel_rfl) (by kernel_rfl)
                  have u1 : az.tmps[36]?.getD undef = .int .i64 (q : Nat) := by rw [← Array.getD_eq_getD_getElem?]; exact v1
                  clear v1
                  clear hd hf
                  replace hK : ∀ w', (fun wz => Below wr.heap.size wr wz) w' → K (az.put (some 37) (.pointer (some ⟨bd, q, none⟩))) w' := hK
                  have HK := Lib.hid hK
                  clear hK
                  have hjl := hqn
                  show if Region.wanted _ (yielded _ az.tmps) = true then Oper.wp _ _ az wz K _ else _
                  go_simp
                  exact HK.out _ hR
                · simp only [List.getElem?_toArray, List.getElem?_cons_zero, List.getElem?_cons_succ, Option.some.injEq] at ho
                  subst ho
                  have v0 : az.eval (.tmp 37) = .pointer (some ⟨bd, q, none⟩) := hd 2 37 (by kernel_rfl) (by kernel_rfl)
                  have u0 : az.tmps[37]?.getD undef = .pointer (some ⟨bd, q, none⟩) := by rw [← Array.getD_eq_getD_getElem?]; exact v0
                  clear v0
                  clear hd hf
                  replace hK : ∀ w', (fun wz => Below wr.heap.size wr wz) w' → K (az.put (some 38) (.bool false)) w' := hK
                  have HK := Lib.hid hK
                  clear hK
                  have c0 := (cellLow (hR.block _ HQ.out.1) _).trans HQ.out.2
                  show if Region.wanted _ (yielded _ az.tmps) = true then Oper.wp _ _ az wz K _ else _
                  go_simp
                  exact HK.out _ hR
                · simp only [List.getElem?_toArray, List.getElem?_cons_zero, List.getElem?_cons_succ, Option.some.injEq] at ho
                  subst ho
                  have v0 : az.eval (.tmp 38) = .bool false := hd 3 38 (by kernel_rfl) (by kernel_rfl)
                  have u0 : az.tmps[38]?.getD undef = .bool false := by rw [← Array.getD_eq_getD_getElem?]; exact v0
                  clear v0
                  clear hd hf
                  replace hK : ∀ w', (fun wz => Below wr.heap.size wr wz) w' → K (az.put (some 39) (.bool true)) w' := hK
                  have HK := Lib.hid hK
                  clear hK
                  show if Region.wanted _ (yielded _ az.tmps) = true then Oper.wp _ _ az wz K _ else _
                  go_simp
                  exact HK.out _ hR
                · simp only [List.getElem?_toArray, List.getElem?_cons_zero, List.getElem?_cons_succ, Option.some.injEq] at ho
                  subst ho
                  have v0 : az.eval (.tmp 39) = .bool true := hd 4 39 (by kernel_rfl) (by kernel_rfl)
                  have u0 : az.tmps[39]?.getD undef = .bool true := by rw [← Array.getD_eq_getD_getElem?]; exact v0
                  clear v0
                  clear hd hf
                  replace hK : ∀ w', (fun wz => Below wr.heap.size wr wz) w' → K (az.put (some 40) (.bool true)) w' := hK
                  have HK := Lib.hid hK
                  clear hK
                  show if Region.wanted _ (yielded _ az.tmps) = true then Oper.wp _ _ az wz K _ else _
                  go_simp
                  exact HK.out _ hR
                · simp only [List.getElem?_toArray, List.getElem?_cons_zero, List.getElem?_cons_succ, Option.some.injEq] at ho
                  subst ho
                  have v0 : az.eval (.tmp 0) = .slice (some ⟨bk, 0, none⟩) n c1 := (hf 0 (by kernel_rfl)).trans (by kernel_rfl)
                  have u0 : az.tmps[0]?.getD undef = .slice (some ⟨bk, 0, none⟩) n c1 := by rw [← Array.getD_eq_getD_getElem?]; exact v0
                  clear v0
                  have v1 : az.eval (.tmp 40) = .bool true := hd 5 40 (by kernel_rfl) (by kernel_rfl)
                  have g1 := tmp_bool v1
                  have u1 : az.tmps[40]?.getD undef = .bool true := by rw [← Array.getD_eq_getD_getElem?]; exact v1
                  clear v1
                  clear hd hf
                  replace hK : ∀ w', (fun wz => Below wr.heap.size wr wz) w' → K (az.put (some 41) (.slice (some ⟨bk, 0, none⟩) n c1)) w' := hK
                  have HK := Lib.hid hK
                  clear hK
                  show if Region.wanted _ (yielded _ az.tmps) = true then Oper.wp _ _ az wz K _ else _
                  go_simp
                  exact HK.out _ hR
                · simp only [List.getElem?_toArray, List.getElem?_cons_zero, List.getElem?_cons_succ, Option.some.injEq] at ho
                  subst ho
                  have v0 : az.eval (.tmp 8) = .int .i64 (r : Nat) := (hf 8 (by kernel_rfl)).trans (by kernel_rfl)
                  have u0 : az.tmps[8]?.getD undef = .int .i64 (r : Nat) := by rw [← Array.getD_eq_getD_getElem?]; exact v0
                  clear v0
                  have v1 : az.eval (.tmp 40) = .bool true := hd 5 40 (by kernel_rfl) (by kernel_rfl)
                  have g1 := tmp_bool v1
                  have u1 : az.tmps[40]?.getD undef = .bool true := by rw [← Array.getD_eq_getD_getElem?]; exact v1
                  clear v1
                  clear hd hf
                  replace hK : ∀ w', (fun wz => Below wr.heap.size wr wz) w' → K (az.put (some 42) (.int .i64 (r : Nat))) w' := hK
                  have HK := Lib.hid hK
                  clear hK
                  show if Region.wanted _ (yielded _ az.tmps) = true then Oper.wp _ _ az wz K _ else _
                  go_simp
                  exact HK.out _ hR
                · simp only [List.getElem?_toArray, List.getElem?_cons_zero, List.getElem?_cons_succ, Option.some.injEq] at ho
                  subst ho
                  have v0 : az.eval (.tmp 41) = .slice (some ⟨bk, 0, none⟩) n c1 := hd 6 41 (by kernel_rfl) (by kernel_rfl)
                  have u0 : az.tmps[41]?.getD undef = .slice (some ⟨bk, 0, none⟩) n c1 := by rw [← Array.getD_eq_getD_getElem?]; exact v0
                  clear v0
                  have v1 : az.eval (.tmp 42) = .int .i64 (r : Nat) := hd 7 42 (by kernel_rfl) (by kernel_rfl)
                  have u1 : az.tmps[42]?.getD undef = .int .i64 (r : Nat) := by rw [← Array.getD_eq_getD_getElem?]; exact v1
                  clear v1
                  have v2 : az.eval (.tmp 40) = .bool true := hd 5 40 (by kernel_rfl) (by kernel_rfl)
                  have g2 := tmp_bool v2
                  have u2 : az.tmps[40]?.getD undef = .bool true := by rw [← Array.getD_eq_getD_getElem?]; exact v2
                  clear v2
                  clear hd hf
                  replace hK : ∀ w', (fun wz => Below wr.heap.size wr wz) w' → K (az.put (some 43) (.pointer (some ⟨bk, r, none⟩))) w' := hK
                  have HK := Lib.hid hK
                  clear hK
                  have hjl := hrn
                  show if Region.wanted _ (yielded _ az.tmps) = true then Oper.wp _ _ az wz K _ else _
                  go_simp
                  exact HK.out _ hR
                · simp only [List.getElem?_toArray, List.getElem?_cons_zero, List.getElem?_cons_succ, Option.some.injEq] at ho
                  subst ho
                  have v0 : az.eval (.tmp 43) = .pointer (some ⟨bk, r, none⟩) := hd 8 43 (by kernel_rfl) (by kernel_rfl)
                  have u0 : az.tmps[43]?.getD undef = .pointer (some ⟨bk, r, none⟩) := by rw [← Array.getD_eq_getD_getElem?]; exact v0
                  clear v0
                  have v1 : az.eval (.tmp 40) = .bool true := hd 5 40 (by kernel_rfl) (by kernel_rfl)
                  have g1 := tmp_bool v1
                  have u1 : az.tmps[40]?.getD undef = .bool true := by rw [← Array.getD_eq_getD_getElem?]; exact v1
                  clear v1
                  clear hd hf
                  replace hK : ∀ w', (fun wz => Below wr.heap.size wr wz) w' → K (az.put (some 44) (.slice ra rl rc)) w' := hK
                  have HK := Lib.hid hK
                  clear hK
                  have c0 := (cellLow (hR.block _ HKR.out.1) _).trans HKR.out.2.1
                  show if Region.wanted _ (yielded _ az.tmps) = true then Oper.wp _ _ az wz K _ else _
                  go_simp
                  exact HK.out _ hR
                · simp only [List.getElem?_toArray, List.getElem?_cons_zero, List.getElem?_cons_succ, Option.some.injEq] at ho
                  subst ho
                  have v0 : az.eval (.tmp 0) = .slice (some ⟨bk, 0, none⟩) n c1 := (hf 0 (by kernel_rfl)).trans (by kernel_rfl)
                  have u0 : az.tmps[0]?.getD undef = .slice (some ⟨bk, 0, none⟩) n c1 := by rw [← Array.getD_eq_getD_getElem?]; exact v0
                  clear v0
                  have v1 : az.eval (.tmp 40) = .bool true := hd 5 40 (by kernel_rfl) (by kernel_rfl)
                  have g1 := tmp_bool v1
                  have u1 : az.tmps[40]?.getD undef = .bool true := by rw [← Array.getD_eq_getD_getElem?]; exact v1
                  clear v1
                  clear hd hf
                  replace hK : ∀ w', (fun wz => Below wr.heap.size wr wz) w' → K (az.put (some 45) (.slice (some ⟨bk, 0, none⟩) n c1)) w' := hK
                  have HK := Lib.hid hK
                  clear hK
                  show if Region.wanted _ (yielded _ az.tmps) = true then Oper.wp _ _ az wz K _ else _
                  go_simp
                  exact HK.out _ hR
                · simp only [List.getElem?_toArray, List.getElem?_cons_zero, List.getElem?_cons_succ, Option.some.injEq] at ho
                  subst ho
                  have v0 : az.eval (.tmp 10) = .int .i64 (q : Nat) := (hf 10 (by kernel_rfl)).trans (by kernel_rfl)
                  have u0 : az.tmps[10]?.getD undef = .int .i64 (q : Nat) := by rw [← Array.getD_eq_getD_getElem?]; exact v0
                  clear v0
                  have v1 : az.eval (.tmp 40) = .bool true := hd 5 40 (by kernel_rfl) (by kernel_rfl)
                  have g1 := tmp_bool v1
                  have u1 : az.tmps[40]?.getD undef = .bool true := by rw [← Array.getD_eq_getD_getElem?]; exact v1
                  clear v1
                  clear hd hf
                  replace hK : ∀ w', (fun wz => Below wr.heap.size wr wz) w' → K (az.put (some 46) (.int .i64 (q : Nat))) w' := hK
                  have HK := Lib.hid hK
                  clear hK
                  show if Region.wanted _ (yielded _ az.tmps) = true then Oper.wp _ _ az wz K _ else _
                  go_simp
                  exact HK.out _ hR
                · simp only [List.getElem?_toArray, List.getElem?_cons_zero, List.getElem?_cons_succ, Option.some.injEq] at ho
                  subst ho
                  have v0 : az.eval (.tmp 45) = .slice (some ⟨bk, 0, none⟩) n c1 := hd 10 45 (by kernel_rfl) (by kernel_rfl)
                  have u0 : az.tmps[45]?.getD undef = .slice (some ⟨bk, 0, none⟩) n c1 := by rw [← Array.getD_eq_getD_getElem?]; exact v0
                  clear v0
                  have v1 : az.eval (.tmp 46) = .int .i64 (q : Nat) := hd 11 46 (by kernel_rfl) (by kernel_rfl)
                  have u1 : az.tmps[46]?.getD undef = .int .i64 (q : Nat) := by rw [← Array.getD_eq_getD_getElem?]; exact v1
                  clear v1
                  have v2 : az.eval (.tmp 40) = .bool true := hd 5 40 (by kernel_rfl) (by kernel_rfl)
                  have g2 := tmp_bool v2
                  have u2 : az.tmps[40]?.getD undef = .bool true := by rw [← Array.getD_eq_getD_getElem?]; exact v2
                  clear v2
                  clear hd hf
                  replace hK : ∀ w', (fun wz => Below wr.heap.size wr wz) w' → K (az.put (some 47) (.pointer (some ⟨bk, q, none⟩))) w' := hK
                  have HK := Lib.hid hK
                  clear hK
                  have hjl := hqn
                  show if Region.wanted _ (yielded _ az.tmps) = true then Oper.wp _ _ az wz K _ else _
                  go_simp
                  exact HK.out _ hR
                · simp only [List.getElem?_toArray, List.getElem?_cons_zero, List.getElem?_cons_succ, Option.some.injEq] at ho
                  subst ho
                  have v0 : az.eval (.tmp 47) = .pointer (some ⟨bk, q, none⟩) := hd 12 47 (by kernel_rfl) (by kernel_rfl)
                  have u0 : az.tmps[47]?.getD undef = .pointer (some ⟨bk, q, none⟩) := by rw [← Array.getD_eq_getD_getElem?]; exact v0
                  clear v0
                  have v1 : az.eval (.tmp 40) = .bool true := hd 5 40 (by kernel_rfl) (by kernel_rfl)
                  have g1 := tmp_bool v1
                  have u1 : az.tmps[40]?.getD undef = .bool true := by rw [← Array.getD_eq_getD_getElem?]; exact v1
                  clear v1
                  clear hd hf
                  replace hK : ∀ w', (fun wz => Below wr.heap.size wr wz) w' → K (az.put (some 48) (.slice qa ql qc)) w' := hK
                  have HK := Lib.hid hK
                  clear hK
                  have c0 := (cellLow (hR.block _ HKQ.out.1) _).trans HKQ.out.2.1
                  show if Region.wanted _ (yielded _ az.tmps) = true then Oper.wp _ _ az wz K _ else _
                  go_simp
                  exact HK.out _ hR
                · simp only [List.getElem?_toArray, List.getElem?_cons_zero, List.getElem?_cons_succ, Option.some.injEq] at ho
                  subst ho
                  have v0 : az.eval (.tmp 44) = .slice ra rl rc := hd 9 44 (by kernel_rfl) (by kernel_rfl)
                  have u0 : az.tmps[44]?.getD undef = .slice ra rl rc := by rw [← Array.getD_eq_getD_getElem?]; exact v0
                  clear v0
                  have v1 : az.eval (.tmp 48) = .slice qa ql qc := hd 13 48 (by kernel_rfl) (by kernel_rfl)
                  have u1 : az.tmps[48]?.getD undef = .slice qa ql qc := by rw [← Array.getD_eq_getD_getElem?]; exact v1
                  clear v1
                  have v2 : az.eval (.tmp 40) = .bool true := hd 5 40 (by kernel_rfl) (by kernel_rfl)
                  have g2 := tmp_bool v2
                  have u2 : az.tmps[40]?.getD undef = .bool true := by rw [← Array.getD_eq_getD_getElem?]; exact v2
                  clear v2
                  clear hd hf
                  replace hK : ∀ w', (fun wz => Below wr.heap.size wr wz) w' → K (az.put (some 49) (.bool d)) w' := hK
                  have HK := Lib.hid hK
                  clear hK
                  show if Region.wanted _ (yielded _ az.tmps) = true then Oper.wp _ _ az wz K _ else _
                  go_simp
                  refine (ek17 ra qa rl rc ql qc key keyq (fun _ => True) (fun _ => True) wz (HLK.out) (HKR.out.2.2.below hR) (HKQ.out.2.2.below hR)).mono ?_
                  rintro e w5 hD
                  obtain ⟨he, hB5⟩ := hD.ex
                  rw [HDD.out] at he
                  obtain rfl := he.symm
                  go_simp
                  exact HK.out _ (hR.trans (hB5.mono hR.size))
                · simp only [List.getElem?_toArray, List.getElem?_cons_zero, List.getElem?_cons_succ, Option.some.injEq] at ho
                  subst ho
                  have v0 : az.eval (.tmp 40) = .bool true := hd 5 40 (by kernel_rfl) (by kernel_rfl)
                  have u0 : az.tmps[40]?.getD undef = .bool true := by rw [← Array.getD_eq_getD_getElem?]; exact v0
                  clear v0
                  have v1 : az.eval (.tmp 49) = .bool d := hd 14 49 (by kernel_rfl) (by kernel_rfl)
                  have u1 : az.tmps[49]?.getD undef = .bool d := by rw [← Array.getD_eq_getD_getElem?]; exact v1
                  clear v1
                  clear hd hf
                  replace hK : ∀ w', (fun wz => Below wr.heap.size wr wz) w' → K (az.put (some 50) (.bool d)) w' := hK
                  have HK := Lib.hid hK
                  clear hK
                  show if Region.wanted _ (yielded _ az.tmps) = true then Oper.wp _ _ az wz K _ else _
                  go_simp
                  exact HK.out _ hR
              case h010 => exact (Below.refl _ _).drew
              case hend10 =>
                intro wz hR
                have HR := hid hR
                clear hR
                simp only [List.foldl_cons, List.foldl_nil, Act.put, List.setIfInBounds_toArray, List.set_cons_zero, List.set_cons_succ]
                cases d
                · go_wp2_with fail
                  go_roundg g4
                  case measure => omega
                  case rel =>
                    refine ⟨q + 1, false, rfl, rfl, by simp; omega, by omega, by omega, (fun h => by cases h), fun _ j h1 h2 => ?_, HBL.out.1.keepI HR.out.size (fun k hk => HR.out.block k (HBL.out.1.ge k hk).2), HBL.out.2.1.trans (HR.out.mono HBL.out.2.1.size)⟩
                    by_cases e : j < q
                    · exact HBL.out.2.2.1 (by first | rfl | trivial) j h1 e
                    · have e2 : j = q := by omega
                      subst e2
                      rintro ⟨_, _, c2⟩
                      rw [HBL.out.2.2.2] at c2
                      exact (of_decide_eq_false HDD.out) c2.symm
                · go_wp2_with fail
                  go_roundg 0
                  case measure => omega
                  case rel =>
                    refine ⟨q + 1, true, rfl, rfl, by simp, by omega, by omega, fun _ => ⟨q, hrq, hql, ?_, ?_⟩, (fun h => by cases h), HBL.out.1.keepI HR.out.size (fun k hk => HR.out.block k (HBL.out.1.ge k hk).2), HBL.out.2.1.trans (HR.out.mono HBL.out.2.1.size)⟩
                    · rw [HBL.out.2.2.2]
                    · rw [HBL.out.2.2.2]
                      exact (of_decide_eq_true HDD.out).symm
end Go.Proofs.Ytphimfimnakclaa
