/-
  What unicode's two folding tables hold, and unicode.SimpleFold at the letters m, M, s, S and at U+017F. Conditions: the tables read as the card lists them.
-/
import Derived.Test.YtekkodagkgfkbaaFmtRows
import Derived.Lib.LaidU8
import Derived.WalkKit
import Derived.ProofKit
import Derived.Handy
import Derived.Below
namespace Go.Proofs.YtekkodagkgfkbaaFmt
open Go.RowKit Go.Lib

def afT : List Int := [0, 1, 2, 3, 4, 5, 6, 7, 8, 9, 10, 11, 12, 13, 14, 15, 16, 17, 18, 19, 20, 21, 22, 23, 24, 25, 26, 27, 28, 29, 30, 31, 32, 33, 34, 35, 36, 37, 38, 39, 40, 41, 42, 43, 44, 45, 46, 47, 48, 49, 50, 51, 52, 53, 54, 55, 56, 57, 58, 59, 60, 61, 62, 63, 64, 97, 98, 99, 100, 101, 102, 103, 104, 105, 106, 107, 108, 109, 110, 111, 112, 113, 114, 115, 116, 117, 118, 119, 120, 121, 122, 91, 92, 93, 94, 95, 96, 65, 66, 67, 68, 69, 70, 71, 72, 73, 74, 8490, 76, 77, 78, 79, 80, 81, 82, 383, 84, 85, 86, 87, 88, 89, 90, 123, 124, 125, 126, 127]
def coT : List (Int × Int) := [(75, 107), (83, 115), (107, 8490), (115, 383), (181, 924), (197, 229), (223, 7838), (229, 8491), (304, 304), (305, 305), (383, 83), (452, 453), (453, 454), (454, 452), (455, 456), (456, 457), (457, 455), (458, 459), (459, 460), (460, 458), (497, 498), (498, 499), (499, 497), (837, 921), (912, 8147), (914, 946), (917, 949), (920, 952), (921, 953), (922, 954), (924, 956), (928, 960), (929, 961), (931, 962), (934, 966), (937, 969), (944, 8163), (946, 976), (949, 1013), (952, 977), (953, 8126), (954, 1008), (956, 181), (960, 982), (961, 1009), (962, 963), (963, 931), (966, 981), (969, 8486), (976, 914), (977, 1012), (981, 934), (982, 928), (1008, 922), (1009, 929), (1012, 920), (1013, 917), (1042, 1074), (1044, 1076), (1054, 1086), (1057, 1089), (1058, 1090), (1066, 1098), (1074, 7296), (1076, 7297), (1086, 7298), (1089, 7299), (1090, 7300), (1098, 7302), (1122, 1123), (1123, 7303), (7296, 1042), (7297, 1044), (7298, 1054), (7299, 1057), (7300, 7301), (7301, 1058), (7302, 1066), (7303, 1122), (7304, 42570), (7776, 7777), (7777, 7835), (7835, 7776), (7838, 223), (8126, 837), (8147, 912), (8163, 944), (8486, 937), (8490, 75), (8491, 197), (42570, 42571), (42571, 7304), (64261, 64262), (64262, 64261)]
structure Tabs (w : World) : Prop where
  af : ∀ i, i < 128 → w.cell? ⟨0, i, none⟩ = some (.int .u16 (afT.getD i 0))
  co : ∃ R o k, w.cell? ⟨1, 0, none⟩ = some (.slice (some ⟨R, o, none⟩) 94 k) ∧ ∀ i, i < 94 → w.cell? ⟨R, o + 2 * i, none⟩ = some (.int .u16 (coT.getD i (0, 0)).1) ∧ w.cell? ⟨R, o + 2 * i + 1, none⟩ = some (.int .u16 (coT.getD i (0, 0)).2)
theorem Tabs.below {w w' : World} (h : Tabs w) (hb : Below w.heap.size w w') : Tabs w' := by
  have lt : ∀ (b o : Nat) v, w.cell? ⟨b, o, none⟩ = some v → b < w.heap.size := fun b o v e => by
    refine Classical.byContradiction fun hn => ?_
    unfold World.cell? at e
    simp [Array.getElem?_eq_none (show w.heap.size ≤ b by omega)] at e
  have up : ∀ (b o : Nat) v, w.cell? ⟨b, o, none⟩ = some v → w'.cell? ⟨b, o, none⟩ = some v := fun b o v e => (hb.cell (p := ⟨b, o, none⟩) (lt b o v e)).trans e
  obtain ⟨R, o, k, h1, h2⟩ := h.co
  exact ⟨fun i hi => up _ _ _ (h.af i hi), R, o, k, up _ _ _ h1, fun i hi => ⟨up _ _ _ (h2 i hi).1, up _ _ _ (h2 i hi).2⟩⟩

theorem afEq : (Rows.laid_unicode_asciiFold : DataW Unit) = tabData .u16 afT := by kernel_rfl
def coData : DataW Unit := .slice (coT.map fun x => .agg ([x.1, x.2].map fun z => .lit (.int .u16 z))) []
theorem coEq : (Rows.laid_unicode_caseOrbit : DataW Unit) = coData := by kernel_rfl
theorem cell_spot {w : World} {b o : Nat} {sp : Option Nat} {v : Value} (h : w.cell? ⟨b, o, sp⟩ = some v) : sp = none := by
  cases sp with
  | none => rfl
  | some x =>
    unfold World.cell? at h
    split at h <;> simp at h
theorem tabs_of_reads {w : World} (h0 : VarReads Tryf.prog w "unicode.asciiFold" (tabData .u16 afT)) (h1 : VarReads Tryf.prog w "unicode.caseOrbit" coData) : Tabs w := by
  have c34 : Tryf.prog.cellsOf 34 = 1 := by kernel_rfl
  have c35 : Tryf.prog.cellsOf 35 = 128 := by kernel_rfl
  have c39 : Tryf.prog.cellsOf 39 = 2 := by kernel_rfl
  have n0 : Tryf.prog.globalNamed "unicode.asciiFold" = some 0 := by kernel_rfl
  have n1 : Tryf.prog.globalNamed "unicode.caseOrbit" = some 1 := by kernel_rfl
  have y0 : (Tryf.prog.globals[0]?).map (·.type) = some 35 := by kernel_rfl
  have y1 : (Tryf.prog.globals[1]?).map (·.type) = some 36 := by kernel_rfl
  have hlT : coT.length = 94 := by kernel_rfl
  constructor
  · obtain ⟨g, t, cs, fuel, p, hg, hty, hvar, hd⟩ := h0
    obtain rfl := Option.some.inj (n0.symm.trans hg)
    obtain rfl := Option.some.inj (y0.symm.trans hty)
    have hcs := cells_of_tab Tryf.underlying35 Tryf.underlying34 c34 c35 hd
    have hal : afT.length = 128 := by kernel_rfl
    intro i hi
    rw [World.var?_cell hg hvar i, ← Array.getElem?_toList, hcs, List.getElem?_map, List.getD_eq_getElem?_getD, List.getElem?_eq_getElem (by omega)]
    rfl
  · obtain ⟨g, t, cs, fuel, p, hg, hty, hvar, hd⟩ := h1
    obtain rfl := Option.some.inj (n1.symm.trans hg)
    obtain rfl := Option.some.inj (y1.symm.trans hty)
    rcases DataW.trod_slice Tryf.underlying36 hd with ⟨_, hx'⟩ | ⟨a', len, cap, el, rs, m, rfl, hc0, hx', _, hlc, _, hel, helem, hsp, _⟩
    · cases hx'
    have e0 := congrArg Prod.fst hx'
    simp only [coData, DataW.slice.injEq] at e0
    obtain ⟨eE, eR⟩ := e0
    have hlen : len = 94 := by
      have := congrArg List.length eE
      simp only [List.length_map] at this
      omega
    subst hlen
    have hrow : ∀ i, i < 94 → w.cell? (a'.add (i * 2)) = some (.int .u16 (coT.getD i (0, 0)).1) ∧ w.cell? ((a'.add (i * 2)).add 1) = some (.int .u16 (coT.getD i (0, 0)).2) := by
      intro i hi
      have h1 := helem i hi
      rw [c39] at h1
      obtain ⟨b, hb⟩ : ∃ b, el[i]? = some b := ⟨el[i]'(by omega), List.getElem?_eq_getElem (by omega)⟩
      rw [hb] at h1
      obtain ⟨ce, hce, hte⟩ := Option.bind_eq_some_iff.1 h1
      have hb1 : b.1 = .agg ([(coT.getD i (0, 0)).1, (coT.getD i (0, 0)).2].map fun z => .lit (.int .u16 z)) := by
        have := congrArg (·[i]?) eE
        simp only [List.getElem?_map, hb, Option.map_some] at this
        have hi' : i < coT.length := by omega
        rw [List.getElem?_eq_getElem hi'] at this
        simp only [Option.map_some, Option.some.injEq] at this
        rw [← this, List.getD_eq_getElem?_getD, List.getElem?_eq_getElem hi']
        rfl
      obtain ⟨b1, b2⟩ := b
      simp only at hb1
      subst hb1
      have hcs := ints_of_struct Tryf.underlying39 (fun j f hj => by
        match j, hj with
        | 0, hj => simp at hj; subst hj; exact ⟨Tryf.underlying34, rfl, c34⟩
        | 1, hj => simp at hj; subst hj; exact ⟨Tryf.underlying34, rfl, c34⟩
        | j + 2, hj => simp at hj) (by rw [c39]; rfl) hte
      obtain ⟨_, _, hcc⟩ := World.cells?_some hce
      have k0 := hcc 0 (by omega)
      have k1 := hcc 1 (by omega)
      rw [hcs] at k0 k1
      exact ⟨by simpa [Addr.add] using k0, k1⟩
    obtain ⟨R, oR, sR⟩ := a'
    obtain rfl : sR = none := by
      have h00 := (hrow 0 (by omega)).1
      have : (Addr.add ⟨R, oR, sR⟩ (0 * 2)) = ⟨R, oR, sR⟩ := by simp [Addr.add]
      rw [this] at h00
      exact cell_spot h00
    refine ⟨R, oR, cap, ?_, fun i hi => ?_⟩
    · rw [World.var?_cell hg hvar 0, ← Array.getElem?_toList, hc0]
      rfl
    · have := hrow i hi
      have e0 : (Addr.add ⟨R, oR, none⟩ (i * 2)) = ⟨R, oR + 2 * i, none⟩ := by
        cases i with
        | zero => rfl
        | succ n => simp only [Addr.add]; rw [if_neg (by omega), Nat.mul_comm]
      rw [e0] at this
      exact this

set_option maxRecDepth 100000 in
theorem sfA (c : Nat) (hc : c < 128) (w : World) (hT : Tabs w) : Calls Tryf.prog 12 #[.int .i32 c] w fun e w' => e = .returned (.int .i32 (afT.getD c 0)) ∧ w' = w := by
  have q := hT.af c hc
  have hb : ∀ i, i < 128 → 0 ≤ afT.getD i 0 ∧ afT.getD i 0 ≤ 65535 := by decide
  obtain ⟨b0, b1⟩ := hb c hc
  clear hT
  generalize afT.getD c 0 = V at *
  have hc' : (c : Int) < 128 := by omega
  go_enter Tryf.func12, Tryf.ntmps12
  go_wp2_with fail
  go_ret
  exact ⟨rfl, rfl⟩

set_option maxRecDepth 100000 in
theorem sfS (w : World) (hT : Tabs w) : Calls Tryf.prog 12 #[.int .i32 383] w fun e w' => e = .returned (.int .i32 83) ∧ w' = w := by
  obtain ⟨R, o, k, h1, h2⟩ := hT.co
  have m47 := (h2 47 (by omega)).1
  have m23 := (h2 23 (by omega)).1
  have m11 := (h2 11 (by omega)).1
  have m5 := (h2 5 (by omega)).1
  have m8 := (h2 8 (by omega)).1
  have m10 := (h2 10 (by omega)).1
  have m9 := (h2 9 (by omega)).1
  have m10b := (h2 10 (by omega)).2
  rw [show (coT.getD 47 (0, 0)).1 = 966 from rfl] at m47
  rw [show (coT.getD 23 (0, 0)).1 = 837 from rfl] at m23
  rw [show (coT.getD 11 (0, 0)).1 = 452 from rfl] at m11
  rw [show (coT.getD 5 (0, 0)).1 = 197 from rfl] at m5
  rw [show (coT.getD 8 (0, 0)).1 = 304 from rfl] at m8
  rw [show (coT.getD 10 (0, 0)).1 = 383 from rfl] at m10
  rw [show (coT.getD 9 (0, 0)).1 = 305 from rfl] at m9
  rw [show (coT.getD 10 (0, 0)).2 = 83 from rfl] at m10b
  simp only [Nat.reduceMul] at m47 m23 m11 m5 m8 m10 m9 m10b
  clear h2 hT
  go_enter Tryf.func12, Tryf.ntmps12
  go_wp2_with fail
  go_rounds 8
  all_goals go_wp2_with fail
  go_ret
  exact ⟨rfl, rfl⟩
end Go.Proofs.YtekkodagkgfkbaaFmt
