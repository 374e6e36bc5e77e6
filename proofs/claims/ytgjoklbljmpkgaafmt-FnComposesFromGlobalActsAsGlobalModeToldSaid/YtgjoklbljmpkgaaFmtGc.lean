/-
  What unicode.asciiFold and ast.InvalidRef hold; unicode.SimpleFold at the ASCII letters; strings.EqualFold against a word without k and s: what a true answer tells. Conditions: the tables read as the card lists them.
-/
import Derived.Test.YtgjoklbljmpkgaaFmtRows
import Derived.Test.YtgjoklbljmpkgaaFmtSh
import Derived.Lib.LaidU8
import Derived.WalkKit
import Derived.ProofKit
import Derived.Handy
import Derived.Below
import Derived.ScopeJumps
import Derived.WalkMore
import Derived.Deep.LoopGhost
import Derived.Laws.RangeAny
import Derived.Laws.Strings3
import Derived.Lib.Walk
import Derived.Lib.Strings
import Derived.Lib.DecodeN
import Derived.Lib.Hide
namespace Go.Proofs.YtgjoklbljmpkgaaFmt
open Go.RowKit Go.Lib
def afT : List Int := [0, 1, 2, 3, 4, 5, 6, 7, 8, 9, 10, 11, 12, 13, 14, 15, 16, 17, 18, 19, 20, 21, 22, 23, 24, 25, 26, 27, 28, 29, 30, 31, 32, 33, 34, 35, 36, 37, 38, 39, 40, 41, 42, 43, 44, 45, 46, 47, 48, 49, 50, 51, 52, 53, 54, 55, 56, 57, 58, 59, 60, 61, 62, 63, 64, 97, 98, 99, 100, 101, 102, 103, 104, 105, 106, 107, 108, 109, 110, 111, 112, 113, 114, 115, 116, 117, 118, 119, 120, 121, 122, 91, 92, 93, 94, 95, 96, 65, 66, 67, 68, 69, 70, 71, 72, 73, 74, 8490, 76, 77, 78, 79, 80, 81, 82, 383, 84, 85, 86, 87, 88, 89, 90, 123, 124, 125, 126, 127]
structure Tabs (w : World) : Prop where
  af : ∀ i, i < 128 → w.cell? ⟨2, i, none⟩ = some (.int .u16 (afT.getD i 0))
  inv : w.cell? ⟨1, 0, none⟩ = some (.int .u32 4294967295) ∧ w.cell? ⟨1, 1, none⟩ = some (.int .u32 4294967295)
theorem Tabs.below {w w' : World} (h : Tabs w) (hb : Below w.heap.size w w') : Tabs w' := by
  have lt : ∀ (b o : Nat) v, w.cell? ⟨b, o, none⟩ = some v → b < w.heap.size := fun b o v e => by
    refine Classical.byContradiction fun hn => ?_
    unfold World.cell? at e
    simp [Array.getElem?_eq_none (show w.heap.size ≤ b by omega)] at e
  have up : ∀ (b o : Nat) v, w.cell? ⟨b, o, none⟩ = some v → w'.cell? ⟨b, o, none⟩ = some v := fun b o v e => (hb.cell (p := ⟨b, o, none⟩) (lt b o v e)).trans e
  exact ⟨fun i hi => up _ _ _ (h.af i hi), up _ _ _ h.inv.1, up _ _ _ h.inv.2⟩
theorem afEq : (Rows.laid_unicode_asciiFold : DataW Unit) = tabData .u16 afT := by kernel_rfl
def ivData : DataW Unit := .agg ([4294967295, 4294967295].map fun z => .lit (.int .u32 z))
theorem ivEq : (Rows.laid_github_com_evanw_esbuild_internal_ast_InvalidRef : DataW Unit) = ivData := by kernel_rfl
theorem tabs_of_reads {w : World} (h0 : VarReads Tryf.prog w "unicode.asciiFold" (tabData .u16 afT)) (h1 : VarReads Tryf.prog w "github.com/evanw/esbuild/internal/ast.InvalidRef" ivData) : Tabs w := by
  have c73 : Tryf.prog.cellsOf 73 = 1 := by kernel_rfl
  have c148 : Tryf.prog.cellsOf 148 = 128 := by kernel_rfl
  have c34 : Tryf.prog.cellsOf 34 = 1 := by kernel_rfl
  have c84 : Tryf.prog.cellsOf 84 = 2 := by kernel_rfl
  have n0 : Tryf.prog.globalNamed "unicode.asciiFold" = some 2 := by kernel_rfl
  have n1 : Tryf.prog.globalNamed "github.com/evanw/esbuild/internal/ast.InvalidRef" = some 1 := by kernel_rfl
  have y0 : (Tryf.prog.globals[2]?).map (·.type) = some 148 := by kernel_rfl
  have y1 : (Tryf.prog.globals[1]?).map (·.type) = some 84 := by kernel_rfl
  constructor
  · obtain ⟨g, t, cs, fuel, p, hg, hty, hvar, hd⟩ := h0
    obtain rfl := Option.some.inj (n0.symm.trans hg)
    obtain rfl := Option.some.inj (y0.symm.trans hty)
    have hcs := cells_of_tab Tryf.underlying148 Tryf.underlying73 c73 c148 hd
    have hal : afT.length = 128 := by kernel_rfl
    intro i hi
    rw [World.var?_cell hg hvar i, ← Array.getElem?_toList, hcs, List.getElem?_map, List.getD_eq_getElem?_getD, List.getElem?_eq_getElem (by omega)]
    rfl
  · obtain ⟨g, t, cs, fuel, p, hg, hty, hvar, hd⟩ := h1
    obtain rfl := Option.some.inj (n1.symm.trans hg)
    obtain rfl := Option.some.inj (y1.symm.trans hty)
    have hcs := ints_of_struct Tryf.underlying84 (fun j f hj => by
        match j, hj with
        | 0, hj => simp at hj; subst hj; exact ⟨Tryf.underlying34, rfl, c34⟩
        | 1, hj => simp at hj; subst hj; exact ⟨Tryf.underlying34, rfl, c34⟩
        | j + 2, hj => simp at hj) (by rw [c84]; rfl) (show DataW.trod _ _ _ _ _ _ _ _ _ = some (.agg (([4294967295, 4294967295] : List Int).map fun z => .lit (.int .u32 z)), p) from hd)
    refine ⟨?_, ?_⟩
    · rw [World.var?_cell hg hvar 0, ← Array.getElem?_toList, hcs]
      rfl
    · rw [World.var?_cell hg hvar 1, ← Array.getElem?_toList, hcs]
      rfl
set_option maxRecDepth 100000 in
theorem sfA (c : Nat) (hc : c < 128) (w : World) (hT : Tabs w) : Calls Tryf.prog 22 #[.int .i32 c] w fun e w' => e = .returned (.int .i32 (afT.getD c 0)) ∧ w' = w := by
  have q := hT.af c hc
  have hb : ∀ i, i < 128 → 0 ≤ afT.getD i 0 ∧ afT.getD i 0 ≤ 65535 := by decide
  obtain ⟨b0, b1⟩ := hb c hc
  clear hT
  generalize afT.getD c 0 = V at *
  have hc' : (c : Int) < 128 := by omega
  go_enter Tryf.func22, Tryf.ntmps22
  go_wp2_with fail
  go_ret
  exact ⟨rfl, rfl⟩

section
variable {P : Program} {a : Act} {w : World} {Q : Exit → Act → World → Prop}
theorem jump_normal {l J} : Exit.jump l J Q .normal a w = Q .normal a w := rfl
theorem jump_exit {l J} (id : Nat) : Exit.jump l J Q (.exit id) a w = Q (.exit id) a w := rfl
theorem jump_ret {l J} : Exit.jump l J Q .ret a w = Q .ret a w := rfl
theorem jump_panic {l J} (ch : List PanicEntry) : Exit.jump l J Q (.panic ch) a w = Q (.panic ch) a w := rfl
theorem jump_goto {l l' J} : Exit.jump l J Q (.goto l') a w = (l' = l ∧ J a w) := rfl
/-- a scope in which one jump forward may be made, once -/
theorem wp_scope_once {c rest : Code} (l : Nat) (hf : findLabel c l = some rest) (first : c.wp P (Exit.jump l (fun a w => rest.wp P (Exit.noGoto Q) a w) Q) a w) : (Code.scope c).wp P Q a w :=
  wp_scope_jumps l _ (fun _ _ => 0) hf first (fun a w h => wp_mono h (fun e a w q => by cases e <;> first | exact q | exact q.elim))
end
attribute [local go_sem] jump_normal jump_exit jump_ret jump_panic jump_goto

def lEq (a b : Nat) : Prop := a = b ∨ (65 ≤ a ∧ a ≤ 90 ∧ a + 32 = b)
/-- what a true answer tells -/
def Fit (s t : ByteArray) : Prop := s.size = t.size ∧ ∀ j, j < t.size → lEq (s.get! j).toNat (t.get! j).toNat
structure EfR (s t : ByteArray) (e : Ending) : Prop where
  ex : ∃ b, e = .returned (.bool b) ∧ (b = true → Fit s t)
theorem EfR.no (s t : ByteArray) : EfR s t (.returned (.bool false)) := ⟨false, rfl, fun h => by cases h⟩
theorem EfR.yes {s t : ByteArray} {b : Bool} (h : b = true → Fit s t) : EfR s t (.returned (.bool b)) := ⟨b, rfl, h⟩
def Good (c : Nat) : Prop := 97 ≤ c ∧ c ≤ 122 ∧ c ≠ 107 ∧ c ≠ 115
theorem af_good : ∀ c, c < 128 → (97 ≤ c ∧ c ≤ 122 ∧ c ≠ 107 ∧ c ≠ 115) → afT.getD c 0 = (c : Int) - 32 ∧ afT.getD (c - 32) 0 = (c : Int) := by decide
theorem sfLow (c : Nat) (h : Good c) (w : World) (hT : Tabs w) : Calls Tryf.prog 22 #[.int .i32 c] w fun e w' => e = .returned (.int .i32 ((c : Int) - 32)) ∧ w' = w := by
  have := sfA c (by have := h.2.1; omega) w hT
  rw [(af_good c (by have := h.2.1; omega) h).1] at this
  exact this
theorem sfUp (c : Nat) (h : Good c) (w : World) (hT : Tabs w) : Calls Tryf.prog 22 #[.int .i32 ((c : Int) - 32)] w fun e w' => e = .returned (.int .i32 c) ∧ w' = w := by
  have h1 := h.1
  have := sfA (c - 32) (by have := h.2.1; omega) w hT
  rw [(af_good c (by have := h.2.1; omega) h).2] at this
  rw [show ((c : Int) - 32) = ((c - 32 : Nat) : Int) from by omega]
  exact this
theorem gi (s : ByteArray) (i j : Nat) (h : i + j < s.size) : (s.extract i s.size)[j]'(by simp; omega) = s[i + j] := by
  first | (rw [ByteArray.getElem_extract]) | (show (s.extract i s.size).data[j]'(by simp; omega) = s.data[i + j]'h; simp [ByteArray.data_extract])
set_option maxHeartbeats 2000000 in
set_option maxRecDepth 100000 in
theorem ef14 (s t : ByteArray) (w : World) (hT : Tabs w) (hs : s.size ≤ 1048576) (hc : ∀ j, j < t.size → Good (t.get! j).toNat) :
    Calls Tryf.prog 14 #[.string s, .string t] w fun e w' => EfR s t e ∧ Below w.heap.size w w' := by
  have HT := hid hT
  have HC := hid hc
  clear hT hc
  obtain ⟨M, hM⟩ : ∃ M : Nat, min (s.size : Int) (t.size : Int) = (M : Int) := ⟨min s.size t.size, by omega⟩
  have hMs : M ≤ s.size := by omega
  have hMt : M ≤ t.size := by omega
  have hMe : M = s.size ∨ M = t.size := by omega
  go_enter Tryf.func14, Tryf.ntmps14
  go_wp2
  refine wp_scope_once 0 rfl ?_
  go_wp2
  go_loopg [5] M (fun g s5 wx => w = wx ∧ ∃ i : Nat, i + g = M ∧ s5 = .int .i64 i ∧ Hid (∀ j, j < i → lEq (s.get! j).toNat (t.get! j).toNat))
  case atStart => exact ⟨rfl, 0, by omega, rfl, hid (fun j hj => by omega)⟩
  case round =>
    obtain ⟨rfl, i, hig, rfl, HI⟩ := hrel
    clear hM
    cases gk with
    | zero =>
      have hiM : ¬ ((i : Int) < (M : Int)) := by omega
      obtain rfl : i = M := by omega
      have hF : s.size = t.size → Fit s t := fun h => ⟨h, fun j hj => HI.out j (by omega)⟩
      by_cases hst : s.size = t.size
      · have hb : ((s.size : Int) == (t.size : Int)) = true := beq_iff_eq.2 (by omega)
        have HF := hid (hF hst)
        clear hF
        go_wp2
        go_ret
        exact ⟨EfR.yes (fun _ => HF.out), Below.refl _ _⟩
      · have hb : ((s.size : Int) == (t.size : Int)) = false := beq_eq_false_iff_ne.2 (by omega)
        clear hF
        go_wp2
        go_ret
        exact ⟨EfR.no _ _, Below.refl _ _⟩
    | succ g =>
      have hiM : (i : Int) < (M : Int) := by omega
      have hisz : (i : Int) < (s.size : Int) := by omega
      have hitz : (i : Int) < (t.size : Int) := by omega
      obtain ⟨x, hx⟩ : ∃ x : UInt8, s[i]'(by omega) = x := ⟨_, rfl⟩
      obtain ⟨y, hy⟩ : ∃ y : UInt8, t[i]'(by omega) = y := ⟨_, rfl⟩
      have gx : s.get! i = x := by rw [← hx]; simp [ByteArray.get!, getElem!_pos, show i < s.size by omega]; rfl
      have gy : t.get! i = y := by rw [← hy]; simp [ByteArray.get!, getElem!_pos, show i < t.size by omega]; rfl
      have hy0 := HC.out i (by omega)
      rw [gy] at hy0
      have hyb := hy0
      unfold Good at hyb
      have Hg : Hid (s.get! i = x ∧ t.get! i = y) := hid ⟨gx, gy⟩
      clear gx gy
      by_cases hx128 : x.toNat < 128
      · have hor : bits .or .u8 (x.toNat : Int) (y.toNat : Int) = ((x.toNat ||| y.toNat : Nat) : Int) := u8_or_nat _ _ (by omega) (by omega)
        have hor128 : ¬ ((128 : Int) ≤ ((x.toNat ||| y.toNat : Nat) : Int)) := by have := Nat.or_lt_two_pow (n := 7) hx128 (show y.toNat < 2 ^ 7 by omega); omega
        go_wp2
        all_goals (try simp only [beq_iff_eq, beq_eq_false_iff_ne, ne_eq] at *)
        all_goals first
          | (go_roundg g
             case measure => omega
             case rel =>
               refine ⟨rfl, i + 1, by omega, by first | rfl | simp, hid (fun j hj => ?_)⟩
               by_cases hji : j < i
               · exact HI.out j hji
               · obtain rfl : j = i := by omega
                 rw [Hg.out.1, Hg.out.2]
                 unfold lEq
                 omega)
          | (go_ret
             exact ⟨EfR.no _ _, Below.refl _ _⟩)
      · have hor : bits .or .u8 (x.toNat : Int) (y.toNat : Int) = ((x.toNat ||| y.toNat : Nat) : Int) := u8_or_nat _ _ (by have := x.toNat_lt; omega) (by omega)
        have hor128 : (128 : Int) ≤ ((x.toNat ||| y.toNat : Nat) : Int) := by have : x.toNat ≤ x.toNat ||| y.toNat := Nat.left_le_or; omega
        go_wp2
        go_step3
        go_wp2
        refine ⟨rfl, ?_⟩
        go_wp2
        have hS : (s.extract i s.size).size = s.size - i := by simp
        have hTz : (t.extract i t.size).size = t.size - i := by simp
        have hR := (decode_high (s.extract i s.size) 0 (by rw [hS]; omega) (by rw [gi s i 0 (by omega), ← hx] at *; simpa using hx128)).1
        have hRl := decode_le (s.extract i s.size) 0
        have hT0 : (t.extract i t.size).data.toList[0]? = some y := by
          rw [Lib.data_getElem? _ 0 (by rw [hTz]; omega)]
          rw [gi t i 0 (by omega)]
          simp [hy]
        have hnx := fun ty => run_next_any (P := Tryf.prog) w (s.extract i s.size) 0 ty (by rw [hS]; omega)
        simp only [Nat.zero_add] at hnx
        have hTb : Tabs (w.iter (s.extract i s.size) (Utf8.decode (s.extract i s.size) 0).2) := HT.out.below ((Below.refl _ _).alloc (Nat.le_refl _) _)
        have hBl : ∀ pos, Below w.heap.size w (w.iter (s.extract i s.size) pos) := fun pos => (Below.refl _ _).alloc (Nat.le_refl _) _
        have HB := hid hBl
        have hem : ((t.extract i t.size).extract 1 (t.extract i t.size).size).size = t.size - i - 1 := by simp
        have hS0 : 0 < (s.extract i s.size).size := by omega
        have hT1 : 0 < (t.extract i t.size).size := by omega
        generalize hSe : s.extract i s.size = S at *
        generalize hTe : t.extract i t.size = T at *
        generalize hRR : (Utf8.decode S 0).1 = R at *
        generalize hKK : (Utf8.decode S 0).2 = K at *
        have cD := Tryf.utf8_DecodeRuneInString_ascii T y (w.iter S K) hT0 (by omega)
        clear hSe hTe hRR hKK hT0 hBl hor hor128 hx hy hx128
        have hT1' : (1 : Int) ≤ (T.size : Int) := by omega
        have hRI : (128 : Int) ≤ (R : Int) := by omega
        obtain ⟨Y, hY⟩ : ∃ Y : Nat, y.toNat = Y := ⟨_, rfl⟩
        rw [hY] at hy0 cD hyb
        have CD := hid cD
        have c1 := hid (sfLow Y hy0 _ hTb)
        have c2 := hid (sfUp Y hy0 _ hTb)
        have b1 : ((Y : Int) == (R : Int)) = false := beq_eq_false_iff_ne.2 (by omega)
        have b2 : (((Y : Int) - 32) == (Y : Int)) = false := beq_eq_false_iff_ne.2 (by omega)
        have b3 : (Y : Int) < R := by omega
        have b4 : (Y : Int) - 32 < R := by omega
        clear cD hTb hy0 hY
        refine wp_loop_rounds 1 ?_
        rw [rounds_succ]
        go_wp2_with fail
        refine (CD.out).mono ?_
        rintro e wx ⟨rfl, hw⟩
        obtain rfl := hw.symm
        go_wp2_with fail
        refine (c1.out).mono ?_
        rintro e wx ⟨rfl, hw⟩
        obtain rfl := hw.symm
        go_wp2_with fail
        refine wp_loop_rounds 3 ?_
        rw [rounds_succ]
        go_wp2_with fail
        refine (c2.out).mono ?_
        rintro e wx ⟨rfl, hw⟩
        obtain rfl := hw.symm
        go_wp2_with fail
        rw [rounds_succ]
        go_wp2_with fail
        rw [Exit.noGoto_ret]
        go_ret
        exact ⟨EfR.no _ _, HB.out _⟩
end Go.Proofs.YtgjoklbljmpkgaaFmt
