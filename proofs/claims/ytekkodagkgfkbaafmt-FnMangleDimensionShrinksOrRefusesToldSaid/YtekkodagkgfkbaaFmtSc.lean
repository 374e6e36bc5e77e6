/-
  strings.EqualFold against "ms" and "s": what a true answer tells. Conditions: the tables read as the card lists them.
-/
import Derived.Test.YtekkodagkgfkbaaFmtSb
import Derived.Test.YtekkodagkgfkbaaFmtSh
import Derived.ScopeJumps
import Derived.WalkMore
import Derived.Deep.LoopGhost
import Derived.Laws.RangeAny
import Derived.Laws.Strings3
import Derived.Lib.Walk
import Derived.Lib.Strings
import Derived.Lib.DecodeN
import Derived.Lib.Hide
namespace Go.Proofs.YtekkodagkgfkbaaFmt
open Go.RowKit Go.Lib

section
variable {P : Program} {a : Act} {w : World} {Q : Exit → Act → World → Prop}
theorem jump_normal {l J} : Exit.jump l J Q .normal a w = Q .normal a w := rfl
theorem jump_exit {l J} (id : Nat) : Exit.jump l J Q (.exit id) a w = Q (.exit id) a w := rfl
theorem jump_ret {l J} : Exit.jump l J Q .ret a w = Q .ret a w := rfl
theorem jump_panic {l J} (ch : List PanicEntry) : Exit.jump l J Q (.panic ch) a w = Q (.panic ch) a w := rfl
theorem jump_goto {l l' J} : Exit.jump l J Q (.goto l') a w = (l' = l ∧ J a w) := rfl
/-- a scope in which one jump forward may be made, once -/
theorem wp_scope_once {c rest : Code} (l : Nat) (hf : findLabel c l = some rest) (first : c.wp P (Exit.jump l (fun a w => rest.wp P (Exit.noGoto Q) a w) Q) a w) : (Code.scope c).wp P Q a w :=
  wp_scope_jumps l _ (fun _ _ => 0) hf first (fun a w h => wp_mono h (fun e a w q => by cases e <;> first | exact q | exact q.elim))
end
attribute [local go_sem] jump_normal jump_exit jump_ret jump_panic jump_goto

def lEq (a b : Nat) : Prop := a = b ∨ (65 ≤ a ∧ a ≤ 90 ∧ a + 32 = b)
/-- what a true answer tells -/
def Fit (s t : ByteArray) : Prop :=
  (s.size = t.size ∧ ∀ j, j < t.size → lEq (s.get! j).toNat (t.get! j).toNat) ∨
  (s.size = t.size + 1 ∧ 0 < t.size ∧ (∀ j, j + 1 < t.size → lEq (s.get! j).toNat (t.get! j).toNat) ∧ (s.get! (t.size - 1)).toNat = 197 ∧ (s.get! t.size).toNat = 191)
structure EfR (s t : ByteArray) (e : Ending) : Prop where
  ex : ∃ b, e = .returned (.bool b) ∧ (b = true → Fit s t)
theorem EfR.no (s t : ByteArray) : EfR s t (.returned (.bool false)) := ⟨false, rfl, fun h => by cases h⟩
theorem EfR.yes {s t : ByteArray} {b : Bool} (h : b = true → Fit s t) : EfR s t (.returned (.bool b)) := ⟨b, rfl, h⟩

theorem dec383 (s : ByteArray) (pos : Nat) (hd : (Utf8.decode s pos).1 = 383) : pos + 1 < s.size ∧ (s.get! pos).toNat = 197 ∧ (s.get! (pos + 1)).toNat = 191 ∧ (Utf8.decode s pos).2 = 2 := by
  rw [decode_at] at hd ⊢
  have h0 := (s.get! pos).toNat_lt
  have h1 := (s.get! (pos + 1)).toNat_lt
  generalize (s.get! pos).toNat = b0 at *
  generalize (s.get! (pos + 1)).toNat = b1 at *
  generalize (s.get! (pos + 2)).toNat = b2 at *
  generalize (s.get! (pos + 3)).toNat = b3 at *
  unfold decodeN at hd ⊢
  repeat' split at hd
  all_goals first
    | (exfalso; simp only at hd; omega)
    | (simp only at hd
       rename_i c1 c2 c3
       refine ⟨by omega, by omega, by omega, ?_⟩
       rw [if_neg (by omega), if_pos (by omega), if_pos (by omega)])

theorem sf109 (w : World) (hT : Tabs w) : Calls Tryf.prog 12 #[.int .i32 109] w fun e w' => e = .returned (.int .i32 77) ∧ w' = w := by
  have := sfA 109 (by omega) w hT
  rw [show afT.getD 109 0 = 77 from by decide] at this
  exact this
theorem sf77 (w : World) (hT : Tabs w) : Calls Tryf.prog 12 #[.int .i32 77] w fun e w' => e = .returned (.int .i32 109) ∧ w' = w := by
  have := sfA 77 (by omega) w hT
  rw [show afT.getD 77 0 = 109 from by decide] at this
  exact this
theorem sf115 (w : World) (hT : Tabs w) : Calls Tryf.prog 12 #[.int .i32 115] w fun e w' => e = .returned (.int .i32 383) ∧ w' = w := by
  have := sfA 115 (by omega) w hT
  rw [show afT.getD 115 0 = 383 from by decide] at this
  exact this
theorem sf83 (w : World) (hT : Tabs w) : Calls Tryf.prog 12 #[.int .i32 83] w fun e w' => e = .returned (.int .i32 115) ∧ w' = w := by
  have := sfA 83 (by omega) w hT
  rw [show afT.getD 83 0 = 115 from by decide] at this
  exact this
theorem gi (s : ByteArray) (i j : Nat) (h : i + j < s.size) : (s.extract i s.size)[j]'(by simp; omega) = s[i + j] := by
  first | (rw [ByteArray.getElem_extract]) | (show (s.extract i s.size).data[j]'(by simp; omega) = s.data[i + j]'h; simp [ByteArray.data_extract])
theorem gex (s : ByteArray) (i j : Nat) (h : i + j < s.size) : (s.extract i s.size).get! j = s.get! (i + j) := by
  have e1 : ∀ (q : ByteArray) k (hk : k < q.size), q.get! k = q[k] := fun q k hk => Utf8W.get!_of_lt q k hk
  rw [e1 _ _ (by simp; omega), e1 _ _ h, gi s i j h]
set_option maxHeartbeats 2000000 in
set_option maxRecDepth 100000 in
theorem ef9 (s t : ByteArray) (w : World) (hT : Tabs w) (hs : s.size ≤ 1048576) (ht2 : t.size ≤ 2) (hc : ∀ j, j < t.size → (t.get! j).toNat = 109 ∨ ((t.get! j).toNat = 115 ∧ j + 1 = t.size)) :
    Calls Tryf.prog 9 #[.string s, .string t] w fun e w' => EfR s t e ∧ Below w.heap.size w w' := by
  have HT := hid hT
  have HC := hid hc
  clear hT hc
  obtain ⟨M, hM⟩ : ∃ M : Nat, min (s.size : Int) (t.size : Int) = (M : Int) := ⟨min s.size t.size, by omega⟩
  have hMs : M ≤ s.size := by omega
  have hMt : M ≤ t.size := by omega
  have hMe : M = s.size ∨ M = t.size := by omega
  go_enter Tryf.func9, Tryf.ntmps9
  go_wp2
  refine wp_scope_once 0 rfl ?_
  go_wp2
  go_loopg [5] M (fun g s5 wx => w = wx ∧ ∃ i : Nat, i + g = M ∧ s5 = .int .i64 i ∧ Hid (∀ j, j < i → lEq (s.get! j).toNat (t.get! j).toNat))
  case atStart => exact ⟨rfl, 0, by omega, rfl, hid (fun j hj => by omega)⟩
  case round =>
    obtain ⟨rfl, i, hig, rfl, HI⟩ := hrel
    clear hM
    cases gk with
    | zero =>
      have hiM : ¬ ((i : Int) < (M : Int)) := by omega
      obtain rfl : i = M := by omega
      have hF : s.size = t.size → Fit s t := fun h => Or.inl ⟨h, fun j hj => HI.out j (by omega)⟩
      by_cases hst : s.size = t.size
      · have hb : ((s.size : Int) == (t.size : Int)) = true := beq_iff_eq.2 (by omega)
        have HF := hid (hF hst)
        clear hF
        go_wp2
        go_ret
        exact ⟨EfR.yes (fun _ => HF.out), Below.refl _ _⟩
      · have hb : ((s.size : Int) == (t.size : Int)) = false := beq_eq_false_iff_ne.2 (by omega)
        clear hF
        go_wp2
        go_ret
        exact ⟨EfR.no _ _, Below.refl _ _⟩
    | succ g =>
      have hiM : (i : Int) < (M : Int) := by omega
      have hisz : (i : Int) < (s.size : Int) := by omega
      have hitz : (i : Int) < (t.size : Int) := by omega
      obtain ⟨x, hx⟩ : ∃ x : UInt8, s[i]'(by omega) = x := ⟨_, rfl⟩
      obtain ⟨y, hy⟩ : ∃ y : UInt8, t[i]'(by omega) = y := ⟨_, rfl⟩
      have gx : s.get! i = x := by rw [← hx]; simp [ByteArray.get!, getElem!_pos, show i < s.size by omega]; rfl
      have gy : t.get! i = y := by rw [← hy]; simp [ByteArray.get!, getElem!_pos, show i < t.size by omega]; rfl
      have hy0 := HC.out i (by omega)
      rw [gy] at hy0
      have Hg : Hid (s.get! i = x ∧ t.get! i = y) := hid ⟨gx, gy⟩
      clear gx gy
      by_cases hx128 : x.toNat < 128
      · have hor : bits .or .u8 (x.toNat : Int) (y.toNat : Int) = ((x.toNat ||| y.toNat : Nat) : Int) := u8_or_nat _ _ (by omega) (by omega)
        have hor128 : ¬ ((128 : Int) ≤ ((x.toNat ||| y.toNat : Nat) : Int)) := by have := Nat.or_lt_two_pow (n := 7) hx128 (show y.toNat < 2 ^ 7 by omega); omega
        go_wp2
        all_goals (try simp only [beq_iff_eq, beq_eq_false_iff_ne, ne_eq] at *)
        all_goals first
          | (go_roundg g
             case measure => omega
             case rel =>
               refine ⟨rfl, i + 1, by omega, by first | rfl | simp, hid (fun j hj => ?_)⟩
               by_cases hji : j < i
               · exact HI.out j hji
               · obtain rfl : j = i := by omega
                 rw [Hg.out.1, Hg.out.2]
                 unfold lEq
                 omega)
          | (go_ret
             exact ⟨EfR.no _ _, Below.refl _ _⟩)
      · have hor : bits .or .u8 (x.toNat : Int) (y.toNat : Int) = ((x.toNat ||| y.toNat : Nat) : Int) := u8_or_nat _ _ (by have := x.toNat_lt; omega) (by omega)
        have hor128 : (128 : Int) ≤ ((x.toNat ||| y.toNat : Nat) : Int) := by have : x.toNat ≤ x.toNat ||| y.toNat := Nat.left_le_or; omega
        go_wp2
        go_step3
        go_wp2
        refine ⟨rfl, ?_⟩
        go_wp2
        have hS : (s.extract i s.size).size = s.size - i := by simp
        have hTz : (t.extract i t.size).size = t.size - i := by simp
        have HD := hid (show ((Utf8.decode (s.extract i s.size) 0).1 = 383 → i + 1 < s.size ∧ (s.get! i).toNat = 197 ∧ (s.get! (i + 1)).toNat = 191 ∧ (Utf8.decode (s.extract i s.size) 0).2 = 2) from by
          intro h
          obtain ⟨h1, h2, h3, h4⟩ := dec383 _ _ h
          rw [hS] at h1
          rw [gex s i 0 (by omega)] at h2
          rw [gex s i (0 + 1) (by omega)] at h3
          exact ⟨by omega, h2, h3, h4⟩)
        have hR := (decode_high (s.extract i s.size) 0 (by rw [hS]; omega) (by rw [gi s i 0 (by omega), ← hx] at *; simpa using hx128)).1
        have hRl := decode_le (s.extract i s.size) 0
        have hT0 : (t.extract i t.size).data.toList[0]? = some y := by
          rw [Lib.data_getElem? _ 0 (by rw [hTz]; omega)]
          rw [gi t i 0 (by omega)]
          simp [hy]
        have hnx := fun ty => run_next_any (P := Tryf.prog) w (s.extract i s.size) 0 ty (by rw [hS]; omega)
        simp only [Nat.zero_add] at hnx
        have hTb : Tabs (w.iter (s.extract i s.size) (Utf8.decode (s.extract i s.size) 0).2) := HT.out.below ((Below.refl _ _).alloc (Nat.le_refl _) _)
        have hBl : ∀ pos, Below w.heap.size w (w.iter (s.extract i s.size) pos) := fun pos => (Below.refl _ _).alloc (Nat.le_refl _) _
        have HB := hid hBl
        have hem : ((t.extract i t.size).extract 1 (t.extract i t.size).size).size = t.size - i - 1 := by simp
        have hS0 : 0 < (s.extract i s.size).size := by omega
        have hT1 : 0 < (t.extract i t.size).size := by omega
        generalize hSe : s.extract i s.size = S at *
        generalize hTe : t.extract i t.size = T at *
        generalize hRR : (Utf8.decode S 0).1 = R at *
        generalize hKK : (Utf8.decode S 0).2 = K at *
        have cD := Tryf.utf8_DecodeRuneInString_ascii T y (w.iter S K) hT0 (by omega)
        clear hSe hTe hRR hKK hT0 hBl hor hor128 hx hy hx128
        have hT1' : (1 : Int) ≤ (T.size : Int) := by omega
        have hRI : (128 : Int) ≤ (R : Int) := by omega
        rcases hy0 with hy0 | ⟨hy0, hyl⟩
        · have hyI : (y.toNat : Int) = 109 := by omega
          rw [hyI] at cD
          have CD := hid cD
          have c1 := hid (sf109 _ hTb)
          have c2 := hid (sf77 _ hTb)
          clear cD hyI hTb
          refine wp_loop_rounds 1 ?_
          rw [rounds_succ]
          go_wp2_with fail
          refine (CD.out).mono ?_
          rintro e wx ⟨rfl, hw⟩
          obtain rfl := hw.symm
          go_wp2_with fail
          refine (c1.out).mono ?_
          rintro e wx ⟨rfl, hw⟩
          obtain rfl := hw.symm
          go_wp2_with fail
          refine wp_loop_rounds 3 ?_
          rw [rounds_succ]
          go_wp2_with fail
          refine (c2.out).mono ?_
          rintro e wx ⟨rfl, hw⟩
          obtain rfl := hw.symm
          go_wp2_with fail
          rw [rounds_succ]
          go_wp2_with fail
          rw [Exit.noGoto_ret]
          go_ret
          exact ⟨EfR.no _ _, HB.out _⟩
        · have hyI : (y.toNat : Int) = 115 := by omega
          have b1 : ((115 : Int) == (R : Int)) = false := beq_eq_false_iff_ne.2 (by omega)
          rw [hyI] at cD
          have CD := hid cD
          have c1 := hid (sf115 _ hTb)
          have c2 := hid (sfS _ hTb)
          have c3 := hid (sf83 _ hTb)
          clear cD hyI hTb
          by_cases h3 : R = 383
          · have b2 : ((383 : Int) == (R : Int)) = true := beq_iff_eq.2 (by omega)
            obtain ⟨d1, d2, d3, d4⟩ := HD.out h3
            have hK : K = 2 := d4
            subst hK
            by_cases hS2 : 2 < S.size
            · have hnx2 := fun ty => run_next_any (P := Tryf.prog) w S 2 ty hS2
              have ht0 : ((t.size : Int) - (i : Int) - 1) = 0 := by omega
              refine wp_loop_rounds 2 ?_
              rw [rounds_succ]
              go_wp2_with fail
              refine (CD.out).mono ?_
              rintro e wx ⟨rfl, hw⟩
              obtain rfl := hw.symm
              go_wp2_with fail
              refine (c1.out).mono ?_
              rintro e wx ⟨rfl, hw⟩
              obtain rfl := hw.symm
              go_wp2_with fail
              refine wp_loop_rounds 3 ?_
              rw [rounds_succ]
              go_wp2_with fail
              rw [rounds_succ]
              go_wp2_with fail
              rw [Exit.noGoto_ret]
              go_ret
              exact ⟨EfR.no _ _, HB.out _⟩
            · have hnx2 := fun ty => run_next_end (P := Tryf.prog) w S 2 ty hS2
              refine wp_loop_rounds 2 ?_
              rw [rounds_succ]
              go_wp2_with fail
              refine (CD.out).mono ?_
              rintro e wx ⟨rfl, hw⟩
              obtain rfl := hw.symm
              go_wp2_with fail
              refine (c1.out).mono ?_
              rintro e wx ⟨rfl, hw⟩
              obtain rfl := hw.symm
              go_wp2_with fail
              refine wp_loop_rounds 3 ?_
              rw [rounds_succ]
              go_wp2_with fail
              rw [rounds_succ]
              go_wp2_with fail
              rw [Exit.noGoto_ret]
              go_ret
              refine ⟨EfR.yes (fun _ => Or.inr ⟨by omega, by omega, fun j hj => HI.out j (by omega), ?_, ?_⟩), HB.out _⟩
              · rw [show t.size - 1 = i from by omega]; exact d2
              · rw [show t.size = i + 1 from by omega]; exact d3
          by_cases h4 : R < 383
          · have b2 : ((383 : Int) == (R : Int)) = false := beq_eq_false_iff_ne.2 (by omega)
            have b3 : (R : Int) ≤ 383 := by omega
            refine wp_loop_rounds 1 ?_
            rw [rounds_succ]
            go_wp2_with fail
            refine (CD.out).mono ?_
            rintro e wx ⟨rfl, hw⟩
            obtain rfl := hw.symm
            go_wp2_with fail
            refine (c1.out).mono ?_
            rintro e wx ⟨rfl, hw⟩
            obtain rfl := hw.symm
            go_wp2_with fail
            refine wp_loop_rounds 3 ?_
            rw [rounds_succ]
            go_wp2_with fail
            rw [Exit.noGoto_ret]
            go_ret
            exact ⟨EfR.no _ _, HB.out _⟩
          · have b2 : ((115 : Int) == (R : Int)) = false := beq_eq_false_iff_ne.2 (by omega)
            have b3 : (383 : Int) < R := by omega
            refine wp_loop_rounds 1 ?_
            rw [rounds_succ]
            go_wp2_with fail
            refine (CD.out).mono ?_
            rintro e wx ⟨rfl, hw⟩
            obtain rfl := hw.symm
            go_wp2_with fail
            refine (c1.out).mono ?_
            rintro e wx ⟨rfl, hw⟩
            obtain rfl := hw.symm
            go_wp2_with fail
            refine wp_loop_rounds 3 ?_
            rw [rounds_succ]
            go_wp2_with fail
            refine (c2.out).mono ?_
            rintro e wx ⟨rfl, hw⟩
            obtain rfl := hw.symm
            go_wp2_with fail
            rw [rounds_succ]
            go_wp2_with fail
            refine (c3.out).mono ?_
            rintro e wx ⟨rfl, hw⟩
            obtain rfl := hw.symm
            go_wp2_with fail
            rw [rounds_succ]
            go_wp2_with fail
            rw [Exit.noGoto_ret]
            go_ret
            exact ⟨EfR.no _ _, HB.out _⟩

end Go.Proofs.YtekkodagkgfkbaaFmt
