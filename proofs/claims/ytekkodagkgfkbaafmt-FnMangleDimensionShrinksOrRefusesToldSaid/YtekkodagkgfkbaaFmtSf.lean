/-
  mangleDimension, its caller and the length test: an answer is shorter and its unit tells the input's unit. Conditions: value and unit no longer than a mebibyte; the tables read as the card lists them.
-/
import Derived.Test.YtekkodagkgfkbaaFmtSe
import Derived.Test.YtekkodagkgfkbaaFmtSa
namespace Go.Proofs.YtekkodagkgfkbaaFmt
open Go.Kit Go.RowKit Go.Lib Go.Extern.Stop Go.Stop Go.Extern
abbrev tMs : ByteArray := ⟨#[109, 115]⟩
abbrev tS : ByteArray := ⟨#[115]⟩
theorem u8_of (a : UInt8) (n : Nat) (h : a.toNat = n) : a = UInt8.ofNat n := by subst h; simp
theorem size1 (u : ByteArray) (h : u.size = 1) : ∃ a, u = ⟨#[a]⟩ := by
  obtain ⟨⟨l⟩⟩ := u
  match l, h with
  | [a], _ => exact ⟨a, rfl⟩
theorem size2 (u : ByteArray) (h : u.size = 2) : ∃ a b, u = ⟨#[a, b]⟩ := by
  obtain ⟨⟨l⟩⟩ := u
  match l, h with
  | [a, b], _ => exact ⟨a, b, rfl⟩
theorem size3 (u : ByteArray) (h : u.size = 3) : ∃ a b c, u = ⟨#[a, b, c]⟩ := by
  obtain ⟨⟨l⟩⟩ := u
  match l, h with
  | [a, b, c], _ => exact ⟨a, b, c, rfl⟩
theorem fit_s (u : ByteArray) (h : Fit u tS) : sUnit u = true ∧ 1 ≤ u.size := by
  rcases h with ⟨h1, h2⟩ | ⟨h1, _, _, h3, h4⟩
  · obtain ⟨a, rfl⟩ := size1 u h1
    have := h2 0 (by decide)
    have e : a.toNat = 115 ∨ a.toNat = 83 := by
      change lEq a.toNat 115 at this
      unfold lEq at this; omega
    rcases e with e | e
    · obtain rfl := u8_of a _ e
      exact ⟨by decide +kernel, by decide⟩
    · obtain rfl := u8_of a _ e
      exact ⟨by decide +kernel, by decide⟩
  · obtain ⟨a, b, rfl⟩ := size2 u h1
    obtain rfl := u8_of a _ h3
    obtain rfl := u8_of b _ h4
    exact ⟨by decide +kernel, by decide⟩
theorem fit_ms (u : ByteArray) (h : Fit u tMs) : msUnit u = true ∧ 2 ≤ u.size := by
  rcases h with ⟨h1, h2⟩ | ⟨h1, _, h2, h3, h4⟩
  · obtain ⟨a, b, rfl⟩ := size2 u h1
    have k0 := h2 0 (by decide)
    have k1 := h2 1 (by decide)
    have e0 : a.toNat = 109 ∨ a.toNat = 77 := by
      change lEq a.toNat 109 at k0
      unfold lEq at k0; omega
    have e1 : b.toNat = 115 ∨ b.toNat = 83 := by
      change lEq b.toNat 115 at k1
      unfold lEq at k1; omega
    rcases e0 with e | e <;> rcases e1 with e' | e' <;>
    · obtain rfl := u8_of a _ e
      obtain rfl := u8_of b _ e'
      exact ⟨by decide +kernel, by decide⟩
  · obtain ⟨a, b, c, rfl⟩ := size3 u h1
    have k0 := h2 0 (by decide)
    have e0 : a.toNat = 109 ∨ a.toNat = 77 := by
      change lEq a.toNat 109 at k0
      unfold lEq at k0; omega
    obtain rfl := u8_of b _ h3
    obtain rfl := u8_of c _ h4
    rcases e0 with e | e <;>
    · obtain rfl := u8_of a _ e
      exact ⟨by decide +kernel, by decide⟩
structure MdR (v u : ByteArray) (e : Ending) : Prop where
  ex : ∃ (gv gu : ByteArray) (b : Bool), e = .returned (.tuple #[.string gv, .string gu, .bool b]) ∧ ((b = false ∧ gv = ⟨#[]⟩ ∧ gu = ⟨#[]⟩) ∨ (b = true ∧ ((gu = tS ∧ msUnit u = true ∧ wrap64 ((gv.size : Int) + 1) < (v.size : Int) + u.size) ∨ (gu = tMs ∧ sUnit u = true ∧ wrap64 ((gv.size : Int) + 2) < (v.size : Int) + u.size))))
structure BelH (w wx : World) : Prop where
  ex : Below w.heap.size w wx
theorem MdR.no (v u : ByteArray) : MdR v u (.returned (.tuple #[.string ⟨#[]⟩, .string ⟨#[]⟩, .bool false])) := ⟨⟨_, _, _, rfl, Or.inl ⟨rfl, rfl, rfl⟩⟩⟩
set_option maxHeartbeats 1000000 in
set_option maxRecDepth 100000 in
theorem md8 (F : Interp) (v u : ByteArray) (hv : v.size ≤ 1048576) (hu : u.size ≤ 1048576) (w : World) (hT : Tabs w) (hF : F.answers w.tape) :
    Calls Tryf.prog 8 #[.string v, .string u] w fun e w' => MdR v u e ∧ Below w.heap.size w w' := by
  have HF := hid hF
  have HT := hid hT
  clear hF hT
  have c1 := hid (ef9 u tMs w HT.out hu (by decide) (by decide))
  have hv1 : IntKind.i64.wrap ((v.size : Int) + 1) = (v.size : Int) + 1 := by rw [IntKind.wrap_i64]; omega
  have hv2 : IntKind.i64.wrap ((v.size : Int) + 2) = (v.size : Int) + 2 := by rw [IntKind.wrap_i64]; omega
  go_enter Tryf.func8, Tryf.ntmps8
  go_wp2_with fail
  refine c1.out.mono ?_
  rintro e w1 ⟨⟨b, rfl, hb⟩, hbel⟩
  have HB := hid hbel
  have HFit := hid hb
  clear hbel hb c1
  go_upto_if 12 with fail
  go_cut [] (fun wx => BelH w wx)
  case first =>
    rename_i J KK hJ hKK
    cases b with
    | true =>
      have hfit := fit_ms u (HFit.out rfl)
      have c2 := hid (sd10 F v (-3) (Or.inl rfl) hv w1 (by rw [HB.out.tape]; exact HF.out))
      clear HFit
      go_wp2_with fail
      refine c2.out.mono ?_
      rintro e w2 ⟨⟨t, b2, rfl, ht⟩, hb2⟩
      have HB2 := hid (HB.out.trans (hb2.mono HB.out.size))
      clear hb2 c2
      go_wp2_with fail
      · rename_i h1 h2
        exact bodyPost_ret (v := .tuple #[.string t, .string tS, .bool true]) (by simp [results, Tryf.results8, go_sem]) rfl ⟨⟨⟨_, _, _, rfl, Or.inr ⟨rfl, Or.inl ⟨rfl, hfit.1, by omega⟩⟩⟩⟩, HB2.out⟩
      all_goals
        refine Met.intro (hJ _ _ ?_)
        repeat apply Exists.intro
        exact ⟨⟨HB2.out⟩, rfl⟩
    | false =>
      go_wp2_with fail
      refine Met.intro (hJ _ _ ?_)
      repeat apply Exists.intro
      exact ⟨⟨HB.out⟩, rfl⟩
  case rest =>
    have HB := hid hcut.ex
    clear hcut HFit
    have c2 := hid (ef9 u tS wc (HT.out.below HB.out) hu (by decide) (by decide))
    go_wp2_with fail
    refine c2.out.mono ?_
    rintro e w2 ⟨⟨b3, rfl, hb3⟩, hbel⟩
    have HB2 := hid (HB.out.trans (hbel.mono HB.out.size))
    have HFit := hid hb3
    clear hbel hb3 c2 HB
    cases b3 with
    | false =>
      go_wp2_with fail
      exact bodyPost_ret (v := .tuple #[.string ⟨#[]⟩, .string ⟨#[]⟩, .bool false]) (by simp [results, Tryf.results8, go_sem]) rfl ⟨MdR.no v u, HB2.out⟩
    | true =>
      have hfit := fit_s u (HFit.out rfl)
      have c3 := hid (sd10 F v 3 (Or.inr rfl) hv w2 (by rw [HB2.out.tape]; exact HF.out))
      clear HFit
      go_wp2_with fail
      refine c3.out.mono ?_
      rintro e w3 ⟨⟨t, b2, rfl, ht⟩, hb2⟩
      have HB3 := hid (HB2.out.trans (hb2.mono HB2.out.size))
      clear hb2 c3 HB2
      go_wp2_with fail
      · rename_i h1 h2
        exact bodyPost_ret (v := .tuple #[.string t, .string tMs, .bool true]) (by simp [results, Tryf.results8, go_sem]) rfl ⟨⟨⟨_, _, _, rfl, Or.inr ⟨rfl, Or.inr ⟨rfl, hfit.1, by omega⟩⟩⟩⟩, HB3.out⟩
      all_goals
        exact bodyPost_ret (v := .tuple #[.string ⟨#[]⟩, .string ⟨#[]⟩, .bool false]) (by simp [results, Tryf.results8, go_sem]) rfl ⟨MdR.no v u, HB3.out⟩
set_option maxRecDepth 100000 in
theorem zz5 (F : Interp) (v u : ByteArray) (hv : v.size ≤ 1048576) (hu : u.size ≤ 1048576) (w : World) (hT : Tabs w) (hF : F.answers w.tape) :
    Calls Tryf.prog 5 #[.string v, .string u] w fun e w' => MdR v u e ∧ Below w.heap.size w w' := by
  have c8 := hid (md8 F v u hv hu w hT hF)
  clear hT hF
  go_enter Tryf.func5, Tryf.ntmps5
  go_wp2_with fail
  refine c8.out.mono ?_
  rintro e w1 ⟨⟨gv, gu, b, rfl, h⟩, hb⟩
  have HB := hid hb
  have H := hid h
  clear hb h c8
  go_wp2_with fail
  exact bodyPost_ret (v := .tuple #[.string gv, .string gu, .bool b]) (by simp [results, Tryf.results5, go_sem]) rfl ⟨⟨⟨_, _, _, rfl, H.out⟩⟩, HB.out⟩
set_option maxRecDepth 100000 in
theorem zb4 (v u : ByteArray) (w : World) : Calls Tryf.prog 4 #[.string v, .string u] w fun e w' => BoolR e ∧ w' = w := by
  by_cases h1 : v.size ≤ 1048576
  · have e1 : IntKind.i64.wrap ((v.size : Int)) = v.size := by rw [IntKind.wrap_i64]; omega
    by_cases h2 : u.size ≤ 1048576
    · have e2 : IntKind.i64.wrap ((v.size : Int) + u.size) = (v.size : Int) + u.size := by rw [IntKind.wrap_i64]; omega
      go_enter Tryf.func4, Tryf.ntmps4
      go_wp2_with fail
      all_goals
        go_ret
        exact ⟨⟨_, rfl⟩, rfl⟩
    · go_enter Tryf.func4, Tryf.ntmps4
      go_wp2_with fail
      all_goals
        go_ret
        exact ⟨⟨_, rfl⟩, rfl⟩
  · go_enter Tryf.func4, Tryf.ntmps4
    go_wp2_with fail
    go_ret
    exact ⟨⟨_, rfl⟩, rfl⟩
set_option maxRecDepth 100000 in
theorem law3 (F : Interp) (v u : ByteArray) (w : World) (hT : Tabs w) (hF : F.answers w.tape) :
    Calls Tryf.prog 3 #[.string v, .string u] w fun e w' => e = .returned (.bool true) ∧ Below w.heap.size w w' := by
  have HF := hid hF
  have HT := hid hT
  clear hF hT
  have c4 := hid (zb4 v u w)
  by_cases hv : v.size ≤ 1048576
  · by_cases hu : u.size ≤ 1048576
    · have c5 := hid (zz5 F v u hv hu w HT.out HF.out)
      have e2 : IntKind.i64.wrap ((v.size : Int) + u.size) = (v.size : Int) + u.size := by rw [IntKind.wrap_i64]; omega
      go_enter Tryf.func3, Tryf.ntmps3
      go_wp2_with fail
      refine c4.out.mono ?_
      rintro e wx ⟨⟨b, rfl⟩, hw⟩
      obtain rfl := hw.symm
      cases b with
      | false =>
        go_wp2_with fail
        go_ret
        exact ⟨rfl, Below.refl _ _⟩
      | true =>
        go_wp2_with fail
        refine c5.out.mono ?_
        rintro e w1 ⟨⟨gv, gu, b, rfl, h⟩, hb⟩
        have HB := hid hb
        clear hb c5 c4
        rcases h with ⟨rfl, rfl, rfl⟩ | ⟨rfl, hgu⟩
        · go_wp2_with fail
          go_ret
          exact ⟨rfl, HB.out⟩
        · rcases hgu with ⟨rfl, h, hs⟩ | ⟨rfl, h, hs⟩
          · have c6 := hid (isMs6 u w1)
            rw [h] at c6
            go_wp2_with fail
            refine c6.out.mono ?_
            rintro e wx ⟨rfl, hw⟩
            obtain rfl := hw.symm
            go_wp2_with fail
            go_ret
            exact ⟨rfl, HB.out⟩
          · have c6 := hid (isS7 u w1)
            rw [h] at c6
            go_wp2_with fail
            refine c6.out.mono ?_
            rintro e wx ⟨rfl, hw⟩
            obtain rfl := hw.symm
            go_wp2_with fail
            go_ret
            exact ⟨rfl, HB.out⟩
    · go_enter Tryf.func3, Tryf.ntmps3
      go_wp2_with fail
      refine c4.out.mono ?_
      rintro e wx ⟨⟨b, rfl⟩, hw⟩
      obtain rfl := hw.symm
      cases b <;>
      · go_wp2_with fail
        go_ret
        exact ⟨rfl, Below.refl _ _⟩
  · go_enter Tryf.func3, Tryf.ntmps3
    go_wp2_with fail
    refine c4.out.mono ?_
    rintro e wx ⟨⟨b, rfl⟩, hw⟩
    obtain rfl := hw.symm
    cases b <;>
    · go_wp2_with fail
      go_ret
      exact ⟨rfl, Below.refl _ _⟩
end Go.Proofs.YtekkodagkgfkbaaFmt
