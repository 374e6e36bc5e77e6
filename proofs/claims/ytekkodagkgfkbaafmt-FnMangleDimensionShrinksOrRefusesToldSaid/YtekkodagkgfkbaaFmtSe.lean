/-
  shiftDot answers a text of a bounded size and a boolean, or refuses, and does not panic. Conditions: the offset is -3 or 3, the text is no longer than a mebibyte.
-/
import Derived.Test.YtekkodagkgfkbaaFmtSd
import Derived.Stop.CallBack
import Derived.Stop.IfaceNil
import Derived.Stop.Texts
import Derived.WalkSpells
import Derived.Deep.DeepCutAuto
import Derived.Deep.RegionWith
import Derived.BigRegion
import Derived.BigQuiet
import Derived.Lib.IndexLaws
namespace Go.Proofs.YtekkodagkgfkbaaFmt
open Go.Kit Go.RowKit Go.Lib Go.Extern.Stop Go.Stop Go.Extern
@[local go_sem] theorem call16 (args : Array Value) (w : World) : (callFunc 16 args).run Tryf.prog w = ((FmtStop.sprintf #[9, 98] #[9] args).run Tryf.prog w).andThen fun v w' => .ok (.value v) w' :=
  run_callFunc_extern Tryf.func16 (by kernel_rfl) (by kernel_rfl) (by kernel_rfl) (by kernel_rfl) args w
@[local go_sem] theorem fguard (name : String) (w : World) : (FmtStop.guard name).run Tryf.prog w = .ok () w := by kernel_rfl
@[local go_sem] theorem fmtA : FmtStop.printed? ⟨#[37, 115, 37, 115, 37, 115]⟩ 3 = some [(0, 115, false), (1, 115, false), (2, 115, false)] := by kernel_rfl
@[local go_sem] theorem fmtAr (w : World) : (FmtDoors.printed ⟨#[37, 115, 37, 115, 37, 115]⟩ 3).run Tryf.prog w = .ok [(0, 115, false), (1, 115, false), (2, 115, false)] w := by kernel_rfl
@[local go_sem] theorem fmtB : FmtStop.printed? ⟨#[37, 115, 37, 115, 46, 37, 115]⟩ 3 = some [(0, 115, false), (1, 115, false), (2, 115, false)] := by kernel_rfl
@[local go_sem] theorem fmtBr (w : World) : (FmtDoors.printed ⟨#[37, 115, 37, 115, 46, 37, 115]⟩ 3).run Tryf.prog w = .ok [(0, 115, false), (1, 115, false), (2, 115, false)] w := by kernel_rfl
def shape9 : List UInt8 := [12, 6, 0, 0, 0, 0, 0, 0, 0, 115, 116, 114, 105, 110, 103]
@[local go_sem] theorem op9_115 (name : String) (x : ByteArray) (w : World) : (FmtStop.operand name false 115 false (.iface 9 (.string x))).run Tryf.prog w = .ok (shape9, FmtStop.pack x.data.toList) w := by kernel_rfl
@[local go_sem] theorem strict9 (name : String) (x : ByteArray) (w : World) : (FmtStop.strict name (.iface 9 (.string x))).run Tryf.prog w = .ok (shape9, FmtStop.pack x.data.toList) w := by kernel_rfl
structure StrR (e : Ending) : Prop where
  ex : ∃ (t : ByteArray) (b : Bool), e = .returned (.tuple #[.string t, .bool b]) ∧ t.size ≤ maxLen
theorem StrR.mk' {t : ByteArray} {b : Bool} (h : t.size ≤ maxLen) : StrR (.returned (.tuple #[.string t, .bool b])) := ⟨⟨t, b, rfl, h⟩⟩
def szOf : Value → Nat
  | .string s => s.size
  | _ => 0
structure SdI (w : World) (v0 v7 : Value) (wx : World) : Prop where
  ex : ∃ (T : ByteArray) (d : Int), v0 = .string T ∧ v7 = .int .i64 d ∧ -3 ≤ d ∧ d ≤ T.size + 3 ∧ T.size ≤ 1048576 ∧ Below w.heap.size w wx
structure SdC (w : World) (v0 v7 : Value) (wx : World) : Prop where
  ex : ∃ (T : ByteArray) (d : Nat), v0 = .string T ∧ v7 = .int .i64 d ∧ d ≤ T.size ∧ T.size ≤ 1048576 ∧ Below w.heap.size w wx
structure SdF (w : World) (v0 v7 : Value) (wx : World) : Prop where
  ex : ∃ (T : ByteArray) (d : Nat), v0 = .string T ∧ v7 = .int .i64 d ∧ d ≤ T.size ∧ T.size ≤ 1048580 ∧ Below w.heap.size w wx
structure SdS (w : World) (v0 v6 : Value) (wx : World) : Prop where
  ex : ∃ (T S : ByteArray), v0 = .string T ∧ v6 = .string S ∧ T.size ≤ 1048576 ∧ Below w.heap.size w wx
structure SdB (n : Nat) (w1 : World) (v : Value) (wx : World) : Prop where
  ex : ∃ b : Bool, v = .bool b ∧ (b = true → 0 < n) ∧ wx = w1
set_option maxHeartbeats 2000000 in
set_option maxRecDepth 100000 in
theorem sd10 (F : Interp) (text : ByteArray) (off : Int) (hoff : off = -3 ∨ off = 3) (hsz : text.size ≤ 1048576) (w : World) (hF : F.answers w.tape) :
    Calls Tryf.prog 10 #[.string text, .int .i64 off] w fun e w' => StrR e ∧ Below w.heap.size w w' := by
  have HF := hid hF
  clear hF
  have cA := hid (ca13 text hsz w)
  go_enter Tryf.func10, Tryf.ntmps10
  go_wp2_with fail
  refine cA.out.mono ?_
  rintro e w1 ⟨⟨b, rfl⟩, hb⟩
  have HB := hid hb
  clear hb cA
  go_upto_region 4 with fail
  · exact bodyPost_ret (v := .tuple #[.string ⟨#[]⟩, .bool false]) (by simp [results, Tryf.results10, go_sem]) rfl ⟨StrR.mk' (by decide), HB.out⟩
  go_cut [23] (fun v wx => SdB text.size w1 v wx)
  case first =>
    rename_i J KK hJ hKK
    by_cases h0 : text.size = 0
    · go_wp2_with fail
      refine Met.intro (hJ _ _ ?_)
      repeat apply Exists.intro
      exact ⟨⟨⟨false, rfl, by simp, rfl⟩⟩, rfl⟩
    · have h1 : 0 < text.size := by omega
      obtain ⟨x, hx⟩ : ∃ x : UInt8, text[0]'(by omega) = x := ⟨_, rfl⟩
      go_wp2_with fail
      all_goals
        refine Met.intro (hJ _ _ ?_)
        repeat apply Exists.intro
        refine ⟨⟨⟨_, rfl, fun _ => h1, rfl⟩⟩, rfl⟩
  case rest =>
    obtain ⟨b4, rfl, h0, hw⟩ := hcut.ex
    obtain rfl := hw.symm
    have H0 := hid h0
    clear hcut h0
    go_upto_if 23 with fail
    go_cut [0, 6] (fun v0 v6 wx => SdS w v0 v6 wx)
    case first =>
      rename_i J KK hJ hKK
      cases b4 with
      | false =>
        go_wp2_with fail
        refine Met.intro (hJ _ _ ?_)
        repeat apply Exists.intro
        exact ⟨⟨⟨text, ⟨#[]⟩, rfl, rfl, hsz, HB.out⟩⟩, rfl⟩
      | true =>
        have h1 : 0 < text.size := H0.out rfl
        go_wp2_with fail
        refine Met.intro (hJ _ _ ?_)
        repeat apply Exists.intro
        exact ⟨⟨⟨_, _, rfl, rfl, by simp; omega, HB.out⟩⟩, rfl⟩
    case rest =>
      obtain ⟨T, S, rfl, rfl, hT, hb⟩ := hcut.ex
      clear hcut HB H0
      have HB := hid hb
      clear hb
      have hge := indexByte_ge T.data.toList 46
      obtain ⟨D, hD⟩ : ∃ D, indexByte T.data.toList 46 = D := ⟨_, rfl⟩
      have hlt : D < T.size := by
        by_cases h : D < 0
        · omega
        · obtain ⟨o, ho⟩ : ∃ o : Nat, D = o := ⟨D.toNat, by omega⟩
          subst ho
          have := (indexByte_some hD).1
          have h2 := (List.getElem?_eq_some_iff.1 this).1
          rw [← Lib.size_eq] at h2
          omega
      have c14 : Calls Tryf.prog 14 #[.string T, .int .u8 46] wc fun e w' => e = .returned (.int .i64 D) ∧ w' = wc := by
        have := Tryf.strings_IndexByte T 46 wc
        rw [show (46 : Int).toNat.toUInt8 = 46 from rfl, hD] at this
        exact this
      rw [hD] at hge
      have C14 := hid c14
      clear c14 hD
      go_upto_region 8 with fail
      refine C14.out.mono ?_
      rintro e wx ⟨rfl, hw⟩
      obtain rfl := hw.symm
      clear C14
      go_upto_if 31 with fail
      go_cut [0, 7] (fun v0 v7 wx => SdC w v0 v7 wx)
      case first =>
        rename_i J KK hJ hKK
        by_cases hm : D = -1
        · subst hm
          go_wp2_with fail
          refine Met.intro (hJ _ _ ?_)
          repeat apply Exists.intro
          exact ⟨⟨⟨T, T.size, rfl, rfl, Nat.le_refl _, hT, HB.out⟩⟩, rfl⟩
        · obtain ⟨d, rfl⟩ : ∃ d : Nat, D = d := ⟨D.toNat, by omega⟩
          have hlt' : d < T.size := by omega
          have hw1 : IntKind.i64.wrap ((d : Int) + 1) = ((d + 1 : Nat) : Int) := by rw [IntKind.wrap_i64]; omega
          go_wp2_with fail
          go_region
          go_wp2_with fail
          refine Met.intro (hJ _ _ ?_)
          repeat apply Exists.intro
          exact ⟨⟨⟨_, d, rfl, rfl, by simp; omega, by simp; omega, bdn HB.out _⟩⟩, rfl⟩
      case rest =>
        obtain ⟨T2, d, rfl, rfl, hd, hT2, hb2⟩ := hcut.ex
        clear hcut HB hT hge hlt T D hw
        have hw2 : IntKind.i64.wrap ((d : Int) + off) = d + off := by rw [IntKind.wrap_i64]; omega
        have HB := hid (show SdI w (.string T2) (.int .i64 (d + off)) wc from ⟨T2, _, rfl, rfl, by omega, by omega, hT2, hb2⟩)
        clear hb2
        go_upto_block 0 with fail
        go_cut [0, 7] (fun v0 v7 wx => SdI w v0 v7 wx)
        case first =>
          rename_i J KK hJ hKK
          go_wp2_with fail
          go_loopw [0, 7] (fun v0 v7 wr => SdI w v0 v7 wr) (fun v0 _ _ => szOf v0)
          case atStart => exact HB.out
          case round =>
            obtain ⟨T, D, rfl, rfl, h1, h2, hT, hb⟩ := hrel.ex
            clear hrel HB hw2
            have HB := hid hb
            clear hb
            have hw3 : 0 < D → IntKind.i64.wrap (D - 1) = D - 1 := fun h => by rw [IntKind.wrap_i64]; omega
            by_cases hz : T.size = 0
            · go_wp2_with fail
              refine Met.intro (hJ _ _ ?_)
              repeat apply Exists.intro
              exact ⟨⟨⟨T, D, rfl, rfl, h1, h2, hT, HB.out⟩⟩, rfl⟩
            · have hz1 : 0 < T.size := by omega
              by_cases hp : 0 < D
              · have hw4 := hw3 hp
                clear hw3
                by_cases hx : ((T[0]'hz1).toNat : Int) = 48
                · go_wp2_with fail
                  exact ⟨⟨⟨_, _, rfl, rfl, by omega, by simp; omega, by simp; omega, HB.out⟩⟩, by simp [szOf]; omega⟩
                · go_wp2_with fail
                  refine Met.intro (hJ _ _ ?_)
                  repeat apply Exists.intro
                  exact ⟨⟨⟨T, D, rfl, rfl, h1, h2, hT, HB.out⟩⟩, rfl⟩
              · clear hw3
                go_wp2_with fail
                refine Met.intro (hJ _ _ ?_)
                repeat apply Exists.intro
                exact ⟨⟨⟨T, D, rfl, rfl, h1, h2, hT, HB.out⟩⟩, rfl⟩
        case rest =>
          obtain ⟨T3, d3, rfl, rfl, h1, h2, hT3, hb⟩ := hcut.ex
          clear hcut HB hw2
          have HB := hid (show SdI w (.string T3) (.int .i64 d3) wc from ⟨T3, _, rfl, rfl, h1, h2, hT3, hb⟩)
          clear hb h1 h2
          go_upto_block 2 with fail
          go_cut [0] (fun v0 wx => SdI w v0 (.int .i64 d3) wx)
          case first =>
            rename_i J KK hJ hKK
            go_wp2_with fail
            go_loopw [0] (fun v0 wr => SdI w v0 (.int .i64 d3) wr) (fun v0 _ => szOf v0)
            case atStart => exact HB.out
            case round =>
              obtain ⟨T, D, rfl, hdd, h1, h2, hT, hb⟩ := hrel.ex
              obtain rfl : d3 = D := by injection hdd
              clear hrel HB hdd
              have HB := hid hb
              clear hb
              by_cases hz : T.size = 0
              · go_wp2_with fail
                refine Met.intro (hJ _ _ ?_)
                repeat apply Exists.intro
                exact ⟨⟨⟨T, d3, rfl, rfl, h1, h2, hT, HB.out⟩⟩, rfl⟩
              · have hz1 : 0 < T.size := by omega
                by_cases hp : d3 < T.size
                · have hw4 : IntKind.i64.wrap ((T.size : Int) - 1) = ((T.size - 1 : Nat) : Int) := by rw [IntKind.wrap_i64]; omega
                  have hlt4 : T.size - 1 < T.size := by omega
                  by_cases hx : ((T[T.size - 1]'(by omega)).toNat : Int) = 48
                  · go_wp2_with fail
                    exact ⟨⟨⟨_, _, rfl, rfl, by omega, by simp; omega, by simp; omega, HB.out⟩⟩, by simp [szOf]; omega⟩
                  · go_wp2_with fail
                    refine Met.intro (hJ _ _ ?_)
                    repeat apply Exists.intro
                    exact ⟨⟨⟨T, d3, rfl, rfl, h1, h2, hT, HB.out⟩⟩, rfl⟩
                · go_wp2_with fail
                  refine Met.intro (hJ _ _ ?_)
                  repeat apply Exists.intro
                  exact ⟨⟨⟨T, d3, rfl, rfl, h1, h2, hT, HB.out⟩⟩, rfl⟩
          case rest =>
            obtain ⟨T, D, rfl, hdd, h1, h2, hT, hb⟩ := hcut.ex
            obtain rfl : d3 = D := by injection hdd
            clear hcut HB hdd
            have HB := hid hb
            clear hb
            by_cases hge : (T.size : Int) ≤ d3
            · obtain ⟨c, hc⟩ : ∃ c : Nat, d3 - T.size = c := ⟨(d3 - T.size).toNat, by omega⟩
              have hw5 : IntKind.i64.wrap (d3 - T.size) = c := by rw [IntKind.wrap_i64]; omega
              have cR := hid (Tryf.strings_Repeat ⟨#[48]⟩ c wc (by omega) (by simp [ByteArray.size]; omega))
              clear hc
              go_wp2_with fail
              refine cR.out.mono ?_
              rintro e w3 ⟨rfl, hb3⟩
              generalize (⟨(Lib.repeatL (ByteArray.mk #[48]).data.toList c).toArray⟩ : ByteArray) = z at *
              have hB3 := HB.out.trans (hb3.mono HB.out.size)
              have hF3 := answers_open (F := F) (tape := w3.tape) (by rw [hB3.tape]; exact HF.out)
              clear hb3 cR HB
              have HB := hid hB3
              clear hB3
              go_wp2_with fail
              exact bodyPost_ret (v := .tuple #[.string (FmtStop.textOf (F "fmt.Sprintf" [[37, 115, 37, 115, 37, 115], shape9, FmtStop.pack S.data.toList, shape9, FmtStop.pack T.data.toList, shape9, FmtStop.pack z.data.toList] 0)), .bool true]) (by simp [results, Tryf.results10, go_sem]) rfl ⟨StrR.mk' (textOf_size _), ((HB.out.alloc HB.out.size _)).drew⟩
            · have hlt : d3 < T.size := by omega
              go_upto_if 101 with fail
              go_cut [0, 7] (fun v0 v7 wx => SdF w v0 v7 wx)
              case first =>
                rename_i J KK hJ hKK
                by_cases hn : d3 < 0
                · obtain ⟨c, hc⟩ : ∃ c : Nat, -d3 = c := ⟨(-d3).toNat, by omega⟩
                  have hw5 : IntKind.i64.wrap (-d3) = c := by rw [IntKind.wrap_i64]; omega
                  have cR := hid (Tryf.strings_Repeat ⟨#[48]⟩ c wc (by omega) (by simp [ByteArray.size]; omega))
                  have hzs : (⟨(Lib.repeatL (ByteArray.mk #[48]).data.toList c).toArray⟩ : ByteArray).size ≤ 3 := by
                    simp [ByteArray.size, Lib.repeatL_length]; omega
                  clear hc
                  go_wp2_with fail
                  refine cR.out.mono ?_
                  rintro e w3 ⟨rfl, hb3⟩
                  generalize (⟨(Lib.repeatL (ByteArray.mk #[48]).data.toList c).toArray⟩ : ByteArray) = z at *
                  have hB3 := HB.out.trans (hb3.mono HB.out.size)
                  clear hb3 cR HB
                  have HB := hid hB3
                  clear hB3
                  go_wp2_with fail
                  refine Met.intro (hJ _ _ ?_)
                  repeat apply Exists.intro
                  exact ⟨⟨⟨_, 0, rfl, rfl, by omega, by simp; omega, HB.out⟩⟩, rfl⟩
                · obtain ⟨c, rfl⟩ : ∃ c : Nat, d3 = c := ⟨d3.toNat, by omega⟩
                  go_wp2_with fail
                  refine Met.intro (hJ _ _ ?_)
                  repeat apply Exists.intro
                  exact ⟨⟨⟨T, c, rfl, rfl, by omega, by omega, HB.out⟩⟩, rfl⟩
              case rest =>
                obtain ⟨T5, d5, rfl, rfl, hd5, hT5, hb⟩ := hcut.ex
                clear hcut
                have hF3 := answers_open (F := F) (tape := wc.tape) (by rw [hb.tape]; exact HF.out)
                clear HB
                have HB := hid hb
                clear hb
                have hd5' : (d5 : Int) ≤ T5.size := by omega
                go_wp2_with fail
                go_region_with (fail)
                go_wp2_with fail
                exact bodyPost_ret (v := .tuple #[.string (FmtStop.textOf (F "fmt.Sprintf" [[37, 115, 37, 115, 46, 37, 115], shape9, FmtStop.pack (S).data.toList, shape9, FmtStop.pack (T5.extract 0 d5).data.toList, shape9, FmtStop.pack (T5.extract d5 T5.size).data.toList] 0)), .bool true]) (by simp [results, Tryf.results10, go_sem]) rfl ⟨StrR.mk' (textOf_size _), ((HB.out.alloc HB.out.size _)).drew.drew⟩
end Go.Proofs.YtekkodagkgfkbaaFmt
