/-
  The law holds at every input that reads as selectors. Conditions: each theorem's own.
-/
import Derived.Test.YtllafdcijpdopaaGreatFmtPq
import Derived.Test.YtllafdcijpdopaaGreatFmtPr
import Derived.Test.YtllafdcijpdopaaGreatFmtPu
import Derived.Test.YtllafdcijpdopaaGreatFmtPv
import Derived.Test.YtllafdcijpdopaaGreatFmtPx
import Derived.Test.YtllafdcijpdopaaGreatFmtPy
namespace Go.Proofs.YtllafdcijpdopaaGreatFmt
open Go.RowKit Go.Lib
set_option maxHeartbeats 16000000 in
set_option maxRecDepth 100000 in
theorem law_bad (v : Value) (xs : List CxM) (a0 d b : Int) (hbad : 2 < a0 ∨ d < 0 ∨ 4096 < d ∨ b < 0 ∨ 4096 < b) (w : World) (h : CxsAt w v xs) : Calls Tryz.prog 3 #[.int .u8 a0, v, .int .i64 d, .int .i64 b] w fun e w' => e = .returned (.bool true) ∧ Below w.heap.size w w' := by
  have C4 := hid (zz4 a0 v xs d b w h)
  have HH := hid h
  have HBAD := hid hbad
  clear h hbad
  go_enter Tryz.func3, Tryz.ntmps3
  go_wp2_with fail
  refine C4.out.mono ?_
  rintro e w1 ⟨⟨b4, rfl, hb⟩, hw⟩
  obtain rfl := hw.symm
  clear C4
  cases b4 with
  | false =>
    go_wp2_with fail
    go_ret
    exact ⟨rfl, Below.refl _ _⟩
  | true =>
    have HB := hid (hb rfl)
    clear hb
    have C5 := hid (bytes5 v xs w HH.out HB.out)
    go_wp2_with fail
    refine C5.out.mono ?_
    rintro e w1 ⟨⟨k, rfl⟩, hb1⟩
    have HB1 := hid hb1
    clear hb1 C5
    by_cases hk : (1048576 : Int) < k
    · go_wp2_with fail
      go_ret
      exact ⟨rfl, HB1.out⟩
    · by_cases c1 : 2 < a0
      · go_wp2_with fail
        go_ret
        exact ⟨rfl, HB1.out⟩
      · by_cases c2 : d < 0
        · go_wp2_with fail
          go_ret
          exact ⟨rfl, HB1.out⟩
        · by_cases c3 : 4096 < d
          · go_wp2_with fail
            go_ret
            exact ⟨rfl, HB1.out⟩
          · by_cases c4 : b < 0
            · go_wp2_with fail
              go_ret
              exact ⟨rfl, HB1.out⟩
            · have c5 : 4096 < b := by have := HBAD.out; omega
              go_wp2_with fail
              go_ret
              exact ⟨rfl, HB1.out⟩
theorem law3 (v : Value) (xs : List CxM) (a0 d b : Int) (ha : 0 ≤ a0) (w : World) (h : CxsAt w v xs) : Calls Tryz.prog 3 #[.int .u8 a0, v, .int .i64 d, .int .i64 b] w fun e w' => e = .returned (.bool true) ∧ Below w.heap.size w w' := by
  by_cases hbad : 2 < a0 ∨ d < 0 ∨ 4096 < d ∨ b < 0 ∨ 4096 < b
  · exact law_bad v xs a0 d b hbad w h
  · obtain ⟨n, rfl⟩ := Int.eq_ofNat_of_zero_le (show 0 ≤ d by omega)
    obtain ⟨m, rfl⟩ := Int.eq_ofNat_of_zero_le (show 0 ≤ b by omega)
    have hn : n ≤ 4096 := by omega
    have hm : m ≤ 4096 := by omega
    have h3 : a0 = 0 ∨ a0 = 1 ∨ a0 = 2 := by omega
    by_cases h0 : 0 < n
    · rcases h3 with rfl | rfl | rfl
      · exact law_m v xs n m hn hm h0 w h
      · exact law_l v xs n m hn hm h0 w h
      · exact law_k v xs n m hn hm h0 w h
    · rcases h3 with rfl | rfl | rfl
      · exact law_mz v xs n m hn hm h0 w h
      · exact law_lz v xs n m hn hm h0 w h
      · exact law_kz v xs n m hn hm h0 w h
end Go.Proofs.YtllafdcijpdopaaGreatFmt
