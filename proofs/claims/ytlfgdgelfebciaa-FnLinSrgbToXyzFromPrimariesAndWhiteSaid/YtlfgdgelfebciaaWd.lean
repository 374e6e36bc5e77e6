/-
  The contracts of n011_62's zzDet3B1 and zzSrgbMatrixB1 (the matrix derived from the primaries): each step's word, proved by the kernel. Condition: none (the determinant's: its operations have answers).
-/
import Derived.Test.YtlfgdgelfebciaaWa
import Derived.Lib.Hide
import Derived.Handy
import Derived.BigQuiet
import Derived.Deep.QuietTactic
import Derived.BigRegion
import Derived.RegionTactic
namespace Go.Proofs.Ytlfgdgelfebciaa
open Go.ChangeShapes Go.WideShapes Go.ChangeAt Go.RowKit
attribute [local go_sem] run_store_float

set_option maxHeartbeats 2000000 in
set_option maxRecDepth 20000 in
theorem det8 (a0 a1 a2 a3 a4 a5 a6 a7 a8 m0 m1 m2 m3 m4 m5 m6 m7 m8 m9 m10 m11 m12 m13 : Nat) (w : World) (h0 : floatBits .mul .f64 a4 a8 = some m0) (h1 : floatBits .mul .f64 a5 a7 = some m1) (h2 : floatBits .sub .f64 m0 m1 = some m2) (h3 : floatBits .mul .f64 a0 m2 = some m3) (h4 : floatBits .mul .f64 a3 a8 = some m4) (h5 : floatBits .mul .f64 a5 a6 = some m5) (h6 : floatBits .sub .f64 m4 m5 = some m6) (h7 : floatBits .mul .f64 a1 m6 = some m7) (h8 : floatBits .sub .f64 m3 m7 = some m8) (h9 : floatBits .mul .f64 a3 a7 = some m9) (h10 : floatBits .mul .f64 a4 a6 = some m10) (h11 : floatBits .sub .f64 m9 m10 = some m11) (h12 : floatBits .mul .f64 a2 m11 = some m12) (h13 : floatBits .add .f64 m8 m12 = some m13) :
    Calls Try.prog 8 #[.agg #[.float .f64 a0, .float .f64 a1, .float .f64 a2, .float .f64 a3, .float .f64 a4, .float .f64 a5, .float .f64 a6, .float .f64 a7, .float .f64 a8]] w fun e w' => e = .returned (.float .f64 m13) ∧ w.alloc (.cells #[.float .f64 a0, .float .f64 a1, .float .f64 a2, .float .f64 a3, .float .f64 a4, .float .f64 a5, .float .f64 a6, .float .f64 a7, .float .f64 a8] 24) = w' := by
  have c0 := fun w t => run_float_arith (P := Try.prog) w .mul t .f64 a4 a8 m0 h0
  have c1 := fun w t => run_float_arith (P := Try.prog) w .mul t .f64 a5 a7 m1 h1
  have c2 := fun w t => run_float_arith (P := Try.prog) w .sub t .f64 m0 m1 m2 h2
  have c3 := fun w t => run_float_arith (P := Try.prog) w .mul t .f64 a0 m2 m3 h3
  have c4 := fun w t => run_float_arith (P := Try.prog) w .mul t .f64 a3 a8 m4 h4
  have c5 := fun w t => run_float_arith (P := Try.prog) w .mul t .f64 a5 a6 m5 h5
  have c6 := fun w t => run_float_arith (P := Try.prog) w .sub t .f64 m4 m5 m6 h6
  have c7 := fun w t => run_float_arith (P := Try.prog) w .mul t .f64 a1 m6 m7 h7
  have c8 := fun w t => run_float_arith (P := Try.prog) w .sub t .f64 m3 m7 m8 h8
  have c9 := fun w t => run_float_arith (P := Try.prog) w .mul t .f64 a3 a7 m9 h9
  have c10 := fun w t => run_float_arith (P := Try.prog) w .mul t .f64 a4 a6 m10 h10
  have c11 := fun w t => run_float_arith (P := Try.prog) w .sub t .f64 m9 m10 m11 h11
  have c12 := fun w t => run_float_arith (P := Try.prog) w .mul t .f64 a2 m11 m12 h12
  have c13 := fun w t => run_float_arith (P := Try.prog) w .add t .f64 m8 m12 m13 h13
  clear h0 h1 h2 h3 h4 h5 h6 h7 h8 h9 h10 h11 h12 h13
  go_enter Try.func8, Try.ntmps8
  go_wp2_with fail
  go_ret
  exact ⟨rfl, rfl⟩

theorem det8_0 (w : World) : Calls Try.prog 8 #[.agg #[.float .f64 4611413072995426056, .float .f64 4602678819172646912, .float .f64 4612811918334230528, .float .f64 4607182418800017408, .float .f64 4607182418800017408, .float .f64 4607182418800017408, .float .f64 4591215111030249279, .float .f64 4595172819793696084, .float .f64 4623601792441472342]] w fun e w' => e = .returned (.float .f64 4626002859288261726) ∧ w.alloc (.cells #[.float .f64 4611413072995426056, .float .f64 4602678819172646912, .float .f64 4612811918334230528, .float .f64 4607182418800017408, .float .f64 4607182418800017408, .float .f64 4607182418800017408, .float .f64 4591215111030249279, .float .f64 4595172819793696084, .float .f64 4623601792441472342] 24) = w' :=
  det8 4611413072995426056 4602678819172646912 4612811918334230528 4607182418800017408 4607182418800017408 4607182418800017408 4591215111030249279 4595172819793696084 4623601792441472342 4623601792441472342 4595172819793696084 4623507967449235457 4627789798913136951 4623601792441472342 4591215111030249279 4623550615172979496 4619047015545609000 4625949549633581677 4595172819793696084 4591215111030249279 4590123329302401897 4595991656089581635 4626002859288261726 w (by decide +kernel) (by decide +kernel) (by decide +kernel) (by decide +kernel) (by decide +kernel) (by decide +kernel) (by decide +kernel) (by decide +kernel) (by decide +kernel) (by decide +kernel) (by decide +kernel) (by decide +kernel) (by decide +kernel) (by decide +kernel)
theorem det8_1 (w : World) : Calls Try.prog 8 #[.agg #[.float .f64 4606736165463080392, .float .f64 4602678819172646912, .float .f64 4612811918334230528, .float .f64 4607182418800017408, .float .f64 4607182418800017408, .float .f64 4607182418800017408, .float .f64 4607583499253154051, .float .f64 4595172819793696084, .float .f64 4623601792441472342]] w fun e w' => e = .returned (.float .f64 4616202166078036280) ∧ w.alloc (.cells #[.float .f64 4606736165463080392, .float .f64 4602678819172646912, .float .f64 4612811918334230528, .float .f64 4607182418800017408, .float .f64 4607182418800017408, .float .f64 4607182418800017408, .float .f64 4607583499253154051, .float .f64 4595172819793696084, .float .f64 4623601792441472342] 24) = w' :=
  det8 4606736165463080392 4602678819172646912 4612811918334230528 4607182418800017408 4607182418800017408 4607182418800017408 4607583499253154051 4595172819793696084 4623601792441472342 4623601792441472342 4595172819793696084 4623507967449235457 4623145386612974131 4623601792441472342 4607583499253154051 4622988707431408950 4618485107804038454 4618798466167168816 4595172819793696084 4607583499253154051 13829855416685276337 13835747055833058287 4616202166078036280 w (by decide +kernel) (by decide +kernel) (by decide +kernel) (by decide +kernel) (by decide +kernel) (by decide +kernel) (by decide +kernel) (by decide +kernel) (by decide +kernel) (by decide +kernel) (by decide +kernel) (by decide +kernel) (by decide +kernel) (by decide +kernel)
theorem det8_2 (w : World) : Calls Try.prog 8 #[.agg #[.float .f64 4611413072995426056, .float .f64 4606736165463080392, .float .f64 4612811918334230528, .float .f64 4607182418800017408, .float .f64 4607182418800017408, .float .f64 4607182418800017408, .float .f64 4591215111030249279, .float .f64 4607583499253154051, .float .f64 4623601792441472342]] w fun e w' => e = .returned (.float .f64 4623784196799135043) ∧ w.alloc (.cells #[.float .f64 4611413072995426056, .float .f64 4606736165463080392, .float .f64 4612811918334230528, .float .f64 4607182418800017408, .float .f64 4607182418800017408, .float .f64 4607182418800017408, .float .f64 4591215111030249279, .float .f64 4607583499253154051, .float .f64 4623601792441472342] 24) = w' :=
  det8 4611413072995426056 4606736165463080392 4612811918334230528 4607182418800017408 4607182418800017408 4607182418800017408 4591215111030249279 4607583499253154051 4623601792441472342 4623601792441472342 4607583499253154051 4622988707431408950 4627286274047365793 4623601792441472342 4591215111030249279 4623550615172979496 4623185921394781916 4622379427445208678 4607583499253154051 4591215111030249279 4607165743410405150 4612801496215722867 4623784196799135043 w (by decide +kernel) (by decide +kernel) (by decide +kernel) (by decide +kernel) (by decide +kernel) (by decide +kernel) (by decide +kernel) (by decide +kernel) (by decide +kernel) (by decide +kernel) (by decide +kernel) (by decide +kernel) (by decide +kernel) (by decide +kernel)
theorem det8_3 (w : World) : Calls Try.prog 8 #[.agg #[.float .f64 4611413072995426056, .float .f64 4602678819172646912, .float .f64 4606736165463080392, .float .f64 4607182418800017408, .float .f64 4607182418800017408, .float .f64 4607182418800017408, .float .f64 4591215111030249279, .float .f64 4595172819793696084, .float .f64 4607583499253154051]] w fun e w' => e = .returned (.float .f64 4608811864313165534) ∧ w.alloc (.cells #[.float .f64 4611413072995426056, .float .f64 4602678819172646912, .float .f64 4606736165463080392, .float .f64 4607182418800017408, .float .f64 4607182418800017408, .float .f64 4607182418800017408, .float .f64 4591215111030249279, .float .f64 4595172819793696084, .float .f64 4607583499253154051] 24) = w' :=
  det8 4611413072995426056 4602678819172646912 4606736165463080392 4607182418800017408 4607182418800017408 4607182418800017408 4591215111030249279 4595172819793696084 4607583499253154051 4607583499253154051 4595172819793696084 4606483379830500529 4610735217024985446 4607583499253154051 4591215111030249279 4607165743410405150 4602662143783034654 4608487586058703262 4595172819793696084 4591215111030249279 4590123329302401897 4589852872734561281 4608811864313165534 w (by decide +kernel) (by decide +kernel) (by decide +kernel) (by decide +kernel) (by decide +kernel) (by decide +kernel) (by decide +kernel) (by decide +kernel) (by decide +kernel) (by decide +kernel) (by decide +kernel) (by decide +kernel) (by decide +kernel) (by decide +kernel)

set_option maxHeartbeats 8000000 in
set_option maxRecDepth 20000 in
theorem prim5 (w : World) : Calls Try.prog 5 #[] w fun e w' => e = .returned (.agg #[.float .f64 4601100592117526702, .float .f64 4600113286708316951, .float .f64 4595670525981687696, .float .f64 4596829147871394355, .float .f64 4604616886335687447, .float .f64 4589866425216086746, .float .f64 4581228950558139516, .float .f64 4593253309717046301, .float .f64 4606736852038626909]) ∧ Below w.heap.size w w' := by
  have c0 := fun w t => run_float_arith (P := Try.prog) w .quo t .f64 4603939827068310651 4599616371426034975 4611413072995426056 (by decide +kernel)
  have c1 := fun w t => run_float_arith (P := Try.prog) w .sub t .f64 4607182418800017408 4603939827068310651 4600156803381319434 (by decide +kernel)
  have c2 := fun w t => run_float_arith (P := Try.prog) w .sub t .f64 4600156803381319434 4599616371426034975 4584304132692975280 (by decide +kernel)
  have c3 := fun w t => run_float_arith (P := Try.prog) w .quo t .f64 4584304132692975280 4599616371426034975 4591215111030249279 (by decide +kernel)
  have c4 := fun w t => run_float_arith (P := Try.prog) w .quo t .f64 4599075939470750515 4603579539098121011 4602678819172646912 (by decide +kernel)
  have c5 := fun w t => run_float_arith (P := Try.prog) w .sub t .f64 4607182418800017408 4599075939470750515 4604480259023595110 (by decide +kernel)
  have c6 := fun w t => run_float_arith (P := Try.prog) w .sub t .f64 4604480259023595110 4603579539098121011 4591870180066957720 (by decide +kernel)
  have c7 := fun w t => run_float_arith (P := Try.prog) w .quo t .f64 4591870180066957720 4603579539098121011 4595172819793696084 (by decide +kernel)
  have c8 := fun w t => run_float_arith (P := Try.prog) w .quo t .f64 4594572339843380019 4588807732320345784 4612811918334230528 (by decide +kernel)
  have c9 := fun w t => run_float_arith (P := Try.prog) w .sub t .f64 4607182418800017408 4594572339843380019 4605831338911806259 (by decide +kernel)
  have c10 := fun w t => run_float_arith (P := Try.prog) w .sub t .f64 4605831338911806259 4588807732320345784 4605290906956521800 (by decide +kernel)
  have c11 := fun w t => run_float_arith (P := Try.prog) w .quo t .f64 4605290906956521800 4588807732320345784 4623601792441472342 (by decide +kernel)
  have c12 := fun w t => run_float_arith (P := Try.prog) w .quo t .f64 4616202166078036280 4626002859288261726 4596829147871394355 (by decide +kernel)
  have c13 := fun w t => run_float_arith (P := Try.prog) w .mul t .f64 4611413072995426056 4596829147871394355 4601100592117526702 (by decide +kernel)
  have c14 := fun w t => run_float_arith (P := Try.prog) w .mul t .f64 4607182418800017408 4596829147871394355 4596829147871394355 (by decide +kernel)
  have c15 := fun w t => run_float_arith (P := Try.prog) w .mul t .f64 4591215111030249279 4596829147871394355 4581228950558139516 (by decide +kernel)
  have c16 := fun w t => run_float_arith (P := Try.prog) w .quo t .f64 4623784196799135043 4626002859288261726 4604616886335687447 (by decide +kernel)
  have c17 := fun w t => run_float_arith (P := Try.prog) w .mul t .f64 4602678819172646912 4604616886335687447 4600113286708316951 (by decide +kernel)
  have c18 := fun w t => run_float_arith (P := Try.prog) w .mul t .f64 4607182418800017408 4604616886335687447 4604616886335687447 (by decide +kernel)
  have c19 := fun w t => run_float_arith (P := Try.prog) w .mul t .f64 4595172819793696084 4604616886335687447 4593253309717046301 (by decide +kernel)
  have c20 := fun w t => run_float_arith (P := Try.prog) w .quo t .f64 4608811864313165534 4626002859288261726 4589866425216086746 (by decide +kernel)
  have c21 := fun w t => run_float_arith (P := Try.prog) w .mul t .f64 4612811918334230528 4589866425216086746 4595670525981687696 (by decide +kernel)
  have c22 := fun w t => run_float_arith (P := Try.prog) w .mul t .f64 4607182418800017408 4589866425216086746 4589866425216086746 (by decide +kernel)
  have c23 := fun w t => run_float_arith (P := Try.prog) w .mul t .f64 4623601792441472342 4589866425216086746 4606736852038626909 (by decide +kernel)
  go_enter Try.func5, Try.ntmps5
  go_wp2_with fail
  refine wp_loop_rounds 4 ?_
  repeat (first | (rw [rounds_succ]; go_wp2_with (first | (go_at_call 8; with_reducible refine (det8_0 _).mono ?_; rintro e w1 ⟨rfl, rfl⟩) | (go_at_call 8; with_reducible refine (det8_1 _).mono ?_; rintro e w1 ⟨rfl, rfl⟩) | (go_at_call 8; with_reducible refine (det8_2 _).mono ?_; rintro e w1 ⟨rfl, rfl⟩) | (go_at_call 8; with_reducible refine (det8_3 _).mono ?_; rintro e w1 ⟨rfl, rfl⟩))) | (go_region; go_wp2_with (first | (go_at_call 8; with_reducible refine (det8_0 _).mono ?_; rintro e w1 ⟨rfl, rfl⟩) | (go_at_call 8; with_reducible refine (det8_1 _).mono ?_; rintro e w1 ⟨rfl, rfl⟩) | (go_at_call 8; with_reducible refine (det8_2 _).mono ?_; rintro e w1 ⟨rfl, rfl⟩) | (go_at_call 8; with_reducible refine (det8_3 _).mono ?_; rintro e w1 ⟨rfl, rfl⟩))))
  refine wp_loop_rounds 4 ?_
  repeat (first | (rw [rounds_succ]; go_wp2_with (first | (go_at_call 8; with_reducible refine (det8_0 _).mono ?_; rintro e w1 ⟨rfl, rfl⟩) | (go_at_call 8; with_reducible refine (det8_1 _).mono ?_; rintro e w1 ⟨rfl, rfl⟩) | (go_at_call 8; with_reducible refine (det8_2 _).mono ?_; rintro e w1 ⟨rfl, rfl⟩) | (go_at_call 8; with_reducible refine (det8_3 _).mono ?_; rintro e w1 ⟨rfl, rfl⟩))) | (go_region; go_wp2_with (first | (go_at_call 8; with_reducible refine (det8_0 _).mono ?_; rintro e w1 ⟨rfl, rfl⟩) | (go_at_call 8; with_reducible refine (det8_1 _).mono ?_; rintro e w1 ⟨rfl, rfl⟩) | (go_at_call 8; with_reducible refine (det8_2 _).mono ?_; rintro e w1 ⟨rfl, rfl⟩) | (go_at_call 8; with_reducible refine (det8_3 _).mono ?_; rintro e w1 ⟨rfl, rfl⟩))))
  refine bodyPost_ret (v := .agg #[.float .f64 4601100592117526702, .float .f64 4600113286708316951, .float .f64 4595670525981687696, .float .f64 4596829147871394355, .float .f64 4604616886335687447, .float .f64 4589866425216086746, .float .f64 4581228950558139516, .float .f64 4593253309717046301, .float .f64 4606736852038626909]) (by simp [results, Try.results5, go_sem]) rfl ⟨rfl, ?_⟩
  go_grown
end Go.Proofs.Ytlfgdgelfebciaa
