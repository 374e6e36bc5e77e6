/-
  The walk of the law of the lossless prefix. Conditions: strings of a real length; the tokens stand at places 0 to 3.
-/
import Derived.Test.YtecdhjhobjagkaaWf
namespace Go.Proofs.Ytecdhjhobjagkaa
open Go.ChangeShapes Go.WideShapes Go.ChangeAt Go.RowKit

structure M1 (B C n : Nat) (y x : Nat → Tok) (w0 : World) (j : Value) (wr : World) : Prop where
  ex : ∃ k : Nat, k ≤ n ∧ j = .int .i64 k ∧ Two B C y x w0 wr
structure M2 (B C : Nat) (y x : Nat → Tok) (w0 : World) (i : Value) (wr : World) : Prop where
  ex : ∃ k : Nat, k ≤ 4 ∧ i = .int .i64 k ∧ Two B C y x w0 wr
/-- the answer's tokens: as the quad's, but for whitespace -/
structure Like (m : Bool) (n : Nat) (y x : Nat → Tok) : Prop where
  k : ∀ i, (y i).k = (x i).k
  t : ∀ i, (y i).t = (x i).t
  s : ∀ i, (y i).s = (x i).s
  p : ∀ i, (y i).p = (x i).p
  ws : ∀ i, i < n → (y i).ws = wsv m i n
theorem like_wsd (m : Bool) (n : Nat) (x : Nat → Tok) : Like m n (wsd m n n x) x := by
  refine ⟨fun i => ?_, fun i => ?_, fun i => ?_, fun i => ?_, fun i hi => ?_⟩
  · unfold wsd; split <;> rfl
  · unfold wsd; split <;> rfl
  · unfold wsd; split <;> rfl
  · unfold wsd; split <;> rfl
  · unfold wsd; rw [if_pos hi]

set_option maxRecDepth 20000 in
set_option maxHeartbeats 4000000 in
theorem law7 (x0 x1 x2 x3 : Tok) (m : Bool) (w : World) (s0 : x0.s = 0) (s1 : x1.s = 1) (s2 : x2.s = 2) (s3 : x3.s = 3) (z0 : x0.t.size ≤ maxLen) (z1 : x1.t.size ≤ maxLen) (z2 : x2.t.size ≤ maxLen) (z3 : x3.t.size ≤ maxLen) :
    Calls Try.prog 7 #[.agg #[.int .u8 x0.k, .int .u8 x1.k, .int .u8 x2.k, .int .u8 x3.k], .agg #[.string x0.t, .string x1.t, .string x2.t, .string x3.t], .agg #[.int .u32 x0.p, .int .u32 x1.p, .int .u32 x2.p, .int .u32 x3.p], .agg #[.int .u8 x0.ws, .int .u8 x1.ws, .int .u8 x2.ws, .int .u8 x3.ws], .bool m] w fun e w' => e = .returned (.bool true) ∧ Below w.heap.size w w' := by
  have HB4 := Lib.hid (below_four x0 x1 x2 x3 w)
  have HQ := Lib.hid (fun w' => quad14 x0 x1 x2 x3 w' s0 s1 s2 s3)
  have HA := Lib.hid (fun w' => any22 x0 x1 x2 x3 m w' z0 z1 z2 z3)
  have HL := Lib.hid (fun w' => any13 x0 x1 x2 x3 w' z0 z1 z2 z3)
  clear s0 s1 s2 s3 z0 z1 z2 z3
  go_enter Try.func7, Try.ntmps7
  go_wp2_with fail
  with_reducible refine (HA.out _).mono ?_
  rintro e w1 hany
  obtain ⟨b1, rfl, hb1⟩ := hany.ex
  clear hany
  have HB1 := Lib.hid (HB4.out.trans (hb1.mono HB4.out.size))
  obtain ⟨hc1, hf1⟩ := bcell hb1
  have hz1 : w.heap.size + 1 + 1 + 1 + 1 ≤ w1.heap.size := by have := hb1.size; simpa [go_sem] using this
  have ha1 : w.heap.size < w1.heap.size := by omega
  have ha2 : w.heap.size + 1 < w1.heap.size := by omega
  have ha3 : w.heap.size + 1 + 1 < w1.heap.size := by omega
  have ha4 : w.heap.size + 1 + 1 + 1 < w1.heap.size := by omega
  clear hb1
  cases b1
  · go_wp2_with fail
    go_ret
    exact ⟨rfl, HB1.out⟩
  go_wp2_with fail
  with_reducible refine (HL.out _).mono ?_
  rintro e w2 hany
  obtain ⟨b2, rfl, hb2⟩ := hany.ex
  clear hany
  have HB2 := Lib.hid (HB1.out.trans (hb2.mono HB1.out.size))
  have hz2 := hb2.size
  obtain ⟨hc2, hf2⟩ := bcell hb2
  clear hb2
  cases b2
  case true =>
    go_wp2_with fail
    go_ret
    exact ⟨rfl, HB2.out⟩
  have h1c : (list28 x0 x1 x2 x3).toArray.all (·.oneCell') = true := by simp [list28, Value.oneCell']
  have hi2 : (Try.prog.info? 43).map (·.size) = some (list28 x0 x1 x2 x3).toArray.size := by rw [info43]; rfl
  have H1C := Lib.hid h1c
  have HI2 := Lib.hid hi2
  clear h1c hi2
  go_upto_region 6 with (first
    | ((with_reducible refine (HQ.out _).mono ?_); rintro e w3 ⟨rfl, hb3⟩; have HB3 := Lib.hid (HB2.out.trans (hb3.mono HB2.out.size)); clear hb3)
    | ((with_reducible refine wpList_store_mid ?_ 43 (.tmp 11) (.tmp 30) ?_ _ 0 (list28 x0 x1 x2 x3).toArray ?_ ?_ (there_new x0 x1 x2 x3 _) HI2.out H1C.out ?_); rfl; rfl; rfl; rfl))
  clear hc1 hf1 hc2 hf2 hz1 hz2 ha1 ha2 ha3 ha4 HA HL HQ HB4 HB1 HB2 HI2 H1C
  have hT : Toks w3.heap.size 4 (four x0 x1 x2 x3) ((w3.alloc (.cells #[.pointer none, .string ⟨#[]⟩, .int .i32 0, .int .u32 0, .int .u16 0, .int .u8 0, .int .u8 0, .pointer none, .string ⟨#[]⟩, .int .i32 0, .int .u32 0, .int .u16 0, .int .u8 0, .int .u8 0, .pointer none, .string ⟨#[]⟩, .int .i32 0, .int .u32 0, .int .u16 0, .int .u8 0, .int .u8 0, .pointer none, .string ⟨#[]⟩, .int .i32 0, .int .u32 0, .int .u16 0, .int .u8 0, .int .u8 0] 43)).setCells w3.heap.size 0 (list28 x0 x1 x2 x3)) := toks_put x0 x1 x2 x3 w3
  have hbl : Below w3.heap.size w3 ((w3.alloc (.cells #[.pointer none, .string ⟨#[]⟩, .int .i32 0, .int .u32 0, .int .u16 0, .int .u8 0, .int .u8 0, .pointer none, .string ⟨#[]⟩, .int .i32 0, .int .u32 0, .int .u16 0, .int .u8 0, .int .u8 0, .pointer none, .string ⟨#[]⟩, .int .i32 0, .int .u32 0, .int .u16 0, .int .u8 0, .int .u8 0, .pointer none, .string ⟨#[]⟩, .int .i32 0, .int .u32 0, .int .u16 0, .int .u8 0, .int .u8 0] 43)).setCells w3.heap.size 0 (list28 x0 x1 x2 x3)) := below_setCells ((Below.refl _ _).alloc (Nat.le_refl _) _) _ (Nat.le_refl _) _ _
  have HB5 := Lib.hid (HB3.out.trans (hbl.mono HB3.out.size))
  generalize ((w3.alloc (.cells #[.pointer none, .string ⟨#[]⟩, .int .i32 0, .int .u32 0, .int .u16 0, .int .u8 0, .int .u8 0, .pointer none, .string ⟨#[]⟩, .int .i32 0, .int .u32 0, .int .u16 0, .int .u8 0, .int .u8 0, .pointer none, .string ⟨#[]⟩, .int .i32 0, .int .u32 0, .int .u16 0, .int .u8 0, .int .u8 0, .pointer none, .string ⟨#[]⟩, .int .i32 0, .int .u32 0, .int .u16 0, .int .u8 0, .int .u8 0] 43)).setCells w3.heap.size 0 (list28 x0 x1 x2 x3)) = w5 at *
  generalize w3.heap.size = C at *
  have q0 : w5.cell? ⟨C, 0, none⟩ = some (.pointer none) := hT.c 0 0 (by omega) (by omega)
  have q1 : w5.cell? ⟨C, 1, none⟩ = some (.string x0.t) := hT.c 0 1 (by omega) (by omega)
  have q2 : w5.cell? ⟨C, 2, none⟩ = some (.int .i32 x0.s) := hT.c 0 2 (by omega) (by omega)
  have q3 : w5.cell? ⟨C, 3, none⟩ = some (.int .u32 x0.p) := hT.c 0 3 (by omega) (by omega)
  have q4 : w5.cell? ⟨C, 4, none⟩ = some (.int .u16 0) := hT.c 0 4 (by omega) (by omega)
  have q5 : w5.cell? ⟨C, 5, none⟩ = some (.int .u8 x0.k) := hT.c 0 5 (by omega) (by omega)
  have q6 : w5.cell? ⟨C, 6, none⟩ = some (.int .u8 x0.ws) := hT.c 0 6 (by omega) (by omega)
  have q7 : w5.cell? ⟨C, 7, none⟩ = some (.pointer none) := hT.c 1 0 (by omega) (by omega)
  have q8 : w5.cell? ⟨C, 8, none⟩ = some (.string x1.t) := hT.c 1 1 (by omega) (by omega)
  have q9 : w5.cell? ⟨C, 9, none⟩ = some (.int .i32 x1.s) := hT.c 1 2 (by omega) (by omega)
  have q10 : w5.cell? ⟨C, 10, none⟩ = some (.int .u32 x1.p) := hT.c 1 3 (by omega) (by omega)
  have q11 : w5.cell? ⟨C, 11, none⟩ = some (.int .u16 0) := hT.c 1 4 (by omega) (by omega)
  have q12 : w5.cell? ⟨C, 12, none⟩ = some (.int .u8 x1.k) := hT.c 1 5 (by omega) (by omega)
  have q13 : w5.cell? ⟨C, 13, none⟩ = some (.int .u8 x1.ws) := hT.c 1 6 (by omega) (by omega)
  have q14 : w5.cell? ⟨C, 14, none⟩ = some (.pointer none) := hT.c 2 0 (by omega) (by omega)
  have q15 : w5.cell? ⟨C, 15, none⟩ = some (.string x2.t) := hT.c 2 1 (by omega) (by omega)
  have q16 : w5.cell? ⟨C, 16, none⟩ = some (.int .i32 x2.s) := hT.c 2 2 (by omega) (by omega)
  have q17 : w5.cell? ⟨C, 17, none⟩ = some (.int .u32 x2.p) := hT.c 2 3 (by omega) (by omega)
  have q18 : w5.cell? ⟨C, 18, none⟩ = some (.int .u16 0) := hT.c 2 4 (by omega) (by omega)
  have q19 : w5.cell? ⟨C, 19, none⟩ = some (.int .u8 x2.k) := hT.c 2 5 (by omega) (by omega)
  have q20 : w5.cell? ⟨C, 20, none⟩ = some (.int .u8 x2.ws) := hT.c 2 6 (by omega) (by omega)
  have q21 : w5.cell? ⟨C, 21, none⟩ = some (.pointer none) := hT.c 3 0 (by omega) (by omega)
  have q22 : w5.cell? ⟨C, 22, none⟩ = some (.string x3.t) := hT.c 3 1 (by omega) (by omega)
  have q23 : w5.cell? ⟨C, 23, none⟩ = some (.int .i32 x3.s) := hT.c 3 2 (by omega) (by omega)
  have q24 : w5.cell? ⟨C, 24, none⟩ = some (.int .u32 x3.p) := hT.c 3 3 (by omega) (by omega)
  have q25 : w5.cell? ⟨C, 25, none⟩ = some (.int .u16 0) := hT.c 3 4 (by omega) (by omega)
  have q26 : w5.cell? ⟨C, 26, none⟩ = some (.int .u8 x3.k) := hT.c 3 5 (by omega) (by omega)
  have q27 : w5.cell? ⟨C, 27, none⟩ = some (.int .u8 x3.ws) := hT.c 3 6 (by omega) (by omega)
  have HT := Lib.hid hT
  clear hT hbl HB3
  go_wp2_with fail
  with_reducible refine (zcompact15 x0 x1 x2 x3 m _).mono ?_
  rintro e w4 hcz
  obtain ⟨B, rfl, hBl, hH⟩ := hcz.ex
  clear hcz q0 q1 q2 q3 q4 q5 q6 q7 q8 q9 q10 q11 q12 q13 q14 q15 q16 q17 q18 q19 q20 q21 q22 q23 q24 q25 q26 q27
  have hT4 := HT.out.call hH.below
  have HB := Lib.hid (HB5.out.trans (hH.below.mono HB5.out.size))
  obtain ⟨hn1, hn4⟩ := qn_bounds x0 x1 x2 x3
  have hTW : Two B C (wsd m (qn x0 x1 x2 x3) (qn x0 x1 x2 x3) (four x0 x1 x2 x3)) (four x0 x1 x2 x3) w w4 := ⟨hH.toks, hT4, HB.out, HB.out.size⟩
  have HLoss := Lib.hid (fun i hi => allU_at (lossless x0 x1 x2 x3) i hi)
  have HY := Lib.hid (fun i z => teq_wsd m (qn x0 x1 x2 x3) (qn x0 x1 x2 x3) (four x0 x1 x2 x3) i z)
  have HLike := Lib.hid (like_wsd m (qn x0 x1 x2 x3) (four x0 x1 x2 x3))
  generalize wsd m (qn x0 x1 x2 x3) (qn x0 x1 x2 x3) (four x0 x1 x2 x3) = y at *
  generalize four x0 x1 x2 x3 = x at *
  generalize qn x0 x1 x2 x3 = n at *
  have HT0 := Lib.hid (⟨⟨0, by omega, rfl, hTW⟩⟩ : M1 B C n y x w (.int .i64 (0 : Nat)) w4)
  clear hT4 hH hTW hBl HT HB5
  go_wp2_with fail
  go_loopw [14, 15] (fun j _ wr => M1 B C n y x w j wr) (fun j _ _ => n - (intOf j).toNat)
  case atStart => exact HT0.out
  case round =>
    obtain ⟨j, hjn, rfl, hW⟩ := hrel.ex
    clear hrel HT0
    by_cases hlt : j < n
    · have hj4 : j < 4 := by omega
      have HSa := Lib.hid (fun w' => same23 (y j) (x j) w' (HLike.out.k j) (HLike.out.t j) (HLike.out.s j) (HLike.out.p j))
      have HWs := Lib.hid (HLike.out.ws j hlt)
      have b0 : (0 : Int) ≤ (j : Int) := by omega
      have b1 : (j : Int) < (n : Int) := by omega
      have b2 : (j : Int) < 4 := by omega
      have hS : (fun w' => (w'.cell? ⟨B, j * 7, none⟩ = some (.pointer none) ∧ w'.cell? ⟨B, j * 7 + 1, none⟩ = some (.string (y j).t) ∧ w'.cell? ⟨B, j * 7 + 2, none⟩ = some (.int .i32 (y j).s) ∧ w'.cell? ⟨B, j * 7 + 3, none⟩ = some (.int .u32 (y j).p) ∧ w'.cell? ⟨B, j * 7 + 4, none⟩ = some (.int .u16 0) ∧ w'.cell? ⟨B, j * 7 + 5, none⟩ = some (.int .u8 (y j).k) ∧ w'.cell? ⟨B, j * 7 + 6, none⟩ = some (.int .u8 (y j).ws)) ∧ (w'.cell? ⟨C, j * 7, none⟩ = some (.pointer none) ∧ w'.cell? ⟨C, j * 7 + 1, none⟩ = some (.string (x j).t) ∧ w'.cell? ⟨C, j * 7 + 2, none⟩ = some (.int .i32 (x j).s) ∧ w'.cell? ⟨C, j * 7 + 3, none⟩ = some (.int .u32 (x j).p) ∧ w'.cell? ⟨C, j * 7 + 4, none⟩ = some (.int .u16 0) ∧ w'.cell? ⟨C, j * 7 + 5, none⟩ = some (.int .u8 (x j).k) ∧ w'.cell? ⟨C, j * 7 + 6, none⟩ = some (.int .u8 (x j).ws)) ∧ Two B C y x w w') wr.drew := (hW.call (Below.refl _ _).drew).cmp j j hj4 hj4
      have HS := Lib.hid hS
      have hK : ∀ w' w'', (fun w' => (w'.cell? ⟨B, j * 7, none⟩ = some (.pointer none) ∧ w'.cell? ⟨B, j * 7 + 1, none⟩ = some (.string (y j).t) ∧ w'.cell? ⟨B, j * 7 + 2, none⟩ = some (.int .i32 (y j).s) ∧ w'.cell? ⟨B, j * 7 + 3, none⟩ = some (.int .u32 (y j).p) ∧ w'.cell? ⟨B, j * 7 + 4, none⟩ = some (.int .u16 0) ∧ w'.cell? ⟨B, j * 7 + 5, none⟩ = some (.int .u8 (y j).k) ∧ w'.cell? ⟨B, j * 7 + 6, none⟩ = some (.int .u8 (y j).ws)) ∧ (w'.cell? ⟨C, j * 7, none⟩ = some (.pointer none) ∧ w'.cell? ⟨C, j * 7 + 1, none⟩ = some (.string (x j).t) ∧ w'.cell? ⟨C, j * 7 + 2, none⟩ = some (.int .i32 (x j).s) ∧ w'.cell? ⟨C, j * 7 + 3, none⟩ = some (.int .u32 (x j).p) ∧ w'.cell? ⟨C, j * 7 + 4, none⟩ = some (.int .u16 0) ∧ w'.cell? ⟨C, j * 7 + 5, none⟩ = some (.int .u8 (x j).k) ∧ w'.cell? ⟨C, j * 7 + 6, none⟩ = some (.int .u8 (x j).ws)) ∧ Two B C y x w w') w' → Below w'.heap.size w' w'' → (fun w' => (w'.cell? ⟨B, j * 7, none⟩ = some (.pointer none) ∧ w'.cell? ⟨B, j * 7 + 1, none⟩ = some (.string (y j).t) ∧ w'.cell? ⟨B, j * 7 + 2, none⟩ = some (.int .i32 (y j).s) ∧ w'.cell? ⟨B, j * 7 + 3, none⟩ = some (.int .u32 (y j).p) ∧ w'.cell? ⟨B, j * 7 + 4, none⟩ = some (.int .u16 0) ∧ w'.cell? ⟨B, j * 7 + 5, none⟩ = some (.int .u8 (y j).k) ∧ w'.cell? ⟨B, j * 7 + 6, none⟩ = some (.int .u8 (y j).ws)) ∧ (w'.cell? ⟨C, j * 7, none⟩ = some (.pointer none) ∧ w'.cell? ⟨C, j * 7 + 1, none⟩ = some (.string (x j).t) ∧ w'.cell? ⟨C, j * 7 + 2, none⟩ = some (.int .i32 (x j).s) ∧ w'.cell? ⟨C, j * 7 + 3, none⟩ = some (.int .u32 (x j).p) ∧ w'.cell? ⟨C, j * 7 + 4, none⟩ = some (.int .u16 0) ∧ w'.cell? ⟨C, j * 7 + 5, none⟩ = some (.int .u8 (x j).k) ∧ w'.cell? ⟨C, j * 7 + 6, none⟩ = some (.int .u8 (x j).ws)) ∧ Two B C y x w w') w'' := fun w' w'' h hb => (h.2.2.call hb).cmp j j hj4 hj4
      have HK := Lib.hid hK
      clear hS hK hW
      go_wp2_with fail
      go_region_held3 (fun w' => (w'.cell? ⟨B, j * 7, none⟩ = some (.pointer none) ∧ w'.cell? ⟨B, j * 7 + 1, none⟩ = some (.string (y j).t) ∧ w'.cell? ⟨B, j * 7 + 2, none⟩ = some (.int .i32 (y j).s) ∧ w'.cell? ⟨B, j * 7 + 3, none⟩ = some (.int .u32 (y j).p) ∧ w'.cell? ⟨B, j * 7 + 4, none⟩ = some (.int .u16 0) ∧ w'.cell? ⟨B, j * 7 + 5, none⟩ = some (.int .u8 (y j).k) ∧ w'.cell? ⟨B, j * 7 + 6, none⟩ = some (.int .u8 (y j).ws)) ∧ (w'.cell? ⟨C, j * 7, none⟩ = some (.pointer none) ∧ w'.cell? ⟨C, j * 7 + 1, none⟩ = some (.string (x j).t) ∧ w'.cell? ⟨C, j * 7 + 2, none⟩ = some (.int .i32 (x j).s) ∧ w'.cell? ⟨C, j * 7 + 3, none⟩ = some (.int .u32 (x j).p) ∧ w'.cell? ⟨C, j * 7 + 4, none⟩ = some (.int .u16 0) ∧ w'.cell? ⟨C, j * 7 + 5, none⟩ = some (.int .u8 (x j).k) ∧ w'.cell? ⟨C, j * 7 + 6, none⟩ = some (.int .u8 (x j).ws)) ∧ Two B C y x w w')
        (first | with_reducible exact HS.out | with_reducible exact HK.out _ _ (by assumption) hb)
        (first | (go_at_call 23; with_reducible refine (HSa.out _).mono ?_; rintro e w9 ⟨rfl, hb⟩))
      rename_i hH
      have HH := Lib.hid hH.2.2
      clear HS HK hH hb

      have cw : w9.cell? ⟨B, j * 7 + 6, none⟩ = some (.int .u8 (wsv m j n)) := by rw [← HWs.out]; exact HH.out.out.c j 6 hj4 (by omega)
      have HV := Lib.hid (show wsv m j n = if (m = false ∨ 0 < j) then (if j + 1 < n then 3 else 1) else (if j + 1 < n then 2 else 0) from rfl)
      generalize wsv m j n = V at *
      cases m
      all_goals
        by_cases g0 : 0 < j
        all_goals
          by_cases g1 : j + 1 < n
          all_goals
            have hv := HV.out
            simp only [g0, g1, if_true, if_false, or_true, true_or, or_false, false_or, Bool.true_eq_false, Bool.false_eq_true] at hv
            subst hv
            first
            | (exfalso; omega)
            | (
              go_wp2_with fail
              go_roundw
              case rel => exact ⟨j + 1, by omega, by go_num, HH.out⟩
              case measure => first | (simp [intOf]; done) | (simp [intOf]; omega)
              )
    · obtain rfl : j = n := by omega
      have HT1 := Lib.hid (⟨⟨0, by omega, rfl, hW⟩⟩ : M2 B C y x w (.int .i64 (0 : Nat)) wr)
      clear hW
      go_wp2_with fail
      go_loopw [16] (fun i wz => M2 B C y x w i wz) (fun i _ => 4 - (intOf i).toNat)
      case atStart => exact HT1.out
      case round =>
        obtain ⟨i, hi, rfl, hW⟩ := hrel.ex
        clear hrel HT1
        by_cases hlt2 : i < 4
        · have hqj := qix_lt j i hn1
          have HI := Lib.hid (fun w' => index16 j i w' (by omega) hlt2)
          have HE := Lib.hid ((HY.out (qix j i) (x i)).trans (HLoss.out i hlt2))
          generalize qix j i = q at *
          have hq4 : q < 4 := by omega
          have hi4 : i < 4 := hlt2
          have b0 : (0 : Int) ≤ (q : Int) := by omega
          have b1 : (q : Int) < (j : Int) := by omega
          have b2 : (0 : Int) ≤ (i : Int) := by omega
          have b3 : (i : Int) < 4 := by omega
          have hS : (fun w' => (w'.cell? ⟨B, q * 7, none⟩ = some (.pointer none) ∧ w'.cell? ⟨B, q * 7 + 1, none⟩ = some (.string (y q).t) ∧ w'.cell? ⟨B, q * 7 + 2, none⟩ = some (.int .i32 (y q).s) ∧ w'.cell? ⟨B, q * 7 + 3, none⟩ = some (.int .u32 (y q).p) ∧ w'.cell? ⟨B, q * 7 + 4, none⟩ = some (.int .u16 0) ∧ w'.cell? ⟨B, q * 7 + 5, none⟩ = some (.int .u8 (y q).k) ∧ w'.cell? ⟨B, q * 7 + 6, none⟩ = some (.int .u8 (y q).ws)) ∧ (w'.cell? ⟨C, i * 7, none⟩ = some (.pointer none) ∧ w'.cell? ⟨C, i * 7 + 1, none⟩ = some (.string (x i).t) ∧ w'.cell? ⟨C, i * 7 + 2, none⟩ = some (.int .i32 (x i).s) ∧ w'.cell? ⟨C, i * 7 + 3, none⟩ = some (.int .u32 (x i).p) ∧ w'.cell? ⟨C, i * 7 + 4, none⟩ = some (.int .u16 0) ∧ w'.cell? ⟨C, i * 7 + 5, none⟩ = some (.int .u8 (x i).k) ∧ w'.cell? ⟨C, i * 7 + 6, none⟩ = some (.int .u8 (x i).ws)) ∧ Two B C y x w w') wr.drew := (hW.call (Below.refl _ _).drew).cmp q i hq4 hi4
          have HS := Lib.hid hS
          have hK : ∀ w' w'', (fun w' => (w'.cell? ⟨B, q * 7, none⟩ = some (.pointer none) ∧ w'.cell? ⟨B, q * 7 + 1, none⟩ = some (.string (y q).t) ∧ w'.cell? ⟨B, q * 7 + 2, none⟩ = some (.int .i32 (y q).s) ∧ w'.cell? ⟨B, q * 7 + 3, none⟩ = some (.int .u32 (y q).p) ∧ w'.cell? ⟨B, q * 7 + 4, none⟩ = some (.int .u16 0) ∧ w'.cell? ⟨B, q * 7 + 5, none⟩ = some (.int .u8 (y q).k) ∧ w'.cell? ⟨B, q * 7 + 6, none⟩ = some (.int .u8 (y q).ws)) ∧ (w'.cell? ⟨C, i * 7, none⟩ = some (.pointer none) ∧ w'.cell? ⟨C, i * 7 + 1, none⟩ = some (.string (x i).t) ∧ w'.cell? ⟨C, i * 7 + 2, none⟩ = some (.int .i32 (x i).s) ∧ w'.cell? ⟨C, i * 7 + 3, none⟩ = some (.int .u32 (x i).p) ∧ w'.cell? ⟨C, i * 7 + 4, none⟩ = some (.int .u16 0) ∧ w'.cell? ⟨C, i * 7 + 5, none⟩ = some (.int .u8 (x i).k) ∧ w'.cell? ⟨C, i * 7 + 6, none⟩ = some (.int .u8 (x i).ws)) ∧ Two B C y x w w') w' → Below w'.heap.size w' w'' → (fun w' => (w'.cell? ⟨B, q * 7, none⟩ = some (.pointer none) ∧ w'.cell? ⟨B, q * 7 + 1, none⟩ = some (.string (y q).t) ∧ w'.cell? ⟨B, q * 7 + 2, none⟩ = some (.int .i32 (y q).s) ∧ w'.cell? ⟨B, q * 7 + 3, none⟩ = some (.int .u32 (y q).p) ∧ w'.cell? ⟨B, q * 7 + 4, none⟩ = some (.int .u16 0) ∧ w'.cell? ⟨B, q * 7 + 5, none⟩ = some (.int .u8 (y q).k) ∧ w'.cell? ⟨B, q * 7 + 6, none⟩ = some (.int .u8 (y q).ws)) ∧ (w'.cell? ⟨C, i * 7, none⟩ = some (.pointer none) ∧ w'.cell? ⟨C, i * 7 + 1, none⟩ = some (.string (x i).t) ∧ w'.cell? ⟨C, i * 7 + 2, none⟩ = some (.int .i32 (x i).s) ∧ w'.cell? ⟨C, i * 7 + 3, none⟩ = some (.int .u32 (x i).p) ∧ w'.cell? ⟨C, i * 7 + 4, none⟩ = some (.int .u16 0) ∧ w'.cell? ⟨C, i * 7 + 5, none⟩ = some (.int .u8 (x i).k) ∧ w'.cell? ⟨C, i * 7 + 6, none⟩ = some (.int .u8 (x i).ws)) ∧ Two B C y x w w') w'' := fun w' w'' h hb => (h.2.2.call hb).cmp q i hq4 hi4
          have HK := Lib.hid hK
          clear hS hK hW
          go_wp2_with fail
          go_region_held3 (fun w' => (w'.cell? ⟨B, q * 7, none⟩ = some (.pointer none) ∧ w'.cell? ⟨B, q * 7 + 1, none⟩ = some (.string (y q).t) ∧ w'.cell? ⟨B, q * 7 + 2, none⟩ = some (.int .i32 (y q).s) ∧ w'.cell? ⟨B, q * 7 + 3, none⟩ = some (.int .u32 (y q).p) ∧ w'.cell? ⟨B, q * 7 + 4, none⟩ = some (.int .u16 0) ∧ w'.cell? ⟨B, q * 7 + 5, none⟩ = some (.int .u8 (y q).k) ∧ w'.cell? ⟨B, q * 7 + 6, none⟩ = some (.int .u8 (y q).ws)) ∧ (w'.cell? ⟨C, i * 7, none⟩ = some (.pointer none) ∧ w'.cell? ⟨C, i * 7 + 1, none⟩ = some (.string (x i).t) ∧ w'.cell? ⟨C, i * 7 + 2, none⟩ = some (.int .i32 (x i).s) ∧ w'.cell? ⟨C, i * 7 + 3, none⟩ = some (.int .u32 (x i).p) ∧ w'.cell? ⟨C, i * 7 + 4, none⟩ = some (.int .u16 0) ∧ w'.cell? ⟨C, i * 7 + 5, none⟩ = some (.int .u8 (x i).k) ∧ w'.cell? ⟨C, i * 7 + 6, none⟩ = some (.int .u8 (x i).ws)) ∧ Two B C y x w w')
            (first | with_reducible exact HS.out | with_reducible exact HK.out _ _ (by assumption) hb)
            (first | (go_at_call 16; with_reducible refine (HI.out _).mono ?_; rintro e w8 ⟨rfl, hw8⟩; obtain rfl := hw8.symm) | (go_at_call 17; with_reducible refine (eq17 (y q) (x i) _).mono ?_; rw [HE.out]; rintro e w9 ⟨rfl, hb⟩))
          rename_i hH
          have HH := Lib.hid hH.2.2
          clear HS HK hH hb

          go_wp2_with fail
          go_roundw
          case rel => exact ⟨i + 1, by omega, by go_num, HH.out⟩
          case measure => first | (simp [intOf]; done) | (simp [intOf]; omega)
        · have HW2 := Lib.hid hW.below
          clear hW
          go_wp2_with fail
          go_ret
          exact ⟨rfl, HW2.out⟩
end Go.Proofs.Ytecdhjhobjagkaa

