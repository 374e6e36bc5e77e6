/-
  The walks of the two quad laws. Conditions: strings of a real length; the tokens stand at places 0 to 3.
-/
import Derived.Test.YtecdhjhobjagkaaWe
import Derived.Deep.DeepCutAuto
namespace Go.Proofs.Ytecdhjhobjagkaa
open Go.ChangeShapes Go.WideShapes Go.ChangeAt Go.RowKit

theorem bcell {W w1 : World} (hb : Below W.heap.size W w1) : (∀ b o, b < W.heap.size → w1.cell? ⟨b, o, none⟩ = W.cell? ⟨b, o, none⟩) ∧ (∀ b o, b < W.heap.size → w1.frozen? ⟨b, o, none⟩ = W.frozen? ⟨b, o, none⟩) :=
  ⟨fun b o h => hb.cell (p := ⟨b, o, none⟩) h, fun b o h => hb.frozen (p := ⟨b, o, none⟩) h⟩
theorem size_put (b : Nat) : ∀ (vs : List Value) (o : Nat) (w : World), (w.setCells b o vs).heap.size = w.heap.size := by
  intro vs
  induction vs with
  | nil => intro o w; rfl
  | cons v r ih => intro o w; rw [World.setCells, ih]; simp [go_sem]
theorem there_new (x0 x1 x2 x3 : Tok) (w3 : World) : (w3.alloc (.cells #[.pointer none, .string ⟨#[]⟩, .int .i32 0, .int .u32 0, .int .u16 0, .int .u8 0, .int .u8 0, .pointer none, .string ⟨#[]⟩, .int .i32 0, .int .u32 0, .int .u16 0, .int .u8 0, .int .u8 0, .pointer none, .string ⟨#[]⟩, .int .i32 0, .int .u32 0, .int .u16 0, .int .u8 0, .int .u8 0, .pointer none, .string ⟨#[]⟩, .int .i32 0, .int .u32 0, .int .u16 0, .int .u8 0, .int .u8 0] 43)).there w3.heap.size 0 (list28 x0 x1 x2 x3).toArray.size := by
  intro j hj
  have hj' : j < 28 := by simpa [list28] using hj
  constructor
  · simp [go_sem]
    omega
  · simp [go_sem]
theorem toks_put (x0 x1 x2 x3 : Tok) (w3 : World) : Toks w3.heap.size 4 (four x0 x1 x2 x3) ((w3.alloc (.cells #[.pointer none, .string ⟨#[]⟩, .int .i32 0, .int .u32 0, .int .u16 0, .int .u8 0, .int .u8 0, .pointer none, .string ⟨#[]⟩, .int .i32 0, .int .u32 0, .int .u16 0, .int .u8 0, .int .u8 0, .pointer none, .string ⟨#[]⟩, .int .i32 0, .int .u32 0, .int .u16 0, .int .u8 0, .int .u8 0, .pointer none, .string ⟨#[]⟩, .int .i32 0, .int .u32 0, .int .u16 0, .int .u8 0, .int .u8 0] 43)).setCells w3.heap.size 0 (list28 x0 x1 x2 x3)) := by
  refine ⟨?_, fun i o hi ho => ?_, fun o => ?_⟩
  · rw [size_put]
    simp [go_sem]
  · have h := World.rangeAt_setCells_same (w3.alloc (.cells #[.pointer none, .string ⟨#[]⟩, .int .i32 0, .int .u32 0, .int .u16 0, .int .u8 0, .int .u8 0, .pointer none, .string ⟨#[]⟩, .int .i32 0, .int .u32 0, .int .u16 0, .int .u8 0, .int .u8 0, .pointer none, .string ⟨#[]⟩, .int .i32 0, .int .u32 0, .int .u16 0, .int .u8 0, .int .u8 0, .pointer none, .string ⟨#[]⟩, .int .i32 0, .int .u32 0, .int .u16 0, .int .u8 0, .int .u8 0] 43)) w3.heap.size 0 (list28 x0 x1 x2 x3) (there_new x0 x1 x2 x3 w3) (i * 7 + o) ((four x0 x1 x2 x3 i).at o) (by
      rw [list28_at _ _ _ _ _ (by omega), show (i * 7 + o) / 7 = i by omega, show (i * 7 + o) % 7 = o by omega])
    rwa [Nat.zero_add] at h
  · rw [World.frozen?_setCells]; simp [go_sem]
/-- the answer's row and the quad's row lie there -/
structure Two (B C : Nat) (y x : Nat → Tok) (w0 w : World) : Prop where
  out : Toks B 4 y w
  quad : Toks C 4 x w
  below : Below w0.heap.size w0 w
  size : w0.heap.size ≤ w.heap.size
theorem Two.call {B C : Nat} {y x : Nat → Tok} {w0 w w' : World} (h : Two B C y x w0 w) (hb : Below w.heap.size w w') : Two B C y x w0 w' :=
  ⟨h.out.call hb, h.quad.call hb, h.below.trans (hb.mono h.size), Nat.le_trans h.size hb.size⟩
abbrev TwoS (B C q i : Nat) (y x : Nat → Tok) (w0 w' : World) : Prop := TkC B (q * 7) (y q) w' ∧ TkC C (i * 7) (x i) w' ∧ Two B C y x w0 w'
theorem Two.cmp {B C : Nat} {y x : Nat → Tok} {w0 w : World} (h : Two B C y x w0 w) (q i : Nat) (hq : q < 4) (hi : i < 4) : TwoS B C q i y x w0 w := ⟨h.out.tok q hq, h.quad.tok i hi, h⟩
structure L1 (B C n : Nat) (y x : Nat → Tok) (w0 : World) (j : Value) (wr : World) : Prop where
  ex : ∃ k : Nat, 1 ≤ k ∧ k ≤ n ∧ j = .int .i64 k ∧ Two B C y x w0 wr
structure L2 (B C j : Nat) (y x : Nat → Tok) (w0 : World) (a i : Value) (wr : World) : Prop where
  ex : ∃ k : Nat, k ≤ 4 ∧ i = .int .i64 k ∧ a = .bool (allU x j k) ∧ Two B C y x w0 wr

set_option maxRecDepth 20000 in
set_option maxHeartbeats 4000000 in
theorem law5 (x0 x1 x2 x3 : Tok) (m : Bool) (w : World) (s0 : x0.s = 0) (s1 : x1.s = 1) (s2 : x2.s = 2) (s3 : x3.s = 3) (z0 : x0.t.size ≤ maxLen) (z1 : x1.t.size ≤ maxLen) (z2 : x2.t.size ≤ maxLen) (z3 : x3.t.size ≤ maxLen) :
    Calls Try.prog 5 #[.agg #[.int .u8 x0.k, .int .u8 x1.k, .int .u8 x2.k, .int .u8 x3.k], .agg #[.string x0.t, .string x1.t, .string x2.t, .string x3.t], .agg #[.int .u32 x0.p, .int .u32 x1.p, .int .u32 x2.p, .int .u32 x3.p], .agg #[.int .u8 x0.ws, .int .u8 x1.ws, .int .u8 x2.ws, .int .u8 x3.ws], .bool m] w fun e w' => e = .returned (.bool true) ∧ Below w.heap.size w w' := by
  have HB4 := Lib.hid (below_four x0 x1 x2 x3 w)
  have HQ := Lib.hid (fun w' => quad14 x0 x1 x2 x3 w' s0 s1 s2 s3)
  have HA := Lib.hid (fun w' => any12 x0 x1 x2 x3 m w' z0 z1 z2 z3)
  have HL := Lib.hid (fun w' => any13 x0 x1 x2 x3 w' z0 z1 z2 z3)
  clear s0 s1 s2 s3 z0 z1 z2 z3
  go_enter Try.func5, Try.ntmps5
  go_wp2_with fail
  with_reducible refine (HA.out _).mono ?_
  rintro e w1 hany
  obtain ⟨b1, rfl, hb1⟩ := hany.ex
  clear hany
  have HB1 := Lib.hid (HB4.out.trans (hb1.mono HB4.out.size))
  obtain ⟨hc1, hf1⟩ := bcell hb1
  have hz1 : w.heap.size + 1 + 1 + 1 + 1 ≤ w1.heap.size := by have := hb1.size; simpa [go_sem] using this
  have ha1 : w.heap.size < w1.heap.size := by omega
  have ha2 : w.heap.size + 1 < w1.heap.size := by omega
  have ha3 : w.heap.size + 1 + 1 < w1.heap.size := by omega
  have ha4 : w.heap.size + 1 + 1 + 1 < w1.heap.size := by omega
  clear hb1
  cases b1
  · go_wp2_with fail
    go_ret
    exact ⟨rfl, HB1.out⟩
  go_wp2_with fail
  with_reducible refine (HL.out _).mono ?_
  rintro e w2 hany
  obtain ⟨b2, rfl, hb2⟩ := hany.ex
  clear hany
  have HB2 := Lib.hid (HB1.out.trans (hb2.mono HB1.out.size))
  have hz2 := hb2.size
  obtain ⟨hc2, hf2⟩ := bcell hb2
  clear hb2
  cases b2
  case true =>
    go_wp2_with fail
    go_ret
    exact ⟨rfl, HB2.out⟩
  have h1c : (list28 x0 x1 x2 x3).toArray.all (·.oneCell') = true := by simp [list28, Value.oneCell']
  have hi2 : (Try.prog.info? 43).map (·.size) = some (list28 x0 x1 x2 x3).toArray.size := by rw [info43]; rfl
  have H1C := Lib.hid h1c
  have HI2 := Lib.hid hi2
  clear h1c hi2
  go_upto_region 6 with (first
    | ((with_reducible refine (HQ.out _).mono ?_); rintro e w3 ⟨rfl, hb3⟩; have HB3 := Lib.hid (HB2.out.trans (hb3.mono HB2.out.size)); clear hb3)
    | ((with_reducible refine wpList_store_mid ?_ 43 (.tmp 11) (.tmp 30) ?_ _ 0 (list28 x0 x1 x2 x3).toArray ?_ ?_ (there_new x0 x1 x2 x3 _) HI2.out H1C.out ?_); rfl; rfl; rfl; rfl))
  clear hc1 hf1 hc2 hf2 hz1 hz2 ha1 ha2 ha3 ha4 HA HL HQ HB4 HB1 HB2 HI2 H1C
  have hT : Toks w3.heap.size 4 (four x0 x1 x2 x3) ((w3.alloc (.cells #[.pointer none, .string ⟨#[]⟩, .int .i32 0, .int .u32 0, .int .u16 0, .int .u8 0, .int .u8 0, .pointer none, .string ⟨#[]⟩, .int .i32 0, .int .u32 0, .int .u16 0, .int .u8 0, .int .u8 0, .pointer none, .string ⟨#[]⟩, .int .i32 0, .int .u32 0, .int .u16 0, .int .u8 0, .int .u8 0, .pointer none, .string ⟨#[]⟩, .int .i32 0, .int .u32 0, .int .u16 0, .int .u8 0, .int .u8 0] 43)).setCells w3.heap.size 0 (list28 x0 x1 x2 x3)) := toks_put x0 x1 x2 x3 w3
  have hbl : Below w3.heap.size w3 ((w3.alloc (.cells #[.pointer none, .string ⟨#[]⟩, .int .i32 0, .int .u32 0, .int .u16 0, .int .u8 0, .int .u8 0, .pointer none, .string ⟨#[]⟩, .int .i32 0, .int .u32 0, .int .u16 0, .int .u8 0, .int .u8 0, .pointer none, .string ⟨#[]⟩, .int .i32 0, .int .u32 0, .int .u16 0, .int .u8 0, .int .u8 0, .pointer none, .string ⟨#[]⟩, .int .i32 0, .int .u32 0, .int .u16 0, .int .u8 0, .int .u8 0] 43)).setCells w3.heap.size 0 (list28 x0 x1 x2 x3)) := below_setCells ((Below.refl _ _).alloc (Nat.le_refl _) _) _ (Nat.le_refl _) _ _
  have HB5 := Lib.hid (HB3.out.trans (hbl.mono HB3.out.size))
  generalize ((w3.alloc (.cells #[.pointer none, .string ⟨#[]⟩, .int .i32 0, .int .u32 0, .int .u16 0, .int .u8 0, .int .u8 0, .pointer none, .string ⟨#[]⟩, .int .i32 0, .int .u32 0, .int .u16 0, .int .u8 0, .int .u8 0, .pointer none, .string ⟨#[]⟩, .int .i32 0, .int .u32 0, .int .u16 0, .int .u8 0, .int .u8 0, .pointer none, .string ⟨#[]⟩, .int .i32 0, .int .u32 0, .int .u16 0, .int .u8 0, .int .u8 0] 43)).setCells w3.heap.size 0 (list28 x0 x1 x2 x3)) = w5 at *
  generalize w3.heap.size = C at *
  have q0 : w5.cell? ⟨C, 0, none⟩ = some (.pointer none) := hT.c 0 0 (by omega) (by omega)
  have q1 : w5.cell? ⟨C, 1, none⟩ = some (.string x0.t) := hT.c 0 1 (by omega) (by omega)
  have q2 : w5.cell? ⟨C, 2, none⟩ = some (.int .i32 x0.s) := hT.c 0 2 (by omega) (by omega)
  have q3 : w5.cell? ⟨C, 3, none⟩ = some (.int .u32 x0.p) := hT.c 0 3 (by omega) (by omega)
  have q4 : w5.cell? ⟨C, 4, none⟩ = some (.int .u16 0) := hT.c 0 4 (by omega) (by omega)
  have q5 : w5.cell? ⟨C, 5, none⟩ = some (.int .u8 x0.k) := hT.c 0 5 (by omega) (by omega)
  have q6 : w5.cell? ⟨C, 6, none⟩ = some (.int .u8 x0.ws) := hT.c 0 6 (by omega) (by omega)
  have q7 : w5.cell? ⟨C, 7, none⟩ = some (.pointer none) := hT.c 1 0 (by omega) (by omega)
  have q8 : w5.cell? ⟨C, 8, none⟩ = some (.string x1.t) := hT.c 1 1 (by omega) (by omega)
  have q9 : w5.cell? ⟨C, 9, none⟩ = some (.int .i32 x1.s) := hT.c 1 2 (by omega) (by omega)
  have q10 : w5.cell? ⟨C, 10, none⟩ = some (.int .u32 x1.p) := hT.c 1 3 (by omega) (by omega)
  have q11 : w5.cell? ⟨C, 11, none⟩ = some (.int .u16 0) := hT.c 1 4 (by omega) (by omega)
  have q12 : w5.cell? ⟨C, 12, none⟩ = some (.int .u8 x1.k) := hT.c 1 5 (by omega) (by omega)
  have q13 : w5.cell? ⟨C, 13, none⟩ = some (.int .u8 x1.ws) := hT.c 1 6 (by omega) (by omega)
  have q14 : w5.cell? ⟨C, 14, none⟩ = some (.pointer none) := hT.c 2 0 (by omega) (by omega)
  have q15 : w5.cell? ⟨C, 15, none⟩ = some (.string x2.t) := hT.c 2 1 (by omega) (by omega)
  have q16 : w5.cell? ⟨C, 16, none⟩ = some (.int .i32 x2.s) := hT.c 2 2 (by omega) (by omega)
  have q17 : w5.cell? ⟨C, 17, none⟩ = some (.int .u32 x2.p) := hT.c 2 3 (by omega) (by omega)
  have q18 : w5.cell? ⟨C, 18, none⟩ = some (.int .u16 0) := hT.c 2 4 (by omega) (by omega)
  have q19 : w5.cell? ⟨C, 19, none⟩ = some (.int .u8 x2.k) := hT.c 2 5 (by omega) (by omega)
  have q20 : w5.cell? ⟨C, 20, none⟩ = some (.int .u8 x2.ws) := hT.c 2 6 (by omega) (by omega)
  have q21 : w5.cell? ⟨C, 21, none⟩ = some (.pointer none) := hT.c 3 0 (by omega) (by omega)
  have q22 : w5.cell? ⟨C, 22, none⟩ = some (.string x3.t) := hT.c 3 1 (by omega) (by omega)
  have q23 : w5.cell? ⟨C, 23, none⟩ = some (.int .i32 x3.s) := hT.c 3 2 (by omega) (by omega)
  have q24 : w5.cell? ⟨C, 24, none⟩ = some (.int .u32 x3.p) := hT.c 3 3 (by omega) (by omega)
  have q25 : w5.cell? ⟨C, 25, none⟩ = some (.int .u16 0) := hT.c 3 4 (by omega) (by omega)
  have q26 : w5.cell? ⟨C, 26, none⟩ = some (.int .u8 x3.k) := hT.c 3 5 (by omega) (by omega)
  have q27 : w5.cell? ⟨C, 27, none⟩ = some (.int .u8 x3.ws) := hT.c 3 6 (by omega) (by omega)
  have HT := Lib.hid hT
  clear hT hbl HB3
  go_wp2_with fail
  with_reducible refine (zcompact15 x0 x1 x2 x3 m _).mono ?_
  rintro e w4 hcz
  obtain ⟨B, rfl, hBl, hH⟩ := hcz.ex
  clear hcz q0 q1 q2 q3 q4 q5 q6 q7 q8 q9 q10 q11 q12 q13 q14 q15 q16 q17 q18 q19 q20 q21 q22 q23 q24 q25 q26 q27
  have hT4 := HT.out.call hH.below
  have HB := Lib.hid (HB5.out.trans (hH.below.mono HB5.out.size))
  obtain ⟨hn1, hn4⟩ := qn_bounds x0 x1 x2 x3
  have hTW : Two B C (wsd m (qn x0 x1 x2 x3) (qn x0 x1 x2 x3) (four x0 x1 x2 x3)) (four x0 x1 x2 x3) w w4 := ⟨hH.toks, hT4, HB.out, HB.out.size⟩
  have HShort := Lib.hid (shortest x0 x1 x2 x3)
  have HY := Lib.hid (fun i z => teq_wsd m (qn x0 x1 x2 x3) (qn x0 x1 x2 x3) (four x0 x1 x2 x3) i z)
  generalize wsd m (qn x0 x1 x2 x3) (qn x0 x1 x2 x3) (four x0 x1 x2 x3) = y at *
  generalize four x0 x1 x2 x3 = x at *
  generalize qn x0 x1 x2 x3 = n at *
  have HT0 := Lib.hid (⟨⟨1, by omega, by omega, rfl, hTW⟩⟩ : L1 B C n y x w (.int .i64 (1 : Nat)) w4)
  clear hT4 hH hTW hBl HT HB5
  go_wp2_with fail
  go_loopw [14, 15, 16] (fun j _ _ wr => L1 B C n y x w j wr) (fun j _ _ _ => n - (intOf j).toNat)
  case atStart => exact HT0.out
  case round =>
    obtain ⟨j, hj1, hjn, rfl, hW⟩ := hrel.ex
    clear hrel HT0
    by_cases hlt : j < n
    · have HW := Lib.hid hW
      clear hW
      go_wp2_with fail
      go_loopw [15, 16] (fun a i wz => L2 B C j y x w a i wz) (fun _ i _ => 4 - (intOf i).toNat)
      case atStart => exact ⟨0, by omega, rfl, rfl, HW.out⟩
      case round =>
        obtain ⟨i, hi, rfl, rfl, hW⟩ := hrel.ex
        clear hrel HW
        obtain ⟨wq, rfl⟩ : ∃ wq : World, wq = wr := ⟨_, rfl⟩
        by_cases hlt2 : i < 4
        · have hqj := qix_lt j i hj1
          have HI := Lib.hid (fun w' => index16 j i w' (by omega) hlt2)
          have HE := Lib.hid (HY.out (qix j i) (x i))
          have HN := Lib.hid (show allU x j (i + 1) = (allU x j i && teq (x (qix j i)) (x i)) from rfl)
          generalize qix j i = q at *
          have hq4 : q < 4 := by omega
          have hi4 : i < 4 := hlt2
          have b0 : (0 : Int) ≤ (q : Int) := by omega
          have b1 : (q : Int) < (n : Int) := by omega
          have b2 : (0 : Int) ≤ (i : Int) := by omega
          have b3 : (i : Int) < 4 := by omega
          generalize teq (x q) (x i) = t at *
          generalize allU x j i = A at *
          cases t
          · have hS : (fun w' => (w'.cell? ⟨B, q * 7, none⟩ = some (.pointer none) ∧ w'.cell? ⟨B, q * 7 + 1, none⟩ = some (.string (y q).t) ∧ w'.cell? ⟨B, q * 7 + 2, none⟩ = some (.int .i32 (y q).s) ∧ w'.cell? ⟨B, q * 7 + 3, none⟩ = some (.int .u32 (y q).p) ∧ w'.cell? ⟨B, q * 7 + 4, none⟩ = some (.int .u16 0) ∧ w'.cell? ⟨B, q * 7 + 5, none⟩ = some (.int .u8 (y q).k) ∧ w'.cell? ⟨B, q * 7 + 6, none⟩ = some (.int .u8 (y q).ws)) ∧ (w'.cell? ⟨C, i * 7, none⟩ = some (.pointer none) ∧ w'.cell? ⟨C, i * 7 + 1, none⟩ = some (.string (x i).t) ∧ w'.cell? ⟨C, i * 7 + 2, none⟩ = some (.int .i32 (x i).s) ∧ w'.cell? ⟨C, i * 7 + 3, none⟩ = some (.int .u32 (x i).p) ∧ w'.cell? ⟨C, i * 7 + 4, none⟩ = some (.int .u16 0) ∧ w'.cell? ⟨C, i * 7 + 5, none⟩ = some (.int .u8 (x i).k) ∧ w'.cell? ⟨C, i * 7 + 6, none⟩ = some (.int .u8 (x i).ws)) ∧ Two B C y x w w') wq.drew := (hW.call (Below.refl _ _).drew).cmp q i hq4 hi4
            have HS := Lib.hid hS
            have hK : ∀ w' w'', (fun w' => (w'.cell? ⟨B, q * 7, none⟩ = some (.pointer none) ∧ w'.cell? ⟨B, q * 7 + 1, none⟩ = some (.string (y q).t) ∧ w'.cell? ⟨B, q * 7 + 2, none⟩ = some (.int .i32 (y q).s) ∧ w'.cell? ⟨B, q * 7 + 3, none⟩ = some (.int .u32 (y q).p) ∧ w'.cell? ⟨B, q * 7 + 4, none⟩ = some (.int .u16 0) ∧ w'.cell? ⟨B, q * 7 + 5, none⟩ = some (.int .u8 (y q).k) ∧ w'.cell? ⟨B, q * 7 + 6, none⟩ = some (.int .u8 (y q).ws)) ∧ (w'.cell? ⟨C, i * 7, none⟩ = some (.pointer none) ∧ w'.cell? ⟨C, i * 7 + 1, none⟩ = some (.string (x i).t) ∧ w'.cell? ⟨C, i * 7 + 2, none⟩ = some (.int .i32 (x i).s) ∧ w'.cell? ⟨C, i * 7 + 3, none⟩ = some (.int .u32 (x i).p) ∧ w'.cell? ⟨C, i * 7 + 4, none⟩ = some (.int .u16 0) ∧ w'.cell? ⟨C, i * 7 + 5, none⟩ = some (.int .u8 (x i).k) ∧ w'.cell? ⟨C, i * 7 + 6, none⟩ = some (.int .u8 (x i).ws)) ∧ Two B C y x w w') w' → Below w'.heap.size w' w'' → (fun w' => (w'.cell? ⟨B, q * 7, none⟩ = some (.pointer none) ∧ w'.cell? ⟨B, q * 7 + 1, none⟩ = some (.string (y q).t) ∧ w'.cell? ⟨B, q * 7 + 2, none⟩ = some (.int .i32 (y q).s) ∧ w'.cell? ⟨B, q * 7 + 3, none⟩ = some (.int .u32 (y q).p) ∧ w'.cell? ⟨B, q * 7 + 4, none⟩ = some (.int .u16 0) ∧ w'.cell? ⟨B, q * 7 + 5, none⟩ = some (.int .u8 (y q).k) ∧ w'.cell? ⟨B, q * 7 + 6, none⟩ = some (.int .u8 (y q).ws)) ∧ (w'.cell? ⟨C, i * 7, none⟩ = some (.pointer none) ∧ w'.cell? ⟨C, i * 7 + 1, none⟩ = some (.string (x i).t) ∧ w'.cell? ⟨C, i * 7 + 2, none⟩ = some (.int .i32 (x i).s) ∧ w'.cell? ⟨C, i * 7 + 3, none⟩ = some (.int .u32 (x i).p) ∧ w'.cell? ⟨C, i * 7 + 4, none⟩ = some (.int .u16 0) ∧ w'.cell? ⟨C, i * 7 + 5, none⟩ = some (.int .u8 (x i).k) ∧ w'.cell? ⟨C, i * 7 + 6, none⟩ = some (.int .u8 (x i).ws)) ∧ Two B C y x w w') w'' := fun w' w'' h hb => (h.2.2.call hb).cmp q i hq4 hi4
            have HK := Lib.hid hK
            clear hS hK hW
            go_wp2_with fail
            go_region_held3 (fun w' => (w'.cell? ⟨B, q * 7, none⟩ = some (.pointer none) ∧ w'.cell? ⟨B, q * 7 + 1, none⟩ = some (.string (y q).t) ∧ w'.cell? ⟨B, q * 7 + 2, none⟩ = some (.int .i32 (y q).s) ∧ w'.cell? ⟨B, q * 7 + 3, none⟩ = some (.int .u32 (y q).p) ∧ w'.cell? ⟨B, q * 7 + 4, none⟩ = some (.int .u16 0) ∧ w'.cell? ⟨B, q * 7 + 5, none⟩ = some (.int .u8 (y q).k) ∧ w'.cell? ⟨B, q * 7 + 6, none⟩ = some (.int .u8 (y q).ws)) ∧ (w'.cell? ⟨C, i * 7, none⟩ = some (.pointer none) ∧ w'.cell? ⟨C, i * 7 + 1, none⟩ = some (.string (x i).t) ∧ w'.cell? ⟨C, i * 7 + 2, none⟩ = some (.int .i32 (x i).s) ∧ w'.cell? ⟨C, i * 7 + 3, none⟩ = some (.int .u32 (x i).p) ∧ w'.cell? ⟨C, i * 7 + 4, none⟩ = some (.int .u16 0) ∧ w'.cell? ⟨C, i * 7 + 5, none⟩ = some (.int .u8 (x i).k) ∧ w'.cell? ⟨C, i * 7 + 6, none⟩ = some (.int .u8 (x i).ws)) ∧ Two B C y x w w')
              (first | with_reducible exact HS.out | with_reducible exact HK.out _ _ (by assumption) hb)
              (first | (go_at_call 16; with_reducible refine (HI.out _).mono ?_; rintro e w8 ⟨rfl, hw8⟩; obtain rfl := hw8.symm) | (go_at_call 17; with_reducible refine (eq17 (y q) (x i) _).mono ?_; rw [HE.out]; rintro e w9 ⟨rfl, hb⟩))
            rename_i hH
            have HH := Lib.hid hH.2.2
            clear HS HK hH hb

            go_wp2_with fail
            go_roundw
            case rel => exact ⟨i + 1, by omega, by go_num, by rw [HN.out]; simp, HH.out⟩
            case measure => simp [intOf]; omega
          · have hS : (fun w' => (w'.cell? ⟨B, q * 7, none⟩ = some (.pointer none) ∧ w'.cell? ⟨B, q * 7 + 1, none⟩ = some (.string (y q).t) ∧ w'.cell? ⟨B, q * 7 + 2, none⟩ = some (.int .i32 (y q).s) ∧ w'.cell? ⟨B, q * 7 + 3, none⟩ = some (.int .u32 (y q).p) ∧ w'.cell? ⟨B, q * 7 + 4, none⟩ = some (.int .u16 0) ∧ w'.cell? ⟨B, q * 7 + 5, none⟩ = some (.int .u8 (y q).k) ∧ w'.cell? ⟨B, q * 7 + 6, none⟩ = some (.int .u8 (y q).ws)) ∧ (w'.cell? ⟨C, i * 7, none⟩ = some (.pointer none) ∧ w'.cell? ⟨C, i * 7 + 1, none⟩ = some (.string (x i).t) ∧ w'.cell? ⟨C, i * 7 + 2, none⟩ = some (.int .i32 (x i).s) ∧ w'.cell? ⟨C, i * 7 + 3, none⟩ = some (.int .u32 (x i).p) ∧ w'.cell? ⟨C, i * 7 + 4, none⟩ = some (.int .u16 0) ∧ w'.cell? ⟨C, i * 7 + 5, none⟩ = some (.int .u8 (x i).k) ∧ w'.cell? ⟨C, i * 7 + 6, none⟩ = some (.int .u8 (x i).ws)) ∧ Two B C y x w w') wq.drew := (hW.call (Below.refl _ _).drew).cmp q i hq4 hi4
            have HS := Lib.hid hS
            have hK : ∀ w' w'', (fun w' => (w'.cell? ⟨B, q * 7, none⟩ = some (.pointer none) ∧ w'.cell? ⟨B, q * 7 + 1, none⟩ = some (.string (y q).t) ∧ w'.cell? ⟨B, q * 7 + 2, none⟩ = some (.int .i32 (y q).s) ∧ w'.cell? ⟨B, q * 7 + 3, none⟩ = some (.int .u32 (y q).p) ∧ w'.cell? ⟨B, q * 7 + 4, none⟩ = some (.int .u16 0) ∧ w'.cell? ⟨B, q * 7 + 5, none⟩ = some (.int .u8 (y q).k) ∧ w'.cell? ⟨B, q * 7 + 6, none⟩ = some (.int .u8 (y q).ws)) ∧ (w'.cell? ⟨C, i * 7, none⟩ = some (.pointer none) ∧ w'.cell? ⟨C, i * 7 + 1, none⟩ = some (.string (x i).t) ∧ w'.cell? ⟨C, i * 7 + 2, none⟩ = some (.int .i32 (x i).s) ∧ w'.cell? ⟨C, i * 7 + 3, none⟩ = some (.int .u32 (x i).p) ∧ w'.cell? ⟨C, i * 7 + 4, none⟩ = some (.int .u16 0) ∧ w'.cell? ⟨C, i * 7 + 5, none⟩ = some (.int .u8 (x i).k) ∧ w'.cell? ⟨C, i * 7 + 6, none⟩ = some (.int .u8 (x i).ws)) ∧ Two B C y x w w') w' → Below w'.heap.size w' w'' → (fun w' => (w'.cell? ⟨B, q * 7, none⟩ = some (.pointer none) ∧ w'.cell? ⟨B, q * 7 + 1, none⟩ = some (.string (y q).t) ∧ w'.cell? ⟨B, q * 7 + 2, none⟩ = some (.int .i32 (y q).s) ∧ w'.cell? ⟨B, q * 7 + 3, none⟩ = some (.int .u32 (y q).p) ∧ w'.cell? ⟨B, q * 7 + 4, none⟩ = some (.int .u16 0) ∧ w'.cell? ⟨B, q * 7 + 5, none⟩ = some (.int .u8 (y q).k) ∧ w'.cell? ⟨B, q * 7 + 6, none⟩ = some (.int .u8 (y q).ws)) ∧ (w'.cell? ⟨C, i * 7, none⟩ = some (.pointer none) ∧ w'.cell? ⟨C, i * 7 + 1, none⟩ = some (.string (x i).t) ∧ w'.cell? ⟨C, i * 7 + 2, none⟩ = some (.int .i32 (x i).s) ∧ w'.cell? ⟨C, i * 7 + 3, none⟩ = some (.int .u32 (x i).p) ∧ w'.cell? ⟨C, i * 7 + 4, none⟩ = some (.int .u16 0) ∧ w'.cell? ⟨C, i * 7 + 5, none⟩ = some (.int .u8 (x i).k) ∧ w'.cell? ⟨C, i * 7 + 6, none⟩ = some (.int .u8 (x i).ws)) ∧ Two B C y x w w') w'' := fun w' w'' h hb => (h.2.2.call hb).cmp q i hq4 hi4
            have HK := Lib.hid hK
            clear hS hK hW
            go_wp2_with fail
            go_region_held3 (fun w' => (w'.cell? ⟨B, q * 7, none⟩ = some (.pointer none) ∧ w'.cell? ⟨B, q * 7 + 1, none⟩ = some (.string (y q).t) ∧ w'.cell? ⟨B, q * 7 + 2, none⟩ = some (.int .i32 (y q).s) ∧ w'.cell? ⟨B, q * 7 + 3, none⟩ = some (.int .u32 (y q).p) ∧ w'.cell? ⟨B, q * 7 + 4, none⟩ = some (.int .u16 0) ∧ w'.cell? ⟨B, q * 7 + 5, none⟩ = some (.int .u8 (y q).k) ∧ w'.cell? ⟨B, q * 7 + 6, none⟩ = some (.int .u8 (y q).ws)) ∧ (w'.cell? ⟨C, i * 7, none⟩ = some (.pointer none) ∧ w'.cell? ⟨C, i * 7 + 1, none⟩ = some (.string (x i).t) ∧ w'.cell? ⟨C, i * 7 + 2, none⟩ = some (.int .i32 (x i).s) ∧ w'.cell? ⟨C, i * 7 + 3, none⟩ = some (.int .u32 (x i).p) ∧ w'.cell? ⟨C, i * 7 + 4, none⟩ = some (.int .u16 0) ∧ w'.cell? ⟨C, i * 7 + 5, none⟩ = some (.int .u8 (x i).k) ∧ w'.cell? ⟨C, i * 7 + 6, none⟩ = some (.int .u8 (x i).ws)) ∧ Two B C y x w w')
              (first | with_reducible exact HS.out | with_reducible exact HK.out _ _ (by assumption) hb)
              (first | (go_at_call 16; with_reducible refine (HI.out _).mono ?_; rintro e w8 ⟨rfl, hw8⟩; obtain rfl := hw8.symm) | (go_at_call 17; with_reducible refine (eq17 (y q) (x i) _).mono ?_; rw [HE.out]; rintro e w9 ⟨rfl, hb⟩))
            rename_i hH
            have HH := Lib.hid hH.2.2
            clear HS HK hH hb

            go_wp2_with fail
            go_roundw
            case rel => exact ⟨i + 1, by omega, by go_num, by rw [HN.out]; simp, HH.out⟩
            case measure => simp [intOf]; omega
        · obtain rfl : i = 4 := by omega
          rw [HShort.out j hj1 hlt]
          have HW2 := Lib.hid hW
          clear hW
          go_wp2_with fail
          go_roundw
          case rel => exact ⟨j + 1, by omega, by omega, by go_num, HW2.out⟩
          case measure => simp [intOf]; omega
    · have HW2 := Lib.hid hW.below
      clear hW
      go_wp2_with fail
      go_ret
      exact ⟨rfl, HW2.out⟩
end Go.Proofs.Ytecdhjhobjagkaa

