/-
  The law FnParseAttributeSelectorEmptyNamespaceIsNone, walked: it answers true. No conditions beyond the types.
-/
import Derived.Test.YtggfffdbohmpnaaFmtKi
namespace Go.Proofs.YtggfffdbohmpnaaFmt
set_option linter.unusedVariables false
open Go.ChangeShapes Go.WideShapes Go.ChangeAt Go.RowKit Go.Lib

theorem Psr.other {w w' : World} {p p' : Nat} {s : ByteArray} {r n : Nat} {f : Nat → Tk} {i : Int} (h : Psr w p s r n f i) (hp : p ≠ p') (hr : r ≠ p') (hc : ∀ b o, b < w.heap.size → b ≠ p' → w'.cell? ⟨b, o, none⟩ = w.cell? ⟨b, o, none⟩) (hf : ∀ b o, b < w.heap.size → b ≠ p' → w'.frozen? ⟨b, o, none⟩ = w.frozen? ⟨b, o, none⟩) (hz : w.heap.size ≤ w'.heap.size) : Psr w' p s r n f i := by
  have h1 := h.lt
  have h2 := h.rlt
  refine ⟨by omega, by omega, h.ne, h.small, ?_, ?_, ?_, ?_, fun j o hj ho => ?_⟩
  · rw [hc p 9 h1 hp]; exact h.c9
  · rw [hc p 16 h1 hp]; exact h.c16
  · rw [hc p 42 h1 hp]; exact h.c42
  · rw [hf p 42 h1 hp]; exact h.z42
  · rw [hc r _ h2 hr]; exact h.t j o hj ho
theorem Psr.ne2 {w : World} {p p' : Nat} {s s' : ByteArray} {r n r' n' : Nat} {f f' : Nat → Tk} {i i' : Int} (h : Psr w p s r n f i) (k : Psr w p' s' r' n' f' i') (hn : 2 ≤ n) : r ≠ p' := by
  intro e
  have a := h.t 1 4 (by omega) (by omega)
  have b := k.c9
  rw [← e] at b
  have c := a.symm.trans b
  simp [Tk.at] at c
theorem cat_len1 (nm : ByteArray) (op : Nat) (ws q : Bool) (v : ByteArray) (md : UInt8) : (cat (allL 1 ⟨#[]⟩ nm op ws q v md)).size = (cat (allL 0 ⟨#[]⟩ nm op ws q v md)).size + 1 ∧ (allL 1 ⟨#[]⟩ nm op ws q v md).length = (allL 0 ⟨#[]⟩ nm op ws q v md).length + 1 := by
  constructor
  · rw [size_cat, size_cat]
    simp only [allL, preL, List.cons_append, List.nil_append, List.map_cons, List.sum_cons, if_true, if_neg (show ¬ (1 : Nat) = 0 by decide)]
    have : (B [124]).size = 1 := rfl
    omega
  · simp [allL, preL]

set_option maxRecDepth 20000 in
set_option maxHeartbeats 2000000 in
theorem law3 (nm : ByteArray) (op : Nat) (v : ByteArray) (q : Bool) (md : UInt8) (ws : Bool) (w : World) (h2 : nm.size ≤ maxLen) (h3 : v.size ≤ maxLen) :
    Calls Tryf.prog 3 #[.string nm, .int .u8 op, .string v, .bool q, .int .u8 (md.toNat : Int), .bool ws] w fun e w' => e = .returned (.bool true) ∧ Below w.heap.size w w' := by
  have H2 := hid h2
  have H3 := hid h3
  simp only [maxLen] at h2 h3
  go_enter Tryf.func3, Tryf.ntmps3
  go_wp2_with fail
  refine (bytes5 op md.toNat nm v q ws w H2.out H3.out).mono ?_
  rintro e wx ⟨⟨b, rfl, hw, hsm⟩⟩
  obtain rfl := hw.symm
  cases b
  case false =>
    clear hsm
    go_wp2
    go_ret
    exact ⟨rfl, Below.refl _ _⟩
  have hsum := hsm rfl
  clear hsm
  go_wp2_with fail
  refine (out6 0 ⟨#[]⟩ nm op v q md.toNat w (Nat.zero_le _) H2.out H3.out).mono ?_
  rintro e w1 ⟨⟨b, rfl, hw, hD⟩⟩
  have HB1 := hid hw.below
  clear hw
  cases b
  case true =>
    clear hD
    go_wp2
    go_ret
    exact ⟨rfl, HB1.out⟩
  have D := hid (hD rfl)
  clear hD
  go_wp2_with fail
  refine (script7 0 ⟨#[]⟩ nm op v q md ws w1 (by omega) D.out.op_ (by show 0 ≤ _; omega) D.out.a2 D.out.a3).mono ?_
  rintro e w2 ⟨v1, v2, v3, rfl, hb2, r1, r2, r3, hS0, hT0⟩
  obtain ⟨g01, k01, e1, _⟩ := r1.ex
  obtain ⟨g02, k02, e2, _⟩ := r2.ex
  obtain ⟨g03, k03, e3, _⟩ := r3.ex
  subst e1 e2 e3
  have hal : Below w2.heap.size w2 (w2.alloc (.cells #[.string (cat (allL 0 ⟨#[]⟩ nm op ws q v md)), .slice (some ⟨g01, 0, none⟩) (kindsV (allL 0 ⟨#[]⟩ nm op ws q v md)).length k01, .slice (some ⟨g02, 0, none⟩) (startsV (allL 0 ⟨#[]⟩ nm op ws q v md)).length k02, .slice (some ⟨g03, 0, none⟩) (lensV (allL 0 ⟨#[]⟩ nm op ws q v md)).length k03] 27)) := (Below.refl _ _).alloc (Nat.le_refl _) _
  have hA0 := hb2.trans (hal.mono hb2.size)
  have R01 := hid ((r1.call hal (Nat.le_refl _)).mono (Nat.zero_le _))
  have R02 := hid ((r2.call hal (Nat.le_refl _)).mono (Nat.zero_le _))
  have R03 := hid ((r3.call hal (Nat.le_refl _)).mono (Nat.zero_le _))
  have HSX0 := hid (sfx_of (cat (allL 0 ⟨#[]⟩ nm op ws q v md)) (allL 0 ⟨#[]⟩ nm op ws q v md).length (tkT (allL 0 ⟨#[]⟩ nm op ws q v md)) (allL 0 ⟨#[]⟩ nm op ws q v md) [] 0 0 rfl (by simp) rfl (by simp) (fun j _ => by simp))
  have q0 : (w2.alloc (.cells #[.string (cat (allL 0 ⟨#[]⟩ nm op ws q v md)), .slice (some ⟨g01, 0, none⟩) (kindsV (allL 0 ⟨#[]⟩ nm op ws q v md)).length k01, .slice (some ⟨g02, 0, none⟩) (startsV (allL 0 ⟨#[]⟩ nm op ws q v md)).length k02, .slice (some ⟨g03, 0, none⟩) (lensV (allL 0 ⟨#[]⟩ nm op ws q v md)).length k03] 27)).cell? ⟨w2.heap.size, 0, none⟩ = some (.string (cat (allL 0 ⟨#[]⟩ nm op ws q v md))) := by simp [go_sem]
  have q1 : (w2.alloc (.cells #[.string (cat (allL 0 ⟨#[]⟩ nm op ws q v md)), .slice (some ⟨g01, 0, none⟩) (kindsV (allL 0 ⟨#[]⟩ nm op ws q v md)).length k01, .slice (some ⟨g02, 0, none⟩) (startsV (allL 0 ⟨#[]⟩ nm op ws q v md)).length k02, .slice (some ⟨g03, 0, none⟩) (lensV (allL 0 ⟨#[]⟩ nm op ws q v md)).length k03] 27)).cell? ⟨w2.heap.size, 1, none⟩ = some (.slice (some ⟨g01, 0, none⟩) (kindsV (allL 0 ⟨#[]⟩ nm op ws q v md)).length k01) := by simp [go_sem]
  have q2 : (w2.alloc (.cells #[.string (cat (allL 0 ⟨#[]⟩ nm op ws q v md)), .slice (some ⟨g01, 0, none⟩) (kindsV (allL 0 ⟨#[]⟩ nm op ws q v md)).length k01, .slice (some ⟨g02, 0, none⟩) (startsV (allL 0 ⟨#[]⟩ nm op ws q v md)).length k02, .slice (some ⟨g03, 0, none⟩) (lensV (allL 0 ⟨#[]⟩ nm op ws q v md)).length k03] 27)).cell? ⟨w2.heap.size, 2, none⟩ = some (.slice (some ⟨g02, 0, none⟩) (startsV (allL 0 ⟨#[]⟩ nm op ws q v md)).length k02) := by simp [go_sem]
  have q3 : (w2.alloc (.cells #[.string (cat (allL 0 ⟨#[]⟩ nm op ws q v md)), .slice (some ⟨g01, 0, none⟩) (kindsV (allL 0 ⟨#[]⟩ nm op ws q v md)).length k01, .slice (some ⟨g02, 0, none⟩) (startsV (allL 0 ⟨#[]⟩ nm op ws q v md)).length k02, .slice (some ⟨g03, 0, none⟩) (lensV (allL 0 ⟨#[]⟩ nm op ws q v md)).length k03] 27)).cell? ⟨w2.heap.size, 3, none⟩ = some (.slice (some ⟨g03, 0, none⟩) (lensV (allL 0 ⟨#[]⟩ nm op ws q v md)).length k03) := by simp [go_sem]
  have hl0 : w2.heap.size < (w2.alloc (.cells #[.string (cat (allL 0 ⟨#[]⟩ nm op ws q v md)), .slice (some ⟨g01, 0, none⟩) (kindsV (allL 0 ⟨#[]⟩ nm op ws q v md)).length k01, .slice (some ⟨g02, 0, none⟩) (startsV (allL 0 ⟨#[]⟩ nm op ws q v md)).length k02, .slice (some ⟨g03, 0, none⟩) (lensV (allL 0 ⟨#[]⟩ nm op ws q v md)).length k03] 27)).heap.size := by simp [go_sem]
  have HA0 := hid hA0
  have HAb0 := hid hb2
  have C0 := hid (And.intro q0 (And.intro q1 (And.intro q2 q3)))
  clear r1 r2 r3 hb2 hal q0 q1 q2 q3 hA0
  go_wp2_with fail
  generalize (w2.alloc (.cells #[.string (cat (allL 0 ⟨#[]⟩ nm op ws q v md)), .slice (some ⟨g01, 0, none⟩) (kindsV (allL 0 ⟨#[]⟩ nm op ws q v md)).length k01, .slice (some ⟨g02, 0, none⟩) (startsV (allL 0 ⟨#[]⟩ nm op ws q v md)).length k02, .slice (some ⟨g03, 0, none⟩) (lensV (allL 0 ⟨#[]⟩ nm op ws q v md)).length k03] 27)) = W0 at *
  generalize w2.heap.size = b0 at *
  refine (script7 1 ⟨#[]⟩ nm op v q md ws W0 (by omega) D.out.op_ (by show 0 ≤ _; omega) D.out.a2 D.out.a3).mono ?_
  rintro e w3 ⟨v1, v2, v3, rfl, hb2, r1, r2, r3, hS1, hT1⟩
  obtain ⟨g11, k11, e1, _⟩ := r1.ex
  obtain ⟨g12, k12, e2, _⟩ := r2.ex
  obtain ⟨g13, k13, e3, _⟩ := r3.ex
  subst e1 e2 e3
  have hal : Below w3.heap.size w3 (w3.alloc (.cells #[.string (cat (allL 1 ⟨#[]⟩ nm op ws q v md)), .slice (some ⟨g11, 0, none⟩) (kindsV (allL 1 ⟨#[]⟩ nm op ws q v md)).length k11, .slice (some ⟨g12, 0, none⟩) (startsV (allL 1 ⟨#[]⟩ nm op ws q v md)).length k12, .slice (some ⟨g13, 0, none⟩) (lensV (allL 1 ⟨#[]⟩ nm op ws q v md)).length k13] 27)) := (Below.refl _ _).alloc (Nat.le_refl _) _
  have hA1 := hb2.trans (hal.mono hb2.size)
  have R11 := hid ((r1.call hal (Nat.le_refl _)).mono (Nat.zero_le _))
  have R12 := hid ((r2.call hal (Nat.le_refl _)).mono (Nat.zero_le _))
  have R13 := hid ((r3.call hal (Nat.le_refl _)).mono (Nat.zero_le _))
  have HSX1 := hid (sfx_of (cat (allL 1 ⟨#[]⟩ nm op ws q v md)) (allL 1 ⟨#[]⟩ nm op ws q v md).length (tkT (allL 1 ⟨#[]⟩ nm op ws q v md)) (allL 1 ⟨#[]⟩ nm op ws q v md) [] 0 0 rfl (by simp) rfl (by simp) (fun j _ => by simp))
  have q0 : (w3.alloc (.cells #[.string (cat (allL 1 ⟨#[]⟩ nm op ws q v md)), .slice (some ⟨g11, 0, none⟩) (kindsV (allL 1 ⟨#[]⟩ nm op ws q v md)).length k11, .slice (some ⟨g12, 0, none⟩) (startsV (allL 1 ⟨#[]⟩ nm op ws q v md)).length k12, .slice (some ⟨g13, 0, none⟩) (lensV (allL 1 ⟨#[]⟩ nm op ws q v md)).length k13] 27)).cell? ⟨w3.heap.size, 0, none⟩ = some (.string (cat (allL 1 ⟨#[]⟩ nm op ws q v md))) := by simp [go_sem]
  have q1 : (w3.alloc (.cells #[.string (cat (allL 1 ⟨#[]⟩ nm op ws q v md)), .slice (some ⟨g11, 0, none⟩) (kindsV (allL 1 ⟨#[]⟩ nm op ws q v md)).length k11, .slice (some ⟨g12, 0, none⟩) (startsV (allL 1 ⟨#[]⟩ nm op ws q v md)).length k12, .slice (some ⟨g13, 0, none⟩) (lensV (allL 1 ⟨#[]⟩ nm op ws q v md)).length k13] 27)).cell? ⟨w3.heap.size, 1, none⟩ = some (.slice (some ⟨g11, 0, none⟩) (kindsV (allL 1 ⟨#[]⟩ nm op ws q v md)).length k11) := by simp [go_sem]
  have q2 : (w3.alloc (.cells #[.string (cat (allL 1 ⟨#[]⟩ nm op ws q v md)), .slice (some ⟨g11, 0, none⟩) (kindsV (allL 1 ⟨#[]⟩ nm op ws q v md)).length k11, .slice (some ⟨g12, 0, none⟩) (startsV (allL 1 ⟨#[]⟩ nm op ws q v md)).length k12, .slice (some ⟨g13, 0, none⟩) (lensV (allL 1 ⟨#[]⟩ nm op ws q v md)).length k13] 27)).cell? ⟨w3.heap.size, 2, none⟩ = some (.slice (some ⟨g12, 0, none⟩) (startsV (allL 1 ⟨#[]⟩ nm op ws q v md)).length k12) := by simp [go_sem]
  have q3 : (w3.alloc (.cells #[.string (cat (allL 1 ⟨#[]⟩ nm op ws q v md)), .slice (some ⟨g11, 0, none⟩) (kindsV (allL 1 ⟨#[]⟩ nm op ws q v md)).length k11, .slice (some ⟨g12, 0, none⟩) (startsV (allL 1 ⟨#[]⟩ nm op ws q v md)).length k12, .slice (some ⟨g13, 0, none⟩) (lensV (allL 1 ⟨#[]⟩ nm op ws q v md)).length k13] 27)).cell? ⟨w3.heap.size, 3, none⟩ = some (.slice (some ⟨g13, 0, none⟩) (lensV (allL 1 ⟨#[]⟩ nm op ws q v md)).length k13) := by simp [go_sem]
  have hl1 : w3.heap.size < (w3.alloc (.cells #[.string (cat (allL 1 ⟨#[]⟩ nm op ws q v md)), .slice (some ⟨g11, 0, none⟩) (kindsV (allL 1 ⟨#[]⟩ nm op ws q v md)).length k11, .slice (some ⟨g12, 0, none⟩) (startsV (allL 1 ⟨#[]⟩ nm op ws q v md)).length k12, .slice (some ⟨g13, 0, none⟩) (lensV (allL 1 ⟨#[]⟩ nm op ws q v md)).length k13] 27)).heap.size := by simp [go_sem]
  have HA1 := hid hA1
  have HAb1 := hid hb2
  have C1 := hid (And.intro q0 (And.intro q1 (And.intro q2 q3)))
  clear r1 r2 r3 hb2 hal q0 q1 q2 q3 hA1
  have x0 := (HAb1.out.cell (p := ⟨b0, 0, none⟩) hl0).trans C0.out.1
  have x1 := (HAb1.out.cell (p := ⟨b0, 1, none⟩) hl0).trans C0.out.2.1
  have x2 := (HAb1.out.cell (p := ⟨b0, 2, none⟩) hl0).trans C0.out.2.2.1
  have x3 := (HAb1.out.cell (p := ⟨b0, 3, none⟩) hl0).trans C0.out.2.2.2
  have hb03 : b0 < w3.heap.size := Nat.lt_of_lt_of_le hl0 HAb1.out.size
  go_wp2_with fail
  clear x0 x1 x2 x3 hb03 HAb0 HAb1
  have C0' := hid (And.intro ((HA1.out.cell (p := ⟨b0, 0, none⟩) hl0).trans C0.out.1) (And.intro ((HA1.out.cell (p := ⟨b0, 1, none⟩) hl0).trans C0.out.2.1) (And.intro ((HA1.out.cell (p := ⟨b0, 2, none⟩) hl0).trans C0.out.2.2.1) ((HA1.out.cell (p := ⟨b0, 3, none⟩) hl0).trans C0.out.2.2.2))))
  have R01' := hid (R01.out.call HA1.out (Nat.le_refl _))
  have R02' := hid (R02.out.call HA1.out (Nat.le_refl _))
  have R03' := hid (R03.out.call HA1.out (Nat.le_refl _))
  have HCL := hid (cat_len1 nm op ws q v md)
  have HL0 := hid (show 2 ≤ (allL 0 ⟨#[]⟩ nm op ws q v md).length by (simp [allL]; omega))
  have HL1 := hid (show 2 ≤ (allL 1 ⟨#[]⟩ nm op ws q v md).length by (simp [allL]; omega))
  have HB3 := hid (HB1.out.trans ((HA0.out.trans (HA1.out.mono HA0.out.size)).mono HB1.out.size))
  clear R01 R02 R03 C0 hl0 HA0 HA1 HB1
  generalize (w3.alloc (.cells #[.string (cat (allL 1 ⟨#[]⟩ nm op ws q v md)), .slice (some ⟨g11, 0, none⟩) (kindsV (allL 1 ⟨#[]⟩ nm op ws q v md)).length k11, .slice (some ⟨g12, 0, none⟩) (startsV (allL 1 ⟨#[]⟩ nm op ws q v md)).length k12, .slice (some ⟨g13, 0, none⟩) (lensV (allL 1 ⟨#[]⟩ nm op ws q v md)).length k13] 27)) = W1 at *
  generalize w3.heap.size = b1 at *
  generalize hTT0 : (allL 0 ⟨#[]⟩ nm op ws q v md) = TT0 at *
  generalize hTT1 : (allL 1 ⟨#[]⟩ nm op ws q v md) = TT1 at *
  generalize cat TT0 = SS0 at *
  generalize cat TT1 = SS1 at *
  refine (new8 SS0 TT0 _ _ _ W1 hS0 hT0 R01'.out R02'.out R03'.out).mono ?_
  rintro e w4 ⟨p0, r0, rfl, hP, hb4, hp0⟩
  have HP0 := hid hP
  have HB4 := hid hb4
  have y0 := (hb4.cell (p := ⟨b1, 0, none⟩) hl1).trans C1.out.1
  have y1 := (hb4.cell (p := ⟨b1, 1, none⟩) hl1).trans C1.out.2.1
  have y2 := (hb4.cell (p := ⟨b1, 2, none⟩) hl1).trans C1.out.2.2.1
  have y3 := (hb4.cell (p := ⟨b1, 3, none⟩) hl1).trans C1.out.2.2.2
  have R11' := hid (R11.out.call hb4 (Nat.le_refl _))
  have R12' := hid (R12.out.call hb4 (Nat.le_refl _))
  have R13' := hid (R13.out.call hb4 (Nat.le_refl _))
  clear hP hb4 R01' R02' R03' R11 R12 R13
  go_wp2_with fail
  clear y0 y1 y2 y3
  refine (new8 SS1 TT1 _ _ _ w4 hS1 hT1 R11'.out R12'.out R13'.out).mono ?_
  rintro e w5 ⟨p1, r1, rfl, hP, hb5, hp1⟩
  have HP1 := hid hP
  have HP0' := hid (HP0.out.call hb5)
  have HB5 := hid (HB4.out.trans (hb5.mono HB4.out.size))
  have hlt0 := HP0.out.lt
  have hltr0 := HP0.out.rlt
  have hz4 := HB4.out.size
  have hrp1 : r1 ≠ p0 := HP1.out.ne2 HP0'.out HL1.out
  have hrp0 : r0 ≠ p1 := HP0'.out.ne2 HP1.out HL0.out
  clear hP hb5 R11' R12' R13' HP0 HB4
  have HX0 : Hid (Sfx SS0 TT0.length (tkT TT0) 0 0 (allL 0 ⟨#[]⟩ nm op ws q v md)) := hid (by rw [hTT0]; exact HSX0.out)
  have HX1 : Hid (Sfx SS1 TT1.length (tkT TT1) 0 0 (allL 1 ⟨#[]⟩ nm op ws q v md)) := hid (by rw [hTT1]; exact HSX1.out)
  clear HSX0 HSX1
  go_wp2_with fail
  refine (parse9 W1 W1.heap.size p0 SS0 r0 TT0.length (tkT TT0) 0 ⟨#[]⟩ nm op ws q v md w5 HP0'.out HB5.out hp0 HX0.out (by omega) D.out.op_ D.out.nm_ (fun h => absurd h (by decide)) D.out.v_ (md_of D.out.m_)).mono ?_
  rintro e w6 ⟨he, hP, hb6, hkp, hkf, hsz⟩
  have he' : e = .returned (.tuple #[.bool false, .string ⟨#[]⟩, .string nm, .string (opT op), .string (VO op v), .int .u8 (MO op md), .int .i32 0, .int .i32 SS0.size]) := he
  subst he'
  have HQ0 := hid hP
  have HQ1 := hid (HP1.out.other (p' := p0) (by omega) hrp1 hkp hkf hsz)
  have HB6 := hid (HB3.out.trans (hb6.mono HB3.out.size))
  clear he hP hkp hkf hsz hb6 HP0' HP1 HB5
  go_wp2_with fail
  refine (parse9 w6 p1 p1 SS1 r1 TT1.length (tkT TT1) 1 ⟨#[]⟩ nm op ws q v md w6 HQ1.out (Below.refl _ _) (Nat.le_refl _) HX1.out (by omega) D.out.op_ D.out.nm_ (fun h => absurd h (by decide)) D.out.v_ (md_of D.out.m_)).mono ?_
  rintro e w7 ⟨he, hP, hb7, hkp, hkf, hsz⟩
  have he' : e = .returned (.tuple #[.bool false, .string ⟨#[]⟩, .string nm, .string (opT op), .string (VO op v), .int .u8 (MO op md), .int .i32 0, .int .i32 SS1.size]) := he
  subst he'
  have hPz : Psr w7 p0 SS0 r0 TT0.length (tkT TT0) (TT0.length : Nat) := HQ0.out.other (p' := p1) (by omega) hrp0 hkp hkf hsz
  have P1 : Hid (∀ wx, DW w7 wx → Psr wx p1 SS1 r1 TT1.length (tkT TT1) (TT1.length : Nat)) := hid (fun wx h => hP.call h.below)
  have P0 : Hid (∀ wx, DW w7 wx → Psr wx p0 SS0 r0 TT0.length (tkT TT0) (TT0.length : Nat)) := hid (fun wx h => hPz.call h.below)
  have HBF := hid (HB6.out.trans (hb7.mono (by have := HB3.out.size; omega)))
  obtain ⟨n1, n2⟩ := HCL.out
  clear he hP hPz hkp hkf hsz hb7 HQ0 HQ1 HX0 HX1 HB6 D hTT0 hTT1 HCL h2 h3 H2 H3 hsum hlt0 hltr0 hp0 hp1 C0' C1 hrp0 hrp1 HL0 HL1
  have n1' : (SS1.size : Int) = (SS0.size : Int) + 1 := by omega
  have n2' : (TT1.length : Int) = (TT0.length : Int) + 1 := by omega
  clear n1 n2
  go_wp2_with fail
  refine (index10 p1 SS1 r1 TT1.length (tkT TT1) TT1.length _ (P1.out _ (DW.refl _))).mono ?_
  rintro e w9 ⟨rfl, hw⟩
  obtain rfl := hw.symm
  go_wp2_with fail
  refine (index10 p0 SS0 r0 TT0.length (tkT TT0) TT0.length _ (P0.out _ (DW.refl _))).mono ?_
  rintro e w9 ⟨rfl, hw⟩
  obtain rfl := hw.symm
  go_wp2_with fail
  go_ret
  exact ⟨by simp, HBF.out⟩
end Go.Proofs.YtggfffdbohmpnaaFmt
