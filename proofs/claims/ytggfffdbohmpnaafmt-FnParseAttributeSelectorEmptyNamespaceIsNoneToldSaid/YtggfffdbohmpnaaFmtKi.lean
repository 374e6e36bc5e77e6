/-
  The laws FnParseAttributeSelectorExact and FnParseAttributeSelectorEmptyNamespaceIsNone, walked: each answers true. No conditions beyond the types.
-/
import Derived.Test.YtggfffdbohmpnaaFmtKh
namespace Go.Proofs.YtggfffdbohmpnaaFmt
set_option linter.unusedVariables false
open Go.ChangeShapes Go.WideShapes Go.ChangeAt Go.RowKit Go.Lib

theorem index10 (p : Nat) (s : ByteArray) (r n : Nat) (f : Nat → Tk) (i : Nat) (w : World) (h : Psr w p s r n f i) :
    Calls Tryf.prog 10 #[.pointer (some ⟨p, 0, none⟩)] w fun e w' => e = .returned (.int .i64 i) ∧ w' = w := by
  have q42 := h.c42
  clear h
  go_enter Tryf.func10, Tryf.ntmps10
  go_wp2
  go_ret
  exact ⟨rfl, rfl⟩
theorem DW.below {w w' : World} (h : DW w w') : Below w.heap.size w w' := by
  obtain ⟨n, rfl⟩ := h.ex
  exact below_drewN (Below.refl _ _) n
theorem md_of {md : UInt8} (h : md.toNat = 0 ∨ md.toNat = 105 ∨ md.toNat = 73 ∨ md.toNat = 115 ∨ md.toNat = 83) : md = 0 ∨ md = 105 ∨ md = 73 ∨ md = 115 ∨ md = 83 := by
  rcases h with h | h | h | h | h
  · exact .inl (UInt8.toNat_inj.1 h)
  · exact .inr (.inl (UInt8.toNat_inj.1 h))
  · exact .inr (.inr (.inl (UInt8.toNat_inj.1 h)))
  · exact .inr (.inr (.inr (.inl (UInt8.toNat_inj.1 h))))
  · exact .inr (.inr (.inr (.inr (UInt8.toNat_inj.1 h))))

set_option maxRecDepth 20000 in
set_option maxHeartbeats 16000000 in
theorem law4 (ns : Nat) (pf nm : ByteArray) (op : Nat) (v : ByteArray) (q : Bool) (md : UInt8) (ws : Bool) (w : World) (h1 : pf.size ≤ maxLen) (h2 : nm.size ≤ maxLen) (h3 : v.size ≤ maxLen) :
    Calls Tryf.prog 4 #[.int .u8 ns, .string pf, .string nm, .int .u8 op, .string v, .bool q, .int .u8 (md.toNat : Int), .bool ws] w fun e w' => e = .returned (.bool true) ∧ Below w.heap.size w w' := by
  have H1 := hid h1
  have H2 := hid h2
  have H3 := hid h3
  simp only [maxLen] at h1 h2 h3
  go_enter Tryf.func4, Tryf.ntmps4
  go_wp2_with fail
  refine (bytes11 ns op md.toNat pf nm v q ws w H1.out H2.out H3.out).mono ?_
  rintro e wx ⟨⟨b, rfl, hw, hsm⟩⟩
  obtain rfl := hw.symm
  cases b
  case false =>
    clear hsm
    go_wp2
    go_ret
    exact ⟨rfl, Below.refl _ _⟩
  have hsum := hsm rfl
  clear hsm
  go_wp2_with fail
  refine (out6 ns pf nm op v q md.toNat w H1.out H2.out H3.out).mono ?_
  rintro e w1 ⟨⟨b, rfl, hw, hD⟩⟩
  have HB1 := hid hw.below
  clear hw
  cases b
  case true =>
    clear hD
    go_wp2
    go_ret
    exact ⟨rfl, HB1.out⟩
  have D := hid (hD rfl)
  clear hD
  go_wp2_with fail
  refine (script7 ns pf nm op v q md ws w1 D.out.ns_ D.out.op_ D.out.a1 D.out.a2 D.out.a3).mono ?_
  rintro e w2 ⟨v1, v2, v3, rfl, hb2, r1, r2, r3, hS, hT⟩
  obtain ⟨g1, k1, e1, _⟩ := r1.ex
  obtain ⟨g2, k2, e2, _⟩ := r2.ex
  obtain ⟨g3, k3, e3, _⟩ := r3.ex
  subst e1 e2 e3
  have hal : Below w2.heap.size w2 (w2.alloc (.cells #[.string (cat (allL ns pf nm op ws q v md)), .slice (some ⟨g1, 0, none⟩) (kindsV (allL ns pf nm op ws q v md)).length k1, .slice (some ⟨g2, 0, none⟩) (startsV (allL ns pf nm op ws q v md)).length k2, .slice (some ⟨g3, 0, none⟩) (lensV (allL ns pf nm op ws q v md)).length k3] 27)) := (Below.refl _ _).alloc (Nat.le_refl _) _
  have R1 := hid ((r1.call hal (Nat.le_refl _)).mono (Nat.zero_le _))
  have R2 := hid ((r2.call hal (Nat.le_refl _)).mono (Nat.zero_le _))
  have R3 := hid ((r3.call hal (Nat.le_refl _)).mono (Nat.zero_le _))
  have HSX := hid (sfx_of (cat (allL ns pf nm op ws q v md)) (allL ns pf nm op ws q v md).length (tkT (allL ns pf nm op ws q v md)) (allL ns pf nm op ws q v md) [] 0 0 rfl (by simp) rfl (by simp) (fun j _ => by simp))
  have HB3 := hid (HB1.out.trans ((hb2.trans (hal.mono hb2.size)).mono HB1.out.size))
  clear r1 r2 r3 hb2 hal
  have hcat : (cat (allL ns pf nm op ws q v md)).size ≤ 1048576 := hS
  generalize hTT : allL ns pf nm op ws q v md = TT at *
  generalize hSS : cat TT = SS at *
  go_wp2_with fail
  have q0 : (w2.alloc (.cells #[.string SS, .slice (some ⟨g1, 0, none⟩) (kindsV TT).length k1, .slice (some ⟨g2, 0, none⟩) (startsV TT).length k2, .slice (some ⟨g3, 0, none⟩) (lensV TT).length k3] 27)).cell? ⟨w2.heap.size, 0, none⟩ = some (.string SS) := by simp [go_sem]
  have q1 : (w2.alloc (.cells #[.string SS, .slice (some ⟨g1, 0, none⟩) (kindsV TT).length k1, .slice (some ⟨g2, 0, none⟩) (startsV TT).length k2, .slice (some ⟨g3, 0, none⟩) (lensV TT).length k3] 27)).cell? ⟨w2.heap.size, 1, none⟩ = some (.slice (some ⟨g1, 0, none⟩) (kindsV TT).length k1) := by simp [go_sem]
  have qz : w2.heap.size < (w2.alloc (.cells #[.string SS, .slice (some ⟨g1, 0, none⟩) (kindsV TT).length k1, .slice (some ⟨g2, 0, none⟩) (startsV TT).length k2, .slice (some ⟨g3, 0, none⟩) (lensV TT).length k3] 27)).heap.size := by simp [go_sem]
  generalize w2.alloc (.cells #[.string SS, .slice (some ⟨g1, 0, none⟩) (kindsV TT).length k1, .slice (some ⟨g2, 0, none⟩) (startsV TT).length k2, .slice (some ⟨g3, 0, none⟩) (lensV TT).length k3] 27) = W3 at *
  refine (new8 SS TT _ _ _ _ hS hT R1.out R2.out R3.out).mono ?_
  rintro e w4 ⟨p, r, rfl, hP, hb4, hp⟩
  have HP := hid hP
  have HB4 := hid hb4
  have HSX2 : Hid (Sfx SS TT.length (tkT TT) 0 0 (allL ns pf nm op ws q v md)) := hid (by rw [hTT]; exact HSX.out)
  have HPP := hid hp
  have Q0 := hid q0
  have Q1 := hid q1
  clear hP hb4 R1 R2 R3 HB1 hp HSX q0 q1
  go_wp2_with fail
  refine (parse9 W3 W3.heap.size p SS r TT.length (tkT TT) ns pf nm op ws q v md w4 HP.out HB4.out HPP.out HSX2.out D.out.ns_ D.out.op_ D.out.nm_ D.out.pf_ D.out.v_ (md_of D.out.m_)).mono ?_
  rintro e w5 ⟨he, hP, hb5, _, _, _⟩
  have q0 : w5.cell? ⟨w2.heap.size, 0, none⟩ = some (.string SS) := by rw [hb5.cell (p := ⟨w2.heap.size, 0, none⟩) qz]; exact Q0.out
  have q1 : w5.cell? ⟨w2.heap.size, 1, none⟩ = some (.slice (some ⟨g1, 0, none⟩) TT.length k1) := by
    rw [hb5.cell (p := ⟨w2.heap.size, 1, none⟩) qz, Q1.out]
    simp [kindsV]
  have HPD := hid (hP.call (below_drewN (Below.refl _ _) 0))
  have PD : Hid (∀ wx, DW w5 wx → Psr wx p SS r TT.length (tkT TT) (TT.length : Nat)) := hid (fun wx h => hP.call h.below)
  have HBF := hid (HB3.out.trans (hb5.mono HB3.out.size))
  have hns := D.out.ns_
  have hop := D.out.op_
  clear HP HB4 HPP HSX2 hP hb5 HPD Q0 Q1 qz HB3 D hTT hSS hcat hsum h1 h2 h3 H1 H2 H3 hT
  have e4 : ns = 0 ∨ ns = 1 ∨ ns = 2 ∨ ns = 3 := by omega
  by_cases o0 : op = 0
  · subst o0
    rcases e4 with rfl | rfl | rfl | rfl
    · have he' : e = .returned (.tuple #[.bool false, .string ⟨#[]⟩, .string nm, .string (opT 0), .string ⟨#[]⟩, .int .u8 0, .int .i32 0, .int .i32 SS.size]) := he
      subst he'
      clear he
      go_wp2_with fail
      go_quiet (first | (go_at_call 12; exact Calls.quiet_of_same (text12 0 _ (by omega))) | (go_at_call 10; exact Calls.quiet_of_same (index10 p SS r TT.length (tkT TT) TT.length _ (PD.out _ ⟨_, rfl⟩))))
      go_wp2_with fail
      go_ret
      exact ⟨rfl, below_drewN HBF.out _⟩
    · have he' : e = .returned (.tuple #[.bool false, .string ⟨#[]⟩, .string nm, .string (opT 0), .string ⟨#[]⟩, .int .u8 0, .int .i32 0, .int .i32 SS.size]) := he
      subst he'
      clear he
      go_wp2_with fail
      go_quiet (first | (go_at_call 12; exact Calls.quiet_of_same (text12 0 _ (by omega))) | (go_at_call 10; exact Calls.quiet_of_same (index10 p SS r TT.length (tkT TT) TT.length _ (PD.out _ ⟨_, rfl⟩))))
      go_wp2_with fail
      go_ret
      exact ⟨rfl, below_drewN HBF.out _⟩
    · have he' : e = .returned (.tuple #[.bool true, .string ⟨#[42]⟩, .string nm, .string (opT 0), .string ⟨#[]⟩, .int .u8 0, .int .i32 0, .int .i32 SS.size]) := he
      subst he'
      clear he
      go_wp2_with fail
      go_quiet (first | (go_at_call 12; exact Calls.quiet_of_same (text12 0 _ (by omega))) | (go_at_call 10; exact Calls.quiet_of_same (index10 p SS r TT.length (tkT TT) TT.length _ (PD.out _ ⟨_, rfl⟩))))
      go_wp2_with fail
      go_ret
      exact ⟨rfl, below_drewN HBF.out _⟩
    · have he' : e = .returned (.tuple #[.bool true, .string pf, .string nm, .string (opT 0), .string ⟨#[]⟩, .int .u8 0, .int .i32 0, .int .i32 SS.size]) := he
      subst he'
      clear he
      go_wp2_with fail
      go_quiet (first | (go_at_call 12; exact Calls.quiet_of_same (text12 0 _ (by omega))) | (go_at_call 10; exact Calls.quiet_of_same (index10 p SS r TT.length (tkT TT) TT.length _ (PD.out _ ⟨_, rfl⟩))))
      go_wp2_with fail
      go_ret
      exact ⟨rfl, below_drewN HBF.out _⟩
  · rw [show VO op v = v from if_neg o0, show MO op md = (md.toNat : Int) from if_neg o0] at he
    have bo : ((op : Int) != 0) = true := by simp; omega
    rcases e4 with rfl | rfl | rfl | rfl
    · have he' : e = .returned (.tuple #[.bool false, .string ⟨#[]⟩, .string nm, .string (opT op), .string v, .int .u8 (md.toNat : Int), .int .i32 0, .int .i32 SS.size]) := he
      subst he'
      clear he
      go_wp2_with fail
      go_quiet (first | (go_at_call 12; exact Calls.quiet_of_same (text12 op _ (by omega))) | (go_at_call 10; exact Calls.quiet_of_same (index10 p SS r TT.length (tkT TT) TT.length _ (PD.out _ ⟨_, rfl⟩))))
      go_wp2_with fail
      go_ret
      exact ⟨rfl, below_drewN HBF.out _⟩
    · have he' : e = .returned (.tuple #[.bool false, .string ⟨#[]⟩, .string nm, .string (opT op), .string v, .int .u8 (md.toNat : Int), .int .i32 0, .int .i32 SS.size]) := he
      subst he'
      clear he
      go_wp2_with fail
      go_quiet (first | (go_at_call 12; exact Calls.quiet_of_same (text12 op _ (by omega))) | (go_at_call 10; exact Calls.quiet_of_same (index10 p SS r TT.length (tkT TT) TT.length _ (PD.out _ ⟨_, rfl⟩))))
      go_wp2_with fail
      go_ret
      exact ⟨rfl, below_drewN HBF.out _⟩
    · have he' : e = .returned (.tuple #[.bool true, .string ⟨#[42]⟩, .string nm, .string (opT op), .string v, .int .u8 (md.toNat : Int), .int .i32 0, .int .i32 SS.size]) := he
      subst he'
      clear he
      go_wp2_with fail
      go_quiet (first | (go_at_call 12; exact Calls.quiet_of_same (text12 op _ (by omega))) | (go_at_call 10; exact Calls.quiet_of_same (index10 p SS r TT.length (tkT TT) TT.length _ (PD.out _ ⟨_, rfl⟩))))
      go_wp2_with fail
      go_ret
      exact ⟨rfl, below_drewN HBF.out _⟩
    · have he' : e = .returned (.tuple #[.bool true, .string pf, .string nm, .string (opT op), .string v, .int .u8 (md.toNat : Int), .int .i32 0, .int .i32 SS.size]) := he
      subst he'
      clear he
      go_wp2_with fail
      go_quiet (first | (go_at_call 12; exact Calls.quiet_of_same (text12 op _ (by omega))) | (go_at_call 10; exact Calls.quiet_of_same (index10 p SS r TT.length (tkT TT) TT.length _ (PD.out _ ⟨_, rfl⟩))))
      go_wp2_with fail
      go_ret
      exact ⟨rfl, below_drewN HBF.out _⟩
end Go.Proofs.YtggfffdbohmpnaaFmt
