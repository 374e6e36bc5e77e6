/-
  The law's guards: what zzNoEscape, zzPlain and zzAttrOutside let by; the two counts of bytes. No conditions beyond the types.
-/
import Derived.Test.YtggfffdbohmpnaaFmtKg
namespace Go.Proofs.YtggfffdbohmpnaaFmt
set_option linter.unusedVariables false
open Go.ChangeShapes Go.WideShapes Go.ChangeAt Go.RowKit Go.Lib

/-- an answer; if it is b0, then P -/
structure SB (b0 : Bool) (P : Prop) (w : World) (e : Ending) (w' : World) : Prop where
  ex : ∃ b n, e = .returned (.bool b) ∧ w' = w.drewN n ∧ (b = b0 → P)
theorem SB.no {b0 : Bool} {P : Prop} {w : World} (n : Nat) : SB b0 P w (.returned (.bool (!b0))) (w.drewN n) := ⟨!b0, n, rfl, rfl, by cases b0 <;> simp⟩
theorem SB.no0 {b0 : Bool} {P : Prop} {w : World} : SB b0 P w (.returned (.bool (!b0))) w := ⟨!b0, 0, rfl, rfl, by cases b0 <;> simp⟩
theorem SB.yes0 {b0 : Bool} {P : Prop} {w : World} (h : P) : SB b0 P w (.returned (.bool b0)) w := ⟨b0, 0, rfl, rfl, fun _ => h⟩

set_option maxRecDepth 20000 in
set_option maxHeartbeats 2000000 in
theorem noesc14 (s : ByteArray) (w : World) (hs : s.size ≤ 1048576) : Calls Tryf.prog 14 #[.string s] w fun e w' => SB true (Cln s s.size) w e w' := by
  go_enter Tryf.func14, Tryf.ntmps14
  go_wp2_with fail
  go_loopw [3] (fun v wr => wr = w ∧ ∃ i : Nat, Cln s i ∧ v = .int .i64 (i : Nat)) (fun v _ => s.size - (intOf v).toNat)
  case atStart => exact ⟨by first | rfl | trivial, 0, ⟨by omega, fun j hj => by omega⟩, rfl⟩
  case round =>
    obtain ⟨rfl, i, hC, rfl⟩ := hrel
    have hle := hC.le
    have HC := hid hC
    clear hC
    by_cases hlt : i < s.size
    · go_wp2_with fail
      · go_ret
        exact SB.no0
      · go_ret
        exact SB.no0
      · rename_i h1 h2
        simp at h1 h2
        exact ⟨⟨trivial, i + 1, HC.out.next hlt (by omega) (by omega), by simp⟩, by simp [intOf]; omega⟩
    · obtain rfl : i = s.size := by omega
      go_wp2_with fail
      go_ret
      exact SB.yes0 HC.out

set_option maxRecDepth 20000 in
set_option maxHeartbeats 2000000 in
theorem plain13 (s : ByteArray) (w : World) (hs : s.size ≤ 1048576) : Calls Tryf.prog 13 #[.string s] w fun e w' => SB true (Cln s s.size) w e w' := by
  go_enter Tryf.func13, Tryf.ntmps13
  by_cases h0 : s.size = 0
  · go_wp2_with fail
    go_ret
    exact SB.no0
  · have b0 : ((s.size : Int) == 0) = false := neb (by omega)
    go_wp2_with fail
    refine (noesc14 s w hs).mono ?_
    rintro e w1 ⟨⟨b, n, rfl, rfl, h⟩⟩
    have H := hid h
    clear h
    go_wp2_with fail
    go_ret
    exact ⟨b, n, rfl, rfl, H.out⟩

/-- the domain of the laws -/
structure Dom (ns : Nat) (pf nm : ByteArray) (op : Nat) (v : ByteArray) (q : Bool) (m : Nat) : Prop where
  a1 : pf.size ≤ 65536
  a2 : nm.size ≤ 65536
  a3 : v.size ≤ 65536
  ns_ : ns ≤ 3
  op_ : op ≤ 6
  m_ : m = 0 ∨ m = 105 ∨ m = 73 ∨ m = 115 ∨ m = 83
  nm_ : Cln nm nm.size
  pf_ : ns = 3 → Cln pf pf.size
  v_ : op ≠ 0 → Cln v v.size

structure DW (w : World) (w' : World) : Prop where
  ex : ∃ n, w' = w.drewN n
theorem DW.refl (w : World) : DW w w := ⟨0, rfl⟩
theorem DW.trans {a b c : World} (h : DW a b) (k : DW b c) : DW a c := by
  obtain ⟨n, rfl⟩ := h.ex
  obtain ⟨m, rfl⟩ := k.ex
  exact ⟨_, by rw [World.drewN_drewN]⟩
structure SD (P : Prop) (w : World) (e : Ending) (w' : World) : Prop where
  ex : ∃ b, e = .returned (.bool b) ∧ DW w w' ∧ (b = false → P)
theorem SD.no {P : Prop} {w w' : World} (h : DW w w') : SD P w (.returned (.bool true)) w' := ⟨true, rfl, h, by simp⟩

set_option maxRecDepth 20000 in
set_option maxHeartbeats 4000000 in
theorem out6 (ns : Nat) (pf nm : ByteArray) (op : Nat) (v : ByteArray) (q : Bool) (m : Nat) (w : World) (h1 : pf.size ≤ maxLen) (h2 : nm.size ≤ maxLen) (h3 : v.size ≤ maxLen) :
    Calls Tryf.prog 6 #[.int .u8 ns, .string pf, .string nm, .int .u8 op, .string v, .bool q, .int .u8 m] w fun e w' => SD (Dom ns pf nm op v q m) w e w' := by
  simp only [maxLen] at h1 h2 h3
  go_enter Tryf.func6, Tryf.ntmps6
  by_cases a1 : pf.size ≤ 65536
  case neg =>
    go_wp2_with fail
    go_ret
    exact SD.no (DW.refl _)
  by_cases a2 : nm.size ≤ 65536
  case neg =>
    go_wp2_with fail
    go_ret
    exact SD.no (DW.refl _)
  by_cases a3 : v.size ≤ 65536
  case neg =>
    go_wp2_with fail
    go_ret
    exact SD.no (DW.refl _)
  by_cases a4 : ns ≤ 3
  case neg =>
    go_wp2_with fail
    go_ret
    exact SD.no (DW.refl _)
  by_cases a5 : op ≤ 6
  case neg =>
    go_wp2_with fail
    go_ret
    exact SD.no (DW.refl _)
  by_cases a6 : m = 0 ∨ m = 105 ∨ m = 73 ∨ m = 115 ∨ m = 83
  case neg =>
    have e1 : ((m : Int) != 0) = true := by simp; omega
    have e2 : ((m : Int) != 105) = true := by simp; omega
    have e3 : ((m : Int) != 73) = true := by simp; omega
    have e4 : ((m : Int) != 115) = true := by simp; omega
    have e5 : ((m : Int) != 83) = true := by simp; omega
    go_wp2_with fail
    go_ret
    exact SD.no (DW.refl _)
  have A6 := hid a6
  rcases a6 with rfl | rfl | rfl | rfl | rfl
  all_goals
    go_wp2_with fail
    refine (plain13 nm w (by omega)).mono ?_
    rintro e w1 ⟨⟨b, n, rfl, hw, hP⟩⟩
    have HW := hid (show DW w w1 from ⟨n, hw⟩)
    clear hw
    cases b with
    | false =>
      clear hP
      go_wp2_with fail
      go_ret
      exact SD.no HW.out
    | true =>
      have HN := hid (hP rfl)
      clear hP
      by_cases n3 : ns = 3
      · subst n3
        go_wp2_with fail
        refine (plain13 pf _ (by omega)).mono ?_
        rintro e w2 ⟨⟨b, n2, rfl, hw2, hP2⟩⟩
        have HW2 := hid (DW.trans HW.out (show DW _ w2 from ⟨n2, hw2⟩))
        clear hw2
        cases b with
        | false =>
          clear hP2
          go_wp2_with fail
          go_ret
          exact SD.no HW2.out
        | true =>
          have HPF := hid (hP2 rfl)
          clear hP2
          by_cases o0 : op = 0
          · subst o0
            go_wp2_with fail
            go_ret
            exact ⟨false, rfl, HW2.out, fun _ => ⟨a1, a2, a3, a4, a5, (by simp), HN.out, fun _ => HPF.out, fun h => absurd rfl h⟩⟩
          · have bo : ((op : Int) != 0) = true := by simp; omega
            cases q with
            | true =>
              go_wp2_with fail
              refine (noesc14 v _ (by omega)).mono ?_
              rintro e w9 ⟨⟨b, n9, rfl, hw9, hP9⟩⟩
              have HW9 := hid (DW.trans HW2.out (show DW _ w9 from ⟨n9, hw9⟩))
              clear hw9
              cases b with
              | false =>
                clear hP9
                go_wp2_with fail
                go_ret
                exact SD.no HW9.out
              | true =>
                have HV9 := hid (hP9 rfl)
                clear hP9
                go_wp2_with fail
                go_ret
                exact ⟨false, rfl, HW9.out, fun _ => ⟨a1, a2, a3, a4, a5, (by simp), HN.out, fun _ => HPF.out, fun _ => HV9.out⟩⟩
            | false =>
              go_wp2_with fail
              refine (plain13 v _ (by omega)).mono ?_
              rintro e w9 ⟨⟨b, n9, rfl, hw9, hP9⟩⟩
              have HW9 := hid (DW.trans HW2.out (show DW _ w9 from ⟨n9, hw9⟩))
              clear hw9
              cases b with
              | false =>
                clear hP9
                go_wp2_with fail
                go_ret
                exact SD.no HW9.out
              | true =>
                have HV9 := hid (hP9 rfl)
                clear hP9
                go_wp2_with fail
                go_ret
                exact ⟨false, rfl, HW9.out, fun _ => ⟨a1, a2, a3, a4, a5, (by simp), HN.out, fun _ => HPF.out, fun _ => HV9.out⟩⟩
      · have bn : ((ns : Int) == 3) = false := neb (by omega)
        by_cases o0 : op = 0
        · subst o0
          go_wp2_with fail
          go_ret
          exact ⟨false, rfl, HW.out, fun _ => ⟨a1, a2, a3, a4, a5, (by simp), HN.out, fun h => absurd h n3, fun h => absurd rfl h⟩⟩
        · have bo : ((op : Int) != 0) = true := by simp; omega
          cases q with
          | true =>
            go_wp2_with fail
            refine (noesc14 v _ (by omega)).mono ?_
            rintro e w9 ⟨⟨b, n9, rfl, hw9, hP9⟩⟩
            have HW9 := hid (DW.trans HW.out (show DW _ w9 from ⟨n9, hw9⟩))
            clear hw9
            cases b with
            | false =>
              clear hP9
              go_wp2_with fail
              go_ret
              exact SD.no HW9.out
            | true =>
              have HV9 := hid (hP9 rfl)
              clear hP9
              go_wp2_with fail
              go_ret
              exact ⟨false, rfl, HW9.out, fun _ => ⟨a1, a2, a3, a4, a5, (by simp), HN.out, fun h => absurd h n3, fun _ => HV9.out⟩⟩
          | false =>
            go_wp2_with fail
            refine (plain13 v _ (by omega)).mono ?_
            rintro e w9 ⟨⟨b, n9, rfl, hw9, hP9⟩⟩
            have HW9 := hid (DW.trans HW.out (show DW _ w9 from ⟨n9, hw9⟩))
            clear hw9
            cases b with
            | false =>
              clear hP9
              go_wp2_with fail
              go_ret
              exact SD.no HW9.out
            | true =>
              have HV9 := hid (hP9 rfl)
              clear hP9
              go_wp2_with fail
              go_ret
              exact ⟨false, rfl, HW9.out, fun _ => ⟨a1, a2, a3, a4, a5, (by simp), HN.out, fun h => absurd h n3, fun _ => HV9.out⟩⟩

/-- an answer of any kind; the world as it was -/
structure SA (P : Prop) (w : World) (e : Ending) (w' : World) : Prop where
  ex : ∃ b, e = .returned (.bool b) ∧ w' = w ∧ (b = true → P)
set_option maxRecDepth 20000 in
set_option maxHeartbeats 4000000 in
theorem bytes11 (a op m : Int) (pf nm v : ByteArray) (q ws : Bool) (w : World) (h1 : pf.size ≤ maxLen) (h2 : nm.size ≤ maxLen) (h3 : v.size ≤ maxLen) :
    Calls Tryf.prog 11 #[.int .u8 a, .string pf, .string nm, .int .u8 op, .string v, .bool q, .int .u8 m, .bool ws] w fun e w' => SA (pf.size + nm.size + v.size ≤ 1048576) w e w' := by
  simp only [maxLen] at h1 h2 h3
  go_enter Tryf.func11, Tryf.ntmps11
  go_wp2_with fail
  all_goals
    go_ret
    first | exact ⟨false, rfl, rfl, by simp⟩ | exact ⟨true, rfl, rfl, fun _ => by omega⟩
set_option maxRecDepth 20000 in
set_option maxHeartbeats 4000000 in
theorem bytes5 (op m : Int) (nm v : ByteArray) (q ws : Bool) (w : World) (h2 : nm.size ≤ maxLen) (h3 : v.size ≤ maxLen) :
    Calls Tryf.prog 5 #[.string nm, .int .u8 op, .string v, .bool q, .int .u8 m, .bool ws] w fun e w' => SA (nm.size + v.size ≤ 1048576) w e w' := by
  simp only [maxLen] at h2 h3
  go_enter Tryf.func5, Tryf.ntmps5
  go_wp2_with fail
  all_goals
    go_ret
    first | exact ⟨false, rfl, rfl, by simp⟩ | exact ⟨true, rfl, rfl, fun _ => by omega⟩
end Go.Proofs.YtggfffdbohmpnaaFmt
