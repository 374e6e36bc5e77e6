/-
  The hash of a rule. Conditions: each theorem's own.
-/
import Derived.Test.YtphimfimnakclaaQo
namespace Go.Proofs.Ytphimfimnakclaa
open Go.RowKit Go.Lib
abbrev emS : ByteArray := ⟨#[]⟩
def hLs (k : Nat) (im : Rl) : Int := hRs (fun _ => hP) (hS (hS (hc 5 (k : Nat)) emS) emS) im
def hKey (key : Nat) : Int := if key = 0 then hP else if key < 512 then hLs (key - 256) [] else hLs (key - 512) [[[0]]]
def hRule (r : Rl) : Int := hc (hRs hKey (hc 5 (r.length : Nat)) r) 0
theorem em_ascii : ∀ k (h : k < emS.size), (emS[k]'h).toNat < 128 := by decide
set_option maxHeartbeats 4000000 in
set_option maxRecDepth 100000 in
theorem h60 (b k : Nat) (im : Rl) (s : Value) (P : Nat → Prop) (w : World) (hk : k ≤ 255) (hg : Good im) (hh : w.heap[b]? = some (.cells #[s, .string emS, .string emS, .int .u8 (k : Nat)] 104 (0, 0))) (hr : RowL (CxT SubT0) w P s im) : Calls Try.prog 60 #[.pointer (some ⟨b, 0, none⟩)] w fun e w' => HsR (hLs k im) w e w' := by
  obtain ⟨sa, sc, rfl, _⟩ := id hr
  obtain ⟨c3, _⟩ : w.cell? ⟨b, 3, none⟩ = some (.int .u8 (k : Nat)) ∧ w.frozen? ⟨b, 3, none⟩ = false := hcell hh 3 _ rfl
  obtain ⟨c1, _⟩ : w.cell? ⟨b, 1, none⟩ = some (.string emS) ∧ w.frozen? ⟨b, 1, none⟩ = false := hcell hh 1 _ rfl
  have hlt := heap_lt hh
  have C := hid (hs53 (hc 5 (k : Nat)) emS (by decide) em_ascii w)
  have HH := hid hh
  have HR := hid hr
  have HG := hid hg
  have e0 := wrap32 k (by omega)
  clear hh hr hg
  go_enter Try.func60, Try.ntmps60
  go_wp2_with (go_at_call 50; go_must (refine (hc50 _ _ _).mono ?_); rintro _ _ ⟨rfl, rfl⟩)
  refine C.out.mono ?_
  rintro e w1 hR
  obtain ⟨rfl, hB⟩ := hR.ex
  clear hR C c1 c3
  have h1 := (hB.block b hlt).trans HH.out
  obtain ⟨c2, _⟩ : w1.cell? ⟨b, 2, none⟩ = some (.string emS) ∧ w1.frozen? ⟨b, 2, none⟩ = false := hcell h1 2 _ rfl
  have C := hid (hs53 (hS (hc 5 (k : Nat)) emS) emS (by decide) em_ascii w1)
  have HB := hid hB
  have hlt1 := heap_lt h1
  have H1 := hid h1
  clear hB h1
  go_wp2_with fail
  refine C.out.mono ?_
  rintro e w2 hR
  obtain ⟨rfl, hB⟩ := hR.ex
  clear hR C c2
  have h2 := (hB.block b hlt1).trans H1.out
  obtain ⟨c0, _⟩ : w2.cell? ⟨b, 0, none⟩ = some (.slice sa im.length sc) ∧ w2.frozen? ⟨b, 0, none⟩ = false := hcell h2 0 _ rfl
  have hB2 := HB.out.trans (hB.mono HB.out.size)
  have C := hid (hx51 SubT0 (fun _ => hP) hok0 (hS (hS (hc 5 (k : Nat)) emS) emS) sa im.length sc im P w2 HG.out (HR.out.below hB2))
  have HB2 := hid hB2
  clear hB h2 hB2
  go_wp2_with fail
  refine C.out.mono ?_
  rintro e w3 hR
  obtain ⟨rfl, hB⟩ := hR.ex
  have HB3 := hid (HB2.out.trans (hB.mono HB2.out.size))
  clear hR C c0 hB
  go_wp2_with fail
  go_ret
  exact ⟨rfl, HB3.out⟩
theorem hok : HashOK SubT hKey where
  h := by
    rintro w P c key (⟨rfl, b, e0, e1, e2, hp, hb, hh⟩ | ⟨e1, e2, b, k, s, im, e0, hp, hb, hh, hk, hm, hr⟩)
    · exact ⟨e1, e2, Or.inl ⟨b, e0, fun w' hB => h65 b w' ((hB.block b hb).trans hh)⟩⟩
    · refine ⟨e1, e2, Or.inr ⟨b, e0, fun w' hB => ?_⟩⟩
      have e : hKey key = hLs k im := by
        rcases hm with ⟨rfl, rfl⟩ | ⟨rfl, rfl⟩
        · unfold hKey
          rw [if_neg (by omega), if_pos (by omega), show 256 + k - 256 = k by omega]
        · unfold hKey
          rw [if_neg (by omega), if_neg (by omega), show 512 + k - 512 = k by omega]
      rw [e]
      refine h60 b k im s P w' hk ?_ ((hB.block b hb).trans hh) (hr.below hB)
      rcases hm with ⟨_, rfl⟩ | ⟨_, rfl⟩
      · exact ⟨by simp, by simp⟩
      · exact ⟨by simp, by simp [GoodC]⟩
structure HrR (z : Int) (w : World) (e : Ending) (w' : World) : Prop where
  ex : e = .returned (.tuple #[.int .u32 z, .bool true]) ∧ Below w.heap.size w w'
set_option maxHeartbeats 4000000 in
set_option maxRecDepth 100000 in
theorem h47 (b : Nat) (r : Rl) (s : Value) (P : Nat → Prop) (w : World) (hg : Good r) (hh : w.heap[b]? = some (.cells #[s, .slice none 0 0, .int .i32 0] 67 (0, 0))) (hr : RowL (CxT SubT) w P s r) : Calls Try.prog 47 #[.pointer (some ⟨b, 0, none⟩)] w fun e w' => HrR (hRule r) w e w' := by
  obtain ⟨sa, sc, rfl, _⟩ := id hr
  obtain ⟨c0, _⟩ : w.cell? ⟨b, 0, none⟩ = some (.slice sa r.length sc) ∧ w.frozen? ⟨b, 0, none⟩ = false := hcell hh 0 _ rfl
  have hlt := heap_lt hh
  have hg1 := hg.1
  have C := hid (hx51 SubT hKey hok (hc 5 (r.length : Nat)) sa r.length sc r P w hg hr)
  have HH := hid hh
  have e0 := wrap32 r.length (by omega)
  clear hh hr hg
  go_enter Try.func47, Try.ntmps47
  go_wp2_with (go_at_call 50; go_must (refine (hc50 _ _ _).mono ?_); rintro _ _ ⟨rfl, rfl⟩)
  refine C.out.mono ?_
  rintro e w1 hR
  obtain ⟨rfl, hB⟩ := hR.ex
  clear hR C c0
  have h1 := (hB.block b hlt).trans HH.out
  obtain ⟨c1, _⟩ : w1.cell? ⟨b, 1, none⟩ = some (.slice none 0 0) ∧ w1.frozen? ⟨b, 1, none⟩ = false := hcell h1 1 _ rfl
  have HB := hid hB
  clear hB h1
  go_wp2_with (go_at_call 52; go_must (refine (h52nil _ _).mono ?_); rintro _ _ ⟨rfl, rfl⟩)
  exact bodyPost_ret (v := .tuple #[.int .u32 (hRule r), .bool true]) (by simp [results, Try.results47, go_sem, hRule]) rfl ⟨rfl, HB.out⟩
end Go.Proofs.Ytphimfimnakclaa
