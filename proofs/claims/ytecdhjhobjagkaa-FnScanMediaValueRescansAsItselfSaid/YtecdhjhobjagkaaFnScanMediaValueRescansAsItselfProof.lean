/-
  A scanned media value is scanned again as itself: proof of the law FnScanMediaValueRescansAsItself. No conditions.
-/
import Derived.Test.YtecdhjhobjagkaaIo
import Derived.WalkKit
import Derived.ProofKit
import Derived.OpenShut
import Derived.ShutString
import Derived.ChangeOld
import Derived.Below
import Derived.WalkLawsBesides
import Derived.Test.YtecdhjhobjagkaaWi
namespace Go.Proofs.Ytecdhjhobjagkaa.fnScanMediaValueRescansAsItself
open Go.ChangeShapes Go.WideShapes Go.ChangeAt Go.RowKit
open Go.ChangeMaps (open_string shut_string)
set_option linter.unusedVariables false

theorem own : ownKnob Try.prog.godebug = none := by kernel_rfl
theorem laidOut : laidOutB Try.prog = true := by kernel_rfl

theorem and_all : ∀ k : Fin 256, A254 (A254 (k.val : Int)) = A254 (k.val : Int) ∧ D253 (D253 (k.val : Int)) = D253 (k.val : Int) ∧ D253 (A254 (D253 (A254 (k.val : Int)))) = D253 (A254 (k.val : Int)) := by decide +kernel
theorem and_idem {v : Int} (h0 : 0 ≤ v) (h1 : v ≤ 255) : A254 (A254 v) = A254 v ∧ D253 (D253 v) = D253 v ∧ D253 (A254 (D253 (A254 v))) = D253 (A254 v) := by
  have := and_all ⟨v.toNat, by omega⟩
  simpa [Int.toNat_of_nonneg h0] using this
theorem trm_idem (m : Nat) (x : Nat → Tok) (hm : m = 1 ∨ m = 3) (hb : ∀ i, 0 ≤ (x i).ws ∧ (x i).ws ≤ 255) : trm m (trm m x) = trm m x := by
  obtain ⟨a1, _, a3⟩ := and_idem (hb 0).1 (hb 0).2
  obtain ⟨_, d2, _⟩ := and_idem (hb 2).1 (hb 2).2
  rcases hm with rfl | rfl
  · funext i
    by_cases e : i = 0
    · subst e; simp [trm, upd, a3]
    · simp [trm, upd, e]
  · funext i
    by_cases e : i = 0
    · subst e; simp [trm, upd, a1]
    · by_cases e2 : i = 2
      · subst e2; simp [trm, upd, d2]
      · simp [trm, upd, e, e2]
theorem trm_k (m : Nat) (x : Nat → Tok) (i : Nat) : (trm m x i).k = (x i).k := by
  unfold trm
  by_cases e : m = 0
  · rw [if_pos e]
  · rw [if_neg e]
    unfold upd
    by_cases e1 : i = m - 1
    · subst e1
      by_cases e2 : m - 1 = 0
      · simp [e2]
      · simp [e2]
    · by_cases e2 : i = 0
      · subst e2; simp [e1]
      · simp [e1, e2]
theorem mv_cases (x : Nat → Tok) (n : Nat) : mv x n = 0 ∨ (mv x n = 1 ∧ 1 ≤ n) ∨ (mv x n = 3 ∧ 3 ≤ n) := by
  unfold mv
  split
  · split
    · exact .inr (.inl ⟨rfl, by assumption⟩)
    · split
      · split
        · rename_i h
          exact .inr (.inr ⟨rfl, h.1⟩)
        · exact .inr (.inl ⟨rfl, by assumption⟩)
      · exact .inl rfl
  · exact .inl rfl
theorem mv_again (x : Nat → Tok) (n m : Nat) (h : mv x n = m) (hm : m = 1 ∨ m = 3) : mv (trm m x) m = m := by
  have k0 := trm_k m x 0
  have k1 := trm_k m x 1
  have k2 := trm_k m x 2
  unfold mv at h ⊢
  rw [k0, k1, k2]
  rcases hm with rfl | rfl
  · by_cases e : (x 0).k = 26 ∨ (x 0).k = 29
    · simp [e]
    · rw [if_neg e] at h
      by_cases e3 : (x 0).k = 30
      · simp [e3]
      · rw [if_neg e3] at h
        split at h <;> simp at h
  · by_cases e : (x 0).k = 26 ∨ (x 0).k = 29
    · rw [if_pos e] at h
      split at h <;> simp at h
    · rw [if_neg e] at h
      by_cases e3 : (x 0).k = 30
      · rw [if_pos e3] at h
        by_cases e4 : 3 ≤ n ∧ (x 1).k = 24 ∧ (x 2).k = 30
        · simp [e3, e4.2.1, e4.2.2]
        · rw [if_neg e4] at h
          split at h <;> simp at h
      · rw [if_neg e3] at h
        split at h <;> simp at h
def cellsOf (y : Nat → Tok) (m : Nat) : List Value := (List.range (m * 7)).map fun j => (y (j / 7)).at (j % 7)
theorem cellsOf_length (y : Nat → Tok) (m : Nat) : (cellsOf y m).length = m * 7 := by simp [cellsOf]
theorem cellsOf_at (y : Nat → Tok) (m j : Nat) (v : Value) (h : (cellsOf y m)[j]? = some v) : j < m * 7 ∧ v = (y (j / 7)).at (j % 7) := by
  have hj : j < m * 7 := by
    have := (List.getElem?_eq_some_iff.1 h).1
    rwa [cellsOf_length] at this
  refine ⟨hj, ?_⟩
  simp [cellsOf, hj] at h
  exact h.symm
theorem at_one (y : Tok) (o : Nat) : (y.at o).oneCell' = true := by
  unfold Tok.at
  split
  · rfl
  · split
    · rfl
    · split
      · rfl
      · split
        · rfl
        · split
          · rfl
          · split <;> rfl
theorem cellsOf_one (y : Nat → Tok) (m : Nat) : ∀ v ∈ cellsOf y m, v.oneCell' = true := by
  intro v hv
  simp only [cellsOf, List.mem_map] at hv
  obtain ⟨j, _, rfl⟩ := hv
  exact at_one _ _
theorem size_puts (b : Nat) : ∀ (vs : List Value) (o : Nat) (w : World), (w.setCells b o vs).heap.size = w.heap.size := by
  intro vs
  induction vs with
  | nil => intro o w; rfl
  | cons v r ih => intro o w; rw [World.setCells, ih]; simp [go_sem]
theorem toks_copied (y : Nat → Tok) (m : Nat) (w : World) : Toks w.heap.size m y ((toksOf m w).setCells w.heap.size 0 (cellsOf y m)) := by
  have hs := toksOf_start m y w
  refine ⟨by rw [size_puts]; exact hs.size, fun i o hi ho => ?_, fun o => by rw [World.frozen?_setCells]; exact hs.z o⟩
  have h := World.rangeAt_setCells_same (toksOf m w) w.heap.size 0 (cellsOf y m) (fun j hj => by
    rw [cellsOf_length] at hj
    obtain ⟨u, hu⟩ := hs.c j hj
    exact ⟨by rw [Nat.zero_add, hu]; rfl, hs.z _⟩) (i * 7 + o) ((y i).at o) (by
      have hj : i * 7 + o < m * 7 := by omega
      have e1 : (i * 7 + o) / 7 = i := by omega
      have e2 : (i * 7 + o) % 7 = o := by omega
      simp [cellsOf, hj, e1, e2])
  rwa [Nat.zero_add] at h
structure TwoM (B2 m B n : Nat) (y : Nat → Tok) (w0 w : World) : Prop where
  out : Toks B2 m y w
  quad : Toks B n y w
  below : Below w0.heap.size w0 w
  size : w0.heap.size ≤ w.heap.size
theorem TwoM.call {B2 m B n : Nat} {y : Nat → Tok} {w0 w w' : World} (h : TwoM B2 m B n y w0 w) (hb : Below w.heap.size w w') : TwoM B2 m B n y w0 w' :=
  ⟨h.out.call hb, h.quad.call hb, h.below.trans (hb.mono h.size), Nat.le_trans h.size hb.size⟩
abbrev TwoT (B2 m B n i : Nat) (y : Nat → Tok) (w0 w' : World) : Prop := TkC B2 (i * 7) (y i) w' ∧ TkC B (i * 7) (y i) w' ∧ TwoM B2 m B n y w0 w'
theorem TwoM.cmp {B2 m B n : Nat} {y : Nat → Tok} {w0 w : World} (h : TwoM B2 m B n y w0 w) (i : Nat) (hi : i < m) (hin : i < n) : TwoT B2 m B n i y w0 w := ⟨h.out.tok i hi, h.quad.tok i hin, h⟩
structure LoopC (B2 m B n : Nat) (y : Nat → Tok) (w0 : World) (i : Value) (wr : World) : Prop where
  ex : ∃ k : Nat, k ≤ m ∧ i = .int .i64 k ∧ TwoM B2 m B n y w0 wr

attribute [local go_sem] make45 in
set_option maxRecDepth 20000 in
set_option maxHeartbeats 4000000 in
theorem walk (a0 : Option Addr) (len0 cap0 : Nat) (z0 : List Int) (a1 : Option Addr) (len1 cap1 : Nat) (z1 : List Int) (a2 : ByteArray) (w : World) (w0 : IsRow .u8 w a0 len0 cap0 z0) (w1 : IsRow .u8 w a1 len1 cap1 z1) (w2 : a2.size ≤ maxLen) :
    Calls Try.prog 6 #[.slice a0 len0 cap0, .slice a1 len1 cap1, .string a2] w fun e w' => e = .returned (.bool true) ∧ Below w.heap.size w w' := by
  obtain ⟨r0, m0⟩ := w0.row
  obtain ⟨r1, m1⟩ := w1.row
  clear w0 w1
  have R0 := Lib.hid r0
  have R1 := Lib.hid r1
  clear r0 r1
  go_enter Try.func6, Try.ntmps6
  go_wp2_with fail
  with_reducible refine (any18 a0 a1 len0 len1 cap0 cap1 a2 w m0 m1 w2).mono ?_
  rintro e wx ⟨⟨b, rfl⟩, hw⟩
  obtain rfl := hw.symm
  clear hw
  simp only [maxLen] at m0 m1 w2
  cases b
  · go_wp2_with fail
    go_ret
    exact ⟨rfl, Below.refl _ _⟩
  by_cases g0 : len0 ≤ 65536
  case neg =>
    go_wp2_with fail
    go_ret
    exact ⟨rfl, Below.refl _ _⟩
  by_cases g1 : len1 ≤ 65536
  case neg =>
    go_wp2_with fail
    go_ret
    exact ⟨rfl, Below.refl _ _⟩
  by_cases g2 : a2.size ≤ 65536
  case neg =>
    go_wp2_with fail
    go_ret
    exact ⟨rfl, Below.refl _ _⟩
  go_wp2_with fail
  with_reducible refine (build19 a0 a1 len0 len1 cap0 cap1 z0 z1 a2 _ g0 g1 R0.out R1.out).mono ?_
  rintro e w3 ⟨rfl, hT, hB⟩
  have HX := Lib.hid (show ∀ i, 0 ≤ (bx z0 z1 len1 a2 i).ws ∧ (bx z0 z1 len1 a2 i).ws ≤ 255 by
    intro i
    unfold bx
    by_cases e : i < len1
    · simp only [e, if_true]; exact wf_u8 (R1.out.wf i e)
    · simp [e])
  clear R0 R1
  have HT := Lib.hid hT
  have HB := Lib.hid hB
  clear hT hB
  generalize bx z0 z1 len1 a2 = x at *
  go_wp2_with fail
  with_reducible refine (zscan20 _ len0 x _ g0 HT.out).mono ?_
  rintro e w4 hs
  obtain ⟨r, rfl⟩ := hs.ex
  have HT4 := Lib.hid hs.toks
  have HB4 := Lib.hid (hs.kept _ _ (Nat.le_refl _) HB.out)
  have hmc := mv_cases x len0
  have HMV := Lib.hid (fun m h => mv_again x len0 m h)
  clear hs HT HB
  generalize mv x len0 = m at *
  by_cases hm0 : m = 0
  · subst hm0
    go_wp2_with fail
    go_ret
    exact ⟨rfl, HB4.out⟩
  have hm13 : m = 1 ∨ m = 3 := by omega
  have hmn : m ≤ len0 := by omega
  have hm3 : m ≤ 1048576 := by omega
  have hmz : ((m : Int) == 0) = false := by simp; omega
  have HY := Lib.hid (trm_idem m x hm13 HX.out)
  have HM := Lib.hid (HMV.out m rfl hm13)
  clear hmc HX HMV
  generalize trm m x = y at *
  have hTs := HT4.out.size
  have hsrc : ∀ j v, (cellsOf y m)[j]? = some v → (toksOf m w4).cell? ((⟨w.heap.size, 0, none⟩ : Addr).add j) = some v := by
    intro j v hv
    obtain ⟨hj, rfl⟩ := cellsOf_at y m j v hv
    have e : ((⟨w.heap.size, 0, none⟩ : Addr).add j) = ⟨w.heap.size, j, none⟩ := by
      have := Addr.add_mid w.heap.size 0 j
      rwa [Nat.zero_add] at this
    rw [e]
    have q := HT4.out.c (j / 7) (j % 7) (by omega) (by omega)
    rw [show j / 7 * 7 + j % 7 = j by omega] at q
    unfold toksOf
    rw [World.cell?_alloc_lt _ _ _ hTs]
    exact q
  have hcc : ∀ j, j < (cellsOf y m).length → ((toksOf m w4).cell? ⟨w4.heap.size, 0 + j, none⟩).isSome = true := by
    intro j hj
    rw [cellsOf_length] at hj
    obtain ⟨u, hu⟩ := (toksOf_start m y w4).c j hj
    rw [Nat.zero_add, hu]; rfl
  have hff : ∀ j, j < (cellsOf y m).length → (toksOf m w4).frozen? ⟨w4.heap.size, 0 + j, none⟩ = false := fun j _ => (toksOf_start m y w4).z _
  have HSRC := Lib.hid hsrc
  have HCC := Lib.hid hcc
  have HFF := Lib.hid hff
  clear hsrc hcc hff
  go_upto_region 16 with (first
    | ((with_reducible refine wpList_copy7 ?_ (.tmp 44) (.tmp 45) 45 45 ?_ 42 Try.underlying45 info42s w4.heap.size 0 m m ⟨w.heap.size, 0, none⟩ m len0 m ?_ ?_ (cellsOf y m) (Nat.min_self m) (cellsOf_length y m) HSRC.out HCC.out HFF.out (cellsOf_one y m) ?_); rfl; rfl; rfl; rfl))
  clear HSRC HCC HFF
  have hT5 := toks_copied y m w4
  have hb5 : Below w4.heap.size w4 ((toksOf m w4).setCells w4.heap.size 0 (cellsOf y m)) := below_setCells ((Below.refl _ _).alloc (Nat.le_refl _) _) _ (Nat.le_refl _) _ _
  have HT5 := Lib.hid hT5
  have HT6 := Lib.hid (HT4.out.call hb5)
  have HB5 := Lib.hid (HB4.out.trans (hb5.mono HB4.out.size))
  have hb24 : w.heap.size < w4.heap.size := hTs
  clear hT5 hb5 HT4 HB4
  generalize (toksOf m w4).setCells w4.heap.size 0 (cellsOf y m) = w5 at *
  generalize w4.heap.size = B2 at *
  go_wp2_with fail
  with_reducible refine (zscan20 B2 m y _ (by omega) HT5.out).mono ?_
  rintro e w6 hs
  obtain ⟨r2, rfl⟩ := hs.ex
  rw [HM.out, Nat.sub_self]
  have ht := hs.toks
  rw [HM.out, HY.out] at ht
  have hk := hs.kept B2 w5 (Nat.le_refl _) (Below.refl _ _)
  have htB : Toks w.heap.size len0 y w6 := by
    have h5 := HT6.out
    have hz := hs.toks.size
    refine ⟨by omega, fun i o hi ho => ?_, fun o => ?_⟩
    · rw [hk.cell (p := ⟨w.heap.size, i * 7 + o, none⟩) hb24]; exact h5.c i o hi ho
    · rw [hk.frozen (p := ⟨w.heap.size, o, none⟩) hb24]; exact h5.z o
  have hbW : Below w.heap.size w w6 := hs.kept _ _ (by omega) HB5.out
  have H0 := Lib.hid (⟨⟨0, by omega, rfl, ht, htB, hbW, hbW.size⟩⟩ : LoopC B2 m w.heap.size len0 y w (.int .i64 (0 : Nat)) w6)
  clear hs ht hk htB hbW HT5 HT6 HB5 HM HY
  obtain ⟨B, hBB⟩ : ∃ B, B = w.heap.size := ⟨_, rfl⟩
  rw [← hBB] at H0 ⊢
  have HBB := Lib.hid hBB
  clear hBB
  go_wp2_with fail
  go_loopw [14] (fun i wr => LoopC B2 m B len0 y w i wr) (fun i _ => m - (intOf i).toNat)
  case atStart => exact H0.out
  case round =>
    obtain ⟨i, hi, rfl, hW⟩ := hrel.ex
    clear hrel H0
    by_cases hlt : i < m
    · have hin : i < len0 := by omega
      have b0 : (0 : Int) ≤ (i : Int) := by omega
      have b1 : (i : Int) < (m : Int) := by omega
      have b2 : (i : Int) < (len0 : Int) := by omega
      have hS : (fun w' => (w'.cell? ⟨B2, i * 7, none⟩ = some (.pointer none) ∧ w'.cell? ⟨B2, i * 7 + 1, none⟩ = some (.string (y i).t) ∧ w'.cell? ⟨B2, i * 7 + 2, none⟩ = some (.int .i32 (y i).s) ∧ w'.cell? ⟨B2, i * 7 + 3, none⟩ = some (.int .u32 (y i).p) ∧ w'.cell? ⟨B2, i * 7 + 4, none⟩ = some (.int .u16 0) ∧ w'.cell? ⟨B2, i * 7 + 5, none⟩ = some (.int .u8 (y i).k) ∧ w'.cell? ⟨B2, i * 7 + 6, none⟩ = some (.int .u8 (y i).ws)) ∧ (w'.cell? ⟨B, i * 7, none⟩ = some (.pointer none) ∧ w'.cell? ⟨B, i * 7 + 1, none⟩ = some (.string (y i).t) ∧ w'.cell? ⟨B, i * 7 + 2, none⟩ = some (.int .i32 (y i).s) ∧ w'.cell? ⟨B, i * 7 + 3, none⟩ = some (.int .u32 (y i).p) ∧ w'.cell? ⟨B, i * 7 + 4, none⟩ = some (.int .u16 0) ∧ w'.cell? ⟨B, i * 7 + 5, none⟩ = some (.int .u8 (y i).k) ∧ w'.cell? ⟨B, i * 7 + 6, none⟩ = some (.int .u8 (y i).ws)) ∧ TwoM B2 m B len0 y w w') wr.drew := (hW.call (Below.refl _ _).drew).cmp i hlt hin
      have HS := Lib.hid hS
      have hK : ∀ w' w'', (fun w' => (w'.cell? ⟨B2, i * 7, none⟩ = some (.pointer none) ∧ w'.cell? ⟨B2, i * 7 + 1, none⟩ = some (.string (y i).t) ∧ w'.cell? ⟨B2, i * 7 + 2, none⟩ = some (.int .i32 (y i).s) ∧ w'.cell? ⟨B2, i * 7 + 3, none⟩ = some (.int .u32 (y i).p) ∧ w'.cell? ⟨B2, i * 7 + 4, none⟩ = some (.int .u16 0) ∧ w'.cell? ⟨B2, i * 7 + 5, none⟩ = some (.int .u8 (y i).k) ∧ w'.cell? ⟨B2, i * 7 + 6, none⟩ = some (.int .u8 (y i).ws)) ∧ (w'.cell? ⟨B, i * 7, none⟩ = some (.pointer none) ∧ w'.cell? ⟨B, i * 7 + 1, none⟩ = some (.string (y i).t) ∧ w'.cell? ⟨B, i * 7 + 2, none⟩ = some (.int .i32 (y i).s) ∧ w'.cell? ⟨B, i * 7 + 3, none⟩ = some (.int .u32 (y i).p) ∧ w'.cell? ⟨B, i * 7 + 4, none⟩ = some (.int .u16 0) ∧ w'.cell? ⟨B, i * 7 + 5, none⟩ = some (.int .u8 (y i).k) ∧ w'.cell? ⟨B, i * 7 + 6, none⟩ = some (.int .u8 (y i).ws)) ∧ TwoM B2 m B len0 y w w') w' → Below w'.heap.size w' w'' → (fun w' => (w'.cell? ⟨B2, i * 7, none⟩ = some (.pointer none) ∧ w'.cell? ⟨B2, i * 7 + 1, none⟩ = some (.string (y i).t) ∧ w'.cell? ⟨B2, i * 7 + 2, none⟩ = some (.int .i32 (y i).s) ∧ w'.cell? ⟨B2, i * 7 + 3, none⟩ = some (.int .u32 (y i).p) ∧ w'.cell? ⟨B2, i * 7 + 4, none⟩ = some (.int .u16 0) ∧ w'.cell? ⟨B2, i * 7 + 5, none⟩ = some (.int .u8 (y i).k) ∧ w'.cell? ⟨B2, i * 7 + 6, none⟩ = some (.int .u8 (y i).ws)) ∧ (w'.cell? ⟨B, i * 7, none⟩ = some (.pointer none) ∧ w'.cell? ⟨B, i * 7 + 1, none⟩ = some (.string (y i).t) ∧ w'.cell? ⟨B, i * 7 + 2, none⟩ = some (.int .i32 (y i).s) ∧ w'.cell? ⟨B, i * 7 + 3, none⟩ = some (.int .u32 (y i).p) ∧ w'.cell? ⟨B, i * 7 + 4, none⟩ = some (.int .u16 0) ∧ w'.cell? ⟨B, i * 7 + 5, none⟩ = some (.int .u8 (y i).k) ∧ w'.cell? ⟨B, i * 7 + 6, none⟩ = some (.int .u8 (y i).ws)) ∧ TwoM B2 m B len0 y w w') w'' := fun w' w'' h hb => (h.2.2.call hb).cmp i hlt hin
      have HK := Lib.hid hK
      clear hS hK hW
      go_wp2_with fail
      go_region_held3 (fun w' => (w'.cell? ⟨B2, i * 7, none⟩ = some (.pointer none) ∧ w'.cell? ⟨B2, i * 7 + 1, none⟩ = some (.string (y i).t) ∧ w'.cell? ⟨B2, i * 7 + 2, none⟩ = some (.int .i32 (y i).s) ∧ w'.cell? ⟨B2, i * 7 + 3, none⟩ = some (.int .u32 (y i).p) ∧ w'.cell? ⟨B2, i * 7 + 4, none⟩ = some (.int .u16 0) ∧ w'.cell? ⟨B2, i * 7 + 5, none⟩ = some (.int .u8 (y i).k) ∧ w'.cell? ⟨B2, i * 7 + 6, none⟩ = some (.int .u8 (y i).ws)) ∧ (w'.cell? ⟨B, i * 7, none⟩ = some (.pointer none) ∧ w'.cell? ⟨B, i * 7 + 1, none⟩ = some (.string (y i).t) ∧ w'.cell? ⟨B, i * 7 + 2, none⟩ = some (.int .i32 (y i).s) ∧ w'.cell? ⟨B, i * 7 + 3, none⟩ = some (.int .u32 (y i).p) ∧ w'.cell? ⟨B, i * 7 + 4, none⟩ = some (.int .u16 0) ∧ w'.cell? ⟨B, i * 7 + 5, none⟩ = some (.int .u8 (y i).k) ∧ w'.cell? ⟨B, i * 7 + 6, none⟩ = some (.int .u8 (y i).ws)) ∧ TwoM B2 m B len0 y w w')
        (first | with_reducible exact HS.out | with_reducible exact HK.out _ _ (by assumption) hb)
        (first | (go_at_call 21; with_reducible refine (same21 (y i) _).mono ?_; rintro e w9 ⟨rfl, hb⟩))
      rename_i hH
      have HH := Lib.hid hH.2.2
      clear HS HK hH hb
      go_wp2_with fail
      go_roundw
      case rel => exact ⟨i + 1, by omega, by go_num, HH.out⟩
      case measure => first | (simp [intOf]; done) | (simp [intOf]; omega)
    · have HW := Lib.hid hW.below
      clear hW
      go_wp2_with fail
      go_ret
      exact ⟨rfl, HW.out⟩

set_option maxRecDepth 100000 in
theorem lifted (os : Os) (started : os.Started) (H : Type) (enc : TypeId × Value → H) :
    ReturnsInHanded {} Try.checked os 6 .any (Rows.fnScanMediaValueRescansAsItselfSpec.pre6 enc Try.prog Try.f6 Rows.fnScanMediaValueRescansAsItselfRow.domain false) (Rows.fnScanMediaValueRescansAsItselfSpec.post enc Try.prog Try.f6 false true false false) := by
  refine returnsInHanded_of_change (C := Try.checked) own started (by kernel_rfl) Try.func6
    (ChangeSpec.witness6 (enc := enc) (C := Try.checked) false ⟨#[], #[.slice none 0 0, .slice none 0 0, .string ByteArray.empty], []⟩ 8 (by kernel_rfl) (by kernel_rfl) (by kernel_rfl) (by kernel_rfl)) ?_
  intro W base args ds gs before hval0 hW hcnd _
  have hval : ∀ (j : Nat) t v, Try.f6.params[j]? = some t → args[j]? = some v → Value.okWide Try.prog W .any base t v := hval0
  have hW' := hW
  obtain ⟨p, q, hA0, hV, rfl, hfz, hnd⟩ := hW
  have hA : DataW.TrodAll enc Try.prog W 0 (fun _ => true) true Try.f6.params.toList args.toList ds p := hA0
  rw [Try.params6] at hA hval
  obtain ⟨v0, vs0, d0, ds0, p0, q0, hargs, rfl, rfl, h0, r0⟩ := trodAll_cons hA
  obtain ⟨v1, vs1, d1, ds1, p1, q1, rfl, rfl, rfl, h1, r1⟩ := trodAll_cons r0
  obtain ⟨v2, vs2, d2, ds2, p2, q2, rfl, rfl, rfl, h2, r2⟩ := trodAll_cons r1
  obtain ⟨rfl, rfl, rfl⟩ := trodAll_nil r2
  obtain rfl : args = #[v0, v1, v2] := by cases args; simp_all
  obtain ⟨rfl, rfl⟩ := trodVars_none hV
  obtain ⟨a0, len0, cap0, rfl⟩ := okWide_slice Try.underlying49 (hval 0 49 v0 rfl rfl)
  have k0 := h0
  have lt0 : ∀ x ∈ p0, x.block < W.heap.size := by obtain ⟨m, hm⟩ := k0; exact DataW.trod_lt m _ _ _ hm
  obtain ⟨z0, w0⟩ : ∃ zs, IsRow .u8 W a0 len0 cap0 zs := by
    obtain ⟨fuel, hf⟩ := h0
    rcases open_ints Try.underlying49 Try.underlying5 (by kernel_rfl) hf with ⟨hcs, _⟩ | ⟨x, l, c, zs, hcs, _, hl, hm, hz, _, hcell, hwz⟩
    · simp [Value.cells] at hcs
      obtain ⟨rfl, rfl, rfl⟩ := hcs
      exact ⟨[], .inl ⟨rfl, rfl, rfl, rfl⟩⟩
    · simp [Value.cells] at hcs
      obtain ⟨rfl, rfl, rfl⟩ := hcs
      exact ⟨zs, .inr ⟨_, rfl, hl, hm, by simpa using hz, hcell, hwz⟩⟩
  obtain ⟨a1, len1, cap1, rfl⟩ := okWide_slice Try.underlying49 (hval 1 49 v1 rfl rfl)
  have k1 := h1
  have lt1 : ∀ x ∈ p1, x.block < W.heap.size := by obtain ⟨m, hm⟩ := k1; exact DataW.trod_lt m _ _ _ hm
  obtain ⟨z1, w1⟩ : ∃ zs, IsRow .u8 W a1 len1 cap1 zs := by
    obtain ⟨fuel, hf⟩ := h1
    rcases open_ints Try.underlying49 Try.underlying5 (by kernel_rfl) hf with ⟨hcs, _⟩ | ⟨x, l, c, zs, hcs, _, hl, hm, hz, _, hcell, hwz⟩
    · simp [Value.cells] at hcs
      obtain ⟨rfl, rfl, rfl⟩ := hcs
      exact ⟨[], .inl ⟨rfl, rfl, rfl, rfl⟩⟩
    · simp [Value.cells] at hcs
      obtain ⟨rfl, rfl, rfl⟩ := hcs
      exact ⟨zs, .inr ⟨_, rfl, hl, hm, by simpa using hz, hcell, hwz⟩⟩
  obtain ⟨a2, rfl, rfl, rfl, w2⟩ := open_string Try.underlying9 (hval 2 9 v2 rfl rfl) h2
  clear hA0 hval0
  refine (walk a0 len0 cap0 z0 a1 len1 cap1 z1 a2 W w0 w1 w2).mono fun e W' ⟨he, bel⟩ => ?_
  subst he
  exact ⟨_, rfl, _, _, _, [], _, [], hW', trodAll_mk1 (shut_bool Try.underlying4 _), (trodAll_cons_mk (Below.trod laidOut (by kernel_rfl) (of_decide_eq_true (by kernel_rfl)) k0 bel lt0) (trodAll_cons_mk (Below.trod laidOut (by kernel_rfl) (of_decide_eq_true (by kernel_rfl)) k1 bel lt1) (trodAll_cons_mk (shut_string Try.underlying9 w2) trodAll_mk0))), rfl, bel.frame _, fun h => by cases h⟩

theorem q0 : (Rows.fnScanMediaValueRescansAsItselfRow.wf (OpenSpec.ofChange Rows.fnScanMediaValueRescansAsItselfSpec)) = true := by kernel_rfl
theorem q3 : (Try.f6.params.all (Try.pinned.checked.prog.readableRec ·)) = true := by kernel_rfl
theorem q4 : (namedTie Try.pinned.checked.prog Rows.fnScanMediaValueRescansAsItselfRow.named Rows.fnScanMediaValueRescansAsItselfSpec.vars) = true := by kernel_rfl
theorem q5 : ((Rows.fnScanMediaValueRescansAsItselfRow.stops == [])) = true := by kernel_rfl
theorem q7 : ((Rows.fnScanMediaValueRescansAsItselfRow.knobs == [])) = true := by kernel_rfl
theorem q9 : ((Rows.fnScanMediaValueRescansAsItselfRow.inPlace == Try.pinned.checked.prog.inPlace 6)) = true := by kernel_rfl
theorem q10 : ((Rows.fnScanMediaValueRescansAsItselfRow.unfollowed == Try.pinned.checked.prog.unfollowed 6)) = true := by kernel_rfl
theorem q11 : ((Rows.fnScanMediaValueRescansAsItselfRow.recurses == Try.pinned.checked.prog.recurses 6)) = true := by kernel_rfl
theorem q12 : ((Rows.fnScanMediaValueRescansAsItselfRow.named == Try.pinned.checked.prog.varsNamed 6)) = true := by kernel_rfl
theorem q13 : ((Rows.fnScanMediaValueRescansAsItselfRow.maps == (Try.f6.params.toList ++ Rows.fnScanMediaValueRescansAsItselfSpec.plain.varTypes Try.pinned.checked.prog).any (Try.pinned.checked.prog.mapsRec ·))) = true := by kernel_rfl
theorem q14 : ((Rows.fnScanMediaValueRescansAsItselfRow.ifaces == (Try.f6.params.toList ++ Rows.fnScanMediaValueRescansAsItselfSpec.plain.varTypes Try.pinned.checked.prog).any (Try.pinned.checked.prog.ifacesRec ·))) = true := by kernel_rfl
theorem q15 : ((Rows.fnScanMediaValueRescansAsItselfRow.mapsOut == Try.pinned.checked.prog.mapsAmong Try.f6.resultTypes.toList)) = true := by kernel_rfl
theorem q16 : ((Rows.fnScanMediaValueRescansAsItselfRow.loops == (Try.f6.params.toList ++ Rows.fnScanMediaValueRescansAsItselfSpec.plain.varTypes Try.pinned.checked.prog).any (Try.pinned.checked.prog.loopsFrom ·))) = true := by kernel_rfl
theorem q17 : ((Rows.fnScanMediaValueRescansAsItselfRow.wideKeys == (Try.f6.params.toList ++ Rows.fnScanMediaValueRescansAsItselfSpec.plain.varTypes Try.pinned.checked.prog ++ Try.f6.resultTypes.toList).any (Try.pinned.checked.prog.wideKeysFrom ·))) = true := by kernel_rfl
theorem q18 : (Rows.fnScanMediaValueRescansAsItselfSpec.vars.all (Try.pinned.checked.prog.varReadable ·)) = true := by kernel_rfl
theorem q19 : (Try.f6.resultTypes.all (fun t => Try.pinned.checked.prog.readableRec t && decide (t < Try.pinned.checked.prog.types.size))) = true := by kernel_rfl
theorem q20 : ((Rows.fnScanMediaValueRescansAsItselfRow.ifacesOut == Try.f6.resultTypes.toList.any (Try.pinned.checked.prog.ifacesRec ·))) = true := by kernel_rfl
theorem q21 : ((Rows.fnScanMediaValueRescansAsItselfRow.loopsOut == Try.f6.resultTypes.toList.any (Try.pinned.checked.prog.loopsFrom ·))) = true := by kernel_rfl
theorem q22 : ((Rows.fnScanMediaValueRescansAsItselfRow.plainKeys == Try.pinned.checked.prog.plainKeys)) = true := by kernel_rfl
theorem q23 : (Rows.fnScanMediaValueRescansAsItselfRow.shortTexts.isNone) = true := by kernel_rfl
theorem q26 : ((Rows.fnScanMediaValueRescansAsItselfRow.lifted == Try.pinned.checked.prog.liftsFinal)) = true := by rw [g26]; kernel_rfl
theorem q27 : ((Try.pinned.checked.prog.make == some Rows.fnScanMediaValueRescansAsItselfRow.make)) = true := by rw [g27]; kernel_rfl
theorem q28 : ((Rows.fnScanMediaValueRescansAsItselfRow.kinds == (if Rows.fnScanMediaValueRescansAsItselfRow.domain.isEmpty then [] else Try.f6.params.toList.map fun t => match Try.pinned.checked.prog.underlying t with | some (.int k) => some k | _ => none))) = true := by kernel_rfl
theorem q29 : ((Rows.fnScanMediaValueRescansAsItselfRow.pinned == Rows.fnScanMediaValueRescansAsItselfRow.pinnedBy)) = true := by kernel_rfl
theorem q30 : ((Rows.fnScanMediaValueRescansAsItselfRow.veiled == (Try.f6.params.toList ++ Rows.fnScanMediaValueRescansAsItselfSpec.plain.varTypes Try.pinned.checked.prog ++ Try.f6.resultTypes.toList).any (Try.pinned.checked.prog.veiledRec ·))) = true := by kernel_rfl
theorem q31 : (Rows.fnScanMediaValueRescansAsItselfRow.veiledFits Try.pinned.checked.prog Try.f6.params.toList (Try.f6.params.toList ++ Rows.fnScanMediaValueRescansAsItselfSpec.plain.varTypes Try.pinned.checked.prog ++ Try.f6.resultTypes.toList)) = true := by kernel_rfl
set_option maxRecDepth 100000 in
theorem closed : joinedFacts Try.pinned.checked.prog 6 Try.f6 Rows.fnScanMediaValueRescansAsItselfSpec Rows.fnScanMediaValueRescansAsItselfRow = true :=
  (andI (andI (andI (andI (andI (andI (andI (andI (andI (andI (andI (andI (andI (andI (andI (andI (andI (andI (andI (andI (andI (andI (andI (andI (andI (andI (andI (andI (andI (andI (andI q0 g1) g2) q3) q4) q5) g6) q7) g8) q9) q10) q11) q12) q13) q14) q15) q16) q17) q18) q19) q20) q21) q22) q23) g24) g25) q26) q27) q28) q29) q30) q31)
theorem over : Rows.fnScanMediaValueRescansAsItselfRow.holds Try.pinned (OpenSpec.ofChange Rows.fnScanMediaValueRescansAsItselfSpec) :=
  OpenClaim.holds_of_wide 6 Try.f6 rfl rfl rfl rfl rfl rfl rfl ⟨rfl, rfl, rfl, rfl, rfl⟩ rfl rfl rfl rfl rfl (by kernel_rfl) Try.func6 closed
    (of_decide_eq_true (by kernel_rfl)) (by unfold Func.isWrapper; first | (rw [if_pos (by decide +kernel)]; kernel_rfl) | (rw [if_neg (by decide +kernel)]; exact ⟨rfl, rfl⟩))
    (fun os started H enc _ => lifted os started H enc)

theorem proved : Rows.FnScanMediaValueRescansAsItselfSaid := over
#print axioms proved
end Go.Proofs.Ytecdhjhobjagkaa.fnScanMediaValueRescansAsItself
