/-
  The contracts of the parser over a token list as the combinator law makes it, and of parseCombinator. Conditions: the shapes of the lists.
-/
import Derived.Test.YtnlohfbmknedhaaWg
namespace Go.Proofs.Ytnlohfbmknedhaa
open Go.ChangeShapes Go.WideShapes Go.ChangeAt Go.RowKit

attribute [local go_sem] make31 in
set_option maxRecDepth 20000 in
set_option maxHeartbeats 4000000 in
theorem new22 (s : ByteArray) (a1 a2 a3 : Option Addr) (n c1 c2 c3 : Nat) (z1 z2 z3 : List Int) (i m : Int) (x y : Bool) (w : World) (hs : s.size ≤ 1048576) (hn : n ≤ 1048576) (h1 : Row .u8 w a1 n z1) (h2 : Row .i32 w a2 n z2) (h3 : Row .i32 w a3 n z3) :
    Calls Try.prog 22 #[.string s, .slice a1 n c1, .slice a2 n c2, .slice a3 n c3, .int .i64 i, .bool x, .int .u8 m, .bool y] w fun e w' => ∃ p, e = .returned (.pointer (some ⟨p, 0, none⟩)) ∧ w.heap.size ≤ p ∧ Psr w' p s w.heap.size n (tkOf z1 z2 z3) i ∧ Below w.heap.size w w' := by
  have HA := Lib.hid (toksOf_start n (tkOf z1 z2 z3) w)
  have H1 := Lib.hid h1
  have H2 := Lib.hid h2
  have H3 := Lib.hid h3
  clear h1 h2 h3
  go_enter Try.func22, Try.ntmps22
  go_wp2_with fail
  go_loopw [19] (fun i wr => Lp w n z1 z2 z3 i wr) (fun i _ => n - (intOf i).toNat)
  case atStart => exact ⟨0, by omega, rfl, HA.out⟩
  case round =>
    obtain ⟨k, hk, rfl, hI⟩ := hrel.ex
    clear HA hrel
    by_cases hlt : k < n
    · obtain ⟨b1, o1, rfl, l1, q1⟩ := H1.out.cell (by omega)
      obtain ⟨b2, o2, rfl, l2, q2⟩ := H2.out.cell (by omega)
      obtain ⟨b3, o3, rfl, l3, q3⟩ := H3.out.cell (by omega)
      clear H1 H2 H3
      have hs : TS b1 (o1 + k) b2 (o2 + k) b3 (o3 + k) (tkOf z1 z2 z3 k) w n k (tkOf z1 z2 z3) wr := by
        refine ⟨?_, ?_, ?_, hI⟩
        · rw [hI.below.cell (p := ⟨b1, o1 + k, none⟩) l1]; exact q1 k hlt
        · rw [hI.below.cell (p := ⟨b2, o2 + k, none⟩) l2]; exact q2 k hlt
        · rw [hI.below.cell (p := ⟨b3, o3 + k, none⟩) l3]; exact q3 k hlt
      clear q1 q2 q3 hI
      have s0 : ∀ w' : World, TkS w n k (tkOf z1 z2 z3) w' → w'.cell? ⟨w.heap.size, k * 5, none⟩ = some (cellAt w' ⟨w.heap.size, k * 5, none⟩) := fun w' h => h.holds _ (by omega)
      have s1 : ∀ w' : World, TkS w n k (tkOf z1 z2 z3) w' → w'.cell? ⟨w.heap.size, k * 5 + 1, none⟩ = some (cellAt w' ⟨w.heap.size, k * 5 + 1, none⟩) := fun w' h => h.holds _ (by omega)
      have s2 : ∀ w' : World, TkS w n k (tkOf z1 z2 z3) w' → w'.cell? ⟨w.heap.size, k * 5 + 2, none⟩ = some (cellAt w' ⟨w.heap.size, k * 5 + 2, none⟩) := fun w' h => h.holds _ (by omega)
      have s3 : ∀ w' : World, TkS w n k (tkOf z1 z2 z3) w' → w'.cell? ⟨w.heap.size, k * 5 + 3, none⟩ = some (cellAt w' ⟨w.heap.size, k * 5 + 3, none⟩) := fun w' h => h.holds _ (by omega)
      have s4 : ∀ w' : World, TkS w n k (tkOf z1 z2 z3) w' → w'.cell? ⟨w.heap.size, k * 5 + 4, none⟩ = some (cellAt w' ⟨w.heap.size, k * 5 + 4, none⟩) := fun w' h => h.holds _ (by omega)
      have sz : ∀ (w' : World) (o : Nat), TkS w n k (tkOf z1 z2 z3) w' → w'.frozen? ⟨w.heap.size, o, none⟩ = false := fun w' o h => h.z o
      have HS := Lib.hid hs
      have HN := Lib.hid (fun wx (h : TkS w n k (tkOf z1 z2 z3) wx) => h.next hlt)
      clear hs
      generalize ht : tkOf z1 z2 z3 = f at *
      have hT0 : TkS w n k f wr := HS.out.2.2.2
      go_wp2_with fail
      go_region_held3 (fun w' => w'.cell? ⟨b1, o1 + k, none⟩ = some (.int .u8 (f k).k) ∧ w'.cell? ⟨b2, o2 + k, none⟩ = some (.int .i32 (f k).s) ∧ w'.cell? ⟨b3, o3 + k, none⟩ = some (.int .i32 (f k).l) ∧ TkS w n k f w')
        (first | with_reducible exact HS.out | with_reducible exact TS.call l1 l2 l3 HS.out (Below.refl _ _).drew | with_reducible exact TS.call l1 l2 l3 (TS.put5 l1 l2 l3 HS.out _ _ _ _ _) (Below.refl _ _).drew)
        (fail)
      rename_i hH
      have HX := Lib.hid ((HN.out _ hT0).call (Below.refl _ _).drew)
      clear hH s0 s1 s2 s3 s4 sz HN HS hT0
      go_wp2_with fail
      go_roundw
      case rel => exact ⟨k + 1, by omega, by go_num, by rw [ht]; exact HX.out⟩
      case measure => simp [intOf]; omega
    · have e : k = n := by omega
      subst e
      have HI := Lib.hid hI
      clear hI H1 H2 H3
      go_wp2_with fail
      go_ret
      have h := HI.out
      have hsz := h.size
      refine ⟨wr.heap.size, rfl, by omega, ⟨by simp [go_sem], by simp [go_sem]; omega, by omega, ⟨hs, hn⟩, by simp [go_sem], by simp [go_sem], by simp [go_sem], by simp [go_sem], fun j o hj ho => ?_⟩, ?_⟩
      · rw [World.cell?_alloc_lt _ _ _ hsz]; exact h.t j o hj ho
      · exact h.below.alloc (by omega) _

/-- the cursor has moved -/
structure Mv (p : Nat) (v : Value) (w w' : World) : Prop where
  ex : ∃ m, w' = (w.drewN m).setCell ⟨p, 42, none⟩ v

set_option maxRecDepth 20000 in
set_option maxHeartbeats 2000000 in
theorem adv46x (p : Nat) (s : ByteArray) (r n : Nat) (f : Nat → Tk) (i : Nat) (w : World) (h : Psr w p s r n f i) (hi : i < n) :
    Calls Try.prog 46 #[.pointer (some ⟨p, 0, none⟩)] w fun e w' => e = .returned (.tuple #[]) ∧ Mv p (.int .i64 ((i + 1 : Nat) : Int)) w w' := by
  have q16 := h.c16
  have q42 := h.c42
  have z42 := h.z42
  obtain ⟨hs, hn⟩ := h.small
  clear h
  go_enter Try.func46, Try.ntmps46
  go_wp2_with fail
  go_quiet (fail)
  go_wp2
  go_end0
  exact ⟨rfl, ⟨_, by first | rfl | go_num⟩⟩

theorem Mv.cell {p : Nat} {v : Value} {w w' : World} (h : Mv p v w w') (b o : Nat) (hb : b ≠ p) : w'.cell? ⟨b, o, none⟩ = w.cell? ⟨b, o, none⟩ := by
  obtain ⟨m, rfl⟩ := h.ex
  rw [World.cell?_setCell_other _ _ _ _ (by simp <;> omega)]
  simp [go_sem]
theorem Mv.frozen {p : Nat} {v : Value} {w w' : World} (h : Mv p v w w') (b o : Nat) : w'.frozen? ⟨b, o, none⟩ = w.frozen? ⟨b, o, none⟩ := by
  obtain ⟨m, rfl⟩ := h.ex
  rw [World.frozen?_setCell]
  simp [go_sem]
theorem Mv.size {p : Nat} {v : Value} {w w' : World} (h : Mv p v w w') : w'.heap.size = w.heap.size := by
  obtain ⟨m, rfl⟩ := h.ex
  simp [go_sem]
theorem Mv.below {p : Nat} {v : Value} {w w' : World} (h : Mv p v w w') {m : Nat} (hm : m ≤ p) {w0 : World} (hb : Below m w0 w) : Below m w0 w' := by
  obtain ⟨k, rfl⟩ := h.ex
  exact (below_drewN hb k).setCell hm _
theorem Mv.psr {p : Nat} {w w' : World} {s : ByteArray} {r n : Nat} {f : Nat → Tk} {i : Int} {j : Int} (h : Mv p (.int .i64 j) w w') (hp : Psr w p s r n f i) : Psr w' p s r n f j := by
  obtain ⟨k, rfl⟩ := h.ex
  exact (hp.drews k).move j
theorem Psr.set {w : World} {p : Nat} {s : ByteArray} {r n : Nat} {f : Nat → Tk} {i : Int} (h : Psr w p s r n f i) (b o : Nat) (v : Value) (h1 : b ≠ p) (h2 : b ≠ r) : Psr (w.setCell ⟨b, o, none⟩ v) p s r n f i := by
  refine ⟨by simpa [go_sem] using h.lt, by simpa [go_sem] using h.rlt, h.ne, h.small, ?_, ?_, ?_, ?_, fun q o hq ho => ?_⟩
  · rw [World.cell?_setCell_other _ _ _ _ (by simp <;> omega)]; exact h.c9
  · rw [World.cell?_setCell_other _ _ _ _ (by simp <;> omega)]; exact h.c16
  · rw [World.cell?_setCell_other _ _ _ _ (by simp <;> omega)]; exact h.c42
  · rw [World.frozen?_setCell]; exact h.z42
  · rw [World.cell?_setCell_other _ _ _ _ (by simp <;> omega)]; exact h.t q o hq ho

theorem cb_zero {k : Int} (h : cb k = 0) : k ≠ 20 ∧ k ≠ 23 ∧ k ≠ 25 := by
  unfold cb at h
  refine ⟨fun e => ?_, fun e => ?_, fun e => ?_⟩ <;> subst e <;> simp at h

set_option maxRecDepth 20000 in
set_option maxHeartbeats 2000000 in
theorem comb36_no (p : Nat) (s : ByteArray) (r n : Nat) (f : Nat → Tk) (i : Nat) (w : World) (h : Psr w p s r n f i) (hi : i ≤ n) (hk : cb (cur s n f i).k = 0) :
    Calls Try.prog 36 #[.pointer (some ⟨p, 0, none⟩)] w fun e w' => e = .returned (.agg #[.int .i32 0, .int .u8 0]) ∧ Below w.heap.size w w' := by
  have H := Lib.hid h
  clear h
  obtain ⟨tt, ht⟩ : ∃ tt, tt = cur s n f i := ⟨_, rfl⟩
  rw [← ht] at hk
  obtain ⟨k1, k2, k3⟩ := cb_zero hk
  clear hk
  go_enter Try.func36, Try.ntmps36
  go_wp2_with fail
  refine (current45 p s r n f i _ (H.out.call ((Below.refl _ _).alloc (Nat.le_refl _) _)) hi).mono ?_
  rw [← ht]
  rintro e w2 ⟨rfl, hb⟩
  have hb2 : Below w.heap.size w w2 := ((Below.refl _ _).alloc (Nat.le_refl _) _).trans (hb.mono (by simp [go_sem]))
  have hz : w.heap.size < w2.heap.size := by have := hb.size; simp [go_sem] at this; omega
  have y0 : w2.cell? ⟨w.heap.size, 0, none⟩ = some (.int .i32 0) := by
    rw [hb.cell (p := ⟨w.heap.size, 0, none⟩) (by simp [go_sem])]; simp [go_sem]
  have y1 : w2.cell? ⟨w.heap.size, 1, none⟩ = some (.int .u8 0) := by
    rw [hb.cell (p := ⟨w.heap.size, 1, none⟩) (by simp [go_sem])]; simp [go_sem]
  have z0 : ∀ o, w2.frozen? ⟨w.heap.size, o, none⟩ = false := by
    intro o
    rw [hb.frozen (p := ⟨w.heap.size, o, none⟩) (by simp [go_sem])]
    simp [go_sem]
  have HB := Lib.hid hb2
  clear hb hb2 H ht
  go_wp2_with fail
  refine bodyPost_ret (v := .agg #[.int .i32 0, .int .u8 0]) (by simp [results, Try.results36, go_sem, y0, y1, hz]) rfl ⟨rfl, ?_⟩
  exact ((HB.out.setCell (Nat.le_refl _) _).setCell (Nat.le_refl _) _).alloc (by simp [go_sem]; omega) _

set_option maxRecDepth 20000 in
set_option maxHeartbeats 4000000 in
theorem comb36_yes (p : Nat) (s : ByteArray) (r n : Nat) (f : Nat → Tk) (i : Nat) (w : World) (h : Psr w p s r n f i) (hi : i < n) (hk : cb (f i).k ≠ 0) :
    Calls Try.prog 36 #[.pointer (some ⟨p, 0, none⟩)] w fun e w' => e = .returned (.agg #[.int .i32 (f i).s, .int .u8 (cb (f i).k)]) ∧ Go1 w p s r n f ((i + 1 : Nat) : Int) w' := by
  have H := Lib.hid h
  have hp := h.lt
  have hr := h.rlt
  clear h
  have ht : cur s n f i = f i := if_pos hi
  obtain ⟨tt, hf⟩ : ∃ tt, tt = f i := ⟨_, rfl⟩
  rw [← hf] at ht hk ⊢
  have HT := Lib.hid ht
  have k3 : tt.k = 20 ∨ tt.k = 23 ∨ tt.k = 25 := by
    unfold cb at hk
    by_cases e1 : tt.k = 20
    · exact .inl e1
    · by_cases e2 : tt.k = 23
      · exact .inr (.inl e2)
      · by_cases e3 : tt.k = 25
        · exact .inr (.inr e3)
        · simp [e1, e2, e3] at hk
  clear ht hk hf
  obtain ⟨ts, tl, tk⟩ := tt
  have k3' : tk = 20 ∨ tk = 23 ∨ tk = 25 := k3
  clear k3
  go_enter Try.func36, Try.ntmps36
  go_wp2_with fail
  refine (current45 p s r n f i _ (H.out.call ((Below.refl _ _).alloc (Nat.le_refl _) _)) (by omega)).mono ?_
  rw [HT.out]
  rintro e w2 ⟨rfl, hb⟩
  have hz : w.heap.size < w2.heap.size := by have := hb.size; simp [go_sem] at this; omega
  have y0 : w2.cell? ⟨w.heap.size, 0, none⟩ = some (.int .i32 0) := by
    rw [hb.cell (p := ⟨w.heap.size, 0, none⟩) (by simp [go_sem])]; simp [go_sem]
  have y1 : w2.cell? ⟨w.heap.size, 1, none⟩ = some (.int .u8 0) := by
    rw [hb.cell (p := ⟨w.heap.size, 1, none⟩) (by simp [go_sem])]; simp [go_sem]
  have z0 : ∀ o, w2.frozen? ⟨w.heap.size, o, none⟩ = false := by
    intro o
    rw [hb.frozen (p := ⟨w.heap.size, o, none⟩) (by simp [go_sem])]
    simp [go_sem]
  have P2 := Lib.hid ((H.out.call ((Below.refl _ _).alloc (Nat.le_refl _) _)).call hb)
  have B2 := Lib.hid (fun m w0 (hm : m ≤ p) (h0 : Below m w0 w) => (show Below m w0 w2 from (h0.trans (((Below.refl w.heap.size w).alloc (Nat.le_refl _) _).mono (by omega))).trans (hb.mono (by simp [go_sem]; omega))))
  clear hb H HT
  rcases k3' with rfl | rfl | rfl
  all_goals
    go_wp2_with fail
    refine (adv46x p s r n f i _ (P2.out.call ((Below.refl _ _).alloc (Nat.le_refl _) _)) hi).mono ?_
    rintro e w3 ⟨rfl, hm⟩
    have P3 := Lib.hid (hm.psr (P2.out.call ((Below.refl _ _).alloc (Nat.le_refl _) _)))
    have B3 := Lib.hid (fun m w0 (hm' : m ≤ p) (h0 : Below m w0 w) => (hm.below hm' ((B2.out m w0 hm' h0).alloc (by omega) _)))
    have x0 : w3.cell? ⟨w2.heap.size, 0, none⟩ = some (.int .i32 ts) := by rw [hm.cell _ _ (by omega)]; simp [go_sem]
    have y0' : w3.cell? ⟨w.heap.size, 0, none⟩ = some (.int .i32 0) := by rw [hm.cell _ _ (by omega), World.cell?_alloc_lt _ _ _ hz]; exact y0
    have y1' : w3.cell? ⟨w.heap.size, 1, none⟩ = some (.int .u8 0) := by rw [hm.cell _ _ (by omega), World.cell?_alloc_lt _ _ _ hz]; exact y1
    have z0' : ∀ o, w3.frozen? ⟨w.heap.size, o, none⟩ = false := by
      intro o
      rw [hm.frozen]
      simp [go_sem, z0, hz]
    have hrne : w.heap.size ≠ r := by omega
    clear hm y0 y1 z0 P2 B2
    go_wp2_with fail
    refine bodyPost_ret (v := .agg #[.int .i32 ts, .int .u8 _]) (by simp [results, Try.results36, go_sem, y0', y1']; rfl) rfl ⟨rfl, ?_, fun m w0 hm h0 => ?_⟩
    · exact (P3.out.set _ _ _ (by omega) hrne).set _ _ _ (by omega) hrne
    · exact ((B3.out m w0 hm h0).setCell (by show m ≤ w.heap.size; omega) _).setCell (by show m ≤ w.heap.size; omega) _
end Go.Proofs.Ytnlohfbmknedhaa
