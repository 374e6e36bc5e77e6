/-
  The decoded text of a plain token, the name token, next. Conditions: no escapes in the text; sizes at most 1 MiB.
-/
import Derived.Test.YtggfffdbohmpnaaFmtKa
import Derived.Deep.CutBlock
import Derived.Deep.DeepCutAuto
namespace Go.Proofs.YtggfffdbohmpnaaFmt
set_option linter.unusedVariables false
open Go.ChangeShapes Go.WideShapes Go.ChangeAt Go.RowKit Go.Lib

theorem neb {a b : Int} (h : a ≠ b) : (a == b) = false := beq_eq_false_iff_ne.2 h
/-- no backslash and no nul before place i -/
structure Cln (s : ByteArray) (i : Nat) : Prop where
  le : i ≤ s.size
  before : ∀ j, j < i → ∀ h : j < s.size, s[j].toNat ≠ 92 ∧ s[j].toNat ≠ 0
theorem Cln.next {s : ByteArray} {i : Nat} (h : Cln s i) (hi : i < s.size) (h1 : s[i].toNat ≠ 92) (h2 : s[i].toNat ≠ 0) : Cln s (i + 1) := by
  refine ⟨by omega, fun j hj hs => ?_⟩
  by_cases e : j = i
  · subst e; exact ⟨h1, h2⟩
  · exact h.before j (by omega) hs

set_option maxRecDepth 20000 in
set_option maxHeartbeats 2000000 in
theorem esc41 (s : ByteArray) (w : World) (hC : Cln s s.size) (hs : s.size ≤ 1048576) :
    Calls Tryf.prog 41 #[.string s] w fun e w' => e = .returned (.string s) ∧ w' = w := by
  have HC := hid hC
  clear hC
  go_enter Tryf.func41, Tryf.ntmps41
  go_wp2_with fail
  go_loopw [3] (fun v wr => wr = w ∧ ∃ i : Nat, i ≤ s.size ∧ v = .int .i64 (i : Nat)) (fun v _ => s.size - (intOf v).toNat)
  case atStart => exact ⟨by first | rfl | trivial, 0, by omega, rfl⟩
  case round =>
    obtain ⟨rfl, i, hle, rfl⟩ := hrel
    by_cases hlt : i < s.size
    · obtain ⟨n1, n2⟩ := HC.out.before i hlt hlt
      have e1 : ((s[i].toNat : Int) == 92) = false := neb (by omega)
      have e2 : ((s[i].toNat : Int) == 0) = false := neb (by omega)
      go_wp2_with fail
      exact ⟨⟨trivial, i + 1, by omega, by simp⟩, by simp [intOf]; omega⟩
    · obtain rfl : i = s.size := by omega
      go_wp2_with fail
      go_ret
      exact ⟨rfl, rfl⟩

/-- t is the plain text of a token of kind K whose raw text is raw -/
def DT (K : Int) (raw t : ByteArray) : Prop := (K = 29 ∧ t = raw ∧ Cln raw raw.size) ∨ (K = 36 ∧ 2 ≤ raw.size ∧ t = raw.extract 1 (raw.size - 1) ∧ Cln t t.size) ∨ (K = 13 ∧ t = raw)

abbrev TX (N B : Nat) (a b : Nat) (K : Int) (w0 w' : World) : Prop :=
  w'.cell? ⟨N, 0, none⟩ = some (.int .i32 a) ∧ w'.cell? ⟨N, 1, none⟩ = some (.int .i32 b) ∧ w'.cell? ⟨N, 3, none⟩ = some (.int .u8 K) ∧ Gr B N w0 w'
theorem TX.call {N B : Nat} {a b : Nat} {K : Int} {w0 w w' : World} (hB : B ≤ N) (h : TX N B a b K w0 w) (hb : Below w.heap.size w w') : TX N B a b K w0 w' := by
  obtain ⟨h1, h2, h3, h4⟩ := h
  have hs := h4.size
  have hz := hb.size
  refine ⟨?_, ?_, ?_, ⟨by omega, h4.below.trans (hb.mono (by omega))⟩⟩
  · rw [hb.cell (p := ⟨N, 0, none⟩) hs]; exact h1
  · rw [hb.cell (p := ⟨N, 1, none⟩) hs]; exact h2
  · rw [hb.cell (p := ⟨N, 3, none⟩) hs]; exact h3

set_option maxRecDepth 20000 in
set_option maxHeartbeats 2000000 in
theorem text35 (s raw t : ByteArray) (a b : Nat) (K : Int) (w : World) (hs : s.size ≤ 1048576) (hab : a + b ≤ s.size) (hraw : s.extract a (a + b) = raw) (hK : DT K raw t) :
    Calls Tryf.prog 35 #[.agg #[.int .i32 a, .int .i32 b, .int .u16 0, .int .u8 K, .int .u8 0], .string s] w fun e w' => e = .returned (.string t) ∧ Below w.heap.size w w' := by
  have hrs : raw.size = b := by rw [← hraw]; simp; omega
  have hrle : raw.size ≤ 1048576 := by omega
  have fr : s.extract a ((a : Int) + (b : Int)).toNat = raw := by rw [← hraw]; congr 1
  have HFR := hid fr
  have HK := hid hK
  clear hrs hraw fr hK
  have g0 : (0 : Int) ≤ (a : Int) := by omega
  have g1 : (a : Int) ≤ (a : Int) + (b : Int) := by omega
  have g2 : (a : Int) + (b : Int) ≤ (s.size : Int) := by omega
  go_enter Tryf.func35, Tryf.ntmps35
  go_wp2_with fail
  have hst : TX w.heap.size w.heap.size a b K w (w.alloc (.cells #[.int .i32 a, .int .i32 b, .int .u16 0, .int .u8 K, .int .u8 0] 48)).drew := by
    refine ⟨by simp [go_sem], by simp [go_sem], by simp [go_sem], ⟨by simp [go_sem], ((Below.refl _ _).alloc (Nat.le_refl _) _).drew⟩⟩
  have HS := hid hst
  clear hst
  go_region_held3 (fun w' => w'.cell? ⟨w.heap.size, 0, none⟩ = some (.int .i32 a) ∧ w'.cell? ⟨w.heap.size, 1, none⟩ = some (.int .i32 b) ∧ w'.cell? ⟨w.heap.size, 3, none⟩ = some (.int .u8 K) ∧ Gr w.heap.size w.heap.size w w')
    (first | with_reducible exact HS.out | with_reducible exact TX.call (Nat.le_refl _) (by assumption) hb)
    (first | (go_at_call 29; refine (end29 a b _ (by omega)).mono ?_; rintro e w1 ⟨rfl, hb⟩))
  rename_i hH
  obtain ⟨q0, q1, q3, hG⟩ := hH
  have HG := hid hG.below
  rw [HFR.out]
  clear hG q0 q1 HS hb HFR
  rcases HK.out with ⟨rfl, rfl, hc⟩ | ⟨rfl, h2, rfl, hc⟩ | ⟨rfl, rfl⟩
  · have c41 := hid (esc41 t w1 hc hrle)
    clear hc HK
    go_wp2_with fail
    refine c41.out.mono ?_
    rintro e w2 ⟨rfl, hw⟩
    obtain rfl := hw.symm
    go_wp2_with fail
    go_ret
    exact ⟨rfl, HG.out⟩
  · have c41 := hid (esc41 _ w1 hc (by simp; omega))
    clear hc HK
    go_wp2_with fail
    refine c41.out.mono ?_
    rintro e w2 ⟨rfl, hw⟩
    obtain rfl := hw.symm
    go_wp2_with fail
    go_ret
    exact ⟨rfl, HG.out⟩
  · clear HK
    go_wp2_with fail
    go_ret
    exact ⟨rfl, HG.out⟩

structure KP (p : Nat) (s : ByteArray) (r n : Nat) (f : Nat → Tk) (i : Nat) (w0 w : World) : Prop where
  psr : Psr w p s r n f i
  bl : Below w0.heap.size w0 w
abbrev DS (p : Nat) (s : ByteArray) (r n : Nat) (f : Nat → Tk) (i : Nat) (w0 w : World) : Prop := w.cell? ⟨p, 9, none⟩ = some (.string s) ∧ KP p s r n f i w0 w
theorem DS.call {p : Nat} {s : ByteArray} {r n : Nat} {f : Nat → Tk} {i : Nat} {w0 w w' : World} (h : DS p s r n f i w0 w) (hb : Below w.heap.size w w') : DS p s r n f i w0 w' := by
  obtain ⟨_, h1, h2⟩ := h
  have hp := h1.call hb
  exact ⟨hp.c9, hp, h2.trans (hb.mono h2.size)⟩

/-- at place i: a token of kind k, raw text t, at offset a -/
structure TK (s : ByteArray) (n : Nat) (f : Nat → Tk) (i : Nat) (k : Int) (t : ByteArray) (a : Nat) : Prop where
  st : (cur s n f i).s = a
  ln : (cur s n f i).l = t.size
  kd : (cur s n f i).k = k
  le : a + t.size ≤ s.size
  raw : s.extract a (a + t.size) = t

set_option maxRecDepth 20000 in
set_option maxHeartbeats 2000000 in
theorem dec27 (p : Nat) (s raw t : ByteArray) (r n : Nat) (f : Nat → Tk) (i a : Nat) (K : Int) (w : World) (h : Psr w p s r n f i) (hi : i ≤ n) (hk : TK s n f i K raw a) (hK : DT K raw t) :
    Calls Tryf.prog 27 #[.pointer (some ⟨p, 0, none⟩)] w fun e w' => e = .returned (.string t) ∧ Below w.heap.size w w' := by
  obtain ⟨hs, hn⟩ := h.small
  have hlt := h.lt
  have q9 := h.c9
  obtain ⟨ha, hb0, hk0, hab, hraw⟩ := hk
  have HS := hid (⟨h.c9, h, Below.refl _ _⟩ : DS p s r n f i w w)
  have HK := hid hK
  have HR := hid hraw
  clear h hK hraw
  go_enter Tryf.func27, Tryf.ntmps27
  go_wp2_with fail
  go_region_held3 (fun w' => w'.cell? ⟨p, 9, none⟩ = some (.string s) ∧ KP p s r n f i w w')
    (first | with_reducible exact HS.out | with_reducible exact DS.call HS.out (Below.refl _ _).drew | with_reducible exact DS.call (show DS p s r n f i w _ by assumption) hb)
    (first | (go_at_call 19; refine (cur19 p s r n f i _ (KP.psr (And.right (show DS p s r n f i w _ by assumption))) hi).mono ?_; rw [ha, hb0, hk0]; rintro e w1 ⟨rfl, hb⟩) | (go_at_call 35; refine (text35 s raw t a raw.size K _ hs hab HR.out HK.out).mono ?_; rintro e w1 ⟨rfl, hb⟩))
  rename_i hH
  have HB := hid hH.2.bl
  clear hH hb
  go_wp2
  go_ret
  exact ⟨rfl, HB.out⟩

/-- the name token under way: result block R, token block N -/
structure NQ (p : Nat) (s : ByteArray) (r n : Nat) (f : Nat → Tk) (i : Nat) (N R : Nat) (w0 w : World) : Prop where
  kp : KP p s r n f i w0 w
  nlt : N < w.heap.size
  rlt : R < w.heap.size
  ne : R ≠ N
  rb : w0.heap.size ≤ R
  pR : p < w0.heap.size ∧ r < w0.heap.size
  c : ∀ o, o < 4 → ∃ v, w.cell? ⟨R, o, none⟩ = some v
  z : ∀ o, w.frozen? ⟨R, o, none⟩ = false
abbrev NS (p : Nat) (s : ByteArray) (r n : Nat) (f : Nat → Tk) (i : Nat) (N R : Nat) (a b : Nat) (K : Int) (w0 w' : World) : Prop :=
  w'.cell? ⟨N, 0, none⟩ = some (.int .i32 a) ∧ w'.cell? ⟨N, 1, none⟩ = some (.int .i32 b) ∧ w'.cell? ⟨N, 3, none⟩ = some (.int .u8 K) ∧ NQ p s r n f i N R w0 w'
section
variable {p r n i N R a b : Nat} {s : ByteArray} {f : Nat → Tk} {K : Int} {w0 w w' : World}
theorem NQ.holds (h : NQ p s r n f i N R w0 w) (o : Nat) (ho : o < 4) : w.cell? ⟨R, o, none⟩ = some (cellAt w ⟨R, o, none⟩) := by
  obtain ⟨v, hv⟩ := h.c o ho
  rw [cellAt, hv]; rfl
theorem NS.call (h : NS p s r n f i N R a b K w0 w) (hb : Below w.heap.size w w') : NS p s r n f i N R a b K w0 w' := by
  obtain ⟨h1, h2, h3, h4⟩ := h
  have hs := h4.nlt
  have hr := h4.rlt
  have hz := hb.size
  refine ⟨?_, ?_, ?_, ⟨⟨h4.kp.psr.call hb, h4.kp.bl.trans (hb.mono h4.kp.bl.size)⟩, by omega, by omega, h4.ne, h4.rb, h4.pR, fun o ho => ?_, fun o => ?_⟩⟩
  · rw [hb.cell (p := ⟨N, 0, none⟩) hs]; exact h1
  · rw [hb.cell (p := ⟨N, 1, none⟩) hs]; exact h2
  · rw [hb.cell (p := ⟨N, 3, none⟩) hs]; exact h3
  · rw [hb.cell (p := ⟨R, o, none⟩) hr]; exact h4.c o ho
  · rw [hb.frozen (p := ⟨R, o, none⟩) hr]; exact h4.z o
theorem Psr.put (h : Psr w p s r n f i) (B o : Nat) (v : Value) (hB : B ≠ p) (hB2 : B ≠ r) : Psr (w.setCell ⟨B, o, none⟩ v) p s r n f i := by
  refine ⟨by simpa [go_sem] using h.lt, by simpa [go_sem] using h.rlt, h.ne, h.small, ?_, ?_, ?_, ?_, fun q o hq ho => ?_⟩
  · rw [World.cell?_setCell_other _ _ _ _ (by simp <;> omega)]; exact h.c9
  · rw [World.cell?_setCell_other _ _ _ _ (by simp <;> omega)]; exact h.c16
  · rw [World.cell?_setCell_other _ _ _ _ (by simp <;> omega)]; exact h.c42
  · rw [World.frozen?_setCell]; exact h.z42
  · rw [World.cell?_setCell_other _ _ _ _ (by simp <;> omega)]; exact h.t q o hq ho
theorem NS.put (h : NS p s r n f i N R a b K w0 w) (o : Nat) (v : Value) : NS p s r n f i N R a b K w0 (w.setCell ⟨R, o, none⟩ v) := by
  obtain ⟨h1, h2, h3, h4⟩ := h
  obtain ⟨hp, hr⟩ := h4.pR
  have hrb := h4.rb
  have hne := h4.ne
  refine ⟨?_, ?_, ?_, ⟨⟨h4.kp.psr.put _ _ _ (by omega) (by omega), h4.kp.bl.setCell h4.rb _⟩, by simpa [go_sem] using h4.nlt, by simpa [go_sem] using h4.rlt, h4.ne, h4.rb, h4.pR, fun q hq => ?_, fun q => ?_⟩⟩
  · rw [World.cell?_setCell_other _ _ _ _ (by simp <;> omega)]; exact h1
  · rw [World.cell?_setCell_other _ _ _ _ (by simp <;> omega)]; exact h2
  · rw [World.cell?_setCell_other _ _ _ _ (by simp <;> omega)]; exact h3
  · by_cases e : q = o
    · subst e
      obtain ⟨u, hu⟩ := h4.c q hq
      exact ⟨v, World.cell?_setCell_same _ _ _ hu⟩
    · rw [World.cell?_setCell_other _ _ _ _ (by simp <;> omega)]; exact h4.c q hq
  · rw [World.frozen?_setCell]; exact h4.z q
abbrev put4 (r : Nat) (v0 v1 v2 v3 : Value) (w : World) : World := (((w.setCell ⟨r, 0, none⟩ v0).setCell ⟨r, 1, none⟩ v1).setCell ⟨r, 2, none⟩ v2).setCell ⟨r, 3, none⟩ v3
theorem NS.put4 (h : NS p s r n f i N R a b K w0 w) (v0 v1 v2 v3 : Value) : NS p s r n f i N R a b K w0 (put4 R v0 v1 v2 v3 w) :=
  (((h.put 0 v0).put 1 v1).put 2 v2).put 3 v3
end

set_option maxRecDepth 20000 in
set_option maxHeartbeats 2000000 in
theorem name22 (p : Nat) (s raw t : ByteArray) (r n : Nat) (f : Nat → Tk) (i a : Nat) (K : Int) (w : World) (h : Psr w p s r n f i) (hi : i ≤ n) (hk : TK s n f i K raw a) (hK : DT K raw t) :
    Calls Tryf.prog 22 #[.pointer (some ⟨p, 0, none⟩)] w fun e w' => e = .returned (.agg #[.string t, .int .i32 a, .int .i32 raw.size, .int .u8 K]) ∧ Below w.heap.size w w' := by
  obtain ⟨hs, hn⟩ := h.small
  have hlt := h.lt
  have hrl := h.rlt
  have H := hid h
  have HK := hid hK
  have HT := hid hk
  obtain ⟨ha, hb0, hk0, hab, hraw⟩ := hk
  clear h hK hraw
  go_enter Tryf.func22, Tryf.ntmps22
  go_wp2_with fail
  refine (cur19 p s r n f i _ (H.out.call ((Below.refl _ _).alloc (Nat.le_refl _) _)) hi).mono ?_
  rw [ha, hb0, hk0]
  rintro e w2 ⟨rfl, hb⟩
  have hz := hb.size
  simp [go_sem] at hz
  have hb2 : Below w.heap.size w w2 := ((Below.refl _ _).alloc (Nat.le_refl _) _).trans (hb.mono (by simp [go_sem]))
  have c0 : ∀ o, o < 4 → ∃ v, w2.cell? ⟨w.heap.size, o, none⟩ = some v := by
    intro o ho
    have e5 : o = 0 ∨ o = 1 ∨ o = 2 ∨ o = 3 := by omega
    rw [hb.cell (p := ⟨w.heap.size, o, none⟩) (by simp [go_sem])]
    rcases e5 with rfl | rfl | rfl | rfl <;> exact ⟨_, by simp [go_sem]; rfl⟩
  have z0 : ∀ o, w2.frozen? ⟨w.heap.size, o, none⟩ = false := by
    intro o
    rw [hb.frozen (p := ⟨w.heap.size, o, none⟩) (by simp [go_sem])]
    simp [go_sem]
  have hst : NS p s r n f i w2.heap.size w.heap.size a raw.size K w (w2.alloc (.cells #[.int .i32 a, .int .i32 raw.size, .int .u16 0, .int .u8 K, .int .u8 0] 48)).drew := by
    have hal : Below w2.heap.size w2 (w2.alloc (.cells #[.int .i32 a, .int .i32 raw.size, .int .u16 0, .int .u8 K, .int .u8 0] 48)).drew := ((Below.refl _ _).alloc (Nat.le_refl _) _).drew
    refine ⟨by simp [go_sem], by simp [go_sem], by simp [go_sem], ⟨⟨(H.out.call hb2).call hal, hb2.trans (hal.mono hb2.size)⟩, by simp [go_sem], by simp [go_sem]; omega, by omega, Nat.le_refl _, ⟨hlt, hrl⟩, fun o ho => ?_, fun o => ?_⟩⟩
    · rw [hal.cell (p := ⟨w.heap.size, o, none⟩) (by show w.heap.size < _; omega)]; exact c0 o ho
    · rw [hal.frozen (p := ⟨w.heap.size, o, none⟩) (by show w.heap.size < _; omega)]; exact z0 o
  have HS := hid hst
  clear hst hb hb2 c0 z0 ha hb0 hk0 H
  go_wp2_with fail
  have s0 : ∀ w' : World, NQ p s r n f i w2.heap.size w.heap.size w w' → w'.cell? ⟨w.heap.size, 0, none⟩ = some (cellAt w' ⟨w.heap.size, 0, none⟩) := fun w' h => h.holds _ (by omega)
  have s1 : ∀ w' : World, NQ p s r n f i w2.heap.size w.heap.size w w' → w'.cell? ⟨w.heap.size, 1, none⟩ = some (cellAt w' ⟨w.heap.size, 1, none⟩) := fun w' h => h.holds _ (by omega)
  have s2 : ∀ w' : World, NQ p s r n f i w2.heap.size w.heap.size w w' → w'.cell? ⟨w.heap.size, 2, none⟩ = some (cellAt w' ⟨w.heap.size, 2, none⟩) := fun w' h => h.holds _ (by omega)
  have s3 : ∀ w' : World, NQ p s r n f i w2.heap.size w.heap.size w w' → w'.cell? ⟨w.heap.size, 3, none⟩ = some (cellAt w' ⟨w.heap.size, 3, none⟩) := fun w' h => h.holds _ (by omega)
  have sz : ∀ (w' : World) (o : Nat), NQ p s r n f i w2.heap.size w.heap.size w w' → w'.frozen? ⟨w.heap.size, o, none⟩ = false := fun w' o h => h.z o
  go_region_held3 (fun w' => w'.cell? ⟨w2.heap.size, 0, none⟩ = some (.int .i32 a) ∧ w'.cell? ⟨w2.heap.size, 1, none⟩ = some (.int .i32 raw.size) ∧ w'.cell? ⟨w2.heap.size, 3, none⟩ = some (.int .u8 K) ∧ NQ p s r n f i w2.heap.size w.heap.size w w')
    (first | with_reducible exact HS.out | with_reducible exact NS.call HS.out (Below.refl _ _).drew | with_reducible exact NS.call (by assumption) hb | with_reducible exact NS.put4 (by assumption) _ _ _ _)
    (first | (go_at_call 27; refine (dec27 p s raw t r n f i a K _ (by have hx := ‹_ ∧ _ ∧ _ ∧ NQ p s r n f i w2.heap.size w.heap.size w _›; exact hx.2.2.2.kp.psr) hi HT.out HK.out).mono ?_; rintro e w3 ⟨rfl, hb⟩))
  rename_i hH
  have HB := hid hH.2.2.2.kp.bl
  have hw3 := (NS.call HS.out hb).2.2.2
  obtain ⟨v0, y0⟩ := hw3.c 0 (by omega)
  obtain ⟨v1, y1⟩ := hw3.c 1 (by omega)
  obtain ⟨v2, y2⟩ := hw3.c 2 (by omega)
  obtain ⟨v3, y3⟩ := hw3.c 3 (by omega)
  clear hH hb hw3 HS s0 s1 s2 s3 sz
  go_wp2
  refine bodyPost_ret (v := .agg #[.string t, .int .i32 a, .int .i32 raw.size, .int .u8 K]) (by simp [results, Tryf.results22, go_sem, y0, y1, y2, y3]) rfl ⟨rfl, HB.out⟩

set_option maxRecDepth 20000 in
set_option maxHeartbeats 1000000 in
theorem next24 (p : Nat) (s : ByteArray) (r n : Nat) (f : Nat → Tk) (i : Nat) (w : World) (h : Psr w p s r n f i) (hi : i + 1 ≤ n) :
    Calls Tryf.prog 24 #[.pointer (some ⟨p, 0, none⟩)] w fun e w' => e = .returned (.agg #[.int .i32 (cur s n f (i + 1)).s, .int .i32 (cur s n f (i + 1)).l, .int .u16 0, .int .u8 (cur s n f (i + 1)).k, .int .u8 0]) ∧ Below w.heap.size w w' := by
  obtain ⟨hs, hn⟩ := h.small
  have q42 := h.c42
  have hlt := h.lt
  have H := hid h
  clear h
  obtain ⟨tt, ht⟩ : ∃ tt, tt = cur s n f (i + 1) := ⟨_, rfl⟩
  rw [← ht]
  go_enter Tryf.func24, Tryf.ntmps24
  go_wp2_with fail
  rw [show ((i : Int) + 1) = ((i + 1 : Nat) : Int) by omega]
  refine (at30 p s r n f i (i + 1) _ (H.out.call ((Below.refl _ _).alloc (Nat.le_refl _) _)) hi).mono ?_
  rw [← ht]
  rintro e w2 ⟨rfl, hb⟩
  have hb2 : Below w.heap.size w w2 := ((Below.refl _ _).alloc (Nat.le_refl _) _).trans (hb.mono (by simp [go_sem]))
  have c0 : ∀ o, o < 5 → ∃ v, w2.cell? ⟨w.heap.size, o, none⟩ = some v := by
    intro o ho
    have e5 : o = 0 ∨ o = 1 ∨ o = 2 ∨ o = 3 ∨ o = 4 := by omega
    rw [hb.cell (p := ⟨w.heap.size, o, none⟩) (by simp [go_sem])]
    rcases e5 with rfl | rfl | rfl | rfl | rfl <;> exact ⟨_, by simp [go_sem]; rfl⟩
  have z0 : ∀ o, w2.frozen? ⟨w.heap.size, o, none⟩ = false := by
    intro o
    rw [hb.frozen (p := ⟨w.heap.size, o, none⟩) (by simp [go_sem])]
    simp [go_sem]
  obtain ⟨v0, y0⟩ := c0 0 (by omega)
  obtain ⟨v1, y1⟩ := c0 1 (by omega)
  obtain ⟨v2, y2⟩ := c0 2 (by omega)
  obtain ⟨v3, y3⟩ := c0 3 (by omega)
  obtain ⟨v4, y4⟩ := c0 4 (by omega)
  have HB := hid hb2
  clear hb hb2 H c0 q42 ht
  go_wp2
  refine bodyPost_ret (v := .agg #[.int .i32 tt.s, .int .i32 tt.l, .int .u16 0, .int .u8 tt.k, .int .u8 0]) (by simp [results, Tryf.results24, go_sem, y0, y1, y2, y3, y4]) rfl ⟨rfl, ?_⟩
  exact ((((HB.out.setCell (Nat.le_refl _) _).setCell (Nat.le_refl _) _).setCell (Nat.le_refl _) _).setCell (Nat.le_refl _) _).setCell (Nat.le_refl _) _
end Go.Proofs.YtggfffdbohmpnaaFmt
