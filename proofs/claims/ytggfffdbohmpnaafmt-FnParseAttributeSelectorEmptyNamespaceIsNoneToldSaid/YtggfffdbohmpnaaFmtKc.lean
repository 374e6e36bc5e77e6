/-
  expect; the state of parseAttributeSelector: the parser, the attribute under way, the tokens ahead. Conditions: sizes at most 1 MiB.
-/
import Derived.Test.YtggfffdbohmpnaaFmtKb
namespace Go.Proofs.YtggfffdbohmpnaaFmt
set_option linter.unusedVariables false
open Go.ChangeShapes Go.WideShapes Go.ChangeAt Go.RowKit Go.Lib

set_option maxRecDepth 20000 in
set_option maxHeartbeats 2000000 in
theorem exl28 (p : Nat) (s : ByteArray) (r n : Nat) (f : Nat → Tk) (i : Nat) (k m : Int) (w : World) (h : Psr w p s r n f i) (hi : i < n) (hk : k = (cur s n f i).k) :
    Calls Tryf.prog 28 #[.pointer (some ⟨p, 0, none⟩), .int .u8 k, .agg #[.int .i32 m]] w fun e w' => e = .returned (.bool true) ∧ Go1 w p s r n f ((i + 1 : Nat) : Int) w' := by
  have HA := hid (Go1.of h ((Below.refl w.heap.size w).alloc (Nat.le_refl _) (.cells #[.int .i32 m] 42)))
  have HK := hid hk
  clear h hk
  go_enter Tryf.func28, Tryf.ntmps28
  go_wp2_with fail
  refine (eat25_yes p s r n f i k _ HA.out.psr hi HK.out).mono ?_
  rintro e w2 ⟨rfl, hg⟩
  have HG := hid (HA.out.trans hg)
  clear hg HK
  go_wp2
  go_ret
  exact ⟨rfl, HG.out⟩

set_option maxRecDepth 20000 in
set_option maxHeartbeats 2000000 in
theorem exp23 (p : Nat) (s : ByteArray) (r n : Nat) (f : Nat → Tk) (i : Nat) (k : Int) (w : World) (h : Psr w p s r n f i) (hi : i < n) (hk : k = (cur s n f i).k) :
    Calls Tryf.prog 23 #[.pointer (some ⟨p, 0, none⟩), .int .u8 k] w fun e w' => e = .returned (.bool true) ∧ Go1 w p s r n f ((i + 1 : Nat) : Int) w' := by
  have H := hid h
  have HK := hid hk
  clear h hk
  go_enter Tryf.func23, Tryf.ntmps23
  go_wp2_with fail
  refine (exl28 p s r n f i k _ _ H.out hi HK.out).mono ?_
  rintro e w2 ⟨rfl, hg⟩
  have HG := hid hg
  clear hg HK
  go_wp2
  go_ret
  exact ⟨rfl, HG.out⟩

/-- from place i, offset a on: the tokens L, and no more -/
def Sfx (s : ByteArray) (n : Nat) (f : Nat → Tk) : Nat → Nat → List (Int × ByteArray) → Prop
  | i, a, [] => i = n ∧ a = s.size
  | i, a, (k, t) :: L => i < n ∧ TK s n f i k t a ∧ Sfx s n f (i + 1) (a + t.size) L
theorem Sfx.len {s : ByteArray} {n : Nat} {f : Nat → Tk} : ∀ {L : List (Int × ByteArray)} {i a : Nat}, Sfx s n f i a L → i + L.length = n ∧ a ≤ s.size
  | [], i, a, h => ⟨h.1, by rw [h.2]; exact Nat.le_refl _⟩
  | (k, t) :: L, i, a, h => by
    obtain ⟨h1, h2, h3⟩ := h
    have := h3.len
    simp only [List.length_cons]
    omega

/-- the base world, and the world at the call's start -/
structure W2 where
  a : World
  s : World

/-- parseAttributeSelector under way: parser p at place i; attribute block A (cells c), range block R, place block M -/
structure PS (w00 : W2) (B0 p : Nat) (s : ByteArray) (r n : Nat) (f : Nat → Tk) (A R M : Nat) (m0 : Int) (i : Nat) (c : Nat → Value) (pre : Option Nat) (pt : ByteArray) (w : World) : Prop where
  psr : Psr w p s r n f i
  bl : Below B0 w00.a w
  b0 : B0 ≤ p ∧ B0 ≤ A
  ord : p < A ∧ r < A ∧ A < R ∧ R < M ∧ M < w.heap.size
  at_ : ∀ o, o < 8 → w.cell? ⟨A, o, none⟩ = some (c o)
  z : ∀ o, w.frozen? ⟨A, o, none⟩ = false
  r_ : ∀ o, o < 2 → ∃ v, w.cell? ⟨R, o, none⟩ = some v
  zr : ∀ o, w.frozen? ⟨R, o, none⟩ = false
  m_ : w.cell? ⟨M, 0, none⟩ = some (.int .i32 m0)
  pre_ : ∀ q, pre = some q → M < q ∧ q < w.heap.size ∧ w.cell? ⟨q, 0, none⟩ = some (.string pt)
  kp : ∀ b o, b < A → b ≠ p → w.cell? ⟨b, o, none⟩ = w00.s.cell? ⟨b, o, none⟩
  kf : ∀ b o, b < A → b ≠ p → w.frozen? ⟨b, o, none⟩ = w00.s.frozen? ⟨b, o, none⟩

def upd (c : Nat → Value) (o : Nat) (v : Value) : Nat → Value := fun q => if q = o then v else c q
section
variable {w00 : W2} {B0 p : Nat} {s : ByteArray} {r n : Nat} {f : Nat → Tk} {A R M : Nat} {m0 : Int} {i : Nat} {c : Nat → Value} {pre : Option Nat} {pt : ByteArray} {w w' : World}
theorem PS.go {j : Nat} (h : PS w00 B0 p s r n f A R M m0 i c pre pt w) (g : Go1 w p s r n f (j : Nat) w') : PS w00 B0 p s r n f A R M m0 j c pre pt w' := by
  obtain ⟨h1, h2, h3, h4, h5, h6, h7, h8, h9, h10, h11, h12⟩ := h
  have hsz := g.size
  refine ⟨g.psr, g.kept _ _ h3.1 h2, h3, by omega, fun o ho => ?_, fun o => ?_, fun o ho => ?_, fun o => ?_, ?_, fun q hq => ?_, fun b o hb hne => by rw [g.cell b o (by omega) hne]; exact h11 b o hb hne, fun b o hb hne => by rw [g.froz b o (by omega) hne]; exact h12 b o hb hne⟩
  · rw [g.cell A o (by omega) (by omega)]; exact h5 o ho
  · rw [g.froz A o (by omega) (by omega)]; exact h6 o
  · rw [g.cell R o (by omega) (by omega)]; exact h7 o ho
  · rw [g.froz R o (by omega) (by omega)]; exact h8 o
  · rw [g.cell M 0 (by omega) (by omega)]; exact h9
  · obtain ⟨a1, a2, a3⟩ := h10 q hq
    exact ⟨a1, by omega, by rw [g.cell q 0 (by omega) (by omega)]; exact a3⟩
theorem PS.call (h : PS w00 B0 p s r n f A R M m0 i c pre pt w) (hb : Below w.heap.size w w') : PS w00 B0 p s r n f A R M m0 i c pre pt w' := h.go (Go1.of h.psr hb)
theorem PS.put (h : PS w00 B0 p s r n f A R M m0 i c pre pt w) (o : Nat) (v : Value) : PS w00 B0 p s r n f A R M m0 i (upd c o v) pre pt (w.setCell ⟨A, o, none⟩ v) := by
  obtain ⟨h1, h2, h3, h4, h5, h6, h7, h8, h9, h10, h11, h12⟩ := h
  refine ⟨h1.put _ _ _ (by omega) (by omega), h2.setCell h3.2 _, h3, by simpa [go_sem] using h4, fun q hq => ?_, fun q => ?_, fun q hq => ?_, fun q => ?_, ?_, fun q hq => ?_, fun b q hb hne => by rw [World.cell?_setCell_other _ _ _ _ (by simp <;> omega)]; exact h11 b q hb hne, fun b q hb hne => by rw [World.frozen?_setCell]; exact h12 b q hb hne⟩
  · by_cases e : q = o
    · subst e
      simp only [upd, if_true]
      exact World.cell?_setCell_same _ _ _ (h5 q hq)
    · rw [World.cell?_setCell_other _ _ _ _ (by simp <;> omega)]
      simp only [upd, if_neg e]
      exact h5 q hq
  · rw [World.frozen?_setCell]; exact h6 q
  · rw [World.cell?_setCell_other _ _ _ _ (by simp <;> omega)]; exact h7 q hq
  · rw [World.frozen?_setCell]; exact h8 q
  · rw [World.cell?_setCell_other _ _ _ _ (by simp <;> omega)]; exact h9
  · obtain ⟨a1, a2, a3⟩ := h10 q hq
    exact ⟨a1, by simpa [go_sem] using a2, by rw [World.cell?_setCell_other _ _ _ _ (by simp <;> omega)]; exact a3⟩
/-- the name token is laid into the attribute's cells 3 to 6 -/
theorem PS.name (h : PS w00 B0 p s r n f A R M m0 i c pre pt w) (v0 v1 v2 v3 : Value) : PS w00 B0 p s r n f A R M m0 i (upd (upd (upd (upd c 3 v0) 4 v1) 5 v2) 6 v3) pre pt ((((w.setCell ⟨A, 3, none⟩ v0).setCell ⟨A, 4, none⟩ v1).setCell ⟨A, 5, none⟩ v2).setCell ⟨A, 6, none⟩ v3) :=
  (((h.put 3 v0).put 4 v1).put 5 v2).put 6 v3
/-- a new block that holds the prefix -/
theorem PS.newpre (h : PS w00 B0 p s r n f A R M m0 i c none pt w) (t : ByteArray) (x y k : Value) : PS w00 B0 p s r n f A R M m0 i c (some w.heap.size) t (w.alloc (.cells #[.string t, x, y, k] 92)) := by
  have hc := h.call ((Below.refl w.heap.size w).alloc (Nat.le_refl _) (.cells #[.string t, x, y, k] 92))
  obtain ⟨h1, h2, h3, h4, h5, h6, h7, h8, h9, h10, h11, h12⟩ := hc
  exact ⟨h1, h2, h3, h4, h5, h6, h7, h8, h9, fun q hq => by cases hq; exact ⟨h.ord.2.2.2.2, by simp [go_sem], by simp [go_sem]⟩, h11, h12⟩
end

/-- .. with the tokens L ahead; operator, value, modifier, name as told -/
structure Q (w00 : W2) (B0 p : Nat) (s : ByteArray) (r n : Nat) (f : Nat → Tk) (A R M : Nat) (m0 : Int) (hp : Bool) (pt nm : ByteArray) (L : List (Int × ByteArray)) (op val : ByteArray) (md : Int) (w : World) : Prop where
  ex : ∃ i a c pre, PS w00 B0 p s r n f A R M m0 i c pre pt w ∧ Sfx s n f i a L ∧ pre.isSome = hp ∧ c 0 = .string op ∧ c 1 = .string val ∧ c 2 = .pointer (pre.map fun q => ⟨q, 0, none⟩) ∧ c 3 = .string nm ∧ c 7 = .int .u8 md ∧ (∃ x y k, c 4 = .int .i32 x ∧ c 5 = .int .i32 y ∧ c 6 = .int .u8 k)
end Go.Proofs.YtggfffdbohmpnaaFmt
