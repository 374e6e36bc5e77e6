/-
  The hash of selectors, as a function of the model. Conditions: each theorem's own.
-/
import Derived.Test.YtphimfimnakclaaQm
namespace Go.Proofs.Ytphimfimnakclaa
open Go.RowKit Go.Lib
def hKs (hsub : Nat → Int) (x : Int) (m : List Nat) : Int := m.foldl (fun x k => hc x (hsub k)) x
def hCp (hsub : Nat → Int) (x : Int) (m : List Nat) : Int := hc (hKs hsub (hc (hc x 0) (m.length : Nat)) m) 0
def hCx (hsub : Nat → Int) (x : Int) (cx : List (List Nat)) : Int := cx.foldl (hCp hsub) (hc x (cx.length : Nat))
def hRs (hsub : Nat → Int) (x : Int) (r : Rl) : Int := r.foldl (hCx hsub) x
theorem foldl_take {α β : Type} (f : β → α → β) (a : β) (l : List α) (i : Nat) (h : i < l.length) : (l.take (i + 1)).foldl f a = f ((l.take i).foldl f a) l[i] := by
  rw [List.take_succ_eq_append_getElem h, List.foldl_append]
  rfl
/-- a subclass selector's hash hangs on its key alone -/
structure HashOK (S : Elt Nat 3) (hsub : Nat → Int) : Prop where
  h : ∀ {w : World} {P : Nat → Prop} {c : Cells} {key : Nat}, S.E w P c key → c 1 = some (.int .i32 0) ∧ c 2 = some (.int .i32 0) ∧
    ((∃ b, c 0 = some (.iface 107 (.pointer (some ⟨b, 0, none⟩))) ∧ ∀ w', Below w.heap.size w w' → Calls Try.prog 65 #[.pointer (some ⟨b, 0, none⟩)] w' fun e w'' => HsR (hsub key) w' e w'') ∨
     (∃ b, c 0 = some (.iface 98 (.pointer (some ⟨b, 0, none⟩))) ∧ ∀ w', Below w.heap.size w w' → Calls Try.prog 60 #[.pointer (some ⟨b, 0, none⟩)] w' fun e w'' => HsR (hsub key) w' e w''))
theorem hok0 : HashOK SubT0 (fun _ => hP) where
  h := by
    rintro w P c key ⟨rfl, b, e0, e1, e2, hp, hb, hh⟩
    exact ⟨e1, e2, Or.inl ⟨b, e0, fun w' hB => h65 b w' ((hB.block b hb).trans hh)⟩⟩
structure HxL (w : World) (z : Nat → Int) (n : Nat) (g : Nat) (v0 vi : Value) (wx : World) : Prop where
  ex : ∃ i, i + g = n ∧ vi = .int .i64 (i : Nat) ∧ v0 = .int .u32 (z i) ∧ Below w.heap.size w wx
theorem RowL.at' {α : Type} {sz : Nat} {T : Elt α sz} {w : World} {P : Nat → Prop} {a : Option Addr} {n c : Nat} {ms : List α} (h : RowL T w P (.slice a n c) ms) : n = ms.length ∧ ∀ i (hi : i < ms.length), ∃ g, a = some ⟨g, 0, none⟩ ∧ P g ∧ g < w.heap.size ∧ T.E w P (fun t => w.cell? ⟨g, i * sz + t, none⟩) ms[i] := by
  obtain ⟨a', c', e, hx⟩ := h
  injection e with e1 e2 e3
  subst e1
  exact ⟨e2, hx⟩
end Go.Proofs.Ytphimfimnakclaa
