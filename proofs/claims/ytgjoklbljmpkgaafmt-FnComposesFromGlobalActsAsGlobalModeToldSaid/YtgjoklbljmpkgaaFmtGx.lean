/-
  EqualFold answers true where zzFoldEq does. Conditions: each theorem's own.
-/
import Derived.Test.YtgjoklbljmpkgaaFmtGr
import Derived.Test.YtgjoklbljmpkgaaFmtSh
namespace Go.Proofs.YtgjoklbljmpkgaaFmt
open Go.RowKit Go.Lib Go.ChangeMaps
theorem fold_one (x y : UInt8) (h : lEq x.toNat y.toNat) : Lib.foldEq x y = true := by
  unfold Lib.foldEq lEq at *
  exact decide_eq_true (by omega)
theorem equalFold_of : ∀ (s t : List UInt8), s.length = t.length → (∀ j (h : j < s.length) (h2 : j < t.length), lEq s[j].toNat t[j].toNat) → Lib.equalFold s t = true
  | [], [], _, _ => rfl
  | x :: s, y :: t, hl, h => by
    rw [Lib.equalFold_yes _ _ _ _ (fold_one x y (h 0 (by simp) (by simp)))]
    exact equalFold_of s t (by simpa using hl) (fun j h1 h2 => h (j + 1) (by simpa using h1) (by simpa using h2))
  | [], _ :: _, hl, _ => by simp at hl
  | _ :: _, [], hl, _ => by simp at hl
theorem ba_get (l : NM) (j : Nat) (h : j < l.length) : (ba l).get! j = l[j] := by
  rw [Utf8W.get!_of_lt (ba l) j (by rw [ba_size]; exact h)]
  show (ba l).data[j]'(by simpa [ba] using h) = l[j]
  simp [ba]
theorem efYes (s t : NM) (h : Fit (ba s) (ba t)) (ht : ∀ j (h : j < t.length), Good (t[j]).toNat) (hs : s.length ≤ 1048576) (w : World) :
    Calls Tryf.prog 14 #[.string (ba s), .string (ba t)] w fun e w' => e = .returned (.bool true) ∧ w' = w := by
  have hl : s.length = t.length := by have := h.1; rwa [ba_size, ba_size] at this
  have hq : ∀ j (h1 : j < s.length) (h2 : j < t.length), lEq s[j].toNat t[j].toNat := fun j h1 h2 => by
    have := h.2 j (by rw [ba_size]; exact h2)
    rwa [ba_get s j h1, ba_get t j h2] at this
  have e := Tryf.strings_EqualFold (ba s) (ba t) w (by rw [ba_size]; omega) (fun j b hb => by
    rw [ba_list] at hb
    obtain ⟨h1, rfl⟩ := List.getElem?_eq_some_iff.1 hb
    have q1 := hq j h1 (by omega)
    have q2 := ht j (by omega)
    unfold lEq Good at *
    omega) (fun j b hb => by
    rw [ba_list] at hb
    obtain ⟨h1, rfl⟩ := List.getElem?_eq_some_iff.1 hb
    have q2 := ht j h1
    unfold Good at q2
    omega)
  rw [ba_list, ba_list, equalFold_of s t hl hq] at e
  exact e
end Go.Proofs.YtgjoklbljmpkgaaFmt
