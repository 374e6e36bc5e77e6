/-
  A row of rules put behind another. Conditions: each theorem's own.
-/
import Derived.Test.YtjebnjjhdefejaaGreatFmtLo
namespace Go.Proofs.YtjebnjjhdefejaaGreatFmt
open Go.RowKit Go.Lib Go.ChangeMaps
/-- one row of rules put behind another -/
theorem app_two {w : World} {v : Value} {n k c : Nat} {a : Option Addr} (hv : OwnRu w v n) (hs : OwnRu w (.slice a k c) k) (hn : n + k ≤ 2000000) :
    ∃ v' w', (Builtin.append_ #[43, 43] 43 #[v, .slice a k c]).run Tryz.prog w = .ok v' w' ∧ OwnRu w' v' (n + k) ∧ w.grownBy w' v.ownBlock ∧ (v'.ownBlock = v.ownBlock ∨ ∃ g, v'.ownBlock = some g ∧ w.heap.size ≤ g) := by
  obtain ⟨xs, ho, h1⟩ := hv
  obtain ⟨ys, hq, h2⟩ := hs
  obtain ⟨hl, hc⟩ := hq
  rcases hc with ⟨e, h0⟩ | ⟨g, cap, cur, e, hb, hh, hc, hm, hsz, htk⟩
  · injection e with ea ek ec
    subst ea
    subst h0
    subst ec
    obtain ⟨a1, c1, rfl, hc1⟩ := own_shape ho
    exact ⟨_, w, app_none 43 39 _ 2 24 Tryz.underlying43 info_RULE a1 n c1 hc1 w, ⟨xs, ho, h1⟩, ⟨rfl, rfl, rfl, Nat.le_refl _, fun _ _ _ => rfl⟩, Or.inl rfl⟩
  · injection e with ea ek ec
    subst ea
    subst ec
    obtain ⟨v', w', q1, q2, q3, q4⟩ := own_app 43 39 _ 2 24 Tryz.underlying43 info_RULE rfl (by decide) (by decide) w v n xs ho ⟨g, 0, none⟩ k c ys hl (fun j u hj => by
      have hj' : j < ys.length := (List.getElem?_eq_some_iff.1 hj).1
      rw [add0]
      refine (hcell hh j u ?_).1
      rw [← htk, List.getElem?_take, if_pos (by omega), Array.getElem?_toList] at hj
      exact hj) h2 hn
    refine ⟨v', w', q1, ⟨_, q2, fun u hu => ?_⟩, q3, q4.imp id fun h => ⟨_, h, Nat.le_refl _⟩⟩
    rcases List.mem_append.1 hu with hu | hu
    · exact h1 u hu
    · exact h2 u hu
end Go.Proofs.YtjebnjjhdefejaaGreatFmt
