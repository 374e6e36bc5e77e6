/-
  The lowering of every tree. Conditions: each theorem's own.
-/
import Derived.Test.YtjebnjjhdefejaaFmtLr
import Derived.Test.YtjebnjjhdefejaaFmtLs
import Derived.Test.YtjebnjjhdefejaaFmtLu
namespace Go.Proofs.YtjebnjjhdefejaaFmt
open Go.RowKit Go.Lib Go.ChangeMaps
theorem pctx_succ (d : Nat) (H : PCtx d) : PCtx (d + 1) := by
  have HR := rem19 d H
  have HL := low34 d HR
  intro t w lo hi v cb pw pn lw n S m pb hT hhi hC hOff hmd hnn
  obtain ⟨loc, kind, kids⟩ := t
  have hcnt : cntT (d + 1) (.mk loc kind kids) = 1 + cntTL d kids := rfl
  rw [hcnt] at hnn ⊢
  rcases hT with ⟨k, k2, b, rfl⟩ | ⟨k, b, s, rs, x, mid, rfl, h1, h2, h3, -, hb, ⟨sb, sc, rfl, h5, h6, u, hs, hu, ua, uc, rfl, huc⟩, hk⟩ | ⟨k, b, rs, arr, mid, rfl, h1, h2, h3, -, hb, ha, ha4, hk⟩
  · refine (ctx26d (.pointer (some ⟨pb, 0, none⟩)) b cb loc w).mono ?_
    rintro e w' ⟨rfl, hb⟩
    exact ⟨lw, n, by rw [show retV (.mk loc kind kids) _ = _ from if_pos k]; rfl, Nat.le_refl _, Nat.le_add_right _ _, hC.below hb, FrM.of hb, Or.inl rfl⟩
  · refine (ctx26s d HL kids w lo mid hi b sb sc loc rs x ua uc cb pw pn lw n S m pb h1 h2 h3 hhi hb h5 h6 hs huc hu hk hC hOff (by omega) (by omega)).mono ?_
    rintro e w' ⟨lw', n', rfl, q1, q2, q3, q4, q5⟩
    exact ⟨lw', n', by rw [show retV (.mk loc kind kids) _ = _ from if_neg (by rw [k]; decide)], q1, q2, q3, q4, q5⟩
  · have hfin : ∀ e w', KatR (cntTL d kids) lo hi cb pw pn lw n S m pb w e w' → CtxR (1 + cntTL d kids) (.mk loc kind kids) lo hi (.iface 135 (.pointer (some ⟨b, 0, none⟩))) cb pw pn lw n S m pb w e w' := by
      rintro e w' ⟨lw', n', rfl, q1, q2, q3, q4, q5⟩
      exact ⟨lw', n', by rw [show retV (.mk loc kind kids) _ = _ from if_neg (by rw [k]; decide)], q1, q2, q3, q4, q5⟩
    by_cases hK : 0 < (keptM kids).length
    · exact (ctx26k_s d HR kids w lo mid hi b loc rs arr cb pw pn lw n S m pb h1 h2 h3 hhi hb ha ha4 hk hC hOff (by omega) (by omega) hK).mono hfin
    · exact (ctx26k_z d HR kids w lo mid hi b loc rs arr cb pw pn lw n S m pb h1 h2 h3 hhi hb ha ha4 hk hC hOff (by omega) (by omega) hK).mono hfin
/-- every tree, whatever its depth -/
theorem pctx : ∀ d, PCtx d
  | 0 => pctx0
  | d + 1 => pctx_succ d (pctx d)
theorem prem (d : Nat) : PRem d := rem19 d (pctx d)
/-- declarations alone lower nothing -/
theorem prem_decl (d : Nat) : PRemC (fun _ => 0) (fun t => t.kind = 0) d := by
  refine rem19C _ _ d ?_
  intro t w lo hi v cb pw pn lw n S m pb hQ hT hhi hC hOff hmd hnn
  obtain ⟨b, rfl⟩ := hT.decl hQ
  refine (ctx26d (.pointer (some ⟨pb, 0, none⟩)) b cb t.loc w).mono ?_
  rintro e w' ⟨rfl, hb⟩
  exact ⟨lw, n, by rw [show retV t _ = _ from if_pos hQ], Nat.le_refl _, Nat.le_refl _, hC.below hb, FrM.of hb, Or.inl rfl⟩
end Go.Proofs.YtjebnjjhdefejaaFmt
