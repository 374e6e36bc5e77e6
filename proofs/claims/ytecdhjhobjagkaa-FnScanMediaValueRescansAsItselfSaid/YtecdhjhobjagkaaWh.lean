/-
  The contracts of the media-value law's helpers: the token list's making, scanMediaValue. Conditions: the shapes of the lists.
-/
import Derived.Test.YtecdhjhobjagkaaWe
import Derived.Deep.DeepCutAuto
namespace Go.Proofs.Ytecdhjhobjagkaa
open Go.ChangeShapes Go.WideShapes Go.ChangeAt Go.RowKit

/-- copy of elements of seven cells -/
theorem run_copy7 {P : Program} (w : World) (dT sT ty elem : TypeId) (b o dLen dCap : Nat) (a : Addr) (sLen sCap k : Nat) (cs : List Value)
    (hu : P.underlying dT = some (.slice elem)) (hs : (P.info? elem).map (·.size) = some 7) (hk : Nat.min sLen dLen = k) (hn : cs.length = k * 7)
    (hsrc : ∀ j v, cs[j]? = some v → w.cell? (a.add j) = some v) (hc : ∀ j, j < cs.length → (w.cell? ⟨b, o + j, none⟩).isSome = true) (hf : ∀ j, j < cs.length → w.frozen? ⟨b, o + j, none⟩ = false) (h1 : ∀ v ∈ cs, v.oneCell' = true) :
    (Builtin.copy_ #[dT, sT] ty #[.slice (some ⟨b, o, none⟩) dLen dCap, .slice (some a) sLen sCap]).run P w = .ok (goInt k) (w.setCells b o cs) := by
  have hl := run_loadCells_list (P := P) w a cs hsrc
  have hst := run_storeCells_cells (P := P) b o cs 0 w (by simpa using hc) (by simpa using hf) h1
  cases hq : P.info? elem with
  | none => simp [hq] at hs
  | some i =>
    have hi : i.size = 7 := by simpa [hq] using hs
    simp [Builtin.copy_, run_underlying hu, Builtin.lenOf, Builtin.firstCells, sizeOf, typeInfo, hq, hi, hk, ← hn, hl, hst]

theorem wpList_copy7 {P : Program} {w : World} {ops : Array Oper} {rest : List Oper} {o : Oper} {a : Act} {Q : Exit → Act → World → Prop} (hgd : o.guard = none) (d s : Operand) (dT sT : TypeId)
    (ho : o.op = .call { callee := .builtin .copy, args := #[d, s], argTypes := #[dT, sT] }) (elem : TypeId) (hu : P.underlying dT = some (.slice elem)) (hsz : (P.info? elem).map (·.size) = some 7)
    (g off dLen dCap : Nat) (ad : Addr) (sLen sCap k : Nat) (hd : a.eval d = .slice (some ⟨g, off, none⟩) dLen dCap) (hs : a.eval s = .slice (some ad) sLen sCap)
    (cs : List Value) (hk : Nat.min sLen dLen = k) (hn : cs.length = k * 7)
    (hsrc : ∀ j v, cs[j]? = some v → w.cell? (ad.add j) = some v) (hc : ∀ j, j < cs.length → (w.cell? ⟨g, off + j, none⟩).isSome = true) (hf : ∀ j, j < cs.length → w.frozen? ⟨g, off + j, none⟩ = false) (h1 : ∀ v ∈ cs, v.oneCell' = true)
    (h : wpList P ops Q rest (a.put o.dst (goInt k)) (w.setCells g off cs)) : wpList P ops Q (o :: rest) a w := by
  refine wpList_plain hgd fun K hK => ?_
  have hrun := run_copy7 (P := P) w dT sT o.type elem g off dLen dCap ad sLen sCap k cs hu hsz hk hn hsrc hc hf h1
  unfold Oper.wp
  simp [execOp, ho, resolve, invoke, builtin, hd, hs, hrun, Result.andThen]
  exact hK _ _ h

set_option maxRecDepth 20000 in
theorem any18 (a0 a1 : Option Addr) (l0 l1 c0 c1 : Nat) (s : ByteArray) (w : World) (h0 : l0 ≤ maxLen) (h1 : l1 ≤ maxLen) (h2 : s.size ≤ maxLen) :
    Calls Try.prog 18 #[.slice a0 l0 c0, .slice a1 l1 c1, .string s] w fun e w' => (∃ b, e = .returned (.bool b)) ∧ w' = w := by
  simp only [maxLen] at h0 h1 h2
  by_cases g0 : l0 ≤ 1048576
  · by_cases g1 : l1 ≤ 1048576
    · by_cases g2 : l0 + l1 ≤ 1048576
      · by_cases g3 : s.size ≤ 1048576
        · by_cases g4 : l0 + l1 + s.size ≤ 1048576
          all_goals
            go_enter Try.func18, Try.ntmps18
            go_wp2_with fail
            go_ret
            exact ⟨⟨_, rfl⟩, rfl⟩
        · go_enter Try.func18, Try.ntmps18
          go_wp2_with fail
          go_ret
          exact ⟨⟨_, rfl⟩, rfl⟩
      · go_enter Try.func18, Try.ntmps18
        go_wp2_with fail
        go_ret
        exact ⟨⟨_, rfl⟩, rfl⟩
    · go_enter Try.func18, Try.ntmps18
      go_wp2_with fail
      go_ret
      exact ⟨⟨_, rfl⟩, rfl⟩
  · go_enter Try.func18, Try.ntmps18
    go_wp2_with fail
    go_ret
    exact ⟨⟨_, rfl⟩, rfl⟩

def A254 (v : Int) : Int := bits .and .u8 v 254
def D253 (v : Int) : Int := bits .and .u8 v 253
def upd (x : Nat → Tok) (i : Nat) (v : Int) (j : Nat) : Tok := if j = i then ⟨(x j).t, (x j).s, (x j).p, (x j).k, v⟩ else x j
theorem Toks.upd {B n : Nat} {x : Nat → Tok} {w : World} (h : Toks B n x w) (i : Nat) (v : Int) (hi : i < n) : Toks B n (upd x i v) (w.setCell ⟨B, i * 7 + 6, none⟩ (.int .u8 v)) := by
  refine ⟨by simpa [go_sem] using h.size, fun j o hj ho => ?_, fun o => ?_⟩
  · by_cases e : j = i ∧ o = 6
    · obtain ⟨rfl, rfl⟩ := e
      rw [World.cell?_setCell_same _ _ _ (h.c j 6 hj ho)]
      simp [Go.Proofs.Ytecdhjhobjagkaa.upd, Tok.at]
    · rw [World.cell?_setCell_other _ _ _ _ (by simp <;> omega), h.c j o hj ho]
      by_cases e1 : j = i
      · subst e1
        have e2 : o ≠ 6 := fun q => e ⟨rfl, q⟩
        have e6 : o = 0 ∨ o = 1 ∨ o = 2 ∨ o = 3 ∨ o = 4 ∨ o = 5 := by omega
        rcases e6 with rfl | rfl | rfl | rfl | rfl | rfl <;> simp [Go.Proofs.Ytecdhjhobjagkaa.upd, Tok.at]
      · simp [Go.Proofs.Ytecdhjhobjagkaa.upd, e1]
  · rw [World.frozen?_setCell]; exact h.z o
def trm (m : Nat) (x : Nat → Tok) : Nat → Tok := if m = 0 then x else upd (upd x 0 (A254 (x 0).ws)) (m - 1) (D253 ((upd x 0 (A254 (x 0).ws)) (m - 1)).ws)
def mv (x : Nat → Tok) (n : Nat) : Nat := if 1 ≤ n then (if (x 0).k = 26 ∨ (x 0).k = 29 then 1 else if (x 0).k = 30 then (if 3 ≤ n ∧ (x 1).k = 24 ∧ (x 2).k = 30 then 3 else 1) else 0) else 0
theorem Toks.drews {B n : Nat} {x : Nat → Tok} {w : World} (h : Toks B n x w) (q : Nat) : Toks B n x (w.drewN q) := h.call (below_drewN (Below.refl _ _) q)

/-- what scanMediaValue gives -/
structure Scn (B n : Nat) (x : Nat → Tok) (w : World) (e : Ending) (w' : World) : Prop where
  ex : ∃ r, e = .returned (.tuple #[.slice (some ⟨B, 0, none⟩) (mv x n) n, .slice r (n - mv x n) (n - mv x n)])
  toks : Toks B n (trm (mv x n) x) w'
  kept : ∀ m w0, m ≤ B → Below m w0 w → Below m w0 w'

theorem scn_zero {B n : Nat} {x : Nat → Tok} {w : World} (h : Toks B n x w) (hm : mv x n = 0) (r : Option Addr) (q : Nat) {e : Ending} (he : e = .returned (.tuple #[.slice (some ⟨B, 0, none⟩) 0 n, .slice r n n])) : Scn B n x w e (w.drewN q) := by
  refine ⟨⟨r, by rw [hm]; exact he⟩, by rw [hm]; exact h.drews q, fun m w0 _ hb => below_drewN hb q⟩
theorem scn_one {B n : Nat} {x : Nat → Tok} {w : World} (h : Toks B n x w) (h1 : 1 ≤ n) (hm : mv x n = 1) (r : Option Addr) (q : Nat) {e : Ending} (he : e = .returned (.tuple #[.slice (some ⟨B, 0, none⟩) 1 n, .slice r (n - 1) (n - 1)])) :
    Scn B n x w e (((w.setCell ⟨B, 6, none⟩ (.int .u8 (A254 (x 0).ws))).setCell ⟨B, 6, none⟩ (.int .u8 (D253 (A254 (x 0).ws)))).drewN q) := by
  refine ⟨⟨r, by rw [hm]; exact he⟩, ?_, fun m w0 hm hb => below_drewN ((hb.setCell hm _).setCell hm _) q⟩
  rw [hm]
  have h2 := ((h.upd 0 (A254 (x 0).ws) (by omega)).upd 0 (D253 (A254 (x 0).ws)) (by omega)).drews q
  exact h2
theorem scn_three {B n : Nat} {x : Nat → Tok} {w : World} (h : Toks B n x w) (h1 : 3 ≤ n) (hm : mv x n = 3) (r : Option Addr) (q : Nat) {e : Ending} (he : e = .returned (.tuple #[.slice (some ⟨B, 0, none⟩) 3 n, .slice r (n - 3) (n - 3)])) :
    Scn B n x w e (((w.setCell ⟨B, 6, none⟩ (.int .u8 (A254 (x 0).ws))).setCell ⟨B, 20, none⟩ (.int .u8 (D253 (x 2).ws))).drewN q) := by
  refine ⟨⟨r, by rw [hm]; exact he⟩, ?_, fun m w0 hm hb => below_drewN ((hb.setCell hm _).setCell hm _) q⟩
  rw [hm]
  have h2 := ((h.upd 0 (A254 (x 0).ws) (by omega)).upd 2 (D253 (x 2).ws) (by omega)).drews q
  exact h2

set_option maxRecDepth 20000 in
set_option maxHeartbeats 4000000 in
theorem scan30 (B n : Nat) (x : Nat → Tok) (w : World) (hn : n ≤ 65536) (h : Toks B n x w) :
    Calls Try.prog 30 #[.slice (some ⟨B, 0, none⟩) n n] w (Scn B n x w) := by
  have H := Lib.hid h
  by_cases h1 : 1 ≤ n
  case neg =>
    obtain rfl : n = 0 := by omega
    have HM := Lib.hid (show mv x 0 = 0 from rfl)
    clear h
    go_enter Try.func30, Try.ntmps30
    go_wp2_with fail
    go_quiet (fail)
    go_wp2_with fail
    go_ret2
    exact scn_zero H.out HM.out _ _ rfl
  have c5 : w.cell? ⟨B, 5, none⟩ = some (.int .u8 (x 0).k) := h.c 0 5 h1 (by omega)
  have c6 : w.cell? ⟨B, 6, none⟩ = some (.int .u8 (x 0).ws) := h.c 0 6 h1 (by omega)
  have z6 := h.z 6
  have HA := Lib.hid (show ∀ v, bits .and .u8 v 254 = A254 v from fun _ => rfl)
  by_cases hk1 : (x 0).k = 26 ∨ (x 0).k = 29
  · have HM := Lib.hid (show mv x n = 1 by simp [mv, h1, hk1])
    clear h
    rcases hk1 with hk | hk
    all_goals
      rw [hk] at c5
      clear hk
      by_cases hn1 : n = 1
      · subst hn1
        go_enter Try.func30, Try.ntmps30
        go_wp2_with fail
        go_quiet (fail)
        go_wp2_with fail
        go_ret2
        exact scn_one H.out h1 HM.out _ _ rfl
      · go_enter Try.func30, Try.ntmps30
        go_wp2_with fail
        go_quiet (fail)
        go_wp2_with fail
        go_ret2
        exact scn_one H.out h1 HM.out _ _ rfl
  · by_cases hk2 : (x 0).k = 30
    · by_cases h3 : 3 ≤ n
      · have c12 : w.cell? ⟨B, 12, none⟩ = some (.int .u8 (x 1).k) := h.c 1 5 (by omega) (by omega)
        have c19 : w.cell? ⟨B, 19, none⟩ = some (.int .u8 (x 2).k) := h.c 2 5 (by omega) (by omega)
        have c20 : w.cell? ⟨B, 20, none⟩ = some (.int .u8 (x 2).ws) := h.c 2 6 (by omega) (by omega)
        have z20 := h.z 20
        clear h
        by_cases hb : (x 1).k = 24
        · by_cases hc : (x 2).k = 30
          · have HM := Lib.hid (show mv x n = 3 by simp [mv, h1, h3, hk2, hb, hc])
            rw [hk2] at c5
            rw [hb] at c12
            rw [hc] at c19
            clear hk1 hk2 hb hc
            by_cases hn1 : n = 3
            · subst hn1
              go_enter Try.func30, Try.ntmps30
              go_wp2_with fail
              go_quiet (fail)
              go_wp2_with fail
              go_ret2
              exact scn_three H.out h3 HM.out _ _ rfl
            · go_enter Try.func30, Try.ntmps30
              go_wp2_with fail
              go_quiet (fail)
              go_wp2_with fail
              go_ret2
              exact scn_three H.out h3 HM.out _ _ rfl
          · have HM := Lib.hid (show mv x n = 1 by simp [mv, h1, hk2, hc])
            have hn1 : ¬ n = 1 := by omega
            rw [hk2] at c5
            rw [hb] at c12
            clear hk1 hk2 hb
            generalize (x 2).k = K2 at *
            have hc' : (K2 == 30) = false := by simpa using hc
            go_enter Try.func30, Try.ntmps30
            go_wp2_with fail
            go_quiet (fail)
            go_wp2_with fail
            go_ret2
            exact scn_one H.out h1 HM.out _ _ rfl
        · have HM := Lib.hid (show mv x n = 1 by simp [mv, h1, hk2, hb])
          have hn1 : ¬ n = 1 := by omega
          rw [hk2] at c5
          clear hk1 hk2
          generalize (x 1).k = K1 at *
          have hb' : (K1 == 24) = false := by simpa using hb
          go_enter Try.func30, Try.ntmps30
          go_wp2_with fail
          go_quiet (fail)
          go_wp2_with fail
          go_ret2
          exact scn_one H.out h1 HM.out _ _ rfl
      · have HM := Lib.hid (show mv x n = 1 by simp [mv, h1, hk2, h3])
        rw [hk2] at c5
        clear hk1 hk2 h
        by_cases hn1 : n = 1
        · subst hn1
          go_enter Try.func30, Try.ntmps30
          go_wp2_with fail
          go_quiet (fail)
          go_wp2_with fail
          go_ret2
          exact scn_one H.out h1 HM.out _ _ rfl
        · go_enter Try.func30, Try.ntmps30
          go_wp2_with fail
          go_quiet (fail)
          go_wp2_with fail
          go_ret2
          exact scn_one H.out h1 HM.out _ _ rfl
    · have HM := Lib.hid (show mv x n = 0 by simp [mv, hk1, hk2])
      have g1 : ¬ (x 0).k = 26 := fun q => hk1 (.inl q)
      have g2 : ¬ (x 0).k = 29 := fun q => hk1 (.inr q)
      clear h hk1
      have hn0 : ¬ n = 0 := by omega
      generalize (x 0).k = K0 at *
      have g1' : (K0 == 26) = false := by simpa using g1
      have g2' : (K0 == 29) = false := by simpa using g2
      have g3' : (K0 == 30) = false := by simpa using hk2
      go_enter Try.func30, Try.ntmps30
      go_wp2_with fail
      go_quiet (fail)
      go_wp2_with fail
      go_ret2
      exact scn_zero H.out HM.out _ _ rfl

set_option maxRecDepth 20000 in
theorem zscan20 (B n : Nat) (x : Nat → Tok) (w : World) (hn : n ≤ 65536) (h : Toks B n x w) :
    Calls Try.prog 20 #[.slice (some ⟨B, 0, none⟩) n n] w (Scn B n x w) := by
  have H := Lib.hid h
  clear h
  go_enter Try.func20, Try.ntmps20
  go_wp2_with fail
  with_reducible refine (scan30 B n x _ hn H.out).mono ?_
  rintro e w2 hs
  obtain ⟨r, rfl⟩ := hs.ex
  have HS := Lib.hid hs
  clear hs
  go_wp2_with fail
  go_ret2
  exact ⟨⟨r, rfl⟩, HS.out.toks, HS.out.kept⟩
end Go.Proofs.Ytecdhjhobjagkaa
