/-
  The law across calls walked. Conditions: each theorem's own.
-/
import Derived.Test.YtphimfimnakclaaRl
import Derived.Test.YtphimfimnakclaaRe
namespace Go.Proofs.Ytphimfimnakclaa
open Go.RowKit Go.Lib Go.ChangeMaps
open Go.Maps (Keyed IsMap)
theorem OutR.lt {D : Nat → Prop} {Rb : Nat} {w : World} {a : Option Addr} {out : List (Int × Rl)} (h : OutR D Rb w a out) (hn : 0 < out.length) : Rb < w.heap.size := by
  obtain ⟨o, ha, b, c0, c1, hd, hg⟩ := h 0 hn
  rcases Nat.lt_or_ge Rb w.heap.size with h | h
  · exact h
  · have c0' : w.cell? ⟨Rb, o + 0 * 2 + 0, none⟩ = _ := c0
    unfold World.cell? at c0'
    rw [Array.getElem?_eq_none h] at c0'
    cases c0'
theorem OutR.below {D : Nat → Prop} {Rb : Nat} {w w' : World} {a : Option Addr} {out : List (Int × Rl)} (h : OutR D Rb w a out) (hb : Below w.heap.size w w') : OutR D Rb w' a out := fun j hj => by
  have hlt := h.lt (by omega)
  obtain ⟨o, ha, hr⟩ := h j hj
  refine ⟨o, ha, (hr.loc ?_ ?_).keep hb.size (fun g _ hg => hb.block g hg)⟩
  · exact cellLow (hb.block _ hlt) _
  · exact cellLow (hb.block _ hlt) _
theorem Locs.below {w w' : World} {a : Option Addr} {l : List Int} (h : Locs w a l) (hb : Below w.heap.size w w') : Locs w' a l := fun j hj => by
  obtain ⟨g, o, ha, hg, hc⟩ := h j hj
  exact ⟨g, o, ha, Nat.lt_of_lt_of_le hg hb.size, (cellLow (hb.block g hg) _).trans hc⟩
theorem BO.rowK {B : Nat} {v : Value} {kss : List (List Value)} {ks : List (List Int)} {w : World} {Q : Nat → Prop} (h : BO (PT 1) 50 B v kss w) (hl : kss.length = ks.length) (hk : ∀ i (_ : i < kss.length) (_ : i < ks.length), ∃ s, kss[i] = [s] ∧ RowL IntT w Q s ks[i]) : RowL KyT w TT v ks := by
  obtain ⟨ys, ho, hy⟩ := h.own
  have ho2 := ho.2
  rcases ho2 with ⟨hv, h0⟩ | ⟨g, cap, cur, hv, hb, hh, _⟩
  · subst hv
    refine ⟨none, 0, by rw [← hl, h0], fun i hi => by omega⟩
  · subst hv
    refine ⟨_, cap, by rw [hl], fun i hi => ?_⟩
    obtain ⟨s, e, hr⟩ := hk i (by omega) hi
    refine ⟨g, rfl, trivial, heap_lt hh, s, ?_, hr.keep (Keep.weak w (fun _ _ _ => trivial))⟩
    have h1 := World.ownsRow.cellAt ho (i * 1 + 0) (mul_lt_len (by omega) (by omega))
    have h2 := hy i (by omega) 0 (by omega)
    show w.cell? ⟨g, i * 1 + 0, none⟩ = some s
    rw [h1]
    refine h2.trans ?_
    rw [e]
    rfl
theorem St3.kys {B : Nat} {v1 v2 v3 : Value} {rs : List Rl} {w : World} (h : St3 B v1 v2 v3 rs w) : RowL KyT w TT v2 (rs.map keyR) := by
  obtain ⟨ks, b1, b2, b3⟩ := h.keys
  refine b1.rowK (Q := KP B w) (by simpa using b2) (fun i h1 h2 => ?_)
  obtain ⟨s, e, hr⟩ := b3 i h1 (by simpa using h2)
  exact ⟨s, e, by simpa using hr⟩
theorem St3.dds {B : Nat} {v1 v2 v3 : Value} {rs : List Rl} {w : World} (h : St3 B v1 v2 v3 rs w) : RowL BlT w TT v3 (rs.map deadR) := by
  obtain ⟨ys, ho, hy⟩ := h.deads.own
  have ho2 := ho.2
  rcases ho2 with ⟨hv, h0⟩ | ⟨g, cap, cur, hv, hb, hh, _⟩
  · subst hv
    have h0' : rs.length = 0 := by simpa using h0
    refine ⟨none, 0, by simp [h0'], fun i hi => by simp at hi; omega⟩
  · subst hv
    refine ⟨some ⟨g, 0, none⟩, cap, by simp, fun i hi => ?_⟩
    have hi' : i < rs.length := by simpa using hi
    refine ⟨g, rfl, trivial, heap_lt hh, ?_⟩
    have h1 := World.ownsRow.cellAt ho (i * 1 + 0) (mul_lt_len (by simpa using hi') (by omega))
    have h2 := hy i (by simpa using hi') 0 (by omega)
    show w.cell? ⟨g, i * 1 + 0, none⟩ = _
    rw [h1]
    refine h2.trans ?_
    simp
theorem St3.keyAt {B : Nat} {v1 v3 : Value} {a2 : Option Addr} {n2 c2 : Nat} {rs : List Rl} {w : World} (h : St3 B v1 (.slice a2 n2 c2) v3 rs w) {i : Nat} (hi : i < rs.length) : ∃ g sa sl sc, a2 = some ⟨g, 0, none⟩ ∧ g < w.heap.size ∧ w.cell? ⟨g, i, none⟩ = some (.slice sa sl sc) ∧ RowL IntT w (KP 0 w) (.slice sa sl sc) (keyR rs[i]) := by
  obtain ⟨ks, b1, b2, b3⟩ := h.keys
  obtain ⟨s, e, hr⟩ := b3 i (by omega) hi
  obtain ⟨sa, sc, rfl, _⟩ := id hr
  obtain ⟨ys, ho, hy⟩ := b1.own
  have ho2 := ho.2
  rcases ho2 with ⟨_, h0⟩ | ⟨g, cap, cur, hv, hb, hh, _⟩
  · omega
  · injection hv with e1 e2 e3
    subst e1 e2 e3
    refine ⟨g, sa, _, sc, rfl, heap_lt hh, ?_, hr.keep (Keep.weak w (fun g hg _ => ⟨Nat.zero_le _, hg.2⟩))⟩
    have h1 := World.ownsRow.cellAt ho (i * 1 + 0) (mul_lt_len (by omega) (by omega))
    have h2 : ys[i * 1 + 0]? = ks[i][0]? := hy i (by omega) 0 (by omega)
    have e0 : i * 1 + 0 = i := by omega
    rw [e0] at h1 h2
    rw [h1, h2, e]
    rfl
structure Se4 (rs : List Rl) (kp : List Int) (w : World) (g : Nat) (v28 v29 : Value) (wx : World) : Prop where
  ex : ∃ (i : Nat) (kss : List (List Value)), i + g = kp.length ∧ v29 = .int .i64 (i : Nat) ∧ BO (PT 1) 50 w.heap.size v28 kss wx ∧ kss.length = i ∧
    (∀ j (_ : j < kss.length) (_ : j < kp.length), ∃ s, kss[j] = [s] ∧ RowL IntT wx (KP 0 wx) s (keyR (rs.getD (kp[j]).toNat []))) ∧ Below w.heap.size w wx
theorem zip_kds (rs : List Rl) : (rs.map keyR).zip (rs.map deadR) = kds rs := by
  induction rs with
  | nil => rfl
  | cons x l ih => simp only [List.map_cons, List.zip_cons_cons, ih]
theorem keyR_short {r : Rl} (h : Good r) : (keyR r).length ≤ 1000000 := by
  have h1 := keyR_len r h.2
  have h2 := h.1
  show (r.flatMap keyX).length + 1 ≤ 1000000
  omega
theorem OutR.keepL {D : Nat → Prop} {Rb : Nat} {w w' : World} {a : Option Addr} {out : List (Int × Rl)} (h : OutR D Rb w a out) (hs : w.heap.size ≤ w'.heap.size) (hb : 0 < out.length → w'.heap[Rb]? = w.heap[Rb]?) : Locs w' a (out.map Prod.fst) := fun j hj => by
  have hj' : j < out.length := by simpa using hj
  have hlt := h.lt (by omega)
  obtain ⟨o, ha, b, c0, c1, hd, hg⟩ := h j hj'
  exact ⟨Rb, o, ha, Nat.lt_of_lt_of_le hlt hs, (cellLow (hb (by omega)) _).trans (by simpa using c1)⟩
set_option maxHeartbeats 32000000 in
set_option maxRecDepth 100000 in
theorem walk4 (a0 : Option Addr) (len0 cap0 : Nat) (z0 : List Int) (a1 : Option Addr) (len1 cap1 : Nat) (z1 : List Int) (a2 : Option Addr) (len2 cap2 : Nat) (z2 : List Int) (a3 : Option Addr) (len3 cap3 : Nat) (z3 : List Int) (a4 : Option Addr) (len4 cap4 : Nat) (z4 : List Int) (a5 : Option Addr) (len5 cap5 : Nat) (z5 : List Int) (a6 : Option Addr) (len6 cap6 : Nat) (z6 : List Int) (a7 : Option Addr) (len7 cap7 : Nat) (z7 : List Int) (a8 : Option Addr) (len8 cap8 : Nat) (z8 : List Int) (a9 : Option Addr) (len9 cap9 : Nat) (z9 : List Int) (w : World) (w0 : IsRow .u8 w a0 len0 cap0 z0) (w1 : IsRow .u8 w a1 len1 cap1 z1) (w2 : IsRow .u8 w a2 len2 cap2 z2) (w3 : IsRow .u8 w a3 len3 cap3 z3) (w4 : IsRow .u8 w a4 len4 cap4 z4) (w5 : IsRow .u8 w a5 len5 cap5 z5) (w6 : IsRow .u8 w a6 len6 cap6 z6) (w7 : IsRow .u8 w a7 len7 cap7 z7) (w8 : IsRow .u8 w a8 len8 cap8 z8) (w9 : IsRow .u8 w a9 len9 cap9 z9) :
    Calls Try.prog 4 #[.slice a0 len0 cap0, .slice a1 len1 cap1, .slice a2 len2 cap2, .slice a3 len3 cap3, .slice a4 len4 cap4, .slice a5 len5 cap5, .slice a6 len6 cap6, .slice a7 len7 cap7, .slice a8 len8 cap8, .slice a9 len9 cap9] w fun e w' => e = .returned (.bool true) ∧ Below w.heap.size w w' := by
  have R0 := hid w0.row.1
  have R1 := hid w1.row.1
  have R2 := hid w2.row.1
  have R3 := hid w3.row.1
  have R4 := hid w4.row.1
  have R5 := hid w5.row.1
  have R6 := hid w6.row.1
  have R7 := hid w7.row.1
  have R8 := hid w8.row.1
  have R9 := hid w9.row.1
  clear w0 w1 w2 w3 w4 w5 w6 w7 w8 w9
  go_enter Try.func4, Try.ntmps4
  go_wp2_with fail
  refine (bytes11 a0 a1 a2 a3 a4 a5 a6 a7 a8 a9 len0 len1 len2 len3 len4 len5 len6 len7 len8 len9 cap0 cap1 cap2 cap3 cap4 cap5 cap6 cap7 cap8 cap9 _).mono ?_
  rintro e wx ⟨⟨b, rfl⟩, hw⟩
  obtain rfl := hw.symm
  clear hw
  cases b
  · go_wp2_with fail
    go_ret
    exact ⟨rfl, Below.refl _ _⟩
  go_wp2_with fail
  · go_ret
    exact ⟨rfl, Below.refl _ _⟩
  refine (big6 a0 a1 a2 a3 a4 len0 len1 len2 len3 len4 cap0 cap1 cap2 cap3 cap4 _).mono ?_
  rintro e wx hR
  obtain ⟨b, rfl, hb, hw⟩ := hR.ex
  obtain rfl := hw.symm
  clear hw hR
  rcases Bool.eq_false_or_eq_true b with rfl | rfl
  · go_wp2_with fail
    go_ret
    exact ⟨rfl, Below.refl _ _⟩
  obtain ⟨g0, g1, g2, g3, g4⟩ := hb rfl
  clear hb
  go_wp2_with fail
  refine (big6 a5 a6 a7 a8 a9 len5 len6 len7 len8 len9 cap5 cap6 cap7 cap8 cap9 _).mono ?_
  rintro e wx hR
  obtain ⟨b, rfl, hb, hw⟩ := hR.ex
  obtain rfl := hw.symm
  clear hw hR
  rcases Bool.eq_false_or_eq_true b with rfl | rfl
  · go_wp2_with fail
    go_ret
    exact ⟨rfl, Below.refl _ _⟩
  obtain ⟨g5, g6, g7, g8, g9⟩ := hb rfl
  clear hb
  go_wp2_with fail
  refine (br7 a0 a1 a2 a3 a4 len0 len1 len2 len3 len4 cap0 cap1 cap2 cap3 cap4 z0 z1 z2 z3 z4 _ g0 g1 g2 g3 g4 R0.out R1.out R2.out R3.out R4.out).mono ?_
  rintro e u1 hR
  obtain ⟨rs, p1, p2, p3, rfl, hrl, hgood, hst, hbel⟩ := hR.ex
  obtain ⟨ya, yc, yb, yd, ye, yf, hva, hvb, hvc⟩ := hst.shape
  obtain rfl := hva.symm
  obtain rfl := hvb.symm
  obtain rfl := hvc.symm
  have HA := hid (And.intro hst (And.intro hbel hgood))
  have S5 := hid (R5.out.below (Nat.le_refl _) hbel)
  have S6 := hid (R6.out.below (Nat.le_refl _) hbel)
  have S7 := hid (R7.out.below (Nat.le_refl _) hbel)
  have S8 := hid (R8.out.below (Nat.le_refl _) hbel)
  have S9 := hid (R9.out.below (Nat.le_refl _) hbel)
  clear hR hst hbel hgood g0 g1 g2 g3 g4 R0 R1 R2 R3 R4 R5 R6 R7 R8 R9
  go_wp2_with fail
  refine (br7 a5 a6 a7 a8 a9 len5 len6 len7 len8 len9 cap5 cap6 cap7 cap8 cap9 z5 z6 z7 z8 z9 _ g5 g6 g7 g8 g9 S5.out S6.out S7.out S8.out S9.out).mono ?_
  rintro e u2 hR
  obtain ⟨rt, q1, q2, q3, rfl, hrl2, hgood, hst, hbel⟩ := hR.ex
  obtain ⟨xa, xc, xb, xd, xe, xf, hva, hvb, hvc⟩ := hst.shape
  obtain rfl := hva.symm
  obtain rfl := hvb.symm
  obtain rfl := hvc.symm
  have HB := hid (And.intro hst (And.intro hbel hgood))
  clear hR hst hbel hgood g5 g6 g7 g8 g9 S5 S6 S7 S8 S9
  go_wp2_with fail
  have HKA := hid (kp12 yb ye none rs.length yd yf 0 0 (rs.map keyR) (rs.map deadR) [] u2 hrl (by omega) (by simp) (by simp) rfl (fun k hk => by
    obtain ⟨r, hr, rfl⟩ := List.mem_map.1 hk
    exact keyR_short (HA.out.2.2 r hr)) (HA.out.1.kys.below HB.out.2.1) (HA.out.1.dds.below HB.out.2.1) (RowL.nil KyT u2 TT 0))
  refine HKA.out.mono ?_
  rintro e u3 hR
  obtain ⟨ka, kb, rfl, hrow, hbel⟩ := hR.ex
  rw [zip_kds] at hrow
  rw [zip_kds]
  have hkr : keptR [] 0 (kds rs) = (runR (locd rs) []).1.map Prod.fst := by
    have := kept_run [] rs 0
    rw [locdF_zero] at this
    exact this
  have hkl := kept_len [] (kds rs) 0
  have hkb := kept_lt [] (kds rs) 0
  have hkd : (kds rs).length = rs.length := by simp
  generalize keptR [] 0 (kds rs) = kp at *
  have HKP := hid (And.intro hkr (And.intro hrow hbel))
  have hkn : kp.length ≤ 4096 := by omega
  have mk := mkS0 25 50 (.slice none 0 0) 1 24 Try.underlying25 info50 (by decide) kp.length (by omega) u3
  have hbo := BO.made (PT 1) 50 (.slice none 0 0) kp.length u3.heap.size u3 (by omega) (Nat.le_refl _)
  obtain ⟨u4, hu4⟩ : ∃ u4, u4 = u3.alloc (mkO (.slice none 0 0) (kp.length * 1) 50) := ⟨_, rfl⟩
  have hb4 : Below u3.heap.size u3 u4 := by rw [hu4]; exact (Below.refl _ _).alloc (Nat.le_refl _) _
  rw [← hu4] at hbo mk
  have HL0 := hid (show Se4 rs kp u3 kp.length (.slice (some ⟨u3.heap.size, 0, none⟩) 0 kp.length) (.int .i64 0) u4 from ⟨0, [], by simp, rfl, hbo, rfl, (fun j hj => by simp at hj), hb4⟩)
  have HKB := hid (And.intro hkb hkd)
  clear hR hrow hbel hkr hkl hkb hkd hbo hb4 HKA hu4
  go_wp2_with fail
  clear mk
  go_loopg [28, 29] kp.length (fun g v28 v29 wx => Se4 rs kp u3 g v28 v29 wx)
  case atStart => exact HL0.out
  case round =>
    obtain ⟨i, kss, hig, rfl, hbo, hki, hks, hb⟩ := hrel.ex
    clear hrel HL0
    obtain ⟨va, vc, rfl, hvl⟩ := hbo.shape
    cases gk with
    | succ g =>
      have hil : i < kp.length := by omega
      have hcd : (i : Int) < (kp.length : Int) := by omega
      obtain ⟨gq, rfl, hgq, hcq⟩ := (HKP.out.2.1.below hb).cellI hil
      have hbd := HKB.out.1 kp[i] (List.getElem_mem hil)
      rw [HKB.out.2] at hbd
      obtain ⟨x, hx⟩ : ∃ x : Nat, kp[i] = (x : Int) := ⟨kp[i].toNat, by omega⟩
      rw [hx] at hcq hbd
      have hxr : x < rs.length := by omega
      have hxI : (x : Int) < (rs.length : Int) := by omega
      have hst5 := HA.out.1.keep (w' := wr) (HB.out.2.1.trans ((HKP.out.2.2.trans (hb.mono HKP.out.2.2.size)).mono HB.out.2.1.size))
      obtain ⟨gk2, sa, sl, sc, hgk, hgkl, hkc, hkrow⟩ := hst5.keyAt hxr
      obtain rfl := hgk.symm
      obtain ⟨gn, cn, w2, hap, hbo2, hgr, hat⟩ := hbo.app 25 50 _ 24 [.slice sa sl sc] [.slice sa sl sc] Try.underlying25 info50 rfl (by decide) (by decide) rfl (by intro u hu; simp at hu; rcases hu with rfl; rfl) (fun t ht => rfl) (by omega)
      have hz : (wr.alloc (.cells [Value.slice sa sl sc].toArray 50)).heap.size = wr.heap.size + 1 := by simp
      have hs2 := hgr.size
      have blk : ∀ q, q < wr.heap.size → some q ≠ (Value.slice va kss.length vc).ownBlock → w2.heap[q]? = wr.heap[q]? := fun q h1 h2 => (hgr.block q (by omega) h2).trans (Below.heap_alloc _ _ _ h1)
      have kK : Keep wr w2 (KP 0 wr) (KP 0 w2) := ⟨by omega, fun q hp hg => blk q hg (fun e => by
        obtain ⟨cur, hc⟩ := hbo.typ q e.symm
        obtain ⟨cur2, fz, hc2⟩ := hp.2
        rw [hc] at hc2; injection hc2 with hc2; injection hc2 with _ hc2; exact absurd hc2 (by decide)), fun q hp hg => ⟨Nat.zero_le _, by
        obtain ⟨cur2, fz, hc2⟩ := hp.2
        exact ⟨cur2, fz, (blk q hg (fun e => by
          obtain ⟨cur, hc⟩ := hbo.typ q e.symm
          rw [hc] at hc2; injection hc2 with hc2; injection hc2 with _ hc2; exact absurd hc2 (by decide))).trans hc2⟩⟩⟩
      have hks2 : ∀ j (_ : j < (kss ++ [[Value.slice sa sl sc]]).length) (_ : j < kp.length), ∃ s, (kss ++ [[Value.slice sa sl sc]])[j] = [s] ∧ RowL IntT w2 (KP 0 w2) s (keyR (rs.getD (kp[j]).toNat [])) := fun j hj hjk => by
        by_cases e : j < kss.length
        · rw [List.getElem_append_left e]
          obtain ⟨s, e1, hr⟩ := hks j e hjk
          exact ⟨s, e1, hr.keep kK⟩
        · have e2 : j = kss.length := by simp at hj; omega
          have e3 : j = i := by omega
          refine ⟨.slice sa sl sc, by simp [e2], ?_⟩
          have e4 : rs.getD (kp[j]).toNat [] = rs[x] := by
            subst e3
            rw [hx, Int.toNat_natCast, List.getD_eq_getElem?_getD, List.getElem?_eq_getElem hxr]
            rfl
          rw [e4]
          exact hkrow.keep kK
      have hB2 : Below u3.heap.size u3 w2 := by
        have h0 := hb.alloc hb.size (.cells [Value.slice sa sl sc].toArray 50)
        refine h0.trans ⟨hgr.os, hgr.tape, hgr.output, hgr.size, fun q hq => hgr.block q (Nat.lt_of_lt_of_le hq h0.size) (fun e => ?_)⟩
        have := (hbo.ge q e.symm).1
        omega
      rw [hki] at hap
      have HAP := hid hap
      have HF := hid (And.intro hbo2 (And.intro hks2 hB2))
      have e9 : IntKind.i64.wrap ((i : Int) + 1) = ((i + 1 : Nat) : Int) := by rw [IntKind.wrap_i64]; omega
      rw [hki]
      have HKI := hid hki
      have HXX := hid hx
      clear hbo hks hb hap hbo2 hgr hat hz hs2 blk kK hks2 hB2 hst5 hkrow hbd hx hki hvl
      go_wp2_with (at_builtin; go_loud (refine list_run rfl _ _ 25 rfl (.slice va i vc) (.slice (some ⟨wr.heap.size, 0, none⟩) 1 1) _ w2 rfl rfl HAP.out ?_))
      go_roundg g
      case measure => omega
      case rel => exact ⟨i + 1, _, by omega, rfl, by have := HF.out.1; rw [HKI.out] at this; exact this, by simp; exact HKI.out, HF.out.2.1, HF.out.2.2⟩
    | zero =>
      subst hki
      have hi : kss.length = kp.length := by omega
      have hcd : ¬ ((kss.length : Int) < (kp.length : Int)) := by omega
      have hEA := seen_keys rs
      rw [← HKP.out.1] at hEA
      obtain ⟨EA, hEe⟩ : ∃ EA, EA = (runR (locd rs) []).2 := ⟨_, rfl⟩
      rw [← hEe] at hEA
      have hrow : RowL KyT wr TT (.slice va kss.length vc) (EA.map keyR) := by
        rw [← hEA]
        refine hbo.rowK (Q := KP 0 wr) (by simp; omega) (fun j h1 h2 => ?_)
        have h3 : j < kp.length := by simpa using h2
        obtain ⟨s, e, hr⟩ := hks j h1 h3
        exact ⟨s, e, by simpa using hr⟩
      have hEl : kss.length = (EA.map keyR).length := by
        rw [← hEA]
        simp
        omega
      have hbw := HKP.out.2.2.trans (hb.mono HKP.out.2.2.size)
      have hkm : kss.length ≤ 4096 := by omega
      have HKB2 := hid (kp12 xb xe va rt.length xd xf kss.length vc (rt.map keyR) (rt.map deadR) (EA.map keyR) wr hrl2 hkm (by simp) (by simp) hEl (fun k hk => by
        obtain ⟨r, hr, rfl⟩ := List.mem_map.1 hk
        exact keyR_short (HB.out.2.2 r hr)) (HB.out.1.kys.below hbw) (HB.out.1.dds.below hbw) hrow)
      have HW := hid (And.intro hb (And.intro hbw hEe))
      have hEl2 : EA.length ≤ 4096 := by rw [List.length_map] at hEl; omega
      clear hEA hEe hrow hEl hbw hbo hks hb hkm hig hi hvl
      go_wp2_with fail
      refine HKB2.out.mono ?_
      rintro e u5 hR
      obtain ⟨ma, mc, rfl, hrow, hbel⟩ := hR.ex
      clear hR HKB2
      rw [zip_kds] at hrow
      rw [zip_kds]
      have hkr : keptR (EA.map keyR) 0 (kds rt) = (runR (locd rt) EA).1.map Prod.fst := by
        have := kept_run EA rt 0
        rw [locdF_zero] at this
        exact this
      have hkl := kept_len (EA.map keyR) (kds rt) 0
      have hkb := kept_lt (EA.map keyR) (kds rt) 0
      have hkd : (kds rt).length = rt.length := by simp
      generalize keptR (EA.map keyR) 0 (kds rt) = kq at *
      have hqn : kq.length ≤ 4096 := by omega
      have HKQ := hid (And.intro hkr (And.intro hrow (And.intro hbel (And.intro hkb hkd))))
      clear hrow hbel hkr hkl hkb hkd
      go_wp2_with fail
      refine (mk8 _).mono ?_
      rintro e w6 hR
      obtain ⟨rfl, hm6, hb6⟩ := hR.ex
      -- where the data lie
      have s12 : u1.heap.size ≤ u2.heap.size := HB.out.2.1.size
      have b23 := HKP.out.2.2
      have b35 := HW.out.1.trans (HKQ.out.2.2.1.mono HW.out.1.size)
      have b25 := b23.trans (b35.mono b23.size)
      have b15 := HB.out.2.1.trans (b25.mono s12)
      have s25 := b25.size
      obtain ⟨D, hD⟩ : ∃ D : Nat → Prop, D = fun g => (F3 w.heap.size (.slice ya rs.length yc) (.slice yb rs.length yd) (.slice ye rs.length yf) u1 g ∧ g < u1.heap.size) ∨ (F3 u1.heap.size (.slice xa rt.length xc) (.slice xb rt.length xd) (.slice xe rt.length xf) u2 g ∧ g < u2.heap.size) := ⟨_, rfl⟩
      have hDlt : ∀ g, D g → g < u5.heap.size := fun g h => by
        rw [hD] at h
        rcases h with h | h
        · have := h.2; omega
        · have := h.2; omega
      have hnX : ¬ D u5.heap.size := fun h => by have := hDlt _ h; omega
      obtain ⟨pa, pk, PA, hpa, hpk, hPA, hPX, hrulA⟩ := HA.out.1.rul (D := D) HA.out.2.2 (fun g h1 h2 => by rw [hD]; exact Or.inl ⟨h1, h2⟩) (fun g hg h => by
        rw [hD] at h
        rcases h with h | h
        · exact h.1.2.2.1 hg.symm
        · obtain ⟨xs, x1, _⟩ := HA.out.1.rows
          have := (x1.ge g hg).2
          have := h.1.1
          omega) u5.heap.size hnX
      obtain ⟨qa, qk, QA, hqa, hqk, hQA, hQX, hrulB⟩ := HB.out.1.rul (D := D) HB.out.2.2 (fun g h1 h2 => by rw [hD]; exact Or.inr ⟨h1, h2⟩) (fun g hg h => by
        rw [hD] at h
        obtain ⟨xs, x1, _⟩ := HB.out.1.rows
        have := (x1.ge g hg).1
        rcases h with h | h
        · have := h.2
          omega
        · exact h.1.2.2.1 hg.symm) u5.heap.size hnX
      injection hpa with e1 e2 e3
      subst e1 e3
      injection hqa with e1 e2 e3
      subst e1 e3
      have hb7 : Below w6.heap.size w6 (w6.alloc (.cells #[.map (some (u5.heap.size + 2)), .slice none 0 0, .slice none 0 0, .slice none 0 0, .slice none 0 0, .int .u32 0, .int .u32 0] 39)) := (Below.refl _ _).alloc (Nat.le_refl _) _
      have hm7 := (hb7.block _ (heap_lt hm6)).trans hm6
      have hr7 := heap_alloc_new w6 (.cells #[.map (some (u5.heap.size + 2)), .slice none 0 0, .slice none 0 0, .slice none 0 0, .slice none 0 0, .int .u32 0, .int .u32 0] 39)
      obtain ⟨G, hrem, hcs⟩ := Rem.new (D := D) (B := u5.heap.size) hm7 hr7 (by omega) hb6.size hDlt
      have hb57 := hb6.trans (hb7.mono hb6.size)
      have s15 := b15.size
      have HC := hid (rm9 D u5.heap.size w6.heap.size PA rs.length yc ya (locd rs) [] G 7 _ hrem hrl hpk (by simp) (by omega) (fun h => by have := (hPA h).2.1; omega) (fun h => (hPA h).1) (hrulA.below (b15.trans (hb57.mono s15))))
      have hnPA := hrulA.nD
      have hrulB7 := hrulB.below (b25.trans (hb57.mono s25))
      have HX := hid (And.intro hDlt (And.intro hPA (And.intro hPX (And.intro hQA (And.intro hQX (And.intro hrulB7 (And.intro hqk (And.intro hcs hnPA))))))))
      have HB7 := hid (And.intro hb57 (And.intro b15 (And.intro b25 b35)))
      clear hR hm6 hb6 hD hDlt hnX hpk hPA hPX hrulA hqk hQA hQX hrulB hnPA hb7 hm7 hr7 hrem hcs hb57 hrulB7 s15 s12 b23 b35 b25 b15 s25 e2
      go_wp2_with fail
      refine HC.out.mono ?_
      rintro e u8 hR
      obtain ⟨d8, c8, G8, rfl, hout, hrem8, hnc8, hfr8⟩ := hR.ex
      clear hR HC
      rw [← HW.out.2.2] at hrem8
      have hl8 : (runR (locd rs) []).1.length = kp.length := by rw [HKP.out.1]; simp
      rw [hl8]
      have hDF : ∀ g, D g → u8.heap[g]? = (w6.alloc (.cells #[.map (some (u5.heap.size + 2)), .slice none 0 0, .slice none 0 0, .slice none 0 0, .slice none 0 0, .int .u32 0, .int .u32 0] 39)).heap[g]? := fun g hg => hfr8.block g (HX.out.1 g hg) (fun e => HX.out.2.2.2.2.2.2.2.2 (e ▸ hg))
      have HD := hid (rm9 D u5.heap.size w6.heap.size QA rt.length xc xa (locd rt) EA G8 3 u8 hrem8 hrl2 HX.out.2.2.2.2.2.2.1 hEl2 (by have := HX.out.2.2.2.2.2.2.2.1; omega) (fun h => by have := (HX.out.2.2.2.1 h).2.1; have := HB7.out.2.2.1.size; omega) (fun h => (HX.out.2.2.2.1 h).1)
        (HX.out.2.2.2.2.2.1.keep hfr8.size (fun hn => hfr8.block QA (by have := (HX.out.2.2.2.1 hn).2.1; have := HB7.out.2.2.1.size; omega) (fun e => by
          have h1 := (HX.out.2.2.2.1 hn).2.1
          have h3 := HB7.out.2.2.1.size
          have h4 := HB7.out.2.1.size
          rcases HX.out.2.2.1 with h | h <;> rcases HX.out.2.2.2.2.1 with h' | h' <;> omega)) (fun g hg _ => hDF g hg)))
      have HO := hid (And.intro hout hfr8)
      clear hout hrem8 hnc8 hfr8 hDF hl8
      go_wp2_with fail
      refine HD.out.mono ?_
      rintro e u9 hR
      obtain ⟨d9, c9, G9, rfl, hout9, hrem9, hnc9, hfr9⟩ := hR.ex
      clear hR HD hrem9 hnc9
      have hl9 : (runR (locd rt) EA).1.length = kq.length := by rw [HKQ.out.1]; simp
      rw [hl9]
      have hsz := HB7.out.2.2.1.size
      have hsz1 := HB7.out.2.1.size
      have hsz7 := HB7.out.1.size
      have hAB : PA < u5.heap.size → PA ≠ QA := fun h e => by
        rcases HX.out.2.2.1 with h1 | h1 <;> rcases HX.out.2.2.2.2.1 with h2 | h2 <;> have hs12 := HB.out.2.1.size <;> omega
      -- what lies below and apart from the two rows
      have hk : ∀ g, g < u5.heap.size → g ≠ PA → g ≠ QA → u9.heap[g]? = u5.heap[g]? := fun g h1 h2 h3 => (hfr9.block g h1 h3).trans ((HO.out.2.block g h1 h2).trans (HB7.out.1.block g h1))
      have hPA2 : ∀ g, u2.heap.size ≤ g → g < u5.heap.size → g ≠ PA ∧ g ≠ QA := fun g h1 h2 => by
        have hs12 := HB.out.2.1.size
        exact ⟨by rcases HX.out.2.2.1 with h | h <;> omega, by rcases HX.out.2.2.2.2.1 with h | h <;> omega⟩
      have s35 := HB7.out.2.2.2.size
      have s79 : u5.heap.size ≤ u9.heap.size := by have := hfr9.size; have := HO.out.2.size; omega
      have s24 : u2.heap.size ≤ wr.heap.size := by have := HW.out.2.1.size; omega
      have s45 := HKQ.out.2.2.1.size
      have hKA : RowL IntT u9 TT (.slice ka kp.length kb) kp := HKP.out.2.1.keep ⟨by omega, fun g hg hl => (hk g (by omega) (hPA2 g hg (by omega)).1 (hPA2 g hg (by omega)).2).trans (HB7.out.2.2.2.block g hl), fun _ _ _ => trivial⟩
      have hKQ : RowL IntT u9 TT (.slice ma kq.length mc) kq := HKQ.out.2.1.keep ⟨by omega, fun g hg hl => hk g hl (hPA2 g (by omega) hl).1 (hPA2 g (by omega) hl).2, fun _ _ _ => trivial⟩
      have hLA : Locs u9 d8 kp := by
        rw [HKP.out.1]
        refine HO.out.1.keepL hfr9.size (fun hn => ?_)
        have hrs : 0 < rs.length := by
          have h := (run_keeps (locd rs)).2.2.2.length_le
          have h2 : (locd rs).length = rs.length := by simp [locd]
          omega
        have hp := (HX.out.2.1 hrs).2.1
        exact hfr9.block PA (by omega) (hAB (by omega))
      have hLQ : Locs u9 d9 kq := by
        rw [HKQ.out.1]
        exact hout9.locs
      have hB9 : Below w.heap.size w u9 := by
        have h15 := HA.out.2.1.trans (HB7.out.2.1.mono HA.out.2.1.size)
        have hs1 := HA.out.2.1.size
        have hs12 := HB.out.2.1.size
        refine h15.trans ⟨hfr9.os.trans (HO.out.2.os.trans HB7.out.1.os), hfr9.tape.trans (HO.out.2.tape.trans HB7.out.1.tape), hfr9.output.trans (HO.out.2.output.trans HB7.out.1.output), s79, fun g hg => hk g (by omega) ?_ ?_⟩
        · rcases HX.out.2.2.1 with h | h <;> omega
        · rcases HX.out.2.2.2.2.1 with h | h <;> omega
      have hbdA : ∀ x ∈ kp, 0 ≤ x ∧ x < 1000000 := fun x hx => by
        have := HKB.out.1 x hx
        rw [HKB.out.2] at this
        omega
      have hbdQ : ∀ x ∈ kq, 0 ≤ x ∧ x < 1000000 := fun x hx => by
        have := HKQ.out.2.2.2.1 x hx
        rw [HKQ.out.2.2.2.2] at this
        omega
      have HC1 := hid (sl13 d8 ka c8 kb kp TT u9 hkn hbdA hLA hKA)
      have HC2 := hid (And.intro hbdQ (And.intro hLQ (And.intro hKQ hB9)))
      clear hl9 hsz hsz1 hsz7 hAB hk hPA2 s35 s79 s24 s45 hKA hKQ hLA hLQ hB9 hbdA hbdQ hout9 hfr9
      go_wp2_with fail
      refine HC1.out.mono ?_
      rintro e v1 hR
      obtain ⟨rfl, hbv⟩ := hR.ex
      have HC3 := hid (sl13 d9 ma c9 mc kq TT v1 hqn HC2.out.1 (HC2.out.2.1.below hbv) (HC2.out.2.2.1.below hbv))
      have HBV := hid (HC2.out.2.2.2.trans (hbv.mono HC2.out.2.2.2.size))
      clear hR hbv HC1
      go_wp2_with fail
      refine HC3.out.mono ?_
      rintro e v2 hR
      obtain ⟨rfl, hbv⟩ := hR.ex
      have HBW := hid (HBV.out.trans (hbv.mono HBV.out.size))
      clear hR hbv HC3
      go_wp2_with fail
      go_ret
      exact ⟨rfl, HBW.out⟩
end Go.Proofs.Ytphimfimnakclaa
