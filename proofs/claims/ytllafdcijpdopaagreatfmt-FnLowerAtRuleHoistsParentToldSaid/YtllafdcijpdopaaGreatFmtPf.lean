/-
  The lists of selectors and of declarations built. Conditions: each theorem's own.
-/
import Derived.Test.YtllafdcijpdopaaGreatFmtPe
namespace Go.Proofs.YtllafdcijpdopaaGreatFmt
open Go.RowKit Go.Lib
structure RowR {α : Type} {sz : Nat} (T : Elt α sz) (tid : TypeId) (ms : List α) (w : World) (e : Ending) (w' : World) : Prop where
  ex : ∃ v, e = .returned v ∧ BO T tid w.heap.size v ms w' ∧ Below w.heap.size w w'
structure BL {α : Type} {sz : Nat} (T : Elt α sz) (tid : TypeId) (ms : List α) (w : World) (g : Nat) (v4 v3 : Value) (wx : World) : Prop where
  ex : ∃ i : Nat, i + g = ms.length ∧ v4 = .int .i64 i ∧ Below w.heap.size w wx ∧ BO T tid w.heap.size v3 (ms.take i) wx
theorem grown_below {w0 w w' : World} {o : Obj} {row : Option Nat} (hb : Below w0.heap.size w0 w) (hg : (w.alloc o).grownBy w' row) (hr : ∀ g, row = some g → w0.heap.size ≤ g) : Below w0.heap.size w0 w' :=
  (hb.alloc hb.size o).grown hg (by have := hb.size; simp; omega) hr
abbrev zzCmp : Value := .agg #[.pointer none, .slice none 0 0, .slice none 0 0, .int .i32 0, .int .u8 0, .bool false]
set_option maxHeartbeats 8000000 in
set_option maxRecDepth 100000 in
theorem cmps23 (v : Value) (ms : List Cm) (w : World) (h : CmpsAt w v ms) (hb : BndC ms) :
    Calls Tryz.prog 23 #[v] w fun e w' => RowR CmpT 134 ms w e w' := by
  obtain ⟨a, c, rfl, hx⟩ := h.ex
  have hn := hb.p
  have hm := mkS0 63 134 _ 6 72 Tryz.underlying63 info134 (by decide) ms.length (by omega)
  have H0 := hid (BO.made CmpT 134 zzCmp ms.length w.heap.size w (by omega) (Nat.le_refl _))
  have HX := hid hx
  have HB := hid hb
  have B0 := hid ((Below.refl w.heap.size w).alloc (Nat.le_refl _) (mkO zzCmp (ms.length * 6) 134))
  clear h hx hb
  go_enter Tryz.func23, Tryz.ntmps23
  go_wp2_with fail
  clear hm
  go_loopg [4, 3] ms.length (fun g v4 v3 wx => BL CmpT 134 ms w g v4 v3 wx)
  case atStart => exact ⟨0, by omega, by first | rfl | simp, B0.out, H0.out⟩
  case round =>
    obtain ⟨i, hig, rfl, hbel, hbo⟩ := hrel.ex
    clear hrel B0 H0
    cases gk with
    | zero =>
      have hc : ¬ ((i : Int) < (ms.length : Int)) := by omega
      have hie : ms.take i = ms := List.take_of_length_le (by omega)
      rw [hie] at hbo
      have HL := hid hbel
      have HO := hid hbo
      clear hig hbel hbo hie
      go_wp2_with fail
      go_ret
      exact ⟨_, rfl, HO.out, HL.out⟩
    | succ g =>
      have hi : i < ms.length := by omega
      have hc : (i : Int) < (ms.length : Int) := by omega
      obtain ⟨b, o, rfl, hlt, hcm⟩ := HX.out i hi
      have hcw := hcm.below hlt hbel
      obtain ⟨s, q0, q1, q2, hs, _, k2⟩ := hcw.ex
      obtain ⟨va, vc, hv⟩ := hbo.shape
      have hil : (ms.take i).length = i := by rw [List.length_take]; omega
      rw [hil] at hv
      obtain rfl := hv.symm
      have htk : ms.take (i + 1) = ms.take i ++ [ms[i]] := List.take_succ_eq_append_getElem hi
      have e5 : IntKind.i64.wrap ((i : Int) + 1) = ((i + 1 : Nat) : Int) := by rw [IntKind.wrap_i64]; omega
      have hltx : b < wr.heap.size := Nat.lt_of_lt_of_le hlt hbel.size
      have C34 := hid (cmp34 ms[i] s wr hs k2 (HB.out.at' hi))
      have HL := hid hbel
      have HO := hid hbo
      have HTK := hid htk
      have HIL := hid hil
      obtain ⟨M, hM⟩ : ∃ M, ms[i] = M := ⟨_, rfl⟩
      rw [hM] at q0 q1 C34 HTK
      clear hbel hcm hcw hs hbo htk hil hM
      go_wp2_with fail
      refine C34.out.mono ?_
      rintro e w5 ⟨v5, la5, lc5, rfl, hr5, hb5⟩
      obtain ⟨a5, c5, rfl, hx5⟩ := hr5
      have hB5 := HO.out.below hb5
      obtain ⟨g7, c7, w7, ha7, hr7, hg7⟩ := hB5.app 63 134 _ 72 [.pointer none, .slice a5 M.names.length c5, .slice la5 M.amps lc5, .int .i32 0, .int .u8 M.comb, .bool false] M Tryz.underlying63 info134 rfl (by decide) (by decide) rfl (by intro u hu; simp at hu; rcases hu with rfl | rfl | rfl | rfl | rfl | rfl <;> rfl) ⟨rfl, ⟨_, rfl, RowL.keep (P' := Fr w.heap.size (.slice va i vc)) (Keep.weak w5 fun g hp _ => HO.out.fresh g hp) ⟨a5, c5, rfl, hx5⟩⟩, ⟨_, _, rfl⟩, rfl, rfl, rfl⟩ (by rw [HIL.out]; omega)
      rw [HIL.out] at ha7 hr7
      have HL7 := hid (grown_below (HL.out.trans (hb5.mono HL.out.size)) hg7 (fun g hg => HO.out.ge g hg))
      rw [← HTK.out] at hr7
      have HR7 := hid hr7
      have HA7 := hid ha7
      clear hx5 hb5 hB5 ha7 hr7 hg7 C34
      go_wp2_with (at_builtin; go_loud (refine list_run rfl _ _ 63 rfl (.slice va i vc) (.slice (some ⟨w5.heap.size, 0, none⟩) 1 1) _ w7 rfl rfl HA7.out ?_))
      go_roundg g
      case measure => omega
      case rel => exact ⟨i + 1, by omega, by simp, HL7.out, HR7.out⟩
structure CxR (x : CxM) (w : World) (e : Ending) (w' : World) : Prop where
  ex : ∃ a c, e = .returned (.agg #[.slice a x.length c]) ∧ RowL CmpT w' (fun g => w.heap.size ≤ g) (.slice a x.length c) x ∧ Below w.heap.size w w'
set_option maxHeartbeats 8000000 in
set_option maxRecDepth 100000 in
theorem cx19 (x : CxM) (s : Value) (w : World) (h : CmpsAt w s x) (hb : BndC x) : Calls Tryz.prog 19 #[.agg #[s]] w fun e w' => CxR x w e w' := by
  obtain ⟨a, c, rfl, hx⟩ := h.ex
  obtain ⟨W, hW⟩ : ∃ W, W = (w.alloc (.cells #[.slice a x.length c] 45)).alloc (.cells #[.slice none 0 0] 65) := ⟨_, rfl⟩
  have hWb : Below w.heap.size w W := by rw [hW]; exact ((Below.refl _ _).alloc (Nat.le_refl _) _).alloc (by simp) _
  have hWs : W.heap.size = w.heap.size + 2 := by rw [hW]; simp
  have hWr : W.heap[w.heap.size + 1]? = some (.cells #[.slice none 0 0] 65 (0, 0)) := by
    rw [hW]
    have := heap_alloc_new (w.alloc (.cells #[.slice a x.length c] 45)) (.cells #[.slice none 0 0] 65)
    simpa using this
  have C23 := hid (cmps23 _ x W (h.below hWb) hb)
  have HB := hid hWb
  have HR := hid hWr
  clear h hx hb hWb hWr
  go_enter Tryz.func19, Tryz.ntmps19
  go_wp2_with fail
  rw [← hW]
  refine C23.out.mono ?_
  rintro e w5 ⟨v5, rfl, hr5, hb5⟩
  obtain ⟨a5, c5, hv5⟩ := hr5.shape
  obtain rfl := hv5.symm
  have h5 := (hb5.block (w.heap.size + 1) (by omega)).trans HR.out
  obtain ⟨y1, y1f⟩ := hcell h5 0 _ rfl
  have hlt5 := heap_lt h5
  have z := hset h5 0 (.slice a5 x.length c5)
  have z1 := (hcell z 0 _ rfl).1
  have HBB := hid ((HB.out.trans (hb5.mono HB.out.size)).setCell (p := ⟨w.heap.size + 1, 0, none⟩) (by show _ ≤ _ + 1; omega) (.slice a5 x.length c5))
  have HRR := hid (hr5.done.keep (w' := w5.setCell ⟨w.heap.size + 1, 0, none⟩ (.slice a5 x.length c5)) (P' := fun g => w.heap.size ≤ g) ⟨by simp [World.setCell], fun g hg _ => hother _ _ _ (by omega), fun g hg _ => by omega⟩)
  have Z1 := hid z1
  clear hr5 hb5 h5 z z1 C23 hW
  go_wp2_with fail
  exact bodyPost_ret (v := .agg #[.slice a5 x.length c5]) (by simp [results, Tryz.results19, go_sem, Z1.out]) rfl ⟨_, _, rfl, HRR.out, HBB.out⟩
set_option maxHeartbeats 8000000 in
set_option maxRecDepth 100000 in
theorem cxs10 (v : Value) (xs : List CxM) (w : World) (h : CxsAt w v xs) (hb : Bnd xs) :
    Calls Tryz.prog 10 #[v] w fun e w' => RowR CxT 65 xs w e w' := by
  obtain ⟨a, c, rfl, hx⟩ := h.ex
  have hn := hb.n
  have hm := mkS0 34 65 _ 1 24 Tryz.underlying34 info65 (by decide) xs.length (by omega)
  have H0 := hid (BO.made CxT 65 (.agg #[.slice none 0 0]) xs.length w.heap.size w (by omega) (Nat.le_refl _))
  have HX := hid hx
  have HB := hid hb
  have B0 := hid ((Below.refl w.heap.size w).alloc (Nat.le_refl _) (mkO (.agg #[.slice none 0 0]) (xs.length * 1) 65))
  rw [Nat.mul_one] at hm H0 B0
  clear h hx hb
  go_enter Tryz.func10, Tryz.ntmps10
  go_wp2_with fail
  clear hm
  go_loopg [4, 3] xs.length (fun g v4 v3 wx => BL CxT 65 xs w g v4 v3 wx)
  case atStart => exact ⟨0, by omega, by first | rfl | simp, B0.out, H0.out⟩
  case round =>
    obtain ⟨i, hig, rfl, hbel, hbo⟩ := hrel.ex
    clear hrel B0 H0
    cases gk with
    | zero =>
      have hc : ¬ ((i : Int) < (xs.length : Int)) := by omega
      have hie : xs.take i = xs := List.take_of_length_le (by omega)
      rw [hie] at hbo
      have HL := hid hbel
      have HO := hid hbo
      clear hig hbel hbo hie
      go_wp2_with fail
      go_ret
      exact ⟨_, rfl, HO.out, HL.out⟩
    | succ g =>
      have hi : i < xs.length := by omega
      have hc : (i : Int) < (xs.length : Int) := by omega
      obtain ⟨b, o, s, rfl, hlt, q0', hs0⟩ := HX.out i hi
      have hs := hs0.below hbel
      have q0 := (cellLow (hbel.block b hlt) (o + i)).trans q0'
      obtain ⟨va, vc, hv⟩ := hbo.shape
      have hil : (xs.take i).length = i := by rw [List.length_take]; omega
      rw [hil] at hv
      obtain rfl := hv.symm
      have htk : xs.take (i + 1) = xs.take i ++ [xs[i]] := List.take_succ_eq_append_getElem hi
      have e5 : IntKind.i64.wrap ((i : Int) + 1) = ((i + 1 : Nat) : Int) := by rw [IntKind.wrap_i64]; omega
      have hltx : b < wr.heap.size := Nat.lt_of_lt_of_le hlt hbel.size
      have C19 := hid (cx19 xs[i] s wr hs (HB.out.at' hi))
      have HL := hid hbel
      have HO := hid hbo
      have HTK := hid htk
      have HIL := hid hil
      obtain ⟨M, hM⟩ : ∃ M, xs[i] = M := ⟨_, rfl⟩
      rw [hM] at C19 HTK
      clear hbel hs hs0 q0' hbo htk hil hM
      go_wp2_with fail
      refine C19.out.mono ?_
      rintro e w5 ⟨a5, c5, rfl, hr5, hb5⟩
      have hB5 := HO.out.below hb5
      obtain ⟨g7, c7, w7, ha7, hr7, hg7⟩ := hB5.app 34 65 _ 24 [.slice a5 M.length c5] M Tryz.underlying34 info65 rfl (by decide) (by decide) rfl (by intro u hu; simp at hu; rcases hu with rfl; rfl) ⟨_, rfl, hr5.keep (P' := Fr w.heap.size (.slice va i vc)) (Keep.weak w5 fun g hp _ => HO.out.fresh g hp)⟩ (by rw [HIL.out]; omega)
      rw [HIL.out] at ha7 hr7
      have HL7 := hid (grown_below (HL.out.trans (hb5.mono HL.out.size)) hg7 (fun g hg => HO.out.ge g hg))
      rw [← HTK.out] at hr7
      have HR7 := hid hr7
      have HA7 := hid ha7
      clear hr5 hb5 hB5 ha7 hr7 hg7 C19
      go_wp2_with (at_builtin; go_loud (refine list_run rfl _ _ 34 rfl (.slice va i vc) (.slice (some ⟨w5.heap.size, 0, none⟩) 1 1) _ w7 rfl rfl HA7.out ?_))
      go_roundg g
      case measure => omega
      case rel => exact ⟨i + 1, by omega, by simp, HL7.out, HR7.out⟩
structure D18 (w : World) (e : Ending) (w' : World) : Prop where
  ex : ∃ b, e = .returned (.agg #[.iface 113 (.pointer (some ⟨b, 0, none⟩)), .int .i32 0]) ∧ Below w.heap.size w w'
set_option maxRecDepth 100000 in
theorem decl18 (w : World) : Calls Tryz.prog 18 #[] w fun e w' => D18 w e w' := by
  go_enter Tryz.func18, Tryz.ntmps18
  go_wp2_with fail
  exact bodyPost_ret (v := .agg #[.iface 113 (.pointer (some ⟨w.heap.size + 1, 0, none⟩)), .int .i32 0]) (by simp [results, Tryz.results18, go_sem]) rfl ⟨w.heap.size + 1, rfl, by repeat first | exact Below.refl _ _ | refine Below.setCell ?_ (by simp) _ | refine Below.alloc ?_ (by simp) _⟩
set_option maxHeartbeats 8000000 in
set_option maxRecDepth 100000 in
theorem decls7 (n : Nat) (hn : n ≤ 4096) (w : World) : Calls Tryz.prog 7 #[.int .i64 n] w fun e w' => RowR DecT 30 (List.replicate n ()) w e w' := by
  have hm := mkS0 32 30 _ 2 24 Tryz.underlying32 info30 (by decide) n (by omega)
  have H0 := hid (BO.made DecT 30 (.agg #[.nilIface, .int .i32 0]) n w.heap.size w (by omega) (Nat.le_refl _))
  have B0 := hid ((Below.refl w.heap.size w).alloc (Nat.le_refl _) (mkO (.agg #[.nilIface, .int .i32 0]) (n * 2) 30))
  have hln : (List.replicate n ()).length = n := by simp
  have HLN := hid hln
  clear hln
  go_enter Tryz.func7, Tryz.ntmps7
  go_wp2_with fail
  clear hm
  go_loopg [4, 3] n (fun g v4 v3 wx => BL DecT 30 (List.replicate n ()) w g v4 v3 wx)
  case atStart => exact ⟨0, by rw [HLN.out]; omega, by first | rfl | simp, B0.out, H0.out⟩
  case round =>
    obtain ⟨i, hig, rfl, hbel, hbo⟩ := hrel.ex
    clear hrel B0 H0
    rw [HLN.out] at hig
    cases gk with
    | zero =>
      have hc : ¬ ((i : Int) < (n : Int)) := by omega
      have hie : (List.replicate n ()).take i = List.replicate n () := List.take_of_length_le (by rw [HLN.out]; omega)
      rw [hie] at hbo
      have HL := hid hbel
      have HO := hid hbo
      clear hig hbel hbo hie
      go_wp2_with fail
      go_ret
      exact ⟨_, rfl, HO.out, HL.out⟩
    | succ g =>
      have hi : i < n := by omega
      have hc : (i : Int) < (n : Int) := by omega
      obtain ⟨va, vc, hv⟩ := hbo.shape
      have hil : ((List.replicate n ()).take i).length = i := by rw [List.length_take, HLN.out]; omega
      rw [hil] at hv
      obtain rfl := hv.symm
      have htk : (List.replicate n ()).take (i + 1) = (List.replicate n ()).take i ++ [()] := by
        rw [List.take_succ_eq_append_getElem (by rw [HLN.out]; exact hi)]
      have e5 : IntKind.i64.wrap ((i : Int) + 1) = ((i + 1 : Nat) : Int) := by rw [IntKind.wrap_i64]; omega
      have C18 := hid (decl18 wr)
      have HL := hid hbel
      have HO := hid hbo
      have HTK := hid htk
      have HIL := hid hil
      clear hbel hbo htk hil
      go_wp2_with fail
      refine C18.out.mono ?_
      rintro e w5 ⟨b5, rfl, hb5⟩
      have hB5 := HO.out.below hb5
      obtain ⟨g7, c7, w7, ha7, hr7, hg7⟩ := hB5.app 32 30 _ 24 [.iface 113 (.pointer (some ⟨b5, 0, none⟩)), .int .i32 0] () Tryz.underlying32 info30 rfl (by decide) (by decide) rfl (by intro u hu; simp at hu; rcases hu with rfl | rfl <;> rfl) ⟨⟨b5, rfl⟩, rfl⟩ (by rw [HIL.out]; omega)
      rw [HIL.out] at ha7 hr7
      have HL7 := hid (grown_below (HL.out.trans (hb5.mono HL.out.size)) hg7 (fun g hg => HO.out.ge g hg))
      rw [← HTK.out] at hr7
      have HR7 := hid hr7
      have HA7 := hid ha7
      clear hb5 hB5 ha7 hr7 hg7 C18
      go_wp2_with (at_builtin; go_loud (refine list_run rfl _ _ 32 rfl (.slice va i vc) (.slice (some ⟨w5.heap.size, 0, none⟩) 1 1) _ w7 rfl rfl HA7.out ?_))
      go_roundg g
      case measure => omega
      case rel => exact ⟨i + 1, by rw [HLN.out]; omega, by simp, HL7.out, HR7.out⟩
end Go.Proofs.YtllafdcijpdopaaGreatFmt
