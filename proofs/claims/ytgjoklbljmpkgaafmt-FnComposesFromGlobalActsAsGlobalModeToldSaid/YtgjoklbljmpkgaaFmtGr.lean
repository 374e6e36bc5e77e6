/-
  zzFoldEq against a word of lower-case letters; the copy of the names. Conditions: each theorem's own.
-/
import Derived.Test.YtgjoklbljmpkgaaFmtGq
import Derived.Test.YtgjoklbljmpkgaaFmtGn
namespace Go.Proofs.YtgjoklbljmpkgaaFmt
open Go.RowKit Go.Lib Go.ChangeMaps
structure FoldR (s t : ByteArray) (e : Ending) : Prop where
  ex : ∃ b : Bool, e = .returned (.bool b) ∧ (b = true ↔ Fit s t)
theorem low_eq (c d : Nat) (hd : Good d) : lowA c = d ↔ lEq c d := by
  unfold lowA lEq Good at *
  split <;> omega
structure FoI (s t : ByteArray) (w : World) (g : Nat) (v5 : Value) (wx : World) : Prop where
  ex : ∃ i : Nat, i + g = s.size ∧ v5 = .int .i64 i ∧ Below w.heap.size w wx ∧ ∀ j, j < i → lEq (s.get! j).toNat (t.get! j).toNat
set_option maxHeartbeats 2000000 in
set_option maxRecDepth 100000 in
theorem fold7 (s t : ByteArray) (w : World) (ht : t.size ≤ 100) (hg : ∀ j, j < t.size → Good (t.get! j).toNat) :
    Calls Tryf.prog 7 #[.string s, .string t] w fun e w' => FoldR s t e ∧ Below w.heap.size w w' := by
  have HG := hid hg
  clear hg
  by_cases hst : s.size = t.size
  · have hne : ((s.size : Int) != (t.size : Int)) = false := by simp [hst]
    have hti : (t.size : Int) = (s.size : Int) := by omega
    go_enter Tryf.func7, Tryf.ntmps7
    go_wp2_with fail
    go_loopg [5] s.size (fun g v5 wx => FoI s t w g v5 wx)
    case atStart => exact ⟨0, by omega, by first | rfl | simp, Below.refl _ _, fun j hj => by omega⟩
    case round =>
      obtain ⟨i, hig, rfl, hb, hall⟩ := hrel.ex
      clear hrel
      have HB := hid hb
      clear hb
      cases gk with
      | zero =>
        have hc : ¬ ((i : Int) < (s.size : Int)) := by omega
        have HZ := hid (show Fit s t from ⟨hst, fun j hj => hall j (by omega)⟩)
        clear hall hig hst hne hti
        go_wp2_with fail
        go_ret
        exact ⟨⟨true, rfl, ⟨fun _ => HZ.out, fun _ => rfl⟩⟩, HB.out⟩
      | succ g =>
        have hi : i < s.size := by omega
        have hc : (i : Int) < (s.size : Int) := by omega
        have hc2 : (i : Int) < (t.size : Int) := by omega
        have hit : i < t.size := by omega
        obtain ⟨x, hx⟩ : ∃ x : UInt8, s[i]'(by omega) = x := ⟨_, rfl⟩
        obtain ⟨y, hy⟩ : ∃ y : UInt8, t[i]'(by omega) = y := ⟨_, rfl⟩
        have gx : s.get! i = x := by rw [← hx]; exact Utf8W.get!_of_lt s i (by omega)
        have gy : t.get! i = y := by rw [← hy]; exact Utf8W.get!_of_lt t i (by omega)
        have hgy := HG.out i hit
        rw [gy] at hgy
        have HE := hid (low_eq x.toNat y.toNat hgy)
        have HA := hid hall
        have HXY := hid (And.intro gx gy)
        have CL := hid (low12 x)
        have e5 : IntKind.i64.wrap ((i : Int) + 1) = ((i + 1 : Nat) : Int) := by rw [IntKind.wrap_i64]; omega
        have HST := hid hst
        clear hall gx gy hgy hti hst hne
        by_cases hl : lowA x.toNat = y.toNat
        · have hb : (((lowA x.toNat : Nat) : Int) != (y.toNat : Int)) = false := by simp [hl]
          have HL := hid hl
          clear hl
          go_upto_region 6 with fail
          go_region_with (go_at_call 12; refine (CL.out _).mono ?_; rintro e w' ⟨rfl, hw⟩; obtain rfl := hw.symm)
          all_goals
            go_wp2_with fail
            go_roundg g
            case measure => omega
            case rel =>
              refine ⟨i + 1, by omega, by simp, by repeat first | exact HB.out | refine Below.drew ?_, fun j hj => ?_⟩
              by_cases e : j < i
              · exact HA.out j e
              · obtain rfl : j = i := by omega
                rw [HXY.out.1, HXY.out.2]
                exact HE.out.1 HL.out
        · have hb : (((lowA x.toNat : Nat) : Int) != (y.toNat : Int)) = true := by simp; omega
          have HL := hid hl
          clear hl
          go_upto_region 6 with fail
          go_region_with (go_at_call 12; refine (CL.out _).mono ?_; rintro e w' ⟨rfl, hw⟩; obtain rfl := hw.symm)
          all_goals
            go_wp2_with fail
            go_ret
            refine ⟨⟨false, rfl, ⟨fun h => (by cases h), fun h => ?_⟩⟩, by repeat first | exact HB.out | refine Below.drew ?_⟩
            have := h.2 i hit
            rw [HXY.out.1, HXY.out.2] at this
            exact absurd (HE.out.2 this) HL.out
  · have hne : ((s.size : Int) != (t.size : Int)) = true := by simp; omega
    go_enter Tryf.func7, Tryf.ntmps7
    go_wp2_with fail
    go_ret
    exact ⟨⟨false, rfl, ⟨fun h => (by cases h), fun h => absurd h.1 hst⟩⟩, Below.refl _ _⟩
@[local go_sem] theorem eqn22 (w : World) (a : Option Addr) (n c : Nat) : (binOp .eql 22 (.slice a n c) (.slice none 0 0)).run Tryf.prog w = .ok (.bool a.isNone) w := by
  first | exact Lib.run_eql_slice_nil w 22 9 a n c 0 0 Tryf.underlying22 | exact Lib.run_eql_slice_nil w 22 9 a n c Tryf.underlying22
structure CopyI (sb : Option Addr) (ws : List NM) (M : Nat) (w9 : World) (g : Nat) (v : Value) (wx : World) : Prop where
  ex : ∃ i : Nat, i + g = ws.length ∧ v = .int .i64 i ∧ wx.heap.size = w9.heap.size ∧ (wx.os = w9.os ∧ wx.tape = w9.tape ∧ wx.output = w9.output) ∧ (∀ q, q ≠ M → wx.heap[q]? = w9.heap[q]?) ∧
    ∃ xs, wx.ownsRow M 9 1 (.slice (some ⟨M, 0, none⟩) ws.length ws.length) ws.length xs ∧ ∀ j (h : j < ws.length), j < i → xs[j]? = some (.string (ba ws[j]))
structure CopyR (n : Nat) (ws : List NM) (w : World) (e : Ending) (w' : World) : Prop where
  ex : ∃ sb cap, e = .returned (.slice sb n cap) ∧ NamesAt sb n ws w' ∧ Below w.heap.size w w'
set_option maxHeartbeats 2000000 in
set_option maxRecDepth 100000 in
theorem copy8 (sa : Option Addr) (n cap : Nat) (ws : List NM) (w : World) (h : NamesAt sa n ws w) (hn : n ≤ 4096) (hcap : sa = none → cap = 0) :
    Calls Tryf.prog 8 #[.slice sa n cap] w fun e w' => CopyR n ws w e w' := by
  obtain rfl := h.len.symm
  have HN := hid h
  clear h
  cases sa with
  | none =>
    obtain rfl := hcap rfl
    have h0 : ws.length = 0 := by
      by_cases e : ws.length = 0
      · exact e
      · obtain ⟨g, o, e2, _⟩ := HN.out.cell 0 (by omega)
        cases e2
    obtain rfl : ws = [] := List.eq_nil_of_length_eq_zero h0
    go_enter Tryf.func8, Tryf.ntmps8
    go_wp2_with fail
    exact bodyPost_ret (v := .slice none 0 0) (by simp [results, Tryf.results8, go_sem]) rfl ⟨none, 0, rfl, HN.out, Below.refl _ _⟩
  | some a =>
    have m22 := mkS 22 9 _ 1 16 Tryf.underlying22 info9 (by decide) ws.length (by omega)
    go_enter Tryf.func8, Tryf.ntmps8
    go_upto_block 0 with fail
    have ho := mkO_own w.heap.size (.string ⟨#[]⟩) ws.length 1 9 w (Nat.le_refl _) (by omega)
    rw [Nat.mul_one] at ho
    have hb9 : Below w.heap.size w (w.alloc (mkO (.string ⟨#[]⟩) ws.length 9)) := (Below.refl _ _).alloc (Nat.le_refl _) _
    have hs9 : (w.alloc (mkO (.string ⟨#[]⟩) ws.length 9)).heap.size = w.heap.size + 1 := by simp
    clear m22
    generalize w.alloc (mkO (.string ⟨#[]⟩) ws.length 9) = w9 at *
    generalize hM : w.heap.size = M at *
    have H0 := hid (show CopyI none ws M w9 ws.length (.int .i64 0) w9 from ⟨0, by omega, rfl, rfl, ⟨rfl, rfl, rfl⟩, fun _ _ => rfl, _, ho, fun j h hj => by omega⟩)
    have HB9 := hid hb9
    have HS9 := hid hs9
    have HM := hid hM
    clear ho hb9 hs9 hM
    go_wp2_with fail
    go_loopg [4] ws.length (fun g v wx => CopyI none ws M w9 g v wx)
    case atStart => exact H0.out
    case round =>
      obtain ⟨i, hig, rfl, hsz, hos, hblk, xs, hxo, hx⟩ := hrel.ex
      clear hrel
      have hxl := hxo.1
      cases gk with
      | zero =>
        have hie : i = ws.length := by omega
        have hc : ¬ ((i : Int) < (ws.length : Int)) := by omega
        have HR := hid (show CopyR ws.length ws w (.returned (.slice (some ⟨M, 0, none⟩) ws.length ws.length)) wr from by
          refine ⟨_, _, rfl, ⟨rfl, fun j hj => ⟨M, 0, rfl, by rw [hsz]; have := HS9.out; omega, ?_⟩, HN.out.wf⟩, ?_⟩
          · rw [Nat.zero_add, hxo.cellAt _ (by omega)]
            exact hx j hj (by omega)
          · rw [HM.out]
            exact ⟨hos.1.trans HB9.out.os, hos.2.1.trans HB9.out.tape, hos.2.2.trans HB9.out.output, by rw [hsz]; exact HB9.out.size, fun g hg => (hblk g (by omega)).trans (HB9.out.block g hg)⟩)
        clear hig hie hsz hos hblk hxo hx hxl
        go_wp2_with fail
        go_ret
        exact HR.out
      | succ g =>
        have hi : i < ws.length := by omega
        have hc : (i : Int) < (ws.length : Int) := by omega
        obtain ⟨b, o, e, hbl, hcell⟩ := HN.out.cell i hi
        obtain rfl : a = ⟨b, o, none⟩ := Option.some.inj e
        have q0 : wr.cell? ⟨b, o + i, none⟩ = some (.string (ba ws[i])) := by
          have hbM := HM.out
          rw [World.cell?_of_block (a := ⟨b, o + i, none⟩) ((hblk b (by omega)).trans (HB9.out.block b (by omega)))]
          exact hcell
        have c0 : ∃ x, wr.cell? ⟨M, i, none⟩ = some x := ⟨xs[i]'(by omega), by rw [hxo.cellAt _ (by omega)]; exact List.getElem?_eq_getElem (by omega)⟩
        obtain ⟨x, c0⟩ := c0
        have f0 : wr.frozen? ⟨M, i, none⟩ = false := hxo.frozenAt _
        have HS := hid (show CopyI none ws M w9 g (.int .i64 ((i + 1 : Nat) : Int)) (wr.setCell ⟨M, i, none⟩ (.string (ba ws[i]))) from by
          obtain ⟨o1, o2, o3⟩ := os_set wr ⟨M, i, none⟩ (.string (ba ws[i]))
          refine ⟨i + 1, by omega, rfl, by simp only [World.size_setCell]; exact hsz, ⟨o1.trans hos.1, o2.trans hos.2.1, o3.trans hos.2.2⟩, fun q hq => (heap_setCell_other _ _ _ _ (by simpa using hq)).trans (hblk q hq), _, (hxo.stored i _).1, fun j hj hji => ?_⟩
          by_cases e : j = i
          · subst e; exact List.getElem?_set_self (by omega)
          · rw [List.getElem?_set_ne (by omega)]; exact hx j hj (by omega))
        have e5 : IntKind.i64.wrap ((i : Int) + 1) = ((i + 1 : Nat) : Int) := by rw [IntKind.wrap_i64]; omega
        obtain ⟨nm, hnm⟩ : ∃ nm, ws[i] = nm := ⟨_, rfl⟩
        rw [hnm] at q0 HS
        clear hsz hos hblk hxo hx hxl hnm hcell
        go_wp2_with fail
        go_roundg g
        case measure => omega
        case rel =>
          obtain ⟨i', h1, h2, h3⟩ := HS.out.ex
          exact ⟨i', h1, by simpa using h2, h3⟩
end Go.Proofs.YtgjoklbljmpkgaaFmt
