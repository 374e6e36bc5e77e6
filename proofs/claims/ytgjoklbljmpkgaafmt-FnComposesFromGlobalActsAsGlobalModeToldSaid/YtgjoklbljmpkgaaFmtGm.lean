/-
  handleComposesPragma, walked. Conditions: the parser and the tokens stand as Pre and Toks say.
-/
import Derived.Test.YtgjoklbljmpkgaaFmtGi
namespace Go.Proofs.YtgjoklbljmpkgaaFmt
open Go.RowKit Go.Lib Go.ChangeMaps
open Go.Maps (Keyed IsMap)
abbrev ctxB (B pc : Nat) : Obj := .cells #[.slice (some ⟨B + 5, 0, none⟩) pc pc, .int .i32 0, .int .i32 0, .int .i32 0, .int .i32 0] 100
structure HPost (B pc : Nat) (ns : List NM) (fg ml : Bool) (w : World) (e : Ending) (w' : World) : Prop where
  ret : e = .returned (.tuple #[])
  os : w'.os = w.os ∧ w'.tape = w.tape ∧ w'.output = w.output
  size : w.heap.size ≤ w'.heap.size
  block : ∀ g, g < w.heap.size → g ≠ B + 2 → g ≠ B + 3 → g ≠ B + 4 → (∀ k, k < pc → g ≠ B + 6 + k) → w'.heap[g]? = w.heap[g]?
  ex : ∃ (base : Nat) (vS vL : Value) (xS xL : List Value) (rows : Nat → Value), w.heap.size ≤ base ∧ w'.cell? ⟨B + 4, 21, none⟩ = some vS ∧ w'.cell? ⟨B + 4, 22, none⟩ = some (.map (some (B + 1))) ∧ w'.cell? ⟨B + 4, 23, none⟩ = some vL ∧ w'.cell? ⟨B + 4, 54, none⟩ = some (.bool ml) ∧
    w'.ownsRow base 110 10 vS (dist (flat pc ns)).length xS ∧ SymX (ml && !fg) (flat pc ns) xS ∧ w'.ownsRow base 102 3 vL (if (ml && !fg) then (dist (flat pc ns)).length else 0) xL ∧ RowsX base B pc ns pc 0 vS vL rows w'
structure Stand (c : PC) (B pc : Nat) (ns : List NM) (sa : Option Addr) (scap : Nat) (N : Nat) (w : World) : Prop where
  ctx : w.cell? ⟨N, 0, none⟩ = some (.slice (some ⟨B + 5, 0, none⟩) pc pc)
  pr : ∀ i, i < pc → w.cell? ⟨B + 5, i * 2, none⟩ = some (.int .u32 1) ∧ w.cell? ⟨B + 5, i * 2 + 1, none⟩ = some (.int .u32 i)
  mc : ∃ n D, w.ownsMap Tryf.prog 84 ptrE (B + 1) n D ∧ CompX B pc D
  nm : ∀ j (hj : j < ns.length), ∃ g, sa = some ⟨g, 0, none⟩ ∧ B + 6 + pc < g ∧ g < w.heap.size ∧ w.cell? ⟨g, j * 2, none⟩ = some (.int .i32 0) ∧ w.cell? ⟨g, j * 2 + 1, none⟩ = some (.string (ba ns[j]))
  inv : w.cell? ⟨1, 0, none⟩ = some (.int .u32 4294967295) ∧ w.cell? ⟨1, 1, none⟩ = some (.int .u32 4294967295)
theorem cellOf {w : World} {b o : Nat} {cs : Array Value} {t : TypeId} (h : w.heap[b]? = some (.cells cs t (0, 0))) : w.cell? ⟨b, o, none⟩ = cs[o]? := by
  unfold World.cell?
  rw [h]
  rfl
abbrev refB (i : Nat) : Obj := .cells #[.int .u32 1, .int .u32 i] 84
abbrev nameB (nm : NM) : Obj := .cells #[.int .i32 0, .string (ba nm)] 121
structure OutI (c : PC) (B pc : Nat) (ns : List NM) (w2 : World) (g : Nat) (v : Value) (wx : World) : Prop where
  ex : ∃ i : Nat, i + g = pc ∧ v = .int .i64 i ∧ LI c B pc ns i 0 w2 wx
structure InI (c : PC) (B pc : Nat) (ns : List NM) (i : Nat) (w2 : World) (g : Nat) (v : Value) (wx : World) : Prop where
  ex : ∃ j : Nat, j + g = ns.length ∧ v = .int .i64 j ∧ LI c B pc ns i j w2 wx
abbrev tokB (nm : NM) : Obj := .cells #[.pointer none, .string (ba nm), .int .i32 0, .int .u32 0, .int .u16 0, .int .u8 29, .int .u8 0] 95
structure LoopI (W1 : World) (ws ns : List NM) (g : Nat) (v26 v6 v7 : Value) (wx : World) : Prop where
  ex : ∃ i : Nat, i + g = ws.length ∧ i ≤ ns.length ∧ v26 = .int .i64 i ∧ v7 = .bool false ∧ NameI W1 ns i v6 wx
set_option maxHeartbeats 80000000 in
set_option maxRecDepth 100000 in
theorem hc13 (B pc : Nat) (ws ns : List NM) (fg ml : Bool) (w : World) (hW : Words ws ns fg) (hK : Toks (B + 6 + pc) ws w) (hT : Tabs w) (hws : ∀ n ∈ ws, n.length ≤ 1048576) (hwl : ws.length ≤ 100000) (hP : Pre B pc ml w) (hn4 : ns.length ≤ 4096) :
    Calls Tryf.prog 13 #[.pointer (some ⟨B + 4, 0, none⟩), .agg #[.slice (some ⟨B + 5, 0, none⟩) pc pc, .int .i32 0, .int .i32 0, .int .i32 0, .int .i32 0], .slice (some ⟨B + 6 + pc, 0, none⟩) ws.length ws.length] w fun e w' => HPost B pc ns fg ml w e w' := by
  have hB1 : Below w.heap.size w (w.alloc (ctxB B pc)) := (Below.refl _ _).alloc (Nat.le_refl _) _
  have HK := hid (hK.below hB1)
  have HT := hid (hT.below hB1)
  have HC := hid (MapKept.heap_alloc w (ctxB B pc)).1
  have HS : (w.alloc (ctxB B pc)).heap.size = w.heap.size + 1 := by simp
  have HB1 := hid hB1
  have HP := hid (hP.below hB1)
  have hpc := hP.hpc
  have hszB := hP.sz
  have HW := hid hW
  have HWS := hid hws
  have hle := hW.le
  clear hK hT hW hws hB1 hP
  go_enter Tryf.func13, Tryf.ntmps13
  go_upto_block 0 with fail
  generalize w.alloc (ctxB B pc) = W1 at *
  go_cut [6, 7] (fun v6 v7 wx => NameE W1 ns fg v6 v7 wx)
  case first =>
    as_aux_lemma =>
    rename_i J KK hJ hKK
    go_wp2_with fail
    go_loopg [26, 6, 7] ws.length (fun g v26 v6 v7 wx => LoopI W1 ws ns g v26 v6 v7 wx)
    case atStart => exact ⟨0, by omega, by omega, rfl, rfl, [], World.ownsRow_nil _ _ _ _, ⟨fun j hj => by omega⟩, Below.refl _ _⟩
    case round =>
      obtain ⟨i, hig, hin, rfl, rfl, hN⟩ := hrel.ex
      obtain ⟨xs, ho, hX, hb⟩ := hN.ex
      clear hrel hN
      obtain ⟨sa, scap, rfl⟩ : ∃ sa scap, u6 = .slice sa i scap := by
        rcases ho.2 with ⟨e, h0⟩ | ⟨g, cap, _, e, _⟩
        · exact ⟨none, 0, by rw [e, h0]⟩
        · exact ⟨_, cap, e⟩
      have HO := hid ho
      have HX := hid hX
      have HB := hid hb
      clear ho hX hb
      cases gk with
      | zero =>
        have hfin := HW.out.fin
        obtain ⟨h1, h2⟩ : i = ns.length ∧ fg = false := by
          rcases hfin with h | h
          · exact ⟨by omega, h.2⟩
          · omega
        have hcmp : ¬ ((i : Int) < (ws.length : Int)) := by omega
        clear hfin
        go_wp2_with fail
        refine Met.intro (hJ _ _ ?_)
        repeat apply Exists.intro
        refine ⟨⟨⟨xs, ?_, ?_, HB.out⟩, ?_⟩, rfl⟩
        · rw [← h1]; exact HO.out
        · rw [← h1]; exact HX.out
        · rw [h2]
      | succ g =>
        have hiw : i < ws.length := by omega
        have hcmp : (i : Int) < (ws.length : Int) := by omega
        obtain ⟨q0, q1, q2, q3, q4, q5, q6⟩ := (HK.out.below HB.out).c i hiw
        have hw2 : IntKind.i64.wrap ((i : Int) + 2) = ((i + 2 : Nat) : Int) := by rw [IntKind.wrap_i64]; omega
        by_cases hil : i < ns.length
        · rw [HW.out.at' i hil] at q1
          have hnl : (ns[i]).length ≤ 1048576 := by
            have := HWS.out (ws[i]) (List.getElem_mem hiw)
            rwa [HW.out.at' i hil] at this
          have hno := HW.out.no i hil
          obtain ⟨nm, hnm⟩ : ∃ nm, ns[i] = nm := ⟨_, rfl⟩
          rw [hnm] at q1 hnl hno
          have hTa : Tabs (wr.alloc (tokB nm)) := (HT.out.below HB.out).below ((Below.refl _ _).alloc (Nat.le_refl _) _)
          have ct := hid (ef14 (ba nm) tFrom (wr.alloc (tokB nm)) hTa (by simp [ba, ByteArray.size]; omega) good_from)
          have tk := (MapKept.heap_alloc wr (tokB nm)).1
          have hoa := HO.out.alloc (tokB nm)
          have hba := HB.out.alloc (B := W1.heap.size) HB.out.size (tokB nm)
          have hsa : (wr.alloc (tokB nm)).heap.size = wr.heap.size + 1 := by simp
          clear hTa HO HB
          have HO := hid hoa
          have HB := hid hba
          clear hoa hba
          go_wp2_with fail
          refine ct.out.mono ?_
          rintro e W2 ⟨⟨b, rfl, hbt⟩, hbel⟩
          have hgr := below_grown hbel (Nat.le_refl _) none
          have tk2 := (hgr.block wr.heap.size (by rw [hsa]; omega) (by simp)).trans tk
          have t1 : W2.cell? ⟨wr.heap.size, 1, none⟩ = some (.string (ba nm)) := by unfold World.cell?; simp [tk2]
          have t2 : W2.cell? ⟨wr.heap.size, 2, none⟩ = some (.int .i32 0) := by unfold World.cell?; simp [tk2]
          have ho2 := HO.out.kept hgr (by
            by_cases e : (Value.slice sa i scap).ownBlock = none
            · exact Or.inl e
            · exact Or.inr e)
          have hb2 := HB.out.trans (hbel.mono HB.out.size)
          obtain ⟨g3, k3, w3, ha3, ho3, hg3, hat3⟩ := appN (w := W2) W1.heap.size 111 121 _ 2 24 [.int .i32 0, .string (ba nm)] xs i (.slice sa i scap) Tryf.underlying111 info121 rfl (by decide) (by decide) ho2 rfl (by intro u hu; simp at hu; rcases hu with rfl | rfl <;> rfl) (by omega) hb2.size
          have hX3 := HX.out.snoc ho2.1 hil
          rw [hnm] at hX3
          have hb3 := (hb2.alloc hb2.size (.cells #[.int .i32 0, .string (ba nm)] 121)).trans (grown_below hg3 (fun g hg => (ho2.lt g hg).1) (by simp; exact Nat.le_trans hb2.size (by omega)))
          have HA := hid ha3
          have HO3 := hid ho3
          have HX3 := hid hX3
          have HB3 := hid hb3
          clear ct tk2 hgr hbel HO HX HB ho2 hb2 ha3 ho3 hg3 hat3 hX3 hb3 q0 q1 q2 q3 q4 q5 q6 tk
          have hbn : b = true → i + 2 ≠ ws.length := fun h e => hno e (hbt h)
          clear hno hbt
          have hw1 : IntKind.i64.wrap ((i : Int) + 1) = ((i + 1 : Nat) : Int) := by rw [IntKind.wrap_i64]; omega
          cases b with
          | false =>
            clear hbn
            go_wp2_with (at_builtin; go_loud (refine list_run rfl _ _ 111 rfl (.slice sa i scap) (.slice (some ⟨W2.heap.size, 0, none⟩) 1 1) _ w3 rfl rfl HA.out ?_))
            go_roundg g
            case measure => omega
            case rel => exact ⟨i + 1, by omega, by omega, by simp, rfl, _, HO3.out, HX3.out, HB3.out⟩
          | true =>
            have hne := hbn rfl
            have hneq : ((i : Int) + 2 == (ws.length : Int)) = false := beq_eq_false_iff_ne.2 (by omega)
            clear hbn
            go_wp2_with (at_builtin; go_loud (refine list_run rfl _ _ 111 rfl (.slice sa i scap) (.slice (some ⟨W2.heap.size, 0, none⟩) 1 1) _ w3 rfl rfl HA.out ?_))
            go_roundg g
            case measure => omega
            case rel => exact ⟨i + 1, by omega, by omega, by simp, rfl, _, HO3.out, HX3.out, HB3.out⟩
        · have hfin := HW.out.fin
          obtain ⟨hl2, hfg, cF, cG⟩ : ws.length = ns.length + 2 ∧ fg = true ∧ _ := by
            rcases hfin with h | h
            · omega
            · exact h
          obtain rfl : i = ns.length := by omega
          have CF := hid (cF (by omega) (wr.alloc (tokB (ws[ns.length]'(by omega)))))
          obtain ⟨nm, hnm⟩ : ∃ nm, ws[ns.length]'(by omega) = nm := ⟨_, rfl⟩
          rw [hnm] at CF q1
          obtain ⟨p0, p1, p2, p3, p4, p5, p6⟩ := (HK.out.below HB.out).c (ns.length + 1) (by omega)
          have CG := hid (cG (by omega) ((wr.alloc (tokB nm)).alloc (tokB (ws[ns.length + 1]'(by omega)))))
          obtain ⟨nm2, hnm2⟩ : ∃ nm2, ws[ns.length + 1]'(by omega) = nm2 := ⟨_, rfl⟩
          rw [hnm2] at CG p1
          have htb := (HK.out.below HB.out).lt
          have hw1 : IntKind.i64.wrap ((ns.length : Int) + 1) = ((ns.length + 1 : Nat) : Int) := by rw [IntKind.wrap_i64]; omega
          have hidx : ns.length + 1 < ws.length := by omega
          have heq : ((ns.length : Int) + 2 == (ws.length : Int)) = true := beq_iff_eq.2 (by omega)
          clear hnm hnm2 cF cG hfin hl2 hig
          go_wp2_with fail
          refine CF.out.mono ?_
          rintro e wx ⟨rfl, hw⟩
          obtain rfl := hw.symm
          go_wp2_with fail
          refine CG.out.mono ?_
          rintro e wx ⟨rfl, hw⟩
          obtain rfl := hw.symm
          go_wp2_with fail
          refine Met.intro (hJ _ _ ?_)
          repeat apply Exists.intro
          refine ⟨⟨⟨xs, (HO.out.alloc _).alloc _, HX.out, (HB.out.alloc HB.out.size _).alloc (by simp; exact Nat.le_trans HB.out.size (by omega)) _⟩, ?_⟩, rfl⟩
          rw [hfg]
  case rest =>
    obtain ⟨hN, rfl⟩ := hcut.ex
    obtain ⟨xs, ho, hX, hb⟩ := hN.ex
    clear hcut hN
    have HP2 := hid (HP.out.below hb)
    have HT2 := hid (HT.out.below hb)
    have hctx : wc.heap[w.heap.size]? = some (ctxB B pc) := (hb.block _ (by omega)).trans HC.out
    have hbw := HB1.out.trans (hb.mono (by omega))
    have hsz2 : W1.heap.size ≤ wc.heap.size := hb.size
    clear HP HT HC HB1 hb
    obtain ⟨sa, scap, rfl⟩ : ∃ sa scap, u6 = .slice sa ns.length scap := by
      rcases ho.2 with ⟨e, h0⟩ | ⟨g, cap, _, e, _⟩
      · exact ⟨none, 0, by rw [e, h0]⟩
      · exact ⟨_, cap, e⟩
    have HO := hid ho
    have HX := hid hX
    have HBW := hid hbw
    have HCT := hid hctx
    clear ho hX hbw hctx
    have q54 := HP2.out.c54
    have f54 := HP2.out.fr 54
    go_upto_if 209 with fail
    go_cut [] (fun wx => WEq wx (modeW B fg wc))
    case first =>
      rename_i J KK hJ hKK
      cases fg with
      | true =>
        go_wp2_with fail
        refine Met.intro (hJ _ _ ?_)
        repeat apply Exists.intro
        exact ⟨⟨rfl⟩, rfl⟩
      | false =>
        go_wp2_with fail
        refine Met.intro (hJ _ _ ?_)
        repeat apply Exists.intro
        exact ⟨⟨rfl⟩, rfl⟩
    case rest =>
      have hw := hcut.ex
      obtain rfl := hw.symm
      clear hcut hw q54 f54
      have hB6 : B + 6 ≤ wc.heap.size := by omega
      have hPS := PSinit (fg := fg) HP2.out hB6
      have hRI := RowsInit (fg := fg) HP2.out ns
      obtain ⟨c, hc⟩ : ∃ c, mkc B (ml && !fg) wc.heap.size hB6 = c := ⟨_, rfl⟩
      have hA : Apart c B pc := hc ▸ mkc_apart B pc _ _ hB6 (by omega) HP2.out.gl
      have hcb : c.base = wc.heap.size := by rw [← hc]; rfl
      have hcp : c.pb = B + 4 := hA.pb
      have hccm : c.cm = B + 1 := by rw [← hc]; rfl
      have hcm : c.m = (ml && !fg) := by rw [← hc]; rfl
      have hcmb : c.mb = B + 2 ∨ c.mb = B + 3 := by rw [← hc]; unfold PC.mb mkc; dsimp only; split; exact Or.inl rfl; exact Or.inr rfl
      rw [hc] at hPS
      rw [← hcb] at hRI
      have ms : (modeW B fg wc).heap.size = wc.heap.size := modeW_size B fg wc
      have hLI : LI c B pc ns 0 0 (modeW B fg wc) (modeW B fg wc) := ⟨_, _, _, by rw [part_zero, flat_zero]; exact hPS, hRI, Fr.refl _ _ _⟩
      have hSt : Stand c B pc ns sa scap w.heap.size (modeW B fg wc) := by
        have bk : ∀ g, g ≠ B + 4 → (modeW B fg wc).heap[g]? = wc.heap[g]? := fun g hg => modeW_block B fg wc g hg
        obtain ⟨nD, D, hm, hD⟩ := HP2.out.mc
        refine ⟨?_, fun i hi => ?_, ⟨nD, D, ?_, hD⟩, fun j hj => ?_, ?_⟩
        · rw [World.cell?_of_block (a := ⟨w.heap.size, 0, none⟩) (bk w.heap.size (by omega))]
          unfold World.cell?
          simp [HCT.out]
        · rw [World.cell?_of_block (a := ⟨B + 5, i * 2, none⟩) (bk (B + 5) (by omega)), World.cell?_of_block (a := ⟨B + 5, i * 2 + 1, none⟩) (bk (B + 5) (by omega))]
          exact HP2.out.pr i hi
        · obtain ⟨es, clock, hx, F, hs, hDD⟩ := hm
          exact ⟨es, clock, by rw [bk (B + 1) (by omega)]; exact hx, F, hs, hDD⟩
        · have hlt : j < ns.length := hj
          rcases HO.out.2 with ⟨e, h0⟩ | ⟨g, cap, cur, e, hgb, _⟩
          · omega
          · simp only [Value.slice.injEq] at e
            obtain ⟨rfl, -, rfl⟩ := e
            have hgl := (HO.out.lt g rfl).2
            obtain ⟨h1, h2⟩ := HX.out.ex j hj hj
            refine ⟨g, rfl, by omega, by omega, ?_, ?_⟩
            · rw [World.cell?_of_block (a := ⟨g, j * 2, none⟩) (bk g (by omega)), HO.out.cellAt _ (by omega)]; exact h1
            · rw [World.cell?_of_block (a := ⟨g, j * 2 + 1, none⟩) (bk g (by omega)), HO.out.cellAt _ (by omega)]; exact h2
        · have gl := HP2.out.gl
          rw [World.cell?_of_block (a := ⟨1, 0, none⟩) (bk 1 (by omega)), World.cell?_of_block (a := ⟨1, 1, none⟩) (bk 1 (by omega))]
          exact HT2.out.inv
      have hFw : ∀ g, g < w.heap.size → g ≠ B + 4 → (modeW B fg wc).heap[g]? = w.heap[g]? := fun g h1 h2 => (modeW_block B fg wc g h2).trans (HBW.out.block g h1)
      have hOs : (modeW B fg wc).os = w.os ∧ (modeW B fg wc).tape = w.tape ∧ (modeW B fg wc).output = w.output := by
        refine ⟨?_, ?_, ?_⟩
        · unfold modeW; split
          · exact HBW.out.os
          · exact HBW.out.os
        · unfold modeW; split
          · exact HBW.out.tape
          · exact HBW.out.tape
        · unfold modeW; split
          · exact HBW.out.output
          · exact HBW.out.output
      have HL := hid hLI
      have HS2 := hid hSt
      have HFW := hid hFw
      have HOS := hid hOs
      have hgl := HP2.out.gl
      have hwb : w.heap.size ≤ c.base := by omega
      have hcw : (modeW B fg wc).heap.size = c.base := by omega
      have HNL := hid (fun n hn => HWS.out n hn)
      clear hLI hSt hFw hOs hPS hRI HP2 HT2 HO HX HBW HCT ms hc
      generalize modeW B fg wc = W2 at *
      have qctx := HS2.out.ctx
      go_upto_block 7 with fail
      clear qctx
      go_cut [] (fun wx => LI c B pc ns pc 0 W2 wx)
      case first =>
        rename_i J KK hJ hKK
        go_wp2_with fail
        go_loopg [216] pc (fun g v216 wx => OutI c B pc ns W2 g v216 wx)
        case atStart => exact ⟨0, by omega, by first | rfl | simp, HL.out⟩
        case round =>
          obtain ⟨i, hig, rfl, hLI⟩ := hrel.ex
          clear hrel
          cases gk with
          | zero =>
            obtain rfl : i = pc := by omega
            have hcmp : ¬ ((i : Int) < (i : Int)) := by omega
            go_wp2_with fail
            refine Met.intro (hJ _ _ ?_)
            repeat apply Exists.intro
            exact ⟨hLI, rfl⟩
          | succ go =>
            have hi : i < pc := by omega
            have hcmp : (i : Int) < (pc : Int) := by omega
            obtain ⟨vS, vL, rows, h1, h2, h3⟩ := hLI.ex
            have hAb := hA.base
            have nE : ∀ g, g < c.base → g ≠ B + 4 → g ≠ B + 2 → g ≠ B + 3 → (∀ k, k < pc → g ≠ B + 6 + k) → ¬ EE c B pc g := by
              rintro g - n1 n2 n3 n4 (e | e | ⟨k, hk, e⟩)
              · omega
              · omega
              · exact n4 k hk e
            have bk : ∀ g, g < c.base → g ≠ B + 4 → g ≠ B + 2 → g ≠ B + 3 → (∀ k, k < pc → g ≠ B + 6 + k) → wr.heap[g]? = W2.heap[g]? := fun g e1 e2 e3 e4 e5 => h3.block g (by omega) (nE g e1 e2 e3 e4 e5)
            have q0 : wr.cell? ⟨B + 5, i * 2, none⟩ = some (.int .u32 1) := (World.cell?_of_block (a := ⟨B + 5, i * 2, none⟩) (bk (B + 5) (by omega) (by omega) (by omega) (by omega) (fun k hk => by omega))).trans (HS2.out.pr i hi).1
            have q1 : wr.cell? ⟨B + 5, i * 2 + 1, none⟩ = some (.int .u32 i) := (World.cell?_of_block (a := ⟨B + 5, i * 2 + 1, none⟩) (bk (B + 5) (by omega) (by omega) (by omega) (by omega) (fun k hk => by omega))).trans (HS2.out.pr i hi).2
            obtain ⟨nD, D, hm, hD⟩ := HS2.out.mc
            have hmr : wr.ownsMap Tryf.prog 84 ptrE (B + 1) nD D := by
              obtain ⟨es, clock, hx, F, hs, hDD⟩ := hm
              exact ⟨es, clock, by rw [bk (B + 1) (by omega) (by omega) (by omega) (by omega) (fun k hk => by omega)]; exact hx, F, hs, hDD⟩
            have hwr : c.base ≤ wr.heap.size := h1.sz
            have q22 : wr.cell? ⟨B + 4, 22, none⟩ = some (.map (some (B + 1))) := by
              obtain ⟨xS, xL, DD, hPW, _, _⟩ := h1.ex
              rw [← hcp, hPW.c22, hccm]
            have hLa := hLI.alloc hA (by omega) h3.size (refB i)
            have lk := hid (look39 (w := (wr.alloc (refB i)).drew) (hmr.alloc (refB i)).drew hD i hi hpc)
            have tk := (MapKept.heap_alloc wr (refB i)).1
            have t0 : (wr.alloc (refB i)).drew.cell? ⟨wr.heap.size, 0, none⟩ = some (.int .u32 1) := by
              exact (show (wr.alloc (refB i)).cell? _ = _ from cellOf tk)
            have t1 : (wr.alloc (refB i)).drew.cell? ⟨wr.heap.size, 1, none⟩ = some (.int .u32 i) := by
              exact (show (wr.alloc (refB i)).cell? _ = _ from cellOf tk)
            have hp22 : B + 4 < wr.heap.size := by omega
            have HLa := hid hLa.drew
            clear hLI h1 h2 h3 nE bk hmr hm hD tk hLa
            go_wp2_with fail
            have lk2 := lk.out
            go_region
            clear lk2 lk t0 t1 q0 q1 q22 hp22
            generalize (wr.alloc (refB i)).drew = Wa at *
            go_wp2_with fail
            go_loopg [228] ns.length (fun g v wx => InI c B pc ns i W2 g v wx)
            case atStart => exact ⟨0, by omega, by first | rfl | simp, HLa.out⟩
            case round =>
              obtain ⟨j, hjg, rfl, hLI⟩ := hrel.ex
              clear hrel HLa
              cases gk with
              | zero =>
                obtain rfl : j = ns.length := by omega
                have hcj : ¬ ((ns.length : Int) < (ns.length : Int)) := by omega
                have hw1 : IntKind.i64.wrap ((i : Int) + 1) = ((i + 1 : Nat) : Int) := by rw [IntKind.wrap_i64]; omega
                have HLN := hid hLI.next
                clear hLI
                go_wp2_with fail
                go_roundg go
                case measure => omega
                case rel => exact ⟨i + 1, by omega, by simp, HLN.out⟩
              | succ gi =>
                have hj : j < ns.length := by omega
                have hcj : (j : Int) < (ns.length : Int) := by omega
                obtain ⟨vS, vL, rows, h1, h2, h3⟩ := hLI.ex
                obtain ⟨g, rfl, hg1, hg2, n0, n1⟩ := HS2.out.nm j hj
                have hwr2 : c.base ≤ wr.heap.size := h1.sz
                have bk : wr.heap[g]? = W2.heap[g]? := h3.block g hg2 (by
                  rintro (e | e | ⟨k, hk, e⟩)
                  · omega
                  · omega
                  · omega)
                have nE1 : ¬ EE c B pc 1 := by
                  rintro (e | e | ⟨k, hk, e⟩)
                  · omega
                  · omega
                  · omega
                have bk1 : wr.heap[1]? = W2.heap[1]? := h3.block 1 (by omega) nE1
                have q0 : wr.cell? ⟨g, j * 2, none⟩ = some (.int .i32 0) := (World.cell?_of_block (a := ⟨g, j * 2, none⟩) bk).trans n0
                have q1 : wr.cell? ⟨g, j * 2 + 1, none⟩ = some (.string (ba ns[j])) := (World.cell?_of_block (a := ⟨g, j * 2 + 1, none⟩) bk).trans n1
                have hnl : (ns[j]).length ≤ 1048576 := by
                  have hjw : j < ws.length := by omega
                  have := HNL.out (ws[j]) (List.getElem_mem hjw)
                  rwa [HW.out.at' j hj] at this
                have hPa := (h1.alloc (nameB ns[j])).drew
                have hRa := (h2.alloc (by omega) (nameB ns[j])).drew
                have hFa := (h3.alloc (Nat.le_refl _) (nameB ns[j])).drew
                have i0 : (wr.alloc (nameB ns[j])).drew.heap[1]? = W2.heap[1]? := ((World.grownBy_alloc wr (nameB ns[j]) none).block 1 (by omega) (by simp)).trans bk1
                have hcall := symQ c B pc hA ns i j hj hi hpc hn4 hnl vS vL _ hPa ⟨(World.cell?_of_block (a := ⟨1, 0, none⟩) i0).trans HS2.out.inv.1, (World.cell?_of_block (a := ⟨1, 1, none⟩) i0).trans HS2.out.inv.2⟩
                have hcn : cnt ns i j i = j := by unfold cnt; rw [if_neg (by omega), if_pos rfl]
                obtain ⟨xs0, ho0, hx0⟩ := h2.own i hi
                rw [hcn] at ho0
                obtain ⟨ra, rcap, hri⟩ : ∃ ra rcap, rows i = .slice ra j rcap := by
                  rcases ho0.2 with ⟨e, h0⟩ | ⟨g, cap, _, e, _⟩
                  · exact ⟨none, 0, by rw [e, h0]⟩
                  · exact ⟨_, cap, e⟩
                have hsn : ∀ xs, IdxX ns j xs → xs.length = j * 3 → IdxX ns (j + 1) (xs ++ [.int .i32 0, .int .u32 0, .int .u32 ((dist ns).idxOf ns[j] : Nat)]) := fun xs hx hl => hx.snoc hl hj
                obtain ⟨nm, hnm⟩ : ∃ nm, ns[j] = nm := ⟨_, rfl⟩
                rw [hnm] at q1 hPa hRa hFa hcall hsn
                rw [hcp] at hcall
                have tk := (MapKept.heap_alloc wr (nameB nm)).1
                have t0 : (wr.alloc (nameB nm)).drew.cell? ⟨wr.heap.size, 0, none⟩ = some (.int .i32 0) := (show (wr.alloc (nameB nm)).cell? _ = _ from cellOf tk)
                have t1 : (wr.alloc (nameB nm)).drew.cell? ⟨wr.heap.size, 1, none⟩ = some (.string (ba nm)) := (show (wr.alloc (nameB nm)).cell? _ = _ from cellOf tk)
                have hcl := hRa.cell i hi
                rw [hri] at hcl
                have y0 := hcl.1
                have hRs := hPa.sz
                have hlS : ∀ g, vS.ownBlock = some g → c.base ≤ g := fun g hg => (hPa.ltS g hg).1
                have hlL : ∀ g, vL.ownBlock = some g → c.base ≤ g := fun g hg => (hPa.ltL g hg).1
                have HC := hid hcall
                have HR := hid hRa
                have HF := hid hFa
                have HSN := hid hsn
                have HLS := hid hlS
                have HLL := hid hlL
                clear hLI h1 h2 h3 bk bk1 nE1 n0 n1 hPa hRa hFa i0 hcall ho0 hx0 hsn tk hcl hlS hlL hnl hnm
                go_upto_block 10 with fail
                go_cut [] (fun wx => LI c B pc ns i (j + 1) W2 wx)
                case first =>
                  rename_i J2 KK2 hJ2 hKK2
                  go_wp2_with fail
                  clear q0 q1
                  have hplt : B + 6 + i < wr.heap.size := by omega
                  have hc6 : B + 6 + i < c.base := by omega
                  go_region_law (first
                    | (refine step_run rfl (.tmp 236) (.tmp 243) 64 rfl (.slice ra j rcap) (.slice (some ⟨w5.heap.size, 0, none⟩) 1 1) _ w7 (by simp [Act.eval]) (by simp [Act.eval]) HA7.out ?_)
                    | (go_simp
                       go_at_call 20
                       refine HC.out.mono ?_
                       rintro e w5 ⟨vS5, vL5, rfl, hP5, hF5, hN5, hM5⟩
                       have hR5 := HR.out.sym hA hRs hF5 HLS.out HLL.out hN5 hM5
                       have hF6 := HF.out.sym (by omega) hF5 HLS.out HLL.out
                       obtain ⟨xs5, ho5, hx5⟩ := hR5.own i hi
                       rw [hcn, hri] at ho5
                       rw [hcn] at hx5
                       have hc5 := hR5.cell i hi
                       rw [hri] at hc5
                       have y5 := hc5.1
                       obtain ⟨g7, k7, w7, ha7, ho7, hg7, hat7⟩ := appN (w := w5) c.base 64 102 _ 3 12 [.int .i32 0, .int .u32 0, .int .u32 ((dist ns).idxOf nm : Nat)] xs5 j (.slice ra j rcap) Tryf.underlying64 info102 rfl (by decide) (by decide) ho5 rfl (by intro u hu; simp at hu; rcases hu with rfl | rfl | rfl <;> rfl) (by omega) hP5.sz
                       have hbk7 := hg7.block (B + 6 + i) (by simp; have := hP5.sz; omega) (own_ne ho5 hc6)
                       have hba7 := (World.grownBy_alloc w5 (.cells #[.int .i32 0, .int .u32 0, .int .u32 ((dist ns).idxOf nm : Nat)] 102) none).block (B + 6 + i) (by have := hP5.sz; omega) (by simp)
                       have y7 : w7.cell? ⟨B + 6 + i, 0, none⟩ = some (.slice ra j rcap) := (World.cell?_of_block (a := ⟨B + 6 + i, 0, none⟩) (hbk7.trans hba7)).trans y5
                       have z7 : w7.frozen? ⟨B + 6 + i, 0, none⟩ = false := (World.frozen?_of_block (a := ⟨B + 6 + i, 0, none⟩) (hbk7.trans hba7)).trans hc5.2
                       have hlt5 : B + 6 + i < w5.heap.size := by have := hP5.sz; omega
                       have HA7 := hid ha7
                       have HL7 := hid (LI.app (o := .cells #[.int .i32 0, .int .u32 0, .int .u32 ((dist ns).idxOf nm : Nat)] 102) hA hcw hi hP5 hR5 hF6 ho7 (HSN.out xs5 hx5 ho5.1) rfl (by rw [hri]; exact hg7) (by rw [hri]; exact hat7))
                       clear hP5 hF5 hN5 hM5 hR5 hF6 ho5 hx5 hc5 ha7 ho7 hg7 hat7 hbk7 hba7))
                  all_goals
                    refine hKK2 _ _ (Met.intro (hJ2 _ _ ?_))
                    repeat apply Exists.intro
                    exact ⟨HL7.out, rfl⟩
                case rest =>
                  have HLN := hid hcut
                  have hw1 : IntKind.i64.wrap ((j : Int) + 1) = ((j + 1 : Nat) : Int) := by rw [IntKind.wrap_i64]; omega
                  clear hcut
                  go_wp2_with fail
                  go_roundg gi
                  case measure => omega
                  case rel => exact ⟨j + 1, by omega, by simp, HLN.out⟩
      case rest =>
        have hLI := hcut
        obtain ⟨vS, vL, rows, h1, h2, h3⟩ := hLI.ex
        obtain ⟨xS, xL, D, hPW, hX, hM⟩ := h1.ex
        rw [part_zero] at hPW hX
        have q54 : wc.cell? ⟨B + 4, 54, none⟩ = some (.bool c.m) := by rw [← hcp]; exact hPW.c54
        have f54 : wc.frozen? ⟨B + 4, 54, none⟩ = false := by rw [← hcp]; exact hPW.fr 54
        have hAb := hA.base
        have hPost : HPost B pc ns fg ml w (.returned (.tuple #[])) (wc.setCell ⟨B + 4, 54, none⟩ (.bool ml)) := by
          refine ⟨rfl, ⟨?_, ?_, ?_⟩, ?_, fun g hg n1 n2 n3 n4 => ?_, c.base, vS, vL, xS, xL, rows, hwb, ?_, ?_, ?_, ?_, ?_, ?_, ?_, ?_⟩
          · exact h3.os.trans HOS.out.1
          · exact h3.tape.trans HOS.out.2.1
          · exact h3.output.trans HOS.out.2.2
          · have := h3.size
            simp only [World.size_setCell]
            omega
          · rw [heap_setCell_other _ _ _ _ (by simpa using n3), h3.block g (by omega) ?_]
            · exact HFW.out g hg n3
            · rintro (e | e | ⟨k, hk, e⟩)
              · omega
              · omega
              · exact n4 k hk e
          · rw [cell_set_off (by decide), ← hcp]; exact hPW.c21
          · rw [cell_set_off (by decide), ← hcp, hPW.c22, hccm]
          · rw [cell_set_off (by decide), ← hcp]; exact hPW.c23
          · exact cell_set_same q54
          · exact ownsRow_setCell_below hPW.oS (show B + 4 < c.base by omega) _
          · rw [← hcm]; exact hX
          · rw [← hcm]; exact ownsRow_setCell_below hPW.oL (show B + 4 < c.base by omega) _
          · refine h2.kept (fun k hk => heap_setCell_other _ _ _ _ (by simp; omega)) (fun k hk g hg => heap_setCell_other _ _ _ _ ?_) h2.neS h2.neL
            have := (h2.lt hk g hg).1
            simp only
            omega
        have HPO := hid hPost
        clear hLI h1 h2 h3 hPW hX hM hPost hcut
        go_wp2_with fail
        first
          | exact bodyPost_ret (v := .tuple #[]) (by simp [results, Tryf.results13, go_sem]) rfl HPO.out
          | (go_end0; exact HPO.out)
end Go.Proofs.YtgjoklbljmpkgaaFmt
