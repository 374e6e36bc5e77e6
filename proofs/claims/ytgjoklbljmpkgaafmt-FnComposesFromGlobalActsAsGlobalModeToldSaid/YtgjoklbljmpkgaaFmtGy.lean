/-
  The bound on bytes and the comparison of two results. Conditions: each theorem's own.
-/
import Derived.Test.YtgjoklbljmpkgaaFmtGr
import Derived.BigQuiet
namespace Go.Proofs.YtgjoklbljmpkgaaFmt
open Go.RowKit Go.Lib Go.ChangeMaps
theorem mkS0 (t e : TypeId) (z : Value) (sz b : Nat) (ht : Tryf.prog.underlying t = some (.slice e)) (hi : (Tryf.prog.info? e).map (fun i => (i.zero, i.size, i.bytes)) = some (some z, sz, b)) (hb : b ≤ 64) (n : Nat) (hn : n ≤ 2000000) (w : World) :
    (Instr.makeSlice t (.int .i64 0) (.int .i64 (n : Int))).run Tryf.prog w = .ok (.slice (some ⟨w.heap.size, 0, none⟩) 0 n) (w.alloc (mkO z (n * sz) e)) := by
  obtain ⟨i, hi1, z0, z1, z2⟩ := info_parts hi
  have hb' : (i.bytes : Int) * (n : Int) ≤ 281474976710656 := by
    have h : i.bytes * n ≤ 64 * 2000000 := Nat.mul_le_mul (by omega) hn
    have h2 : ((i.bytes * n : Nat) : Int) ≤ 281474976710656 := by omega
    rwa [Int.natCast_mul] at h2
  have hr := run_make (P := Tryf.prog) w t e i z ht hi1 z0 .i64 .i64 0 n (by omega) (by omega) hb' (by omega)
  simp only [Int.toNat_natCast, z1, Int.toNat_zero] at hr
  exact hr
set_option maxHeartbeats 4000000 in
set_option maxRecDepth 100000 in
theorem zz10 (sa : Option Addr) (n cap : Nat) (ws : List NM) (f1 f2 : ByteArray) (a1 : Int) (a2 : Bool) (w : World) (h : NamesAt sa n ws w) (hn : n ≤ maxLen) (hf1 : f1.size ≤ maxLen) (hf2 : f2.size ≤ maxLen) :
    Calls Tryf.prog 10 #[.slice sa n cap, .string f1, .string f2, .int .u8 a1, .bool a2] w fun e w' => BoolP ((∀ x ∈ ws, x.length ≤ 1048576) ∧ f1.size ≤ 1048576 ∧ f2.size ≤ 1048576) e ∧ w' = w := by
  obtain rfl := h.len.symm
  have HN := hid h
  clear h
  unfold maxLen at hf1 hf2
  by_cases hl : ws.length ≤ 1048576
  · have e1 : IntKind.i64.wrap ((ws.length : Int)) = ws.length := by rw [IntKind.wrap_i64]; omega
    have e2 : ¬ ((1048576 : Int) < (ws.length : Int)) := by omega
    go_enter Tryf.func10, Tryf.ntmps10
    go_wp2_with fail
    go_loopg [12, 11] ws.length (fun g v8 v7 wx => Z5I ws w g v8 v7 wx)
    case atStart => exact ⟨0, by omega, by first | rfl | simp, rfl, ⟨ws.length, by first | rfl | simp, hl⟩, fun j h hj => by omega⟩
    case round =>
      obtain ⟨i, hig, rfl, rfl, ⟨k, rfl, hk⟩, hall⟩ := hrel.ex
      clear hrel
      cases gk with
      | zero =>
        have hie : i = ws.length := by omega
        have hc : ¬ ((i : Int) < (ws.length : Int)) := by omega
        have HA := hid (show ∀ x ∈ ws, x.length ≤ 1048576 from fun x hx => by
          obtain ⟨j, hj, rfl⟩ := List.mem_iff_getElem.1 hx
          exact hall j hj (by omega))
        clear hall hig hie
        generalize hg1 : f1.size = q1 at *
        generalize hg2 : f2.size = q2 at *
        by_cases s1 : q1 ≤ 1048576
        · have t1 : ¬ ((1048576 : Int) < (q1 : Int)) := by omega
          have u1 : IntKind.i64.wrap ((k : Int) + (q1 : Int)) = ((k + q1 : Nat) : Int) := by rw [IntKind.wrap_i64]; omega
          obtain ⟨k1, hk1⟩ : ∃ k1, k + q1 = k1 := ⟨_, rfl⟩
          rw [hk1] at u1
          by_cases s2 : k1 ≤ 1048576
          · have t2 : ¬ ((1048576 : Int) < (k1 : Int)) := by omega
            by_cases s3 : q2 ≤ 1048576
            · have t3 : ¬ ((1048576 : Int) < (q2 : Int)) := by omega
              have u2 : IntKind.i64.wrap ((k1 : Int) + (q2 : Int)) = ((k1 + q2 : Nat) : Int) := by rw [IntKind.wrap_i64]; omega
              obtain ⟨k2, hk2⟩ : ∃ k2, k1 + q2 = k2 := ⟨_, rfl⟩
              rw [hk2] at u2
              clear hk1 hk2
              by_cases s4 : k2 ≤ 1048576
              · have t4 : ¬ ((1048576 : Int) < (k2 : Int)) := by omega
                go_wp2_with fail
                go_ret
                first | exact ⟨⟨_, rfl, fun _ => ⟨HA.out, s1, s3⟩⟩, rfl⟩ | exact ⟨⟨_, rfl, fun _ => HA.out⟩, rfl⟩
              · have t4 : (1048576 : Int) < (k2 : Int) := by omega
                go_wp2_with fail
                go_ret
                exact ⟨⟨_, rfl, fun h => by cases h⟩, rfl⟩
            · have t3 : (1048576 : Int) < (q2 : Int) := by omega
              clear hk1
              go_wp2_with fail
              go_ret
              exact ⟨⟨_, rfl, fun h => by cases h⟩, rfl⟩
          · have t2 : (1048576 : Int) < (k1 : Int) := by omega
            clear hk1
            go_wp2_with fail
            go_ret
            exact ⟨⟨_, rfl, fun h => by cases h⟩, rfl⟩
        · have t1 : (1048576 : Int) < (q1 : Int) := by omega
          go_wp2_with fail
          go_ret
          exact ⟨⟨_, rfl, fun h => by cases h⟩, rfl⟩
      | succ g =>
        have hi : i < ws.length := by omega
        have hc : (i : Int) < (ws.length : Int) := by omega
        obtain ⟨b, o, rfl, _, hcell⟩ := HN.out.cell i hi
        have hwf := HN.out.wf i hi
        obtain ⟨nm, hnm⟩ : ∃ nm, ws[i] = nm := ⟨_, rfl⟩
        rw [hnm] at hcell hwf
        have hsz := ba_size nm
        have HA := hid hall
        have HNM := hid hnm
        clear hall hnm
        by_cases hs : nm.length ≤ 1048576
        · have e3 : ¬ ((1048576 : Int) < ((ba nm).size : Int)) := by omega
          have e4 : IntKind.i64.wrap ((k : Int) + ((ba nm).size : Int)) = ((k + (ba nm).size : Nat) : Int) := by rw [IntKind.wrap_i64]; omega
          have e5 : IntKind.i64.wrap ((i : Int) + 1) = ((i + 1 : Nat) : Int) := by rw [IntKind.wrap_i64]; omega
          by_cases ht : k + (ba nm).size ≤ 1048576
          · have e6 : ¬ ((1048576 : Int) < ((k + (ba nm).size : Nat) : Int)) := by omega
            clear hsz
            go_wp2_with fail
            go_roundg g
            case measure => omega
            case rel =>
              refine ⟨i + 1, by omega, by simp, rfl, ⟨k + (ba nm).size, by simp, ht⟩, fun j h hj => ?_⟩
              by_cases e : j = i
              · subst e; rw [HNM.out]; exact hs
              · exact HA.out j h (by omega)
          · have e6 : (1048576 : Int) < ((k + (ba nm).size : Nat) : Int) := by omega
            clear hsz
            go_wp2_with fail
            go_ret
            exact ⟨⟨_, rfl, fun h => by cases h⟩, rfl⟩
        · have e3 : (1048576 : Int) < ((ba nm).size : Int) := by omega
          clear hsz
          go_wp2_with fail
          go_ret
          exact ⟨⟨_, rfl, fun h => by cases h⟩, rfl⟩
  · have e2 : (1048576 : Int) < (ws.length : Int) := by omega
    go_enter Tryf.func10, Tryf.ntmps10
    go_wp2_with fail
    go_ret
    exact ⟨⟨_, rfl, fun h => by cases h⟩, rfl⟩
structure ZC (pc : Nat) (ws : List NM) (m : Bool) (P S1 S2 S3 : Nat) (wx : World) : Prop where
  lt : P < wx.heap.size ∧ S1 < wx.heap.size ∧ S2 < wx.heap.size ∧ S3 < wx.heap.size
  rows : ∀ k, k < pc → ∃ q, wx.cell? ⟨P, k, none⟩ = some (.slice (some ⟨q, 0, none⟩) ws.length ws.length) ∧ q < wx.heap.size ∧ ∀ j (h : j < ws.length), wx.cell? ⟨q, j, none⟩ = some (.int .u32 ((dist ws).idxOf ws[j] : Nat))
  syms : ∀ i (h : i < (dist (flat pc ws)).length), wx.cell? ⟨S1, i, none⟩ = some (.string (ba (dist (flat pc ws))[i])) ∧ wx.cell? ⟨S2, i, none⟩ = some (.bool m) ∧ wx.cell? ⟨S3, i, none⟩ = some (.int .u32 ((flat pc ws).count (dist (flat pc ws))[i] : Nat))
theorem ZC.below {pc : Nat} {ws : List NM} {m : Bool} {P S1 S2 S3 : Nat} {w w' : World} (h : ZC pc ws m P S1 S2 S3 w) (hb : Below w.heap.size w w') : ZC pc ws m P S1 S2 S3 w' := by
  obtain ⟨l1, l2, l3, l4⟩ := h.lt
  have hs := hb.size
  have cl : ∀ q o, q < w.heap.size → w'.cell? ⟨q, o, none⟩ = w.cell? ⟨q, o, none⟩ := fun q o hq => World.cell?_of_block (a := ⟨q, o, none⟩) (hb.block q hq)
  refine ⟨⟨by omega, by omega, by omega, by omega⟩, fun k hk => ?_, fun i hi => ?_⟩
  · obtain ⟨q, e1, e2, e3⟩ := h.rows k hk
    exact ⟨q, (cl _ _ l1).trans e1, by omega, fun j hj => (cl _ _ e2).trans (e3 j hj)⟩
  · obtain ⟨e1, e2, e3⟩ := h.syms i hi
    exact ⟨(cl _ _ l2).trans e1, (cl _ _ l3).trans e2, (cl _ _ l4).trans e3⟩
abbrev resV (pc D P S1 S2 S3 V : Nat) (g : Bool) : Array Value := #[.slice (some ⟨P, 0, none⟩) pc pc, .slice (some ⟨S1, 0, none⟩) D D, .slice (some ⟨S2, 0, none⟩) D D, .slice (some ⟨S3, 0, none⟩) D D, .int .i64 (V : Int), .bool g]
structure SW (pc : Nat) (ws : List NM) (m : Bool) (D V : Nat) (g g' : Bool) (P S1 S2 S3 P' S1' S2' S3' A : Nat) (w wx : World) : Prop where
  bel : Below w.heap.size w wx
  lt : A + 1 < wx.heap.size
  a : wx.heap[A]? = some (.cells (resV pc D P S1 S2 S3 V g) 31)
  b : wx.heap[A + 1]? = some (.cells (resV pc D P' S1' S2' S3' V g') 31)
  za : ZC pc ws m P S1 S2 S3 wx
  zb : ZC pc ws m P' S1' S2' S3' wx
theorem SW.drewN {pc : Nat} {ws : List NM} {m : Bool} {D V : Nat} {g g' : Bool} {P S1 S2 S3 P' S1' S2' S3' A : Nat} {w wx : World} (h : SW pc ws m D V g g' P S1 S2 S3 P' S1' S2' S3' A w wx) (k : Nat) : SW pc ws m D V g g' P S1 S2 S3 P' S1' S2' S3' A w (wx.drewN k) :=
  ⟨⟨h.bel.os, h.bel.tape, h.bel.output, h.bel.size, h.bel.block⟩, h.lt, h.a, h.b, ⟨h.za.lt, h.za.rows, h.za.syms⟩, ⟨h.zb.lt, h.zb.rows, h.zb.syms⟩⟩
theorem sixR {w : World} {M : Nat} {a b c d e f : Value} {t : TypeId} (h : w.heap[M]? = some (.cells #[a, b, c, d, e, f] t)) :
    w.cell? ⟨M, 0, none⟩ = some a ∧ w.cell? ⟨M, 1, none⟩ = some b ∧ w.cell? ⟨M, 2, none⟩ = some c ∧ w.cell? ⟨M, 3, none⟩ = some d ∧ w.cell? ⟨M, 4, none⟩ = some e ∧ w.cell? ⟨M, 5, none⟩ = some f := by
  simp [World.cell?, h]
structure SI (pc : Nat) (ws : List NM) (m : Bool) (D V : Nat) (g g' : Bool) (P S1 S2 S3 P' S1' S2' S3' A : Nat) (w : World) (N : Nat) (gk : Nat) (v : Value) (wx : World) : Prop where
  ex : ∃ i : Nat, i + gk = N ∧ v = .int .i64 i ∧ SW pc ws m D V g g' P S1 S2 S3 P' S1' S2' S3' A w wx
theorem mkSW {pc : Nat} {ws : List NM} {m : Bool} {D V : Nat} {g g' : Bool} {P S1 S2 S3 P' S1' S2' S3' : Nat} {w : World} (h : ZC pc ws m P S1 S2 S3 w) (h' : ZC pc ws m P' S1' S2' S3' w) :
    SW pc ws m D V g g' P S1 S2 S3 P' S1' S2' S3' w.heap.size w ((w.alloc (.cells (resV pc D P S1 S2 S3 V g) 31)).alloc (.cells (resV pc D P' S1' S2' S3' V g') 31)) := by
  have b1 : Below w.heap.size w (w.alloc (.cells (resV pc D P S1 S2 S3 V g) 31)) := (Below.refl _ _).alloc (Nat.le_refl _) _
  have b2 : Below w.heap.size w ((w.alloc (.cells (resV pc D P S1 S2 S3 V g) 31)).alloc (.cells (resV pc D P' S1' S2' S3' V g') 31)) := b1.alloc (by simp) _
  have e1 := (MapKept.heap_alloc w (.cells (resV pc D P S1 S2 S3 V g) 31)).1
  have s1 : (w.alloc (.cells (resV pc D P S1 S2 S3 V g) 31)).heap.size = w.heap.size + 1 := by simp
  have e2 := (MapKept.heap_alloc (w.alloc (.cells (resV pc D P S1 S2 S3 V g) 31)) (.cells (resV pc D P' S1' S2' S3' V g') 31)).1
  rw [s1] at e2
  refine ⟨b2, by simp, ?_, e2, h.below b2, h'.below b2⟩
  exact ((World.grownBy_alloc (w.alloc (.cells (resV pc D P S1 S2 S3 V g) 31)) _ none).block w.heap.size (by simp) (by simp)).trans e1
set_option maxHeartbeats 20000000 in
set_option maxRecDepth 100000 in
theorem same11 (pc : Nat) (ws : List NM) (m : Bool) (V : Nat) (g g' : Bool) (P S1 S2 S3 P' S1' S2' S3' : Nat) (w : World) (hpc : pc ≤ 255) (hn : ws.length ≤ 4096) (h : ZC pc ws m P S1 S2 S3 w) (h' : ZC pc ws m P' S1' S2' S3' w) :
    Calls Tryf.prog 11 #[.agg (resV pc (dist (flat pc ws)).length P S1 S2 S3 V g), .agg (resV pc (dist (flat pc ws)).length P' S1' S2' S3' V g')] w fun e w' => e = .returned (.bool true) ∧ Below w.heap.size w w' := by
  have hDn := dist_len (flat pc ws)
  have hfl := flat_length pc ws
  have hpn : pc * ws.length ≤ 255 * 4096 := Nat.mul_le_mul hpc hn
  obtain ⟨D, hD⟩ : ∃ D, (dist (flat pc ws)).length = D := ⟨_, rfl⟩
  have HS := hid (mkSW (D := D) (V := V) (g := g) (g' := g') h h')
  rw [hD]
  have hDle : D ≤ 255 * 4096 := by omega
  have HD := hid hD
  clear hD hDn hfl hpn h h'
  go_enter Tryf.func11, Tryf.ntmps11
  go_upto_block 0 with fail
  have hs2 : ((w.alloc (.cells (resV pc D P S1 S2 S3 V g) 31)).alloc (.cells (resV pc D P' S1' S2' S3' V g') 31)).heap.size = w.heap.size + 1 + 1 := by simp
  generalize (w.alloc (.cells (resV pc D P S1 S2 S3 V g) 31)).alloc (.cells (resV pc D P' S1' S2' S3' V g') 31) = w2 at *
  generalize w.heap.size = A at *
  obtain ⟨a0, a1, a2, a3, a4, a5⟩ := sixR HS.out.a
  obtain ⟨b0, b1, b2, b3, b4, b5⟩ := sixR HS.out.b
  have hA := HS.out.lt
  go_wp2_with fail
  go_loopg [5] pc (fun gk v wx => SI pc ws m D V g g' P S1 S2 S3 P' S1' S2' S3' A w pc gk v wx)
  case atStart => exact ⟨0, by omega, by first | rfl | simp, HS.out⟩
  case round =>
    clear HS a0 a1 a2 a3 a4 a5 b0 b1 b2 b3 b4 b5 hA hs2
    obtain ⟨i, hig, rfl, hC⟩ := hrel.ex
    clear hrel
    have HC := hid hC
    clear hC
    obtain ⟨a0, a1, a2, a3, -, -⟩ := sixR HC.out.a
    obtain ⟨b0, b1, b2, b3, -, -⟩ := sixR HC.out.b
    have hA := HC.out.lt
    cases gk with
    | zero =>
      obtain rfl : pc = i := by omega
      have hcmp : ¬ ((pc : Int) < (pc : Int)) := by omega
      clear a2 a3 b0 b2 b3
      go_wp2_with fail
      go_loopg [7] D (fun gk v wx => SI pc ws m D V g g' P S1 S2 S3 P' S1' S2' S3' A w D gk v wx)
      case atStart => exact ⟨0, by omega, by first | rfl | simp, HC.out⟩
      case round =>
        clear HC a0 a1 b1 hA
        obtain ⟨j, hjg, rfl, hC⟩ := hrel.ex
        clear hrel
        have HC := hid hC
        clear hC
        obtain ⟨-, a1, a2, a3, -, -⟩ := sixR HC.out.a
        obtain ⟨-, b1, b2, b3, -, -⟩ := sixR HC.out.b
        have hA := HC.out.lt
        cases gk with
        | zero =>
          obtain rfl : D = j := by omega
          have hcmp2 : ¬ ((D : Int) < (D : Int)) := by omega
          have HB := hid HC.out.bel
          go_wp2_with fail
          go_ret
          exact ⟨rfl, HB.out⟩
        | succ gj =>
          have hj : j < D := by omega
          have hcmp2 : (j : Int) < (D : Int) := by omega
          obtain ⟨e1, e2, e3⟩ := HC.out.za.syms j (by rw [HD.out]; exact hj)
          obtain ⟨f1, f2, f3⟩ := HC.out.zb.syms j (by rw [HD.out]; exact hj)
          obtain ⟨nm, hnm⟩ : ∃ nm, (dist (flat pc ws))[j]'(by rw [HD.out]; exact hj) = nm := ⟨_, rfl⟩
          rw [hnm] at e1 e3 f1 f3
          obtain ⟨ct, hct⟩ : ∃ ct, (flat pc ws).count nm = ct := ⟨_, rfl⟩
          rw [hct] at e3 f3
          obtain ⟨-, l1, l2, l3⟩ := HC.out.za.lt
          obtain ⟨-, k1, k2, k3⟩ := HC.out.zb.lt
          have hw1 : IntKind.i64.wrap ((j : Int) + 1) = ((j + 1 : Nat) : Int) := by rw [IntKind.wrap_i64]; omega
          clear hnm hct
          go_wp2_with fail
          go_quiet (fail)
          go_wp2_with fail
          go_roundg gj
          case measure => omega
          case rel => exact ⟨j + 1, by omega, by simp, HC.out.drewN _⟩
    | succ go =>
      have hi : i < pc := by omega
      have hcmp : (i : Int) < (pc : Int) := by omega
      obtain ⟨q, e1, e2, -⟩ := HC.out.za.rows i hi
      obtain ⟨q', f1, f2, -⟩ := HC.out.zb.rows i hi
      obtain ⟨l1, -⟩ := HC.out.za.lt
      obtain ⟨k1, -⟩ := HC.out.zb.lt
      clear a1 a2 a3 b1 b2 b3
      go_wp2_with fail
      go_quiet (fail)
      go_wp2_with fail
      go_loopg [6] ws.length (fun gk v wx => SI pc ws m D V g g' P S1 S2 S3 P' S1' S2' S3' A w ws.length gk v wx)
      case atStart => exact ⟨0, by omega, by first | rfl | simp, HC.out.drewN _⟩
      case round =>
        clear HC a0 b0 hA e1 e2 f1 f2 l1 k1
        obtain ⟨j, hjg, rfl, hC⟩ := hrel.ex
        clear hrel
        have HC := hid hC
        clear hC
        obtain ⟨a0, -⟩ := sixR HC.out.a
        obtain ⟨b0, -⟩ := sixR HC.out.b
        have hA := HC.out.lt
        obtain ⟨q, e1, e2, e3⟩ := HC.out.za.rows i hi
        obtain ⟨q', f1, f2, f3⟩ := HC.out.zb.rows i hi
        obtain ⟨l1, -⟩ := HC.out.za.lt
        obtain ⟨k1, -⟩ := HC.out.zb.lt
        cases gk with
        | zero =>
          obtain rfl : j = ws.length := by omega
          have hcmp2 : ¬ ((ws.length : Int) < (ws.length : Int)) := by omega
          have hw1 : IntKind.i64.wrap ((i : Int) + 1) = ((i + 1 : Nat) : Int) := by rw [IntKind.wrap_i64]; omega
          clear e3 f3
          go_wp2_with fail
          go_roundg go
          case measure => omega
          case rel => exact ⟨i + 1, by omega, by simp, HC.out⟩
        | succ gj =>
          have hj : j < ws.length := by omega
          have hcmp2 : (j : Int) < (ws.length : Int) := by omega
          have e4 := e3 j hj
          have f4 := f3 j hj
          obtain ⟨I, hI⟩ : ∃ I, (dist ws).idxOf ws[j] = I := ⟨_, rfl⟩
          rw [hI] at e4 f4
          have hw1 : IntKind.i64.wrap ((j : Int) + 1) = ((j + 1 : Nat) : Int) := by rw [IntKind.wrap_i64]; omega
          clear hI e3 f3
          go_wp2_with fail
          go_quiet (fail)
          go_wp2_with fail
          go_roundg gj
          case measure => omega
          case rel => exact ⟨j + 1, by omega, by simp, HC.out.drewN _⟩
end Go.Proofs.YtgjoklbljmpkgaaFmt
