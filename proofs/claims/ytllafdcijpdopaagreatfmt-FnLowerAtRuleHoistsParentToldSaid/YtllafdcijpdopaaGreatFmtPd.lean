/-
  The bounds and the byte counts of the law's selectors. Conditions: each theorem's own.
-/
import Derived.Test.YtllafdcijpdopaaGreatFmtPc
import Derived.LoopTactic
import Derived.Deep.LoopGhost
import Derived.WalkLawsBesides
import Derived.WalkSpells
import Derived.WalkMore
import Derived.Handy
namespace Go.Proofs.YtllafdcijpdopaaGreatFmt
open Go.RowKit Go.Lib
structure BoolP (P : Prop) (e : Ending) : Prop where
  ex : ∃ b : Bool, e = .returned (.bool b) ∧ (b = true → P)
structure IntR (e : Ending) : Prop where
  ex : ∃ k : Int, e = .returned (.int .i64 k)
structure IntI (n : Nat) (g : Nat) (v4 v3 : Value) : Prop where
  ex : ∃ i : Nat, i + g = n ∧ v4 = .int .i64 i ∧ ∃ k : Int, v3 = .int .i64 k
set_option maxHeartbeats 2000000 in
set_option maxRecDepth 100000 in
theorem bytes22 (c1 c2 : Nat) (s : Value) (ns : List NM) (w : World) (h : StrsAt w s ns) (hn : ns.length ≤ 1048576) :
    Calls Tryz.prog 22 #[.agg #[.int .u8 c1, .int .u8 c2, s]] w fun e w' => IntR e ∧ Below w.heap.size w w' := by
  obtain ⟨a, c, rfl, hx⟩ := h.ex
  have HX := hid hx
  clear h hx
  go_enter Tryz.func22, Tryz.ntmps22
  go_wp2_with fail
  go_loopg [4, 3] ns.length (fun g v4 v3 wx => IntI ns.length g v4 v3 ∧ wx = w.alloc (.cells #[.int .u8 c1, .int .u8 c2, .slice a ns.length c] 48))
  case atStart => exact ⟨⟨0, by omega, by first | rfl | simp, 24, by first | rfl | simp⟩, rfl⟩
  case round =>
    obtain ⟨⟨i, hig, rfl, k, rfl⟩, rfl⟩ := hrel
    cases gk with
    | zero =>
      have hc : ¬ ((i : Int) < (ns.length : Int)) := by omega
      clear hig
      go_wp2_with fail
      go_ret
      exact ⟨⟨_, rfl⟩, (Below.refl _ _).alloc (Nat.le_refl _) _⟩
    | succ g =>
      have hi : i < ns.length := by omega
      have hc : (i : Int) < (ns.length : Int) := by omega
      obtain ⟨b, o, rfl, hb, hcell⟩ := HX.out i hi
      have e5 : IntKind.i64.wrap ((i : Int) + 1) = ((i + 1 : Nat) : Int) := by rw [IntKind.wrap_i64]; omega
      generalize ns[i] = nm at hcell
      go_wp2_with fail
      go_roundg g
      case measure => omega
      case rel => exact ⟨⟨i + 1, by omega, by simp, _, rfl⟩, rfl⟩
set_option maxHeartbeats 2000000 in
set_option maxRecDepth 100000 in
theorem bytes17 (v : Value) (ms : List Cm) (w : World) (h : CmpsAt w v ms) (hb : BndC ms) :
    Calls Tryz.prog 17 #[v] w fun e w' => IntR e ∧ Below w.heap.size w w' := by
  obtain ⟨a, c, rfl, hx⟩ := h.ex
  have hn := hb.p
  have HX := hid hx
  have HB := hid hb
  clear h hx hb
  go_enter Tryz.func17, Tryz.ntmps17
  go_wp2_with fail
  go_loopg [4, 3] ms.length (fun g v4 v3 wx => IntI ms.length g v4 v3 ∧ Below w.heap.size w wx)
  case atStart => exact ⟨⟨0, by omega, by first | rfl | simp, 0, by first | rfl | simp⟩, Below.refl _ _⟩
  case round =>
    obtain ⟨⟨i, hig, rfl, k, rfl⟩, hbel⟩ := hrel
    cases gk with
    | zero =>
      have hc : ¬ ((i : Int) < (ms.length : Int)) := by omega
      have HL := hid hbel
      clear hig hbel
      go_wp2_with fail
      go_ret
      exact ⟨⟨_, rfl⟩, HL.out⟩
    | succ g =>
      have hi : i < ms.length := by omega
      have hc : (i : Int) < (ms.length : Int) := by omega
      obtain ⟨b, o, rfl, hlt, hcm⟩ := HX.out i hi
      have hcw := hcm.below hlt hbel
      obtain ⟨s, q0, q1, q2, hs, _, _⟩ := hcw.ex
      have e5 : IntKind.i64.wrap ((i : Int) + 1) = ((i + 1 : Nat) : Int) := by rw [IntKind.wrap_i64]; omega
      have hltx : b < wr.heap.size := Nat.lt_of_lt_of_le hlt hbel.size
      have C22 := hid (bytes22 ms[i].comb ms[i].amps s ms[i].names wr hs (HB.out.at' hi).q)
      have HL := hid hbel
      clear hbel hcm hcw hs
      go_wp2_with fail
      refine C22.out.mono ?_
      rintro e w2 ⟨⟨k2, rfl⟩, hb2⟩
      have HL2 := hid (HL.out.trans (hb2.mono HL.out.size))
      clear hb2 C22
      go_wp2_with fail
      go_roundg g
      case measure => omega
      case rel => exact ⟨⟨i + 1, by omega, by simp, _, rfl⟩, HL2.out⟩
set_option maxHeartbeats 2000000 in
set_option maxRecDepth 100000 in
theorem bytes5 (v : Value) (xs : List CxM) (w : World) (h : CxsAt w v xs) (hb : Bnd xs) :
    Calls Tryz.prog 5 #[v] w fun e w' => IntR e ∧ Below w.heap.size w w' := by
  obtain ⟨a, c, rfl, hx⟩ := h.ex
  have hn := hb.n
  have HX := hid hx
  have HB := hid hb
  clear h hx hb
  go_enter Tryz.func5, Tryz.ntmps5
  go_wp2_with fail
  go_loopg [4, 3] xs.length (fun g v4 v3 wx => IntI xs.length g v4 v3 ∧ Below w.heap.size w wx)
  case atStart => exact ⟨⟨0, by omega, by first | rfl | simp, 0, by first | rfl | simp⟩, Below.refl _ _⟩
  case round =>
    obtain ⟨⟨i, hig, rfl, k, rfl⟩, hbel⟩ := hrel
    cases gk with
    | zero =>
      have hc : ¬ ((i : Int) < (xs.length : Int)) := by omega
      have HL := hid hbel
      clear hig hbel
      go_wp2_with fail
      go_ret
      exact ⟨⟨_, rfl⟩, HL.out⟩
    | succ g =>
      have hi : i < xs.length := by omega
      have hc : (i : Int) < (xs.length : Int) := by omega
      obtain ⟨b, o, s, rfl, hlt, q0, hs0⟩ := HX.out i hi
      have hs := hs0.below hbel
      have q1 := (cellLow (hbel.block b hlt) (o + i)).trans q0
      have e5 : IntKind.i64.wrap ((i : Int) + 1) = ((i + 1 : Nat) : Int) := by rw [IntKind.wrap_i64]; omega
      have hltx : b < wr.heap.size := Nat.lt_of_lt_of_le hlt hbel.size
      have C17 := hid (bytes17 s xs[i] wr hs (HB.out.at' hi))
      have HL := hid hbel
      clear hbel hs0 hs q0
      go_wp2_with fail
      refine C17.out.mono ?_
      rintro e w2 ⟨⟨k2, rfl⟩, hb2⟩
      have HL2 := hid (HL.out.trans (hb2.mono HL.out.size))
      clear hb2 C17
      go_wp2_with fail
      go_roundg g
      case measure => omega
      case rel => exact ⟨⟨i + 1, by omega, by simp, _, rfl⟩, HL2.out⟩
structure Z1 (xs : List CxM) (w : World) (g : Nat) (v9 v10 : Value) (wx : World) : Prop where
  ex : ∃ i k : Nat, i + g = xs.length ∧ v9 = .int .i64 k ∧ k ≤ 1048576 ∧ v10 = .int .i64 i ∧ w = wx ∧ ∀ j (h : j < xs.length), j < i → BndC xs[j]
structure Z2 (ms : List Cm) (w : World) (g : Nat) (v9 v11 : Value) (wx : World) : Prop where
  ex : ∃ i k : Nat, i + g = ms.length ∧ v9 = .int .i64 k ∧ k ≤ 1048576 ∧ v11 = .int .i64 i ∧ w = wx ∧ ∀ j (h : j < ms.length), j < i → BndM ms[j]
structure Z3 (ns : List NM) (w : World) (g : Nat) (v9 v12 : Value) (wx : World) : Prop where
  ex : ∃ i k : Nat, i + g = ns.length ∧ v9 = .int .i64 k ∧ k ≤ 1048576 ∧ v12 = .int .i64 i ∧ w = wx ∧ ∀ j (h : j < ns.length), j < i → ns[j].length ≤ 1048576
theorem bndM_of {m : Cm} (hq : m.names.length ≤ 1048576) (h : ∀ j (h : j < m.names.length), j < m.names.length → m.names[j].length ≤ 1048576) : BndM m := ⟨hq, fun s hs => by
  obtain ⟨j, hj, rfl⟩ := List.mem_iff_getElem.1 hs
  exact h j hj hj⟩
theorem bndC_of {ms : List Cm} (hq : ms.length ≤ 1048576) (h : ∀ j (h : j < ms.length), j < ms.length → BndM ms[j]) : BndC ms := ⟨hq, fun m hm => by
  obtain ⟨j, hj, rfl⟩ := List.mem_iff_getElem.1 hm
  exact (h j hj hj).q, fun m hm => by
  obtain ⟨j, hj, rfl⟩ := List.mem_iff_getElem.1 hm
  exact (h j hj hj).r⟩
theorem bnd_of {xs : List CxM} (hq : xs.length ≤ 1048576) (h : ∀ j (h : j < xs.length), j < xs.length → BndC xs[j]) : Bnd xs := ⟨hq, fun m hm => by
  obtain ⟨j, hj, rfl⟩ := List.mem_iff_getElem.1 hm
  exact (h j hj hj).p, fun m hm => by
  obtain ⟨j, hj, rfl⟩ := List.mem_iff_getElem.1 hm
  exact (h j hj hj).q, fun m hm => by
  obtain ⟨j, hj, rfl⟩ := List.mem_iff_getElem.1 hm
  exact (h j hj hj).r⟩
theorem ba_len (l : NM) : (ba l).size = l.length := ba_size l
set_option maxHeartbeats 8000000 in
set_option maxRecDepth 100000 in
theorem zz4 (a0 : Int) (v : Value) (xs : List CxM) (d0 b0 : Int) (w : World) (h : CxsAt w v xs) :
    Calls Tryz.prog 4 #[.int .u8 a0, v, .int .i64 d0, .int .i64 b0] w fun e w' => BoolP (Bnd xs) e ∧ w' = w := by
  obtain ⟨a, c, rfl, hx⟩ := h.ex
  have HX := hid hx
  clear h hx
  by_cases hn : xs.length ≤ 1048576
  · have e1 : IntKind.i64.wrap ((xs.length : Int)) = xs.length := by rw [IntKind.wrap_i64]; omega
    have e2 : ¬ ((1048576 : Int) < (xs.length : Int)) := by omega
    go_enter Tryz.func4, Tryz.ntmps4
    go_wp2_with fail
    go_loopg [9, 10, 11, 12] xs.length (fun g v9 v10 _ _ wx => Z1 xs w g v9 v10 wx)
    case atStart => exact ⟨0, xs.length, by omega, by first | rfl | simp, hn, by first | rfl | simp, rfl, fun j h hj => by omega⟩
    case round =>
      obtain ⟨i, k, hig, rfl, hk, rfl, rfl, hall⟩ := hrel.ex
      clear hrel
      cases gk with
      | zero =>
        have hc : ¬ ((i : Int) < (xs.length : Int)) := by omega
        have HA := hid (bnd_of hn fun j h1 h2 => hall j h1 (by omega))
        clear hall hig
        go_wp2_with fail
        go_ret
        exact ⟨⟨_, rfl, fun _ => HA.out⟩, rfl⟩
      | succ g =>
        have hi : i < xs.length := by omega
        have hc : (i : Int) < (xs.length : Int) := by omega
        obtain ⟨b, o, s, rfl, hlt, q0, hs⟩ := HX.out i hi
        obtain ⟨a1, c1, rfl, hx1⟩ := hs.ex
        have HALL := hid hall
        have HX1 := hid hx1
        obtain ⟨ms, hms⟩ : ∃ ms, xs[i] = ms := ⟨_, rfl⟩
        rw [hms] at q0 HX1
        have HMS := hid hms
        clear hall hx1 hs hms
        by_cases hm : ms.length ≤ 1048576
        · have e3 : ¬ ((1048576 : Int) < (ms.length : Int)) := by omega
          have e4 : IntKind.i64.wrap ((k : Int) + (ms.length : Int)) = ((k + ms.length : Nat) : Int) := by rw [IntKind.wrap_i64]; omega
          by_cases ht : k + ms.length ≤ 1048576
          · have e6 : ¬ ((1048576 : Int) < ((k + ms.length : Nat) : Int)) := by omega
            go_wp2_with fail
            go_loopg [9, 11, 12] ms.length (fun g v9 v11 _ wx => Z2 ms w g v9 v11 wx)
            case atStart => exact ⟨0, k + ms.length, by omega, by first | rfl | simp, ht, by first | rfl | simp, rfl, fun j h hj => by omega⟩
            case round =>
              obtain ⟨i2, k2, hig2, rfl, hk2, rfl, rfl, hall2⟩ := hrel.ex
              clear hrel
              cases gk with
              | zero =>
                have hc2 : ¬ ((i2 : Int) < (ms.length : Int)) := by omega
                have HN := hid (bndC_of hm fun j h1 h2 => hall2 j h1 (by omega))
                have e5 : IntKind.i64.wrap ((i : Int) + 1) = ((i + 1 : Nat) : Int) := by rw [IntKind.wrap_i64]; omega
                clear hall2 hig2 e1 e4 e6
                go_wp2_with fail
                go_roundg g
                case measure => omega
                case rel =>
                  refine ⟨i + 1, k2, by omega, rfl, hk2, by simp, rfl, fun j h hj => ?_⟩
                  by_cases e : j = i
                  · subst e; rw [HMS.out]; exact HN.out
                  · exact HALL.out j h (by omega)
              | succ g2 =>
                have hi2 : i2 < ms.length := by omega
                have hc2 : (i2 : Int) < (ms.length : Int) := by omega
                obtain ⟨b1, o1, rfl, hlt1, hcm⟩ := HX1.out i2 hi2
                obtain ⟨s2, q10, q11, q12, hs2, _, _⟩ := hcm.ex
                obtain ⟨a2, cc2, rfl, hx2⟩ := hs2.ex
                have HALL2 := hid hall2
                have HX2 := hid hx2
                obtain ⟨m2, hm2⟩ : ∃ m2, ms[i2] = m2 := ⟨_, rfl⟩
                rw [hm2] at q12 HX2
                have HM2 := hid hm2
                clear hall2 hx2 hs2 hcm q10 q11 hm2 e1 e4 e6
                by_cases hq : m2.names.length ≤ 1048576
                · have e3' : ¬ ((1048576 : Int) < (m2.names.length : Int)) := by omega
                  have e4 : IntKind.i64.wrap ((k2 : Int) + (m2.names.length : Int)) = ((k2 + m2.names.length : Nat) : Int) := by rw [IntKind.wrap_i64]; omega
                  by_cases ht2 : k2 + m2.names.length ≤ 1048576
                  · have e6 : ¬ ((1048576 : Int) < ((k2 + m2.names.length : Nat) : Int)) := by omega
                    go_wp2_with fail
                    go_loopg [9, 12] m2.names.length (fun g v9 v12 wx => Z3 m2.names w g v9 v12 wx)
                    case atStart => exact ⟨0, k2 + m2.names.length, by omega, by first | rfl | simp, ht2, by first | rfl | simp, rfl, fun j h hj => by omega⟩
                    case round =>
                      obtain ⟨i3, k3, hig3, rfl, hk3, rfl, rfl, hall3⟩ := hrel.ex
                      clear hrel
                      cases gk with
                      | zero =>
                        have hc3 : ¬ ((i3 : Int) < (m2.names.length : Int)) := by omega
                        have HN := hid (bndM_of hq fun j h1 h2 => hall3 j h1 (by omega))
                        have e5 : IntKind.i64.wrap ((i2 : Int) + 1) = ((i2 + 1 : Nat) : Int) := by rw [IntKind.wrap_i64]; omega
                        clear hall3 hig3 e4 e6
                        go_wp2_with fail
                        go_roundg g2
                        case measure => omega
                        case rel =>
                          refine ⟨i2 + 1, k3, by omega, rfl, hk3, by simp, rfl, fun j h hj => ?_⟩
                          by_cases e : j = i2
                          · subst e; rw [HM2.out]; exact HN.out
                          · exact HALL2.out j h (by omega)
                      | succ g3 =>
                        have hi3 : i3 < m2.names.length := by omega
                        have hc3 : (i3 : Int) < (m2.names.length : Int) := by omega
                        obtain ⟨b2, o2, rfl, hlt2, q2⟩ := HX2.out i3 hi3
                        have HALL3 := hid hall3
                        obtain ⟨nm, hnm⟩ : ∃ nm, m2.names[i3] = nm := ⟨_, rfl⟩
                        rw [hnm] at q2
                        have HNM := hid hnm
                        have hsz := ba_len nm
                        clear hall3 hnm e4 e6
                        by_cases hs : nm.length ≤ 1048576
                        · have e3'' : ¬ ((1048576 : Int) < ((ba nm).size : Int)) := by omega
                          have e4 : IntKind.i64.wrap ((k3 : Int) + ((ba nm).size : Int)) = ((k3 + (ba nm).size : Nat) : Int) := by rw [IntKind.wrap_i64]; omega
                          have e5 : IntKind.i64.wrap ((i3 : Int) + 1) = ((i3 + 1 : Nat) : Int) := by rw [IntKind.wrap_i64]; omega
                          by_cases ht3 : k3 + (ba nm).size ≤ 1048576
                          · have e6 : ¬ ((1048576 : Int) < ((k3 + (ba nm).size : Nat) : Int)) := by omega
                            clear hsz
                            go_wp2_with fail
                            go_roundg g3
                            case measure => omega
                            case rel =>
                              refine ⟨i3 + 1, k3 + (ba nm).size, by omega, by simp, ht3, by simp, rfl, fun j h hj => ?_⟩
                              by_cases e : j = i3
                              · subst e; rw [HNM.out]; exact hs
                              · exact HALL3.out j h (by omega)
                          · have e6 : (1048576 : Int) < ((k3 + (ba nm).size : Nat) : Int) := by omega
                            clear hsz
                            go_wp2_with fail
                            go_ret
                            exact ⟨⟨_, rfl, fun h => by cases h⟩, rfl⟩
                        · have e3'' : (1048576 : Int) < ((ba nm).size : Int) := by omega
                          clear hsz
                          go_wp2_with fail
                          go_ret
                          exact ⟨⟨_, rfl, fun h => by cases h⟩, rfl⟩
                  · have e6 : (1048576 : Int) < ((k2 + m2.names.length : Nat) : Int) := by omega
                    go_wp2_with fail
                    go_ret
                    exact ⟨⟨_, rfl, fun h => by cases h⟩, rfl⟩
                · have e3' : (1048576 : Int) < (m2.names.length : Int) := by omega
                  go_wp2_with fail
                  go_ret
                  exact ⟨⟨_, rfl, fun h => by cases h⟩, rfl⟩
          · have e6 : (1048576 : Int) < ((k + ms.length : Nat) : Int) := by omega
            go_wp2_with fail
            go_ret
            exact ⟨⟨_, rfl, fun h => by cases h⟩, rfl⟩
        · have e3 : (1048576 : Int) < (ms.length : Int) := by omega
          go_wp2_with fail
          go_ret
          exact ⟨⟨_, rfl, fun h => by cases h⟩, rfl⟩
  · have e2 : (1048576 : Int) < (xs.length : Int) := by omega
    go_enter Tryz.func4, Tryz.ntmps4
    go_wp2_with fail
    go_ret
    exact ⟨⟨_, rfl, fun h => by cases h⟩, rfl⟩
end Go.Proofs.YtllafdcijpdopaaGreatFmt
