/-
  The names that came in: the bound on bytes, the sum, the copy, the comparison without case. Conditions: each theorem's own.
-/
import Derived.Test.YtgjoklbljmpkgaaFmtGi
import Derived.WalkSpells
namespace Go.Proofs.YtgjoklbljmpkgaaFmt
open Go.ChangeShapes Go.WideShapes Go.ChangeAt Go.RowKit Go.Lib Go.ChangeMaps
/-- a slice of strings that came in -/
def IsStrs (w : World) (a : Option Addr) (len cap : Nat) (zs : List ByteArray) : Prop :=
  (a = none ∧ len = 0 ∧ cap = 0 ∧ zs = []) ∨
  ∃ x, a = some x ∧ len ≤ cap ∧ cap ≤ maxLen ∧ zs.length = cap ∧ (∀ i, i < zs.length → w.cell? (x.add i) = some (.string (zs.getD i ByteArray.empty))) ∧ ∀ s ∈ zs, s.size ≤ maxLen

structure RowT (w : World) (a : Option Addr) (n : Nat) (z : List ByteArray) : Prop where
  cell : 0 < n → ∃ b off, a = some ⟨b, off, none⟩ ∧ b < w.heap.size ∧ ∀ i, i < n → w.cell? ⟨b, off + i, none⟩ = some (.string (z.getD i ByteArray.empty))
  wf : ∀ i, i < n → (z.getD i ByteArray.empty).size ≤ maxLen

theorem cell_lt {w : World} {a : Addr} {v : Value} (h : w.cell? a = some v) : a.block < w.heap.size ∧ a.spot = none := by
  unfold World.cell? at h
  cases hb : w.heap[a.block]? with
  | none => rw [hb] at h; cases h
  | some o =>
    have := (Array.getElem?_eq_some_iff.1 hb).1
    refine ⟨this, ?_⟩
    rw [hb] at h
    cases o with
    | cells c e f =>
      simp only at h
      cases hs : a.spot with
      | none => rfl
      | some x => rw [hs] at h; simp at h
    | _ => simp at h

theorem IsStrs.row {w : World} {a : Option Addr} {n c : Nat} {z : List ByteArray} (h : IsStrs w a n c z) : RowT w a n z ∧ n ≤ maxLen := by
  rcases h with ⟨rfl, rfl, rfl, rfl⟩ | ⟨x, rfl, hl, hm, hz, hc, hw⟩
  · exact ⟨⟨fun h => by omega, fun i h => by omega⟩, by simp [maxLen]⟩
  · refine ⟨⟨fun h => ?_, fun i hi => ?_⟩, by omega⟩
    · have h0 := hc 0 (by omega)
      obtain ⟨h1, h2⟩ := cell_lt h0
      obtain ⟨b, off, sp⟩ := x
      have h1' : b < w.heap.size := h1
      have h2' : sp = none := h2
      subst h2'
      refine ⟨b, off, rfl, h1', fun i hi => ?_⟩
      have q := hc i (by omega)
      by_cases e : i = 0
      · subst e; simpa [Addr.add] using q
      · simpa [Addr.add, e] using q
    · have : i < z.length := by omega
      rw [List.getD_eq_getElem?_getD, List.getElem?_eq_getElem this]
      exact hw _ (List.getElem_mem _)

/-- the names that stand in a slice -/
structure NamesAt (sa : Option Addr) (n : Nat) (ws : List NM) (w : World) : Prop where
  len : ws.length = n
  cell : ∀ i (h : i < ws.length), ∃ g o, sa = some ⟨g, o, none⟩ ∧ g < w.heap.size ∧ w.cell? ⟨g, o + i, none⟩ = some (.string (ba ws[i]))
  wf : ∀ i (h : i < ws.length), (ws[i]).length ≤ maxLen
theorem names_of {w : World} {a : Option Addr} {n c : Nat} {z : List ByteArray} (h : IsStrs w a n c z) : ∃ ws, NamesAt a n ws w ∧ n ≤ maxLen := by
  obtain ⟨hr, hm⟩ := h.row
  refine ⟨(List.range n).map (fun i => (z.getD i ByteArray.empty).data.toList), ⟨by simp, fun i hi => ?_, fun i hi => ?_⟩, hm⟩
  · have hi' : i < n := by simpa using hi
    obtain ⟨b, off, rfl, hb, hc⟩ := hr.cell (by omega)
    refine ⟨b, off, rfl, hb, ?_⟩
    rw [hc i hi']
    simp [ba_of]
  · have hi' : i < n := by simpa using hi
    have := hr.wf i hi'
    rw [Lib.size_eq] at this
    simp only [List.getElem_map, List.getElem_range]
    exact this
structure BoolP (P : Prop) (e : Ending) : Prop where
  ex : ∃ b : Bool, e = .returned (.bool b) ∧ (b = true → P)
structure IntR (e : Ending) : Prop where
  ex : ∃ k : Int, e = .returned (.int .i64 k)
structure Z5I (ws : List NM) (w : World) (g : Nat) (v8 v7 : Value) (wx : World) : Prop where
  ex : ∃ i : Nat, i + g = ws.length ∧ v8 = .int .i64 i ∧ wx = w ∧ (∃ k : Nat, v7 = .int .i64 k ∧ k ≤ 1048576) ∧ ∀ j (h : j < ws.length), j < i → (ws[j]).length ≤ 1048576
theorem ba_size (l : NM) : (ba l).size = l.length := by simp [ba, ByteArray.size]
set_option maxHeartbeats 2000000 in
set_option maxRecDepth 100000 in
theorem zz5 (sa : Option Addr) (n cap : Nat) (ws : List NM) (a1 : Int) (a2 : Bool) (w : World) (h : NamesAt sa n ws w) (hn : n ≤ maxLen) :
    Calls Tryf.prog 5 #[.slice sa n cap, .int .u8 a1, .bool a2] w fun e w' => BoolP (∀ x ∈ ws, x.length ≤ 1048576) e ∧ w' = w := by
  obtain rfl := h.len.symm
  have HN := hid h
  clear h
  by_cases hl : ws.length ≤ 1048576
  · have e1 : IntKind.i64.wrap ((ws.length : Int)) = ws.length := by rw [IntKind.wrap_i64]; omega
    have e2 : ¬ ((1048576 : Int) < (ws.length : Int)) := by omega
    go_enter Tryf.func5, Tryf.ntmps5
    go_wp2_with fail
    go_loopg [8, 7] ws.length (fun g v8 v7 wx => Z5I ws w g v8 v7 wx)
    case atStart => exact ⟨0, by omega, by first | rfl | simp, rfl, ⟨ws.length, by first | rfl | simp, hl⟩, fun j h hj => by omega⟩
    case round =>
      obtain ⟨i, hig, rfl, rfl, ⟨k, rfl, hk⟩, hall⟩ := hrel.ex
      clear hrel
      cases gk with
      | zero =>
        have hie : i = ws.length := by omega
        have hc : ¬ ((i : Int) < (ws.length : Int)) := by omega
        have HA := hid (show ∀ x ∈ ws, x.length ≤ 1048576 from fun x hx => by
          obtain ⟨j, hj, rfl⟩ := List.mem_iff_getElem.1 hx
          exact hall j hj (by omega))
        clear hall hig hie
        go_wp2_with fail
        go_ret
        exact ⟨⟨_, rfl, fun _ => HA.out⟩, rfl⟩
      | succ g =>
        have hi : i < ws.length := by omega
        have hc : (i : Int) < (ws.length : Int) := by omega
        obtain ⟨b, o, rfl, _, hcell⟩ := HN.out.cell i hi
        have hwf := HN.out.wf i hi
        obtain ⟨nm, hnm⟩ : ∃ nm, ws[i] = nm := ⟨_, rfl⟩
        rw [hnm] at hcell hwf
        have hsz := ba_size nm
        have HA := hid hall
        have HNM := hid hnm
        clear hall hnm
        by_cases hs : nm.length ≤ 1048576
        · have e3 : ¬ ((1048576 : Int) < ((ba nm).size : Int)) := by omega
          have e4 : IntKind.i64.wrap ((k : Int) + ((ba nm).size : Int)) = ((k + (ba nm).size : Nat) : Int) := by rw [IntKind.wrap_i64]; omega
          have e5 : IntKind.i64.wrap ((i : Int) + 1) = ((i + 1 : Nat) : Int) := by rw [IntKind.wrap_i64]; omega
          by_cases ht : k + (ba nm).size ≤ 1048576
          · have e6 : ¬ ((1048576 : Int) < ((k + (ba nm).size : Nat) : Int)) := by omega
            clear hsz
            go_wp2_with fail
            go_roundg g
            case measure => omega
            case rel =>
              refine ⟨i + 1, by omega, by simp, rfl, ⟨k + (ba nm).size, by simp, ht⟩, fun j h hj => ?_⟩
              by_cases e : j = i
              · subst e; rw [HNM.out]; exact hs
              · exact HA.out j h (by omega)
          · have e6 : (1048576 : Int) < ((k + (ba nm).size : Nat) : Int) := by omega
            clear hsz
            go_wp2_with fail
            go_ret
            exact ⟨⟨_, rfl, fun h => by cases h⟩, rfl⟩
        · have e3 : (1048576 : Int) < ((ba nm).size : Int) := by omega
          clear hsz
          go_wp2_with fail
          go_ret
          exact ⟨⟨_, rfl, fun h => by cases h⟩, rfl⟩
  · go_enter Tryf.func5, Tryf.ntmps5
    go_wp2_with fail
    go_ret
    exact ⟨⟨_, rfl, fun h => by cases h⟩, rfl⟩
structure Z6I (ws : List NM) (w : World) (g : Nat) (v4 v3 : Value) (wx : World) : Prop where
  ex : ∃ i : Nat, i + g = ws.length ∧ v4 = .int .i64 i ∧ wx = w ∧ ∃ k : Nat, v3 = .int .i64 k ∧ k ≤ i * 1048592
set_option maxHeartbeats 2000000 in
set_option maxRecDepth 100000 in
theorem zz6 (sa : Option Addr) (n cap : Nat) (ws : List NM) (w : World) (h : NamesAt sa n ws w) (hn : n ≤ 4096) (hs : ∀ x ∈ ws, x.length ≤ 1048576) :
    Calls Tryf.prog 6 #[.slice sa n cap] w fun e w' => IntR e ∧ w' = w := by
  obtain rfl := h.len.symm
  have HN := hid h
  have HS := hid hs
  clear h hs
  go_enter Tryf.func6, Tryf.ntmps6
  go_wp2_with fail
  go_loopg [4, 3] ws.length (fun g v4 v3 wx => Z6I ws w g v4 v3 wx)
  case atStart => exact ⟨0, by omega, by first | rfl | simp, rfl, 0, by first | rfl | simp, by omega⟩
  case round =>
    obtain ⟨i, hig, rfl, rfl, k, rfl, hk⟩ := hrel.ex
    clear hrel
    cases gk with
    | zero =>
      have hc : ¬ ((i : Int) < (ws.length : Int)) := by omega
      clear hig
      go_wp2_with fail
      go_ret
      exact ⟨⟨_, rfl⟩, rfl⟩
    | succ g =>
      have hi : i < ws.length := by omega
      have hc : (i : Int) < (ws.length : Int) := by omega
      obtain ⟨b, o, rfl, _, hcell⟩ := HN.out.cell i hi
      have hln := HS.out _ (List.getElem_mem hi)
      obtain ⟨nm, hnm⟩ : ∃ nm, ws[i] = nm := ⟨_, rfl⟩
      rw [hnm] at hcell hln
      have hsz := ba_size nm
      have hi2 : i * 1048592 ≤ 4096 * 1048592 := Nat.mul_le_mul_right _ (by omega)
      have e3 : IntKind.i64.wrap (((ba nm).size : Int) + 16) = (((ba nm).size + 16 : Nat) : Int) := by rw [IntKind.wrap_i64]; omega
      have e4 : IntKind.i64.wrap ((k : Int) + (((ba nm).size + 16 : Nat) : Int)) = ((k + ((ba nm).size + 16) : Nat) : Int) := by rw [IntKind.wrap_i64]; omega
      have e5 : IntKind.i64.wrap ((i : Int) + 1) = ((i + 1 : Nat) : Int) := by rw [IntKind.wrap_i64]; omega
      have hk2 : k + ((ba nm).size + 16) ≤ (i + 1) * 1048592 := by rw [Nat.add_mul]; omega
      clear hsz hnm
      go_wp2_with fail
      go_roundg g
      case measure => omega
      case rel => exact ⟨i + 1, by omega, by simp, rfl, k + ((ba nm).size + 16), by simp; try omega, hk2⟩
/-- zzLowerASCII -/
def lowA (c : Nat) : Nat := if 65 ≤ c ∧ c ≤ 90 then c + 32 else c
set_option maxRecDepth 100000 in
theorem low12 (c : UInt8) (w : World) : Calls Tryf.prog 12 #[.int .u8 (c.toNat : Int)] w fun e w' => e = .returned (.int .u8 (lowA c.toNat : Nat)) ∧ w' = w := by
  have hc := c.toNat_lt
  generalize c.toNat = C at *
  unfold lowA
  by_cases h : 65 ≤ C ∧ C ≤ 90
  · rw [if_pos h]
    have e1 : (65 : Int) ≤ (C : Int) := by omega
    have e2 : (C : Int) ≤ 90 := by omega
    have e3 : IntKind.u8.wrap ((C : Int) + 32) = ((C + 32 : Nat) : Int) := by rw [IntKind.wrap_u8]; omega
    go_enter Tryf.func12, Tryf.ntmps12
    go_wp2_with fail
    all_goals
      go_ret
      first | exact ⟨by simp; try omega, rfl⟩ | (exfalso; omega)
  · rw [if_neg h]
    go_enter Tryf.func12, Tryf.ntmps12
    go_wp2_with fail
    all_goals
      go_ret
      first | exact ⟨rfl, rfl⟩ | (exfalso; omega)
end Go.Proofs.YtgjoklbljmpkgaaFmt
