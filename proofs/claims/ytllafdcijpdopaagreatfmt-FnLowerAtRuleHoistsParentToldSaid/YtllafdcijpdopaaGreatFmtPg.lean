/-
  The readers of rules, and the comparison of one compound selector. Conditions: each theorem's own.
-/
import Derived.Test.YtllafdcijpdopaaGreatFmtPf
namespace Go.Proofs.YtllafdcijpdopaaGreatFmt
open Go.RowKit Go.Lib
@[local go_sem] theorem ta_112_112 (a : Addr) (w : World) : (Instr.typeAssert (.iface 112 (.pointer (some a))) 26 112 true).run Tryz.prog w = .ok (.tuple #[.pointer (some a), .bool true]) w := by kernel_rfl
@[local go_sem] theorem ta_112_50 (a : Addr) (w : World) : (Instr.typeAssert (.iface 112 (.pointer (some a))) 26 50 true).run Tryz.prog w = .ok (.tuple #[.pointer none, .bool false]) w := by kernel_rfl
@[local go_sem] theorem ta_112_55 (a : Addr) (w : World) : (Instr.typeAssert (.iface 112 (.pointer (some a))) 26 55 true).run Tryz.prog w = .ok (.tuple #[.pointer none, .bool false]) w := by kernel_rfl
@[local go_sem] theorem ta_112_59 (a : Addr) (w : World) : (Instr.typeAssert (.iface 112 (.pointer (some a))) 26 59 true).run Tryz.prog w = .ok (.tuple #[.pointer none, .bool false]) w := by kernel_rfl
@[local go_sem] theorem ta_112_113 (a : Addr) (w : World) : (Instr.typeAssert (.iface 112 (.pointer (some a))) 26 113 true).run Tryz.prog w = .ok (.tuple #[.pointer none, .bool false]) w := by kernel_rfl
@[local go_sem] theorem ta_50_112 (a : Addr) (w : World) : (Instr.typeAssert (.iface 50 (.pointer (some a))) 26 112 true).run Tryz.prog w = .ok (.tuple #[.pointer none, .bool false]) w := by kernel_rfl
@[local go_sem] theorem ta_50_50 (a : Addr) (w : World) : (Instr.typeAssert (.iface 50 (.pointer (some a))) 26 50 true).run Tryz.prog w = .ok (.tuple #[.pointer (some a), .bool true]) w := by kernel_rfl
@[local go_sem] theorem ta_50_55 (a : Addr) (w : World) : (Instr.typeAssert (.iface 50 (.pointer (some a))) 26 55 true).run Tryz.prog w = .ok (.tuple #[.pointer none, .bool false]) w := by kernel_rfl
@[local go_sem] theorem ta_50_59 (a : Addr) (w : World) : (Instr.typeAssert (.iface 50 (.pointer (some a))) 26 59 true).run Tryz.prog w = .ok (.tuple #[.pointer none, .bool false]) w := by kernel_rfl
@[local go_sem] theorem ta_50_113 (a : Addr) (w : World) : (Instr.typeAssert (.iface 50 (.pointer (some a))) 26 113 true).run Tryz.prog w = .ok (.tuple #[.pointer none, .bool false]) w := by kernel_rfl
@[local go_sem] theorem ta_55_112 (a : Addr) (w : World) : (Instr.typeAssert (.iface 55 (.pointer (some a))) 26 112 true).run Tryz.prog w = .ok (.tuple #[.pointer none, .bool false]) w := by kernel_rfl
@[local go_sem] theorem ta_55_50 (a : Addr) (w : World) : (Instr.typeAssert (.iface 55 (.pointer (some a))) 26 50 true).run Tryz.prog w = .ok (.tuple #[.pointer none, .bool false]) w := by kernel_rfl
@[local go_sem] theorem ta_55_55 (a : Addr) (w : World) : (Instr.typeAssert (.iface 55 (.pointer (some a))) 26 55 true).run Tryz.prog w = .ok (.tuple #[.pointer (some a), .bool true]) w := by kernel_rfl
@[local go_sem] theorem ta_55_59 (a : Addr) (w : World) : (Instr.typeAssert (.iface 55 (.pointer (some a))) 26 59 true).run Tryz.prog w = .ok (.tuple #[.pointer none, .bool false]) w := by kernel_rfl
@[local go_sem] theorem ta_55_113 (a : Addr) (w : World) : (Instr.typeAssert (.iface 55 (.pointer (some a))) 26 113 true).run Tryz.prog w = .ok (.tuple #[.pointer none, .bool false]) w := by kernel_rfl
@[local go_sem] theorem ta_59_112 (a : Addr) (w : World) : (Instr.typeAssert (.iface 59 (.pointer (some a))) 26 112 true).run Tryz.prog w = .ok (.tuple #[.pointer none, .bool false]) w := by kernel_rfl
@[local go_sem] theorem ta_59_50 (a : Addr) (w : World) : (Instr.typeAssert (.iface 59 (.pointer (some a))) 26 50 true).run Tryz.prog w = .ok (.tuple #[.pointer none, .bool false]) w := by kernel_rfl
@[local go_sem] theorem ta_59_55 (a : Addr) (w : World) : (Instr.typeAssert (.iface 59 (.pointer (some a))) 26 55 true).run Tryz.prog w = .ok (.tuple #[.pointer none, .bool false]) w := by kernel_rfl
@[local go_sem] theorem ta_59_59 (a : Addr) (w : World) : (Instr.typeAssert (.iface 59 (.pointer (some a))) 26 59 true).run Tryz.prog w = .ok (.tuple #[.pointer (some a), .bool true]) w := by kernel_rfl
@[local go_sem] theorem ta_59_113 (a : Addr) (w : World) : (Instr.typeAssert (.iface 59 (.pointer (some a))) 26 113 true).run Tryz.prog w = .ok (.tuple #[.pointer none, .bool false]) w := by kernel_rfl
@[local go_sem] theorem ta_113_112 (a : Addr) (w : World) : (Instr.typeAssert (.iface 113 (.pointer (some a))) 26 112 true).run Tryz.prog w = .ok (.tuple #[.pointer none, .bool false]) w := by kernel_rfl
@[local go_sem] theorem ta_113_50 (a : Addr) (w : World) : (Instr.typeAssert (.iface 113 (.pointer (some a))) 26 50 true).run Tryz.prog w = .ok (.tuple #[.pointer none, .bool false]) w := by kernel_rfl
@[local go_sem] theorem ta_113_55 (a : Addr) (w : World) : (Instr.typeAssert (.iface 113 (.pointer (some a))) 26 55 true).run Tryz.prog w = .ok (.tuple #[.pointer none, .bool false]) w := by kernel_rfl
@[local go_sem] theorem ta_113_59 (a : Addr) (w : World) : (Instr.typeAssert (.iface 113 (.pointer (some a))) 26 59 true).run Tryz.prog w = .ok (.tuple #[.pointer none, .bool false]) w := by kernel_rfl
@[local go_sem] theorem ta_113_113 (a : Addr) (w : World) : (Instr.typeAssert (.iface 113 (.pointer (some a))) 26 113 true).run Tryz.prog w = .ok (.tuple #[.pointer (some a), .bool true]) w := by kernel_rfl
@[local go_sem] theorem ta_nil_112 (w : World) : (Instr.typeAssert .nilIface 26 112 true).run Tryz.prog w = .ok (.tuple #[.pointer none, .bool false]) w := by kernel_rfl
@[local go_sem] theorem ta_nil_50 (w : World) : (Instr.typeAssert .nilIface 26 50 true).run Tryz.prog w = .ok (.tuple #[.pointer none, .bool false]) w := by kernel_rfl
@[local go_sem] theorem ta_nil_55 (w : World) : (Instr.typeAssert .nilIface 26 55 true).run Tryz.prog w = .ok (.tuple #[.pointer none, .bool false]) w := by kernel_rfl
@[local go_sem] theorem ta_nil_59 (w : World) : (Instr.typeAssert .nilIface 26 59 true).run Tryz.prog w = .ok (.tuple #[.pointer none, .bool false]) w := by kernel_rfl
@[local go_sem] theorem ta_nil_113 (w : World) : (Instr.typeAssert .nilIface 26 113 true).run Tryz.prog w = .ok (.tuple #[.pointer none, .bool false]) w := by kernel_rfl
@[local go_sem] theorem ta_169_169 (a : Addr) (w : World) : (Instr.typeAssert (.iface 169 (.pointer (some a))) 156 169 true).run Tryz.prog w = .ok (.tuple #[.pointer (some a), .bool true]) w := by kernel_rfl
@[local go_sem] theorem ta_169_149 (a : Addr) (w : World) : (Instr.typeAssert (.iface 169 (.pointer (some a))) 156 149 true).run Tryz.prog w = .ok (.tuple #[.pointer none, .bool false]) w := by kernel_rfl
@[local go_sem] theorem nn_112 (a : Addr) (w : World) : (binOp .neq 26 (.iface 112 (.pointer (some a))) .nilIface).run Tryz.prog w = .ok (.bool true) w := by kernel_rfl
@[local go_sem] theorem ne_112 (a : Addr) (w : World) : (binOp .eql 26 (.iface 112 (.pointer (some a))) .nilIface).run Tryz.prog w = .ok (.bool false) w := by kernel_rfl
@[local go_sem] theorem nn_50 (a : Addr) (w : World) : (binOp .neq 26 (.iface 50 (.pointer (some a))) .nilIface).run Tryz.prog w = .ok (.bool true) w := by kernel_rfl
@[local go_sem] theorem ne_50 (a : Addr) (w : World) : (binOp .eql 26 (.iface 50 (.pointer (some a))) .nilIface).run Tryz.prog w = .ok (.bool false) w := by kernel_rfl
@[local go_sem] theorem nn_55 (a : Addr) (w : World) : (binOp .neq 26 (.iface 55 (.pointer (some a))) .nilIface).run Tryz.prog w = .ok (.bool true) w := by kernel_rfl
@[local go_sem] theorem ne_55 (a : Addr) (w : World) : (binOp .eql 26 (.iface 55 (.pointer (some a))) .nilIface).run Tryz.prog w = .ok (.bool false) w := by kernel_rfl
@[local go_sem] theorem nn_59 (a : Addr) (w : World) : (binOp .neq 26 (.iface 59 (.pointer (some a))) .nilIface).run Tryz.prog w = .ok (.bool true) w := by kernel_rfl
@[local go_sem] theorem ne_59 (a : Addr) (w : World) : (binOp .eql 26 (.iface 59 (.pointer (some a))) .nilIface).run Tryz.prog w = .ok (.bool false) w := by kernel_rfl
@[local go_sem] theorem nn_113 (a : Addr) (w : World) : (binOp .neq 26 (.iface 113 (.pointer (some a))) .nilIface).run Tryz.prog w = .ok (.bool true) w := by kernel_rfl
@[local go_sem] theorem ne_113 (a : Addr) (w : World) : (binOp .eql 26 (.iface 113 (.pointer (some a))) .nilIface).run Tryz.prog w = .ok (.bool false) w := by kernel_rfl
@[local go_sem] theorem ne_nil (w : World) : (binOp .eql 26 .nilIface .nilIface).run Tryz.prog w = .ok (.bool true) w := by kernel_rfl
@[local go_sem] theorem nn_nil (w : World) : (binOp .neq 26 .nilIface .nilIface).run Tryz.prog w = .ok (.bool false) w := by kernel_rfl
theorem kind12_112 (a : Addr) (w : World) : Calls Tryz.prog 12 #[.agg #[.iface 112 (.pointer (some a)), .int .i32 0]] w fun e w' => e = .returned (.int .i64 1) ∧ Below w.heap.size w w' := by
  go_enter Tryz.func12, Tryz.ntmps12
  go_wp2_with fail
  go_ret
  exact ⟨rfl, (Below.refl _ _).alloc (Nat.le_refl _) _⟩
theorem kind12_50 (a : Addr) (w : World) : Calls Tryz.prog 12 #[.agg #[.iface 50 (.pointer (some a)), .int .i32 0]] w fun e w' => e = .returned (.int .i64 2) ∧ Below w.heap.size w w' := by
  go_enter Tryz.func12, Tryz.ntmps12
  go_wp2_with fail
  go_ret
  exact ⟨rfl, (Below.refl _ _).alloc (Nat.le_refl _) _⟩
theorem kind12_55 (a : Addr) (w : World) : Calls Tryz.prog 12 #[.agg #[.iface 55 (.pointer (some a)), .int .i32 0]] w fun e w' => e = .returned (.int .i64 3) ∧ Below w.heap.size w w' := by
  go_enter Tryz.func12, Tryz.ntmps12
  go_wp2_with fail
  go_ret
  exact ⟨rfl, (Below.refl _ _).alloc (Nat.le_refl _) _⟩
theorem kind12_59 (a : Addr) (w : World) : Calls Tryz.prog 12 #[.agg #[.iface 59 (.pointer (some a)), .int .i32 0]] w fun e w' => e = .returned (.int .i64 4) ∧ Below w.heap.size w w' := by
  go_enter Tryz.func12, Tryz.ntmps12
  go_wp2_with fail
  go_ret
  exact ⟨rfl, (Below.refl _ _).alloc (Nat.le_refl _) _⟩
theorem kind12_113 (a : Addr) (w : World) : Calls Tryz.prog 12 #[.agg #[.iface 113 (.pointer (some a)), .int .i32 0]] w fun e w' => e = .returned (.int .i64 5) ∧ Below w.heap.size w w' := by
  go_enter Tryz.func12, Tryz.ntmps12
  go_wp2_with fail
  go_ret
  exact ⟨rfl, (Below.refl _ _).alloc (Nat.le_refl _) _⟩
theorem kind12_nil (w : World) : Calls Tryz.prog 12 #[.agg #[.nilIface, .int .i32 0]] w fun e w' => e = .returned (.int .i64 0) ∧ Below w.heap.size w w' := by
  go_enter Tryz.func12, Tryz.ntmps12
  go_wp2_with fail
  go_ret
  exact ⟨rfl, (Below.refl _ _).alloc (Nat.le_refl _) _⟩
theorem kids14_112 (b : Nat) (v : Value) (w : World) (hb : b < w.heap.size) (hc : w.cell? ⟨b, 1, none⟩ = some v) : Calls Tryz.prog 14 #[.agg #[.iface 112 (.pointer (some ⟨b, 0, none⟩)), .int .i32 0]] w fun e w' => e = .returned v ∧ Below w.heap.size w w' := by
  go_enter Tryz.func14, Tryz.ntmps14
  go_wp2_with fail
  go_ret
  exact ⟨rfl, (Below.refl _ _).alloc (Nat.le_refl _) _⟩
theorem kids14_50 (b : Nat) (v : Value) (w : World) (hb : b < w.heap.size) (hc : w.cell? ⟨b, 1, none⟩ = some v) : Calls Tryz.prog 14 #[.agg #[.iface 50 (.pointer (some ⟨b, 0, none⟩)), .int .i32 0]] w fun e w' => e = .returned v ∧ Below w.heap.size w w' := by
  go_enter Tryz.func14, Tryz.ntmps14
  go_wp2_with fail
  go_ret
  exact ⟨rfl, (Below.refl _ _).alloc (Nat.le_refl _) _⟩
theorem kids14_55 (b : Nat) (v : Value) (w : World) (hb : b < w.heap.size) (hc : w.cell? ⟨b, 1, none⟩ = some v) : Calls Tryz.prog 14 #[.agg #[.iface 55 (.pointer (some ⟨b, 0, none⟩)), .int .i32 0]] w fun e w' => e = .returned v ∧ Below w.heap.size w w' := by
  go_enter Tryz.func14, Tryz.ntmps14
  go_wp2_with fail
  go_ret
  exact ⟨rfl, (Below.refl _ _).alloc (Nat.le_refl _) _⟩
theorem kids14_59 (b : Nat) (v : Value) (w : World) (hb : b < w.heap.size) (hc : w.cell? ⟨b, 2, none⟩ = some v) : Calls Tryz.prog 14 #[.agg #[.iface 59 (.pointer (some ⟨b, 0, none⟩)), .int .i32 0]] w fun e w' => e = .returned v ∧ Below w.heap.size w w' := by
  go_enter Tryz.func14, Tryz.ntmps14
  go_wp2_with fail
  go_ret
  exact ⟨rfl, (Below.refl _ _).alloc (Nat.le_refl _) _⟩
theorem sels16 (b : Nat) (v : Value) (w : World) (hb : b < w.heap.size) (hc : w.cell? ⟨b, 0, none⟩ = some v) : Calls Tryz.prog 16 #[.agg #[.iface 112 (.pointer (some ⟨b, 0, none⟩)), .int .i32 0]] w fun e w' => e = .returned v ∧ Below w.heap.size w w' := by
  go_enter Tryz.func16, Tryz.ntmps16
  go_wp2_with fail
  go_ret
  exact ⟨rfl, (Below.refl _ _).alloc (Nat.le_refl _) _⟩
theorem sk53 (a : Addr) (w : World) : Calls Tryz.prog 53 #[.agg #[.iface 169 (.pointer (some a)), .int .i32 0, .int .i32 0]] w fun e w' => e = .returned (.int .i64 0) ∧ Below w.heap.size w w' := by
  go_enter Tryz.func53, Tryz.ntmps53
  go_wp2_with fail
  go_ret
  exact ⟨rfl, (Below.refl _ _).alloc (Nat.le_refl _) _⟩
theorem sn54 (b : Nat) (nm : NM) (w : World) (hb : b < w.heap.size) (hc : w.cell? ⟨b, 0, none⟩ = some (.string (ba nm))) : Calls Tryz.prog 54 #[.agg #[.iface 169 (.pointer (some ⟨b, 0, none⟩)), .int .i32 0, .int .i32 0]] w fun e w' => e = .returned (.string (ba nm)) ∧ Below w.heap.size w w' := by
  go_enter Tryz.func54, Tryz.ntmps54
  go_wp2_with fail
  go_ret
  exact ⟨rfl, (Below.refl _ _).alloc (Nat.le_refl _) _⟩
structure NI (n : Nat) (w : World) (g : Nat) (v : Value) (wx : World) : Prop where
  ex : ∃ i : Nat, i + g = n ∧ v = .int .i64 i ∧ Below w.heap.size w wx
set_option maxHeartbeats 8000000 in
set_option maxRecDepth 100000 in
theorem names46 (P : Nat → Prop) (sv nv : Value) (ns : List NM) (w : World) (hs : RowL SubT w P sv ns) (hn : StrsAt w nv ns) (hl : ns.length ≤ 1048576) :
    Calls Tryz.prog 46 #[sv, .int .i64 0, nv] w fun e w' => e = .returned (.bool true) ∧ Below w.heap.size w w' := by
  obtain ⟨a, c, rfl, hx⟩ := id hs
  obtain ⟨a2, c2, rfl, hx2⟩ := hn.ex
  have HS := hid hs
  have HN := hid hn
  clear hs hn hx hx2
  have e1 : IntKind.i64.wrap ((ns.length : Int) - 0) = (ns.length : Int) := by rw [IntKind.wrap_i64]; omega
  have e2 : ¬ ((ns.length : Int) < 0) := by omega
  go_enter Tryz.func46, Tryz.ntmps46
  go_wp2_with fail
  go_loopg [7] ns.length (fun g v7 wx => NI ns.length w g v7 wx)
  case atStart => exact ⟨0, by omega, by first | rfl | simp, Below.refl _ _⟩
  case round =>
    obtain ⟨i, hig, rfl, hbel⟩ := hrel.ex
    clear hrel
    cases gk with
    | zero =>
      have hc : ¬ ((i : Int) < (ns.length : Int)) := by omega
      have HL := hid hbel
      clear hig hbel
      go_wp2_with fail
      go_ret
      exact ⟨rfl, HL.out⟩
    | succ g =>
      have hi : i < ns.length := by omega
      have hc : (i : Int) < (ns.length : Int) := by omega
      obtain ⟨a', c', e', hx⟩ := HS.out.below hbel
      cases e'
      obtain ⟨g0, rfl, _, hg0, ⟨b, q0, _, hb, qb⟩, q1, q2⟩ := hx i hi
      obtain ⟨a'', c'', e'', hx2⟩ := (HN.out.below hbel).ex
      cases e''
      obtain ⟨g2, o2, rfl, hg2, q3⟩ := hx2 i hi
      have e5 : IntKind.i64.wrap ((i : Int) + 1) = ((i + 1 : Nat) : Int) := by rw [IntKind.wrap_i64]; omega
      have e6 : IntKind.i64.wrap (0 + (i : Int)) = (i : Int) := by rw [IntKind.wrap_i64]; omega
      generalize ns[i] = nm at qb q3
      simp only [Nat.add_zero] at q0
      have C53 := hid (sk53 ⟨b, 0, none⟩ wr)
      have HL := hid hbel
      clear hx hx2 hbel
      go_wp2_with fail
      refine C53.out.mono ?_
      rintro e w3 ⟨rfl, hb3⟩
      have HL3 := hid (HL.out.trans (hb3.mono HL.out.size))
      have hs3 := hb3.size
      have r0 := (cellLow (hb3.block g0 hg0) (i * 3)).trans q0
      have r1 := (cellLow (hb3.block g0 hg0) (i * 3 + 1)).trans q1
      have r2 := (cellLow (hb3.block g0 hg0) (i * 3 + 2)).trans q2
      have r3 := (cellLow (hb3.block g2 hg2) (o2 + i)).trans q3
      have rb := (cellLow (hb3.block b hb) 0).trans qb
      have hg03 : g0 < w3.heap.size := by omega
      have hg23 : g2 < w3.heap.size := by omega
      have hb33 : b < w3.heap.size := by omega
      have C54 := hid (sn54 b nm w3.drew hb33 rb)
      clear C53 hb3 q0 q1 q2 q3 qb hb hg0 hg2
      go_wp2_with fail
      have e7 : IntKind.i64.wrap (i : Int) = (i : Int) := by rw [IntKind.wrap_i64]; omega
      have e8 : (0 : Int) ≤ (i : Int) := by omega
      go_region_law ((go_simp
                      go_at_call 54
                      refine C54.out.mono ?_
                      rintro e w6 ⟨rfl, hb6⟩
                      have s3 := (cellLow (hb6.block g2 hg23) (o2 + i)).trans r3
                      have hs6 : w3.heap.size ≤ w6.heap.size := hb6.size
                      have HL6 := hid (HL3.out.trans ((show Below w3.heap.size w3 w6 from ⟨hb6.os, hb6.tape, hb6.output, hb6.size, hb6.block⟩).mono HL3.out.size))
                      clear hb6))
      all_goals
        go_wp2_with fail
        go_roundg g
        case measure => omega
        case rel => exact ⟨i + 1, by omega, by simp, by first | exact HL6.out | exact HL6.out.drew⟩
set_option maxHeartbeats 8000000 in
set_option maxRecDepth 100000 in
theorem ce33 (P : Nat → Prop) (m : Cm) (v s : Value) (la : Option Addr) (lc : Nat) (w : World) (hr : RowL SubT w P v m.names) (hs : StrsAt w s m.names) (ha : m.amps ≤ 255) (hb : BndM m) :
    Calls Tryz.prog 33 #[.agg #[.pointer none, v, .slice la m.amps lc, .int .i32 0, .int .u8 m.comb, .bool false], .agg #[.int .u8 m.comb, .int .u8 m.amps, s]] w fun e w' => e = .returned (.bool true) ∧ Below w.heap.size w w' := by
  have hn := hb.q
  have C46 := fun (W : World) (h : Below w.heap.size w W) => names46 P v s m.names W (hr.below h) (hs.below h) hn
  obtain ⟨a, c, rfl, _⟩ := hr
  obtain ⟨a2, c2, rfl, _⟩ := hs.ex
  have H46 := hid C46
  clear C46 hs hb
  go_enter Tryz.func33, Tryz.ntmps33
  go_wp2_with fail
  have hW : Below w.heap.size w ((w.alloc (.cells #[.pointer none, .slice a m.names.length c, .slice la m.amps lc, .int .i32 0, .int .u8 m.comb, .bool false] 134)).alloc (.cells #[.int .u8 m.comb, .int .u8 m.amps, .slice a2 m.names.length c2] 48)) := ((Below.refl _ _).alloc (Nat.le_refl _) _).alloc (by simp) _
  have HW := hid hW
  clear hW
  refine (H46.out _ HW.out).mono ?_
  rintro e w6 ⟨rfl, hb6⟩
  have HB := hid (HW.out.trans (hb6.mono HW.out.size))
  clear hb6
  go_wp2_with fail
  go_ret
  exact ⟨rfl, HB.out⟩
end Go.Proofs.YtllafdcijpdopaaGreatFmt
