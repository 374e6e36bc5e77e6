/-
  The contract of Equal on options. Conditions: the two options' cells and tables.
-/
import Derived.Test.YtlhcgnlbhncfkaaOx
import Derived.Deep.QuietTactic
import Derived.Deep.LoopGhost
import Derived.Lib.SlMapEqual
namespace Go.Proofs.Ytlhcgnlbhncfkaa
open Go.ChangeShapes Go.WideShapes Go.ChangeAt Go.RowKit
open Go.Maps (Keyed IsMap Tidy)

/-- the options at block a -/
structure OptAt (w : World) (a : Nat) (p : Option Nat) (f1 f2 f3 : Bool) (ft : Int) (env : ByteArray) (m : Int) : Prop where
  lt : a < w.heap.size
  c0 : w.cell? ⟨a, 0, none⟩ = some (.map p)
  c1 : w.cell? ⟨a, 1, none⟩ = some (.string env)
  c2 : w.cell? ⟨a, 2, none⟩ = some (.int .u16 ft)
  c3 : w.cell? ⟨a, 3, none⟩ = some (.bool f1)
  c4 : w.cell? ⟨a, 4, none⟩ = some (.bool f2)
  c5 : w.cell? ⟨a, 5, none⟩ = some (.bool f3)
  c6 : w.cell? ⟨a, 6, none⟩ = some (.int .u8 m)
theorem OptAt.below {w w' : World} {a : Nat} {p : Option Nat} {f1 f2 f3 : Bool} {ft : Int} {env : ByteArray} {m : Int} (h : OptAt w a p f1 f2 f3 ft env m) (hb : Below w.heap.size w w') : OptAt w' a p f1 f2 f3 ft env m := by
  have c : ∀ o, w'.cell? ⟨a, o, none⟩ = w.cell? ⟨a, o, none⟩ := fun o => hb.cell (p := ⟨a, o, none⟩) h.lt
  exact ⟨Nat.lt_of_lt_of_le h.lt hb.size, by rw [c]; exact h.c0, by rw [c]; exact h.c1, by rw [c]; exact h.c2, by rw [c]; exact h.c3, by rw [c]; exact h.c4, by rw [c]; exact h.c5, by rw [c]; exact h.c6⟩
theorem below_drewN {B : Nat} {a w : World} (h : Below B a w) (n : Nat) : Below B a (w.drewN n) := h.trans ⟨rfl, rfl, rfl, Nat.le_refl _, fun _ _ => rfl⟩
/-- the key's entry is in the second table too -/
def Good (DA DB : Dt) (k : Lit) : Prop := Maps.has DB k = true ∧ ∀ z, DA.atKey k z = DB.atKey k z
/-- the first loop of Equal -/
structure L1 (w0 : World) (B r n : Nat) (DA DB : Dt) (w : World) : Prop where
  ex : ∃ left cnt, w.ranges Try.prog 127 (plainElem Try.prog 128) B r n DA left cnt ∧ ∀ k, Maps.has DA k = true → left k = false → Good DA DB k
  below : Below w0.heap.size w0 w
/-- the second loop of Equal -/
structure L2 (w0 : World) (B r n : Nat) (D : Dt) (w : World) : Prop where
  ex : ∃ left cnt, w.ranges Try.prog 127 (plainElem Try.prog 128) B r n D left cnt
  below : Below w0.heap.size w0 w
theorem range_nil (w : World) : (Instr.range 43 (.map none)).run Try.prog w = .ok (.pointer (some ⟨w.heap.size, 0, none⟩)) (w.alloc (.mapIter none 0 #[] 0)) := run_range_nilMap w 43 127 128 Try.underlying43
theorem next_nil (w : World) (ty : TypeId) : (Instr.next (.pointer (some ⟨w.heap.size, 0, none⟩)) false ty).run Try.prog (w.alloc (.mapIter none 0 #[] 0)) = .ok (.tuple #[.bool false]) (w.alloc (.mapIter none 0 #[] 0)) := run_next_nilMap w ty 0 0 #[]
attribute [local go_sem] range_nil
set_option maxRecDepth 20000 in
set_option maxHeartbeats 2000000 in
theorem equal18 (a b : Nat) (pa pb : Option Nat) (f1 f2 f3 g1 g2 g3 : Bool) (ft gt : Int) (ea eb : ByteArray) (ma mb : Int) (DA DB : Dt) (w : World)
    (oa : OptAt w a pa f1 f2 f3 ft ea ma) (ob : OptAt w b pb g1 g2 g3 gt eb mb) (ha : PMap w (.map pa) DA) (hb : PMap w (.map pb) DB) :
    Calls Try.prog 18 #[.pointer (some ⟨a, 0, none⟩), .pointer (some ⟨b, 0, none⟩)] w fun e w' => (∃ r, e = .returned (.bool r) ∧ (r = true ↔ (ea = eb ∧ ft = gt ∧ f1 = g1 ∧ f2 = g2 ∧ f3 = g3 ∧ ma = mb) ∧ EqD DA DB)) ∧ Below w.heap.size w w' := by
  obtain ⟨la, a0, a1, a2, a3, a4, a5, a6⟩ := oa
  obtain ⟨lb, b0, b1, b2, b3, b4, b5, b6⟩ := ob
  have HA := Lib.hid ha
  have HB := Lib.hid hb
  clear ha hb
  go_enter Try.func18, Try.ntmps18
  go_wp2_with fail
  have HS := Lib.hid (sEq_iff f1 f2 f3 g1 g2 g3 ft gt ea eb ma mb)
  refine wp_region_quiet_lit (by kernel_rfl) (by kernel_rfl) ?_
  iterate 8 (quiet_step (fail))
  refine wpQuiet_neq47 rfl _ _ _ rfl f1 f2 f3 g1 g2 g3 ft gt ea eb ma mb rfl rfl ?_
  refine wpQuiet_nil ?_
  intro _ hw'
  obtain ⟨nq, hw''⟩ := hw'
  subst hw''
  generalize sEq f1 f2 f3 g1 g2 g3 ft gt ea eb ma mb = r at HS ⊢
  cases r
  · go_wp2_with fail
    go_ret
    exact ⟨⟨false, rfl, by rw [← HS.out]; simp⟩, below_drewN (Below.refl _ _) _⟩
  obtain ⟨W, hW⟩ : ∃ W, W = w.drewN nq := ⟨_, rfl⟩
  have bW : Below w.heap.size w W := by rw [hW]; exact below_drewN (Below.refl _ _) _
  have xA0 : W.cell? ⟨a, 0, none⟩ = some (.map pa) := by rw [hW]; exact a0
  have xB0 : W.cell? ⟨b, 0, none⟩ = some (.map pb) := by rw [hW]; exact b0
  have lenA : ∀ n, (Builtin.len_ #[43] 3 #[.map pa]).run Try.prog (W.drewN n) = .ok (.int .i64 (Maps.size DA)) (W.drewN n) := fun n => (HA.out.below (below_drewN bW n)).len 3
  have lenB : ∀ n, (Builtin.len_ #[43] 3 #[.map pb]).run Try.prog (W.drewN n) = .ok (.int .i64 (Maps.size DB)) (W.drewN n) := fun n => (HB.out.below (below_drewN bW n)).len 3
  have HBW := Lib.hid bW
  rw [← hW]
  clear hW bW a0 a1 a2 a3 a4 a5 a6 b0 b1 b2 b3 b4 b5 b6
  have HXB := Lib.hid (show w.cell? ⟨b, 0, none⟩ = some (.map pb) from by rw [← HBW.out.cell (p := ⟨b, 0, none⟩) lb]; exact xB0)
  by_cases hss : Maps.size DA = Maps.size DB
  · have t1 : ((Maps.size DA : Int) != (Maps.size DB : Int)) = false := by simp [hss]
    have t2 : (Maps.size DA : Int) = (Maps.size DB : Int) := by omega
    go_wp2_with fail
    go_quiet (fail)
    obtain ⟨Y, hY⟩ : ∃ Y, Y = W.drewN nq := ⟨_, rfl⟩
    have bY : Below w.heap.size w Y := by rw [hY]; exact below_drewN HBW.out _
    have yA : Y.cell? ⟨a, 0, none⟩ = some (.map pa) := by rw [hY]; exact xA0
    have yB : Y.cell? ⟨b, 0, none⟩ = some (.map pb) := by rw [hY]; exact xB0
    have BY := Lib.hid bY
    rw [← hY]
    clear hY bY lenA lenB xA0 xB0 HBW
    rcases HA.out.below BY.out with ⟨hpa, hDA⟩ | ⟨B1, n1, hpa, hn1, ho1⟩
    · injection hpa with hpa
      subst hpa
      have eqd := Lib.hid (show EqD DA DB from ⟨hss, fun k hk => by rw [hDA] at hk; simp [Maps.has] at hk⟩)
      clear hDA
      go_wp2_with fail
      obtain ⟨X, hX⟩ : ∃ X, X = Y.alloc (.mapIter none 0 #[] 0) := ⟨_, rfl⟩
      have BX := Lib.hid (show Below w.heap.size w X from by rw [hX]; exact BY.out.alloc BY.out.size _)
      have xb : X.cell? ⟨b, 0, none⟩ = some (.map pb) := by rw [BX.out.cell (p := ⟨b, 0, none⟩) lb]; exact HXB.out
      have nx : ∀ ty, (Instr.next (.pointer (some ⟨Y.heap.size, 0, none⟩)) false ty).run Try.prog X = .ok (.tuple #[.bool false]) X := by rw [hX]; exact next_nil Y
      rw [← hX]
      clear hX
      go_loopw [5, 6, 7, 8] (fun _ _ _ _ ws => ws = X) (fun _ _ _ _ _ => 0)
      case atStart => rfl
      case round =>
        obtain rfl := hrel.symm
        rcases HB.out.below BX.out with ⟨hpb, hDB⟩ | ⟨B2, n2, hpb, hn2, ho2⟩
        · clear hDB
          injection hpb with hpb
          subst hpb
          go_wp2_with fail
          obtain ⟨V, hV⟩ : ∃ V, V = X.alloc (.mapIter none 0 #[] 0) := ⟨_, rfl⟩
          have BV := Lib.hid (show Below w.heap.size w V from by rw [hV]; exact BX.out.alloc BX.out.size _)
          have nv : ∀ ty, (Instr.next (.pointer (some ⟨X.heap.size, 0, none⟩)) false ty).run Try.prog V = .ok (.tuple #[.bool false]) V := by rw [hV]; exact next_nil X
          rw [← hV]
          clear hV
          go_loopw [9, 10, 11] (fun _ _ _ ws => ws = V) (fun _ _ _ _ => 0)
          case atStart => rfl
          case round =>
            obtain rfl := hrel.symm
            go_wp2_with fail
            exact bodyPost_ret (v := .bool true) (by simp [results, Try.results18, go_sem]) rfl ⟨.inr ⟨rfl, by simpa using HS.out, eqd.out⟩, BV.out⟩
        · injection hpb with hpb
          subst hpb
          have HO2 := Lib.hid ho2
          clear ho2
          go_wp2_with (at_range; refine wpList_range_own _ rfl _ _ rfl 127 128 law127 Try.underlying43 _ B2 n2 DB rfl HO2.out ?_; intro w2 hrg2 hg2 hs2)
          try go_frame
          have bX := BX.out
          have L20 := Lib.hid (show L2 w B2 X.heap.size n2 DB w2 from ⟨⟨_, _, hrg2⟩, bX.trans ⟨hg2.os, hg2.tape, hg2.output, hg2.size, fun k hk => hg2.block k (by have := bX.size; omega) (by simp)⟩⟩)
          clear hrg2 hg2 hs2 bX
          go_loopw [9, 10, 11] (fun _ _ _ ws => L2 w B2 X.heap.size n2 DB ws) (fun _ _ _ ws => ws.rangeLeft B2 X.heap.size)
          case atStart => exact L20.out
          case round =>
            obtain ⟨left2, cnt2, hrg⟩ := hrel.ex
            have HR := Lib.hid hrg
            have BR := Lib.hid hrel.below
            clear hrel hrg L20
            go_wp2_with (at_next; refine wpList_next_ranges_ii _ rfl _ rfl 127 128 .u16 .u8 law127 Try.underlying127 Try.underlying128 B2 X.heap.size n2 DB left2 cnt2 rfl HR.out ?_ ?_)
            · intro hc0 hl0
              go_wp2_with fail
              exact bodyPost_ret (v := .bool true) (by simp [results, Try.results18, go_sem]) rfl ⟨⟨true, rfl, by simp only [true_iff]; exact ⟨by simpa using HS.out, eqd.out⟩⟩, BR.out⟩
            · intro x c wn cnt1 hwx hwc hlx hat hrg1 hlt hg1 hs1 hen
              have bn := BR.out.trans (show Below w.heap.size _ wn from ⟨hg1.os, hg1.tape, hg1.output, hg1.size, fun k hk => hg1.block k (by have := BR.out.size; omega) (by have := BX.out.size; simp; omega)⟩)
              obtain ⟨c2, hlk, _, _⟩ := (HB.out.below bn).look hwx
              rw [Maps.has_true_of_atKey hat] at hlk
              have xb : wn.cell? ⟨b, 0, none⟩ = some (.map (some B2)) := by rw [bn.cell (p := ⟨b, 0, none⟩) lb]; exact HXB.out
              have LN := Lib.hid (show L2 w B2 X.heap.size n2 DB wn from ⟨⟨_, _, hrg1⟩, bn⟩)
              have LT := Lib.hid (show wn.rangeLeft B2 X.heap.size < wr.rangeLeft B2 X.heap.size from by rw [hrg1.left_eq, HR.out.left_eq]; exact hlt)
              clear bn hrg1 hg1 hs1 hat HR
              go_wp2_with fail
              go_roundw
              case rel => exact LN.out
              case measure => exact LT.out

    · injection hpa with hpa
      subst hpa
      have HO1 := Lib.hid ho1
      clear ho1
      go_wp2_with (at_range; refine wpList_range_own _ rfl _ _ rfl 127 128 law127 Try.underlying43 _ B1 n1 DA rfl HO1.out ?_; intro w1 hrg1 hg1 hs1)
      try go_frame
      have bY := BY.out
      have L10 := Lib.hid (show L1 w B1 Y.heap.size n1 DA DB w1 from ⟨⟨_, _, hrg1, fun k h1 h2 => by rw [h1] at h2; cases h2⟩, bY.trans ⟨hg1.os, hg1.tape, hg1.output, hg1.size, fun k hk => hg1.block k (by have := bY.size; omega) (by simp)⟩⟩)
      clear hrg1 hg1 hs1 bY
      go_loopw [5, 6, 7, 8] (fun _ _ _ _ wr => L1 w B1 Y.heap.size n1 DA DB wr) (fun _ _ _ _ wr => wr.rangeLeft B1 Y.heap.size)
      case atStart => exact L10.out
      case round =>
        obtain ⟨left, cnt, hrg, hgood⟩ := hrel.ex
        have HR := Lib.hid hrg
        have HG := Lib.hid hgood
        have BR := Lib.hid hrel.below
        clear hrel hrg hgood L10
        go_wp2_with (at_next; refine wpList_next_ranges_ii _ rfl _ rfl 127 128 .u16 .u8 law127 Try.underlying127 Try.underlying128 B1 Y.heap.size n1 DA left cnt rfl HR.out ?_ ?_)
        · intro hc0 hl0
          rename World => X
          have eqd := Lib.hid (show EqD DA DB from ⟨hss, fun k hk => HG.out k hk (hl0 k)⟩)
          have xb : X.cell? ⟨b, 0, none⟩ = some (.map pb) := by rw [BR.out.cell (p := ⟨b, 0, none⟩) lb]; exact HXB.out
          clear HG HR
          rcases HB.out.below BR.out with ⟨hpb, hDB⟩ | ⟨B2, n2, hpb, hn2, ho2⟩
          · clear hDB
            injection hpb with hpb
            subst hpb
            go_wp2_with fail
            obtain ⟨V, hV⟩ : ∃ V, V = X.alloc (.mapIter none 0 #[] 0) := ⟨_, rfl⟩
            have BV := Lib.hid (show Below w.heap.size w V from by rw [hV]; exact BR.out.alloc BR.out.size _)
            have nv : ∀ ty, (Instr.next (.pointer (some ⟨X.heap.size, 0, none⟩)) false ty).run Try.prog V = .ok (.tuple #[.bool false]) V := by rw [hV]; exact next_nil X
            rw [← hV]
            clear hV
            go_loopw [9, 10, 11] (fun _ _ _ ws => ws = V) (fun _ _ _ _ => 0)
            case atStart => rfl
            case round =>
              obtain rfl := hrel.symm
              go_wp2_with fail
              exact bodyPost_ret (v := .bool true) (by simp [results, Try.results18, go_sem]) rfl ⟨.inr ⟨rfl, by simpa using HS.out, eqd.out⟩, BV.out⟩
          · injection hpb with hpb
            subst hpb
            have HO2 := Lib.hid ho2
            clear ho2
            go_wp2_with (at_range; refine wpList_range_own _ rfl _ _ rfl 127 128 law127 Try.underlying43 _ B2 n2 DB rfl HO2.out ?_; intro w2 hrg2 hg2 hs2)
            try go_frame
            have bX := BR.out
            have L20 := Lib.hid (show L2 w B2 X.heap.size n2 DB w2 from ⟨⟨_, _, hrg2⟩, bX.trans ⟨hg2.os, hg2.tape, hg2.output, hg2.size, fun k hk => hg2.block k (by have := bX.size; omega) (by simp)⟩⟩)
            clear hrg2 hg2 hs2 bX
            go_loopw [9, 10, 11] (fun _ _ _ ws => L2 w B2 X.heap.size n2 DB ws) (fun _ _ _ ws => ws.rangeLeft B2 X.heap.size)
            case atStart => exact L20.out
            case round =>
              obtain ⟨left2, cnt2, hrg⟩ := hrel.ex
              have HR := Lib.hid hrg
              have BR2 := Lib.hid hrel.below
              clear hrel hrg L20
              go_wp2_with (at_next; refine wpList_next_ranges_ii _ rfl _ rfl 127 128 .u16 .u8 law127 Try.underlying127 Try.underlying128 B2 X.heap.size n2 DB left2 cnt2 rfl HR.out ?_ ?_)
              · intro hc0 hl0
                go_wp2_with fail
                exact bodyPost_ret (v := .bool true) (by simp [results, Try.results18, go_sem]) rfl ⟨⟨true, rfl, by simp only [true_iff]; exact ⟨by simpa using HS.out, eqd.out⟩⟩, BR2.out⟩
              · intro x c wn cnt1 hwx hwc hlx hat hrg1 hlt hg1 hs1 hen
                have bn := BR2.out.trans (show Below w.heap.size _ wn from ⟨hg1.os, hg1.tape, hg1.output, hg1.size, fun k hk => hg1.block k (by have := BR2.out.size; omega) (by have := BR.out.size; simp; omega)⟩)
                obtain ⟨c2, hlk, _, _⟩ := (HB.out.below bn).look hwx
                rw [Maps.has_true_of_atKey hat] at hlk
                have xb : wn.cell? ⟨b, 0, none⟩ = some (.map (some B2)) := by rw [bn.cell (p := ⟨b, 0, none⟩) lb]; exact HXB.out
                have LN := Lib.hid (show L2 w B2 X.heap.size n2 DB wn from ⟨⟨_, _, hrg1⟩, bn⟩)
                have LT := Lib.hid (show wn.rangeLeft B2 X.heap.size < wr.rangeLeft B2 X.heap.size from by rw [hrg1.left_eq, HR.out.left_eq]; exact hlt)
                clear bn hrg1 hg1 hs1 hat HR
                go_wp2_with fail
                go_roundw
                case rel => exact LN.out
                case measure => exact LT.out

        · intro x c wn cnt1 hwx hwc hlx hat hrg1 hlt hg1 hs1 hen
          have bn := BR.out.trans (show Below w.heap.size wr wn from ⟨hg1.os, hg1.tape, hg1.output, hg1.size, fun k hk => hg1.block k (by have := BR.out.size; omega) (by have := BY.out.size; simp; omega)⟩)
          obtain ⟨c2, hlk, _, hat2⟩ := (HB.out.below bn).look hwx
          have xb : wn.cell? ⟨b, 0, none⟩ = some (.map pb) := by rw [bn.cell (p := ⟨b, 0, none⟩) lb]; exact HXB.out
          have BN := Lib.hid bn
          have LT := Lib.hid (show wn.rangeLeft B1 Y.heap.size < wr.rangeLeft B1 Y.heap.size from by rw [hrg1.left_eq, HR.out.left_eq]; exact hlt)
          have HR1 := Lib.hid hrg1
          have HAT := Lib.hid hat
          have HAT2 := Lib.hid hat2
          have hasA := Lib.hid (Maps.has_true_of_atKey hat)
          clear bn hrg1 hg1 hs1 hat hat2 HR
          by_cases hh : Maps.has DB (.int .u16 x) = true
          · rw [hh] at hlk
            by_cases hc : c = c2
            · subst hc
              have LN := Lib.hid (show L1 w B1 Y.heap.size n1 DA DB wn from ⟨⟨_, _, HR1.out, fun k h1 h2 => by
                by_cases h3 : left k = false
                · exact HG.out k h1 h3
                · have h4 : k.sameKey (.int .u16 x) = true := by
                    simp only [Bool.not_eq_false] at h3
                    rw [h3] at h2
                    simpa using h2
                  rw [WideAt.sameKey_eq h4]
                  exact ⟨hh, fun z => by rw [HAT.out z, Maps.atKey_indep hh z (.lit (.int .u8 0)), HAT2.out]⟩⟩, BN.out⟩)
              clear HG HR1 HAT HAT2
              have t3 : (c != c) = false := by simp
              go_wp2_with fail
              go_roundw
              case rel => exact LN.out
              case measure => exact LT.out
            · have t3 : (c != c2) = true := by simp [hc]
              have ne := Lib.hid (show ¬ EqD DA DB from fun h => hc (by
                have h1 := (h.2 _ hasA.out).2 (.lit (.int .u8 0))
                rw [HAT.out, HAT2.out] at h1
                injection h1 with h1
                injection h1))
              clear HG HR1 HAT HAT2
              go_wp2_with fail
              go_ret
              exact ⟨⟨false, rfl, by simp only [Bool.false_eq_true, false_iff]; exact fun h => ne.out h.2⟩, BN.out⟩
          · have hh : Maps.has DB (.int .u16 x) = false := by simpa using hh
            rw [hh] at hlk
            have ne := Lib.hid (show ¬ EqD DA DB from fun h => by
              have h1 := (h.2 _ hasA.out).1
              rw [hh] at h1
              cases h1)
            clear HG HR1 HAT HAT2
            go_wp2_with fail
            go_ret
            exact ⟨⟨false, rfl, by simp only [Bool.false_eq_true, false_iff]; exact fun h => ne.out h.2⟩, BN.out⟩
  · have t1 : ((Maps.size DA : Int) != (Maps.size DB : Int)) = true := by simp; omega
    have t2 : ¬ (Maps.size DA : Int) = (Maps.size DB : Int) := by omega
    go_wp2_with fail
    go_quiet (fail)
    go_wp2_with fail
    go_ret
    exact ⟨⟨false, rfl, by simp only [Bool.false_eq_true, false_iff]; exact fun h => hss h.2.1⟩, below_drewN HBW.out _⟩
end Go.Proofs.Ytlhcgnlbhncfkaa
