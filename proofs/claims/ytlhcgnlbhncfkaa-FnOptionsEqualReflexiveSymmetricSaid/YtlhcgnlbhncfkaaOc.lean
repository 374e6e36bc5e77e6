/-
  The contracts of the options' makers. Conditions: each theorem's own.
-/
import Derived.Test.YtlhcgnlbhncfkaaOb
namespace Go.Proofs.Ytlhcgnlbhncfkaa
open Go.ChangeShapes Go.WideShapes Go.ChangeAt Go.RowKit
open Go.Maps (Keyed IsMap Tidy)

/-- a configuration's cells -/
noncomputable def cfgC (p : Option Nat) (f1 f2 f3 : Bool) (ft : Int) (env : ByteArray) : Array Value := (((((Try.zeroCells124.set! 58 (.map p)).set! 77 (.bool f1)).set! 75 (.bool f2)).set! 76 (.bool f3)).set! 60 (.int .u16 ft)).set! 10 (.string env)
theorem build124 (p : Option Nat) (f1 f2 f3 : Bool) (ft : Int) (env : ByteArray) (w : World) :
    (Instr.build 124 #[(41, .map p), (53, .bool f1), (51, .bool f2), (52, .bool f3), (43, .int .u16 ft), (7, .string env)]).run Try.prog w = .ok (.agg (cfgC p f1 f2 f3 ft env)) w := by kernel_rfl
theorem wpList_build124 (w : World) {ops : Array Oper} {rest : List Oper} {o : Oper} {a : Act} {Q : Exit → Act → World → Prop} (hg : o.guard = none) (x1 x2 x3 x4 x5 x6 : Operand) (hop : o.op = Op.build 124 #[(41, x1), (53, x2), (51, x3), (52, x4), (43, x5), (7, x6)])
    (p : Option Nat) (f1 f2 f3 : Bool) (ft : Int) (env : ByteArray) (h1 : a.eval x1 = .map p) (h2 : a.eval x2 = .bool f1) (h3 : a.eval x3 = .bool f2) (h4 : a.eval x4 = .bool f3) (h5 : a.eval x5 = .int .u16 ft) (h6 : a.eval x6 = .string env)
    (hK : wpList Try.prog ops Q rest (a.put o.dst (.agg (cfgC p f1 f2 f3 ft env))) w) : wpList Try.prog ops Q (o :: rest) a w := by
  refine wpList_plain hg fun K' hK' => ?_
  unfold Oper.wp
  simp [execOp, hop, h1, h2, h3, h4, h5, h6, build124, Result.andThen]
  exact hK' _ _ hK
theorem box124 (C : Array Value) (w : World) : (Instr.box 124 (.agg C)).run Try.prog w = .ok (.pointer (some ⟨w.heap.size, 0, none⟩)) (w.alloc (.cells C 124)) := by kernel_rfl

/-- the configuration at block q -/
structure Cfg (w : World) (q : Nat) (p : Option Nat) (f1 f2 f3 : Bool) (ft : Int) (env : ByteArray) : Prop where
  lt : q < w.heap.size
  c58 : w.cell? ⟨q, 58, none⟩ = some (.map p)
  c77 : w.cell? ⟨q, 77, none⟩ = some (.bool f1)
  c75 : w.cell? ⟨q, 75, none⟩ = some (.bool f2)
  c76 : w.cell? ⟨q, 76, none⟩ = some (.bool f3)
  c60 : w.cell? ⟨q, 60, none⟩ = some (.int .u16 ft)
  c10 : w.cell? ⟨q, 10, none⟩ = some (.string env)
theorem Cfg.made (w : World) (p : Option Nat) (f1 f2 f3 : Bool) (ft : Int) (env : ByteArray) : Cfg (w.alloc (.cells (cfgC p f1 f2 f3 ft env) 124)) w.heap.size p f1 f2 f3 ft env := by
  have h := Go.heap_alloc_new w (.cells (cfgC p f1 f2 f3 ft env) 124)
  have rd : ∀ (o : Nat) (v : Value), (cfgC p f1 f2 f3 ft env)[o]? = some v → (w.alloc (.cells (cfgC p f1 f2 f3 ft env) 124)).cell? ⟨w.heap.size, o, none⟩ = some v := by
    intro o v hv
    unfold World.cell?
    simp only [h]
    exact hv
  exact ⟨by simp, rd 58 _ (by kernel_rfl), rd 77 _ (by kernel_rfl), rd 75 _ (by kernel_rfl), rd 76 _ (by kernel_rfl), rd 60 _ (by kernel_rfl), rd 10 _ (by kernel_rfl)⟩
theorem Cfg.below {w w' : World} {q : Nat} {p : Option Nat} {f1 f2 f3 : Bool} {ft : Int} {env : ByteArray} (h : Cfg w q p f1 f2 f3 ft env) (hb : Below w.heap.size w w') : Cfg w' q p f1 f2 f3 ft env := by
  have c : ∀ o, w'.cell? ⟨q, o, none⟩ = w.cell? ⟨q, o, none⟩ := fun o => hb.cell (p := ⟨q, o, none⟩) h.lt
  exact ⟨Nat.lt_of_lt_of_le h.lt hb.size, by rw [c]; exact h.c58, by rw [c]; exact h.c77, by rw [c]; exact h.c75, by rw [c]; exact h.c76, by rw [c]; exact h.c60, by rw [c]; exact h.c10⟩
theorem PMap.shape {w : World} {v : Value} {D : Dt} (h : PMap w v D) : ∃ p, v = .map p := by
  rcases h with ⟨h, _⟩ | ⟨b, _, h, _⟩
  · exact ⟨_, h⟩
  · exact ⟨_, h⟩
/-- a flag of the configuration -/
def flg (fl k : Int) : Bool := bits .and .u8 fl k != 0
attribute [local go_sem] box124
set_option maxRecDepth 20000 in
set_option maxHeartbeats 2000000 in
theorem config15 (fl ft : Int) (env : ByteArray) (a0 a1 : Option Addr) (n0 n1 c0 c1 : Nat) (z0 z1 : List Int) (w : World) (h0 : n0 ≤ 1048576) (h1 : n1 ≤ 1048576) (r0 : Row .u16 w a0 n0 z0) (r1 : Row .u8 w a1 n1 z1) :
    Calls Try.prog 15 #[.int .u8 fl, .int .u16 ft, .string env, .slice a0 n0 c0, .slice a1 n1 c1] w fun e w' => (∃ q p, e = .returned (.pointer (some ⟨q, 0, none⟩)) ∧ Cfg w' q p (flg fl 1) (flg fl 2) (flg fl 4) ft env ∧ PMap w' (.map p) (pm z0 z1 (min n0 n1))) ∧ Below w.heap.size w w' := by
  have R0 := Lib.hid r0
  have R1 := Lib.hid r1
  clear r0 r1
  go_enter Try.func15, Try.ntmps15
  go_wp2_with fail
  refine (map29 a0 a1 n0 n1 c0 c1 z0 z1 _ h0 h1 R0.out R1.out).mono ?_
  rintro e w2 ⟨⟨v, rfl, hp⟩, hb⟩
  obtain ⟨p, rfl⟩ := hp.shape
  have HP := Lib.hid hp
  have HB := Lib.hid hb
  clear hp hb
  go_wp2_with (refine wpList_build124 _ rfl _ _ _ _ _ _ rfl p (flg fl 1) (flg fl 2) (flg fl 4) ft env rfl rfl rfl rfl rfl rfl ?_)
  go_wp2_with fail
  have hc := Cfg.made w2 p (flg fl 1) (flg fl 2) (flg fl 4) ft env
  exact bodyPost_ret (v := .pointer (some ⟨w2.heap.size, 0, none⟩)) (by simp [results, Try.results15, go_sem]) rfl ⟨⟨_, p, rfl, hc, HP.out.below ((Below.refl _ _).alloc (Nat.le_refl _) _)⟩, HB.out.alloc HB.out.size _⟩
end Go.Proofs.Ytlhcgnlbhncfkaa
