/-
  The comparison of two options' compared parts. No conditions.
-/
import Derived.Test.YtlhcgnlbhncfkaaOd
import Derived.Laws.StructEq
import Derived.Deep.QuietTactic
namespace Go.Proofs.Ytlhcgnlbhncfkaa
open Go.ChangeShapes Go.WideShapes Go.ChangeAt Go.RowKit
theorem eqF (d : Nat) (xs ys : Array Value) (f : Field) (fs : List Field) (a b : Value) (r : Bool) (W : World) (hn : f.name ≠ "_") (ha : (part f.type xs f.offset).run Try.prog W = .ok a W) (hb : (part f.type ys f.offset).run Try.prog W = .ok b W)
    (he : (Op.equalIn d f.type a b).run Try.prog W = .ok r W) : (Op.eqFields d xs ys (f :: fs)).run Try.prog W = if r = true then (Op.eqFields d xs ys fs).run Try.prog W else .ok false W := by
  simp only [Op.eqFields, if_pos hn, Sem.run_bind, ha, hb, he, Result.andThen_ok, Sem.run_ite]
  cases r <;> simp
/-- are the compared parts the same? -/
def sEq (f1 f2 f3 g1 g2 g3 : Bool) (ft gt : Int) (ea eb : ByteArray) (ma mb : Int) : Bool := ea.toList == eb.toList && ft == gt && f1 == g1 && f2 == g2 && f3 == g3 && ma == mb
theorem sEq_iff (f1 f2 f3 g1 g2 g3 : Bool) (ft gt : Int) (ea eb : ByteArray) (ma mb : Int) : sEq f1 f2 f3 g1 g2 g3 ft gt ea eb ma mb = true ↔ (ea = eb ∧ ft = gt ∧ f1 = g1 ∧ f2 = g2 ∧ f3 = g3 ∧ ma = mb) := by
  unfold sEq
  have : ((ea.toList == eb.toList) = true) ↔ ea = eb := by
    rw [beq_iff_eq, ByteArray.toList_eq, ByteArray.toList_eq]
    constructor
    · intro h
      obtain ⟨⟨x⟩⟩ := ea
      obtain ⟨⟨y⟩⟩ := eb
      simp at h
      rw [h]
    · intro h; rw [h]
  simp only [Bool.and_eq_true, beq_iff_eq, and_assoc] at this ⊢
  rw [this]
set_option maxRecDepth 20000 in
theorem eq47 (d : Nat) (f1 f2 f3 g1 g2 g3 : Bool) (ft gt : Int) (ea eb : ByteArray) (ma mb : Int) (W : World) :
    (Op.equalIn (d + 2) 47 (.agg #[.string ea, .int .u16 ft, .bool f1, .bool f2, .bool f3, .int .u8 ma]) (.agg #[.string eb, .int .u16 gt, .bool g1, .bool g2, .bool g3, .int .u8 mb])).run Try.prog W = .ok (sEq f1 f2 f3 g1 g2 g3 ft gt ea eb ma mb) W := by
  rw [run_equalIn_struct W (d+1) 47 _ _ (by kernel_rfl) (by kernel_rfl)]
  have hf : ∃ t0 t1 t2 t3 t4 t5 : Field, (Try.prog.fieldsOf 47).toList = [t0, t1, t2, t3, t4, t5] ∧ (t0.name ≠ "_" ∧ t0.type = 9 ∧ t0.offset = 0) ∧ (t1.name ≠ "_" ∧ t1.type = 44 ∧ t1.offset = 1) ∧ (t2.name ≠ "_" ∧ t2.type = 4 ∧ t2.offset = 2) ∧ (t3.name ≠ "_" ∧ t3.type = 4 ∧ t3.offset = 3) ∧ (t4.name ≠ "_" ∧ t4.type = 4 ∧ t4.offset = 4) ∧ (t5.name ≠ "_" ∧ t5.type = 45 ∧ t5.offset = 5) := by
    refine ⟨_, _, _, _, _, _, (by simp only [Program.fieldsOf, Try.underlying47]; rfl), ?_, ?_, ?_, ?_, ?_, ?_⟩
    all_goals exact ⟨by decide, rfl, rfl⟩
  obtain ⟨t0, t1, t2, t3, t4, t5, hl, ⟨n0, e0, o0⟩, ⟨n1, e1, o1⟩, ⟨n2, e2, o2⟩, ⟨n3, e3, o3⟩, ⟨n4, e4, o4⟩, ⟨n5, e5, o5⟩⟩ := hf
  rw [hl]
  rw [eqF (d + 1) _ _ t0 _ (.string ea) (.string eb) _ W n0 (by rw [e0, o0]; kernel_rfl) (by rw [e0, o0]; kernel_rfl) (by rw [e0]; exact run_equalIn_string W d 9 ea eb Try.underlying9)]
  rw [eqF (d + 1) _ _ t1 _ (.int .u16 ft) (.int .u16 gt) _ W n1 (by rw [e1, o1]; kernel_rfl) (by rw [e1, o1]; kernel_rfl) (by rw [e1]; exact run_equalIn_int W d 44 _ _ _ _ Try.underlying44)]
  rw [eqF (d + 1) _ _ t2 _ (.bool f1) (.bool g1) _ W n2 (by rw [e2, o2]; kernel_rfl) (by rw [e2, o2]; kernel_rfl) (by rw [e2]; exact run_equalIn_bool' W d 4 _ _ Try.underlying4)]
  rw [eqF (d + 1) _ _ t3 _ (.bool f2) (.bool g2) _ W n3 (by rw [e3, o3]; kernel_rfl) (by rw [e3, o3]; kernel_rfl) (by rw [e3]; exact run_equalIn_bool' W d 4 _ _ Try.underlying4)]
  rw [eqF (d + 1) _ _ t4 _ (.bool f3) (.bool g3) _ W n4 (by rw [e4, o4]; kernel_rfl) (by rw [e4, o4]; kernel_rfl) (by rw [e4]; exact run_equalIn_bool' W d 4 _ _ Try.underlying4)]
  rw [eqF (d + 1) _ _ t5 _ (.int .u8 ma) (.int .u8 mb) _ W n5 (by rw [e5, o5]; kernel_rfl) (by rw [e5, o5]; kernel_rfl) (by rw [e5]; exact run_equalIn_int W d 45 _ _ _ _ Try.underlying45)]
  unfold sEq
  cases ea.toList == eb.toList <;> cases ft == gt <;> cases f1 == g1 <;> cases f2 == g2 <;> cases f3 == g3 <;> cases ma == mb
  all_goals rfl
theorem guard47 (f1 f2 f3 g1 g2 g3 : Bool) (ft gt : Int) (ea eb : ByteArray) (ma mb : Int) (x y : Operand) (W : World) :
    (eqGuard .neq 47 x y (.agg #[.string ea, .int .u16 ft, .bool f1, .bool f2, .bool f3, .int .u8 ma]) (.agg #[.string eb, .int .u16 gt, .bool g1, .bool g2, .bool g3, .int .u8 mb])).run Try.prog W = .ok () W := by kernel_rfl
theorem neq47 (f1 f2 f3 g1 g2 g3 : Bool) (ft gt : Int) (ea eb : ByteArray) (ma mb : Int) (W : World) :
    (binOp .neq 47 (.agg #[.string ea, .int .u16 ft, .bool f1, .bool f2, .bool f3, .int .u8 ma]) (.agg #[.string eb, .int .u16 gt, .bool g1, .bool g2, .bool g3, .int .u8 mb])).run Try.prog W = .ok (.bool (!sEq f1 f2 f3 g1 g2 g3 ft gt ea eb ma mb)) W := by
  have h := eq47 9998 f1 f2 f3 g1 g2 g3 ft gt ea eb ma mb W
  rw [show 9998 + 2 = Op.maxDepth from rfl] at h
  simp [binOp, Op.equal, h, Result.andThen]
theorem wpQuiet_neq47 {ops : Array Oper} {C : World → Prop} {Q : Act → Prop} {a : Act} {o : Oper} {rest : List Oper} (hg : o.guard = none) (x y : Operand) (t : TypeId) (hop : o.op = Op.binOp .neq 47 x y t)
    (f1 f2 f3 g1 g2 g3 : Bool) (ft gt : Int) (ea eb : ByteArray) (ma mb : Int) (hx : a.eval x = .agg #[.string ea, .int .u16 ft, .bool f1, .bool f2, .bool f3, .int .u8 ma]) (hy : a.eval y = .agg #[.string eb, .int .u16 gt, .bool g1, .bool g2, .bool g3, .int .u8 mb])
    (h : wpQuiet Try.prog ops C Q rest (a.put o.dst (.bool (!sEq f1 f2 f3 g1 g2 g3 ft gt ea eb ma mb)))) : wpQuiet Try.prog ops C Q (o :: rest) a := by
  refine wpQuiet_step fun K hK => ?_
  rw [if_pos (by simp [Region.wanted, hg])]
  refine ⟨_, fun w _ => ?_, hK _ h⟩
  have e : (execOp a.eval o).run Try.prog w = .ok (.value (.bool (!sEq f1 f2 f3 g1 g2 g3 ft gt ea eb ma mb))) w := by
    simp [execOp, hop, hx, hy, guard47, neq47, Result.andThen]
  unfold Oper.quietAt
  rw [e]
  exact ⟨rfl, rfl⟩
end Go.Proofs.Ytlhcgnlbhncfkaa
