/-
  A remover made. Conditions: each theorem's own.
-/
import Derived.Test.YtphimfimnakclaaRc
namespace Go.Proofs.Ytphimfimnakclaa
open Go.RowKit Go.Lib Go.ChangeMaps
open Go.Maps (Keyed IsMap)
theorem mm29 (w : World) : (Instr.makeMap 29 none).run Try.prog w = .ok (.map (some w.heap.size)) (w.alloc (.map #[] 0)) := by kernel_rfl
set_option maxRecDepth 100000 in
theorem mk8 (w : World) : Calls Try.prog 8 #[.agg #[.slice none 0 0]] w fun e w' => Mk8 w e w' := by
  have mm := mm29
  go_enter Try.func8, Try.ntmps8
  go_wp2_with fail
  refine bodyPost_ret (v := .agg #[.map (some (w.heap.size + 2)), .slice none 0 0, .slice none 0 0, .slice none 0 0, .slice none 0 0, .int .u32 0, .int .u32 0]) (by simp [results, Try.results8, go_sem]) rfl ⟨rfl, ?_, ?_⟩
  · have s2 : ((w.alloc (Obj.cells #[Value.slice none 0 0] 34)).alloc (Obj.cells #[Value.map (some (w.heap.size + 1 + 1)), Value.slice none 0 0, Value.slice none 0 0, Value.slice none 0 0, Value.slice none 0 0, Value.int IntKind.u32 0, Value.int IntKind.u32 0] 39)).heap.size = w.heap.size + 2 := by simp
    have := heap_alloc_new ((w.alloc (Obj.cells #[Value.slice none 0 0] 34)).alloc (Obj.cells #[Value.map (some (w.heap.size + 1 + 1)), Value.slice none 0 0, Value.slice none 0 0, Value.slice none 0 0, Value.slice none 0 0, Value.int IntKind.u32 0, Value.int IntKind.u32 0] 39)) (.map #[] 0)
    rw [s2] at this
    exact this
  · exact (((Below.refl _ _).alloc (Nat.le_refl _) _).alloc (by simp) _).alloc (by simp; omega) _
/-- what is handed back: the rules that stay -/
def OutR (D : Nat → Prop) (Rb : Nat) (w : World) (a : Option Addr) (out : List (Int × Rl)) : Prop := ∀ j (_ : j < out.length), ∃ o, a = some ⟨Rb, o, none⟩ ∧ RuAt D w (fun t => w.cell? ⟨Rb, o + j * 2 + t, none⟩) out[j]
structure Rm9 (D : Nat → Prop) (B rb Rb : Nat) (out : List (Int × Rl)) (E : List Rl) (nc : Nat) (w : World) (e : Ending) (w' : World) : Prop where
  ex : ∃ a c G, e = .returned (.slice a out.length c) ∧ OutR D Rb w' a out ∧ Rem D B rb E G w' ∧ G.cs.length = nc + 1 ∧ FrX Rb B w w'
/-- what the loop carries -/
structure Lo9 (D : Nat → Prop) (B rb Rb n : Nat) (ms : List (Int × Rl)) (E0 : List Rl) (nc : Nat) (w0 : World) (g : Nat) (v11 v12 : Value) (wx : World) : Prop where
  ex : ∃ (z : Int) (s : Nat) (out : List (Int × Rl)) (E : List Rl) (G : Gh), v12 = .int .i64 z ∧ z = (g : Int) - 1 ∧ v11 = .int .i64 (s : Nat) ∧ s + out.length = n ∧ Inv9 D B rb Rb n ms E0 nc w0 g out E G wx
theorem BO.cells2 {e : TypeId} {B : Nat} {a : Option Addr} {n c : Nat} {ms : List (List Value)} {w : World} (h : BO (PT 2) e B (.slice a n c) ms w) (k : Nat) (hk : k < ms.length) : ∃ q, a = some ⟨q, 0, none⟩ ∧ ∀ t, t < 2 → w.cell? ⟨q, k * 2 + t, none⟩ = ms[k][t]? := by
  obtain ⟨xs, ho, hx⟩ := h.own
  have ho2 := ho.2
  rcases ho2 with ⟨_, h0⟩ | ⟨q, cap, cur, hv, _⟩
  · omega
  · injection hv with e1 e2 e3
    subst e1 e2 e3
    refine ⟨q, rfl, fun t ht => ?_⟩
    exact (World.ownsRow.cellAt ho (k * 2 + t) (mul_lt_len hk ht)).trans (hx k hk t ht)
theorem Inv9.skip {D : Nat → Prop} {B rb Rb n nc i : Nat} {ms out : List (Int × Rl)} {E0 E : List Rl} {G : Gh} {w0 w : World} (h : Inv9 D B rb Rb n ms E0 nc w0 (i + 1) out E G w) (hr : (out, E) = runR (ms.drop i) E0) : Inv9 D B rb Rb n ms E0 nc w0 i out E G w :=
  ⟨h.rem, h.rul.skip, h.fr, hr, h.nc', by have := h.el; omega, h.rB⟩
/-- what the inner loop carries -/
structure In9 (D : Nat → Prop) (B rb Rb n : Nat) (ms : List (Int × Rl)) (E0 : List Rl) (nc : Nat) (w0 : World) (i : Nat) (out : List (Int × Rl)) (E : List Rl) (G : Gh) (p q b : Nat) (loc : Int) (r : Rl) (es : List Ent) (bv : Value) (g : Nat) (v84 : Value) (wx : World) : Prop where
  ex : ∃ k, k + g = es.length ∧ v84 = .int .i64 (k : Nat) ∧ (∀ j (_ : j < es.length), j < k → es[j].2.2 ≠ r) ∧ Inv9 D B rb Rb n ms E0 nc w0 i out E G wx ∧ Dat D wx b r ∧
    wx.heap[p]? = some (.cells #[ifc 63 b, .int .i32 loc] 47 (0, 0)) ∧ wx.heap[q]? = some (.cells #[bv] 72 (0, 0)) ∧ B ≤ p ∧ B ≤ q
/-- the check's fields written -/
theorem chk {w : World} {rb q : Nat} {m v ia ib sym sa sb : Value} {n1 n2 : Int} (h : w.heap[rb]? = some (.cells #[m, v, ia, ib, sym, sa, sb] 39 (0, 0))) (hq : w.heap[q]? = some (.cells #[.slice none 0 0, .int .u32 n2] 62 (0, 0))) :
    let X1 := w.setCell ⟨rb, 2, none⟩ (.slice none 0 0)
    let X2 := X1.setCell ⟨rb, 3, none⟩ (.slice none 0 0)
    let X3 := X2.setCell ⟨rb, 5, none⟩ (.int .u32 n1)
    (w.cell? ⟨rb, 2, none⟩ = some ia ∧ w.frozen? ⟨rb, 2, none⟩ = false) ∧ X1.cell? ⟨q, 0, none⟩ = some (.slice none 0 0) ∧ (X1.cell? ⟨rb, 3, none⟩ = some ib ∧ X1.frozen? ⟨rb, 3, none⟩ = false) ∧
    (X2.cell? ⟨rb, 5, none⟩ = some sa ∧ X2.frozen? ⟨rb, 5, none⟩ = false) ∧ X3.cell? ⟨q, 1, none⟩ = some (.int .u32 n2) ∧ (X3.cell? ⟨rb, 6, none⟩ = some sb ∧ X3.frozen? ⟨rb, 6, none⟩ = false) := by
  have hne : q ≠ rb := by
    rintro rfl
    rw [h] at hq
    injection hq with hq
    injection hq with _ hq
    exact absurd hq (by decide)
  have h1 := hset h 2 (.slice none 0 0)
  have h2 := hset h1 3 (.slice none 0 0)
  have h3 := hset h2 5 (.int .u32 n1)
  have q1 := (hother w 2 (.slice none 0 0) hne).trans hq
  have q3 := (hother _ 5 (.int .u32 n1) hne).trans ((hother _ 3 (.slice none 0 0) hne).trans q1)
  exact ⟨hcell h 2 _ rfl, (hcell q1 0 _ rfl).1, hcell h1 3 _ rfl, hcell h2 5 _ rfl, (hcell q3 1 _ rfl).1, hcell h3 6 _ rfl⟩
theorem Inv9.outR {D : Nat → Prop} {B rb Rb n nc s : Nat} {ms out : List (Int × Rl)} {E0 E : List Rl} {G : Gh} {w0 w : World} (h : Inv9 D B rb Rb n ms E0 nc w0 0 out E G w) (hs : s + out.length = n) (a : Option Addr) (ha : 0 < out.length → a = some ⟨Rb, s * 2, none⟩) : OutR D Rb w a out := by
  intro j hj
  obtain ⟨arr, h1, h2, h3, h4⟩ := h.rul.ex (by omega)
  refine ⟨s * 2, ha (by omega), ?_⟩
  have e : ∀ o, w.cell? ⟨Rb, o, none⟩ = arr[o]? := fun o => by simp [World.cell?, h1]
  refine (h4 j hj).loc ?_ ?_
  · show w.cell? _ = _
    rw [e, show s * 2 + j * 2 + 0 = (n - out.length + j) * 2 + 0 by omega]
  · show w.cell? _ = _
    rw [e, show s * 2 + j * 2 + 1 = (n - out.length + j) * 2 + 1 by omega]
theorem Rm9.of {D : Nat → Prop} {B rb Rb n nc s : Nat} {ms out : List (Int × Rl)} {E0 E : List Rl} {G : Gh} {w0 w : World} (h : Inv9 D B rb Rb n ms E0 (nc + 1) w0 0 out E G w) (hs : s + out.length = n) (a : Option Addr) (c : Nat) (ha : 0 < out.length → a = some ⟨Rb, s * 2, none⟩) : Rm9 D B rb Rb (runR ms E0).1 (runR ms E0).2 nc w0 (.returned (.slice a out.length c)) w := by
  have hr := h.run
  rw [List.drop_zero] at hr
  rw [← hr]
  exact ⟨a, c, G, rfl, h.outR hs a ha, h.rem, h.nc', h.fr⟩
theorem add0 (b k : Nat) : (⟨b, 0, none⟩ : Addr).add k = ⟨b, k, none⟩ := by cases k <;> simp [Addr.add]
end Go.Proofs.Ytphimfimnakclaa
