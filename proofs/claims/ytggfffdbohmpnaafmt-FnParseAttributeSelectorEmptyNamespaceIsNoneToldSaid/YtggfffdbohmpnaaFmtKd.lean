/-
  parseAttributeSelector, walked: what it reads off a well-formed list of tokens. Conditions: plain texts; sizes at most 1 MiB.
-/
import Derived.Test.YtggfffdbohmpnaaFmtKc
namespace Go.Proofs.YtggfffdbohmpnaaFmt
set_option linter.unusedVariables false
open Go.ChangeShapes Go.WideShapes Go.ChangeAt Go.RowKit Go.Lib

def B (l : List UInt8) : ByteArray := ⟨l.toArray⟩
def opK (op : Nat) : Int := if op = 2 then 25 else if op = 3 then 14 else if op = 4 then 15 else if op = 5 then 16 else 13
def opF (op : Nat) : ByteArray := if op = 2 then B [126] else if op = 3 then B [124] else if op = 4 then B [94] else if op = 5 then B [36] else B [42]
def opT (op : Nat) : ByteArray := if op = 1 then B [61] else if op = 2 then B [126, 61] else if op = 3 then B [124, 61] else if op = 4 then B [94, 61] else if op = 5 then B [36, 61] else if op = 6 then B [42, 61] else B []
def wsL (ws : Bool) : List (Int × ByteArray) := if ws then [(38, B [32])] else []
def L6 : List (Int × ByteArray) := [(7, B [93])]
def L5 (md : UInt8) : List (Int × ByteArray) := (if md = 0 then [] else [(29, B [md])]) ++ L6
def L4 (ws : Bool) (md : UInt8) : List (Int × ByteArray) := wsL ws ++ L5 md
def valK (q : Bool) : Int := if q then 36 else 29
def valT (q : Bool) (v : ByteArray) : ByteArray := if q then B [34] ++ v ++ B [34] else v
def L3 (ws q : Bool) (v : ByteArray) (md : UInt8) : List (Int × ByteArray) := (valK q, valT q v) :: L4 ws md
def L2 (ws q : Bool) (v : ByteArray) (md : UInt8) : List (Int × ByteArray) := wsL ws ++ L3 ws q v md
def L1 (op : Nat) (ws q : Bool) (v : ByteArray) (md : UInt8) : List (Int × ByteArray) := if op = 0 then L6 else (if op = 1 then [] else [(opK op, opF op)]) ++ (18, B [61]) :: L2 ws q v md
def L0 (op : Nat) (ws q : Bool) (v : ByteArray) (md : UInt8) : List (Int × ByteArray) := wsL ws ++ L1 op ws q v md
def preL (ns : Nat) (pf : ByteArray) : List (Int × ByteArray) := if ns = 0 then [] else if ns = 1 then [(14, B [124])] else if ns = 2 then [(13, B [42]), (14, B [124])] else [(29, pf), (14, B [124])]
def preT (ns : Nat) (pf : ByteArray) : ByteArray := if ns = 2 then B [42] else if ns = 3 then pf else B []
def allL (ns : Nat) (pf nm : ByteArray) (op : Nat) (ws q : Bool) (v : ByteArray) (md : UInt8) : List (Int × ByteArray) := (32, B [91]) :: preL ns pf ++ (29, nm) :: L0 op ws q v md

def VO (op : Nat) (v : ByteArray) : ByteArray := if op = 0 then B [] else v
def MO (op : Nat) (md : UInt8) : Int := if op = 0 then 0 else (md.toNat : Int)

def c0 : Nat → Value := fun o => if o = 2 then .pointer none else if o = 4 ∨ o = 5 then .int .i32 0 else if o = 6 ∨ o = 7 then .int .u8 0 else .string ByteArray.empty

def wA (w : World) : World := (w.alloc (.cells #[.string ⟨#[]⟩, .string ⟨#[]⟩, .pointer none, .string ⟨#[]⟩, .int .i32 0, .int .i32 0, .int .u8 0, .int .u8 0] 96)).alloc (.cells #[.int .i32 0, .int .i32 0] 44)
theorem below_wA (w : World) : Below w.heap.size w (wA w) := ((Below.refl w.heap.size w).alloc (Nat.le_refl _) _).alloc (by simp [go_sem]) _
theorem PS.start {w00 : World} {B0 p : Nat} {s : ByteArray} {r n : Nat} {f : Nat → Tk} {w w2 : World} (m0 : Int) (pt : ByteArray) (h : Psr w p s r n f (0 : Nat)) (hbl : Below B0 w00 w) (hB : B0 ≤ p) (hb : Below (wA w).heap.size (wA w) w2) :
    PS ⟨w00, w⟩ B0 p s r n f w.heap.size (w.heap.size + 1) w2.heap.size m0 0 c0 none pt (w2.alloc (.cells #[.int .i32 m0] 42)) := by
  have hlt := h.lt
  have hrl := h.rlt
  have hz : (wA w).heap.size = w.heap.size + 2 := by simp [wA, go_sem]
  have hz2 := hb.size
  have hal : Below w2.heap.size w2 (w2.alloc (.cells #[.int .i32 m0] 42)) := (Below.refl _ _).alloc (Nat.le_refl _) _
  have hall : Below (wA w).heap.size (wA w) (w2.alloc (.cells #[.int .i32 m0] 42)) := hb.trans (hal.mono hz2)
  have hw : Below w.heap.size w (w2.alloc (.cells #[.int .i32 m0] 42)) := (below_wA w).trans (hall.mono (by omega))
  refine ⟨h.call hw, hbl.trans (hw.mono (by omega)), ⟨hB, by omega⟩, ⟨hlt, hrl, by omega, by omega, by simp [go_sem]⟩, fun o ho => ?_, fun o => ?_, fun o ho => ?_, fun o => ?_, by simp [go_sem], fun q hq => (by cases hq), fun b o hb _ => hw.cell (p := ⟨b, o, none⟩) hb, fun b o hb _ => hw.frozen (p := ⟨b, o, none⟩) hb⟩
  · rw [hall.cell (p := ⟨w.heap.size, o, none⟩) (by show w.heap.size < _; omega)]
    have e8 : o = 0 ∨ o = 1 ∨ o = 2 ∨ o = 3 ∨ o = 4 ∨ o = 5 ∨ o = 6 ∨ o = 7 := by omega
    rcases e8 with rfl | rfl | rfl | rfl | rfl | rfl | rfl | rfl <;> (simp [wA, go_sem, c0] <;> rfl)
  · rw [hall.frozen (p := ⟨w.heap.size, o, none⟩) (by show w.heap.size < _; omega)]
    simp [wA, go_sem]
  · rw [hall.cell (p := ⟨w.heap.size + 1, o, none⟩) (by show w.heap.size + 1 < _; omega)]
    have e8 : o = 0 ∨ o = 1 := by omega
    rcases e8 with rfl | rfl <;> exact ⟨_, by simp [wA, go_sem]; rfl⟩
  · rw [hall.frozen (p := ⟨w.heap.size + 1, o, none⟩) (by show w.heap.size + 1 < _; omega)]
    simp [wA, go_sem]


theorem PS.newpre2 {w00 : W2} {B0 p : Nat} {s : ByteArray} {r n : Nat} {f : Nat → Tk} {A R M : Nat} {m0 : Int} {i : Nat} {c : Nat → Value} {pt : ByteArray} {w : World} (h : PS w00 B0 p s r n f A R M m0 i c none pt w) (t : ByteArray) (x y k : Value) :
    PS w00 B0 p s r n f A R M m0 i (upd c 2 (.pointer (some ⟨w.heap.size, 0, none⟩))) (some w.heap.size) t ((w.setCell ⟨A, 2, none⟩ (.pointer (some ⟨w.heap.size, 0, none⟩))).alloc (.cells #[.string t, x, y, k] 92)) := by
  have h2 := (h.put 2 (.pointer (some ⟨w.heap.size, 0, none⟩))).newpre t x y k
  have e : (w.setCell ⟨A, 2, none⟩ (.pointer (some ⟨w.heap.size, 0, none⟩))).heap.size = w.heap.size := by simp [go_sem]
  rw [e] at h2
  exact h2
theorem L0_next {s : ByteArray} {n : Nat} {f : Nat → Tk} {i a op : Nat} {ws q : Bool} {v : ByteArray} {md : UInt8} (h : Sfx s n f i a (L0 op ws q v md)) : (cur s n f (i + 1)).k = 18 ∨ (cur s n f i).k ≠ 14 := by
  cases ws with
  | true =>
    obtain ⟨_, ht, _⟩ := (h : Sfx s n f i a ((38, B [32]) :: L1 op true q v md))
    right; rw [ht.kd]; decide
  | false =>
    have h1 : Sfx s n f i a (L1 op false q v md) := h
    unfold L1 at h1
    split at h1
    · obtain ⟨_, ht, _⟩ := h1
      right; rw [ht.kd]; decide
    · split at h1
      · obtain ⟨_, ht, _⟩ := h1
        right; rw [ht.kd]; decide
      · obtain ⟨_, ht, _, ht2, _⟩ := h1
        left; rw [ht2.kd]
theorem L1_len (op : Nat) (ws q : Bool) (v : ByteArray) (md : UInt8) : 1 ≤ (L1 op ws q v md).length := by
  unfold L1
  split
  · simp [L6]
  · simp only [List.length_append, List.length_cons]; omega
theorem L0_len (op : Nat) (ws q : Bool) (v : ByteArray) (md : UInt8) : 1 ≤ (L0 op ws q v md).length := by
  have := L1_len op ws q v md
  simp only [L0, List.length_append]
  omega
section
variable {w00 : W2} {B0 p : Nat} {s : ByteArray} {r n : Nat} {f : Nat → Tk} {A R M : Nat} {m0 : Int} {hp : Bool} {pt nm : ByteArray} {L : List (Int × ByteArray)} {op val : ByteArray} {md : Int} {w : World}
theorem Q.step (h : Q w00 B0 p s r n f A R M m0 hp pt nm L op val md w) : ∃ i a, Sfx s n f i a L ∧ Psr w p s r n f (i : Nat) ∧ ∀ (j a' : Nat) L' w', Go1 w p s r n f (j : Nat) w' → Sfx s n f j a' L' → Q w00 B0 p s r n f A R M m0 hp pt nm L' op val md w' := by
  obtain ⟨i, a, c, pre, hP, hS, h1⟩ := h.ex
  exact ⟨i, a, hS, hP.psr, fun j a' L' w' hg hS' => ⟨j, a', c, pre, hP.go hg, hS', h1⟩⟩
theorem Q.cells (h : Q w00 B0 p s r n f A R M m0 hp pt nm L op val md w) : w.cell? ⟨A, 0, none⟩ = some (.string op) ∧ w.cell? ⟨A, 1, none⟩ = some (.string val) ∧ w.cell? ⟨A, 7, none⟩ = some (.int .u8 md) ∧ ∀ o, w.frozen? ⟨A, o, none⟩ = false := by
  obtain ⟨i, a, c, pre, hP, hS, h1, h2, h3, h4, h5, h6, h7⟩ := h.ex
  exact ⟨h2 ▸ hP.at_ 0 (by omega), h3 ▸ hP.at_ 1 (by omega), h6 ▸ hP.at_ 7 (by omega), hP.z⟩
theorem Q.setOp (h : Q w00 B0 p s r n f A R M m0 hp pt nm L op val md w) (op' : ByteArray) : Q w00 B0 p s r n f A R M m0 hp pt nm L op' val md (w.setCell ⟨A, 0, none⟩ (.string op')) := by
  obtain ⟨i, a, c, pre, hP, hS, h1, h2, h3, h4, h5, h6, h7⟩ := h.ex
  exact ⟨i, a, _, pre, hP.put 0 (.string op'), hS, h1, rfl, h3, h4, h5, h6, h7⟩
theorem Q.setVal (h : Q w00 B0 p s r n f A R M m0 hp pt nm L op val md w) (v' : ByteArray) : Q w00 B0 p s r n f A R M m0 hp pt nm L op v' md (w.setCell ⟨A, 1, none⟩ (.string v')) := by
  obtain ⟨i, a, c, pre, hP, hS, h1, h2, h3, h4, h5, h6, h7⟩ := h.ex
  exact ⟨i, a, _, pre, hP.put 1 (.string v'), hS, h1, h2, rfl, h4, h5, h6, h7⟩
theorem Q.setMd (h : Q w00 B0 p s r n f A R M m0 hp pt nm L op val md w) (m' : Int) : Q w00 B0 p s r n f A R M m0 hp pt nm L op val m' (w.setCell ⟨A, 7, none⟩ (.int .u8 m')) := by
  obtain ⟨i, a, c, pre, hP, hS, h1, h2, h3, h4, h5, h6, h7⟩ := h.ex
  exact ⟨i, a, _, pre, hP.put 7 (.int .u8 m'), hS, h1, h2, h3, h4, h5, rfl, h7⟩
end
theorem Sfx.kind {s : ByteArray} {n : Nat} {f : Nat → Tk} {i a : Nat} {k : Int} {t : ByteArray} {L : List (Int × ByteArray)} (h : Sfx s n f i a ((k, t) :: L)) : (cur s n f i).k = k := h.2.1.kd
theorem L1_kind {s : ByteArray} {n : Nat} {f : Nat → Tk} {i a op : Nat} {ws q : Bool} {v : ByteArray} {md : UInt8} (h : Sfx s n f i a (L1 op ws q v md)) : (cur s n f i).k ≠ 38 := by
  unfold L1 at h
  split at h
  · rw [Sfx.kind h]; decide
  · split at h
    · rw [Sfx.kind h]; decide
    · rw [Sfx.kind h]; unfold opK; repeat' split
      all_goals decide
theorem L3_kind {s : ByteArray} {n : Nat} {f : Nat → Tk} {i a : Nat} {ws q : Bool} {v : ByteArray} {md : UInt8} (h : Sfx s n f i a (L3 ws q v md)) : (cur s n f i).k ≠ 38 := by
  rw [Sfx.kind h]; cases q <;> decide
theorem L5_kind {s : ByteArray} {n : Nat} {f : Nat → Tk} {i a : Nat} {md : UInt8} (h : Sfx s n f i a (L5 md)) : (cur s n f i).k ≠ 38 := by
  unfold L5 at h
  split at h <;> (rw [Sfx.kind h]; decide)
theorem ws_len {ws : Bool} : (wsL ws).length ≤ 1 := by cases ws <;> simp [wsL]

theorem opT_ne {op : Nat} (h : op ≤ 6) (h0 : op ≠ 0) : opT op ≠ ⟨#[]⟩ := by
  have e : op = 1 ∨ op = 2 ∨ op = 3 ∨ op = 4 ∨ op = 5 ∨ op = 6 := by omega
  rcases e with rfl | rfl | rfl | rfl | rfl | rfl <;> decide
theorem append_data (a b : ByteArray) : (a ++ b).data = a.data ++ b.data := by simp
theorem quote_size (v : ByteArray) : (B [34] ++ v ++ B [34]).size = v.size + 2 := by
  rw [ByteArray.size_append, ByteArray.size_append]
  show 1 + v.size + 1 = _
  omega
theorem quote_inner (v : ByteArray) : (B [34] ++ v ++ B [34]).extract 1 ((B [34] ++ v ++ B [34]).size - 1) = v := by
  rw [quote_size]
  have hd : ((B [34] ++ v ++ B [34]).extract 1 (v.size + 2 - 1)).data = v.data := by
    rw [ByteArray.data_extract, append_data, append_data]
    apply Array.ext
    · rw [Array.size_extract, Array.size_append, Array.size_append]
      show min (v.data.size + 2 - 1) (1 + v.data.size + 1) - 1 = v.data.size
      omega
    · intro i h1 h2
      have h2' : i < v.size := h2
      simp only [Array.getElem_extract]
      rw [Array.getElem_append_left (by rw [Array.size_append]; show 1 + i < 1 + v.data.size; omega), Array.getElem_append_right (by show 1 ≤ 1 + i; omega)]
      have e : 1 + i - (B [34]).data.size = i := by show 1 + i - 1 = i; omega
      simp only [e]
  exact ByteArray.ext hd
theorem valT_dt {q : Bool} {v : ByteArray} (h : Cln v v.size) : DT (valK q) (valT q v) v := by
  cases q with
  | false => exact .inl ⟨rfl, rfl, h⟩
  | true => exact .inr (.inl ⟨rfl, by show 2 ≤ (B [34] ++ v ++ B [34]).size; rw [quote_size]; omega, (quote_inner v).symm, h⟩)
theorem one_cln (md : UInt8) (h : md ≠ 0) (h2 : md ≠ 92) : Cln (B [md]) (B [md]).size := by
  refine ⟨Nat.le_refl _, fun j hj hs => ?_⟩
  have e : j = 0 := by simp [B, ByteArray.size] at hs; omega
  subst e
  have e2 : (B [md])[0] = md := rfl
  rw [e2]
  refine ⟨fun e => h2 (UInt8.toNat_inj.1 (by simpa using e)), fun e => h (UInt8.toNat_inj.1 (by simpa using e))⟩
theorem opT_ne2 {op : Nat} (h : op ≤ 6) (h0 : op ≠ 0) : (opT op).toList.isEmpty = false := by
  have e : op = 1 ∨ op = 2 ∨ op = 3 ∨ op = 4 ∨ op = 5 ∨ op = 6 := by omega
  rcases e with rfl | rfl | rfl | rfl | rfl | rfl <;> decide +kernel
section
variable {w00 : W2} {B0 p : Nat} {s : ByteArray} {r n : Nat} {f : Nat → Tk} {A R M : Nat} {m0 : Int} {i : Nat} {c : Nat → Value} {pre : Option Nat} {pt : ByteArray} {w w' : World}
theorem PS.putR (h : PS w00 B0 p s r n f A R M m0 i c pre pt w) (o : Nat) (v : Value) : PS w00 B0 p s r n f A R M m0 i c pre pt (w.setCell ⟨R, o, none⟩ v) := by
  obtain ⟨h1, h2, h3, h4, h5, h6, h7, h8, h9, h10, h11, h12⟩ := h
  refine ⟨h1.put _ _ _ (by omega) (by omega), h2.setCell (by show B0 ≤ R; omega) _, h3, by simpa [go_sem] using h4, fun q hq => ?_, fun q => ?_, fun q hq => ?_, fun q => ?_, ?_, fun q hq => ?_, fun b q hb hne => by rw [World.cell?_setCell_other _ _ _ _ (by simp <;> omega)]; exact h11 b q hb hne, fun b q hb hne => by rw [World.frozen?_setCell]; exact h12 b q hb hne⟩
  · rw [World.cell?_setCell_other _ _ _ _ (by simp <;> omega)]; exact h5 q hq
  · rw [World.frozen?_setCell]; exact h6 q
  · by_cases e : q = o
    · subst e
      obtain ⟨u, hu⟩ := h7 q hq
      exact ⟨v, World.cell?_setCell_same _ _ _ hu⟩
    · rw [World.cell?_setCell_other _ _ _ _ (by simp <;> omega)]; exact h7 q hq
  · rw [World.frozen?_setCell]; exact h8 q
  · rw [World.cell?_setCell_other _ _ _ _ (by simp <;> omega)]; exact h9
  · obtain ⟨a1, a2, a3⟩ := h10 q hq
    exact ⟨a1, by simpa [go_sem] using a2, by rw [World.cell?_setCell_other _ _ _ _ (by simp <;> omega)]; exact a3⟩
structure FQ (w00 : W2) (B0 p : Nat) (s : ByteArray) (r n : Nat) (f : Nat → Tk) (A R M : Nat) (m0 : Int) (i : Nat) (c : Nat → Value) (pre : Option Nat) (pt : ByteArray) (N : Nat) (w : World) : Prop where
  ps : PS w00 B0 p s r n f A R M m0 i c pre pt w
  nlt : N < w.heap.size
  mn : M < N
abbrev FS (w00 : W2) (B0 p : Nat) (s : ByteArray) (r n : Nat) (f : Nat → Tk) (A R M : Nat) (m0 : Int) (i : Nat) (c : Nat → Value) (pre : Option Nat) (pt : ByteArray) (N a b : Nat) (w' : World) : Prop :=
  w'.cell? ⟨M, 0, none⟩ = some (.int .i32 m0) ∧ w'.cell? ⟨N, 0, none⟩ = some (.int .i32 a) ∧ w'.cell? ⟨N, 1, none⟩ = some (.int .i32 b) ∧ FQ w00 B0 p s r n f A R M m0 i c pre pt N w'
theorem FS.call {N a b : Nat} (h : FS w00 B0 p s r n f A R M m0 i c pre pt N a b w) (hb : Below w.heap.size w w') : FS w00 B0 p s r n f A R M m0 i c pre pt N a b w' := by
  obtain ⟨h1, h2, h3, h4⟩ := h
  have hs := h4.nlt
  have hz := hb.size
  have hp := h4.ps.call hb
  exact ⟨hp.m_, by rw [hb.cell (p := ⟨N, 0, none⟩) hs]; exact h2, by rw [hb.cell (p := ⟨N, 1, none⟩) hs]; exact h3, hp, by omega, h4.mn⟩
theorem FS.put {N a b : Nat} (h : FS w00 B0 p s r n f A R M m0 i c pre pt N a b w) (o : Nat) (v : Value) : FS w00 B0 p s r n f A R M m0 i c pre pt N a b (w.setCell ⟨R, o, none⟩ v) := by
  obtain ⟨h1, h2, h3, h4⟩ := h
  have hord := h4.ps.ord
  have hmn := h4.mn
  refine ⟨?_, ?_, ?_, h4.ps.putR o v, by simpa [go_sem] using h4.nlt, h4.mn⟩
  · rw [World.cell?_setCell_other _ _ _ _ (by simp <;> omega)]; exact h1
  · rw [World.cell?_setCell_other _ _ _ _ (by simp <;> omega)]; exact h2
  · rw [World.cell?_setCell_other _ _ _ _ (by simp <;> omega)]; exact h3
theorem FS.put2 {N a b : Nat} (h : FS w00 B0 p s r n f A R M m0 i c pre pt N a b w) (v v' : Value) : FS w00 B0 p s r n f A R M m0 i c pre pt N a b ((w.setCell ⟨R, 0, none⟩ v).setCell ⟨R, 1, none⟩ v') := (h.put 0 v).put 1 v'
theorem FQ.holds {N : Nat} (h : FQ w00 B0 p s r n f A R M m0 i c pre pt N w) (o : Nat) (ho : o < 2) : w.cell? ⟨R, o, none⟩ = some (cellAt w ⟨R, o, none⟩) := by
  obtain ⟨v, hv⟩ := h.ps.r_ o ho
  rw [cellAt, hv]; rfl
end
/-- what parseAttributeSelector answers -/
structure PR (w00 : W2) (B0 p : Nat) (s : ByteArray) (r n : Nat) (f : Nat → Tk) (hp : Bool) (pt nm op val : ByteArray) (md : Int) (e : Ending) (w' : World) : Prop where
  ex : ∃ (pre : Option Nat) (x y k : Int), e = .returned (.tuple #[.agg #[.string op, .string val, .pointer (pre.map fun q => ⟨q, 0, none⟩), .string nm, .int .i32 x, .int .i32 y, .int .u8 k, .int .u8 md], .agg #[.int .i32 0, .int .i32 s.size]]) ∧
    Psr w' p s r n f (n : Nat) ∧ Below B0 w00.a w' ∧ pre.isSome = hp ∧ (∀ q, pre = some q → p < q ∧ q < w'.heap.size ∧ w'.cell? ⟨q, 0, none⟩ = some (.string pt)) ∧ (∀ b o, b < w00.s.heap.size → b ≠ p → w'.cell? ⟨b, o, none⟩ = w00.s.cell? ⟨b, o, none⟩) ∧ (∀ b o, b < w00.s.heap.size → b ≠ p → w'.frozen? ⟨b, o, none⟩ = w00.s.frozen? ⟨b, o, none⟩) ∧ w00.s.heap.size ≤ w'.heap.size
theorem wrap_i32 {n : Nat} (h : n ≤ 1048576) : IntKind.i32.wrap (n : Int) = n := by
  have : (2 : Int) ^ IntKind.i32.bits = 4294967296 := by decide
  unfold IntKind.wrap
  simp [IntKind.bits, IntKind.signed]
  omega

attribute [local go_sem] field2 field0 fieldL in
set_option maxRecDepth 20000 in
set_option maxHeartbeats 40000000 in
theorem parse18 (w00 : World) (B0 p : Nat) (s : ByteArray) (r n : Nat) (f : Nat → Tk) (ns : Nat) (pf nm : ByteArray) (op : Nat) (ws q : Bool) (v : ByteArray) (md : UInt8) (w : World)
    (h : Psr w p s r n f (0 : Nat)) (hbl : Below B0 w00 w) (hB : B0 ≤ p) (hS : Sfx s n f 0 0 (allL ns pf nm op ws q v md)) (hns : ns ≤ 3) (hop : op ≤ 6)
    (hnm : Cln nm nm.size) (hpf : ns = 3 → Cln pf pf.size) (hv : op ≠ 0 → Cln v v.size) (hmd : md = 0 ∨ md = 105 ∨ md = 73 ∨ md = 115 ∨ md = 83) :
    Calls Tryf.prog 18 #[.pointer (some ⟨p, 0, none⟩)] w fun e w' => PR ⟨w00, w⟩ B0 p s r n f (decide (2 ≤ ns)) (preT ns pf) nm (opT op) (VO op v) (MO op md) e w' := by
  obtain ⟨hs, hn⟩ := h.small
  have hlt := h.lt
  have hrl := h.rlt
  have H := hid h
  have HBL := hid hbl
  obtain ⟨hn0, hk0, hS1⟩ := hS
  obtain ⟨ka, kb, kc, kd, ke⟩ := hk0
  have HS1 := hid hS1
  clear h hbl hS1 kd ke
  go_enter Tryf.func18, Tryf.ntmps18
  go_wp2_with fail
  refine (cur19 p s r n f 0 _ (H.out.call (below_wA w)) (by omega)).mono ?_
  rw [ka, kb, kc]
  rintro e w2 ⟨rfl, hb⟩
  have HP := hid (PS.start (0 : Nat) (preT ns pf) H.out HBL.out hB hb)
  clear hb H HBL
  go_wp2_with fail
  refine (adv20 p s r n f 0 _ HP.out.psr (by omega)).mono ?_
  rintro e w3 ⟨rfl, hg⟩
  have HP3 := hid (HP.out.go hg)
  have hi1 := HS1.out.len.1
  clear hg HP
  go_wp2_with fail
  refine (cur19 p s r n f 1 _ HP3.out.psr (by omega)).mono ?_
  obtain ⟨K1, hK1⟩ : ∃ K1, (cur s n f 1).k = K1 := ⟨_, rfl⟩
  rw [hK1]
  generalize (cur s n f 1).s = xx
  generalize (cur s n f 1).l = yy
  rintro e w4 ⟨rfl, hb⟩
  have HP4 := hid (HP3.out.call hb)
  have HK1 := hid hK1
  clear hb HP3 hK1
  go_upto_block 0 with fail
  go_cut [18] (fun v18 wx => Q ⟨w00, w⟩ B0 p s r n f w.heap.size (w.heap.size + 1) w2.heap.size 0 (decide (2 ≤ ns)) (preT ns pf) nm (L0 op ws q v md) (B []) (B []) 0 wx)
  case first =>
    rename_i J KK hJ hKK
    have hl0 := L0_len op ws q v md
    have e4 : ns = 0 ∨ ns = 1 ∨ ns = 2 ∨ ns = 3 := by omega
    rcases e4 with rfl | rfl | rfl | rfl
    · as_aux_lemma =>
        obtain ⟨hlt1, T1, hS2⟩ := HS1.out
        generalize 0 + (B [91]).size = a1 at T1 hS2
        have hlen := hS2.len.1
        obtain rfl : (29 : Int) = K1 := T1.kd.symm.trans HK1.out
        have HS2 := hid hS2
        have HL := hid (L0_next hS2)
        clear hS2 HK1
        go_wp2_with fail
        refine (name22 p s nm nm r n f 1 a1 29 _ HP4.out.psr (by omega) T1 (.inl ⟨rfl, rfl, hnm⟩)).mono ?_
        rintro e w5 ⟨rfl, hb⟩
        have HPx := hid (HP4.out.call hb)
        clear hb
        have q3 := HPx.out.at_ 3 (by omega)
        have q4 := HPx.out.at_ 4 (by omega)
        have q5 := HPx.out.at_ 5 (by omega)
        have q6 := HPx.out.at_ 6 (by omega)
        have zz := HPx.out.z
        have HP5 := hid (HPx.out.name (.string nm) (.int .i32 (a1 : Nat)) (.int .i32 nm.size) (.int .u8 29))
        clear HPx HP4
        go_wp2_with fail
        clear q3 q4 q5 q6 zz
        refine (exp23 p s r n f 1 29 _ HP5.out.psr (by omega) T1.kd.symm).mono ?_
        rintro e w6 ⟨rfl, hg⟩
        have HP6 := hid (HP5.out.go hg)
        clear hg HP5
        go_wp2_with fail
        refine (next24 p s r n f 2 _ HP6.out.psr (by omega)).mono ?_
        obtain ⟨K3, hK3⟩ : ∃ K3, (cur s n f (2 + 1)).k = K3 := ⟨_, rfl⟩
        have hL := HL.out
        rw [hK3]
        rw [hK3] at hL
        have HLL := hid hL
        generalize (cur s n f (2 + 1)).s = x3
        generalize (cur s n f (2 + 1)).l = y3
        rintro e w7 ⟨rfl, hb⟩
        have HP7 := hid (HP6.out.call hb)
        clear hb HP6 hK3 hL HL
        by_cases h3 : K3 = 18
        · subst h3
          go_wp2_with fail
          refine Met.intro (hJ _ _ ?_)
          repeat apply Exists.intro
          exact ⟨⟨_, _, _, _, HP7.out, HS2.out, rfl, rfl, rfl, rfl, rfl, rfl, _, _, _, rfl, rfl, rfl⟩, rfl⟩
        · have b3 : (K3 != 18) = true := by simp [h3]
          go_wp2_with fail
          refine (eat25_no p s r n f 2 14 _ HP7.out.psr (by omega) (fun e => (HLL.out.resolve_left h3) e.symm)).mono ?_
          rintro e w8 ⟨rfl, hb⟩
          have HP8 := hid (HP7.out.call hb)
          clear hb HP7
          go_wp2_with fail
          refine Met.intro (hJ _ _ ?_)
          repeat apply Exists.intro
          exact ⟨⟨_, _, _, _, HP8.out, HS2.out, rfl, rfl, rfl, rfl, rfl, rfl, _, _, _, rfl, rfl, rfl⟩, rfl⟩
    · as_aux_lemma =>
        obtain ⟨hlt1, T1, hlt2, T2, hS2⟩ := HS1.out
        generalize 0 + (B [91]).size = a1 at T1 T2 hS2
        generalize a1 + (B [124]).size = a2 at T2 hS2
        have hlen := hS2.len.1
        obtain rfl : (14 : Int) = K1 := T1.kd.symm.trans HK1.out
        have HS2 := hid hS2
        clear hS2 HK1
        go_wp2_with fail
        refine (peek21 p s r n f 1 13 _ HP4.out.psr (by omega)).mono ?_
        rw [show (cur s n f 1).k = 14 from T1.kd]
        rintro e w5 ⟨rfl, hb⟩
        have HP5 := hid (HP4.out.call hb)
        clear hb HP4
        go_wp2_with fail
        refine (exp23 p s r n f 1 14 _ HP5.out.psr (by omega) T1.kd.symm).mono ?_
        rintro e w6 ⟨rfl, hg⟩
        have HP6 := hid (HP5.out.go hg)
        clear hg HP5
        go_wp2_with fail
        refine (name22 p s nm nm r n f 2 a2 29 _ HP6.out.psr (by omega) T2 (.inl ⟨rfl, rfl, hnm⟩)).mono ?_
        rintro e w7 ⟨rfl, hb⟩
        have HPx := hid (HP6.out.call hb)
        clear hb
        have q3 := HPx.out.at_ 3 (by omega)
        have q4 := HPx.out.at_ 4 (by omega)
        have q5 := HPx.out.at_ 5 (by omega)
        have q6 := HPx.out.at_ 6 (by omega)
        have zz := HPx.out.z
        have HP7 := hid (HPx.out.name (.string nm) (.int .i32 (a2 : Nat)) (.int .i32 nm.size) (.int .u8 29))
        clear HPx HP6
        go_wp2_with fail
        clear q3 q4 q5 q6 zz
        refine (exp23 p s r n f 2 29 _ HP7.out.psr (by omega) T2.kd.symm).mono ?_
        rintro e w8 ⟨rfl, hg⟩
        have HP8 := hid (HP7.out.go hg)
        clear hg HP7
        go_wp2_with fail
        refine Met.intro (hJ _ _ ?_)
        repeat apply Exists.intro
        exact ⟨⟨_, _, _, _, HP8.out, HS2.out, rfl, rfl, rfl, rfl, rfl, rfl, _, _, _, rfl, rfl, rfl⟩, rfl⟩
    · as_aux_lemma =>
        obtain ⟨hlt1, T1, hlt2, T2, hlt3, T3, hS2⟩ := HS1.out
        generalize 0 + (B [91]).size = a1 at T1 T2 T3 hS2
        generalize a1 + (B [42]).size = a2 at T2 T3 hS2
        generalize a2 + (B [124]).size = a3 at T3 hS2
        have hlen := hS2.len.1
        obtain rfl : (13 : Int) = K1 := T1.kd.symm.trans HK1.out
        have HS2 := hid hS2
        clear hS2 HK1
        go_wp2_with fail
        refine (peek21 p s r n f 1 13 _ HP4.out.psr (by omega)).mono ?_
        rw [show (cur s n f 1).k = 13 from T1.kd]
        rintro e w5 ⟨rfl, hb⟩
        have HP5 := hid (HP4.out.call hb)
        clear hb HP4
        go_wp2_with fail
        refine (name22 p s (B [42]) (B [42]) r n f 1 a1 13 _ HP5.out.psr (by omega) T1 (.inr (.inr ⟨rfl, rfl⟩))).mono ?_
        rintro e w6 ⟨rfl, hb⟩
        have HPx := hid (HP5.out.call hb)
        clear hb
        have HP6 := hid HPx.out
        clear HPx HP5
        have HP7 := hid (HP6.out.newpre (B [42]) (.int .i32 (a1 : Nat)) (.int .i32 (B [42]).size) (.int .u8 13))
        clear HP6
        go_wp2_with fail
        refine (adv20 p s r n f 1 _ HP7.out.psr (by omega)).mono ?_
        rintro e w8 ⟨rfl, hg⟩
        have HP8 := hid (HP7.out.go hg)
        clear hg HP7
        have q2 := HP8.out.at_ 2 (by omega)
        have zz := HP8.out.z
        have HP9 := hid (HP8.out.put 2 (.pointer (some ⟨w6.heap.size, 0, none⟩)))
        clear HP8
        go_wp2_with fail
        clear q2 zz
        refine (exp23 p s r n f 2 14 _ HP9.out.psr (by omega) T2.kd.symm).mono ?_
        rintro e w10 ⟨rfl, hg⟩
        have HP10 := hid (HP9.out.go hg)
        clear hg HP9
        go_wp2_with fail
        refine (name22 p s nm nm r n f 3 a3 29 _ HP10.out.psr (by omega) T3 (.inl ⟨rfl, rfl, hnm⟩)).mono ?_
        rintro e w11 ⟨rfl, hb⟩
        have HPx := hid (HP10.out.call hb)
        clear hb
        have q3 := HPx.out.at_ 3 (by omega)
        have q4 := HPx.out.at_ 4 (by omega)
        have q5 := HPx.out.at_ 5 (by omega)
        have q6 := HPx.out.at_ 6 (by omega)
        have zz := HPx.out.z
        have HP11 := hid (HPx.out.name (.string nm) (.int .i32 (a3 : Nat)) (.int .i32 nm.size) (.int .u8 29))
        clear HPx HP10
        go_wp2_with fail
        clear q3 q4 q5 q6 zz
        refine (exp23 p s r n f 3 29 _ HP11.out.psr (by omega) T3.kd.symm).mono ?_
        rintro e w12 ⟨rfl, hg⟩
        have HP12 := hid (HP11.out.go hg)
        clear hg HP11
        go_wp2_with fail
        refine Met.intro (hJ _ _ ?_)
        repeat apply Exists.intro
        exact ⟨⟨_, _, _, _, HP12.out, HS2.out, rfl, rfl, rfl, rfl, rfl, rfl, _, _, _, rfl, rfl, rfl⟩, rfl⟩
    · as_aux_lemma =>
        obtain ⟨hlt1, T1, hlt2, T2, hlt3, T3, hS2⟩ := HS1.out
        generalize 0 + (B [91]).size = a1 at T1 T2 T3 hS2
        generalize a1 + pf.size = a2 at T2 T3 hS2
        generalize a2 + (B [124]).size = a3 at T3 hS2
        have hlen := hS2.len.1
        obtain rfl : (29 : Int) = K1 := T1.kd.symm.trans HK1.out
        have hpf' := hpf rfl
        have HS2 := hid hS2
        clear hS2 HK1
        go_wp2_with fail
        refine (name22 p s pf pf r n f 1 a1 29 _ HP4.out.psr (by omega) T1 (.inl ⟨rfl, rfl, hpf'⟩)).mono ?_
        rintro e w5 ⟨rfl, hb⟩
        have HPx := hid (HP4.out.call hb)
        clear hb
        have q3 := HPx.out.at_ 3 (by omega)
        have q4 := HPx.out.at_ 4 (by omega)
        have q5 := HPx.out.at_ 5 (by omega)
        have q6 := HPx.out.at_ 6 (by omega)
        have zz := HPx.out.z
        have HP5 := hid (HPx.out.name (.string pf) (.int .i32 (a1 : Nat)) (.int .i32 pf.size) (.int .u8 29))
        clear HPx HP4
        go_wp2_with fail
        clear q3 q4 q5 q6 zz
        refine (exp23 p s r n f 1 29 _ HP5.out.psr (by omega) T1.kd.symm).mono ?_
        rintro e w6 ⟨rfl, hg⟩
        have HP6 := hid (HP5.out.go hg)
        clear hg HP5
        go_wp2_with fail
        refine (next24 p s r n f 2 _ HP6.out.psr (by omega)).mono ?_
        rw [show (cur s n f (2 + 1)).k = 29 from T3.kd]
        generalize (cur s n f (2 + 1)).s = x3
        generalize (cur s n f (2 + 1)).l = y3
        rintro e w7 ⟨rfl, hb⟩
        have HP7 := hid (HP6.out.call hb)
        clear hb HP6
        go_wp2_with fail
        refine (eat25_yes p s r n f 2 14 _ HP7.out.psr (by omega) T2.kd.symm).mono ?_
        rintro e w8 ⟨rfl, hg⟩
        have HP8 := hid (HP7.out.go hg)
        clear hg HP7
        have q3 : w8.cell? ⟨w.heap.size, 3, none⟩ = some (.string pf) := HP8.out.at_ 3 (by omega)
        have q4 : w8.cell? ⟨w.heap.size, 4, none⟩ = some (.int .i32 (a1 : Nat)) := HP8.out.at_ 4 (by omega)
        have q5 : w8.cell? ⟨w.heap.size, 5, none⟩ = some (.int .i32 pf.size) := HP8.out.at_ 5 (by omega)
        have q6 : w8.cell? ⟨w.heap.size, 6, none⟩ = some (.int .u8 29) := HP8.out.at_ 6 (by omega)
        have q2 := HP8.out.at_ 2 (by omega)
        have zz := HP8.out.z
        have hA : w.heap.size < w8.heap.size := by have := HP8.out.ord; omega
        have HP9 := hid (HP8.out.newpre2 pf (.int .i32 (a1 : Nat)) (.int .i32 pf.size) (.int .u8 29))
        clear HP8
        go_wp2_with fail
        clear q2 q3 q4 q5 q6 zz
        refine (name22 p s nm nm r n f 3 a3 29 _ HP9.out.psr (by omega) T3 (.inl ⟨rfl, rfl, hnm⟩)).mono ?_
        rintro e w10 ⟨rfl, hb⟩
        have HPx := hid (HP9.out.call hb)
        clear hb
        have q3 := HPx.out.at_ 3 (by omega)
        have q4 := HPx.out.at_ 4 (by omega)
        have q5 := HPx.out.at_ 5 (by omega)
        have q6 := HPx.out.at_ 6 (by omega)
        have zz := HPx.out.z
        have HP10 := hid (HPx.out.name (.string nm) (.int .i32 (a3 : Nat)) (.int .i32 nm.size) (.int .u8 29))
        clear HPx HP9
        go_wp2_with fail
        clear q3 q4 q5 q6 zz
        refine (exp23 p s r n f 3 29 _ HP10.out.psr (by omega) T3.kd.symm).mono ?_
        rintro e w11 ⟨rfl, hg⟩
        have HP11 := hid (HP10.out.go hg)
        clear hg HP10
        go_wp2_with fail
        refine Met.intro (hJ _ _ ?_)
        repeat apply Exists.intro
        exact ⟨⟨_, _, _, _, HP11.out, HS2.out, rfl, rfl, rfl, rfl, rfl, rfl, _, _, _, rfl, rfl, rfl⟩, rfl⟩
  case rest =>
    have HQ := hid (‹Q ⟨w00, w⟩ B0 p s r n f w.heap.size (w.heap.size + 1) w2.heap.size 0 (decide (2 ≤ ns)) (preT ns pf) nm (L0 op ws q v md) _ _ _ _›)
    clear hcut
    go_upto_region 20 with fail
    go_cut [68] (fun v68 wx => Q ⟨w00, w⟩ B0 p s r n f w.heap.size (w.heap.size + 1) w2.heap.size 0 (decide (2 ≤ ns)) (preT ns pf) nm (L1 op ws q v md) (B []) (B []) 0 wx)
    case first =>
      rename_i J KK hJ hKK
      as_aux_lemma =>
        have hQ0 := HQ.out.step
        cases ws with
        | true =>
          obtain ⟨i, a, hS, hP, hK⟩ := hQ0
          obtain ⟨hlt1, T, hS2⟩ := (hS : Sfx s n f i a ((38, B [32]) :: L1 op true q v md))
          have HP := hid hP
          have HK := hid (fun w' hg => hK (i + 1) _ _ w' hg hS2)
          clear hP hK hS2
          go_wp2_with fail
          refine (eat25_yes p s r n f i 38 _ HP.out (by omega) T.kd.symm).mono ?_
          rintro e w6 ⟨rfl, hg⟩
          have HQ6 := hid (HK.out w6 hg)
          clear hg HP HK HQ
          go_wp2_with fail
          refine Met.intro (hJ _ _ ?_)
          repeat apply Exists.intro
          exact ⟨HQ6.out, rfl⟩
        | false =>
          obtain ⟨i, a, hS, hP, hK⟩ := hQ0
          have hS2 : Sfx s n f i a (L1 op false q v md) := hS
          have HP := hid hP
          have HK := hid (fun w' hg => hK i a _ w' hg hS2)
          have hkd := L1_kind hS2
          have hle := hS2.len.1
          clear hP hK hS hS2
          go_wp2_with fail
          refine (eat25_no p s r n f i 38 _ HP.out (by omega) (fun e => hkd e.symm)).mono ?_
          rintro e w6 ⟨rfl, hb⟩
          have HQ6 := hid (HK.out w6 (Go1.of HP.out hb))
          clear hb HP HK HQ hkd
          go_wp2_with fail
          refine Met.intro (hJ _ _ ?_)
          repeat apply Exists.intro
          exact ⟨HQ6.out, rfl⟩
    case rest =>
      have HQ1 := hid (‹Q ⟨w00, w⟩ B0 p s r n f w.heap.size (w.heap.size + 1) w2.heap.size 0 (decide (2 ≤ ns)) (preT ns pf) nm (L1 op ws q v md) _ _ _ _›)
      clear HQ hcut
      go_step

      go_step

      go_cut [70] (fun v70 wx => (op = 0 → Q ⟨w00, w⟩ B0 p s r n f w.heap.size (w.heap.size + 1) w2.heap.size 0 (decide (2 ≤ ns)) (preT ns pf) nm L6 (B []) (B []) 0 wx) ∧ (op ≠ 0 → Q ⟨w00, w⟩ B0 p s r n f w.heap.size (w.heap.size + 1) w2.heap.size 0 (decide (2 ≤ ns)) (preT ns pf) nm (L2 ws q v md) (opT op) (B []) 0 wx))
      case first =>
        rename_i J KK hJ hKK
        have e7 : op = 0 ∨ op = 1 ∨ op = 2 ∨ op = 3 ∨ op = 4 ∨ op = 5 ∨ op = 6 := by omega
        obtain ⟨i, a, hS, hP, hK⟩ := HQ1.out.step
        rcases e7 with rfl | rfl | rfl | rfl | rfl | rfl | rfl
        · as_aux_lemma =>
            have hS2 : Sfx s n f i a L6 := hS
            have hkd : (cur s n f i).k = 7 := hS2.2.1.kd
            have hle := hS2.len.1
            have HP := hid hP
            have HK := hid (fun w' hg => hK i a _ w' hg hS2)
            clear hP hK hS hS2
            go_wp2_with fail
            refine (eat25_no p s r n f i 18 _ HP.out (by omega) (by rw [hkd]; decide)).mono ?_
            rintro e w6 ⟨rfl, hb⟩
            have HP6 := hid (HP.out.call hb)
            have HG6 := hid (Go1.of HP.out hb)
            clear hb
            go_wp2_with fail
            refine (cur19 p s r n f i _ HP6.out (by omega)).mono ?_
            rw [hkd]
            generalize (cur s n f i).s = x6
            generalize (cur s n f i).l = y6
            rintro e w7 ⟨rfl, hb⟩
            have HG7 := hid (HG6.out.trans (Go1.of HP6.out hb))
            clear hb HP6 HG6 HP
            have HQ7 := hid (HK.out w7 HG7.out)
            have q0 : w7.cell? ⟨w.heap.size, 0, none⟩ = some (.string { data := #[] }) := HQ7.out.cells.1
            clear HK HG7 HQ1
            go_wp2_with fail
            refine Met.intro (hJ _ _ ?_)
            repeat apply Exists.intro
            exact ⟨⟨fun _ => HQ7.out, fun h => absurd rfl h⟩, rfl⟩
        · as_aux_lemma =>
            obtain ⟨hlt1, T, hS2⟩ := (hS : Sfx s n f i a ((18, B [61]) :: L2 ws q v md))
            have HP := hid hP
            have HK := hid (fun w' hg => hK (i + 1) _ _ w' hg hS2)
            clear hP hK hS2
            go_wp2_with fail
            refine (eat25_yes p s r n f i 18 _ HP.out (by omega) T.kd.symm).mono ?_
            rintro e w6 ⟨rfl, hg⟩
            have HQ6 := hid (HK.out w6 hg)
            have q0 := HQ6.out.cells.1
            have zz := HQ6.out.cells.2.2.2
            clear hg HP HK HQ1
            go_wp2_with fail
            refine Met.intro (hJ _ _ ?_)
            repeat apply Exists.intro
            exact ⟨⟨fun h => absurd h (by decide), fun _ => HQ6.out.setOp (B [61])⟩, rfl⟩
        · as_aux_lemma =>
            obtain ⟨hlt1, T, hS2⟩ := (hS : Sfx s n f i a ((25, B [126]) :: (18, B [61]) :: L2 ws q v md))
            have hle : i + 1 + ((L2 ws q v md).length + 1) = n := hS2.len.1
            have hkd : (cur s n f i).k = 25 := T.kd
            have HP := hid hP
            have HK := hid (fun w' hg => hK i a ((25, B [126]) :: (18, B [61]) :: L2 ws q v md) w' hg ⟨hlt1, T, hS2⟩)
            have HS2 := hid hS2
            have HT := hid T
            clear hP hK hS2 T
            go_wp2_with fail
            refine (eat25_no p s r n f i 18 _ HP.out (by omega) (by rw [hkd]; decide)).mono ?_
            rintro e w6 ⟨rfl, hb⟩
            have HP6 := hid (HP.out.call hb)
            have HG6 := hid (Go1.of HP.out hb)
            clear hb
            go_wp2_with fail
            refine (cur19 p s r n f i _ HP6.out (by omega)).mono ?_
            rw [hkd]
            generalize (cur s n f i).s = x6
            generalize (cur s n f i).l = y6
            rintro e w7 ⟨rfl, hb⟩
            have HG7 := hid (HG6.out.trans (Go1.of HP6.out hb))
            clear hb HP6 HG6 HP
            have HQ7 := hid (HK.out w7 HG7.out)
            have q0 := HQ7.out.cells.1
            have zz := HQ7.out.cells.2.2.2
            have HQ8 := hid (HQ7.out.setOp (B [126, 61]))
            clear HK HG7 HQ1 HQ7
            go_wp2_with fail
            clear q0 zz
            obtain ⟨i8, a8, hS8, hP8, hK8⟩ := HQ8.out.step
            have hi8 : i8 + ((L2 ws q v md).length + 1 + 1) = n := hS8.len.1
            obtain rfl : i8 = i := by omega
            have HP8 := hid hP8
            have HK8 := hid (fun w' hg => hK8 (i8 + 1 + 1) _ _ w' hg HS2.out.2.2)
            clear hP8 hK8 hS8
            refine (adv20 p s r n f i8 _ HP8.out (by omega)).mono ?_
            rintro e w9 ⟨rfl, hg⟩
            have HG9 := hid hg
            clear hg
            go_wp2_with fail
            refine (exp23 p s r n f (i8 + 1) 18 _ HG9.out.psr (by omega) HS2.out.2.1.kd.symm).mono ?_
            rintro e w10 ⟨rfl, hg⟩
            have HQ10 := hid (HK8.out w10 (HG9.out.trans hg))
            clear hg HG9 HK8 HP8 HQ8
            go_wp2_with fail
            refine Met.intro (hJ _ _ ?_)
            repeat apply Exists.intro
            exact ⟨⟨fun h => absurd h (by decide), fun _ => HQ10.out⟩, rfl⟩
        · as_aux_lemma =>
            obtain ⟨hlt1, T, hS2⟩ := (hS : Sfx s n f i a ((14, B [124]) :: (18, B [61]) :: L2 ws q v md))
            have hle : i + 1 + ((L2 ws q v md).length + 1) = n := hS2.len.1
            have hkd : (cur s n f i).k = 14 := T.kd
            have HP := hid hP
            have HK := hid (fun w' hg => hK i a ((14, B [124]) :: (18, B [61]) :: L2 ws q v md) w' hg ⟨hlt1, T, hS2⟩)
            have HS2 := hid hS2
            have HT := hid T
            clear hP hK hS2 T
            go_wp2_with fail
            refine (eat25_no p s r n f i 18 _ HP.out (by omega) (by rw [hkd]; decide)).mono ?_
            rintro e w6 ⟨rfl, hb⟩
            have HP6 := hid (HP.out.call hb)
            have HG6 := hid (Go1.of HP.out hb)
            clear hb
            go_wp2_with fail
            refine (cur19 p s r n f i _ HP6.out (by omega)).mono ?_
            rw [hkd]
            generalize (cur s n f i).s = x6
            generalize (cur s n f i).l = y6
            rintro e w7 ⟨rfl, hb⟩
            have HG7 := hid (HG6.out.trans (Go1.of HP6.out hb))
            clear hb HP6 HG6 HP
            have HQ7 := hid (HK.out w7 HG7.out)
            have q0 := HQ7.out.cells.1
            have zz := HQ7.out.cells.2.2.2
            have HQ8 := hid (HQ7.out.setOp (B [124, 61]))
            clear HK HG7 HQ1 HQ7
            go_wp2_with fail
            clear q0 zz
            obtain ⟨i8, a8, hS8, hP8, hK8⟩ := HQ8.out.step
            have hi8 : i8 + ((L2 ws q v md).length + 1 + 1) = n := hS8.len.1
            obtain rfl : i8 = i := by omega
            have HP8 := hid hP8
            have HK8 := hid (fun w' hg => hK8 (i8 + 1 + 1) _ _ w' hg HS2.out.2.2)
            clear hP8 hK8 hS8
            refine (adv20 p s r n f i8 _ HP8.out (by omega)).mono ?_
            rintro e w9 ⟨rfl, hg⟩
            have HG9 := hid hg
            clear hg
            go_wp2_with fail
            refine (exp23 p s r n f (i8 + 1) 18 _ HG9.out.psr (by omega) HS2.out.2.1.kd.symm).mono ?_
            rintro e w10 ⟨rfl, hg⟩
            have HQ10 := hid (HK8.out w10 (HG9.out.trans hg))
            clear hg HG9 HK8 HP8 HQ8
            go_wp2_with fail
            refine Met.intro (hJ _ _ ?_)
            repeat apply Exists.intro
            exact ⟨⟨fun h => absurd h (by decide), fun _ => HQ10.out⟩, rfl⟩
        · as_aux_lemma =>
            obtain ⟨hlt1, T, hS2⟩ := (hS : Sfx s n f i a ((15, B [94]) :: (18, B [61]) :: L2 ws q v md))
            have hle : i + 1 + ((L2 ws q v md).length + 1) = n := hS2.len.1
            have hkd : (cur s n f i).k = 15 := T.kd
            have HP := hid hP
            have HK := hid (fun w' hg => hK i a ((15, B [94]) :: (18, B [61]) :: L2 ws q v md) w' hg ⟨hlt1, T, hS2⟩)
            have HS2 := hid hS2
            have HT := hid T
            clear hP hK hS2 T
            go_wp2_with fail
            refine (eat25_no p s r n f i 18 _ HP.out (by omega) (by rw [hkd]; decide)).mono ?_
            rintro e w6 ⟨rfl, hb⟩
            have HP6 := hid (HP.out.call hb)
            have HG6 := hid (Go1.of HP.out hb)
            clear hb
            go_wp2_with fail
            refine (cur19 p s r n f i _ HP6.out (by omega)).mono ?_
            rw [hkd]
            generalize (cur s n f i).s = x6
            generalize (cur s n f i).l = y6
            rintro e w7 ⟨rfl, hb⟩
            have HG7 := hid (HG6.out.trans (Go1.of HP6.out hb))
            clear hb HP6 HG6 HP
            have HQ7 := hid (HK.out w7 HG7.out)
            have q0 := HQ7.out.cells.1
            have zz := HQ7.out.cells.2.2.2
            have HQ8 := hid (HQ7.out.setOp (B [94, 61]))
            clear HK HG7 HQ1 HQ7
            go_wp2_with fail
            clear q0 zz
            obtain ⟨i8, a8, hS8, hP8, hK8⟩ := HQ8.out.step
            have hi8 : i8 + ((L2 ws q v md).length + 1 + 1) = n := hS8.len.1
            obtain rfl : i8 = i := by omega
            have HP8 := hid hP8
            have HK8 := hid (fun w' hg => hK8 (i8 + 1 + 1) _ _ w' hg HS2.out.2.2)
            clear hP8 hK8 hS8
            refine (adv20 p s r n f i8 _ HP8.out (by omega)).mono ?_
            rintro e w9 ⟨rfl, hg⟩
            have HG9 := hid hg
            clear hg
            go_wp2_with fail
            refine (exp23 p s r n f (i8 + 1) 18 _ HG9.out.psr (by omega) HS2.out.2.1.kd.symm).mono ?_
            rintro e w10 ⟨rfl, hg⟩
            have HQ10 := hid (HK8.out w10 (HG9.out.trans hg))
            clear hg HG9 HK8 HP8 HQ8
            go_wp2_with fail
            refine Met.intro (hJ _ _ ?_)
            repeat apply Exists.intro
            exact ⟨⟨fun h => absurd h (by decide), fun _ => HQ10.out⟩, rfl⟩
        · as_aux_lemma =>
            obtain ⟨hlt1, T, hS2⟩ := (hS : Sfx s n f i a ((16, B [36]) :: (18, B [61]) :: L2 ws q v md))
            have hle : i + 1 + ((L2 ws q v md).length + 1) = n := hS2.len.1
            have hkd : (cur s n f i).k = 16 := T.kd
            have HP := hid hP
            have HK := hid (fun w' hg => hK i a ((16, B [36]) :: (18, B [61]) :: L2 ws q v md) w' hg ⟨hlt1, T, hS2⟩)
            have HS2 := hid hS2
            have HT := hid T
            clear hP hK hS2 T
            go_wp2_with fail
            refine (eat25_no p s r n f i 18 _ HP.out (by omega) (by rw [hkd]; decide)).mono ?_
            rintro e w6 ⟨rfl, hb⟩
            have HP6 := hid (HP.out.call hb)
            have HG6 := hid (Go1.of HP.out hb)
            clear hb
            go_wp2_with fail
            refine (cur19 p s r n f i _ HP6.out (by omega)).mono ?_
            rw [hkd]
            generalize (cur s n f i).s = x6
            generalize (cur s n f i).l = y6
            rintro e w7 ⟨rfl, hb⟩
            have HG7 := hid (HG6.out.trans (Go1.of HP6.out hb))
            clear hb HP6 HG6 HP
            have HQ7 := hid (HK.out w7 HG7.out)
            have q0 := HQ7.out.cells.1
            have zz := HQ7.out.cells.2.2.2
            have HQ8 := hid (HQ7.out.setOp (B [36, 61]))
            clear HK HG7 HQ1 HQ7
            go_wp2_with fail
            clear q0 zz
            obtain ⟨i8, a8, hS8, hP8, hK8⟩ := HQ8.out.step
            have hi8 : i8 + ((L2 ws q v md).length + 1 + 1) = n := hS8.len.1
            obtain rfl : i8 = i := by omega
            have HP8 := hid hP8
            have HK8 := hid (fun w' hg => hK8 (i8 + 1 + 1) _ _ w' hg HS2.out.2.2)
            clear hP8 hK8 hS8
            refine (adv20 p s r n f i8 _ HP8.out (by omega)).mono ?_
            rintro e w9 ⟨rfl, hg⟩
            have HG9 := hid hg
            clear hg
            go_wp2_with fail
            refine (exp23 p s r n f (i8 + 1) 18 _ HG9.out.psr (by omega) HS2.out.2.1.kd.symm).mono ?_
            rintro e w10 ⟨rfl, hg⟩
            have HQ10 := hid (HK8.out w10 (HG9.out.trans hg))
            clear hg HG9 HK8 HP8 HQ8
            go_wp2_with fail
            refine Met.intro (hJ _ _ ?_)
            repeat apply Exists.intro
            exact ⟨⟨fun h => absurd h (by decide), fun _ => HQ10.out⟩, rfl⟩
        · as_aux_lemma =>
            obtain ⟨hlt1, T, hS2⟩ := (hS : Sfx s n f i a ((13, B [42]) :: (18, B [61]) :: L2 ws q v md))
            have hle : i + 1 + ((L2 ws q v md).length + 1) = n := hS2.len.1
            have hkd : (cur s n f i).k = 13 := T.kd
            have HP := hid hP
            have HK := hid (fun w' hg => hK i a ((13, B [42]) :: (18, B [61]) :: L2 ws q v md) w' hg ⟨hlt1, T, hS2⟩)
            have HS2 := hid hS2
            have HT := hid T
            clear hP hK hS2 T
            go_wp2_with fail
            refine (eat25_no p s r n f i 18 _ HP.out (by omega) (by rw [hkd]; decide)).mono ?_
            rintro e w6 ⟨rfl, hb⟩
            have HP6 := hid (HP.out.call hb)
            have HG6 := hid (Go1.of HP.out hb)
            clear hb
            go_wp2_with fail
            refine (cur19 p s r n f i _ HP6.out (by omega)).mono ?_
            rw [hkd]
            generalize (cur s n f i).s = x6
            generalize (cur s n f i).l = y6
            rintro e w7 ⟨rfl, hb⟩
            have HG7 := hid (HG6.out.trans (Go1.of HP6.out hb))
            clear hb HP6 HG6 HP
            have HQ7 := hid (HK.out w7 HG7.out)
            have q0 := HQ7.out.cells.1
            have zz := HQ7.out.cells.2.2.2
            have HQ8 := hid (HQ7.out.setOp (B [42, 61]))
            clear HK HG7 HQ1 HQ7
            go_wp2_with fail
            clear q0 zz
            obtain ⟨i8, a8, hS8, hP8, hK8⟩ := HQ8.out.step
            have hi8 : i8 + ((L2 ws q v md).length + 1 + 1) = n := hS8.len.1
            obtain rfl : i8 = i := by omega
            have HP8 := hid hP8
            have HK8 := hid (fun w' hg => hK8 (i8 + 1 + 1) _ _ w' hg HS2.out.2.2)
            clear hP8 hK8 hS8
            refine (adv20 p s r n f i8 _ HP8.out (by omega)).mono ?_
            rintro e w9 ⟨rfl, hg⟩
            have HG9 := hid hg
            clear hg
            go_wp2_with fail
            refine (exp23 p s r n f (i8 + 1) 18 _ HG9.out.psr (by omega) HS2.out.2.1.kd.symm).mono ?_
            rintro e w10 ⟨rfl, hg⟩
            have HQ10 := hid (HK8.out w10 (HG9.out.trans hg))
            clear hg HG9 HK8 HP8 HQ8
            go_wp2_with fail
            refine Met.intro (hJ _ _ ?_)
            repeat apply Exists.intro
            exact ⟨⟨fun h => absurd h (by decide), fun _ => HQ10.out⟩, rfl⟩
      case rest =>
        obtain ⟨hQ0, hQn⟩ := ‹(op = 0 → Q ⟨w00, w⟩ B0 p s r n f w.heap.size (w.heap.size + 1) w2.heap.size 0 (decide (2 ≤ ns)) (preT ns pf) nm L6 _ _ _ _) ∧ _›
        have HQ0 := hid hQ0
        have HQn := hid hQn
        clear hQ0 hQn HQ1 hcut
        go_step
        go_step
        go_cut [100] (fun v100 wx => Q ⟨w00, w⟩ B0 p s r n f w.heap.size (w.heap.size + 1) w2.heap.size 0 (decide (2 ≤ ns)) (preT ns pf) nm L6 (opT op) (VO op v) (MO op md) wx)
        case first =>
          rename_i J KK hJ hKK
          by_cases hop0 : op = 0
          · have hQ := HQ0.out hop0
            have q0 : wc.cell? ⟨w.heap.size, 0, none⟩ = some (.string { data := #[] }) := hQ.cells.1
            have HQ2 := hid hQ
            subst hop0
            clear hQ HQ0 HQn
            go_wp2_with fail
            refine Met.intro (hJ _ _ ?_)
            repeat apply Exists.intro
            exact ⟨HQ2.out, rfl⟩
          · have hQ := HQn.out hop0
            have q0 := hQ.cells.1
            have HQ2 := hid hQ
            have hb1 : (opT op).toList.isEmpty = false := opT_ne2 hop hop0
            rw [show VO op v = v from if_neg hop0, show MO op md = (md.toNat : Int) from if_neg hop0] at hJ
            have hv' := hv hop0
            generalize opT op = OT at *
            clear hQ HQ0 HQn
            go_upto_region 38 with fail
            go_cut [102] (fun v102 wx => Q ⟨w00, w⟩ B0 p s r n f w.heap.size (w.heap.size + 1) w2.heap.size 0 (decide (2 ≤ ns)) (preT ns pf) nm (L3 ws q v md) OT (B []) 0 wx)
            case first =>
              rename_i J2 KK2 hJ2 hKK2
              clear hJ hKK
              have HQ := HQ2
              clear HQ2
              as_aux_lemma =>
                have hQ0 := HQ.out.step
                cases ws with
                | true =>
                  obtain ⟨i, a, hS, hP, hK⟩ := hQ0
                  obtain ⟨hlt1, T, hS2⟩ := (hS : Sfx s n f i a ((38, B [32]) :: L3 true q v md))
                  have HP := hid hP
                  have HK := hid (fun w' hg => hK (i + 1) _ _ w' hg hS2)
                  clear hP hK hS2
                  go_wp2_with fail
                  refine (eat25_yes p s r n f i 38 _ HP.out (by omega) T.kd.symm).mono ?_
                  rintro e w6 ⟨rfl, hg⟩
                  have HQ6 := hid (HK.out w6 hg)
                  clear hg HP HK HQ
                  go_wp2_with fail
                  refine Met.intro (hJ2 _ _ ?_)
                  repeat apply Exists.intro
                  exact ⟨HQ6.out, rfl⟩
                | false =>
                  obtain ⟨i, a, hS, hP, hK⟩ := hQ0
                  have hS2 : Sfx s n f i a (L3 false q v md) := hS
                  have HP := hid hP
                  have HK := hid (fun w' hg => hK i a _ w' hg hS2)
                  have hkd := L3_kind hS2
                  have hle := hS2.len.1
                  clear hP hK hS hS2
                  go_wp2_with fail
                  refine (eat25_no p s r n f i 38 _ HP.out (by omega) (fun e => hkd e.symm)).mono ?_
                  rintro e w6 ⟨rfl, hb⟩
                  have HQ6 := hid (HK.out w6 (Go1.of HP.out hb))
                  clear hb HP HK HQ hkd
                  go_wp2_with fail
                  refine Met.intro (hJ2 _ _ ?_)
                  repeat apply Exists.intro
                  exact ⟨HQ6.out, rfl⟩
            case rest =>
              clear q0
              have HQ := hid (‹Q ⟨w00, w⟩ B0 p s r n f w.heap.size (w.heap.size + 1) w2.heap.size 0 (decide (2 ≤ ns)) (preT ns pf) nm (L3 ws q v md) OT (B []) 0 _›)
              clear hcut HQ2
              go_step
              go_step
              go_cut [105] (fun v105 wx => Q ⟨w00, w⟩ B0 p s r n f w.heap.size (w.heap.size + 1) w2.heap.size 0 (decide (2 ≤ ns)) (preT ns pf) nm (L3 ws q v md) OT (B []) 0 wx)
              case first =>
                rename_i J3 KK3 hJ3 hKK3
                clear hJ hKK
                obtain ⟨i, a, hS, hP, hK⟩ := HQ.out.step
                have hle := hS.len.1
                cases q with
                | true =>
                  have hkd : (cur s n f i).k = 36 := hS.2.1.kd
                  have HP5 := hid hP
                  have HG5 := hid (Go1.of hP (Below.refl _ _))
                  have HK := hid (fun w' hg => hK i a _ w' hg hS)
                  clear hP hK hS
                  go_wp2_with fail
                  refine (peek21 p s r n f i 36 _ HP5.out (by omega)).mono ?_
                  rw [hkd]
                  rintro e w6 ⟨rfl, hb⟩
                  have HP6 := hid (HP5.out.call hb)
                  have HG6 := hid (HG5.out.trans (Go1.of HP5.out hb))
                  clear hb
                  go_wp2_with fail
                  refine Met.intro (hJ3 _ _ ?_)
                  repeat apply Exists.intro
                  exact ⟨HK.out _ HG6.out, rfl⟩
                | false =>
                  have hkd : (cur s n f i).k = 29 := hS.2.1.kd
                  have HP5 := hid hP
                  have HG5 := hid (Go1.of hP (Below.refl _ _))
                  have HK := hid (fun w' hg => hK i a _ w' hg hS)
                  clear hP hK hS
                  go_wp2_with fail
                  refine (peek21 p s r n f i 36 _ HP5.out (by omega)).mono ?_
                  rw [hkd]
                  rintro e w6 ⟨rfl, hb⟩
                  have HP6 := hid (HP5.out.call hb)
                  have HG6 := hid (HG5.out.trans (Go1.of HP5.out hb))
                  clear hb
                  go_wp2_with fail
                  refine (peek21 p s r n f i 29 _ HP6.out (by omega)).mono ?_
                  rw [hkd]
                  rintro e w7 ⟨rfl, hb⟩
                  have HP7 := hid (HP6.out.call hb)
                  have HG7 := hid (HG6.out.trans (Go1.of HP6.out hb))
                  clear hb
                  go_wp2_with fail
                  refine Met.intro (hJ3 _ _ ?_)
                  repeat apply Exists.intro
                  exact ⟨HK.out _ HG7.out, rfl⟩
              case rest =>
                have HQ3 := hid (‹Q ⟨w00, w⟩ B0 p s r n f w.heap.size (w.heap.size + 1) w2.heap.size 0 (decide (2 ≤ ns)) (preT ns pf) nm (L3 ws q v md) OT (B []) 0 _›)
                clear hcut HQ
                obtain ⟨i, a, hS, hP, hK⟩ := HQ3.out.step
                obtain ⟨hlt1, T, hS2⟩ := hS
                have HT := hid T
                have HP := hid hP
                have HK := hid (fun w' hg => hK i a ((valK q, valT q v) :: L4 ws md) w' hg ⟨hlt1, T, hS2⟩)
                have HS2 := hid hS2
                have hdt := hid (valT_dt (q := q) hv')
                have hle : i + 1 + (L4 ws md).length = n := hS2.len.1
                clear hP hK hS2 T
                go_wp2_with fail
                refine (dec27 p s (valT q v) v r n f i a (valK q) _ HP.out (by omega) HT.out hdt.out).mono ?_
                rintro e w6 ⟨rfl, hb⟩
                have HQ6 := hid (HK.out w6 (Go1.of HP.out hb))
                have q1 := HQ6.out.cells.2.1
                have zz := HQ6.out.cells.2.2.2
                have HQ7 := hid (HQ6.out.setVal v)
                clear hb HP HK HQ6 HQ3
                go_wp2_with fail
                clear q1 zz
                obtain ⟨i8, a8, hS8, hP8, hK8⟩ := HQ7.out.step
                have hi8 : i8 + ((L4 ws md).length + 1) = n := hS8.len.1
                obtain rfl : i8 = i := by omega
                have HP8 := hid hP8
                have HK8 := hid (fun w' hg => hK8 (i8 + 1) _ _ w' hg HS2.out)
                clear hP8 hK8 hS8
                refine (adv20 p s r n f i8 _ HP8.out (by omega)).mono ?_
                rintro e w9 ⟨rfl, hg⟩
                have HQ9 := hid (HK8.out w9 hg)
                clear hg HK8 HP8 HQ7
                go_upto_region 43 with fail
                go_cut [119] (fun v119 wx => Q ⟨w00, w⟩ B0 p s r n f w.heap.size (w.heap.size + 1) w2.heap.size 0 (decide (2 ≤ ns)) (preT ns pf) nm (L5 md) OT v 0 wx)
                case first =>
                  rename_i J4 KK4 hJ4 hKK4
                  clear hJ hKK
                  have HQ := HQ9
                  clear HQ9
                  as_aux_lemma =>
                    have hQ0 := HQ.out.step
                    cases ws with
                    | true =>
                      obtain ⟨i, a, hS, hP, hK⟩ := hQ0
                      obtain ⟨hlt1, T, hS2⟩ := (hS : Sfx s n f i a ((38, B [32]) :: L5 md))
                      have HP := hid hP
                      have HK := hid (fun w' hg => hK (i + 1) _ _ w' hg hS2)
                      clear hP hK hS2
                      go_wp2_with fail
                      refine (eat25_yes p s r n f i 38 _ HP.out (by omega) T.kd.symm).mono ?_
                      rintro e w6 ⟨rfl, hg⟩
                      have HQ6 := hid (HK.out w6 hg)
                      clear hg HP HK HQ
                      go_wp2_with fail
                      refine Met.intro (hJ4 _ _ ?_)
                      repeat apply Exists.intro
                      exact ⟨HQ6.out, rfl⟩
                    | false =>
                      obtain ⟨i, a, hS, hP, hK⟩ := hQ0
                      have hS2 : Sfx s n f i a (L5 md) := hS
                      have HP := hid hP
                      have HK := hid (fun w' hg => hK i a _ w' hg hS2)
                      have hkd := L5_kind hS2
                      have hle := hS2.len.1
                      clear hP hK hS hS2
                      go_wp2_with fail
                      refine (eat25_no p s r n f i 38 _ HP.out (by omega) (fun e => hkd e.symm)).mono ?_
                      rintro e w6 ⟨rfl, hb⟩
                      have HQ6 := hid (HK.out w6 (Go1.of HP.out hb))
                      clear hb HP HK HQ hkd
                      go_wp2_with fail
                      refine Met.intro (hJ4 _ _ ?_)
                      repeat apply Exists.intro
                      exact ⟨HQ6.out, rfl⟩
                case rest =>
                  have HQ := hid (‹Q ⟨w00, w⟩ B0 p s r n f w.heap.size (w.heap.size + 1) w2.heap.size 0 (decide (2 ≤ ns)) (preT ns pf) nm (L5 md) OT v 0 _›)
                  clear hcut HQ9
                  obtain ⟨i, a, hS, hP, hK⟩ := HQ.out.step
                  have hle := hS.len.1
                  by_cases hm0 : md = 0
                  · subst hm0
                    have hS2 : Sfx s n f i a L6 := hS
                    have hkd : (cur s n f i).k = 7 := hS2.2.1.kd
                    have HP5 := hid hP
                    have HG5 := hid (Go1.of hP (Below.refl _ _))
                    have HK := hid (fun w' hg => hK i a _ w' hg hS2)
                    clear hP hK hS hS2
                    go_wp2_with fail
                    refine (peek21 p s r n f i 29 _ HP5.out (by omega)).mono ?_
                    rw [hkd]
                    rintro e w6 ⟨rfl, hb⟩
                    have HP6 := hid (HP5.out.call hb)
                    have HG6 := hid (HG5.out.trans (Go1.of HP5.out hb))
                    clear hb
                    go_wp2_with fail
                    refine Met.intro (hJ _ _ ?_)
                    repeat apply Exists.intro
                    exact ⟨HK.out _ HG6.out, rfl⟩
                  · as_aux_lemma =>
                      have hm92 : md ≠ 92 := by rcases hmd with rfl | rfl | rfl | rfl | rfl <;> decide
                      obtain ⟨T, hTe⟩ : ∃ T, B [md] = T := ⟨_, rfl⟩
                      have hS2 : Sfx s n f i a ((29, T) :: L6) := by
                        have h := hS
                        unfold L5 at h
                        rw [if_neg hm0, hTe] at h
                        exact h
                      have hcl := hid (show Cln T T.size by rw [← hTe]; exact one_cln md hm0 hm92)
                      have hT1 : T.size = 1 := by rw [← hTe]; rfl
                      obtain ⟨m, hm⟩ : ∃ m : Int, (md.toNat : Int) = m := ⟨_, rfl⟩
                      have h0 : ((T[0]'(by omega)).toNat : Int) = m := by subst hTe; exact hm
                      have hm4 : m = 105 ∨ m = 73 ∨ m = 115 ∨ m = 83 := by
                        rw [← hm]
                        rcases hmd with rfl | rfl | rfl | rfl | rfl
                        · exact absurd rfl hm0
                        · exact .inl rfl
                        · exact .inr (.inl rfl)
                        · exact .inr (.inr (.inl rfl))
                        · exact .inr (.inr (.inr rfl))
                      rw [hm] at hJ
                      obtain ⟨hlt1, T1, hS3⟩ := hS2
                      have hT := hid T1
                      have hle : i + 1 + 1 = n := hS3.len.1
                      have hkd : (cur s n f i).k = 29 := T1.kd
                      have HP5 := hid hP
                      have HG5 := hid (Go1.of hP (Below.refl _ _))
                      have HK := hid (fun w' hg => hK i a ((29, T) :: L6) w' hg ⟨hlt1, T1, hS3⟩)
                      have HS3 := hid hS3
                      clear hP hK hS hS3 T1 hTe hm hmd hm92
                      go_wp2_with fail
                      refine (peek21 p s r n f i 29 _ HP5.out (by omega)).mono ?_
                      rw [hkd]
                      rintro e w6 ⟨rfl, hb⟩
                      have HP6 := hid (HP5.out.call hb)
                      have HG6 := hid (HG5.out.trans (Go1.of HP5.out hb))
                      clear hb
                      go_wp2_with fail
                      refine (dec27 p s T T r n f i a 29 _ HP6.out (by omega) hT.out (.inl ⟨rfl, rfl, hcl.out⟩)).mono ?_
                      rintro e w7 ⟨rfl, hb⟩
                      have HQ7 := hid (HK.out w7 (HG6.out.trans (Go1.of HP6.out hb)))
                      have q7 := HQ7.out.cells.2.2.1
                      have zz := HQ7.out.cells.2.2.2
                      have HQ8 := hid (HQ7.out.setMd m)
                      clear hb HG6 HP6 HG5 HP5 HK HQ7 HQ
                      rcases hm4 with rfl | rfl | rfl | rfl
                      all_goals
                        go_wp2_with fail
                        clear q7 zz
                        obtain ⟨i8, a8, hS8, hP8, hK8⟩ := HQ8.out.step
                        have hi8 : i8 + 2 = n := hS8.len.1
                        obtain rfl : i8 = i := by omega
                        have HP8 := hid hP8
                        have HK8 := hid (fun w' hg => hK8 (i8 + 1) _ _ w' hg HS3.out)
                        clear hP8 hK8 hS8
                        refine (adv20 p s r n f i8 _ HP8.out (by omega)).mono ?_
                        rintro e w9 ⟨rfl, hg⟩
                        have HQ9 := hid (HK8.out w9 hg)
                        clear hg HK8 HP8 HQ8
                        go_wp2_with fail
                        refine Met.intro (hJ _ _ ?_)
                        repeat apply Exists.intro
                        exact ⟨HQ9.out, rfl⟩
        case rest =>
          as_aux_lemma =>
            have HQ := hid (‹Q ⟨w00, w⟩ B0 p s r n f w.heap.size (w.heap.size + 1) w2.heap.size 0 (decide (2 ≤ ns)) (preT ns pf) nm L6 (opT op) (VO op v) (MO op md) _›)
            clear hcut HQ0 HQn
            obtain ⟨i, a, c, pre, hP, hS, hpre, hc0, hc1, hc2, hc3, hc7, x, y, k, hc4, hc5, hc6⟩ := HQ.out.ex
            obtain ⟨hlt1, T, hin, has⟩ := hS
            obtain ⟨b, hb93⟩ : ∃ b, (B [93]).size = b := ⟨_, rfl⟩
            rw [hb93] at has
            have HP := hid hP
            have HC := hid (And.intro hc0 (And.intro hc1 (And.intro hc2 (And.intro hc3 (And.intro hc4 (And.intro hc5 (And.intro hc6 hc7)))))))
            obtain ⟨t1, t2, t3, _, _⟩ := T
            clear hP HQ hc0 hc1 hc2 hc3 hc4 hc5 hc6 hc7
            go_wp2_with fail
            refine (cur19 p s r n f i _ HP.out.psr (by omega)).mono ?_
            rw [t1, t2, t3, hb93]
            rintro e w6 ⟨rfl, hb⟩
            have HP6 := hid (HP.out.call hb)
            clear hb HP
            have qM := HP6.out.m_
            have hM : w2.heap.size < w6.heap.size := HP6.out.ord.2.2.2.2
            have hpM : p < w2.heap.size := by have := HP6.out.ord; omega
            have HPa := hid (HP6.out.call ((Below.refl w6.heap.size w6).alloc (Nat.le_refl _) (.cells #[.int .i32 a, .int .i32 b] 44)))
            clear HP6
            go_wp2_with fail
            refine (exl28 p s r n f i 7 0 _ HPa.out.psr (by omega) t3.symm).mono ?_
            rintro e w7 ⟨rfl, hg⟩
            have qN0 : w7.cell? ⟨w6.heap.size, 0, none⟩ = some (.int .i32 a) := by
              rw [hg.cell w6.heap.size 0 (by simp [go_sem]) (by omega)]
              simp [go_sem]
            have qN1 : w7.cell? ⟨w6.heap.size, 1, none⟩ = some (.int .i32 b) := by
              rw [hg.cell w6.heap.size 1 (by simp [go_sem]) (by omega)]
              simp [go_sem]
            have hz7 : w6.heap.size < w7.heap.size := by have := hg.size; simp [go_sem] at this; omega
            have HP7 := HPa.out.go hg
            have HS := hid (⟨HP7.m_, qN0, qN1, HP7, hz7, hM⟩ : FS ⟨w00, w⟩ B0 p s r n f w.heap.size (w.heap.size + 1) w2.heap.size 0 (i + 1) c pre (preT ns pf) w6.heap.size a b w7)
            clear HPa hg HP7 qM qN0 qN1 hz7
            go_wp2_with fail
            have hab1 : a + b ≤ 1048576 := by omega
            have HIN := hid hin
            have HAS := hid has
            clear hin has
            have hR : w.heap.size + 1 < w2.heap.size := by have := HS.out.2.2.2.ps.ord; omega
            generalize w.heap.size + 1 = R0 at *
            have s0 : ∀ w' : World, FQ ⟨w00, w⟩ B0 p s r n f w.heap.size R0 w2.heap.size 0 (i + 1) c pre (preT ns pf) w6.heap.size w' → w'.cell? ⟨R0, 0, none⟩ = some (cellAt w' ⟨R0, 0, none⟩) := fun w' h => h.holds _ (by omega)
            have s1 : ∀ w' : World, FQ ⟨w00, w⟩ B0 p s r n f w.heap.size R0 w2.heap.size 0 (i + 1) c pre (preT ns pf) w6.heap.size w' → w'.cell? ⟨R0, 1, none⟩ = some (cellAt w' ⟨R0, 1, none⟩) := fun w' h => h.holds _ (by omega)
            have sz : ∀ (w' : World) (o : Nat), FQ ⟨w00, w⟩ B0 p s r n f w.heap.size R0 w2.heap.size 0 (i + 1) c pre (preT ns pf) w6.heap.size w' → w'.frozen? ⟨R0, o, none⟩ = false := fun w' o h => h.ps.zr o
            go_region_held3 (fun w' => w'.cell? ⟨w2.heap.size, 0, none⟩ = some (.int .i32 0) ∧ w'.cell? ⟨w6.heap.size, 0, none⟩ = some (.int .i32 a) ∧ w'.cell? ⟨w6.heap.size, 1, none⟩ = some (.int .i32 b) ∧ FQ ⟨w00, w⟩ B0 p s r n f w.heap.size R0 w2.heap.size 0 (i + 1) c pre (preT ns pf) w6.heap.size w')
              (first | with_reducible exact HS.out | with_reducible exact FS.call HS.out (Below.refl _ _).drew | with_reducible exact FS.call (by assumption) hb | with_reducible exact FS.put2 (by assumption) _ _)
              (first | (go_at_call 29; refine (end29 a b _ hab1).mono ?_; rintro e w8 ⟨rfl, hb⟩))
            rename_i hH
            have hw8 := (FS.call HS.out ((Below.refl _ _).drew.trans hb)).2.2.2
            obtain ⟨u0, y0⟩ := hw8.ps.r_ 0 (by omega)
            obtain ⟨u1, y1⟩ := hw8.ps.r_ 1 (by omega)
            obtain ⟨hc0, hc1, hc2, hc3, hc4, hc5, hc6, hc7⟩ := HC.out
            have HF := hid hH.2.2.2.ps
            have p0 := hc0 ▸ HF.out.at_ 0 (by omega)
            have p1 := hc1 ▸ HF.out.at_ 1 (by omega)
            have p2 := hc2 ▸ HF.out.at_ 2 (by omega)
            have p3 := hc3 ▸ HF.out.at_ 3 (by omega)
            have p4 := hc4 ▸ HF.out.at_ 4 (by omega)
            have p5 := hc5 ▸ HF.out.at_ 5 (by omega)
            have p6 := hc6 ▸ HF.out.at_ 6 (by omega)
            have p7 := hc7 ▸ HF.out.at_ 7 (by omega)
            have hwr : IntKind.i32.wrap ((a : Int) + (b : Int)) = (s.size : Int) := by
              have := HAS.out
              rw [show ((a : Int) + (b : Int)) = (s.size : Int) by omega]
              exact wrap_i32 (by omega)
            rw [hwr] at p0 p1 p2 p3 p4 p5 p6 p7 HF
            rw [hwr]
            have z0 : ((w8.setCell ⟨R0, 0, none⟩ (.int .i32 0)).setCell ⟨R0, 1, none⟩ (.int .i32 s.size)).cell? ⟨R0, 0, none⟩ = some (.int .i32 0) := by
              rw [World.cell?_setCell_other _ _ _ _ (by simp)]
              exact World.cell?_setCell_same _ _ _ y0
            have z1 : ((w8.setCell ⟨R0, 0, none⟩ (.int .i32 0)).setCell ⟨R0, 1, none⟩ (.int .i32 s.size)).cell? ⟨R0, 1, none⟩ = some (.int .i32 s.size) :=
              World.cell?_setCell_same _ _ _ (by rw [World.cell?_setCell_other _ _ _ _ (by simp)]; exact y1)
            clear hH hw8 HS s0 s1 sz hb y0 y1
            generalize (w8.setCell ⟨R0, 0, none⟩ (.int .i32 0)).setCell ⟨R0, 1, none⟩ (.int .i32 s.size) = wf at *
            go_wp2
            refine bodyPost_ret (v := .tuple #[.agg #[.string (opT op), .string (VO op v), .pointer (pre.map fun q => ⟨q, 0, none⟩), .string nm, .int .i32 x, .int .i32 y, .int .u8 k, .int .u8 (MO op md)], .agg #[.int .i32 0, .int .i32 s.size]]) (by simp [results, Tryf.results18, go_sem, p0, p1, p2, p3, p4, p5, p6, p7, z0, z1]) rfl ⟨pre, x, y, k, rfl, HIN.out ▸ HF.out.psr, HF.out.bl, hpre, ?_, fun b o hb hne => HF.out.kp b o hb hne, fun b o hb hne => HF.out.kf b o hb hne, by have := HF.out.ord; show w.heap.size ≤ wf.heap.size; omega⟩
            intro q hq
            obtain ⟨a1, a2, a3⟩ := HF.out.pre_ q hq
            exact ⟨by omega, a2, a3⟩
end Go.Proofs.YtggfffdbohmpnaaFmt
