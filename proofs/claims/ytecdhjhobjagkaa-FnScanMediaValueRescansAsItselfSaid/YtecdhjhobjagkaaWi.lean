/-
  The contracts of the token list's making and the walk of the media-value law. Conditions: the shapes of the lists.
-/
import Derived.Test.YtecdhjhobjagkaaWh
namespace Go.Proofs.Ytecdhjhobjagkaa
open Go.ChangeShapes Go.WideShapes Go.ChangeAt Go.RowKit

/-- a slice of integers that came in: nil, or a row of 'cap' cells, the numbers 'zs' (the first 'len' its elements) -/
def IsRow (k : IntKind) (w : World) (a : Option Addr) (len cap : Nat) (zs : List Int) : Prop :=
  (a = none ∧ len = 0 ∧ cap = 0 ∧ zs = []) ∨
  ∃ x, a = some x ∧ len ≤ cap ∧ cap ≤ maxLen ∧ zs.length = cap ∧ (∀ i, i < zs.length → w.cell? (x.add i) = some (.int k (zs.getD i 0))) ∧ ∀ n ∈ zs, (Lit.int k n).wf = true

/-- the row as the walks read it -/
structure Row (k : IntKind) (w : World) (a : Option Addr) (n : Nat) (z : List Int) : Prop where
  cell : 0 < n → ∃ b off, a = some ⟨b, off, none⟩ ∧ b < w.heap.size ∧ ∀ i, i < n → w.cell? ⟨b, off + i, none⟩ = some (.int k (z.getD i 0))
  wf : ∀ i, i < n → (Lit.int k (z.getD i 0)).wf = true

theorem cell_lt {w : World} {a : Addr} {v : Value} (h : w.cell? a = some v) : a.block < w.heap.size ∧ a.spot = none := by
  unfold World.cell? at h
  cases hb : w.heap[a.block]? with
  | none => rw [hb] at h; cases h
  | some o =>
    have := (Array.getElem?_eq_some_iff.1 hb).1
    refine ⟨this, ?_⟩
    rw [hb] at h
    cases o with
    | cells c e f =>
      simp only at h
      cases hs : a.spot with
      | none => rfl
      | some x => rw [hs] at h; simp at h
    | _ => simp at h

theorem IsRow.row {k : IntKind} {w : World} {a : Option Addr} {n c : Nat} {z : List Int} (h : IsRow k w a n c z) : Row k w a n z ∧ n ≤ maxLen := by
  rcases h with ⟨rfl, rfl, rfl, rfl⟩ | ⟨x, rfl, hl, hm, hz, hc, hw⟩
  · exact ⟨⟨fun h => by omega, fun i h => by omega⟩, by simp [maxLen]⟩
  · refine ⟨⟨fun h => ?_, fun i hi => ?_⟩, by omega⟩
    · have h0 := hc 0 (by omega)
      obtain ⟨h1, h2⟩ := cell_lt h0
      obtain ⟨b, off, sp⟩ := x
      have h1' : b < w.heap.size := h1
      have h2' : sp = none := h2
      subst h2'
      refine ⟨b, off, rfl, h1', fun i hi => ?_⟩
      have q := hc i (by omega)
      by_cases e : i = 0
      · subst e; simpa [Addr.add] using q
      · simpa [Addr.add, e] using q
    · have : i < z.length := by omega
      rw [List.getD_eq_getElem?_getD, List.getElem?_eq_getElem this]
      exact hw _ (List.getElem_mem _)

theorem wf_u8 {x : Int} (h : (Lit.int .u8 x).wf = true) : 0 ≤ x ∧ x ≤ 255 := by
  have hm : IntKind.u8.min = 0 := by decide
  have hM : IntKind.u8.max = 255 := by decide
  simp only [Lit.wf, Bool.and_eq_true, decide_eq_true_eq] at h
  omega

/-- a row of n tokens under way in block Q -/
structure TkM (Q n k : Nat) (x : Nat → Tok) (w : World) : Prop where
  size : Q < w.heap.size
  c : ∀ o, o < n * 7 → ∃ v, w.cell? ⟨Q, o, none⟩ = some v
  t : ∀ i o, i < k → o < 7 → w.cell? ⟨Q, i * 7 + o, none⟩ = some ((x i).at o)
  z : ∀ o, w.frozen? ⟨Q, o, none⟩ = false

theorem TkM.put {Q n k : Nat} {x : Nat → Tok} {w : World} (h : TkM Q n k x w) (o : Nat) (v : Value) (ho : k * 7 ≤ o) : TkM Q n k x (w.setCell ⟨Q, o, none⟩ v) := by
  refine ⟨by simpa [go_sem] using h.size, fun q hq => ?_, fun i q hi hq => ?_, fun q => ?_⟩
  · by_cases e : q = o
    · subst e
      obtain ⟨u, hu⟩ := h.c q hq
      exact ⟨v, World.cell?_setCell_same _ _ _ hu⟩
    · rw [World.cell?_setCell_other _ _ _ _ (by simp <;> omega)]; exact h.c q hq
  · rw [World.cell?_setCell_other _ _ _ _ (by simp <;> omega)]; exact h.t i q hi hq
  · rw [World.frozen?_setCell]; exact h.z q

theorem TkM.next {Q n k : Nat} {x : Nat → Tok} {w : World} (h : TkM Q n k x w) (hk : k < n) :
    TkM Q n (k + 1) x ((put7 Q (k * 7) (.pointer none) (.string (x k).t) (.int .i32 0) (.int .u32 (x k).p) (.int .u16 0) (.int .u8 (x k).k) (.int .u8 (x k).ws) w).setCell ⟨Q, k * 7 + 2, none⟩ (.int .i32 (x k).s)) := by
  have h0 := h.put (k * 7) (.pointer none) (Nat.le_refl _)
  have h1 := h0.put (k * 7 + 1) (.string (x k).t) (by omega)
  have h2 := h1.put (k * 7 + 2) (.int .i32 0) (by omega)
  have h3 := h2.put (k * 7 + 3) (.int .u32 (x k).p) (by omega)
  have h4 := h3.put (k * 7 + 4) (.int .u16 0) (by omega)
  have h5 := h4.put (k * 7 + 5) (.int .u8 (x k).k) (by omega)
  have h6 := h5.put (k * 7 + 6) (.int .u8 (x k).ws) (by omega)
  have h7 := h6.put (k * 7 + 2) (.int .i32 (x k).s) (by omega)
  refine ⟨h7.size, h7.c, fun i o hi ho => ?_, h7.z⟩
  by_cases e : i = k
  · subst e
    have e7 : o = 0 ∨ o = 1 ∨ o = 2 ∨ o = 3 ∨ o = 4 ∨ o = 5 ∨ o = 6 := by omega
    rcases e7 with rfl | rfl | rfl | rfl | rfl | rfl | rfl
    · rw [World.cell?_setCell_other _ _ _ _ (by simp), World.cell?_setCell_other _ _ _ _ (by simp), World.cell?_setCell_other _ _ _ _ (by simp), World.cell?_setCell_other _ _ _ _ (by simp), World.cell?_setCell_other _ _ _ _ (by simp), World.cell?_setCell_other _ _ _ _ (by simp), World.cell?_setCell_other _ _ _ _ (by simp)]
      exact same_of (h.c _ (by omega))
    · rw [World.cell?_setCell_other _ _ _ _ (by simp), World.cell?_setCell_other _ _ _ _ (by simp), World.cell?_setCell_other _ _ _ _ (by simp), World.cell?_setCell_other _ _ _ _ (by simp), World.cell?_setCell_other _ _ _ _ (by simp), World.cell?_setCell_other _ _ _ _ (by simp)]
      exact same_of (h0.c _ (by omega))
    · exact same_of (h6.c _ (by omega))
    · rw [World.cell?_setCell_other _ _ _ _ (by simp), World.cell?_setCell_other _ _ _ _ (by simp), World.cell?_setCell_other _ _ _ _ (by simp), World.cell?_setCell_other _ _ _ _ (by simp)]
      exact same_of (h2.c _ (by omega))
    · rw [World.cell?_setCell_other _ _ _ _ (by simp), World.cell?_setCell_other _ _ _ _ (by simp), World.cell?_setCell_other _ _ _ _ (by simp)]
      exact same_of (h3.c _ (by omega))
    · rw [World.cell?_setCell_other _ _ _ _ (by simp), World.cell?_setCell_other _ _ _ _ (by simp)]
      exact same_of (h4.c _ (by omega))
    · rw [World.cell?_setCell_other _ _ _ _ (by simp)]
      exact same_of (h5.c _ (by omega))
  · exact h7.t i o (by omega) ho

theorem info42 : (Try.prog.info? 42).map (fun i => (i.zero, i.size, i.bytes)) = some (some (.agg #[.pointer none, .string ⟨#[]⟩, .int .i32 0, .int .u32 0, .int .u16 0, .int .u8 0, .int .u8 0]), 7, 40) := by kernel_rfl
theorem info42s : (Try.prog.info? 42).map (·.size) = some 7 := by kernel_rfl
def toksOf (n : Nat) (w : World) : World := w.alloc (.cells (madeCells #[.pointer none, .string ⟨#[]⟩, .int .i32 0, .int .u32 0, .int .u16 0, .int .u8 0, .int .u8 0] (n * 7)) 42)
theorem make45 (n : Nat) (hn : n ≤ 1048576) (w : World) : (Instr.makeSlice 45 (.int .i64 n) (.int .i64 n)).run Try.prog w = .ok (.slice (some ⟨w.heap.size, 0, none⟩) n n) (toksOf n w) := by
  obtain ⟨i, hi, h0, h1, h2⟩ := info_parts info42
  have := run_make (P := Try.prog) w 45 42 i _ Try.underlying45 hi h0 .i64 .i64 n n (by omega) (by omega) (by rw [h2]; omega) (by omega)
  rw [h1] at this
  exact this
theorem toksOf_start (n : Nat) (x : Nat → Tok) (w : World) : TkM w.heap.size n 0 x (toksOf n w) := by
  refine ⟨by simp [toksOf, go_sem], fun o ho => ?_, fun i o hi => by omega, fun o => by simp [toksOf, go_sem]⟩
  cases hc : (toksOf n w).cell? ⟨w.heap.size, o, none⟩ with
  | some v => exact ⟨v, rfl⟩
  | none =>
    exfalso
    rw [toksOf] at hc
    simp [go_sem, madeCells] at hc
    omega

def bx (z0 z1 : List Int) (l1 : Nat) (t : ByteArray) (i : Nat) : Tok := ⟨t, i, i, z0.getD i 0, if i < l1 then z1.getD i 0 else 0⟩
structure LoopN (w : World) (n l1 : Nat) (z0 z1 : List Int) (t : ByteArray) (i : Value) (wr : World) : Prop where
  ex : ∃ k : Nat, k ≤ n ∧ i = .int .i64 k ∧ TkM w.heap.size n k (bx z0 z1 l1 t) wr ∧ Below w.heap.size w wr

attribute [local go_sem] make45 in
set_option maxRecDepth 20000 in
set_option maxHeartbeats 4000000 in
theorem build19 (a0 a1 : Option Addr) (n l1 c0 c1 : Nat) (z0 z1 : List Int) (t : ByteArray) (w : World) (hn : n ≤ 65536) (hl : l1 ≤ 65536) (r0 : Row .u8 w a0 n z0) (r1 : Row .u8 w a1 l1 z1) :
    Calls Try.prog 19 #[.slice a0 n c0, .slice a1 l1 c1, .string t] w fun e w' => e = .returned (.slice (some ⟨w.heap.size, 0, none⟩) n n) ∧ Toks w.heap.size n (bx z0 z1 l1 t) w' ∧ Below w.heap.size w w' := by
  have hn' : n ≤ 1048576 := by omega
  have H0 := Lib.hid (⟨⟨0, by omega, rfl, toksOf_start n _ w, (Below.refl _ _).alloc (Nat.le_refl _) _⟩⟩ : LoopN w n l1 z0 z1 t (.int .i64 (0 : Nat)) (toksOf n w))
  have R0 := Lib.hid r0
  have R1 := Lib.hid r1
  clear r0 r1
  go_enter Try.func19, Try.ntmps19
  go_wp2_with fail
  go_loopw [8, 9] (fun i _ wr => LoopN w n l1 z0 z1 t i wr) (fun i _ _ => n - (intOf i).toNat)
  case atStart => exact H0.out
  case round =>
    obtain ⟨k, hk, rfl, hT, hB⟩ := hrel.ex
    clear hrel H0
    by_cases hlt : k < n
    · obtain ⟨b0, o0, rfl, l0, q0⟩ := R0.out.cell (by omega)
      have d0 : wr.cell? ⟨b0, o0 + k, none⟩ = some (.int .u8 (z0.getD k 0)) := by rw [hB.cell (p := ⟨b0, o0 + k, none⟩) l0]; exact q0 k hlt
      obtain ⟨v0, y0⟩ := hT.c (k * 7) (by omega)
      obtain ⟨v1, y1⟩ := hT.c (k * 7 + 1) (by omega)
      obtain ⟨v2, y2⟩ := hT.c (k * 7 + 2) (by omega)
      obtain ⟨v3, y3⟩ := hT.c (k * 7 + 3) (by omega)
      obtain ⟨v4, y4⟩ := hT.c (k * 7 + 4) (by omega)
      obtain ⟨v5, y5⟩ := hT.c (k * 7 + 5) (by omega)
      obtain ⟨v6, y6⟩ := hT.c (k * 7 + 6) (by omega)
      have zz := hT.z
      have hBN : ∀ (o0 o1 o2 o3 o4 o5 o6 o7 : Value), Below w.heap.size w ((put7 w.heap.size (k * 7) o0 o1 o2 o3 o4 o5 o6 wr).setCell ⟨w.heap.size, k * 7 + 2, none⟩ o7) :=
        fun o0 o1 o2 o3 o4 o5 o6 o7 => (((((((hB.setCell (Nat.le_refl _) _).setCell (Nat.le_refl _) _).setCell (Nat.le_refl _) _).setCell (Nat.le_refl _) _).setCell (Nat.le_refl _) _).setCell (Nat.le_refl _) _).setCell (Nat.le_refl _) _).setCell (Nat.le_refl _) _
      have HBN := Lib.hid hBN
      have hN := hT.next hlt
      by_cases hl1 : k < l1
      · obtain ⟨b1, o1, rfl, l2, q1⟩ := R1.out.cell (by omega)
        have d1 : wr.cell? ⟨b1, o1 + k, none⟩ = some (.int .u8 (z1.getD k 0)) := by rw [hB.cell (p := ⟨b1, o1 + k, none⟩) l2]; exact q1 k hl1
        have hx : bx z0 z1 l1 t k = ⟨t, k, k, z0.getD k 0, z1.getD k 0⟩ := by simp [bx, hl1]
        rw [hx] at hN
        have HN := Lib.hid hN
        clear hN hBN hB hT q0 q1 hx R0 R1
        generalize z0.getD k 0 = X0 at *
        generalize z1.getD k 0 = X1 at *
        go_wp2_with fail
        go_roundw
        case rel =>
          refine ⟨k + 1, by omega, by go_num, ?_, ?_⟩
          · with_reducible exact HN.out
          · with_reducible exact HBN.out _ _ _ _ _ _ _ _
        case measure => first | (simp [intOf]; done) | (simp [intOf]; omega)
      · have hx : bx z0 z1 l1 t k = ⟨t, k, k, z0.getD k 0, 0⟩ := by simp [bx, hl1]
        rw [hx] at hN
        have HN := Lib.hid hN
        clear hN hBN hB hT q0 hx R0 R1
        generalize z0.getD k 0 = X0 at *
        go_wp2_with fail
        go_roundw
        case rel =>
          refine ⟨k + 1, by omega, by go_num, ?_, ?_⟩
          · with_reducible exact HN.out
          · with_reducible exact HBN.out _ _ _ _ _ _ _ _
        case measure => first | (simp [intOf]; done) | (simp [intOf]; omega)
    · obtain rfl : k = n := by omega
      have HT := Lib.hid (⟨hT.size, hT.t, hT.z⟩ : Toks w.heap.size k (bx z0 z1 l1 t) wr)
      have HB := Lib.hid hB
      clear hT hB
      go_wp2_with fail
      go_ret
      exact ⟨rfl, HT.out, HB.out⟩

theorem bcell' {W w1 : World} (hb : Below W.heap.size W w1) : (∀ b o, b < W.heap.size → w1.cell? ⟨b, o, none⟩ = W.cell? ⟨b, o, none⟩) ∧ (∀ b o, b < W.heap.size → w1.frozen? ⟨b, o, none⟩ = W.frozen? ⟨b, o, none⟩) :=
  ⟨fun b o h => hb.cell (p := ⟨b, o, none⟩) h, fun b o h => hb.frozen (p := ⟨b, o, none⟩) h⟩
set_option maxRecDepth 20000 in
set_option maxHeartbeats 1000000 in
theorem same21 (x : Tok) (w : World) : Calls Try.prog 21 #[x.v, x.v] w fun e w' => e = .returned (.bool true) ∧ Below w.heap.size w w' := by
  have HB := Lib.hid (((Below.refl w.heap.size w).alloc (Nat.le_refl _) (.cells #[.pointer none, .string x.t, .int .i32 x.s, .int .u32 x.p, .int .u16 0, .int .u8 x.k, .int .u8 x.ws] 42)).alloc (by simp [go_sem]) (.cells #[.pointer none, .string x.t, .int .i32 x.s, .int .u32 x.p, .int .u16 0, .int .u8 x.k, .int .u8 x.ws] 42))
  simp only [Tok.v]
  go_enter Try.func21, Try.ntmps21
  go_wp2_with fail
  with_reducible refine (same23 x x _ rfl rfl rfl rfl).mono ?_
  rintro e w2 ⟨rfl, hb⟩
  have HB2 := Lib.hid (HB.out.trans (hb.mono HB.out.size))
  obtain ⟨hc, hf⟩ := bcell' hb
  clear hb
  go_wp2_with fail
  go_ret
  exact ⟨by first | rfl | simp, HB2.out⟩
end Go.Proofs.Ytecdhjhobjagkaa
