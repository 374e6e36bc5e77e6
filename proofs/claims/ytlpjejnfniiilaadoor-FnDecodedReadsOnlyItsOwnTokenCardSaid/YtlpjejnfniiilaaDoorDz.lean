/-
  The decoded text of a token (DecodedText), the parser's decoded, the law's helpers. Conditions: utf8's two tables are laid; sizes at most 1 MiB.
-/
import Derived.Test.YtlpjejnfniiilaaDoorDy
import Derived.Test.YtlpjejnfniiilaaDoorDa
namespace Go.Proofs.YtlpjejnfniiilaaDoor
set_option linter.unusedVariables false
open Go.ChangeShapes Go.WideShapes Go.ChangeAt Go.RowKit Go.Lib

/-- R is the decoded text of a token of kind K whose raw text is raw -/
def DecT (K : Int) (raw R : ByteArray) : Prop := if K = 29 then Dec raw R else if K = 27 then Dec (raw.extract 0 (raw.size - 1)) R else R = raw
theorem DecT.one {K : Int} {raw R R' : ByteArray} (h : DecT K raw R) (k : DecT K raw R') : R = R' := by
  unfold DecT at h k
  split at h
  · rename_i e
    rw [if_pos e] at k
    exact h.one k
  · rename_i e
    rw [if_neg e] at k
    split at h
    · rename_i e2
      rw [if_pos e2] at k
      exact h.one k
    · rename_i e2
      rw [if_neg e2] at k
      rw [h, k]

abbrev TX (N B : Nat) (a b : Nat) (K : Int) (w0 w' : World) : Prop :=
  w'.cell? ⟨N, 0, none⟩ = some (.int .i32 a) ∧ w'.cell? ⟨N, 1, none⟩ = some (.int .i32 b) ∧ w'.cell? ⟨N, 3, none⟩ = some (.int .u8 K) ∧ Gr B N w0 w'
theorem TX.call {N B : Nat} {a b : Nat} {K : Int} {w0 w w' : World} (hB : B ≤ N) (h : TX N B a b K w0 w) (hb : Below w.heap.size w w') : TX N B a b K w0 w' := by
  obtain ⟨h1, h2, h3, h4⟩ := h
  have hs := h4.size
  have hz := hb.size
  refine ⟨?_, ?_, ?_, ⟨by omega, h4.below.trans (hb.mono (by omega))⟩⟩
  · rw [hb.cell (p := ⟨N, 0, none⟩) hs]; exact h1
  · rw [hb.cell (p := ⟨N, 1, none⟩) hs]; exact h2
  · rw [hb.cell (p := ⟨N, 3, none⟩) hs]; exact h3

set_option maxRecDepth 20000 in
set_option maxHeartbeats 2000000 in
theorem text26 (s raw : ByteArray) (a b : Nat) (K : Int) (w : World) (hT : Utf8Tabs 1 2 w) (hs : s.size ≤ 1048576) (hab : a + b ≤ s.size) (hraw : s.extract a (a + b) = raw) (hK : K = 29 ∨ K = 38 ∨ (K = 27 ∧ 1 ≤ b) ∨ K = 0) :
    Calls Tryd.prog 26 #[.agg #[.int .i32 a, .int .i32 b, .int .u16 0, .int .u8 K, .int .u8 0], .string s] w fun e w' => (∃ R, e = .returned (.string R) ∧ DecT K raw R) ∧ Below w.heap.size w w' := by
  have hrs : raw.size = b := by rw [← hraw]; simp; omega
  have hrle : raw.size ≤ 1048576 := by omega
  have HRS : Hid (raw.size = b) := Go.Lib.hid hrs
  have fr : s.extract a ((a : Int) + (b : Int)).toNat = raw := by rw [← hraw]; congr 1
  have HFR := Go.Lib.hid fr
  clear hrs hraw fr
  have HT := Go.Lib.hid hT
  have HK := Go.Lib.hid hK
  clear hT hK
  have g0 : (0 : Int) ≤ (a : Int) := by omega
  have g1 : (a : Int) ≤ (a : Int) + (b : Int) := by omega
  have g2 : (a : Int) + (b : Int) ≤ (s.size : Int) := by omega
  go_enter Tryd.func26, Tryd.ntmps26
  go_wp2_with fail
  have hst : TX w.heap.size w.heap.size a b K w (w.alloc (.cells #[.int .i32 a, .int .i32 b, .int .u16 0, .int .u8 K, .int .u8 0] 60)).drew := by
    refine ⟨by simp [go_sem], by simp [go_sem], by simp [go_sem], ⟨by simp [go_sem], ((Below.refl _ _).alloc (Nat.le_refl _) _).drew⟩⟩
  have HS := Go.Lib.hid hst
  clear hst
  go_region_held3 (fun w' => w'.cell? ⟨w.heap.size, 0, none⟩ = some (.int .i32 a) ∧ w'.cell? ⟨w.heap.size, 1, none⟩ = some (.int .i32 b) ∧ w'.cell? ⟨w.heap.size, 3, none⟩ = some (.int .u8 K) ∧ Gr w.heap.size w.heap.size w w')
    (first | with_reducible exact HS.out | with_reducible exact TX.call (Nat.le_refl _) (by assumption) hb)
    (first | (go_at_call 29; refine (end29 a b _ (by omega)).mono ?_; rintro e w1 ⟨rfl, hb⟩))
  rename_i hH
  obtain ⟨q0, q1, q3, hG⟩ := hH
  have HG := Go.Lib.hid hG.below
  have HU := Go.Lib.hid (Utf8Tabs_below HT.out hG.below)
  have hwl := hG.size
  rw [HFR.out]
  clear hG q0 q1 HS hb HFR
  have fin : ∀ (K : Int) (text R : ByteArray) (w2 : World), Dec text R → Below w1.heap.size w1 w2 → DecT K raw R → (∃ R', Ending.returned (.string R) = .returned (.string R') ∧ DecT K raw R') ∧ Below w.heap.size w w2 := fun K text R w2 h1 h2 h3 => ⟨⟨R, rfl, h3⟩, HG.out.trans (h2.mono (by omega))⟩
  have FIN := Go.Lib.hid fin
  clear fin
  rcases HK.out with rfl | rfl | ⟨rfl, hb1⟩ | rfl
  · go_wp2_with fail
    refine (esc30 raw w1 HU.out hrle).mono ?_
    rintro e w2 ⟨⟨R, rfl, hD⟩, hb2⟩
    have HF := Go.Lib.hid (FIN.out 29 _ R w2 hD hb2 hD)
    clear hD hb2
    go_wp2_with fail
    go_ret
    exact HF.out
  · go_wp2_with fail
    go_ret
    exact ⟨⟨raw, rfl, rfl⟩, HG.out⟩
  · have h1 : 1 ≤ raw.size := by rw [HRS.out]; exact hb1
    go_wp2_with fail
    refine (esc30 (raw.extract 0 (raw.size - 1)) w1 HU.out (by simp; omega)).mono ?_
    rintro e w2 ⟨⟨R, rfl, hD⟩, hb2⟩
    have HF := Go.Lib.hid (FIN.out 27 _ R w2 hD hb2 hD)
    clear hD hb2
    go_wp2_with fail
    go_ret
    exact HF.out
  · go_wp2_with fail
    go_ret
    exact ⟨⟨raw, rfl, rfl⟩, HG.out⟩

structure KP (p : Nat) (s : ByteArray) (r n : Nat) (f : Nat → Tk) (i : Nat) (w0 w : World) : Prop where
  psr : Psr w p s r n f i
  bl : Below w0.heap.size w0 w
  u : Utf8Tabs 1 2 w
abbrev DS (p : Nat) (s : ByteArray) (r n : Nat) (f : Nat → Tk) (i : Nat) (w0 w : World) : Prop := w.cell? ⟨p, 9, none⟩ = some (.string s) ∧ KP p s r n f i w0 w
theorem DS.call {p : Nat} {s : ByteArray} {r n : Nat} {f : Nat → Tk} {i : Nat} {w0 w w' : World} (h : DS p s r n f i w0 w) (hb : Below w.heap.size w w') : DS p s r n f i w0 w' := by
  obtain ⟨_, h1, h2, h3⟩ := h
  have hp := h1.call hb
  exact ⟨hp.c9, hp, h2.trans (hb.mono h2.size), Utf8Tabs_below h3 hb⟩

set_option maxRecDepth 20000 in
set_option maxHeartbeats 2000000 in
theorem dec22 (p : Nat) (s raw : ByteArray) (r n : Nat) (f : Nat → Tk) (i a b : Nat) (K : Int) (w : World) (h : Psr w p s r n f i) (hi : i ≤ n) (hT : Utf8Tabs 1 2 w) (ha : (cur s n f i).s = a) (hb0 : (cur s n f i).l = b) (hk0 : (cur s n f i).k = K) (hab : a + b ≤ s.size) (hraw : s.extract a (a + b) = raw) (hK : K = 29 ∨ K = 38 ∨ (K = 27 ∧ 1 ≤ b) ∨ K = 0) :
    Calls Tryd.prog 22 #[.pointer (some ⟨p, 0, none⟩)] w fun e w' => (∃ R, e = .returned (.string R) ∧ DecT K raw R) ∧ Below w.heap.size w w' := by
  obtain ⟨hs, hn⟩ := h.small
  have hlt := h.lt
  have q9 := h.c9
  have HS := Go.Lib.hid (⟨h.c9, h, Below.refl _ _, hT⟩ : DS p s r n f i w w)
  have HK := Go.Lib.hid hK
  have HR := Go.Lib.hid hraw
  have HT := Go.Lib.hid hT
  clear h hK hraw hT
  go_enter Tryd.func22, Tryd.ntmps22
  go_wp2_with fail
  go_region_held3 (fun w' => w'.cell? ⟨p, 9, none⟩ = some (.string s) ∧ KP p s r n f i w w')
    (first | with_reducible exact HS.out | with_reducible exact DS.call HS.out (Below.refl _ _).drew | with_reducible exact DS.call (show DS p s r n f i w _ by assumption) hb)
    (first | (go_at_call 25; refine (current25 p s r n f i _ (KP.psr (And.right (show DS p s r n f i w _ by assumption))) hi).mono ?_; rw [ha, hb0, hk0]; rintro e w1 ⟨rfl, hb⟩) | (go_at_call 26; refine (text26 s raw a b K _ (KP.u (And.right (show DS p s r n f i w _ by assumption))) hs hab HR.out HK.out).mono ?_; rintro e w1 ⟨⟨R, rfl, hD⟩, hb⟩))
  rename_i hH
  have HD := Go.Lib.hid hD
  have HB := Go.Lib.hid hH.2.bl
  clear hH hb hD
  go_wp2
  go_ret
  exact ⟨⟨R, rfl, HD.out⟩, HB.out⟩

theorem zdec19 (p : Nat) (s raw : ByteArray) (r n : Nat) (f : Nat → Tk) (i a b : Nat) (K : Int) (w : World) (h : Psr w p s r n f i) (hi : i ≤ n) (hT : Utf8Tabs 1 2 w) (ha : (cur s n f i).s = a) (hb0 : (cur s n f i).l = b) (hk0 : (cur s n f i).k = K) (hab : a + b ≤ s.size) (hraw : s.extract a (a + b) = raw) (hK : K = 29 ∨ K = 38 ∨ (K = 27 ∧ 1 ≤ b) ∨ K = 0) :
    Calls Tryd.prog 19 #[.pointer (some ⟨p, 0, none⟩)] w fun e w' => (∃ R, e = .returned (.string R) ∧ DecT K raw R) ∧ Below w.heap.size w w' := by
  have c22 := Go.Lib.hid (dec22 p s raw r n f i a b K w h hi hT ha hb0 hk0 hab hraw hK)
  clear h hT ha hb0 hk0 hraw hK
  go_enter Tryd.func19, Tryd.ntmps19
  go_wp2_with fail
  refine c22.out.mono ?_
  rintro e w2 ⟨⟨R, rfl, hD⟩, hb⟩
  have HD := Go.Lib.hid hD
  have HB := Go.Lib.hid hb
  clear hb hD
  go_wp2
  go_ret
  exact ⟨⟨R, rfl, HD.out⟩, HB.out⟩

/-- the copy of s in a block of its own: the first k bytes are laid -/
structure BF (w0 : World) (s : ByteArray) (k : Nat) (w : World) : Prop where
  size : w0.heap.size < w.heap.size
  below : Below w0.heap.size w0 w
  c : ∀ o, o < s.size → ∃ v, w.cell? ⟨w0.heap.size, o, none⟩ = some v
  t : ∀ i, i < k → ∀ h : i < s.size, w.cell? ⟨w0.heap.size, i, none⟩ = some (.int .u8 (s[i].toNat : Nat))
  z : ∀ o, w.frozen? ⟨w0.heap.size, o, none⟩ = false
theorem BF.holds {w0 w : World} {s : ByteArray} {k : Nat} (h : BF w0 s k w) (o : Nat) (ho : o < s.size) : w.cell? ⟨w0.heap.size, o, none⟩ = some (cellAt w ⟨w0.heap.size, o, none⟩) := by
  obtain ⟨v, hv⟩ := h.c o ho
  rw [cellAt, hv]; rfl
theorem BF.drew {w0 w : World} {s : ByteArray} {k : Nat} (h : BF w0 s k w) : BF w0 s k w.drew := ⟨h.size, h.below.drew, h.c, h.t, h.z⟩
theorem BF.next {w0 w : World} {s : ByteArray} {k : Nat} (h : BF w0 s k w) (hk : k < s.size) : BF w0 s (k + 1) (w.setCell ⟨w0.heap.size, k, none⟩ (.int .u8 (s[k].toNat : Nat))) := by
  refine ⟨by simpa [go_sem] using h.size, h.below.setCell (Nat.le_refl _) _, fun q hq => ?_, fun i hi hs => ?_, fun q => ?_⟩
  · by_cases e : q = k
    · subst e
      obtain ⟨u, hu⟩ := h.c q hq
      exact ⟨_, World.cell?_setCell_same _ _ _ hu⟩
    · rw [World.cell?_setCell_other _ _ _ _ (by simp <;> omega)]; exact h.c q hq
  · by_cases e : i = k
    · subst e
      obtain ⟨u, hu⟩ := h.c i hs
      exact World.cell?_setCell_same _ _ _ hu
    · rw [World.cell?_setCell_other _ _ _ _ (by simp <;> omega)]; exact h.t i (by omega) hs
  · rw [World.frozen?_setCell]; exact h.z q
theorem info5b : (Tryd.prog.info? 5).map (fun i => (i.zero, i.size, i.bytes)) = some (some (.int .u8 0), 1, 1) := by kernel_rfl
def bufOf (n : Nat) (w : World) : World := w.alloc (.cells (madeCells #[.int .u8 0] n) 5)
theorem make22b (n : Nat) (hn : n ≤ 1048576) (w : World) : (Instr.makeSlice 22 (.int .i64 n) (.int .i64 n)).run Tryd.prog w = .ok (.slice (some ⟨w.heap.size, 0, none⟩) n n) (bufOf n w) := by
  obtain ⟨i, hi, h0, h1, h2⟩ := info_parts info5b
  have := run_make (P := Tryd.prog) w 22 5 i _ Tryd.underlying22 hi h0 .i64 .i64 n n (by omega) (by omega) (by rw [h2]; omega) (by omega)
  rw [h1, Nat.mul_one] at this
  exact this
theorem BF.start (s : ByteArray) (w : World) : BF w s 0 (bufOf s.size w) := by
  refine ⟨by simp [bufOf, go_sem], (Below.refl _ _).alloc (Nat.le_refl _) _, fun o ho => ?_, fun i hi => by omega, fun o => by simp [bufOf, go_sem]⟩
  cases hc : (bufOf s.size w).cell? ⟨w.heap.size, o, none⟩ with
  | some v => exact ⟨v, rfl⟩
  | none =>
    exfalso
    rw [bufOf] at hc
    simp [go_sem, madeCells] at hc
    omega

theorem foldl_push : ∀ (ns : List Int) (r : ByteArray), (ns.foldl (fun r n => r.push (UInt8.ofNat n.toNat)) r).data.toList = r.data.toList ++ ns.map (fun n => UInt8.ofNat n.toNat)
  | [], r => by simp
  | n :: ns, r => by
    rw [List.foldl_cons, foldl_push ns]
    simp [ByteArray.push]
/-- the bytes of a row as a string -/
theorem run_str (w : World) (B n cap : Nat) (f : Nat → Int) (h : ∀ j, j < n → w.cell? ⟨B, j, none⟩ = some (.int .u8 (f j))) :
    ∃ t : ByteArray, (convert 22 9 (.slice (some ⟨B, 0, none⟩) n cap)).run Tryd.prog w = .ok (.string t) w ∧ t.size = n ∧ ∀ j (hj : j < t.size), t[j] = UInt8.ofNat (f j).toNat := by
  have hl := run_loadCells (P := Tryd.prog) w ⟨B, 0, none⟩ n (fun j => .int .u8 (f j)) (by intro j hj; cases j with | zero => simpa [Addr.add] using h 0 hj | succ j => simpa [Addr.add] using h (j + 1) hj)
  have e : (List.range n).map (fun j => Value.int .u8 (f j)) = ((List.range n).map f).map (Value.int .u8) := by simp [Function.comp_def]
  rw [e] at hl
  have hb := run_bytesToString w ⟨B, 0, none⟩ n cap _ hl
  have hd := foldl_push ((List.range n).map f) ByteArray.empty
  have hlen := congrArg List.length hd
  rw [Array.length_toList] at hlen
  refine ⟨_, (run_convert_bytes_string w 22 9 5 _ n cap Tryd.underlying22 Tryd.underlying5 Tryd.underlying9).trans hb, hlen.trans (by simp), ?_⟩
  intro j hj
  have this : ∀ (r : ByteArray) (l : List UInt8), r.data.toList = l → ∀ (hj : j < r.size) (hl : j < l.length), r[j] = l[j] := by
    intro r l e hj hl
    subst e
    rfl
  rw [this _ _ hd hj (Nat.lt_of_lt_of_eq hj hlen)]
  simp

set_option maxRecDepth 20000 in
set_option maxHeartbeats 2000000 in
theorem with16 (s : ByteArray) (pos : Nat) (c : Int) (w : World) (hs : s.size ≤ 1048576) (hp : pos < s.size) :
    Calls Tryd.prog 16 #[.string s, .int .i64 pos, .int .u8 c] w fun e w' => (∃ t : ByteArray, e = .returned (.string t) ∧ t.size = s.size ∧ ∀ j (hj : j < t.size) (hs : j < s.size), j ≠ pos → t[j] = s[j]) ∧ Below w.heap.size w w' := by
  have kM := make22b s.size hs
  have HA := Go.Lib.hid (BF.start s w)
  go_enter Tryd.func16, Tryd.ntmps16
  go_wp2_with fail
  go_loopw [8] (fun v wr => ∃ i : Nat, i ≤ s.size ∧ v = .int .i64 i ∧ BF w s i wr) (fun v _ => s.size - (intOf v).toNat)
  case atStart => exact ⟨0, by omega, rfl, HA.out⟩
  case round =>
    obtain ⟨i, hi, rfl, hB⟩ := hrel
    have HB := Go.Lib.hid hB
    clear HA
    by_cases hlt : i < s.size
    · have hc0 := hB.holds i hlt
      have hz := hB.z i
      have HN := Go.Lib.hid (hB.next hlt)
      clear hB
      go_wp2_with fail
      exact ⟨⟨i + 1, by omega, by go_num, HN.out⟩, by simp [intOf]; omega⟩
    · have e : i = s.size := by omega
      subst e
      have hc0 := hB.holds pos hp
      have hz := hB.z pos
      obtain ⟨t, ht, hts, htj⟩ := run_str (wr.setCell ⟨w.heap.size, pos, none⟩ (.int .u8 c)) w.heap.size s.size s.size (fun j => if j = pos then c else if h : j < s.size then (s[j].toNat : Int) else 0) (by
        intro j hj
        by_cases e : j = pos
        · subst e
          simp only [if_true]
          exact World.cell?_setCell_same _ _ _ hc0
        · rw [World.cell?_setCell_other _ _ _ _ (by simp <;> omega)]
          simp only [if_neg e, dif_pos hj]
          exact hB.t j hj hj)
      have HP : Hid (t.size = s.size ∧ ∀ j (hj : j < t.size) (hs : j < s.size), j ≠ pos → t[j] = s[j]) := Go.Lib.hid ⟨hts, by
        intro j hj hs' hne
        rw [htj j hj]
        simp only [if_neg hne, dif_pos hs']
        simp⟩
      have HBL := Go.Lib.hid (hB.below.setCell (Nat.le_refl _) (p := ⟨w.heap.size, pos, none⟩) (.int .u8 c))
      clear hB hts htj
      go_wp2_with fail
      go_ret
      exact ⟨⟨t, rfl, HP.out⟩, HBL.out⟩

theorem ext_same {s t : ByteArray} {a b : Nat} (hts : t.size = s.size) (h : ∀ j (hj : j < t.size) (hs : j < s.size), a ≤ j → j < a + b → t[j] = s[j]) : t.extract a (a + b) = s.extract a (a + b) := by
  have e : ∀ x : ByteArray, x = ⟨x.data⟩ := fun _ => rfl
  have hd : (t.extract a (a + b)).data = (s.extract a (a + b)).data := by
    rw [ByteArray.data_extract, ByteArray.data_extract]
    apply Array.ext
    · have h1 : t.data.size = s.data.size := hts
      simp only [Array.size_extract, h1]
    · intro i h1 h2
      have h1' := h1
      rw [Array.size_extract] at h1'
      simp only [Array.getElem_extract]
      have hts' : t.data.size = s.data.size := hts
      exact h (a + i) (by show a + i < t.data.size; omega) (by show a + i < s.data.size; omega) (by omega) (by omega)
  exact ByteArray.ext hd

set_option maxRecDepth 20000 in
set_option maxHeartbeats 2000000 in
theorem kind15 (a1 a3 : Option Addr) (n c1 c3 : Nat) (z1 z3 : List Int) (i : Nat) (w : World) (h1 : Row .u8 w a1 n z1) (h3 : Row .i32 w a3 n z3) :
    Calls Tryd.prog 15 #[.slice a1 n c1, .slice a3 n c3, .int .i64 i] w (SomeD (i < n → z1.getD i 0 = 29 ∨ z1.getD i 0 = 38 ∨ (z1.getD i 0 = 27 ∧ 1 ≤ z3.getD i 0)) w) := by
  go_enter Tryd.func15, Tryd.ntmps15
  by_cases hlt : i < n
  · obtain ⟨b1, o1, rfl, l1, q1⟩ := h1.cell (by omega)
    obtain ⟨b3, o3, rfl, l3, q3⟩ := h3.cell (by omega)
    have p1 := q1 i hlt
    have p3 := q3 i hlt
    clear q1 q3 h1 h3
    generalize z1.getD i 0 = K at *
    generalize z3.getD i 0 = L at *
    by_cases k1 : K = 29
    · subst k1
      go_wp2_with fail
      go_ret
      exact SomeD.yes 0 trivial
    · by_cases k2 : K = 38
      · subst k2
        go_wp2_with fail
        go_ret
        exact SomeD.yes 0 trivial
      · have e1 : (K == 29) = false := neb k1
        have e2 : (K == 38) = false := neb k2
        by_cases k3 : K = 27
        · subst k3
          by_cases hL : 1 ≤ L
          · go_wp2_with fail
            go_ret
            first | exact SomeD.yes 0 trivial | exact SomeD.no 0
          · go_wp2_with fail
            go_ret
            first | exact SomeD.yes 0 trivial | exact SomeD.no 0
        · have e3 : (K == 27) = false := neb k3
          go_wp2_with fail
          go_ret
          first | exact SomeD.yes 0 trivial | exact SomeD.no 0
  · clear h1 h3
    go_wp2
    go_ret
    first | exact SomeD.yes 0 trivial | exact SomeD.yes 0 fun h => absurd h hlt
end Go.Proofs.YtlpjejnfniiilaaDoor
