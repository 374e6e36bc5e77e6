/-
  decodeEscapesInToken: the string it returns is the decoded text of its argument. Conditions: utf8's two tables are laid; the argument holds at most 1 MiB.
-/
import Derived.Test.YtlpjejnfniiilaaDoorDx
import Derived.Deep.CutBlock
import Derived.Deep.DeepCutAuto
namespace Go.Proofs.YtlpjejnfniiilaaDoor
set_option linter.unusedVariables false
open Go.ChangeShapes Go.WideShapes Go.ChangeAt Go.RowKit Go.Lib

theorem wstr33 (B b : Nat) (bs : List Value) (s : ByteArray) (w : World) (h : IsBuilderF 110 5 B b bs w) (hlen : bs.length + s.size ≤ 140737488355328) (hBw : B ≤ w.heap.size) :
    Calls Tryd.prog 33 #[.pointer (some ⟨b, 0, none⟩), .string s] w fun e w' => e = .returned (.tuple #[.int .i64 s.size, .nilIface]) ∧ (BuilderAtF 110 5 B b (.pointer (some ⟨b, 0, none⟩)) (bs ++ strCells s) w' ∧ Below B w w' ∧ OthersKept 5 (some b) w w') :=
  Any.Builder_WriteString_k (ρ := Tryd.lays230_ren) { Tryd.lays230 with } Tryd.Builder_Extra_230 B b bs s w h hlen hBw
theorem wrune39 (B b : Nat) (bs : List Value) (r : Int) (hr0 : -2147483648 ≤ r) (hr1 : r ≤ 2147483647) (w : World) (h : IsBuilderF 110 5 B b bs w) (hlen : bs.length + 4 ≤ 140737488355328) (hBw : B ≤ w.heap.size) :
    Calls Tryd.prog 39 #[.pointer (some ⟨b, 0, none⟩), .int .i32 r] w fun e w' => e = .returned (.tuple #[.int .i64 (runeCells r).length, .nilIface]) ∧ (BuilderAtF 110 5 B b (.pointer (some ⟨b, 0, none⟩)) (bs ++ runeCells r) w' ∧ Below B w w' ∧ OthersKept 5 (some b) w w') :=
  Any.Builder_WriteRune_k (ρ := Tryd.lays230_ren) { Tryd.lays230 with } Tryd.Builder_Extra_230 B b bs r hr0 hr1 w h hlen hBw
theorem str35 (B b : Nat) (l : List UInt8) (w : World) (h : IsBuilderF 110 5 B b (byteCells l) w) (hBw : B ≤ w.heap.size) :
    Calls Tryd.prog 35 #[.pointer (some ⟨b, 0, none⟩)] w fun e w' => e = .returned (.string ⟨l.toArray⟩) ∧ (IsBuilderF 110 5 B b (byteCells l) w' ∧ Below B w w' ∧ OthersKept 5 (some b) w w') :=
  Any.Builder_String_any_k (ρ := Tryd.lays230_ren) { Tryd.lays230 with } Tryd.Builder_Extra_230 B b l w h hBw
theorem dec38 (s : ByteArray) (w : World) (hT : Utf8Tabs 1 2 w) :
    Calls Tryd.prog 38 #[.string s] w fun e w' => e = .returned (.tuple #[.int .i32 (decodeGo s).1, .int .i64 (decodeGo s).2]) ∧ Below w.heap.size w w' :=
  Any.utf8_DecodeRuneInString (ρ := Tryd.lays230_ren) { Tryd.lays230 with } s w hT

/-- the builder's block as it is made -/
def newB (w : World) : World := w.alloc (.cells #[.pointer none, .slice none 0 0] 110)

/-- a builder under way: block w.heap.size over the world w holds the bytes t -/
structure St (w : World) (t : List UInt8) (wr : World) : Prop where
  u : Utf8Tabs 1 2 w
  bl : Below w.heap.size w wr
  b : IsBuilderF 110 5 w.heap.size w.heap.size (byteCells t) wr
theorem St.bu {w wr : World} {t : List UInt8} (h : St w t wr) : Utf8Tabs 1 2 wr := Utf8Tabs_below h.u h.bl
theorem St.call {w wr w' : World} {t : List UInt8} (h : St w t wr) (hb : Below wr.heap.size wr w') : St w t w' :=
  ⟨h.u, h.bl.trans (hb.mono h.bl.size), isB_below h.b hb⟩
theorem St.start {w : World} (h : Utf8Tabs 1 2 w) : St w [] (newB w) := by
  refine ⟨h, (Below.refl _ _).alloc (Nat.le_refl _) _, .inl ⟨Nat.le_refl _, .slice none 0 0, by simp [newB, World.alloc, -World.alloc_eq], World.ownsRowF_nil _ _ _ _, by simp [Value.ownBlock]⟩⟩
theorem St.str {w wr : World} {t : List UInt8} (h : St w t wr) (s : ByteArray) (hl : t.length + s.size ≤ 140737488355328) :
    Calls Tryd.prog 33 #[.pointer (some ⟨w.heap.size, 0, none⟩), .string s] wr fun e w' => e = .returned (.tuple #[.int .i64 s.size, .nilIface]) ∧ St w (t ++ s.data.toList) w' := by
  refine (wstr33 w.heap.size w.heap.size (byteCells t) s wr h.b (by simpa [byteCells] using hl) h.bl.size).mono ?_
  rintro e w' ⟨rfl, hB, hb, hk⟩
  refine ⟨rfl, h.u, h.bl.trans hb, ?_⟩
  have e : byteCells (t ++ s.data.toList) = byteCells t ++ strCells s := by simp [byteCells, strCells]
  rw [e]
  exact .inr hB
theorem St.rune {w wr : World} {t : List UInt8} (h : St w t wr) (r : Nat) (hr : r ≤ 1114111) (hl : t.length ≤ 140737488355000) :
    Calls Tryd.prog 39 #[.pointer (some ⟨w.heap.size, 0, none⟩), .int .i32 r] wr fun e w' => e = .returned (.tuple #[.int .i64 (runeCells r).length, .nilIface]) ∧ St w (t ++ rb r) w' := by
  refine (wrune39 w.heap.size w.heap.size (byteCells t) r (by omega) (by omega) wr h.b (by simp [byteCells]; omega) h.bl.size).mono ?_
  rintro e w' ⟨rfl, hB, hb, hk⟩
  refine ⟨rfl, h.u, h.bl.trans hb, ?_⟩
  have e : byteCells (t ++ rb r) = byteCells t ++ runeCells r := by rw [← byteCells_encodeRune]; simp [byteCells, rb]
  rw [e]
  exact .inr hB
theorem St.done {w wr : World} {t : List UInt8} (h : St w t wr) :
    Calls Tryd.prog 35 #[.pointer (some ⟨w.heap.size, 0, none⟩)] wr fun e w' => e = .returned (.string ⟨t.toArray⟩) ∧ Below w.heap.size w w' := by
  refine (str35 w.heap.size w.heap.size t wr h.b h.bl.size).mono ?_
  rintro e w' ⟨rfl, _, hb, _⟩
  exact ⟨rfl, h.bl.trans hb⟩
theorem St.dec {w wr : World} {t : List UInt8} (h : St w t wr) (s : ByteArray) :
    Calls Tryd.prog 38 #[.string s] wr fun e w' => e = .returned (.tuple #[.int .i32 (decodeGo s).1, .int .i64 (decodeGo s).2]) ∧ St w t w' := by
  refine (dec38 s wr h.bu).mono ?_
  rintro e w' ⟨rfl, hb⟩
  exact ⟨rfl, h.call hb⟩

theorem rb_le (c : Nat) : (rb c).length ≤ 4 := by
  have := (runeCells_le (c : Int)).2
  rw [runeCells_length] at this
  exact this
theorem outF_nil (n : Nat) (r : ByteArray) (h : r.size = 0) : outF n r = [] := by
  cases n with
  | zero => rfl
  | succ n => rw [outF, if_pos h]
/-- the great loop: r is left, t is written -/
structure Esc (w : World) (ans : List UInt8) (v : Value) (wr : World) : Prop where
  ex : ∃ (r : ByteArray) (t : List UInt8) (n : Nat), v = .string r ∧ St w t wr ∧ r.size ≤ n ∧ n ≤ 1048576 ∧ t.length + 4 * n ≤ 8388608 ∧ t ++ outF n r = ans
theorem Esc.next {w wr : World} {ans t : List UInt8} {r r' : ByteArray} {n : Nat} {b : List UInt8} (hst : step r = (r', b)) (hr : 0 < r.size) (hn : r.size ≤ n) (hM : n ≤ 1048576) (hl : t.length + 4 * n ≤ 8388608) (hb : b.length ≤ 4) (ha : t ++ outF n r = ans) (h : St w (t ++ b) wr) : Esc w ans (.string r') wr := by
  obtain ⟨m, rfl⟩ : ∃ m, n = m + 1 := ⟨n - 1, by omega⟩
  have hs := step_size r hr
  rw [outF, if_neg (by omega), hst] at ha
  rw [hst] at hs
  exact ⟨r', t ++ b, m, rfl, h, by simp only at hs; omega, by omega, by simp; omega, by rw [List.append_assoc]; exact ha⟩
def strSize (v : Value) : Nat := match v with
  | .string s => s.size
  | _ => 0

/-- no backslash and no nul before place i -/
structure Cln (s : ByteArray) (i : Nat) : Prop where
  le : i ≤ s.size
  before : ∀ j, j < i → ∀ h : j < s.size, s[j].toNat ≠ 92 ∧ s[j].toNat ≠ 0
theorem Cln.next {s : ByteArray} {i : Nat} (h : Cln s i) (hi : i < s.size) (h1 : s[i].toNat ≠ 92) (h2 : s[i].toNat ≠ 0) : Cln s (i + 1) := by
  refine ⟨by omega, fun j hj hs => ?_⟩
  by_cases e : j = i
  · subst e; exact ⟨h1, h2⟩
  · exact h.before j (by omega) hs

theorem neb {a b : Int} (h : a ≠ b) : (a == b) = false := beq_eq_false_iff_ne.2 h

theorem step_plain {r : ByteArray} {c k : Nat} (h1 : (decodeGo r).1 = c) (h2 : (decodeGo r).2 = k) (hc : c ≠ 92) : step r = (tl r k, rb (if c = 0 then 65533 else c)) := by
  unfold step
  rw [h1, h2, if_neg hc]
theorem step_end {r : ByteArray} {k : Nat} (h1 : (decodeGo r).1 = 92) (h2 : (decodeGo r).2 = k) (h3 : (tl r k).size = 0) : step r = (tl r k, rb 65533) := by
  unfold step
  rw [h1, h2, if_pos rfl, if_pos h3]
theorem step_line {r r1 : ByteArray} {k c2 k2 : Nat} (h1 : (decodeGo r).1 = 92) (h2 : (decodeGo r).2 = k) (e1 : r1 = tl r k) (h3 : r1.size ≠ 0) (h4 : (decodeGo r1).1 = c2) (h5 : (decodeGo r1).2 = k2) (h6 : hexv c2 = none) (h7 : c2 = 10 ∨ c2 = 12) : step r = (tl r1 k2, []) := by
  subst e1
  unfold step
  rw [h1, h2, if_pos rfl, if_neg h3, h4, h5, h6]
  simp only [if_pos h7]
theorem step_cr {r r1 : ByteArray} {k k2 c3 k3 : Nat} (h1 : (decodeGo r).1 = 92) (h2 : (decodeGo r).2 = k) (e1 : r1 = tl r k) (h3 : r1.size ≠ 0) (h4 : (decodeGo r1).1 = 13) (h5 : (decodeGo r1).2 = k2) (h6 : (decodeGo (tl r1 k2)).1 = c3) (h7 : (decodeGo (tl r1 k2)).2 = k3) : step r = (if c3 = 10 then tl (tl r1 k2) k3 else tl r1 k2, []) := by
  subst e1
  unfold step
  rw [h1, h2, if_pos rfl, if_neg h3, h4, h5, h6, h7]
  have e : hexv 13 = none := by decide
  rw [e]
  simp only
  rw [if_neg (by omega)]
  simp only [if_true]
  split <;> rfl
theorem step_other {r r1 : ByteArray} {k c2 k2 : Nat} (h1 : (decodeGo r).1 = 92) (h2 : (decodeGo r).2 = k) (e1 : r1 = tl r k) (h3 : r1.size ≠ 0) (h4 : (decodeGo r1).1 = c2) (h5 : (decodeGo r1).2 = k2) (h6 : hexv c2 = none) (h7 : ¬ (c2 = 10 ∨ c2 = 12)) (h8 : c2 ≠ 13) : step r = (tl r1 k2, rb c2) := by
  subst e1
  unfold step
  rw [h1, h2, if_pos rfl, if_neg h3, h4, h5, h6]
  simp only [if_neg h7, if_neg h8]
theorem step_hex {r r1 r3 : ByteArray} {k c2 k2 h H : Nat} (h1 : (decodeGo r).1 = 92) (h2 : (decodeGo r).2 = k) (e1 : r1 = tl r k) (h3 : r1.size ≠ 0) (h4 : (decodeGo r1).1 = c2) (h5 : (decodeGo r1).2 = k2) (h6 : hexv c2 = some h) (h7 : hx 5 (tl r1 k2) h = (r3, H)) : step r = (esc r3, rb (if bad H then 65533 else H)) := by
  subst e1
  unfold step
  rw [h1, h2, if_pos rfl, if_neg h3, h4, h5, h6]
  simp only [h7]

theorem hx_empty (n : Nat) {r : ByteArray} (h : Nat) (e : r.size = 0) : hx n r h = (r, h) := by
  cases n with
  | zero => rfl
  | succ n => rw [hx, if_pos e]
theorem hx_none (n : Nat) {r : ByteArray} {c : Nat} (h : Nat) (hc : (decodeGo r).1 = c) (e : hexv c = none) : hx n r h = (r, h) := by
  cases n with
  | zero => rfl
  | succ n =>
    rw [hx, hc, e]
    simp only
    split <;> rfl
theorem hx_some (n : Nat) {r : ByteArray} {c k x : Nat} (h : Nat) (h0 : r.size ≠ 0) (hc : (decodeGo r).1 = c) (hk : (decodeGo r).2 = k) (e : hexv c = some x) : hx (n + 1) r h = hx n (tl r k) (h * 16 + x) := by
  rw [hx, if_neg h0, hc, hk, e]
structure HxI (w : World) (t : List UInt8) (r2 : ByteArray) (h0 : Nat) (v10 v0 v8 : Value) (wr : World) : Prop where
  ex : ∃ (j : Nat) (r' : ByteArray) (h' : Nat), j ≤ 5 ∧ v10 = .int .i64 j ∧ v0 = .string r' ∧ v8 = .int .i64 h' ∧ St w t wr ∧ hx (5 - j) r' h' = hx 5 r2 h0 ∧ h' < 16 ^ (j + 1) ∧ r'.size ≤ r2.size
structure HxE (w : World) (t : List UInt8) (r2 : ByteArray) (h0 : Nat) (v0 v8 : Value) (wr : World) : Prop where
  ex : ∃ (r3 : ByteArray) (H : Nat), hx 5 r2 h0 = (r3, H) ∧ H < 16777216 ∧ r3.size ≤ r2.size ∧ v0 = .string r3 ∧ v8 = .int .i64 H ∧ St w t wr
theorem esc_none {r : ByteArray} (h : r.size = 0) : esc r = r := by rw [esc, if_pos h]
theorem esc_ws {r : ByteArray} {c k : Nat} (h : r.size ≠ 0) (hc : (decodeGo r).1 = c) (hk : (decodeGo r).2 = k) (hw : ws c = true) : esc r = tl r k := by rw [esc, if_neg h, hc, hk, hw, if_pos rfl]
theorem esc_no {r : ByteArray} {c : Nat} (h : r.size ≠ 0) (hc : (decodeGo r).1 = c) (hw : ws c = false) : esc r = r := by
  rw [esc, if_neg h, hc, hw]
  rfl

set_option maxRecDepth 20000 in
set_option maxHeartbeats 16000000 in
theorem esc30 (s : ByteArray) (w : World) (hT : Utf8Tabs 1 2 w) (hs : s.size ≤ 1048576) :
    Calls Tryd.prog 30 #[.string s] w fun e w' => (∃ R, e = .returned (.string R) ∧ Dec s R) ∧ Below w.heap.size w w' := by
  have HT := Go.Lib.hid hT
  clear hT
  go_enter Tryd.func30, Tryd.ntmps30
  go_upto_block 0 with fail
  go_cut [3] (fun v wx => wx = w ∧ ∃ i, First s i ∧ v = .int .i64 (i : Nat))
  case first =>
    rename_i J KK hJ hKK
    go_wp2_with fail
    go_loopw [3] (fun v wr => wr = w ∧ ∃ i : Nat, Cln s i ∧ v = .int .i64 (i : Nat)) (fun v _ => s.size - (intOf v).toNat)
    case atStart => exact ⟨by first | rfl | trivial, 0, ⟨by omega, fun j hj => by omega⟩, rfl⟩
    case round =>
      obtain ⟨rfl, i, hC, rfl⟩ := hrel
      have hle := hC.le
      have HC := Go.Lib.hid hC
      clear hC
      by_cases hlt : i < s.size
      · go_wp2_with fail
        · refine Met.intro (hJ _ _ ?_)
          repeat apply Exists.intro
          refine ⟨⟨rfl, i, ⟨hle, HC.out.before, fun h => .inl (by omega)⟩, rfl⟩, rfl⟩
        · rename_i h1 h2
          simp at h1 h2
          refine Met.intro (hJ _ _ ?_)
          repeat apply Exists.intro
          refine ⟨⟨rfl, i, ⟨hle, HC.out.before, fun h => .inr (by omega)⟩, rfl⟩, rfl⟩
        · rename_i h1 h2
          simp at h1 h2
          exact ⟨⟨trivial, i + 1, HC.out.next hlt (by omega) (by omega), by simp⟩, by simp [intOf]; omega⟩
      · go_wp2_with fail
        refine Met.intro (hJ _ _ ?_)
        repeat apply Exists.intro
        refine ⟨⟨rfl, i, ⟨hle, HC.out.before, fun h => absurd h hlt⟩, rfl⟩, rfl⟩
  case rest =>
    obtain ⟨hwx, i, hF, rfl⟩ := ‹_ ∧ ∃ m : Nat, _›
    obtain rfl := hwx.symm
    have hle := hF.le
    by_cases he : i = s.size
    · subst he
      have HF := Go.Lib.hid hF
      clear hF
      go_wp2_with fail
      go_ret
      exact ⟨⟨s, rfl, s.size, HF.out, (if_pos rfl).symm⟩, Below.refl _ _⟩
    · have hb : ((i : Int) == (s.size : Int)) = false := by simp; omega
      have h33 := Go.Lib.hid ((St.start HT.out).str (s.extract 0 i) (by simp; omega))
      have HD := Go.Lib.hid (fun (t : List UInt8) (h : t = (s.extract 0 i).data.toList ++ outF s.size (tl s i)) => (⟨i, hF, by rw [if_neg he, h]⟩ : Dec s ⟨t.toArray⟩))
      clear hF
      go_wp2_with fail
      refine h33.out.mono ?_
      rintro e w2 ⟨rfl, hS⟩
      have HE : Hid (Esc w ((s.extract 0 i).data.toList ++ outF s.size (tl s i)) (.string (tl s i)) w2) := Go.Lib.hid ⟨tl s i, [] ++ (s.extract 0 i).data.toList, s.size, rfl, hS, by rw [tl_size]; omega, hs, by simp; omega, by simp⟩
      generalize (s.extract 0 i).data.toList ++ outF s.size (tl s i) = ans at HE HD
      clear h33 hS hb hcut hwx
      go_wp2_with fail
      go_loopw [0] (fun v wr => Esc w ans v wr) (fun v _ => strSize v)
      case atStart => exact HE.out
      case round =>
        obtain ⟨r, t, n, rfl, hS, hrn, hn, hl, ha⟩ := hrel.ex
        clear hrel HE
        have HS := Go.Lib.hid hS
        clear hS
        by_cases hr0 : r.size = 0
        · go_wp2_with fail
          refine HS.out.done.mono ?_
          rintro e w3 ⟨rfl, hb3⟩
          have HB := Go.Lib.hid hb3
          clear hb3
          go_wp2_with fail
          go_ret
          exact ⟨⟨_, rfl, HD.out t (by rw [← ha, outF_nil n r hr0, List.append_nil])⟩, HB.out⟩
        · have h38 := HS.out.dec r
          have hkle := dg_le r
          have hkp := dg_pos r (by omega)
          have hcle := dg_rune r
          obtain ⟨c, hc⟩ : ∃ c, (decodeGo r).1 = c := ⟨_, rfl⟩
          obtain ⟨k, hk⟩ : ∃ k, (decodeGo r).2 = k := ⟨_, rfl⟩
          rw [hc, hk] at h38
          rw [hk] at hkle hkp
          rw [hc] at hcle
          have H38 := Go.Lib.hid h38
          clear h38
          have HNX := Go.Lib.hid (fun (r' : ByteArray) (b : List UInt8) (wx : World) (hst : step r = (r', b)) (hb : b.length ≤ 4) (h : St w (t ++ b) wx) => (⟨Esc.next (w := w) (wr := wx) (ans := ans) hst (by omega) hrn hn hl hb ha h, by have := step_size r (by omega); rw [hst] at this; exact this⟩ : Esc w ans (.string r') wx ∧ r'.size < r.size))
          go_wp2_with fail
          refine H38.out.mono ?_
          rintro e w3 ⟨rfl, hS3⟩
          have HS3 := Go.Lib.hid hS3
          clear hS3 H38 HS
          by_cases hc92 : c = 92
          · subst hc92
            obtain ⟨r1, e1⟩ : ∃ r1, tl r k = r1 := ⟨_, rfl⟩
            have f1 : r.extract k r.size = r1 := e1
            have hr1 : r1.size ≤ r.size := by rw [← e1, tl_size]; omega
            by_cases h10 : r1.size = 0
            · go_wp2_with fail
              refine (HS3.out.rune 65533 (by omega) (by omega)).mono ?_
              rintro e w4 ⟨rfl, hS4⟩
              obtain ⟨hE, hM⟩ := HNX.out _ _ w4 (step_end hc hk (by rw [e1]; exact h10)) (rb_le _) hS4
              rw [e1] at hE hM
              have HE := Go.Lib.hid hE
              clear hE hS4
              go_wp2_with fail
              exact ⟨HE.out, hM⟩
            · have h38 := HS3.out.dec r1
              have hkle2 := dg_le r1
              have hcle2 := dg_rune r1
              obtain ⟨c2, hc2⟩ : ∃ c2, (decodeGo r1).1 = c2 := ⟨_, rfl⟩
              obtain ⟨k2, hk2⟩ : ∃ k2, (decodeGo r1).2 = k2 := ⟨_, rfl⟩
              rw [hc2, hk2] at h38
              rw [hk2] at hkle2
              rw [hc2] at hcle2
              have H38 := Go.Lib.hid h38
              clear h38
              have b1 : ((r1.size : Int) == 0) = false := neb (by omega)
              go_wp2_with fail
              refine H38.out.mono ?_
              rintro e w4 ⟨rfl, hS4⟩
              have HS4 := Go.Lib.hid hS4
              clear hS4 H38 HS3
              obtain ⟨r2, e2⟩ : ∃ r2, tl r1 k2 = r2 := ⟨_, rfl⟩
              have f2 : r1.extract k2 r1.size = r2 := e2
              have hr2 : r2.size ≤ r1.size := by rw [← e2, tl_size]; omega
              go_wp2_with fail
              refine (hex40 c2 _ hcle2).mono ?_
              rintro e w5 ⟨rfl, hw5⟩
              obtain rfl := hw5.symm
              cases hx0 : hexv c2 with
              | none =>
                by_cases h2a : c2 = 10 ∨ c2 = 12
                · obtain ⟨hE, hM⟩ := HNX.out _ _ w4 (step_line hc hk e1.symm h10 hc2 hk2 hx0 h2a) (by simp) (by rw [List.append_nil]; exact HS4.out)
                  rw [e2] at hE hM
                  have HE := Go.Lib.hid hE
                  clear hE
                  have b2 : ((c2 : Int) == 10 || (c2 : Int) == 12) = true := by rcases h2a with rfl | rfl <;> rfl
                  rcases h2a with rfl | rfl
                  · go_wp2_with fail
                    exact ⟨HE.out, hM⟩
                  · go_wp2_with fail
                    exact ⟨HE.out, hM⟩
                · have b2 : ((c2 : Int) == 10) = false := by simp; omega
                  have b3 : ((c2 : Int) == 12) = false := by simp; omega
                  by_cases h2b : c2 = 13
                  · subst h2b
                    have h38 := HS4.out.dec r2
                    have hkle3 := dg_le r2
                    have hcle3 := dg_rune r2
                    obtain ⟨c3, hc3⟩ : ∃ c3, (decodeGo r2).1 = c3 := ⟨_, rfl⟩
                    obtain ⟨k3, hk3⟩ : ∃ k3, (decodeGo r2).2 = k3 := ⟨_, rfl⟩
                    have hst := step_cr hc hk e1.symm h10 hc2 hk2 (c3 := c3) (k3 := k3) (by rw [e2]; exact hc3) (by rw [e2]; exact hk3)
                    rw [e2] at hst
                    rw [hc3, hk3] at h38
                    rw [hk3] at hkle3
                    rw [hc3] at hcle3
                    have H38 := Go.Lib.hid h38
                    clear h38
                    go_wp2_with fail
                    refine H38.out.mono ?_
                    rintro e w5 ⟨rfl, hS5⟩
                    have HS5 := Go.Lib.hid hS5
                    clear hS5 H38 HS4
                    by_cases h3 : c3 = 10
                    · subst h3
                      obtain ⟨hE, hM⟩ := HNX.out _ _ w5 hst (by simp) (by rw [List.append_nil]; exact HS5.out)
                      rw [if_pos rfl] at hE hM
                      have HE := Go.Lib.hid hE
                      clear hE
                      go_wp2_with fail
                      exact ⟨HE.out, hM⟩
                    · have b4 : ((c3 : Int) == 10) = false := by simp; omega
                      obtain ⟨hE, hM⟩ := HNX.out _ _ w5 hst (by simp) (by rw [List.append_nil]; exact HS5.out)
                      rw [if_neg h3] at hE hM
                      have HE := Go.Lib.hid hE
                      clear hE
                      go_wp2_with fail
                      exact ⟨HE.out, hM⟩
                  · have b4 : ((c2 : Int) == 13) = false := by simp; omega
                    have hst := step_other hc hk e1.symm h10 hc2 hk2 hx0 h2a h2b
                    rw [e2] at hst
                    go_wp2_with fail
                    refine (HS4.out.rune c2 (by omega) (by omega)).mono ?_
                    rintro e w5 ⟨rfl, hS5⟩
                    obtain ⟨hE, hM⟩ := HNX.out _ _ w5 hst (rb_le _) hS5
                    have HE := Go.Lib.hid hE
                    clear hE hS5
                    go_wp2_with fail
                    exact ⟨HE.out, hM⟩
              | some h0 =>
                have hh0 := hexv_le hx0
                go_upto_block 4 with fail
                have HX0 : Hid (HxI w t r2 h0 (.int .i64 0) (.string r2) (.int .i64 h0) w4) := Go.Lib.hid ⟨0, r2, h0, by omega, rfl, rfl, rfl, HS4.out, rfl, Nat.lt_of_le_of_lt hh0 (by decide), Nat.le_refl _⟩
                have HHX := Go.Lib.hid (fun (r3 : ByteArray) (H : Nat) (e : hx 5 r2 h0 = (r3, H)) => (step_hex hc hk e1.symm h10 hc2 hk2 hx0 (by rw [e2]; exact e) : step r = (esc r3, rb (if bad H then 65533 else H))))
                clear hw5 HS4
                go_cut [0, 8] (fun v0 v8 wx => HxE w t r2 h0 v0 v8 wx)
                case first =>
                  rename_i J KK hJ hKK
                  go_wp2_with fail
                  go_loopw [10, 0, 8] (fun v10 v0 v8 wr => HxI w t r2 h0 v10 v0 v8 wr) (fun v10 _ _ _ => 5 - (intOf v10).toNat)
                  case atStart => exact HX0.out
                  case round =>
                    obtain ⟨j, r', h', hj, rfl, rfl, rfl, hS, hx', hb', hle'⟩ := hrel.ex
                    have h16 : 16 ^ (j + 1) ≤ 16 ^ 6 := Nat.pow_le_pow_right (by omega) (by omega)
                    have hb2 : h' < 16777216 := Nat.lt_of_lt_of_le hb' h16
                    clear h16
                    have HS := Go.Lib.hid hS
                    have HW := Go.Lib.hid hx'
                    have HB := Go.Lib.hid hb'
                    clear hS hrel HX0 hx' hb'
                    by_cases hj5 : j = 5
                    · subst hj5
                      go_wp2_with fail
                      refine Met.intro (hJ _ _ ?_)
                      repeat apply Exists.intro
                      refine ⟨⟨r', h', HW.out.symm, hb2, hle', rfl, rfl, HS.out⟩, rfl⟩
                    · by_cases hr0' : r'.size = 0
                      · go_wp2_with fail
                        refine Met.intro (hJ _ _ ?_)
                        repeat apply Exists.intro
                        refine ⟨⟨r', h', by rw [← HW.out, hx_empty _ _ hr0'], hb2, hle', rfl, rfl, HS.out⟩, rfl⟩
                      · have h38 := HS.out.dec r'
                        have hkle3 := dg_le r'
                        have hcle3 := dg_rune r'
                        obtain ⟨c3, hc3⟩ : ∃ c3, (decodeGo r').1 = c3 := ⟨_, rfl⟩
                        obtain ⟨k3, hk3⟩ : ∃ k3, (decodeGo r').2 = k3 := ⟨_, rfl⟩
                        rw [hc3, hk3] at h38
                        rw [hk3] at hkle3
                        rw [hc3] at hcle3
                        have H38 := Go.Lib.hid h38
                        clear h38
                        go_wp2_with fail
                        refine H38.out.mono ?_
                        rintro e w5 ⟨rfl, hS5⟩
                        have HS5 := Go.Lib.hid hS5
                        clear hS5 H38 HS
                        go_wp2_with fail
                        refine (hex40 c3 _ hcle3).mono ?_
                        rintro e w6 ⟨rfl, hw6⟩
                        obtain rfl := hw6.symm
                        cases hx3 : hexv c3 with
                        | none =>
                          go_wp2_with fail
                          refine Met.intro (hJ _ _ ?_)
                          repeat apply Exists.intro
                          refine ⟨⟨r', h', by rw [← HW.out, hx_none _ _ hc3 hx3], hb2, hle', rfl, rfl, HS5.out⟩, rfl⟩
                        | some x =>
                          have hh3 := hexv_le hx3
                          obtain ⟨r4, e4⟩ : ∃ r4, tl r' k3 = r4 := ⟨_, rfl⟩
                          have f4 : r'.extract k3 r'.size = r4 := e4
                          have hr4 : r4.size ≤ r'.size := by rw [← e4, tl_size]; omega
                          have HN : Hid (HxI w t r2 h0 (.int .i64 ((j + 1 : Nat) : Int)) (.string r4) (.int .i64 ((h' * 16 + x : Nat) : Int)) w5) := by
                            refine Go.Lib.hid ⟨j + 1, r4, h' * 16 + x, by omega, rfl, rfl, rfl, HS5.out, ?_, ?_, by omega⟩
                            · rw [← HW.out, show 5 - j = (5 - (j + 1)) + 1 by omega, hx_some _ _ hr0' hc3 hk3 hx3, e4]
                            · have := HB.out
                              rw [Nat.pow_succ]
                              omega
                          go_wp2_with fail
                          exact ⟨by simpa using HN.out, by simp [intOf]; omega⟩
                case rest =>
                  have hE0 := ‹HxE w t r2 h0 _ _ _›
                  obtain ⟨r3, H, hxe, hH, hr3, rfl, rfl, hS⟩ := hE0.ex
                  have hst := HHX.out r3 H hxe
                  have HS := Go.Lib.hid hS
                  clear hS hE0 HX0 HHX
                  have HST := Go.Lib.hid hst
                  clear hst hcut
                  go_upto_if 126 with fail
                  go_cut [0] (fun v wx => St w t wx ∧ v = .string (esc r3))
                  case first =>
                    rename_i J KK hJ hKK
                    by_cases h30 : r3.size = 0
                    · go_wp2_with fail
                      refine Met.intro (hJ _ _ ?_)
                      repeat apply Exists.intro
                      refine ⟨⟨HS.out, by rw [esc_none h30]⟩, rfl⟩
                    · have h38 := HS.out.dec r3
                      have hkle3 := dg_le r3
                      have hcle3 := dg_rune r3
                      obtain ⟨c3, hc3⟩ : ∃ c3, (decodeGo r3).1 = c3 := ⟨_, rfl⟩
                      obtain ⟨k3, hk3⟩ : ∃ k3, (decodeGo r3).2 = k3 := ⟨_, rfl⟩
                      rw [hc3, hk3] at h38
                      rw [hk3] at hkle3
                      rw [hc3] at hcle3
                      have H38 := Go.Lib.hid h38
                      clear h38
                      go_wp2_with fail
                      refine H38.out.mono ?_
                      rintro e w5 ⟨rfl, hS5⟩
                      have HS5 := Go.Lib.hid hS5
                      clear hS5 H38 HS
                      go_wp2_with fail
                      refine (ws31 c3 _ hcle3).mono ?_
                      rintro e w6 ⟨rfl, hw6⟩
                      obtain rfl := hw6.symm
                      cases hw : ws c3 with
                      | true =>
                        go_wp2_with fail
                        refine Met.intro (hJ _ _ ?_)
                        repeat apply Exists.intro
                        refine ⟨⟨HS5.out, by rw [esc_ws h30 hc3 hk3 hw]; rfl⟩, rfl⟩
                      | false =>
                        go_wp2_with fail
                        refine Met.intro (hJ _ _ ?_)
                        repeat apply Exists.intro
                        refine ⟨⟨HS5.out, by rw [esc_no h30 hc3 hw]⟩, rfl⟩
                  case rest =>
                    obtain ⟨hS6, hv6⟩ := ‹St w t _ ∧ _›
                    subst hv6
                    have HS6 := Go.Lib.hid hS6
                    clear hS6 hcut HS
                    obtain ⟨r5, e5⟩ : ∃ r5, esc r3 = r5 := ⟨_, rfl⟩
                    rw [e5] at HST
                    rw [e5]
                    clear e5
                    by_cases g1 : H = 0
                    · have hbad : bad H = true := by simp [bad, g1]
                      subst g1
                      go_wp2_with fail
                      refine (HS6.out.rune 65533 (by omega) (by omega)).mono ?_
                      rintro e w7 ⟨rfl, hS7⟩
                      obtain ⟨hE, hM⟩ := HNX.out _ _ w7 HST.out (rb_le _) (by rw [if_pos hbad]; exact hS7)
                      have HE := Go.Lib.hid hE
                      clear hE hS7
                      go_wp2_with fail
                      exact ⟨HE.out, hM⟩
                    have b7 : ((H : Int) == 0) = false := neb (by omega)
                    by_cases g2 : 55296 ≤ H ∧ H ≤ 57343
                    · have hbad : bad H = true := by simp [bad, g2]
                      obtain ⟨g3, g4⟩ := g2
                      go_wp2_with fail
                      refine (HS6.out.rune 65533 (by omega) (by omega)).mono ?_
                      rintro e w7 ⟨rfl, hS7⟩
                      obtain ⟨hE, hM⟩ := HNX.out _ _ w7 HST.out (rb_le _) (by rw [if_pos hbad]; exact hS7)
                      have HE := Go.Lib.hid hE
                      clear hE hS7
                      go_wp2_with fail
                      exact ⟨HE.out, hM⟩
                    by_cases g5 : 1114111 < H
                    · have hbad : bad H = true := by simp [bad, g5]
                      go_wp2_with fail
                      refine (HS6.out.rune 65533 (by omega) (by omega)).mono ?_
                      rintro e w7 ⟨rfl, hS7⟩
                      obtain ⟨hE, hM⟩ := HNX.out _ _ w7 HST.out (rb_le _) (by rw [if_pos hbad]; exact hS7)
                      have HE := Go.Lib.hid hE
                      clear hE hS7
                      go_wp2_with fail
                      exact ⟨HE.out, hM⟩
                    have hbad : ¬ bad H = true := by simp [bad]; omega
                    have g6 : H < 55296 ∨ 57343 < H := by omega
                    clear g2
                    rcases g6 with g6 | g6
                    · go_wp2_with fail
                      refine (HS6.out.rune H (by omega) (by omega)).mono ?_
                      rintro e w7 ⟨rfl, hS7⟩
                      obtain ⟨hE, hM⟩ := HNX.out _ _ w7 HST.out (rb_le _) (by rw [if_neg hbad]; exact hS7)
                      have HE := Go.Lib.hid hE
                      clear hE hS7
                      go_wp2_with fail
                      exact ⟨HE.out, hM⟩
                    · go_wp2_with fail
                      refine (HS6.out.rune H (by omega) (by omega)).mono ?_
                      rintro e w7 ⟨rfl, hS7⟩
                      obtain ⟨hE, hM⟩ := HNX.out _ _ w7 HST.out (rb_le _) (by rw [if_neg hbad]; exact hS7)
                      have HE := Go.Lib.hid hE
                      clear hE hS7
                      go_wp2_with fail
                      exact ⟨HE.out, hM⟩
          · have b1 : ((c : Int) == 92) = false := by simp; omega
            by_cases hc0 : c = 0
            · subst hc0
              go_wp2_with fail
              refine (HS3.out.rune 65533 (by omega) (by omega)).mono ?_
              rintro e w4 ⟨rfl, hS4⟩
              obtain ⟨hE, hM⟩ := HNX.out _ _ w4 (step_plain hc hk hc92) (rb_le _) hS4
              have HE := Go.Lib.hid hE
              clear hE hS4
              go_wp2_with fail
              exact ⟨HE.out, hM⟩
            · have b2 : ((c : Int) == 0) = false := by simp; omega
              go_wp2_with fail
              refine (HS3.out.rune c (by omega) (by omega)).mono ?_
              rintro e w4 ⟨rfl, hS4⟩
              obtain ⟨hE, hM⟩ := HNX.out _ _ w4 (step_plain hc hk hc92) (rb_le _) (by rw [if_neg hc0]; exact hS4)
              have HE := Go.Lib.hid hE
              clear hE hS4
              go_wp2_with fail
              exact ⟨HE.out, hM⟩
end Go.Proofs.YtlpjejnfniiilaaDoor
