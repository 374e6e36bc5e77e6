/-
  The parser over the script's tokens; what ZZparseAttributeSelector answers. Conditions: plain texts; sizes at most 1 MiB.
-/
import Derived.Test.YtggfffdbohmpnaaFmtKf
namespace Go.Proofs.YtggfffdbohmpnaaFmt
set_option linter.unusedVariables false
open Go.ChangeShapes Go.WideShapes Go.ChangeAt Go.RowKit Go.Lib

def tkT (T : TL) (i : Nat) : Tk := ⟨(((offs 0 T).getD i 0 : Nat) : Int), (((T.getD i (0, B [])).2.size : Nat) : Int), (T.getD i (0, B [])).1⟩
theorem kinds_at {T : TL} {i : Nat} (h : i < T.length) : (kindsV T)[i]? = some (.int .u8 (tkT T i).k) := by
  simp [kindsV, tkT, List.getD, h]
theorem lens_at {T : TL} {i : Nat} (h : i < T.length) : (lensV T)[i]? = some (.int .i32 (tkT T i).l) := by
  simp [lensV, tkT, List.getD, h]
theorem starts_at {T : TL} {i : Nat} (h : i < T.length) : (startsV T)[i]? = some (.int .i32 (tkT T i).s) := by
  have h2 : i < (offs 0 T).length := by rw [offs_len]; exact h
  simp [startsV, tkT, List.getD, h2]

/-- the tokens' facts: the suffix from any place on -/
theorem sfx_of (s : ByteArray) (n : Nat) (f : Nat → Tk) : ∀ (L P : TL) (i a : Nat), P.length = i → n = i + L.length → a = (cat P).size → s = cat (P ++ L) → (∀ j, j < n → f j = tkT (P ++ L) j) → Sfx s n f i a L
  | [], P, i, a, hi, hn, ha, hs, hf => ⟨by simpa using hn.symm, by rw [hs, ha]; simp⟩
  | (k, t) :: L, P, i, a, hi, hn, ha, hs, hf => by
    have hlt : i < n := by rw [hn]; simp
    have hcons : P ++ (k, t) :: L = (P ++ [(k, t)]) ++ L := by simp
    refine ⟨hlt, ?_, ?_⟩
    · have hfi := hf i hlt
      have hc : cur s n f i = f i := if_pos hlt
      have hget : (P ++ (k, t) :: L).getD i (0, B []) = (k, t) := by
        subst hi
        simp [List.getD]
      have hoff : (offs 0 (P ++ (k, t) :: L)).getD i 0 = a := by
        subst hi
        rw [ha, size_cat]
        have : ∀ (P : TL) (b : Nat) (x : Int × ByteArray) (L : TL), (offs b (P ++ x :: L)).getD P.length 0 = b + (P.map fun x => x.2.size).sum := by
          intro P
          induction P with
          | nil => intro b x L; simp [offs]
          | cons y P ih =>
            intro b x L
            simp only [List.cons_append, offs, List.length_cons, List.getD_cons_succ]
            rw [ih]
            simp only [List.map_cons, List.sum_cons]
            omega
        rw [this]
        omega
      have hst : (f i).s = a := by rw [hfi]; show (((offs 0 (P ++ (k, t) :: L)).getD i 0 : Nat) : Int) = a; rw [hoff]
      have hln : (f i).l = t.size := by rw [hfi]; show ((((P ++ (k, t) :: L).getD i (0, B [])).2.size : Nat) : Int) = t.size; rw [hget]
      have hkd : (f i).k = k := by rw [hfi]; show ((P ++ (k, t) :: L).getD i (0, B [])).1 = k; rw [hget]
      have hsz : s.size = a + t.size + (L.map fun x => x.2.size).sum := by
        rw [hs, ha, size_cat, size_cat]
        simp only [List.map_append, List.map_cons, List.sum_append, List.sum_cons]
        omega
      refine ⟨by rw [hc]; exact hst, by rw [hc]; exact hln, by rw [hc]; exact hkd, by omega, ?_⟩
      have happ : ∀ (L : TL) (x : ByteArray), ∃ y, L.foldl (fun s x => s ++ x.2) x = x ++ y := by
        intro L
        induction L with
        | nil => intro x; exact ⟨B [], by apply ByteArray.ext; simp [B]⟩
        | cons z L ih =>
          intro x
          obtain ⟨y, hy⟩ := ih (x ++ z.2)
          exact ⟨z.2 ++ y, by rw [List.foldl_cons, hy]; apply ByteArray.ext; simp⟩
      obtain ⟨y, hy⟩ := happ L (cat P ++ t)
      have hs2 : s = cat P ++ t ++ y := by
        rw [hs, ← hy]
        simp [cat]
      apply ByteArray.ext
      rw [ByteArray.data_extract, hs2, append_data, append_data, ha]
      apply Array.ext
      · rw [Array.size_extract, Array.size_append, Array.size_append]
        show min ((cat P).data.size + t.data.size) ((cat P).data.size + t.data.size + y.data.size) - (cat P).data.size = t.data.size
        omega
      · intro j h1 h2
        simp only [Array.getElem_extract]
        rw [Array.getElem_append_left (by rw [Array.size_append]; show (cat P).data.size + j < (cat P).data.size + t.data.size; omega), Array.getElem_append_right (by show (cat P).data.size ≤ (cat P).data.size + j; omega)]
        have e : (cat P).size + j - (cat P).data.size = j := by show (cat P).data.size + j - (cat P).data.size = j; omega
        simp only [e]
    · refine sfx_of s n f L (P ++ [(k, t)]) (i + 1) (a + t.size) (by simp [hi]) (by rw [hn, List.length_cons]; omega) (by rw [cat_add, ByteArray.size_append, ha]) (by rw [hs, hcons]) (fun j hj => by rw [hf j hj, hcons])

structure Lp8 (w0 : World) (T : TL) (v : Value) (w : World) : Prop where
  ex : ∃ i, i ≤ T.length ∧ v = .int .i64 (i : Nat) ∧ TkS w0 T.length i (tkT T) w
structure NP (s : ByteArray) (T : TL) (w : World) (e : Ending) (w' : World) : Prop where
  ex : ∃ p r, e = .returned (.pointer (some ⟨p, 0, none⟩)) ∧ Psr w' p s r T.length (tkT T) (0 : Nat) ∧ Below w.heap.size w w' ∧ w.heap.size ≤ p

attribute [local go_sem] make40 in
set_option maxRecDepth 20000 in
set_option maxHeartbeats 8000000 in
theorem new8 (s : ByteArray) (T : TL) (v1 v2 v3 : Value) (w : World) (hs : s.size ≤ 1048576) (hn : T.length ≤ 1000) (h1 : Rw w 0 v1 (kindsV T)) (h2 : Rw w 0 v2 (startsV T)) (h3 : Rw w 0 v3 (lensV T)) :
    Calls Tryf.prog 8 #[.string s, v1, v2, v3, .int .i64 0, .bool false, .int .u8 0, .bool false] w fun e w' => NP s T w e w' := by
  obtain ⟨g1, k1, rfl, _, b1, q1⟩ := h1.ex
  obtain ⟨g2, k2, rfl, _, b2, q2⟩ := h2.ex
  obtain ⟨g3, k3, rfl, _, b3, q3⟩ := h3.ex
  have n1 : (kindsV T).length = T.length := by simp [kindsV]
  have n2 : (startsV T).length = T.length := by simp [startsV, offs_len]
  have n3 : (lensV T).length = T.length := by simp [lensV]
  rw [n1, n2, n3]
  have HA := hid (toksOf_start T.length (tkT T) w)
  have Q1 := hid q1
  have Q2 := hid q2
  have Q3 := hid q3
  have hn2 : T.length ≤ 1048576 := by omega
  clear h1 h2 h3 q1 q2 q3 n1 n2 n3
  go_enter Tryf.func8, Tryf.ntmps8
  go_wp2_with fail
  go_loopw [19] (fun v wr => Lp8 w T v wr) (fun v _ => T.length - (intOf v).toNat)
  case atStart => exact ⟨0, by omega, rfl, HA.out⟩
  case round =>
    obtain ⟨i, hi, rfl, hI⟩ := hrel.ex
    clear HA hrel
    by_cases hlt : i < T.length
    · have c1 : wr.cell? ⟨g1, i, none⟩ = some (.int .u8 (tkT T i).k) := by rw [hI.below.cell (p := ⟨g1, i, none⟩) b1]; exact Q1.out i _ (kinds_at hlt)
      have c2 : wr.cell? ⟨g2, i, none⟩ = some (.int .i32 (tkT T i).s) := by rw [hI.below.cell (p := ⟨g2, i, none⟩) b2]; exact Q2.out i _ (starts_at hlt)
      have c3 : wr.cell? ⟨g3, i, none⟩ = some (.int .i32 (tkT T i).l) := by rw [hI.below.cell (p := ⟨g3, i, none⟩) b3]; exact Q3.out i _ (lens_at hlt)
      have s0 : wr.cell? ⟨w.heap.size, i * 5, none⟩ = some (cellAt wr ⟨w.heap.size, i * 5, none⟩) := hI.holds _ (by omega)
      have s1 : wr.cell? ⟨w.heap.size, i * 5 + 1, none⟩ = some (cellAt wr ⟨w.heap.size, i * 5 + 1, none⟩) := hI.holds _ (by omega)
      have s2 : wr.cell? ⟨w.heap.size, i * 5 + 2, none⟩ = some (cellAt wr ⟨w.heap.size, i * 5 + 2, none⟩) := hI.holds _ (by omega)
      have s3 : wr.cell? ⟨w.heap.size, i * 5 + 3, none⟩ = some (cellAt wr ⟨w.heap.size, i * 5 + 3, none⟩) := hI.holds _ (by omega)
      have s4 : wr.cell? ⟨w.heap.size, i * 5 + 4, none⟩ = some (cellAt wr ⟨w.heap.size, i * 5 + 4, none⟩) := hI.holds _ (by omega)
      have sz := hI.z
      have HN := hid ((hI.next hlt).call (Below.refl _ _).drew)
      generalize hf : tkT T = f at *
      clear hI
      go_wp2_with fail
      go_region
      clear s0 s1 s2 s3 s4 sz c1 c2 c3
      go_wp2_with fail
      exact ⟨⟨i + 1, by omega, by go_num, hf ▸ HN.out⟩, by simp [intOf]; omega⟩
    · obtain rfl : i = T.length := by omega
      have HI := hid hI
      clear hI
      go_wp2_with fail
      go_ret
      have h := HI.out
      have hsz := h.size
      refine ⟨wr.heap.size, w.heap.size, rfl, ⟨by simp [go_sem], by simp [go_sem]; omega, by omega, ⟨hs, hn2⟩, by simp [go_sem], by simp [go_sem], by simp [go_sem], by simp [go_sem], fun j o hj ho => ?_⟩, ?_, h.below.size⟩
      · rw [World.cell?_alloc_lt _ _ _ hsz]; exact h.t j o hj ho
      · exact h.below.alloc h.below.size _
/-- what ZZparseAttributeSelector answers -/
structure ZR (w00 wS : World) (B0 p : Nat) (s : ByteArray) (r n : Nat) (f : Nat → Tk) (hp : Bool) (pt nm op val : ByteArray) (md : Int) (e : Ending) (w' : World) : Prop where
  e_ : e = .returned (.tuple #[.bool hp, .string (if hp then pt else ⟨#[]⟩), .string nm, .string op, .string val, .int .u8 md, .int .i32 0, .int .i32 s.size])
  psr : Psr w' p s r n f (n : Nat)
  bl : Below B0 w00 w'
  kp : ∀ b o, b < wS.heap.size → b ≠ p → w'.cell? ⟨b, o, none⟩ = wS.cell? ⟨b, o, none⟩
  kf : ∀ b o, b < wS.heap.size → b ≠ p → w'.frozen? ⟨b, o, none⟩ = wS.frozen? ⟨b, o, none⟩
  sz : wS.heap.size ≤ w'.heap.size


set_option maxRecDepth 20000 in
set_option maxHeartbeats 8000000 in
theorem parse9 (w00 : World) (B0 p : Nat) (s : ByteArray) (r n : Nat) (f : Nat → Tk) (ns : Nat) (pf nm : ByteArray) (op : Nat) (ws q : Bool) (v : ByteArray) (md : UInt8) (w : World)
    (h : Psr w p s r n f (0 : Nat)) (hbl : Below B0 w00 w) (hB : B0 ≤ p) (hS : Sfx s n f 0 0 (allL ns pf nm op ws q v md)) (hns : ns ≤ 3) (hop : op ≤ 6)
    (hnm : Cln nm nm.size) (hpf : ns = 3 → Cln pf pf.size) (hv : op ≠ 0 → Cln v v.size) (hmd : md = 0 ∨ md = 105 ∨ md = 73 ∨ md = 115 ∨ md = 83) :
    Calls Tryf.prog 9 #[.pointer (some ⟨p, 0, none⟩)] w fun e w' => ZR w00 w B0 p s r n f (decide (2 ≤ ns)) (preT ns pf) nm (opT op) (VO op v) (MO op md) e w' := by
  have hC := hid (parse18 w00 B0 p s r n f ns pf nm op ws q v md w h hbl hB hS hns hop hnm hpf hv hmd)
  have hss := h.small
  generalize decide (2 ≤ ns) = hp at *
  generalize preT ns pf = pt at *
  generalize opT op = OT at *
  generalize VO op v = VV at *
  generalize MO op md = MD at *
  clear h hS hnm hpf hv hmd hbl
  go_enter Tryf.func9, Tryf.ntmps9
  go_wp2_with fail
  refine hC.out.mono ?_
  rintro e w1 ⟨pre, x, y, k, rfl, hP, hB1, hpre, hq, hkp, hkf, hsz⟩
  have HKP := hid hkp
  have HKF := hid hkf
  have HSZ := hid (show w.heap.size ≤ w1.heap.size from hsz)
  clear hkp hkf hsz
  have hlt := hP.lt
  have HP := hid hP
  have HB := hid hB1
  clear hC hP hB1
  cases pre with
  | none =>
    obtain rfl : hp = false := hpre.symm
    clear hq hpre
    go_wp2_with fail
    go_quiet (fail)
    go_wp2_with fail
    have hal : Below w1.heap.size w1 ((w1.alloc (.cells #[.string OT, .string VV, .pointer (none), .string nm, .int .i32 x, .int .i32 y, .int .u8 k, .int .u8 MD] 96)).alloc (.cells #[.int .i32 0, .int .i32 s.size] 44)) := ((Below.refl _ _).alloc (Nat.le_refl _) _).alloc (by simp [go_sem]) _
    refine bodyPost_ret (v := .tuple #[.bool false, .string ⟨#[]⟩, .string nm, .string OT, .string VV, .int .u8 MD, .int .i32 0, .int .i32 s.size]) (by simp [results, Tryf.results9, go_sem]) rfl ⟨rfl, HP.out.call (below_drewN hal _), HB.out.trans ((below_drewN hal _).mono (by omega)), fun b o hb hne => ((below_drewN hal _).cell (p := ⟨b, o, none⟩) (by have := HSZ.out; show b < w1.heap.size; omega)).trans (HKP.out b o hb hne), fun b o hb hne => ((below_drewN hal _).frozen (p := ⟨b, o, none⟩) (by have := HSZ.out; show b < w1.heap.size; omega)).trans (HKF.out b o hb hne), Nat.le_trans HSZ.out (below_drewN hal _).size⟩
  | some b =>
    obtain rfl : hp = true := hpre.symm
    obtain ⟨a1, a2, a3⟩ := hq b rfl
    clear hq hpre
    go_wp2_with fail
    go_quiet (fail)
    go_wp2_with fail
    have hal : Below w1.heap.size w1 ((w1.alloc (.cells #[.string OT, .string VV, .pointer (some ⟨b, 0, none⟩), .string nm, .int .i32 x, .int .i32 y, .int .u8 k, .int .u8 MD] 96)).alloc (.cells #[.int .i32 0, .int .i32 s.size] 44)) := ((Below.refl _ _).alloc (Nat.le_refl _) _).alloc (by simp [go_sem]) _
    refine bodyPost_ret (v := .tuple #[.bool true, .string pt, .string nm, .string OT, .string VV, .int .u8 MD, .int .i32 0, .int .i32 s.size]) (by simp [results, Tryf.results9, go_sem]) rfl ⟨rfl, HP.out.call (below_drewN hal _), HB.out.trans ((below_drewN hal _).mono (by omega)), fun b o hb hne => ((below_drewN hal _).cell (p := ⟨b, o, none⟩) (by have := HSZ.out; show b < w1.heap.size; omega)).trans (HKP.out b o hb hne), fun b o hb hne => ((below_drewN hal _).frozen (p := ⟨b, o, none⟩) (by have := HSZ.out; show b < w1.heap.size; omega)).trans (HKF.out b o hb hne), Nat.le_trans HSZ.out (below_drewN hal _).size⟩
end Go.Proofs.YtggfffdbohmpnaaFmt
