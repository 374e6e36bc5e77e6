/-
  The contract of includeUnitOf. Conditions: the library's tables as they are laid; the token's bounds.
-/
import Derived.Test.YtlpjejnfniiilaaDoorBc
namespace Go.Proofs.YtlpjejnfniiilaaDoor
open Go.ChangeShapes Go.WideShapes Go.ChangeAt Go.RowKit Go.Lib

theorem Inc.later {b : Nat} {x : Trk} {B : Nat} {w w1 w2 : World} {e : Ending} (hB : B ≤ w.heap.size) (h1 : Below w.heap.size w w1) (h : Inc b x B w1 e w2) : Inc b x B w e w2 := ⟨h.e, h.t, (h1.mono hB).trans h.b⟩

theorem toList_ne {x y : ByteArray} (h : ¬ x = y) : x.toList ≠ y.toList := fun e => h (by
  rw [Go.Lib.toList_data, Go.Lib.toList_data] at e
  cases x; cases y; simp only at e; congr; exact Array.toList_inj.1 e)
theorem Inc.keep {b : Nat} {x : Trk} {B n : Nat} {w w2 : World} (h : TrkAt b x w2) (hw : Below n w w2) (hn : B ≤ n) : Inc b x B w (.returned (.tuple #[])) w2 := ⟨rfl, h, hw.mono hn⟩
theorem Inc.keepA {b : Nat} {x : Trk} {B n : Nat} {w w2 : World} (h : TrkAt b x w2) (hw : Below n w w2) (hn : B ≤ n) (hm : n ≤ w2.heap.size) (v : Array Value) : Inc b x B w (.returned (.tuple #[])) (w2.alloc (.cells v 39)) :=
  ⟨rfl, h.below ((Below.refl _ _).alloc (Nat.le_refl _) _), (hw.alloc hm _).mono hn⟩
theorem Inc.mixA {b : Nat} {x : Trk} {B n : Nat} {w w2 : World} (h : TrkAt b x w2) (hw : Below n w w2) (hn : B ≤ n) (hm : n ≤ w2.heap.size) (hb : B ≤ b) (v : Array Value) : Inc b ⟨x.u, 2⟩ B w (.returned (.tuple #[])) ((w2.setCell ⟨b, 1, none⟩ (.int .u8 2)).alloc (.cells v 39)) :=
  ⟨rfl, (show TrkAt b ⟨x.u, 2⟩ (w2.setCell ⟨b, 1, none⟩ (.int .u8 2)) from h.status 2).below ((Below.refl _ _).alloc (Nat.le_refl _) _), (((hw.mono hn).setCell (p := ⟨b, 1, none⟩) hb _).alloc (by simp [go_sem]; omega) _)⟩
theorem Inc.oneA {b : Nat} {x : Trk} {B n : Nat} {w w2 : World} (h : TrkAt b x w2) (hw : Below n w w2) (hn : B ≤ n) (hm : n ≤ w2.heap.size) (hb : B ≤ b) (u : ByteArray) (v : Array Value) : Inc b ⟨u, 1⟩ B w (.returned (.tuple #[])) (((w2.setCell ⟨b, 1, none⟩ (.int .u8 1)).setCell ⟨b, 0, none⟩ (.string u)).alloc (.cells v 39)) :=
  ⟨rfl, ((show TrkAt b ⟨x.u, 1⟩ (w2.setCell ⟨b, 1, none⟩ (.int .u8 1)) from h.status 1).unit u).below ((Below.refl _ _).alloc (Nat.le_refl _) _), ((((hw.mono hn).setCell (p := ⟨b, 1, none⟩) hb _).setCell (p := ⟨b, 0, none⟩) hb _).alloc (by simp [go_sem]; omega) _)⟩

set_option maxRecDepth 20000 in
set_option maxHeartbeats 2000000 in
theorem inc20 (k : Int) (t : ByteArray) (o b : Nat) (x : Trk) (B : Nat) (w : World) (h : o ≤ t.size) (ht : t.size ≤ 1048576) (hT : Tabs w) (hx : TrkAt b x w) (hB : B ≤ b) (hs : x.s ≤ 2) :
    Calls Tryd.prog 20 #[.pointer (some ⟨b, 0, none⟩), tok k t o] w (Inc b (x.inc (clsOf k t o)) B w) := by
  have HX := Go.Lib.hid hx
  have HT := Go.Lib.hid hT
  have l := hx.lt
  have c0 := hx.u
  have c1 := hx.s
  have f0 := hx.f0
  have f1 := hx.f1
  have K0 : ∀ v : Array Value, Below w.heap.size w (w.alloc (.cells v 39)) := fun v => (Below.refl _ _).alloc (Nat.le_refl _) _
  have HK0 := Go.Lib.hid K0
  clear hx hT K0
  obtain ⟨xu, xs⟩ := x
  simp only at c0 c1 hs
  unfold tok
  by_cases k30 : k = 30
  · subst k30
    by_cases t0 : t.toList = [48]
    · have e : clsOf 30 t o = .keep := by simp [clsOf, t0]
      rw [e]
      go_enter Tryd.func20, Tryd.ntmps20
      go_wp2
      exact bodyPost_ret (v := .tuple #[]) (by simp [results, Tryd.results20, go_sem]) rfl (Inc.keepA HX.out (Below.refl w.heap.size w) (by omega) (by omega) _)
    · have e : clsOf 30 t o = .mix := by simp [clsOf, t0]
      rw [e]
      have te : (t.toList == [48]) = false := beq_eq_false_iff_ne.2 t0
      go_enter Tryd.func20, Tryd.ntmps20
      go_wp2
      exact bodyPost_ret (v := .tuple #[]) (by simp [results, Tryd.results20, go_sem]) rfl (Inc.mixA HX.out (Below.refl w.heap.size w) (by omega) (by omega) hB _)
  · by_cases k34 : k = 34
    · subst k34
      have e : clsOf 34 t o = .keep := by simp [clsOf]
      rw [e]
      go_enter Tryd.func20, Tryd.ntmps20
      go_wp2
      exact bodyPost_ret (v := .tuple #[]) (by simp [results, Tryd.results20, go_sem]) rfl (Inc.keepA HX.out (Below.refl w.heap.size w) (by omega) (by omega) _)
    · by_cases k26 : k = 26
      · subst k26
        have hb1 := HK0.out (cells7 26 t o)
        have hsafe := safe23 26 t o (w.alloc (.cells (cells7 26 t o) 39)) h ht (HT.out.below hb1)
        unfold tok cells7 at hsafe
        unfold cells7 at hb1
        have HB1 := Go.Lib.hid hb1
        clear hb1
        go_enter Tryd.func20, Tryd.ntmps20
        go_wp2_with fail
        refine hsafe.mono ?_
        rintro e w2 ⟨rfl, hb2⟩
        clear hsafe
        have hx2 := (HX.out.below HB1.out).below hb2
        have hB2 : Below w.heap.size w w2 := HB1.out.trans (hb2.mono (by simp [go_sem]))
        have hz := hb2.size
        have hq : ∀ i v, (cells7 26 t o)[i]? = some v → w2.cell? ⟨w.heap.size, i, none⟩ = some v := fun i v hv => by
          rw [hb2.cell (p := ⟨w.heap.size, i, none⟩) (by simp [go_sem])]
          simp only [cells7] at hv
          simp [go_sem, hv]
        have q0 := hq 0 _ rfl
        have q1 := hq 1 _ rfl
        have q2 := hq 2 _ rfl
        have q3 := hq 3 _ rfl
        have q4 := hq 4 _ rfl
        have q5 := hq 5 _ rfl
        have q6 := hq 6 _ rfl
        have l2 := hx2.lt
        have d0 := hx2.u
        have d1 := hx2.s
        have g0 := hx2.f0
        have g1 := hx2.f1
        simp only at d0 d1
        have ln : w.heap.size < w2.heap.size := by simp [go_sem] at hz; omega
        have HB2 := Go.Lib.hid hB2
        have HX2 := Go.Lib.hid hx2
        clear hx2 hB2 hz hq hb2 HB1 HK0 HT HX c0 c1 f0 f1
        have hun := unit24 26 t o w2 h ht
        unfold tok cells7 at hun
        have e : clsOf 26 t o = (if safeU (t.extract o t.size) then .keep else .unit (t.extract o t.size)) := by simp [clsOf]
        have HC := Go.Lib.hid e
        clear e
        generalize t.extract o t.size = U at *
        have HL := Go.Lib.hid (show B ≤ w.heap.size by omega)
        generalize w.heap.size = n at *
        cases hsf : safeU U with
        | true =>
          go_wp2_with fail
          exact bodyPost_ret (v := .tuple #[]) (by simp [results, Tryd.results20, go_sem]) rfl (by rw [HC.out, hsf]; exact Inc.keep HX2.out HB2.out HL.out)
        | false =>
          go_wp2_with fail
          refine hun.mono ?_
          rintro e w3 ⟨rfl, rfl⟩
          clear hun
          by_cases s0 : xs = 0
          · subst s0
            go_wp2_with fail
            exact bodyPost_ret (v := .tuple #[]) (by simp [results, Tryd.results20, go_sem]) rfl (by rw [HC.out, hsf]; exact Inc.oneA HX2.out HB2.out HL.out (by omega) hB _ _)
          · by_cases s1 : xs = 1
            · subst s1
              by_cases hu : xu = U
              · subst hu
                have hue : (xu.toList == xu.toList) = true := by simp
                go_wp2_with fail
                exact bodyPost_ret (v := .tuple #[]) (by simp [results, Tryd.results20, go_sem]) rfl (by rw [HC.out, hsf]; rw [show (Trk.mk xu 1).inc (if false = true then Cls.keep else .unit xu) = ⟨xu, 1⟩ by simp [Trk.inc]]; exact Inc.keepA HX2.out HB2.out HL.out (by omega) _)
              · have hue : (xu.toList == U.toList) = false := beq_eq_false_iff_ne.2 (toList_ne hu)
                go_wp2_with fail
                exact bodyPost_ret (v := .tuple #[]) (by simp [results, Tryd.results20, go_sem]) rfl (by rw [HC.out, hsf]; rw [show (Trk.mk xu 1).inc (if false = true then Cls.keep else .unit U) = ⟨xu, 2⟩ by simp [Trk.inc, hu]]; exact Inc.mixA HX2.out HB2.out HL.out (by omega) hB _)
            · go_wp2_with fail
              exact bodyPost_ret (v := .tuple #[]) (by simp [results, Tryd.results20, go_sem]) rfl (by rw [HC.out, hsf]; rw [show (Trk.mk xu xs).inc (if false = true then Cls.keep else .unit U) = ⟨xu, 2⟩ by simp [Trk.inc, s0, s1]]; exact Inc.mixA HX2.out HB2.out HL.out (by omega) hB _)
      · have e : clsOf k t o = .mix := by simp [clsOf, k30, k34, k26]
        rw [e]
        go_enter Tryd.func20, Tryd.ntmps20
        go_wp2
        exact bodyPost_ret (v := .tuple #[]) (by simp [results, Tryd.results20, go_sem]) rfl (Inc.mixA HX.out (Below.refl w.heap.size w) (by omega) (by omega) hB _)

/-- what the exported one answers -/
structure Out (x : Trk) (w : World) (e : Ending) (w' : World) : Prop where
  e : e = .returned (.tuple #[.string x.u, .int .u8 x.s])
  b : Below w.heap.size w w'

theorem inc_le {x : Trk} {c : Cls} (h : x.s ≤ 2) : (x.inc c).s ≤ 2 := by
  cases c <;> simp only [Trk.inc]
  · exact h
  · split
    · simp
    · split
      · exact h
      · simp
  · simp

set_option maxRecDepth 20000 in
set_option maxHeartbeats 2000000 in
theorem zinc11 (k : Int) (t : ByteArray) (o : Nat) (x : Trk) (w : World) (h : o ≤ t.size) (ht : t.size ≤ 1048576) (hT : Tabs w) (hs : x.s ≤ 2) :
    Calls Tryd.prog 11 #[.string x.u, .int .u8 x.s, tok k t o] w (Out (x.inc (clsOf k t o)) w) := by
  have HT := Go.Lib.hid hT
  clear hT
  have hb : ∀ v : Value, Below w.heap.size w ((w.alloc (.cells (cells7 k t o) 39)).alloc (.cells #[.string x.u, .int .u8 x.s] 54)) := fun _ => ((Below.refl _ _).alloc (Nat.le_refl _) _).alloc (by simp [go_sem]) _
  have hb := hb .nilIface
  have hinc := inc20 k t o (w.heap.size + 1) x w.heap.size ((w.alloc (.cells (cells7 k t o) 39)).alloc (.cells #[.string x.u, .int .u8 x.s] 54)) h ht (HT.out.below hb)
    ⟨by simp [go_sem], by simp [go_sem], by simp [go_sem], by simp [go_sem], by simp [go_sem]⟩ (by omega) hs
  have HB := Go.Lib.hid hb
  clear hb
  unfold tok cells7 at hinc
  have hle := inc_le (c := clsOf k t o) hs
  unfold tok
  generalize x.inc (clsOf k t o) = y at *
  obtain ⟨yu, ys⟩ := y
  obtain ⟨xu, xs⟩ := x
  simp only at hs hle hinc
  go_enter Tryd.func11, Tryd.ntmps11
  go_wp2_with fail
  refine hinc.mono ?_
  rintro e w2 ⟨rfl, hx, hb2⟩
  have c0 := hx.u
  have c1 := hx.s
  simp only at c0 c1
  have HF := Go.Lib.hid (HB.out.trans hb2)
  clear hx hb2 HB HT hinc
  go_wp2_with fail
  go_quiet (fail)
  go_wp2_with fail
  exact bodyPost_ret (v := .tuple #[.string yu, .int .u8 ys]) (by simp [results, Tryd.results11, go_sem]) rfl ⟨rfl, below_drewN HF.out _⟩
end Go.Proofs.YtlpjejnfniiilaaDoor
