/-
  The contracts of the token's safe length, of includeUnitOf and of the exported one. Conditions: the library's tables as they are laid; the token's bounds.
-/
import Derived.Test.YtlpjejnfniiilaaDoorSh
import Derived.Test.YtlpjejnfniiilaaDoorLa
import Derived.Test.YtlpjejnfniiilaaDoorBb
namespace Go.Proofs.YtlpjejnfniiilaaDoor
open Go.ChangeShapes Go.WideShapes Go.ChangeAt Go.RowKit Go.Lib

/-- the library's tables -/
structure Tabs (w : World) : Prop where
  c : CaseVar 0 Lib.caseA w
  u : Lib.Utf8Tabs 1 2 w
theorem Tabs.below {w w' : World} (h : Tabs w) (hb : Below w.heap.size w w') : Tabs w' := ⟨CaseVar_below h.c hb, Utf8Tabs_below h.u hb⟩

def low (u : ByteArray) : ByteArray := ⟨(Lib.toLowerD u.data.toList).toArray⟩
/-- a unit that is a safe length -/
def safeU (u : ByteArray) : Bool := (low u).toList == [99, 109] || (low u).toList == [101, 109] || (low u).toList == [105, 110] || (low u).toList == [109, 109] || (low u).toList == [112, 99] || (low u).toList == [112, 116] || (low u).toList == [112, 120]

set_option maxRecDepth 20000 in
set_option maxHeartbeats 2000000 in
theorem safe23 (k : Int) (t : ByteArray) (o : Nat) (w : World) (h : o ≤ t.size) (ht : t.size ≤ 1048576) (hT : Tabs w) :
    Calls Tryd.prog 23 #[tok k t o] w fun e w' => e = .returned (.bool (safeU (t.extract o t.size))) ∧ Below w.heap.size w w' := by
  have hu := unit24 k t o (w.alloc (.cells (cells7 k t o) 39)) h ht
  have hB : Below w.heap.size w ((w.alloc (.cells (cells7 k t o) 39)).alloc (.cells (cells7 k t o) 39)) := ((Below.refl _ _).alloc (Nat.le_refl _) _).alloc (by simp [go_sem]) _
  have hT2 : Tabs ((w.alloc (.cells (cells7 k t o) 39)).alloc (.cells (cells7 k t o) 39)) := hT.below hB
  have hsz : (t.extract o t.size).size < 35184372088832 := by simp; omega
  unfold tok cells7 at hu
  unfold cells7 at hB hT2
  unfold tok
  generalize t.extract o t.size = U at *
  clear hT
  have HB := Go.Lib.hid hB
  have HL := Go.Lib.hid (Tryd.strings_ToLower_any U _ hsz hT2.c hT2.u)
  clear hB hT2
  unfold safeU low
  generalize (⟨(Lib.toLowerD U.data.toList).toArray⟩ : ByteArray) = L at *
  go_enter Tryd.func23, Tryd.ntmps23
  go_wp2_with fail
  refine hu.mono ?_
  rintro e w1 ⟨rfl, rfl⟩
  go_wp2_with fail
  refine HL.out.mono ?_
  rintro e w2 ⟨rfl, hb2⟩
  have HF := Go.Lib.hid (HB.out.trans (hb2.mono (by simp [go_sem]; omega)))
  clear HB HL hb2 hu
  by_cases g1 : L.toList = [99, 109]
  · go_wp2_with fail
    exact bodyPost_ret (v := .bool true) (by simp [results, Tryd.results23, go_sem]) rfl ⟨by simp [g1], HF.out⟩
  by_cases g2 : L.toList = [101, 109]
  · go_wp2_with fail
    exact bodyPost_ret (v := .bool true) (by simp [results, Tryd.results23, go_sem]) rfl ⟨by simp [g2], HF.out⟩
  by_cases g3 : L.toList = [105, 110]
  · go_wp2_with fail
    exact bodyPost_ret (v := .bool true) (by simp [results, Tryd.results23, go_sem]) rfl ⟨by simp [g3], HF.out⟩
  by_cases g4 : L.toList = [109, 109]
  · go_wp2_with fail
    exact bodyPost_ret (v := .bool true) (by simp [results, Tryd.results23, go_sem]) rfl ⟨by simp [g4], HF.out⟩
  by_cases g5 : L.toList = [112, 99]
  · go_wp2_with fail
    exact bodyPost_ret (v := .bool true) (by simp [results, Tryd.results23, go_sem]) rfl ⟨by simp [g5], HF.out⟩
  by_cases g6 : L.toList = [112, 116]
  · go_wp2_with fail
    exact bodyPost_ret (v := .bool true) (by simp [results, Tryd.results23, go_sem]) rfl ⟨by simp [g6], HF.out⟩
  by_cases g7 : L.toList = [112, 120]
  · go_wp2_with fail
    exact bodyPost_ret (v := .bool true) (by simp [results, Tryd.results23, go_sem]) rfl ⟨by simp [g7], HF.out⟩
  · have e1 : (L.toList == [99, 109]) = false := beq_eq_false_iff_ne.2 g1
    have e2 : (L.toList == [101, 109]) = false := beq_eq_false_iff_ne.2 g2
    have e3 : (L.toList == [105, 110]) = false := beq_eq_false_iff_ne.2 g3
    have e4 : (L.toList == [109, 109]) = false := beq_eq_false_iff_ne.2 g4
    have e5 : (L.toList == [112, 99]) = false := beq_eq_false_iff_ne.2 g5
    have e6 : (L.toList == [112, 116]) = false := beq_eq_false_iff_ne.2 g6
    have e7 : (L.toList == [112, 120]) = false := beq_eq_false_iff_ne.2 g7
    clear g1 g2 g3 g4 g5 g6 g7
    go_wp2_with fail
    exact bodyPost_ret (v := .bool false) (by simp [results, Tryd.results23, go_sem]) rfl ⟨by simp [e1, e2, e3, e4, e5, e6, e7], HF.out⟩

def clsOf (k : Int) (t : ByteArray) (o : Nat) : Cls :=
  if k = 30 then (if t.toList = [48] then .keep else .mix) else if k = 34 then .keep
  else if k = 26 then (if safeU (t.extract o t.size) then .keep else .unit (t.extract o t.size)) else .mix

/-- a tracker in a block -/
structure TrkAt (b : Nat) (x : Trk) (w : World) : Prop where
  lt : b < w.heap.size
  u : w.cell? ⟨b, 0, none⟩ = some (.string x.u)
  s : w.cell? ⟨b, 1, none⟩ = some (.int .u8 x.s)
  f0 : w.frozen? ⟨b, 0, none⟩ = false
  f1 : w.frozen? ⟨b, 1, none⟩ = false
theorem TrkAt.below {b : Nat} {x : Trk} {w w' : World} (h : TrkAt b x w) (hb : Below w.heap.size w w') : TrkAt b x w' := by
  have l := h.lt
  have hz := hb.size
  exact ⟨by omega, by rw [hb.cell (p := ⟨b, 0, none⟩) l]; exact h.u, by rw [hb.cell (p := ⟨b, 1, none⟩) l]; exact h.s, by rw [hb.frozen (p := ⟨b, 0, none⟩) l]; exact h.f0, by rw [hb.frozen (p := ⟨b, 1, none⟩) l]; exact h.f1⟩
theorem TrkAt.status {b : Nat} {x : Trk} {w : World} (h : TrkAt b x w) (s : Nat) : TrkAt b ⟨x.u, s⟩ (w.setCell ⟨b, 1, none⟩ (.int .u8 s)) := by
  refine ⟨by simpa [go_sem] using h.lt, ?_, World.cell?_setCell_same _ _ _ h.s, ?_, ?_⟩
  · rw [World.cell?_setCell_other _ _ _ _ (by simp)]; exact h.u
  · rw [World.frozen?_setCell]; exact h.f0
  · rw [World.frozen?_setCell]; exact h.f1
theorem TrkAt.unit {b : Nat} {x : Trk} {w : World} (h : TrkAt b x w) (u : ByteArray) : TrkAt b ⟨u, x.s⟩ (w.setCell ⟨b, 0, none⟩ (.string u)) := by
  refine ⟨by simpa [go_sem] using h.lt, World.cell?_setCell_same _ _ _ h.u, ?_, ?_, ?_⟩
  · rw [World.cell?_setCell_other _ _ _ _ (by simp)]; exact h.s
  · rw [World.frozen?_setCell]; exact h.f0
  · rw [World.frozen?_setCell]; exact h.f1

/-- what includeUnitOf leaves -/
structure Inc (b : Nat) (x : Trk) (B : Nat) (w : World) (e : Ending) (w' : World) : Prop where
  e : e = .returned (.tuple #[])
  t : TrkAt b x w'
  b : Below B w w'

end Go.Proofs.YtlpjejnfniiilaaDoor
