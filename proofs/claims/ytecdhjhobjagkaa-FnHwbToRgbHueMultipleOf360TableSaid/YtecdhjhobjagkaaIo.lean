/-
  Closed facts on this seat's whole program, shared by its laws: what the row's form asks of the program itself. No conditions.
-/
import Derived.Test.YtecdhjhobjagkaaRows
import Derived.ProofKit
namespace Go.Proofs.Ytecdhjhobjagkaa

theorem andI {a b : Bool} (h : a = true) (k : b = true) : (a && b) = true := by rw [h, k]; rfl
set_option maxRecDepth 100000 in
theorem initCodes : Try.pinned.checked.prog.initOrder = String.ofList ([104, 97, 114, 110, 101, 115, 115, 32, 49, 100, 51, 101, 98, 97, 55, 97, 56, 48, 51, 56, 50, 51, 54, 48, 56, 51, 54, 48, 57, 100, 101, 55, 50, 54, 55, 97, 100, 49, 97, 101, 50, 50, 50, 50, 98, 99, 53, 52, 56, 54, 56, 97, 98, 101, 98, 55, 101, 102, 99, 50, 56, 99, 48, 50, 57, 98, 52, 49, 54, 54, 98, 54, 32, 99, 117, 116, 32, 97, 116, 32, 103, 105, 116, 104, 117, 98, 46, 99, 111, 109, 47, 101, 118, 97, 110, 119, 47, 101, 115, 98, 117, 105, 108, 100, 47, 110, 48, 49, 49, 95, 50, 54, 55, 46, 70, 110, 82, 103, 98, 84, 111, 72, 119, 98, 72, 117, 101, 73, 115, 78, 97, 78, 69, 120, 97, 99, 116, 108, 121, 70, 111, 114, 71, 114, 97, 121, 115, 32, 103, 105, 116, 104, 117, 98, 46, 99, 111, 109, 47, 101, 118, 97, 110, 119, 47, 101, 115, 98, 117, 105, 108, 100, 47, 110, 48, 49, 49, 95, 50, 54, 55, 46, 70, 110, 72, 119, 98, 84, 111, 82, 103, 98, 72, 117, 101, 77, 117, 108, 116, 105, 112, 108, 101, 79, 102, 51, 54, 48, 84, 97, 98, 108, 101, 32, 103, 105, 116, 104, 117, 98, 46, 99, 111, 109, 47, 101, 118, 97, 110, 119, 47, 101, 115, 98, 117, 105, 108, 100, 47, 110, 48, 49, 49, 95, 57, 46, 70, 110, 67, 111, 109, 112, 97, 99, 116, 84, 111, 107, 101, 110, 81, 117, 97, 100, 73, 115, 83, 104, 111, 114, 116, 101, 115, 116, 32, 103, 105, 116, 104, 117, 98, 46, 99, 111, 109, 47, 101, 118, 97, 110, 119, 47, 101, 115, 98, 117, 105, 108, 100, 47, 110, 48, 49, 49, 95, 57, 46, 70, 110, 83, 99, 97, 110, 77, 101, 100, 105, 97, 86, 97, 108, 117, 101, 82, 101, 115, 99, 97, 110, 115, 65, 115, 73, 116, 115, 101, 108, 102, 32, 103, 105, 116, 104, 117, 98, 46, 99, 111, 109, 47, 101, 118, 97, 110, 119, 47, 101, 115, 98, 117, 105, 108, 100, 47, 110, 48, 49, 49, 95, 57, 46, 70, 110, 67, 111, 109, 112, 97, 99, 116, 84, 111, 107, 101, 110, 81, 117, 97, 100, 73, 115, 65, 76, 111, 115, 115, 108, 101, 115, 115, 80, 114, 101, 102, 105, 120].map Char.ofNat) := by kernel_rfl
set_option maxRecDepth 100000 in
theorem initSigns : Try.pinned.checked.prog.initOrder.toList = [104, 97, 114, 110, 101, 115, 115, 32, 49, 100, 51, 101, 98, 97, 55, 97, 56, 48, 51, 56, 50, 51, 54, 48, 56, 51, 54, 48, 57, 100, 101, 55, 50, 54, 55, 97, 100, 49, 97, 101, 50, 50, 50, 50, 98, 99, 53, 52, 56, 54, 56, 97, 98, 101, 98, 55, 101, 102, 99, 50, 56, 99, 48, 50, 57, 98, 52, 49, 54, 54, 98, 54, 32, 99, 117, 116, 32, 97, 116, 32, 103, 105, 116, 104, 117, 98, 46, 99, 111, 109, 47, 101, 118, 97, 110, 119, 47, 101, 115, 98, 117, 105, 108, 100, 47, 110, 48, 49, 49, 95, 50, 54, 55, 46, 70, 110, 82, 103, 98, 84, 111, 72, 119, 98, 72, 117, 101, 73, 115, 78, 97, 78, 69, 120, 97, 99, 116, 108, 121, 70, 111, 114, 71, 114, 97, 121, 115, 32, 103, 105, 116, 104, 117, 98, 46, 99, 111, 109, 47, 101, 118, 97, 110, 119, 47, 101, 115, 98, 117, 105, 108, 100, 47, 110, 48, 49, 49, 95, 50, 54, 55, 46, 70, 110, 72, 119, 98, 84, 111, 82, 103, 98, 72, 117, 101, 77, 117, 108, 116, 105, 112, 108, 101, 79, 102, 51, 54, 48, 84, 97, 98, 108, 101, 32, 103, 105, 116, 104, 117, 98, 46, 99, 111, 109, 47, 101, 118, 97, 110, 119, 47, 101, 115, 98, 117, 105, 108, 100, 47, 110, 48, 49, 49, 95, 57, 46, 70, 110, 67, 111, 109, 112, 97, 99, 116, 84, 111, 107, 101, 110, 81, 117, 97, 100, 73, 115, 83, 104, 111, 114, 116, 101, 115, 116, 32, 103, 105, 116, 104, 117, 98, 46, 99, 111, 109, 47, 101, 118, 97, 110, 119, 47, 101, 115, 98, 117, 105, 108, 100, 47, 110, 48, 49, 49, 95, 57, 46, 70, 110, 83, 99, 97, 110, 77, 101, 100, 105, 97, 86, 97, 108, 117, 101, 82, 101, 115, 99, 97, 110, 115, 65, 115, 73, 116, 115, 101, 108, 102, 32, 103, 105, 116, 104, 117, 98, 46, 99, 111, 109, 47, 101, 118, 97, 110, 119, 47, 101, 115, 98, 117, 105, 108, 100, 47, 110, 48, 49, 49, 95, 57, 46, 70, 110, 67, 111, 109, 112, 97, 99, 116, 84, 111, 107, 101, 110, 81, 117, 97, 100, 73, 115, 65, 76, 111, 115, 115, 108, 101, 115, 115, 80, 114, 101, 102, 105, 120].map Char.ofNat := by rw [initCodes]; exact String.toList_ofList
theorem g1 : laidOutB Try.pinned.checked.prog = true := by kernel_rfl
theorem g2 : mapsRowed Try.pinned.checked.prog = true := by kernel_rfl
theorem g6 : (Try.pinned.checked.prog.stops == []) = true := by kernel_rfl
theorem g8 : (Try.pinned.checked.prog.stopKnobs == []) = true := by kernel_rfl
theorem g24 : Try.pinned.checked.prog.stopsHeard = true := by kernel_rfl
/-- the words behind the harness's sum: 'cut' comes first, no word of a lift -/
def headWords : List (List Char) := [[99, 117, 116].map Char.ofNat, [97, 116].map Char.ofNat, [103, 105, 116, 104, 117, 98, 46, 99, 111, 109, 47, 101, 118, 97, 110, 119, 47, 101, 115, 98, 117, 105, 108, 100, 47, 110, 48, 49, 49, 95, 50, 54, 55, 46, 70, 110, 82, 103, 98, 84, 111, 72, 119, 98, 72, 117, 101, 73, 115, 78, 97, 78, 69, 120, 97, 99, 116, 108, 121, 70, 111, 114, 71, 114, 97, 121, 115].map Char.ofNat, [103, 105, 116, 104, 117, 98, 46, 99, 111, 109, 47, 101, 118, 97, 110, 119, 47, 101, 115, 98, 117, 105, 108, 100, 47, 110, 48, 49, 49, 95, 50, 54, 55, 46, 70, 110, 72, 119, 98, 84, 111, 82, 103, 98, 72, 117, 101, 77, 117, 108, 116, 105, 112, 108, 101, 79, 102, 51, 54, 48, 84, 97, 98, 108, 101].map Char.ofNat, [103, 105, 116, 104, 117, 98, 46, 99, 111, 109, 47, 101, 118, 97, 110, 119, 47, 101, 115, 98, 117, 105, 108, 100, 47, 110, 48, 49, 49, 95, 57, 46, 70, 110, 67, 111, 109, 112, 97, 99, 116, 84, 111, 107, 101, 110, 81, 117, 97, 100, 73, 115, 83, 104, 111, 114, 116, 101, 115, 116].map Char.ofNat, [103, 105, 116, 104, 117, 98, 46, 99, 111, 109, 47, 101, 118, 97, 110, 119, 47, 101, 115, 98, 117, 105, 108, 100, 47, 110, 48, 49, 49, 95, 57, 46, 70, 110, 83, 99, 97, 110, 77, 101, 100, 105, 97, 86, 97, 108, 117, 101, 82, 101, 115, 99, 97, 110, 115, 65, 115, 73, 116, 115, 101, 108, 102].map Char.ofNat, [103, 105, 116, 104, 117, 98, 46, 99, 111, 109, 47, 101, 118, 97, 110, 119, 47, 101, 115, 98, 117, 105, 108, 100, 47, 110, 48, 49, 49, 95, 57, 46, 70, 110, 67, 111, 109, 112, 97, 99, 116, 84, 111, 107, 101, 110, 81, 117, 97, 100, 73, 115, 65, 76, 111, 115, 115, 108, 101, 115, 115, 80, 114, 101, 102, 105, 120].map Char.ofNat]
set_option maxRecDepth 100000 in
theorem headEq : behindMainWord (wordsSigns Try.pinned.checked.prog.initOrder.toList) = headWords := by rw [initSigns]; kernel_rfl
theorem headStrip : stripLifts liftWords headWords = ([], headWords) := by kernel_rfl
theorem headCut : (headWords.head? == some "cut".toList) = true := by kernel_rfl
theorem headCons : headWords = headWords.head! :: headWords.tail := by kernel_rfl
theorem later : Try.pinned.checked.prog.laysLater = false := by kernel_rfl
theorem reflects : Try.pinned.checked.prog.bearsReflect = false := by kernel_rfl
theorem door : Try.pinned.checked.prog.doorFits [] = true := by kernel_rfl
theorem enters (Q : Program) (c : List Char) (rest : List (List Char)) (h : behindMainWord (wordsSigns Q.initOrder.toList) = c :: rest) (hs : stripLifts liftWords (c :: rest) = ([], c :: rest))
    (hc : ((c :: rest).head? == some "cut".toList) = true) (h1 : Q.laysLater = false) (h2 : Q.bearsReflect = false) (h3 : Q.doorFits [] = true) : Q.mayEnter = true := by
  unfold Program.mayEnter
  rw [h]
  simp only [hs, h1, h2, h3, hc, Bool.not_false, Bool.or_true, Bool.and_true, List.contains_nil]
theorem g25 : Try.pinned.checked.prog.mayEnter = true :=
  enters _ headWords.head! headWords.tail (headEq.trans headCons) (headCons ▸ headStrip) (headCons ▸ headCut) later reflects door
theorem g26 : Try.pinned.checked.prog.liftsFinal = false := by
  unfold Program.liftsFinal Program.headLifts
  rw [headEq, headStrip]
  kernel_rfl
theorem headGc : (headWords.head! == "gc".toList || headWords.head! == "spec".toList) = false := by kernel_rfl
theorem headCut' : (headWords.head! == "cut".toList) = true := by kernel_rfl
theorem made (Q : Program) (c : List Char) (rest : List (List Char)) (h : behindMainWord (wordsSigns Q.initOrder.toList) = c :: rest) (hg : (c == "gc".toList || c == "spec".toList) = false) (hc : (c == "cut".toList) = true) : Q.make = some .cut := by
  unfold Program.make
  rw [h]
  simp only [hg, hc, Bool.true_or, if_true, Bool.false_eq_true, if_false]
theorem g27 : Try.pinned.checked.prog.make = some .cut := made _ headWords.head! headWords.tail (headEq.trans headCons) headGc headCut'
end Go.Proofs.Ytecdhjhobjagkaa
