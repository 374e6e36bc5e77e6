/-
  Closed facts on this seat's whole program, shared by its laws: what the row's form asks of the program itself. No conditions.
-/
import Derived.Test.YtnlohfbmknedhaaRows
import Derived.ProofKit
namespace Go.Proofs.Ytnlohfbmknedhaa

theorem andI {a b : Bool} (h : a = true) (k : b = true) : (a && b) = true := by rw [h, k]; rfl
set_option maxRecDepth 100000 in
theorem initCodes : Try.pinned.checked.prog.initOrder = String.ofList ([104, 97, 114, 110, 101, 115, 115, 32, 56, 48, 99, 54, 99, 57, 55, 50, 56, 100, 55, 102, 99, 48, 55, 101, 101, 49, 54, 55, 55, 97, 52, 48, 50, 53, 99, 57, 97, 98, 57, 101, 55, 97, 51, 54, 52, 102, 100, 102, 57, 50, 50, 50, 49, 101, 55, 56, 55, 52, 53, 51, 49, 99, 54, 57, 52, 56, 50, 56, 97, 48, 53, 51, 32, 99, 117, 116, 32, 97, 116, 32, 103, 105, 116, 104, 117, 98, 46, 99, 111, 109, 47, 101, 118, 97, 110, 119, 47, 101, 115, 98, 117, 105, 108, 100, 47, 110, 48, 49, 49, 95, 56, 52, 46, 70, 110, 72, 101, 120, 82, 65, 103, 114, 101, 101, 115, 87, 105, 116, 104, 76, 101, 97, 100, 105, 110, 103, 68, 105, 103, 105, 116, 115, 32, 103, 105, 116, 104, 117, 98, 46, 99, 111, 109, 47, 101, 118, 97, 110, 119, 47, 101, 115, 98, 117, 105, 108, 100, 47, 110, 48, 49, 49, 95, 50, 56, 51, 46, 70, 110, 80, 101, 101, 107, 65, 110, 115, 119, 101, 114, 115, 84, 104, 101, 67, 117, 114, 114, 101, 110, 116, 75, 105, 110, 100, 32, 103, 105, 116, 104, 117, 98, 46, 99, 111, 109, 47, 101, 118, 97, 110, 119, 47, 101, 115, 98, 117, 105, 108, 100, 47, 110, 48, 49, 49, 95, 57, 57, 46, 70, 110, 80, 97, 114, 115, 101, 67, 111, 109, 98, 105, 110, 97, 116, 111, 114, 71, 114, 101, 101, 100, 121, 82, 117, 110, 32, 103, 105, 116, 104, 117, 98, 46, 99, 111, 109, 47, 101, 118, 97, 110, 119, 47, 101, 115, 98, 117, 105, 108, 100, 47, 110, 48, 49, 49, 95, 50, 53, 54, 46, 70, 110, 65, 110, 97, 108, 121, 122, 101, 76, 101, 97, 100, 105, 110, 103, 65, 109, 112, 101, 114, 115, 97, 110, 100, 68, 101, 99, 108, 67, 111, 110, 116, 101, 120, 116, 79, 110, 108, 121, 68, 101, 109, 111, 116, 101, 115, 32, 103, 105, 116, 104, 117, 98, 46, 99, 111, 109, 47, 101, 118, 97, 110, 119, 47, 101, 115, 98, 117, 105, 108, 100, 47, 110, 48, 49, 49, 95, 50, 56, 51, 46, 70, 110, 82, 97, 119, 79, 102, 69, 97, 116, 101, 110, 84, 111, 107, 101, 110, 115, 82, 101, 98, 117, 105, 108, 100, 115, 84, 104, 101, 83, 111, 117, 114, 99, 101].map Char.ofNat) := by kernel_rfl
set_option maxRecDepth 100000 in
theorem initSigns : Try.pinned.checked.prog.initOrder.toList = [104, 97, 114, 110, 101, 115, 115, 32, 56, 48, 99, 54, 99, 57, 55, 50, 56, 100, 55, 102, 99, 48, 55, 101, 101, 49, 54, 55, 55, 97, 52, 48, 50, 53, 99, 57, 97, 98, 57, 101, 55, 97, 51, 54, 52, 102, 100, 102, 57, 50, 50, 50, 49, 101, 55, 56, 55, 52, 53, 51, 49, 99, 54, 57, 52, 56, 50, 56, 97, 48, 53, 51, 32, 99, 117, 116, 32, 97, 116, 32, 103, 105, 116, 104, 117, 98, 46, 99, 111, 109, 47, 101, 118, 97, 110, 119, 47, 101, 115, 98, 117, 105, 108, 100, 47, 110, 48, 49, 49, 95, 56, 52, 46, 70, 110, 72, 101, 120, 82, 65, 103, 114, 101, 101, 115, 87, 105, 116, 104, 76, 101, 97, 100, 105, 110, 103, 68, 105, 103, 105, 116, 115, 32, 103, 105, 116, 104, 117, 98, 46, 99, 111, 109, 47, 101, 118, 97, 110, 119, 47, 101, 115, 98, 117, 105, 108, 100, 47, 110, 48, 49, 49, 95, 50, 56, 51, 46, 70, 110, 80, 101, 101, 107, 65, 110, 115, 119, 101, 114, 115, 84, 104, 101, 67, 117, 114, 114, 101, 110, 116, 75, 105, 110, 100, 32, 103, 105, 116, 104, 117, 98, 46, 99, 111, 109, 47, 101, 118, 97, 110, 119, 47, 101, 115, 98, 117, 105, 108, 100, 47, 110, 48, 49, 49, 95, 57, 57, 46, 70, 110, 80, 97, 114, 115, 101, 67, 111, 109, 98, 105, 110, 97, 116, 111, 114, 71, 114, 101, 101, 100, 121, 82, 117, 110, 32, 103, 105, 116, 104, 117, 98, 46, 99, 111, 109, 47, 101, 118, 97, 110, 119, 47, 101, 115, 98, 117, 105, 108, 100, 47, 110, 48, 49, 49, 95, 50, 53, 54, 46, 70, 110, 65, 110, 97, 108, 121, 122, 101, 76, 101, 97, 100, 105, 110, 103, 65, 109, 112, 101, 114, 115, 97, 110, 100, 68, 101, 99, 108, 67, 111, 110, 116, 101, 120, 116, 79, 110, 108, 121, 68, 101, 109, 111, 116, 101, 115, 32, 103, 105, 116, 104, 117, 98, 46, 99, 111, 109, 47, 101, 118, 97, 110, 119, 47, 101, 115, 98, 117, 105, 108, 100, 47, 110, 48, 49, 49, 95, 50, 56, 51, 46, 70, 110, 82, 97, 119, 79, 102, 69, 97, 116, 101, 110, 84, 111, 107, 101, 110, 115, 82, 101, 98, 117, 105, 108, 100, 115, 84, 104, 101, 83, 111, 117, 114, 99, 101].map Char.ofNat := by rw [initCodes]; exact String.toList_ofList
theorem g1 : laidOutB Try.pinned.checked.prog = true := by kernel_rfl
theorem g2 : mapsRowed Try.pinned.checked.prog = true := by kernel_rfl
theorem g6 : (Try.pinned.checked.prog.stops == []) = true := by kernel_rfl
theorem g8 : (Try.pinned.checked.prog.stopKnobs == []) = true := by kernel_rfl
theorem g24 : Try.pinned.checked.prog.stopsHeard = true := by kernel_rfl
/-- the words behind the harness's sum: 'cut' comes first, no word of a lift -/
def headWords : List (List Char) := [[99, 117, 116].map Char.ofNat, [97, 116].map Char.ofNat, [103, 105, 116, 104, 117, 98, 46, 99, 111, 109, 47, 101, 118, 97, 110, 119, 47, 101, 115, 98, 117, 105, 108, 100, 47, 110, 48, 49, 49, 95, 56, 52, 46, 70, 110, 72, 101, 120, 82, 65, 103, 114, 101, 101, 115, 87, 105, 116, 104, 76, 101, 97, 100, 105, 110, 103, 68, 105, 103, 105, 116, 115].map Char.ofNat, [103, 105, 116, 104, 117, 98, 46, 99, 111, 109, 47, 101, 118, 97, 110, 119, 47, 101, 115, 98, 117, 105, 108, 100, 47, 110, 48, 49, 49, 95, 50, 56, 51, 46, 70, 110, 80, 101, 101, 107, 65, 110, 115, 119, 101, 114, 115, 84, 104, 101, 67, 117, 114, 114, 101, 110, 116, 75, 105, 110, 100].map Char.ofNat, [103, 105, 116, 104, 117, 98, 46, 99, 111, 109, 47, 101, 118, 97, 110, 119, 47, 101, 115, 98, 117, 105, 108, 100, 47, 110, 48, 49, 49, 95, 57, 57, 46, 70, 110, 80, 97, 114, 115, 101, 67, 111, 109, 98, 105, 110, 97, 116, 111, 114, 71, 114, 101, 101, 100, 121, 82, 117, 110].map Char.ofNat, [103, 105, 116, 104, 117, 98, 46, 99, 111, 109, 47, 101, 118, 97, 110, 119, 47, 101, 115, 98, 117, 105, 108, 100, 47, 110, 48, 49, 49, 95, 50, 53, 54, 46, 70, 110, 65, 110, 97, 108, 121, 122, 101, 76, 101, 97, 100, 105, 110, 103, 65, 109, 112, 101, 114, 115, 97, 110, 100, 68, 101, 99, 108, 67, 111, 110, 116, 101, 120, 116, 79, 110, 108, 121, 68, 101, 109, 111, 116, 101, 115].map Char.ofNat, [103, 105, 116, 104, 117, 98, 46, 99, 111, 109, 47, 101, 118, 97, 110, 119, 47, 101, 115, 98, 117, 105, 108, 100, 47, 110, 48, 49, 49, 95, 50, 56, 51, 46, 70, 110, 82, 97, 119, 79, 102, 69, 97, 116, 101, 110, 84, 111, 107, 101, 110, 115, 82, 101, 98, 117, 105, 108, 100, 115, 84, 104, 101, 83, 111, 117, 114, 99, 101].map Char.ofNat]
set_option maxRecDepth 100000 in
theorem headEq : behindMainWord (wordsSigns Try.pinned.checked.prog.initOrder.toList) = headWords := by rw [initSigns]; kernel_rfl
theorem headStrip : stripLifts liftWords headWords = ([], headWords) := by kernel_rfl
theorem headCut : (headWords.head? == some "cut".toList) = true := by kernel_rfl
theorem headCons : headWords = headWords.head! :: headWords.tail := by kernel_rfl
theorem later : Try.pinned.checked.prog.laysLater = false := by kernel_rfl
theorem reflects : Try.pinned.checked.prog.bearsReflect = false := by kernel_rfl
theorem door : Try.pinned.checked.prog.doorFits [] = true := by kernel_rfl
theorem enters (Q : Program) (c : List Char) (rest : List (List Char)) (h : behindMainWord (wordsSigns Q.initOrder.toList) = c :: rest) (hs : stripLifts liftWords (c :: rest) = ([], c :: rest))
    (hc : ((c :: rest).head? == some "cut".toList) = true) (h1 : Q.laysLater = false) (h2 : Q.bearsReflect = false) (h3 : Q.doorFits [] = true) : Q.mayEnter = true := by
  unfold Program.mayEnter
  rw [h]
  simp only [hs, h1, h2, h3, hc, Bool.not_false, Bool.or_true, Bool.and_true, List.contains_nil]
theorem g25 : Try.pinned.checked.prog.mayEnter = true :=
  enters _ headWords.head! headWords.tail (headEq.trans headCons) (headCons ▸ headStrip) (headCons ▸ headCut) later reflects door
theorem g26 : Try.pinned.checked.prog.liftsFinal = false := by
  unfold Program.liftsFinal Program.headLifts
  rw [headEq, headStrip]
  kernel_rfl
theorem headGc : (headWords.head! == "gc".toList || headWords.head! == "spec".toList) = false := by kernel_rfl
theorem headCut' : (headWords.head! == "cut".toList) = true := by kernel_rfl
theorem made (Q : Program) (c : List Char) (rest : List (List Char)) (h : behindMainWord (wordsSigns Q.initOrder.toList) = c :: rest) (hg : (c == "gc".toList || c == "spec".toList) = false) (hc : (c == "cut".toList) = true) : Q.make = some .cut := by
  unfold Program.make
  rw [h]
  simp only [hg, hc, Bool.true_or, if_true, Bool.false_eq_true, if_false]
theorem g27 : Try.pinned.checked.prog.make = some .cut := made _ headWords.head! headWords.tail (headEq.trans headCons) headGc headCut'
end Go.Proofs.Ytnlohfbmknedhaa
