/-
  Closed facts on this seat's whole program, shared by its laws: what the row's form asks of the program itself. No conditions.
-/
import Derived.Test.YtgkphknholechaaRows
import Derived.ProofKit
namespace Go.Proofs.Ytgkphknholechaa

theorem andI {a b : Bool} (h : a = true) (k : b = true) : (a && b) = true := by rw [h, k]; rfl
set_option maxRecDepth 100000 in
theorem initCodes : Try.pinned.checked.prog.initOrder = String.ofList ([104, 97, 114, 110, 101, 115, 115, 32, 100, 55, 55, 97, 53, 98, 101, 98, 102, 99, 101, 102, 102, 54, 98, 48, 48, 101, 51, 100, 102, 57, 99, 57, 49, 53, 55, 48, 49, 97, 102, 56, 55, 102, 54, 51, 52, 51, 49, 55, 56, 57, 53, 56, 49, 50, 99, 99, 100, 97, 49, 101, 99, 100, 99, 100, 53, 97, 52, 55, 102, 53, 101, 98, 32, 99, 117, 116, 32, 97, 116, 32, 103, 105, 116, 104, 117, 98, 46, 99, 111, 109, 47, 101, 118, 97, 110, 119, 47, 101, 115, 98, 117, 105, 108, 100, 47, 110, 48, 49, 49, 95, 55, 49, 46, 70, 110, 78, 101, 103, 97, 116, 101, 67, 104, 97, 105, 110, 79, 102, 86, 97, 108, 117, 101, 67, 97, 110, 99, 101, 108, 115, 73, 110, 80, 97, 105, 114, 115, 32, 103, 105, 116, 104, 117, 98, 46, 99, 111, 109, 47, 101, 118, 97, 110, 119, 47, 101, 115, 98, 117, 105, 108, 100, 47, 110, 48, 49, 49, 95, 52, 52, 46, 70, 110, 67, 97, 108, 99, 86, 97, 108, 117, 101, 73, 100, 101, 109, 112, 111, 116, 101, 110, 116, 65, 110, 100, 70, 114, 101, 101, 79, 102, 70, 108, 97, 103, 115, 32, 103, 105, 116, 104, 117, 98, 46, 99, 111, 109, 47, 101, 118, 97, 110, 119, 47, 101, 115, 98, 117, 105, 108, 100, 47, 110, 48, 49, 49, 95, 50, 56, 50, 46, 70, 110, 73, 115, 83, 97, 102, 101, 87, 105, 116, 104, 67, 97, 115, 101, 84, 97, 98, 108, 101, 32, 103, 105, 116, 104, 117, 98, 46, 99, 111, 109, 47, 101, 118, 97, 110, 119, 47, 101, 115, 98, 117, 105, 108, 100, 47, 110, 48, 49, 49, 95, 55, 49, 46, 70, 110, 78, 101, 103, 97, 116, 101, 67, 104, 97, 105, 110, 79, 102, 78, 117, 109, 101, 114, 105, 99, 70, 108, 105, 112, 115, 83, 105, 103, 110, 66, 121, 80, 97, 114, 105, 116, 121, 32, 103, 105, 116, 104, 117, 98, 46, 99, 111, 109, 47, 101, 118, 97, 110, 119, 47, 101, 115, 98, 117, 105, 108, 100, 47, 110, 48, 49, 49, 95, 50, 56, 50, 46, 70, 110, 85, 112, 100, 97, 116, 101, 83, 105, 100, 101, 69, 120, 97, 99, 116].map Char.ofNat) := by kernel_rfl
set_option maxRecDepth 100000 in
theorem initSigns : Try.pinned.checked.prog.initOrder.toList = [104, 97, 114, 110, 101, 115, 115, 32, 100, 55, 55, 97, 53, 98, 101, 98, 102, 99, 101, 102, 102, 54, 98, 48, 48, 101, 51, 100, 102, 57, 99, 57, 49, 53, 55, 48, 49, 97, 102, 56, 55, 102, 54, 51, 52, 51, 49, 55, 56, 57, 53, 56, 49, 50, 99, 99, 100, 97, 49, 101, 99, 100, 99, 100, 53, 97, 52, 55, 102, 53, 101, 98, 32, 99, 117, 116, 32, 97, 116, 32, 103, 105, 116, 104, 117, 98, 46, 99, 111, 109, 47, 101, 118, 97, 110, 119, 47, 101, 115, 98, 117, 105, 108, 100, 47, 110, 48, 49, 49, 95, 55, 49, 46, 70, 110, 78, 101, 103, 97, 116, 101, 67, 104, 97, 105, 110, 79, 102, 86, 97, 108, 117, 101, 67, 97, 110, 99, 101, 108, 115, 73, 110, 80, 97, 105, 114, 115, 32, 103, 105, 116, 104, 117, 98, 46, 99, 111, 109, 47, 101, 118, 97, 110, 119, 47, 101, 115, 98, 117, 105, 108, 100, 47, 110, 48, 49, 49, 95, 52, 52, 46, 70, 110, 67, 97, 108, 99, 86, 97, 108, 117, 101, 73, 100, 101, 109, 112, 111, 116, 101, 110, 116, 65, 110, 100, 70, 114, 101, 101, 79, 102, 70, 108, 97, 103, 115, 32, 103, 105, 116, 104, 117, 98, 46, 99, 111, 109, 47, 101, 118, 97, 110, 119, 47, 101, 115, 98, 117, 105, 108, 100, 47, 110, 48, 49, 49, 95, 50, 56, 50, 46, 70, 110, 73, 115, 83, 97, 102, 101, 87, 105, 116, 104, 67, 97, 115, 101, 84, 97, 98, 108, 101, 32, 103, 105, 116, 104, 117, 98, 46, 99, 111, 109, 47, 101, 118, 97, 110, 119, 47, 101, 115, 98, 117, 105, 108, 100, 47, 110, 48, 49, 49, 95, 55, 49, 46, 70, 110, 78, 101, 103, 97, 116, 101, 67, 104, 97, 105, 110, 79, 102, 78, 117, 109, 101, 114, 105, 99, 70, 108, 105, 112, 115, 83, 105, 103, 110, 66, 121, 80, 97, 114, 105, 116, 121, 32, 103, 105, 116, 104, 117, 98, 46, 99, 111, 109, 47, 101, 118, 97, 110, 119, 47, 101, 115, 98, 117, 105, 108, 100, 47, 110, 48, 49, 49, 95, 50, 56, 50, 46, 70, 110, 85, 112, 100, 97, 116, 101, 83, 105, 100, 101, 69, 120, 97, 99, 116].map Char.ofNat := by rw [initCodes]; exact String.toList_ofList
theorem g1 : laidOutB Try.pinned.checked.prog = true := by kernel_rfl
theorem g2 : mapsRowed Try.pinned.checked.prog = true := by kernel_rfl
theorem g6 : (Try.pinned.checked.prog.stops == []) = true := by kernel_rfl
theorem g8 : (Try.pinned.checked.prog.stopKnobs == []) = true := by kernel_rfl
theorem g24 : Try.pinned.checked.prog.stopsHeard = true := by kernel_rfl
/-- the words behind the harness's sum: 'cut' comes first, no word of a lift -/
def headWords : List (List Char) := [[99, 117, 116].map Char.ofNat, [97, 116].map Char.ofNat, [103, 105, 116, 104, 117, 98, 46, 99, 111, 109, 47, 101, 118, 97, 110, 119, 47, 101, 115, 98, 117, 105, 108, 100, 47, 110, 48, 49, 49, 95, 55, 49, 46, 70, 110, 78, 101, 103, 97, 116, 101, 67, 104, 97, 105, 110, 79, 102, 86, 97, 108, 117, 101, 67, 97, 110, 99, 101, 108, 115, 73, 110, 80, 97, 105, 114, 115].map Char.ofNat, [103, 105, 116, 104, 117, 98, 46, 99, 111, 109, 47, 101, 118, 97, 110, 119, 47, 101, 115, 98, 117, 105, 108, 100, 47, 110, 48, 49, 49, 95, 52, 52, 46, 70, 110, 67, 97, 108, 99, 86, 97, 108, 117, 101, 73, 100, 101, 109, 112, 111, 116, 101, 110, 116, 65, 110, 100, 70, 114, 101, 101, 79, 102, 70, 108, 97, 103, 115].map Char.ofNat, [103, 105, 116, 104, 117, 98, 46, 99, 111, 109, 47, 101, 118, 97, 110, 119, 47, 101, 115, 98, 117, 105, 108, 100, 47, 110, 48, 49, 49, 95, 50, 56, 50, 46, 70, 110, 73, 115, 83, 97, 102, 101, 87, 105, 116, 104, 67, 97, 115, 101, 84, 97, 98, 108, 101].map Char.ofNat, [103, 105, 116, 104, 117, 98, 46, 99, 111, 109, 47, 101, 118, 97, 110, 119, 47, 101, 115, 98, 117, 105, 108, 100, 47, 110, 48, 49, 49, 95, 55, 49, 46, 70, 110, 78, 101, 103, 97, 116, 101, 67, 104, 97, 105, 110, 79, 102, 78, 117, 109, 101, 114, 105, 99, 70, 108, 105, 112, 115, 83, 105, 103, 110, 66, 121, 80, 97, 114, 105, 116, 121].map Char.ofNat, [103, 105, 116, 104, 117, 98, 46, 99, 111, 109, 47, 101, 118, 97, 110, 119, 47, 101, 115, 98, 117, 105, 108, 100, 47, 110, 48, 49, 49, 95, 50, 56, 50, 46, 70, 110, 85, 112, 100, 97, 116, 101, 83, 105, 100, 101, 69, 120, 97, 99, 116].map Char.ofNat]
set_option maxRecDepth 100000 in
theorem headEq : behindMainWord (wordsSigns Try.pinned.checked.prog.initOrder.toList) = headWords := by rw [initSigns]; kernel_rfl
theorem headStrip : stripLifts liftWords headWords = ([], headWords) := by kernel_rfl
theorem headCut : (headWords.head? == some "cut".toList) = true := by kernel_rfl
theorem headCons : headWords = headWords.head! :: headWords.tail := by kernel_rfl
theorem later : Try.pinned.checked.prog.laysLater = false := by kernel_rfl
theorem reflects : Try.pinned.checked.prog.bearsReflect = false := by kernel_rfl
theorem door : Try.pinned.checked.prog.doorFits [] = true := by kernel_rfl
theorem enters (Q : Program) (c : List Char) (rest : List (List Char)) (h : behindMainWord (wordsSigns Q.initOrder.toList) = c :: rest) (hs : stripLifts liftWords (c :: rest) = ([], c :: rest))
    (hc : ((c :: rest).head? == some "cut".toList) = true) (h1 : Q.laysLater = false) (h2 : Q.bearsReflect = false) (h3 : Q.doorFits [] = true) : Q.mayEnter = true := by
  unfold Program.mayEnter
  rw [h]
  simp only [hs, h1, h2, h3, hc, Bool.not_false, Bool.or_true, Bool.and_true, List.contains_nil]
theorem g25 : Try.pinned.checked.prog.mayEnter = true :=
  enters _ headWords.head! headWords.tail (headEq.trans headCons) (headCons ▸ headStrip) (headCons ▸ headCut) later reflects door
theorem g26 : Try.pinned.checked.prog.liftsFinal = false := by
  unfold Program.liftsFinal Program.headLifts
  rw [headEq, headStrip]
  kernel_rfl
theorem headGc : (headWords.head! == "gc".toList || headWords.head! == "spec".toList) = false := by kernel_rfl
theorem headCut' : (headWords.head! == "cut".toList) = true := by kernel_rfl
theorem made (Q : Program) (c : List Char) (rest : List (List Char)) (h : behindMainWord (wordsSigns Q.initOrder.toList) = c :: rest) (hg : (c == "gc".toList || c == "spec".toList) = false) (hc : (c == "cut".toList) = true) : Q.make = some .cut := by
  unfold Program.make
  rw [h]
  simp only [hg, hc, Bool.true_or, if_true, Bool.false_eq_true, if_false]
theorem g27 : Try.pinned.checked.prog.make = some .cut := made _ headWords.head! headWords.tail (headEq.trans headCons) headGc headCut'
end Go.Proofs.Ytgkphknholechaa
