/-
  Closed facts on this seat's whole program, shared by its laws: what the row's form asks of the program itself. No conditions.
-/
import Derived.Test.YthhoalfilmlhaaaRows
import Derived.ProofKit
namespace Go.Proofs.Ythhoalfilmlhaaa

theorem andI {a b : Bool} (h : a = true) (k : b = true) : (a && b) = true := by rw [h, k]; rfl
set_option maxRecDepth 100000 in
theorem initCodes : Try.pinned.checked.prog.initOrder = String.ofList ([104, 97, 114, 110, 101, 115, 115, 32, 49, 50, 101, 49, 52, 56, 49, 101, 100, 97, 97, 97, 100, 56, 49, 56, 98, 51, 100, 97, 98, 56, 101, 99, 97, 56, 54, 100, 57, 100, 97, 55, 52, 49, 56, 52, 49, 56, 57, 100, 52, 51, 48, 98, 102, 50, 57, 51, 52, 53, 49, 54, 100, 101, 97, 52, 97, 52, 97, 99, 102, 98, 98, 53, 32, 99, 117, 116, 32, 97, 116, 32, 103, 105, 116, 104, 117, 98, 46, 99, 111, 109, 47, 101, 118, 97, 110, 119, 47, 101, 115, 98, 117, 105, 108, 100, 47, 110, 48, 49, 49, 95, 50, 53, 55, 46, 70, 110, 73, 110, 116, 101, 114, 112, 111, 108, 97, 116, 101, 72, 117, 101, 115, 80, 101, 114, 105, 111, 100, 105, 99, 32, 103, 105, 116, 104, 117, 98, 46, 99, 111, 109, 47, 101, 118, 97, 110, 119, 47, 101, 115, 98, 117, 105, 108, 100, 47, 110, 48, 49, 49, 95, 50, 53, 55, 46, 70, 110, 73, 110, 116, 101, 114, 112, 111, 108, 97, 116, 101, 67, 111, 108, 111, 114, 115, 69, 110, 100, 112, 111, 105, 110, 116, 115, 65, 110, 100, 77, 101, 116, 104, 111, 100, 83, 99, 111, 112, 101].map Char.ofNat) := by kernel_rfl
set_option maxRecDepth 100000 in
theorem initSigns : Try.pinned.checked.prog.initOrder.toList = [104, 97, 114, 110, 101, 115, 115, 32, 49, 50, 101, 49, 52, 56, 49, 101, 100, 97, 97, 97, 100, 56, 49, 56, 98, 51, 100, 97, 98, 56, 101, 99, 97, 56, 54, 100, 57, 100, 97, 55, 52, 49, 56, 52, 49, 56, 57, 100, 52, 51, 48, 98, 102, 50, 57, 51, 52, 53, 49, 54, 100, 101, 97, 52, 97, 52, 97, 99, 102, 98, 98, 53, 32, 99, 117, 116, 32, 97, 116, 32, 103, 105, 116, 104, 117, 98, 46, 99, 111, 109, 47, 101, 118, 97, 110, 119, 47, 101, 115, 98, 117, 105, 108, 100, 47, 110, 48, 49, 49, 95, 50, 53, 55, 46, 70, 110, 73, 110, 116, 101, 114, 112, 111, 108, 97, 116, 101, 72, 117, 101, 115, 80, 101, 114, 105, 111, 100, 105, 99, 32, 103, 105, 116, 104, 117, 98, 46, 99, 111, 109, 47, 101, 118, 97, 110, 119, 47, 101, 115, 98, 117, 105, 108, 100, 47, 110, 48, 49, 49, 95, 50, 53, 55, 46, 70, 110, 73, 110, 116, 101, 114, 112, 111, 108, 97, 116, 101, 67, 111, 108, 111, 114, 115, 69, 110, 100, 112, 111, 105, 110, 116, 115, 65, 110, 100, 77, 101, 116, 104, 111, 100, 83, 99, 111, 112, 101].map Char.ofNat := by rw [initCodes]; exact String.toList_ofList
theorem g1 : laidOutB Try.pinned.checked.prog = true := by kernel_rfl
theorem g2 : mapsRowed Try.pinned.checked.prog = true := by kernel_rfl
theorem g6 : (Try.pinned.checked.prog.stops == []) = true := by kernel_rfl
theorem g8 : (Try.pinned.checked.prog.stopKnobs == []) = true := by kernel_rfl
theorem g24 : Try.pinned.checked.prog.stopsHeard = true := by kernel_rfl
/-- the words behind the harness's sum: 'cut' comes first, no word of a lift -/
def headWords : List (List Char) := [[99, 117, 116].map Char.ofNat, [97, 116].map Char.ofNat, [103, 105, 116, 104, 117, 98, 46, 99, 111, 109, 47, 101, 118, 97, 110, 119, 47, 101, 115, 98, 117, 105, 108, 100, 47, 110, 48, 49, 49, 95, 50, 53, 55, 46, 70, 110, 73, 110, 116, 101, 114, 112, 111, 108, 97, 116, 101, 72, 117, 101, 115, 80, 101, 114, 105, 111, 100, 105, 99].map Char.ofNat, [103, 105, 116, 104, 117, 98, 46, 99, 111, 109, 47, 101, 118, 97, 110, 119, 47, 101, 115, 98, 117, 105, 108, 100, 47, 110, 48, 49, 49, 95, 50, 53, 55, 46, 70, 110, 73, 110, 116, 101, 114, 112, 111, 108, 97, 116, 101, 67, 111, 108, 111, 114, 115, 69, 110, 100, 112, 111, 105, 110, 116, 115, 65, 110, 100, 77, 101, 116, 104, 111, 100, 83, 99, 111, 112, 101].map Char.ofNat]
set_option maxRecDepth 100000 in
theorem headEq : behindMainWord (wordsSigns Try.pinned.checked.prog.initOrder.toList) = headWords := by rw [initSigns]; kernel_rfl
theorem headStrip : stripLifts liftWords headWords = ([], headWords) := by kernel_rfl
theorem headCut : (headWords.head? == some "cut".toList) = true := by kernel_rfl
theorem headCons : headWords = headWords.head! :: headWords.tail := by kernel_rfl
theorem later : Try.pinned.checked.prog.laysLater = false := by kernel_rfl
theorem reflects : Try.pinned.checked.prog.bearsReflect = false := by kernel_rfl
theorem door : Try.pinned.checked.prog.doorFits [] = true := by kernel_rfl
theorem enters (Q : Program) (c : List Char) (rest : List (List Char)) (h : behindMainWord (wordsSigns Q.initOrder.toList) = c :: rest) (hs : stripLifts liftWords (c :: rest) = ([], c :: rest))
    (hc : ((c :: rest).head? == some "cut".toList) = true) (h1 : Q.laysLater = false) (h2 : Q.bearsReflect = false) (h3 : Q.doorFits [] = true) : Q.mayEnter = true := by
  unfold Program.mayEnter
  rw [h]
  simp only [hs, h1, h2, h3, hc, Bool.not_false, Bool.or_true, Bool.and_true, List.contains_nil]
theorem g25 : Try.pinned.checked.prog.mayEnter = true :=
  enters _ headWords.head! headWords.tail (headEq.trans headCons) (headCons ▸ headStrip) (headCons ▸ headCut) later reflects door
theorem g26 : Try.pinned.checked.prog.liftsFinal = false := by
  unfold Program.liftsFinal Program.headLifts
  rw [headEq, headStrip]
  kernel_rfl
theorem headGc : (headWords.head! == "gc".toList || headWords.head! == "spec".toList) = false := by kernel_rfl
theorem headCut' : (headWords.head! == "cut".toList) = true := by kernel_rfl
theorem made (Q : Program) (c : List Char) (rest : List (List Char)) (h : behindMainWord (wordsSigns Q.initOrder.toList) = c :: rest) (hg : (c == "gc".toList || c == "spec".toList) = false) (hc : (c == "cut".toList) = true) : Q.make = some .cut := by
  unfold Program.make
  rw [h]
  simp only [hg, hc, Bool.true_or, if_true, Bool.false_eq_true, if_false]
theorem g27 : Try.pinned.checked.prog.make = some .cut := made _ headWords.head! headWords.tail (headEq.trans headCons) headGc headCut'
end Go.Proofs.Ythhoalfilmlhaaa
