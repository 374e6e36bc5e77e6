/-
  Closed facts on this seat's whole program, shared by its laws: what the row's form asks of the program itself. No conditions.
-/
import Derived.Test.YtlhcgnlbhncfkaaRows
import Derived.ProofKit
namespace Go.Proofs.Ytlhcgnlbhncfkaa

theorem andI {a b : Bool} (h : a = true) (k : b = true) : (a && b) = true := by rw [h, k]; rfl
set_option maxRecDepth 100000 in
theorem initCodes : Try.pinned.checked.prog.initOrder = String.ofList ([104, 97, 114, 110, 101, 115, 115, 32, 48, 54, 55, 102, 55, 54, 99, 49, 99, 49, 50, 56, 50, 49, 52, 100, 97, 57, 51, 56, 50, 48, 98, 52, 55, 52, 98, 99, 49, 99, 54, 54, 101, 51, 100, 53, 99, 51, 57, 50, 100, 54, 100, 49, 48, 57, 52, 98, 51, 55, 53, 54, 52, 56, 50, 48, 98, 50, 52, 54, 97, 51, 98, 98, 32, 99, 117, 116, 32, 97, 116, 32, 103, 105, 116, 104, 117, 98, 46, 99, 111, 109, 47, 101, 118, 97, 110, 119, 47, 101, 115, 98, 117, 105, 108, 100, 47, 110, 48, 49, 49, 95, 50, 55, 53, 46, 70, 110, 67, 111, 109, 112, 111, 117, 110, 100, 84, 101, 114, 109, 67, 111, 117, 110, 116, 73, 115, 83, 117, 98, 99, 108, 97, 115, 115, 84, 111, 107, 101, 110, 67, 111, 117, 110, 116, 32, 103, 105, 116, 104, 117, 98, 46, 99, 111, 109, 47, 101, 118, 97, 110, 119, 47, 101, 115, 98, 117, 105, 108, 100, 47, 110, 48, 49, 49, 95, 51, 48, 54, 46, 70, 110, 79, 112, 116, 105, 111, 110, 115, 70, 114, 111, 109, 67, 111, 110, 102, 105, 103, 69, 113, 117, 97, 108, 69, 120, 97, 99, 116, 32, 103, 105, 116, 104, 117, 98, 46, 99, 111, 109, 47, 101, 118, 97, 110, 119, 47, 101, 115, 98, 117, 105, 108, 100, 47, 110, 48, 49, 49, 95, 51, 48, 54, 46, 70, 110, 79, 112, 116, 105, 111, 110, 115, 69, 113, 117, 97, 108, 82, 101, 102, 108, 101, 120, 105, 118, 101, 83, 121, 109, 109, 101, 116, 114, 105, 99, 32, 103, 105, 116, 104, 117, 98, 46, 99, 111, 109, 47, 101, 118, 97, 110, 119, 47, 101, 115, 98, 117, 105, 108, 100, 47, 110, 48, 49, 49, 95, 50, 55, 53, 46, 70, 110, 67, 111, 109, 112, 108, 101, 120, 84, 101, 114, 109, 67, 111, 117, 110, 116, 65, 100, 100, 115, 79, 118, 101, 114, 67, 111, 110, 99, 97, 116, 101, 110, 97, 116, 105, 111, 110, 32, 103, 105, 116, 104, 117, 98, 46, 99, 111, 109, 47, 101, 118, 97, 110, 119, 47, 101, 115, 98, 117, 105, 108, 100, 47, 110, 48, 49, 49, 95, 56, 55, 46, 70, 110, 67, 111, 110, 116, 97, 105, 110, 115, 68, 101, 97, 100, 83, 101, 108, 101, 99, 116, 111, 114, 115, 83, 112, 108, 105, 116, 82, 101, 118, 101, 114, 115, 101].map Char.ofNat) := by kernel_rfl
set_option maxRecDepth 100000 in
theorem initSigns : Try.pinned.checked.prog.initOrder.toList = [104, 97, 114, 110, 101, 115, 115, 32, 48, 54, 55, 102, 55, 54, 99, 49, 99, 49, 50, 56, 50, 49, 52, 100, 97, 57, 51, 56, 50, 48, 98, 52, 55, 52, 98, 99, 49, 99, 54, 54, 101, 51, 100, 53, 99, 51, 57, 50, 100, 54, 100, 49, 48, 57, 52, 98, 51, 55, 53, 54, 52, 56, 50, 48, 98, 50, 52, 54, 97, 51, 98, 98, 32, 99, 117, 116, 32, 97, 116, 32, 103, 105, 116, 104, 117, 98, 46, 99, 111, 109, 47, 101, 118, 97, 110, 119, 47, 101, 115, 98, 117, 105, 108, 100, 47, 110, 48, 49, 49, 95, 50, 55, 53, 46, 70, 110, 67, 111, 109, 112, 111, 117, 110, 100, 84, 101, 114, 109, 67, 111, 117, 110, 116, 73, 115, 83, 117, 98, 99, 108, 97, 115, 115, 84, 111, 107, 101, 110, 67, 111, 117, 110, 116, 32, 103, 105, 116, 104, 117, 98, 46, 99, 111, 109, 47, 101, 118, 97, 110, 119, 47, 101, 115, 98, 117, 105, 108, 100, 47, 110, 48, 49, 49, 95, 51, 48, 54, 46, 70, 110, 79, 112, 116, 105, 111, 110, 115, 70, 114, 111, 109, 67, 111, 110, 102, 105, 103, 69, 113, 117, 97, 108, 69, 120, 97, 99, 116, 32, 103, 105, 116, 104, 117, 98, 46, 99, 111, 109, 47, 101, 118, 97, 110, 119, 47, 101, 115, 98, 117, 105, 108, 100, 47, 110, 48, 49, 49, 95, 51, 48, 54, 46, 70, 110, 79, 112, 116, 105, 111, 110, 115, 69, 113, 117, 97, 108, 82, 101, 102, 108, 101, 120, 105, 118, 101, 83, 121, 109, 109, 101, 116, 114, 105, 99, 32, 103, 105, 116, 104, 117, 98, 46, 99, 111, 109, 47, 101, 118, 97, 110, 119, 47, 101, 115, 98, 117, 105, 108, 100, 47, 110, 48, 49, 49, 95, 50, 55, 53, 46, 70, 110, 67, 111, 109, 112, 108, 101, 120, 84, 101, 114, 109, 67, 111, 117, 110, 116, 65, 100, 100, 115, 79, 118, 101, 114, 67, 111, 110, 99, 97, 116, 101, 110, 97, 116, 105, 111, 110, 32, 103, 105, 116, 104, 117, 98, 46, 99, 111, 109, 47, 101, 118, 97, 110, 119, 47, 101, 115, 98, 117, 105, 108, 100, 47, 110, 48, 49, 49, 95, 56, 55, 46, 70, 110, 67, 111, 110, 116, 97, 105, 110, 115, 68, 101, 97, 100, 83, 101, 108, 101, 99, 116, 111, 114, 115, 83, 112, 108, 105, 116, 82, 101, 118, 101, 114, 115, 101].map Char.ofNat := by rw [initCodes]; exact String.toList_ofList
theorem g1 : laidOutB Try.pinned.checked.prog = true := by kernel_rfl
theorem g2 : mapsRowed Try.pinned.checked.prog = true := by kernel_rfl
theorem g6 : (Try.pinned.checked.prog.stops == []) = true := by kernel_rfl
theorem g8 : (Try.pinned.checked.prog.stopKnobs == []) = true := by kernel_rfl
theorem g24 : Try.pinned.checked.prog.stopsHeard = true := by kernel_rfl
/-- the words behind the harness's sum: 'cut' comes first, no word of a lift -/
def headWords : List (List Char) := [[99, 117, 116].map Char.ofNat, [97, 116].map Char.ofNat, [103, 105, 116, 104, 117, 98, 46, 99, 111, 109, 47, 101, 118, 97, 110, 119, 47, 101, 115, 98, 117, 105, 108, 100, 47, 110, 48, 49, 49, 95, 50, 55, 53, 46, 70, 110, 67, 111, 109, 112, 111, 117, 110, 100, 84, 101, 114, 109, 67, 111, 117, 110, 116, 73, 115, 83, 117, 98, 99, 108, 97, 115, 115, 84, 111, 107, 101, 110, 67, 111, 117, 110, 116].map Char.ofNat, [103, 105, 116, 104, 117, 98, 46, 99, 111, 109, 47, 101, 118, 97, 110, 119, 47, 101, 115, 98, 117, 105, 108, 100, 47, 110, 48, 49, 49, 95, 51, 48, 54, 46, 70, 110, 79, 112, 116, 105, 111, 110, 115, 70, 114, 111, 109, 67, 111, 110, 102, 105, 103, 69, 113, 117, 97, 108, 69, 120, 97, 99, 116].map Char.ofNat, [103, 105, 116, 104, 117, 98, 46, 99, 111, 109, 47, 101, 118, 97, 110, 119, 47, 101, 115, 98, 117, 105, 108, 100, 47, 110, 48, 49, 49, 95, 51, 48, 54, 46, 70, 110, 79, 112, 116, 105, 111, 110, 115, 69, 113, 117, 97, 108, 82, 101, 102, 108, 101, 120, 105, 118, 101, 83, 121, 109, 109, 101, 116, 114, 105, 99].map Char.ofNat, [103, 105, 116, 104, 117, 98, 46, 99, 111, 109, 47, 101, 118, 97, 110, 119, 47, 101, 115, 98, 117, 105, 108, 100, 47, 110, 48, 49, 49, 95, 50, 55, 53, 46, 70, 110, 67, 111, 109, 112, 108, 101, 120, 84, 101, 114, 109, 67, 111, 117, 110, 116, 65, 100, 100, 115, 79, 118, 101, 114, 67, 111, 110, 99, 97, 116, 101, 110, 97, 116, 105, 111, 110].map Char.ofNat, [103, 105, 116, 104, 117, 98, 46, 99, 111, 109, 47, 101, 118, 97, 110, 119, 47, 101, 115, 98, 117, 105, 108, 100, 47, 110, 48, 49, 49, 95, 56, 55, 46, 70, 110, 67, 111, 110, 116, 97, 105, 110, 115, 68, 101, 97, 100, 83, 101, 108, 101, 99, 116, 111, 114, 115, 83, 112, 108, 105, 116, 82, 101, 118, 101, 114, 115, 101].map Char.ofNat]
set_option maxRecDepth 100000 in
theorem headEq : behindMainWord (wordsSigns Try.pinned.checked.prog.initOrder.toList) = headWords := by rw [initSigns]; kernel_rfl
theorem headStrip : stripLifts liftWords headWords = ([], headWords) := by kernel_rfl
theorem headCut : (headWords.head? == some "cut".toList) = true := by kernel_rfl
theorem headCons : headWords = headWords.head! :: headWords.tail := by kernel_rfl
theorem later : Try.pinned.checked.prog.laysLater = false := by kernel_rfl
theorem reflects : Try.pinned.checked.prog.bearsReflect = false := by kernel_rfl
theorem door : Try.pinned.checked.prog.doorFits [] = true := by kernel_rfl
theorem enters (Q : Program) (c : List Char) (rest : List (List Char)) (h : behindMainWord (wordsSigns Q.initOrder.toList) = c :: rest) (hs : stripLifts liftWords (c :: rest) = ([], c :: rest))
    (hc : ((c :: rest).head? == some "cut".toList) = true) (h1 : Q.laysLater = false) (h2 : Q.bearsReflect = false) (h3 : Q.doorFits [] = true) : Q.mayEnter = true := by
  unfold Program.mayEnter
  rw [h]
  simp only [hs, h1, h2, h3, hc, Bool.not_false, Bool.or_true, Bool.and_true, List.contains_nil]
theorem g25 : Try.pinned.checked.prog.mayEnter = true :=
  enters _ headWords.head! headWords.tail (headEq.trans headCons) (headCons ▸ headStrip) (headCons ▸ headCut) later reflects door
theorem g26 : Try.pinned.checked.prog.liftsFinal = false := by
  unfold Program.liftsFinal Program.headLifts
  rw [headEq, headStrip]
  kernel_rfl
theorem headGc : (headWords.head! == "gc".toList || headWords.head! == "spec".toList) = false := by kernel_rfl
theorem headCut' : (headWords.head! == "cut".toList) = true := by kernel_rfl
theorem made (Q : Program) (c : List Char) (rest : List (List Char)) (h : behindMainWord (wordsSigns Q.initOrder.toList) = c :: rest) (hg : (c == "gc".toList || c == "spec".toList) = false) (hc : (c == "cut".toList) = true) : Q.make = some .cut := by
  unfold Program.make
  rw [h]
  simp only [hg, hc, Bool.true_or, if_true, Bool.false_eq_true, if_false]
theorem g27 : Try.pinned.checked.prog.make = some .cut := made _ headWords.head! headWords.tail (headEq.trans headCons) headGc headCut'
end Go.Proofs.Ytlhcgnlbhncfkaa
