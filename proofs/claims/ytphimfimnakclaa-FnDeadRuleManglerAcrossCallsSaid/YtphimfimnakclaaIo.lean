/-
  Closed facts on this seat's whole program, shared by its laws: what the row's form asks of the program itself. No conditions.
-/
import Derived.Test.YtphimfimnakclaaRows
import Derived.ProofKit
namespace Go.Proofs.Ytphimfimnakclaa

theorem andI {a b : Bool} (h : a = true) (k : b = true) : (a && b) = true := by rw [h, k]; rfl
set_option maxRecDepth 100000 in
theorem initCodes : Try.pinned.checked.prog.initOrder = String.ofList ([104, 97, 114, 110, 101, 115, 115, 32, 100, 51, 49, 101, 52, 48, 49, 55, 50, 49, 55, 100, 53, 101, 102, 50, 51, 100, 101, 52, 54, 101, 49, 52, 48, 53, 48, 56, 102, 51, 53, 49, 102, 52, 50, 48, 57, 53, 54, 54, 52, 56, 51, 51, 54, 56, 99, 50, 97, 102, 99, 53, 52, 49, 55, 51, 53, 54, 52, 100, 101, 53, 56, 55, 32, 99, 117, 116, 32, 97, 116, 32, 103, 105, 116, 104, 117, 98, 46, 99, 111, 109, 47, 101, 118, 97, 110, 119, 47, 101, 115, 98, 117, 105, 108, 100, 47, 110, 48, 49, 49, 95, 56, 55, 46, 70, 110, 82, 101, 109, 111, 118, 101, 68, 101, 97, 100, 82, 117, 108, 101, 115, 73, 110, 80, 108, 97, 99, 101, 73, 100, 101, 109, 112, 111, 116, 101, 110, 116, 32, 103, 105, 116, 104, 117, 98, 46, 99, 111, 109, 47, 101, 118, 97, 110, 119, 47, 101, 115, 98, 117, 105, 108, 100, 47, 110, 48, 49, 49, 95, 56, 55, 46, 70, 110, 68, 101, 97, 100, 82, 117, 108, 101, 77, 97, 110, 103, 108, 101, 114, 65, 99, 114, 111, 115, 115, 67, 97, 108, 108, 115].map Char.ofNat) := by kernel_rfl
set_option maxRecDepth 100000 in
theorem initSigns : Try.pinned.checked.prog.initOrder.toList = [104, 97, 114, 110, 101, 115, 115, 32, 100, 51, 49, 101, 52, 48, 49, 55, 50, 49, 55, 100, 53, 101, 102, 50, 51, 100, 101, 52, 54, 101, 49, 52, 48, 53, 48, 56, 102, 51, 53, 49, 102, 52, 50, 48, 57, 53, 54, 54, 52, 56, 51, 51, 54, 56, 99, 50, 97, 102, 99, 53, 52, 49, 55, 51, 53, 54, 52, 100, 101, 53, 56, 55, 32, 99, 117, 116, 32, 97, 116, 32, 103, 105, 116, 104, 117, 98, 46, 99, 111, 109, 47, 101, 118, 97, 110, 119, 47, 101, 115, 98, 117, 105, 108, 100, 47, 110, 48, 49, 49, 95, 56, 55, 46, 70, 110, 82, 101, 109, 111, 118, 101, 68, 101, 97, 100, 82, 117, 108, 101, 115, 73, 110, 80, 108, 97, 99, 101, 73, 100, 101, 109, 112, 111, 116, 101, 110, 116, 32, 103, 105, 116, 104, 117, 98, 46, 99, 111, 109, 47, 101, 118, 97, 110, 119, 47, 101, 115, 98, 117, 105, 108, 100, 47, 110, 48, 49, 49, 95, 56, 55, 46, 70, 110, 68, 101, 97, 100, 82, 117, 108, 101, 77, 97, 110, 103, 108, 101, 114, 65, 99, 114, 111, 115, 115, 67, 97, 108, 108, 115].map Char.ofNat := by rw [initCodes]; exact String.toList_ofList
theorem g1 : laidOutB Try.pinned.checked.prog = true := by kernel_rfl
theorem g2 : mapsRowed Try.pinned.checked.prog = true := by kernel_rfl
theorem g6 : (Try.pinned.checked.prog.stops == []) = true := by kernel_rfl
theorem g8 : (Try.pinned.checked.prog.stopKnobs == []) = true := by kernel_rfl
theorem g24 : Try.pinned.checked.prog.stopsHeard = true := by kernel_rfl
/-- the words behind the harness's sum: 'cut' comes first, no word of a lift -/
def headWords : List (List Char) := [[99, 117, 116].map Char.ofNat, [97, 116].map Char.ofNat, [103, 105, 116, 104, 117, 98, 46, 99, 111, 109, 47, 101, 118, 97, 110, 119, 47, 101, 115, 98, 117, 105, 108, 100, 47, 110, 48, 49, 49, 95, 56, 55, 46, 70, 110, 82, 101, 109, 111, 118, 101, 68, 101, 97, 100, 82, 117, 108, 101, 115, 73, 110, 80, 108, 97, 99, 101, 73, 100, 101, 109, 112, 111, 116, 101, 110, 116].map Char.ofNat, [103, 105, 116, 104, 117, 98, 46, 99, 111, 109, 47, 101, 118, 97, 110, 119, 47, 101, 115, 98, 117, 105, 108, 100, 47, 110, 48, 49, 49, 95, 56, 55, 46, 70, 110, 68, 101, 97, 100, 82, 117, 108, 101, 77, 97, 110, 103, 108, 101, 114, 65, 99, 114, 111, 115, 115, 67, 97, 108, 108, 115].map Char.ofNat]
set_option maxRecDepth 100000 in
theorem headEq : behindMainWord (wordsSigns Try.pinned.checked.prog.initOrder.toList) = headWords := by rw [initSigns]; kernel_rfl
theorem headStrip : stripLifts liftWords headWords = ([], headWords) := by kernel_rfl
theorem headCut : (headWords.head? == some "cut".toList) = true := by kernel_rfl
theorem headCons : headWords = headWords.head! :: headWords.tail := by kernel_rfl
theorem later : Try.pinned.checked.prog.laysLater = false := by kernel_rfl
theorem reflects : Try.pinned.checked.prog.bearsReflect = false := by kernel_rfl
theorem door : Try.pinned.checked.prog.doorFits [] = true := by kernel_rfl
theorem enters (Q : Program) (c : List Char) (rest : List (List Char)) (h : behindMainWord (wordsSigns Q.initOrder.toList) = c :: rest) (hs : stripLifts liftWords (c :: rest) = ([], c :: rest))
    (hc : ((c :: rest).head? == some "cut".toList) = true) (h1 : Q.laysLater = false) (h2 : Q.bearsReflect = false) (h3 : Q.doorFits [] = true) : Q.mayEnter = true := by
  unfold Program.mayEnter
  rw [h]
  simp only [hs, h1, h2, h3, hc, Bool.not_false, Bool.or_true, Bool.and_true, List.contains_nil]
theorem g25 : Try.pinned.checked.prog.mayEnter = true :=
  enters _ headWords.head! headWords.tail (headEq.trans headCons) (headCons ▸ headStrip) (headCons ▸ headCut) later reflects door
theorem g26 : Try.pinned.checked.prog.liftsFinal = false := by
  unfold Program.liftsFinal Program.headLifts
  rw [headEq, headStrip]
  kernel_rfl
theorem headGc : (headWords.head! == "gc".toList || headWords.head! == "spec".toList) = false := by kernel_rfl
theorem headCut' : (headWords.head! == "cut".toList) = true := by kernel_rfl
theorem made (Q : Program) (c : List Char) (rest : List (List Char)) (h : behindMainWord (wordsSigns Q.initOrder.toList) = c :: rest) (hg : (c == "gc".toList || c == "spec".toList) = false) (hc : (c == "cut".toList) = true) : Q.make = some .cut := by
  unfold Program.make
  rw [h]
  simp only [hg, hc, Bool.true_or, if_true, Bool.false_eq_true, if_false]
theorem g27 : Try.pinned.checked.prog.make = some .cut := made _ headWords.head! headWords.tail (headEq.trans headCons) headGc headCut'
end Go.Proofs.Ytphimfimnakclaa
