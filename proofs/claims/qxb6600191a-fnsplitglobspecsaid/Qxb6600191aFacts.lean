/-
  CLOSED FACTS OF THE LOADED PROGRAM THAT EVERY ROW OF THIS SEAT ASKS, each a declaration of its own.
  (In one declaration the frame's builder outgrows the lid on memory: the head's text would be decoded sign by sign three times, 9 GB each. Here it is never decoded: 'String.toList_ofList'.)
-/
import Derived.Test.Qxb6600191aRows
import Derived.KernelRfl
namespace Go.Proofs.Qxb6600191a.Facts
open Go

def headNums : List Nat := [
    104, 97, 114, 110, 101, 115, 115, 32, 56, 98, 99, 57, 51, 101, 49, 53, 55, 55, 55, 48, 48, 102, 55, 52, 48, 99, 101, 52, 57, 51, 99, 49, 101, 50, 102,
    98, 56, 48, 50, 54, 56, 50, 101, 97, 57, 55, 102, 100, 100, 49, 98, 98, 55, 54, 102, 51, 100, 97, 97, 49, 53, 57, 49, 49, 48, 53, 101, 49, 57, 53, 49,
    51, 32, 99, 117, 116, 32, 97, 116, 32, 101, 120, 97, 109, 112, 108, 101, 46, 99, 111, 109, 47, 98, 97, 105, 108, 105, 119, 105, 99, 107, 47, 98, 97,
    105, 108, 105, 119, 105, 99, 107, 47, 122, 122, 108, 97, 119, 115, 95, 112, 111, 108, 105, 99, 121, 95, 98, 49, 46, 70, 110, 83, 112, 108, 105, 116,
    71, 108, 111, 98, 83, 112, 101, 99, 32, 101, 120, 97, 109, 112, 108, 101, 46, 99, 111, 109, 47, 98, 97, 105, 108, 105, 119, 105, 99, 107, 47, 98, 97,
    105, 108, 105, 119, 105, 99, 107, 47, 122, 122, 108, 97, 119, 115, 95, 112, 111, 108, 105, 99, 121, 95, 98, 49, 46, 70, 110, 83, 112, 108, 105, 116,
    71, 108, 111, 98, 80, 97, 114, 116, 115, 32, 101, 120, 97, 109, 112, 108, 101, 46, 99, 111, 109, 47, 98, 97, 105, 108, 105, 119, 105, 99, 107, 47, 98,
    97, 105, 108, 105, 119, 105, 99, 107, 47, 122, 122, 108, 97, 119, 115, 95, 112, 111, 108, 105, 99, 121, 95, 98, 49, 46, 70, 110, 83, 112, 108, 105,
    116, 71, 108, 111, 98, 69, 120, 116, 101, 110, 100, 32, 101, 120, 97, 109, 112, 108, 101, 46, 99, 111, 109, 47, 98, 97, 105, 108, 105, 119, 105, 99,
    107, 47, 98, 97, 105, 108, 105, 119, 105, 99, 107, 47, 122, 122, 108, 97, 119, 115, 95, 112, 111, 108, 105, 99, 121, 95, 98, 49, 46, 70, 110, 80, 108,
    97, 105, 110, 78, 97, 109, 101, 115, 83, 112, 101, 99, 32, 101, 120, 97, 109, 112, 108, 101, 46, 99, 111, 109, 47, 98, 97, 105, 108, 105, 119, 105,
    99, 107, 47, 98, 97, 105, 108, 105, 119, 105, 99, 107, 47, 122, 122, 108, 97, 119, 115, 95, 112, 111, 108, 105, 99, 121, 95, 98, 49, 46, 70, 110, 80,
    108, 97, 105, 110, 78, 97, 109, 101, 115, 80, 114, 101, 102, 105, 120, 80, 108, 97, 105, 110, 32, 101, 120, 97, 109, 112, 108, 101, 46, 99, 111, 109,
    47, 98, 97, 105, 108, 105, 119, 105, 99, 107, 47, 98, 97, 105, 108, 105, 119, 105, 99, 107, 47, 122, 122, 108, 97, 119, 115, 95, 112, 111, 108, 105,
    99, 121, 95, 98, 49, 46, 70, 110, 80, 108, 97, 105, 110, 78, 97, 109, 101, 115, 68, 101, 99, 105, 100, 101, 100, 69, 97, 114, 108, 121, 32, 101, 120,
    97, 109, 112, 108, 101, 46, 99, 111, 109, 47, 98, 97, 105, 108, 105, 119, 105, 99, 107, 47, 98, 97, 105, 108, 105, 119, 105, 99, 107, 47, 122, 122,
    108, 97, 119, 115, 95, 112, 111, 108, 105, 99, 121, 95, 98, 49, 46, 70, 110, 77, 97, 121, 67, 108, 105, 109, 98, 83, 112, 101, 99, 32, 101, 120, 97,
    109, 112, 108, 101, 46, 99, 111, 109, 47, 98, 97, 105, 108, 105, 119, 105, 99, 107, 47, 98, 97, 105, 108, 105, 119, 105, 99, 107, 47, 122, 122, 108,
    97, 119, 115, 95, 112, 111, 108, 105, 99, 121, 95, 98, 49, 46, 70, 110, 77, 97, 121, 67, 108, 105, 109, 98, 68, 111, 116, 68, 111, 116, 83, 101, 103,
    109, 101, 110, 116, 32, 101, 120, 97, 109, 112, 108, 101, 46, 99, 111, 109, 47, 98, 97, 105, 108, 105, 119, 105, 99, 107, 47, 98, 97, 105, 108, 105,
    119, 105, 99, 107, 47, 122, 122, 108, 97, 119, 115, 95, 112, 111, 108, 105, 99, 121, 95, 98, 49, 46, 70, 110, 77, 97, 121, 67, 108, 105, 109, 98, 69,
    120, 116, 101, 110, 100]
def headSigns : List Char := headNums.map Char.ofNat
theorem head_is : Try.prog.initOrder = String.ofList headSigns := by kernel_rfl
theorem head_signs : Try.prog.initOrder.toList = headSigns := (congrArg String.toList head_is).trans String.toList_ofList

/-- what stands behind the head's first two words: the cut's mark -/
theorem behind_is : behindMainWord (wordsSigns Try.prog.initOrder.toList) = "cut".toList :: (behindMainWord (wordsSigns headSigns)).tail :=
  (congrArg (fun l => behindMainWord (wordsSigns l)) head_signs).trans (by kernel_rfl)

theorem strip_cut (rest : List (List Char)) : stripLifts liftWords ("cut".toList :: rest) = ([], "cut".toList :: rest) := by
  kernel_rfl
theorem headLifts_of {P : Program} {rest : List (List Char)} (h : behindMainWord (wordsSigns P.initOrder.toList) = "cut".toList :: rest) : P.headLifts = [] := by
  unfold Program.headLifts
  rw [h, strip_cut]
  rfl
theorem liftsFinal_of {P : Program} {rest : List (List Char)} (h : behindMainWord (wordsSigns P.initOrder.toList) = "cut".toList :: rest) : P.liftsFinal = false := by
  unfold Program.liftsFinal
  rw [headLifts_of h, h]
  rfl
theorem make_of {P : Program} {rest : List (List Char)} (h : behindMainWord (wordsSigns P.initOrder.toList) = "cut".toList :: rest) : P.make = some .cut := by
  unfold Program.make
  rw [h]
  rfl
theorem mayEnter_of {P : Program} {rest : List (List Char)} (h : behindMainWord (wordsSigns P.initOrder.toList) = "cut".toList :: rest)
    (h1 : P.laysLater = false) (h2 : P.bearsReflect = false) (h3 : P.doorFits [] = true) : P.mayEnter = true := by
  unfold Program.mayEnter
  rw [h]
  simp only [strip_cut, h1, h2, h3]
  rfl

theorem mayEnter_yes : Try.prog.mayEnter = true := mayEnter_of behind_is (by kernel_rfl) (by kernel_rfl) (by kernel_rfl)
theorem liftsFinal_no : Try.prog.liftsFinal = false := liftsFinal_of behind_is
theorem make_is : Try.prog.make = some .cut := make_of behind_is

end Go.Proofs.Qxb6600191a.Facts
