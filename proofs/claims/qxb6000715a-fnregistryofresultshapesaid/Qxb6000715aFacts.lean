/-
  CLOSED FACTS OF THE LOADED PROGRAM THAT EVERY ROW OF THIS SEAT ASKS, each a declaration of its own.
  (In one declaration the frame's builder outgrows the lid on memory: the head's text would be decoded sign by sign three times, 9 GB each. Here it is never decoded: 'String.toList_ofList'.)
-/
import Derived.Test.Qxb6000715aRows
import Derived.KernelRfl
namespace Go.Proofs.Qxb6000715a.Facts
open Go

def headNums : List Nat := [
    104, 97, 114, 110, 101, 115, 115, 32, 98, 54, 56, 53, 97, 55, 101, 100, 100, 49, 56, 100, 100, 98, 49, 55, 100, 51, 57, 54, 48, 98, 97, 51, 48, 101,
    53, 100, 49, 98, 51, 54, 56, 49, 49, 55, 101, 100, 51, 56, 100, 100, 52, 50, 102, 101, 48, 101, 53, 56, 49, 100, 53, 98, 98, 52, 51, 55, 51, 97, 99,
    51, 54, 97, 32, 99, 117, 116, 32, 97, 116, 32, 101, 120, 97, 109, 112, 108, 101, 46, 99, 111, 109, 47, 116, 101, 114, 114, 97, 114, 105, 117, 109, 45,
    114, 105, 103, 47, 116, 101, 114, 114, 97, 114, 105, 117, 109, 45, 114, 105, 103, 47, 122, 122, 108, 97, 119, 115, 95, 114, 111, 111, 116, 95, 98, 49,
    46, 70, 110, 83, 112, 108, 105, 116, 82, 101, 102, 101, 114, 101, 110, 99, 101, 84, 97, 103, 67, 97, 114, 114, 105, 101, 115, 78, 111, 83, 101, 112,
    97, 114, 97, 116, 111, 114, 32, 101, 120, 97, 109, 112, 108, 101, 46, 99, 111, 109, 47, 116, 101, 114, 114, 97, 114, 105, 117, 109, 45, 114, 105, 103,
    47, 116, 101, 114, 114, 97, 114, 105, 117, 109, 45, 114, 105, 103, 47, 122, 122, 108, 97, 119, 115, 95, 114, 111, 111, 116, 95, 98, 49, 46, 70, 110,
    83, 112, 108, 105, 116, 82, 101, 102, 101, 114, 101, 110, 99, 101, 67, 111, 109, 112, 111, 115, 101, 82, 111, 117, 110, 100, 84, 114, 105, 112, 32,
    101, 120, 97, 109, 112, 108, 101, 46, 99, 111, 109, 47, 116, 101, 114, 114, 97, 114, 105, 117, 109, 45, 114, 105, 103, 47, 116, 101, 114, 114, 97,
    114, 105, 117, 109, 45, 114, 105, 103, 47, 122, 122, 108, 97, 119, 115, 95, 114, 111, 111, 116, 95, 98, 49, 46, 70, 110, 83, 112, 108, 105, 116, 82,
    101, 102, 101, 114, 101, 110, 99, 101, 72, 97, 108, 118, 101, 115, 65, 114, 101, 80, 105, 101, 99, 101, 115, 32, 101, 120, 97, 109, 112, 108, 101, 46,
    99, 111, 109, 47, 116, 101, 114, 114, 97, 114, 105, 117, 109, 45, 114, 105, 103, 47, 116, 101, 114, 114, 97, 114, 105, 117, 109, 45, 114, 105, 103,
    47, 122, 122, 108, 97, 119, 115, 95, 114, 111, 111, 116, 95, 98, 49, 46, 70, 110, 82, 101, 103, 105, 115, 116, 114, 121, 79, 102, 82, 101, 115, 117,
    108, 116, 83, 104, 97, 112, 101, 32, 101, 120, 97, 109, 112, 108, 101, 46, 99, 111, 109, 47, 116, 101, 114, 114, 97, 114, 105, 117, 109, 45, 114, 105,
    103, 47, 116, 101, 114, 114, 97, 114, 105, 117, 109, 45, 114, 105, 103, 47, 122, 122, 108, 97, 119, 115, 95, 114, 111, 111, 116, 95, 98, 49, 46, 70,
    110, 82, 101, 103, 105, 115, 116, 114, 121, 79, 102, 73, 103, 110, 111, 114, 101, 115, 86, 101, 114, 115, 105, 111, 110, 32, 101, 120, 97, 109, 112,
    108, 101, 46, 99, 111, 109, 47, 116, 101, 114, 114, 97, 114, 105, 117, 109, 45, 114, 105, 103, 47, 116, 101, 114, 114, 97, 114, 105, 117, 109, 45,
    114, 105, 103, 47, 122, 122, 108, 97, 119, 115, 95, 114, 111, 111, 116, 95, 98, 49, 46, 70, 110, 82, 101, 103, 105, 115, 116, 114, 121, 79, 102, 78,
    97, 109, 101, 100, 72, 111, 115, 116, 32, 101, 120, 97, 109, 112, 108, 101, 46, 99, 111, 109, 47, 116, 101, 114, 114, 97, 114, 105, 117, 109, 45, 114,
    105, 103, 47, 116, 101, 114, 114, 97, 114, 105, 117, 109, 45, 114, 105, 103, 47, 122, 122, 108, 97, 119, 115, 95, 114, 111, 111, 116, 95, 98, 49, 46,
    70, 110, 82, 101, 112, 108, 105, 99, 97, 78, 97, 109, 101, 115, 76, 97, 121, 111, 117, 116, 32, 101, 120, 97, 109, 112, 108, 101, 46, 99, 111, 109,
    47, 116, 101, 114, 114, 97, 114, 105, 117, 109, 45, 114, 105, 103, 47, 116, 101, 114, 114, 97, 114, 105, 117, 109, 45, 114, 105, 103, 47, 122, 122,
    108, 97, 119, 115, 95, 114, 111, 111, 116, 95, 98, 49, 46, 70, 110, 82, 101, 112, 108, 105, 99, 97, 78, 97, 109, 101, 115, 71, 114, 111, 119, 66, 121,
    65, 112, 112, 101, 110, 100, 105, 110, 103]
def headSigns : List Char := headNums.map Char.ofNat
theorem head_is : Try.prog.initOrder = String.ofList headSigns := by kernel_rfl
theorem head_signs : Try.prog.initOrder.toList = headSigns := (congrArg String.toList head_is).trans String.toList_ofList

/-- what stands behind the head's first two words: the cut's mark -/
theorem behind_is : behindMainWord (wordsSigns Try.prog.initOrder.toList) = "cut".toList :: (behindMainWord (wordsSigns headSigns)).tail :=
  (congrArg (fun l => behindMainWord (wordsSigns l)) head_signs).trans (by kernel_rfl)

theorem strip_cut (rest : List (List Char)) : stripLifts liftWords ("cut".toList :: rest) = ([], "cut".toList :: rest) := by
  kernel_rfl
theorem headLifts_of {P : Program} {rest : List (List Char)} (h : behindMainWord (wordsSigns P.initOrder.toList) = "cut".toList :: rest) : P.headLifts = [] := by
  unfold Program.headLifts
  rw [h, strip_cut]
  rfl
theorem liftsFinal_of {P : Program} {rest : List (List Char)} (h : behindMainWord (wordsSigns P.initOrder.toList) = "cut".toList :: rest) : P.liftsFinal = false := by
  unfold Program.liftsFinal
  rw [headLifts_of h, h]
  rfl
theorem make_of {P : Program} {rest : List (List Char)} (h : behindMainWord (wordsSigns P.initOrder.toList) = "cut".toList :: rest) : P.make = some .cut := by
  unfold Program.make
  rw [h]
  rfl
theorem mayEnter_of {P : Program} {rest : List (List Char)} (h : behindMainWord (wordsSigns P.initOrder.toList) = "cut".toList :: rest)
    (h1 : P.laysLater = false) (h2 : P.bearsReflect = false) (h3 : P.doorFits [] = true) : P.mayEnter = true := by
  unfold Program.mayEnter
  rw [h]
  simp only [strip_cut, h1, h2, h3]
  rfl

theorem mayEnter_yes : Try.prog.mayEnter = true := mayEnter_of behind_is (by kernel_rfl) (by kernel_rfl) (by kernel_rfl)
theorem liftsFinal_no : Try.prog.liftsFinal = false := liftsFinal_of behind_is
theorem make_is : Try.prog.make = some .cut := make_of behind_is

end Go.Proofs.Qxb6000715a.Facts
