/- The dump's head word, letter by letter (by number), so that the kernel need not take a long string apart: three of the row's closed facts. Printed by mkhead.sh. -/
import Derived.Test.YtdaebcaokoajjaaRows
import Derived.JoinedOf
namespace Go.Proofs.Ytdaebcaokoajjaa
def headNums : List Nat := [104, 97, 114, 110, 101, 115, 115, 32, 98, 57, 97, 48, 55, 49, 53, 53, 48, 101, 52, 55, 52, 54, 56, 54, 55, 56, 51, 48, 49, 100, 49, 101, 57, 99, 102, 54, 101, 49, 100, 57, 48, 97, 100, 56, 53, 51, 97, 57, 55, 97, 100, 100, 50, 53, 53, 49, 99, 99, 48, 99, 101, 101, 52, 54, 100, 48, 55, 53, 102, 101, 52, 102, 32, 99, 117, 116, 32, 97, 116, 32, 108, 111, 111, 112, 46, 101, 120, 97, 109, 112, 108, 101, 47, 112, 117, 98, 45, 103, 48, 51, 48, 50, 54, 47, 108, 97, 119, 115, 46, 70, 110, 67, 97, 114, 114, 121, 108, 101, 115, 115, 73, 115, 32, 108, 111, 111, 112, 46, 101, 120, 97, 109, 112, 108, 101, 47, 112, 117, 98, 45, 103, 48, 51, 48, 50, 54, 47, 108, 97, 119, 115, 46, 70, 110, 67, 97, 114, 114, 121, 108, 101, 115, 115, 82, 105, 110, 103, 32, 108, 111, 111, 112, 46, 101, 120, 97, 109, 112, 108, 101, 47, 112, 117, 98, 45, 103, 48, 51, 48, 50, 54, 47, 108, 97, 119, 115, 46, 70, 110, 65, 115, 115, 111, 99, 105, 97, 116, 101, 115, 32, 108, 111, 111, 112, 46, 101, 120, 97, 109, 112, 108, 101, 47, 112, 117, 98, 45, 103, 48, 51, 48, 50, 54, 47, 108, 97, 119, 115, 46, 70, 110, 67, 111, 109, 109, 117, 116, 101, 115, 32, 108, 111, 111, 112, 46, 101, 120, 97, 109, 112, 108, 101, 47, 112, 117, 98, 45, 103, 48, 51, 48, 50, 54, 47, 108, 97, 119, 115, 46, 70, 110, 68, 105, 115, 116, 114, 105, 98, 117, 116, 101, 115, 32, 108, 111, 111, 112, 46, 101, 120, 97, 109, 112, 108, 101, 47, 112, 117, 98, 45, 103, 48, 51, 48, 50, 54, 47, 108, 97, 119, 115, 46, 70, 110, 78, 111, 68, 105, 118, 105, 115, 111, 114, 115, 32, 108, 111, 111, 112, 46, 101, 120, 97, 109, 112, 108, 101, 47, 112, 117, 98, 45, 103, 48, 51, 48, 50, 54, 47, 108, 97, 119, 115, 46, 70, 110, 79, 110, 101, 32, 108, 111, 111, 112, 46, 101, 120, 97, 109, 112, 108, 101, 47, 112, 117, 98, 45, 103, 48, 51, 48, 50, 54, 47, 108, 97, 119, 115, 46, 70, 110, 80, 114, 111, 100, 117, 99, 116, 73, 115, 32, 108, 111, 111, 112, 46, 101, 120, 97, 109, 112, 108, 101, 47, 112, 117, 98, 45, 103, 48, 51, 48, 50, 54, 47, 108, 97, 119, 115, 46, 70, 110, 83, 113, 117, 97, 114, 101, 115, 32, 108, 111, 111, 112, 46, 101, 120, 97, 109, 112, 108, 101, 47, 112, 117, 98, 45, 103, 48, 51, 48, 50, 54, 47, 108, 97, 119, 115, 46, 70, 110, 70, 105, 108, 108, 101, 100, 85, 112, 32, 108, 111, 111, 112, 46, 101, 120, 97, 109, 112, 108, 101, 47, 112, 117, 98, 45, 103, 48, 51, 48, 50, 54, 47, 108, 97, 119, 115, 46, 70, 110, 72, 97, 115, 104, 73, 115, 32, 108, 111, 111, 112, 46, 101, 120, 97, 109, 112, 108, 101, 47, 112, 117, 98, 45, 103, 48, 51, 48, 50, 54, 47, 108, 97, 119, 115, 46, 70, 110, 72, 97, 115, 104, 78, 111, 116, 104, 105, 110, 103, 32, 108, 111, 111, 112, 46, 101, 120, 97, 109, 112, 108, 101, 47, 112, 117, 98, 45, 103, 48, 51, 48, 50, 54, 47, 108, 97, 119, 115, 46, 70, 110, 72, 97, 115, 104, 83, 117, 109, 32, 108, 111, 111, 112, 46, 101, 120, 97, 109, 112, 108, 101, 47, 112, 117, 98, 45, 103, 48, 51, 48, 50, 54, 47, 108, 97, 119, 115, 46, 70, 110, 74, 111, 105, 110, 101, 100, 32, 108, 111, 111, 112, 46, 101, 120, 97, 109, 112, 108, 101, 47, 112, 117, 98, 45, 103, 48, 51, 48, 50, 54, 47, 108, 97, 119, 115, 46, 70, 110, 85, 112, 100, 97, 116, 101, 73, 115, 32, 108, 111, 111, 112, 46, 101, 120, 97, 109, 112, 108, 101, 47, 112, 117, 98, 45, 103, 48, 51, 48, 50, 54, 47, 108, 97, 119, 115, 46, 70, 110, 72, 97, 115, 104, 66, 108, 111, 99, 107, 32, 108, 111, 111, 112, 46, 101, 120, 97, 109, 112, 108, 101, 47, 112, 117, 98, 45, 103, 48, 51, 48, 50, 54, 47, 108, 97, 119, 115, 46, 70, 110, 72, 111, 114, 110, 101, 114, 32, 108, 111, 111, 112, 46, 101, 120, 97, 109, 112, 108, 101, 47, 112, 117, 98, 45, 103, 48, 51, 48, 50, 54, 47, 108, 97, 119, 115, 46, 70, 110, 70, 105, 114, 115, 116, 67, 111, 117, 110, 116, 101, 114, 73, 115, 32, 108, 111, 111, 112, 46, 101, 120, 97, 109, 112, 108, 101, 47, 112, 117, 98, 45, 103, 48, 51, 48, 50, 54, 47, 108, 97, 119, 115, 46, 70, 110, 65, 117, 116, 104, 73, 115, 32, 108, 111, 111, 112, 46, 101, 120, 97, 109, 112, 108, 101, 47, 112, 117, 98, 45, 103, 48, 51, 48, 50, 54, 47, 108, 97, 119, 115, 46, 70, 110, 65, 117, 116, 104, 77, 97, 115, 107]
def headChars : List Char := headNums.map Char.ofNat
theorem head_is : Try.pinned.checked.prog.initOrder = String.ofList headChars := by kernel_rfl
theorem head_list : Try.pinned.checked.prog.initOrder.toList = headChars := by rw [head_is, String.toList_ofList]
theorem head_words : behindMainWord (wordsSigns Try.pinned.checked.prog.initOrder.toList) = "cut".toList :: (behindMainWord (wordsSigns headChars)).tail := by
  rw [head_list]
  kernel_rfl
theorem strip_cut (rest : List (List Char)) : stripLifts liftWords ("cut".toList :: rest) = ([], "cut".toList :: rest) := by kernel_rfl

theorem make_of (P : Program) (rest : List (List Char)) (h : behindMainWord (wordsSigns P.initOrder.toList) = "cut".toList :: rest) : P.make = some .cut := by
  unfold Program.make
  rw [h]
  have e1 : ("cut".toList == "gc".toList) = false := by decide +kernel
  have e2 : ("cut".toList == "spec".toList) = false := by decide +kernel
  have e3 : ("cut".toList == "cut".toList) = true := by decide +kernel
  simp only [e1, e2, e3, Bool.or_self, Bool.true_or, if_true, Bool.false_eq_true, if_false]
theorem make_is : Try.pinned.checked.prog.make = some .cut := make_of _ _ head_words

theorem headLifts_of (P : Program) (rest : List (List Char)) (h : behindMainWord (wordsSigns P.initOrder.toList) = "cut".toList :: rest) : P.headLifts = [] := by
  unfold Program.headLifts
  rw [h, strip_cut]
  simp
theorem mayEnter_of (P : Program) (rest : List (List Char)) (h : behindMainWord (wordsSigns P.initOrder.toList) = "cut".toList :: rest) (h1 : P.laysLater = false) (h2 : P.bearsReflect = false) (h3 : P.doorFits [] = true) : P.mayEnter = true := by
  unfold Program.mayEnter
  rw [h]
  simp only [strip_cut]
  simp [h1, h2, h3]
theorem lays_is : Try.pinned.checked.prog.laysLater = false := by kernel_rfl
theorem bears_is : Try.pinned.checked.prog.bearsReflect = false := by kernel_rfl
theorem door_is : Try.pinned.checked.prog.doorFits [] = true := by kernel_rfl
theorem mayEnter_is : Try.pinned.checked.prog.mayEnter = true := mayEnter_of _ _ head_words lays_is bears_is door_is

theorem liftsFinal_of (P : Program) (rest : List (List Char)) (h : behindMainWord (wordsSigns P.initOrder.toList) = "cut".toList :: rest) : P.liftsFinal = false := by
  unfold Program.liftsFinal
  rw [headLifts_of P rest h, h]
  simp
theorem liftsFinal_is : Try.pinned.checked.prog.liftsFinal = false := liftsFinal_of _ _ head_words
end Go.Proofs.Ytdaebcaokoajjaa
