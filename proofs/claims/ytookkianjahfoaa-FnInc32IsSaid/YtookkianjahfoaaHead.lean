/- The dump's head word, letter by letter (by number), so that the kernel need not take a long string apart: three of the row's closed facts. Printed by mkhead.sh. -/
import Derived.Test.YtookkianjahfoaaRows
import Derived.JoinedOf
namespace Go.Proofs.Ytookkianjahfoaa
def headNums : List Nat := [104, 97, 114, 110, 101, 115, 115, 32, 98, 98, 51, 97, 53, 55, 51, 52, 102, 55, 55, 98, 100, 99, 54, 101, 55, 99, 102, 56, 98, 98, 54, 48, 101, 50, 49, 48, 48, 49, 51, 98, 50, 49, 53, 50, 49, 48, 97, 51, 102, 99, 57, 52, 56, 52, 101, 55, 102, 56, 55, 101, 53, 50, 100, 97, 51, 99, 53, 99, 50, 100, 53, 49, 32, 99, 117, 116, 32, 97, 116, 32, 108, 111, 111, 112, 46, 101, 120, 97, 109, 112, 108, 101, 47, 112, 117, 98, 45, 103, 48, 51, 48, 50, 54, 47, 108, 97, 119, 115, 46, 70, 110, 65, 100, 100, 49, 50, 56, 73, 115, 32, 108, 111, 111, 112, 46, 101, 120, 97, 109, 112, 108, 101, 47, 112, 117, 98, 45, 103, 48, 51, 48, 50, 54, 47, 108, 97, 119, 115, 46, 70, 110, 73, 110, 99, 51, 50, 73, 115]
def headChars : List Char := headNums.map Char.ofNat
theorem head_is : Try.pinned.checked.prog.initOrder = String.ofList headChars := by kernel_rfl
theorem head_list : Try.pinned.checked.prog.initOrder.toList = headChars := by rw [head_is, String.toList_ofList]
theorem head_words : behindMainWord (wordsSigns Try.pinned.checked.prog.initOrder.toList) = "cut".toList :: (behindMainWord (wordsSigns headChars)).tail := by
  rw [head_list]
  kernel_rfl
theorem strip_cut (rest : List (List Char)) : stripLifts liftWords ("cut".toList :: rest) = ([], "cut".toList :: rest) := by kernel_rfl

theorem make_of (P : Program) (rest : List (List Char)) (h : behindMainWord (wordsSigns P.initOrder.toList) = "cut".toList :: rest) : P.make = some .cut := by
  unfold Program.make
  rw [h]
  have e1 : ("cut".toList == "gc".toList) = false := by decide +kernel
  have e2 : ("cut".toList == "spec".toList) = false := by decide +kernel
  have e3 : ("cut".toList == "cut".toList) = true := by decide +kernel
  simp only [e1, e2, e3, Bool.or_self, Bool.true_or, if_true, Bool.false_eq_true, if_false]
theorem make_is : Try.pinned.checked.prog.make = some .cut := make_of _ _ head_words

theorem headLifts_of (P : Program) (rest : List (List Char)) (h : behindMainWord (wordsSigns P.initOrder.toList) = "cut".toList :: rest) : P.headLifts = [] := by
  unfold Program.headLifts
  rw [h, strip_cut]
  simp
theorem mayEnter_of (P : Program) (rest : List (List Char)) (h : behindMainWord (wordsSigns P.initOrder.toList) = "cut".toList :: rest) (h1 : P.laysLater = false) (h2 : P.bearsReflect = false) (h3 : P.doorFits [] = true) : P.mayEnter = true := by
  unfold Program.mayEnter
  rw [h]
  simp only [strip_cut]
  simp [h1, h2, h3]
theorem lays_is : Try.pinned.checked.prog.laysLater = false := by kernel_rfl
theorem bears_is : Try.pinned.checked.prog.bearsReflect = false := by kernel_rfl
theorem door_is : Try.pinned.checked.prog.doorFits [] = true := by kernel_rfl
theorem mayEnter_is : Try.pinned.checked.prog.mayEnter = true := mayEnter_of _ _ head_words lays_is bears_is door_is

theorem liftsFinal_of (P : Program) (rest : List (List Char)) (h : behindMainWord (wordsSigns P.initOrder.toList) = "cut".toList :: rest) : P.liftsFinal = false := by
  unfold Program.liftsFinal
  rw [headLifts_of P rest h, h]
  simp
theorem liftsFinal_is : Try.pinned.checked.prog.liftsFinal = false := liftsFinal_of _ _ head_words
end Go.Proofs.Ytookkianjahfoaa
