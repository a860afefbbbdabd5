/-
  THE HEAD OF THE TRANSLATION, READ BY THE KERNEL IN SMALL STEPS: 'initOrder' as a list of signs, once; the three facts of a row that read it. (String.toList of so long a text outgrows the memory's lid.)
-/
import Derived.Test.Qxb6001346aRows
import Derived.JoinedOf
import Derived.KernelRfl
set_option linter.all false
namespace Go.Proofs.Qxb6001346a
set_option maxRecDepth 100000
/-- The signs of the head, whichever they are: found by unification. -/
def headGot : { l : List Char // Try.prog.initOrder = String.ofList l } := ⟨_, rfl⟩
def headSigns : List Char := headGot.1
def headRest : List (List Char) := (behindMainWord (wordsSigns headSigns)).tail
theorem head_is : Try.prog.initOrder = String.ofList headSigns := headGot.2
theorem head_list : Try.prog.initOrder.toList = headSigns := by rw [head_is]; exact String.toList_ofList
theorem head_words : behindMainWord (wordsSigns headSigns) = ['c', 'u', 't'] :: headRest := by kernel_rfl
theorem head_all : behindMainWord (wordsSigns Try.prog.initOrder.toList) = ['c', 'u', 't'] :: headRest := by rw [head_list]; exact head_words
theorem cut_sign : "cut".toList = ['c', 'u', 't'] := by kernel_rfl
theorem head_strip : stripLifts liftWords (['c', 'u', 't'] :: headRest) = ([], ['c', 'u', 't'] :: headRest) := by kernel_rfl
theorem head_lifts : Try.prog.headLifts = [] := by
  unfold Program.headLifts
  rw [head_all, head_strip]
  simp
theorem lifts_final : Try.prog.liftsFinal = false := by
  unfold Program.liftsFinal
  rw [head_all, head_lifts]
  kernel_rfl
theorem make_step (P : Program) (r : List (List Char)) (h : behindMainWord (wordsSigns P.initOrder.toList) = ['c', 'u', 't'] :: r) : P.make = some .cut := by
  unfold Program.make
  rw [h]
  have e1 : ((['c', 'u', 't'] : List Char) == "gc".toList) = false := by kernel_rfl
  have e2 : ((['c', 'u', 't'] : List Char) == "spec".toList) = false := by kernel_rfl
  have e3 : ((['c', 'u', 't'] : List Char) == "cut".toList) = true := by kernel_rfl
  simp only [e1, e2, e3, Bool.or_self, Bool.true_or, if_true, Bool.false_eq_true, if_false]
theorem make_is : Try.prog.make = some .cut := make_step _ _ head_all
theorem lays_later : Try.prog.laysLater = false := by kernel_rfl
theorem bears_reflect : Try.prog.bearsReflect = false := by kernel_rfl
theorem door_rows : Try.prog.doorRows = [] := by kernel_rfl
theorem door_fits : Try.prog.doorFits [] = true := by
  unfold Program.doorFits
  rw [door_rows]
  kernel_rfl
theorem enter_step (P : Program) (r : List (List Char)) (h : behindMainWord (wordsSigns P.initOrder.toList) = ['c', 'u', 't'] :: r) (hs : stripLifts liftWords (['c', 'u', 't'] :: r) = ([], ['c', 'u', 't'] :: r)) (h1 : P.laysLater = false) (h2 : P.bearsReflect = false) (h3 : P.doorFits [] = true) : P.mayEnter = true := by
  unfold Program.mayEnter
  rw [h]
  simp only [hs, h1, h2, h3]
  simp
theorem may_enter : Try.prog.mayEnter = true := enter_step _ _ head_all head_strip lays_later bears_reflect door_fits
end Go.Proofs.Qxb6001346a
