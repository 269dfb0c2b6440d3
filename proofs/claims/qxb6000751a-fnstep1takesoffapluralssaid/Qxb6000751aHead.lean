/-
  SEAT b6000751a: THE CLOSED FACTS ON THE PROGRAM'S HEAD LINE, piece by piece (whole they outgrow the kernel's memory: the head line has 897 signs).
-/
import Derived.Test.Qxb6000751aRows
import Derived.ProofKit
namespace Go.Proofs.Qxb6000751a

set_option maxRecDepth 100000
/-- The head line's words, sign by sign. -/
def headSigns : List Char := ['h', 'a', 'r', 'n', 'e', 's', 's', ' ', '9', '7', '0', '9', 'b', '3', '1', '9', 'e', '9', '5', '0', '8', '5', '3', 'f', '1', '7', 'c', '8', '0', '3', 'a', 'f', 'e', '0', '9', '1', '4', 'a', 'f', '9', 'e', '7', '4', 'b', '5', 'e', '2', '7', '3', '2', 'e', '2', '9', '2', 'e', 'a', 'c', '2', '2', 'a', 'f', '0', '3', 'd', '3', '4', 'e', '4', '7', '1', 'b', '5', ' ', 'c', 'u', 't', ' ', 'a', 't', ' ', 'e', 'x', 'a', 'm', 'p', 'l', 'e', '.', 'c', 'o', 'm', '/', 'l', 'o', 'n', 'g', 'h', 'a', 'n', 'd', '/', 'l', 'o', 'n', 'g', 'h', 'a', 'n', 'd', '/', 'z', 'z', 'l', 'a', 'w', 's', '_', 'i', 'n', 't', 'e', 'r', 'n', 'a', 'l', '_', 'w', 'o', 'r', 'd', 's', '_', 'b', '1', '.', 'F', 'n', 'M', 'e', 'a', 's', 'u', 'r', 'e', 'C', 'o', 'u', 'n', 't', 's', 'V', 'o', 'w', 'e', 'l', 'C', 'o', 'n', 's', 'o', 'n', 'a', 'n', 't', 'T', 'u', 'r', 'n', 's', ' ', 'e', 'x', 'a', 'm', 'p', 'l', 'e', '.', 'c', 'o', 'm', '/', 'l', 'o', 'n', 'g', 'h', 'a', 'n', 'd', '/', 'l', 'o', 'n', 'g', 'h', 'a', 'n', 'd', '/', 'z', 'z', 'l', 'a', 'w', 's', '_', 'i', 'n', 't', 'e', 'r', 'n', 'a', 'l', '_', 'w', 'o', 'r', 'd', 's', '_', 'b', '1', '.', 'F', 'n', 'M', 'e', 'a', 's', 'u', 'r', 'e', 'G', 'r', 'o', 'w', 's', 'B', 'y', 'A', 't', 'M', 'o', 's', 't', 'O', 'n', 'e', ' ', 'e', 'x', 'a', 'm', 'p', 'l', 'e', '.', 'c', 'o', 'm', '/', 'l', 'o', 'n', 'g', 'h', 'a', 'n', 'd', '/', 'l', 'o', 'n', 'g', 'h', 'a', 'n', 'd', '/', 'z', 'z', 'l', 'a', 'w', 's', '_', 'i', 'n', 't', 'e', 'r', 'n', 'a', 'l', '_', 'w', 'o', 'r', 'd', 's', '_', 'b', '1', '.', 'F', 'n', 'M', 'e', 'a', 's', 'u', 'r', 'e', 'S', 'e', 'e', 's', 'O', 'n', 'l', 'y', 'I', 't', 's', 'P', 'r', 'e', 'f', 'i', 'x', ' ', 'e', 'x', 'a', 'm', 'p', 'l', 'e', '.', 'c', 'o', 'm', '/', 'l', 'o', 'n', 'g', 'h', 'a', 'n', 'd', '/', 'l', 'o', 'n', 'g', 'h', 'a', 'n', 'd', '/', 'z', 'z', 'l', 'a', 'w', 's', '_', 'i', 'n', 't', 'e', 'r', 'n', 'a', 'l', '_', 'w', 'o', 'r', 'd', 's', '_', 'b', '1', '.', 'F', 'n', 'S', 't', 'e', 'p', '1', 'S', 'h', 'o', 'r', 't', 'e', 'n', 's', 'A', 'n', 'd', 'C', 'h', 'a', 'n', 'g', 'e', 's', 'A', 't', 'M', 'o', 's', 't', 'T', 'h', 'e', 'L', 'a', 's', 't', 'L', 'e', 't', 't', 'e', 'r', ' ', 'e', 'x', 'a', 'm', 'p', 'l', 'e', '.', 'c', 'o', 'm', '/', 'l', 'o', 'n', 'g', 'h', 'a', 'n', 'd', '/', 'l', 'o', 'n', 'g', 'h', 'a', 'n', 'd', '/', 'z', 'z', 'l', 'a', 'w', 's', '_', 'i', 'n', 't', 'e', 'r', 'n', 'a', 'l', '_', 'w', 'o', 'r', 'd', 's', '_', 'b', '1', '.', 'F', 'n', 'S', 't', 'e', 'p', '1', 'L', 'e', 'a', 'v', 'e', 's', 'O', 't', 'h', 'e', 'r', 'E', 'n', 'd', 'i', 'n', 'g', 's', 'A', 'l', 'o', 'n', 'e', ' ', 'e', 'x', 'a', 'm', 'p', 'l', 'e', '.', 'c', 'o', 'm', '/', 'l', 'o', 'n', 'g', 'h', 'a', 'n', 'd', '/', 'l', 'o', 'n', 'g', 'h', 'a', 'n', 'd', '/', 'z', 'z', 'l', 'a', 'w', 's', '_', 'i', 'n', 't', 'e', 'r', 'n', 'a', 'l', '_', 'w', 'o', 'r', 'd', 's', '_', 'b', '1', '.', 'F', 'n', 'S', 't', 'e', 'p', '1', 'T', 'a', 'k', 'e', 's', 'O', 'f', 'f', 'A', 'P', 'l', 'u', 'r', 'a', 'l', 'S', ' ', 'e', 'x', 'a', 'm', 'p', 'l', 'e', '.', 'c', 'o', 'm', '/', 'l', 'o', 'n', 'g', 'h', 'a', 'n', 'd', '/', 'l', 'o', 'n', 'g', 'h', 'a', 'n', 'd', '/', 'z', 'z', 'l', 'a', 'w', 's', '_', 'i', 'n', 't', 'e', 'r', 'n', 'a', 'l', '_', 'w', 'o', 'r', 'd', 's', '_', 'b', '1', '.', 'F', 'n', 'R', 'e', 'p', 'l', 'a', 'c', 'e', 'S', 'u', 'f', 'f', 'i', 'x', 'R', 'e', 'f', 'u', 's', 'e', 's', 'A', 'n', 'U', 'n', 'r', 'e', 'a', 'c', 'h', 'a', 'b', 'l', 'e', 'M', 'e', 'a', 's', 'u', 'r', 'e', ' ', 'e', 'x', 'a', 'm', 'p', 'l', 'e', '.', 'c', 'o', 'm', '/', 'l', 'o', 'n', 'g', 'h', 'a', 'n', 'd', '/', 'l', 'o', 'n', 'g', 'h', 'a', 'n', 'd', '/', 'z', 'z', 'l', 'a', 'w', 's', '_', 'i', 'n', 't', 'e', 'r', 'n', 'a', 'l', '_', 'w', 'o', 'r', 'd', 's', '_', 'b', '1', '.', 'F', 'n', 'R', 'e', 'p', 'l', 'a', 'c', 'e', 'S', 'u', 'f', 'f', 'i', 'x', 'K', 'e', 'e', 'p', 's', 'I', 't', 's', 'C', 'h', 'a', 'n', 'g', 'e', 'U', 'n', 'd', 'e', 'r', 'A', 'L', 'o', 'w', 'e', 'r', 'T', 'h', 'r', 'e', 's', 'h', 'o', 'l', 'd', ' ', 'e', 'x', 'a', 'm', 'p', 'l', 'e', '.', 'c', 'o', 'm', '/', 'l', 'o', 'n', 'g', 'h', 'a', 'n', 'd', '/', 'l', 'o', 'n', 'g', 'h', 'a', 'n', 'd', '/', 'z', 'z', 'l', 'a', 'w', 's', '_', 'i', 'n', 't', 'e', 'r', 'n', 'a', 'l', '_', 'w', 'o', 'r', 'd', 's', '_', 'b', '1', '.', 'F', 'n', 'R', 'e', 'p', 'l', 'a', 'c', 'e', 'S', 'u', 'f', 'f', 'i', 'x', 'I', 'g', 'n', 'o', 'r', 'e', 's', 'R', 'u', 'l', 'e', 's', 'I', 't', 'D', 'o', 'e', 's', 'N', 'o', 't', 'R', 'e', 'a', 'c', 'h']
theorem head_is : Try.prog.initOrder = String.ofList headSigns := by kernel_rfl
theorem head_signs : Try.prog.initOrder.toList = headSigns := by rw [head_is]; exact String.toList_ofList
def theRest : List (List Char) := match behindMainWord (wordsSigns headSigns) with | _ :: r => r | [] => []
theorem words_are : behindMainWord (wordsSigns headSigns) = "cut".toList :: theRest := by kernel_rfl
theorem head_words : behindMainWord (wordsSigns Try.prog.initOrder.toList) = "cut".toList :: theRest := by rw [head_signs, words_are]
theorem strip_are : stripLifts liftWords ("cut".toList :: theRest) = ([], "cut".toList :: theRest) := by kernel_rfl
theorem lays : Try.prog.laysLater = false := by kernel_rfl
theorem bears : Try.prog.bearsReflect = false := by kernel_rfl
theorem doors : Try.prog.doorFits [] = true := by kernel_rfl

/-! Of whatever program whose head line reads so: -/
theorem enters_of (Q : Program) (h : behindMainWord (wordsSigns Q.initOrder.toList) = "cut".toList :: theRest) (h1 : Q.laysLater = false) (h2 : Q.bearsReflect = false) (h3 : Q.doorFits [] = true) : Q.mayEnter = true := by
  unfold Program.mayEnter
  rw [h]
  have a1 : ("cut".toList == "gc".toList) = false := by decide
  have a2 : ("cut".toList == "spec".toList) = false := by decide
  have a3 : ("cut".toList == "carried".toList) = false := by decide
  have a4 : (some "cut".toList == some "cut".toList) = true := by decide
  simp only [a1, a2, a3, strip_are, h1, h2, h3, List.head?_cons, a4]
  rfl
theorem headLifts_of (Q : Program) (h : behindMainWord (wordsSigns Q.initOrder.toList) = "cut".toList :: theRest) : Q.headLifts = [] := by
  unfold Program.headLifts
  rw [h, strip_are]
  simp
theorem liftsFinal_of (Q : Program) (h : behindMainWord (wordsSigns Q.initOrder.toList) = "cut".toList :: theRest) : Q.liftsFinal = false := by
  unfold Program.liftsFinal
  rw [h, headLifts_of Q h]
  have a1 : (some "cut".toList == some "carried".toList) = false := by decide
  simp only [List.head?_cons, a1]
  rfl
theorem make_of (Q : Program) (h : behindMainWord (wordsSigns Q.initOrder.toList) = "cut".toList :: theRest) : Q.make = some .cut := by
  unfold Program.make
  rw [h]
  have a1 : ¬ (("cut".toList == "gc".toList || "cut".toList == "spec".toList) = true) := by decide
  have a2 : ("cut".toList == "cut".toList || ("cut".toList == "finals".toList && theRest.head? == some "cut".toList)) = true := by decide
  simp only []
  rw [if_neg a1, if_pos a2]

theorem may_enter : Try.prog.mayEnter = true := enters_of _ head_words lays bears doors
theorem lifts_final : Try.prog.liftsFinal = false := liftsFinal_of _ head_words
theorem made : Try.prog.make = some .cut := make_of _ head_words
theorem beq_lift (Q : Program) (b : Bool) (h : Q.liftsFinal = b) : (b == Q.liftsFinal) = true := by rw [h]; exact beq_self_eq_true _
theorem beq_make (Q : Program) (m : Make) (h : Q.make = some m) : (Q.make == some m) = true := by
  rw [h]; cases m <;> simp_all
end Go.Proofs.Qxb6000751a
