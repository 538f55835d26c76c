/-
  The facts of the program that every row asks alike. They read the head's line of roots, and the kernel reads a long text sign by sign only where the text is laid as a list of numbers first (else each costs over ten gigabytes).
  Conditions: none.
-/
import Derived.Test.YtgdjfgbipmajmaaRows
import Derived.Test.YtgdjfgbipmajmaaArgs
import Derived.OpenShut
import Derived.ShutString
import Derived.ChangeOld
namespace Go.Proofs.Ytgdjfgbipmajmaa.facts
open Go.ChangeShapes Go.WideShapes Go.ChangeAt Go.RowKit

theorem and_i {a b : Bool} (h1 : a = true) (h2 : b = true) : (a && b) = true := by subst h1; subst h2; rfl

set_option maxRecDepth 100000 in
def headNums : List Nat := [104, 97, 114, 110, 101, 115, 115, 32, 101, 54, 101, 101, 55, 50, 53, 99, 101, 50, 49, 101, 54, 54, 102, 57, 100, 55, 98, 99, 57, 101, 51, 99, 48, 48, 101, 54, 100, 50, 55, 99, 57, 100, 51, 102, 48, 102, 57, 55, 57, 49, 99, 48, 97, 102, 101, 100, 99, 50, 51, 102, 50, 57, 51, 102, 52, 50, 57, 48, 48, 51, 101, 56, 32, 99, 117, 116, 32, 97, 116, 32, 108, 111, 111, 112, 46, 101, 120, 97, 109, 112, 108, 101, 47, 112, 117, 98, 45, 110, 117, 109, 98, 101, 114, 108, 105, 115, 116, 115, 47, 108, 97, 119, 115, 46, 70, 110, 72, 101, 97, 112, 80, 101, 101, 107, 101, 100, 32, 108, 111, 111, 112, 46, 101, 120, 97, 109, 112, 108, 101, 47, 112, 117, 98, 45, 110, 117, 109, 98, 101, 114, 108, 105, 115, 116, 115, 47, 108, 97, 119, 115, 46, 70, 110, 81, 117, 101, 117, 101, 80, 101, 101, 107, 101, 100, 32, 108, 111, 111, 112, 46, 101, 120, 97, 109, 112, 108, 101, 47, 112, 117, 98, 45, 110, 117, 109, 98, 101, 114, 108, 105, 115, 116, 115, 47, 108, 97, 119, 115, 46, 70, 110, 72, 101, 97, 112, 81, 117, 101, 117, 101, 32, 108, 111, 111, 112, 46, 101, 120, 97, 109, 112, 108, 101, 47, 112, 117, 98, 45, 110, 117, 109, 98, 101, 114, 108, 105, 115, 116, 115, 47, 108, 97, 119, 115, 46, 70, 110, 69, 120, 97, 99, 116, 72, 101, 97, 112, 82, 117, 110, 32, 108, 111, 111, 112, 46, 101, 120, 97, 109, 112, 108, 101, 47, 112, 117, 98, 45, 110, 117, 109, 98, 101, 114, 108, 105, 115, 116, 115, 47, 108, 97, 119, 115, 46, 70, 110, 72, 101, 97, 112, 83, 111, 114, 116, 115, 32, 108, 111, 111, 112, 46, 101, 120, 97, 109, 112, 108, 101, 47, 112, 117, 98, 45, 110, 117, 109, 98, 101, 114, 108, 105, 115, 116, 115, 47, 108, 97, 119, 115, 46, 70, 110, 69, 120, 97, 99, 116, 81, 117, 101, 117, 101, 82, 117, 110, 32, 108, 111, 111, 112, 46, 101, 120, 97, 109, 112, 108, 101, 47, 112, 117, 98, 45, 110, 117, 109, 98, 101, 114, 108, 105, 115, 116, 115, 47, 108, 97, 119, 115, 46, 70, 110, 81, 117, 101, 117, 101, 83, 111, 114, 116, 115, 32, 108, 111, 111, 112, 46, 101, 120, 97, 109, 112, 108, 101, 47, 112, 117, 98, 45, 110, 117, 109, 98, 101, 114, 108, 105, 115, 116, 115, 47, 108, 97, 119, 115, 46, 70, 110, 69, 120, 97, 99, 116, 72, 101, 97, 112, 83, 116, 97, 116, 101, 32, 108, 111, 111, 112, 46, 101, 120, 97, 109, 112, 108, 101, 47, 112, 117, 98, 45, 110, 117, 109, 98, 101, 114, 108, 105, 115, 116, 115, 47, 108, 97, 119, 115, 46, 70, 110, 72, 101, 97, 112, 82, 117, 110, 82, 101, 115, 116, 32, 108, 111, 111, 112, 46, 101, 120, 97, 109, 112, 108, 101, 47, 112, 117, 98, 45, 110, 117, 109, 98, 101, 114, 108, 105, 115, 116, 115, 47, 108, 97, 119, 115, 46, 70, 110, 69, 120, 97, 99, 116, 81, 117, 101, 117, 101, 83, 116, 97, 116, 101, 32, 108, 111, 111, 112, 46, 101, 120, 97, 109, 112, 108, 101, 47, 112, 117, 98, 45, 110, 117, 109, 98, 101, 114, 108, 105, 115, 116, 115, 47, 108, 97, 119, 115, 46, 70, 110, 81, 117, 101, 117, 101, 82, 117, 110, 82, 101, 115, 116, 32, 108, 111, 111, 112, 46, 101, 120, 97, 109, 112, 108, 101, 47, 112, 117, 98, 45, 110, 117, 109, 98, 101, 114, 108, 105, 115, 116, 115, 47, 108, 97, 119, 115, 46, 70, 110, 83, 111, 114, 116, 78, 117, 109, 98, 101, 114, 115, 32, 108, 111, 111, 112, 46, 101, 120, 97, 109, 112, 108, 101, 47, 112, 117, 98, 45, 110, 117, 109, 98, 101, 114, 108, 105, 115, 116, 115, 47, 108, 97, 119, 115, 46, 70, 110, 72, 101, 97, 112, 70, 111, 114, 119, 97, 114, 100, 32, 108, 111, 111, 112, 46, 101, 120, 97, 109, 112, 108, 101, 47, 112, 117, 98, 45, 110, 117, 109, 98, 101, 114, 108, 105, 115, 116, 115, 47, 108, 97, 119, 115, 46, 70, 110, 72, 101, 97, 112, 66, 97, 99, 107, 32, 108, 111, 111, 112, 46, 101, 120, 97, 109, 112, 108, 101, 47, 112, 117, 98, 45, 110, 117, 109, 98, 101, 114, 108, 105, 115, 116, 115, 47, 108, 97, 119, 115, 46, 70, 110, 81, 117, 101, 117, 101, 70, 111, 114, 119, 97, 114, 100, 32, 108, 111, 111, 112, 46, 101, 120, 97, 109, 112, 108, 101, 47, 112, 117, 98, 45, 110, 117, 109, 98, 101, 114, 108, 105, 115, 116, 115, 47, 108, 97, 119, 115, 46, 70, 110, 81, 117, 101, 117, 101, 66, 97, 99, 107]
def headSigns : List Char := headNums.map Char.ofNat
theorem head_text : Try.prog.initOrder = String.ofList headSigns := by kernel_rfl
theorem head_signs : Try.prog.initOrder.toList = headSigns := by rw [head_text]; exact String.toList_ofList
theorem head_words : behindMainWord (wordsSigns Try.prog.initOrder.toList) = behindMainWord (wordsSigns headSigns) := by rw [head_signs]
def cutWord : List Char := [99, 117, 116].map Char.ofNat
theorem head_one : (behindMainWord (wordsSigns headSigns)).head? = some cutWord := by kernel_rfl
theorem head_cut : ∃ rest, behindMainWord (wordsSigns Try.prog.initOrder.toList) = cutWord :: rest := by
  rw [head_words]
  have h := head_one
  generalize behindMainWord (wordsSigns headSigns) = x at h
  cases x with
  | nil => cases h
  | cons a l => obtain rfl : a = cutWord := by simpa using h
                exact ⟨l, rfl⟩
theorem strip_cut (rest : List (List Char)) : stripLifts liftWords (cutWord :: rest) = ([], cutWord :: rest) := by kernel_rfl
theorem not_later : Try.prog.laysLater = false := by kernel_rfl
theorem not_reflect : Try.prog.bearsReflect = false := by kernel_rfl
theorem door_fits : Try.prog.doorFits [] = true := by kernel_rfl
theorem may_enter_of (P : Program) {rest : List (List Char)} (h : behindMainWord (wordsSigns P.initOrder.toList) = cutWord :: rest) (h1 : P.laysLater = false) (h2 : P.bearsReflect = false) (h3 : P.doorFits [] = true) : P.mayEnter = true := by
  unfold Program.mayEnter
  rw [h]
  simp only [strip_cut, h1, h2, h3]
  kernel_rfl
theorem may_enter : Try.prog.mayEnter = true := by
  obtain ⟨rest, h⟩ := head_cut
  exact may_enter_of _ h not_later not_reflect door_fits
theorem lifts_of (P : Program) {rest : List (List Char)} (h : behindMainWord (wordsSigns P.initOrder.toList) = cutWord :: rest) : P.headLifts = [] := by
  unfold Program.headLifts
  rw [h]
  simp only [strip_cut]
  exact ite_self _
theorem final_of (P : Program) {rest : List (List Char)} (h : behindMainWord (wordsSigns P.initOrder.toList) = cutWord :: rest) : P.liftsFinal = false := by
  unfold Program.liftsFinal
  rw [h, lifts_of P h]
  kernel_rfl
theorem lifts_final (c : OpenClaim) (hc : c.lifted = false) : (c.lifted == Try.prog.liftsFinal) = true := by
  obtain ⟨rest, h⟩ := head_cut
  rw [final_of _ h, hc]
  kernel_rfl
theorem make_of (P : Program) {rest : List (List Char)} (h : behindMainWord (wordsSigns P.initOrder.toList) = cutWord :: rest) : P.make = some .cut := by
  unfold Program.make
  rw [h]
  kernel_rfl
theorem make_is (c : OpenClaim) (hc : c.make = .cut) : (Try.prog.make == some c.make) = true := by
  obtain ⟨rest, h⟩ := head_cut
  rw [make_of _ h, hc]
  kernel_rfl
end Go.Proofs.Ytgdjfgbipmajmaa.facts
