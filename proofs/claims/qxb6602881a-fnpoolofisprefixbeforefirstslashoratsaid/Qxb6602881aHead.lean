/-
  THE FACTS OF THE DUMP's HEAD that a row's closed facts ask for. Over its 266 signs the kernel's own way from a string literal to its list of signs takes gigabytes: so the list is laid as numbers (io_eq: the two strings are one; String.toList_ofList does the rest).
-/
import Derived.Test.Qxb6602881aProg
import Derived.JoinedOf
import Derived.KernelRfl
namespace Go.Proofs.Qxb6602881a.Head
open Go

def ioCodes : List Nat := [
  104, 97, 114, 110, 101, 115, 115, 32, 55, 52, 98, 101, 100, 100, 51, 52, 99, 54, 55, 51, 51, 97, 102, 97, 48, 102, 52, 53, 54, 53, 57, 99, 48, 102, 50, 102, 57, 98, 99, 98,
  53, 53, 99, 99, 101, 52, 49, 57, 50, 57, 49, 102, 50, 98, 53, 52, 52, 49, 98, 51, 52, 56, 51, 99, 56, 54, 48, 102, 53, 51, 52, 102, 32, 99, 117, 116, 32, 97, 116, 32,
  101, 120, 97, 109, 112, 108, 101, 46, 99, 111, 109, 47, 115, 116, 105, 108, 108, 102, 114, 97, 109, 101, 47, 115, 116, 105, 108, 108, 102, 114, 97, 109, 101, 47, 122, 122, 108, 97, 119, 115,
  95, 105, 110, 116, 101, 114, 110, 97, 108, 95, 122, 102, 115, 95, 98, 49, 46, 70, 110, 80, 111, 111, 108, 79, 102, 73, 115, 80, 114, 101, 102, 105, 120, 66, 101, 102, 111, 114, 101, 70,
  105, 114, 115, 116, 83, 108, 97, 115, 104, 79, 114, 65, 116, 32, 101, 120, 97, 109, 112, 108, 101, 46, 99, 111, 109, 47, 115, 116, 105, 108, 108, 102, 114, 97, 109, 101, 47, 115, 116, 105,
  108, 108, 102, 114, 97, 109, 101, 47, 122, 122, 108, 97, 119, 115, 95, 105, 110, 116, 101, 114, 110, 97, 108, 95, 122, 102, 115, 95, 98, 49, 46, 70, 110, 80, 111, 111, 108, 79, 102, 83,
  97, 109, 101, 70, 111, 114, 67, 104, 105, 108, 100, 114, 101, 110, 65, 110, 100, 83, 110, 97, 112, 115, 104, 111, 116, 115]
theorem io_eq : Try.prog.initOrder = String.ofList (ioCodes.map Char.ofNat) := by kernel_rfl
theorem io_list : Try.prog.initOrder.toList = ioCodes.map Char.ofNat := by rw [io_eq, String.toList_ofList]
theorem words : ∃ R, behindMainWord (wordsSigns Try.prog.initOrder.toList) = ['c', 'u', 't'] :: R := by
  rw [io_list]
  exact ⟨(behindMainWord (wordsSigns (ioCodes.map Char.ofNat))).tail, by kernel_rfl⟩
theorem may_of (P : Program) (R : List (List Char)) (h : behindMainWord (wordsSigns P.initOrder.toList) = ['c', 'u', 't'] :: R)
    (a : P.laysLater = false) (b : P.bearsReflect = false) (c : P.doorFits [] = true) : P.mayEnter = true := by
  have e : (stripLifts liftWords (['c', 'u', 't'] :: R)) = ([], ['c', 'u', 't'] :: R) := by kernel_rfl
  unfold Program.mayEnter
  rw [h]
  simp only [e, a, b, c]
  rfl
theorem lifts_of (P : Program) (R : List (List Char)) (h : behindMainWord (wordsSigns P.initOrder.toList) = ['c', 'u', 't'] :: R) : P.liftsFinal = false := by
  unfold Program.liftsFinal Program.headLifts
  rw [h]
  kernel_rfl
theorem make_of (P : Program) (R : List (List Char)) (h : behindMainWord (wordsSigns P.initOrder.toList) = ['c', 'u', 't'] :: R) : P.make = some .cut := by
  unfold Program.make
  rw [h]
  kernel_rfl
theorem mayEnter : Try.prog.mayEnter = true := by
  obtain ⟨R, h⟩ := words
  exact may_of Try.prog R h (by kernel_rfl) (by kernel_rfl) (by kernel_rfl)
theorem lifts : Try.prog.liftsFinal = false := by
  obtain ⟨R, h⟩ := words
  exact lifts_of Try.prog R h
theorem make : Try.prog.make = some .cut := by
  obtain ⟨R, h⟩ := words
  exact make_of Try.prog R h

theorem andT {a b : Bool} (h : a = true) (k : b = true) : (a && b) = true := by rw [h, k]; rfl
theorem lifted_of (P : Program) (c : OpenClaim) (h : P.liftsFinal = false) (k : c.lifted = false) : (c.lifted == P.liftsFinal) = true := by rw [h, k]; rfl
theorem make_is (P : Program) (c : OpenClaim) (h : P.make = some .cut) (k : c.make = .cut) : (P.make == some c.make) = true := by rw [h, k]; rfl
end Go.Proofs.Qxb6602881a.Head
