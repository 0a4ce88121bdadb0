/-
  THE FACTS OF THE DUMP's HEAD that a row's closed facts ask for. Over its 211 signs the kernel's own way from a string literal to its list of signs takes gigabytes: so the list is laid as numbers (io_eq: the two strings are one; String.toList_ofList does the rest).
-/
import Derived.Test.Qxb6603074aProg
import Derived.JoinedOf
import Derived.KernelRfl
namespace Go.Proofs.Qxb6603074a.Head
open Go

def ioCodes : List Nat := [
  104, 97, 114, 110, 101, 115, 115, 32, 55, 102, 49, 98, 98, 100, 97, 56, 51, 50, 98, 101, 51, 57, 52, 102, 49, 55, 52, 55, 50, 102, 100, 56, 54, 53, 51, 102, 53, 50, 101, 51,
  99, 97, 56, 101, 53, 56, 51, 99, 56, 54, 53, 50, 51, 52, 48, 49, 56, 97, 102, 53, 97, 101, 52, 48, 57, 98, 50, 48, 57, 49, 51, 54, 32, 99, 117, 116, 32, 97, 116, 32,
  101, 120, 97, 109, 112, 108, 101, 46, 99, 111, 109, 47, 97, 110, 97, 110, 115, 105, 47, 97, 110, 97, 110, 115, 105, 47, 122, 122, 108, 97, 119, 115, 95, 101, 120, 116, 114, 97, 99, 116,
  95, 98, 49, 46, 70, 110, 84, 111, 108, 100, 77, 97, 116, 99, 104, 101, 115, 83, 99, 97, 110, 32, 101, 120, 97, 109, 112, 108, 101, 46, 99, 111, 109, 47, 97, 110, 97, 110, 115, 105,
  47, 97, 110, 97, 110, 115, 105, 47, 122, 122, 108, 97, 119, 115, 95, 101, 120, 116, 114, 97, 99, 116, 95, 98, 49, 46, 70, 110, 84, 111, 108, 100, 68, 101, 99, 105, 100, 101, 100, 83,
  116, 97, 121, 115, 68, 101, 99, 105, 100, 101, 100]
theorem io_eq : Try.prog.initOrder = String.ofList (ioCodes.map Char.ofNat) := by kernel_rfl
theorem io_list : Try.prog.initOrder.toList = ioCodes.map Char.ofNat := by rw [io_eq, String.toList_ofList]
theorem words : ∃ R, behindMainWord (wordsSigns Try.prog.initOrder.toList) = ['c', 'u', 't'] :: R := by
  rw [io_list]
  exact ⟨(behindMainWord (wordsSigns (ioCodes.map Char.ofNat))).tail, by kernel_rfl⟩
theorem may_of (P : Program) (R : List (List Char)) (h : behindMainWord (wordsSigns P.initOrder.toList) = ['c', 'u', 't'] :: R)
    (a : P.laysLater = false) (b : P.bearsReflect = false) (c : P.doorFits [] = true) : P.mayEnter = true := by
  have e : (stripLifts liftWords (['c', 'u', 't'] :: R)) = ([], ['c', 'u', 't'] :: R) := by kernel_rfl
  unfold Program.mayEnter
  rw [h]
  simp only [e, a, b, c]
  rfl
theorem lifts_of (P : Program) (R : List (List Char)) (h : behindMainWord (wordsSigns P.initOrder.toList) = ['c', 'u', 't'] :: R) : P.liftsFinal = false := by
  unfold Program.liftsFinal Program.headLifts
  rw [h]
  kernel_rfl
theorem make_of (P : Program) (R : List (List Char)) (h : behindMainWord (wordsSigns P.initOrder.toList) = ['c', 'u', 't'] :: R) : P.make = some .cut := by
  unfold Program.make
  rw [h]
  kernel_rfl
theorem mayEnter : Try.prog.mayEnter = true := by
  obtain ⟨R, h⟩ := words
  exact may_of Try.prog R h (by kernel_rfl) (by kernel_rfl) (by kernel_rfl)
theorem lifts : Try.prog.liftsFinal = false := by
  obtain ⟨R, h⟩ := words
  exact lifts_of Try.prog R h
theorem make : Try.prog.make = some .cut := by
  obtain ⟨R, h⟩ := words
  exact make_of Try.prog R h

theorem andT {a b : Bool} (h : a = true) (k : b = true) : (a && b) = true := by rw [h, k]; rfl
theorem lifted_of (P : Program) (c : OpenClaim) (h : P.liftsFinal = false) (k : c.lifted = false) : (c.lifted == P.liftsFinal) = true := by rw [h, k]; rfl
theorem make_is (P : Program) (c : OpenClaim) (h : P.make = some .cut) (k : c.make = .cut) : (P.make == some c.make) = true := by rw [h, k]; rfl
end Go.Proofs.Qxb6603074a.Head
