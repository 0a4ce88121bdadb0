/-
  THE FACTS OF THE DUMP's HEAD that a row's closed facts ask for. Over its 493 signs the kernel's own way from a string literal to its list of signs takes gigabytes: so the list is laid as numbers (io_eq: the two strings are one; String.toList_ofList does the rest).
-/
import Derived.Test.Qxb6602803aProg
import Derived.JoinedOf
import Derived.KernelRfl
namespace Go.Proofs.Qxb6602803a.Head
open Go

def ioCodes : List Nat := [
  104, 97, 114, 110, 101, 115, 115, 32, 49, 55, 49, 54, 49, 54, 98, 102, 57, 97, 48, 56, 55, 98, 101, 100, 100, 49, 52, 98, 52, 98, 54, 48, 56, 101, 57, 100, 54, 48, 57, 48,
  52, 55, 48, 48, 51, 101, 57, 52, 100, 99, 51, 101, 52, 51, 49, 97, 57, 51, 102, 57, 99, 100, 102, 101, 49, 54, 48, 99, 97, 56, 56, 49, 32, 99, 117, 116, 32, 97, 116, 32,
  101, 120, 97, 109, 112, 108, 101, 46, 99, 111, 109, 47, 115, 105, 110, 107, 119, 114, 105, 103, 104, 116, 47, 115, 105, 110, 107, 119, 114, 105, 103, 104, 116, 47, 122, 122, 108, 97, 119, 115,
  95, 105, 110, 116, 101, 114, 110, 97, 108, 95, 115, 113, 108, 115, 105, 110, 107, 95, 98, 49, 46, 70, 110, 85, 115, 101, 114, 73, 110, 102, 111, 79, 102, 80, 97, 114, 116, 115, 32, 101,
  120, 97, 109, 112, 108, 101, 46, 99, 111, 109, 47, 115, 105, 110, 107, 119, 114, 105, 103, 104, 116, 47, 115, 105, 110, 107, 119, 114, 105, 103, 104, 116, 47, 122, 122, 108, 97, 119, 115, 95,
  105, 110, 116, 101, 114, 110, 97, 108, 95, 115, 113, 108, 115, 105, 110, 107, 95, 98, 49, 46, 70, 110, 67, 117, 116, 80, 97, 115, 115, 119, 111, 114, 100, 77, 97, 116, 99, 104, 101, 115,
  77, 111, 100, 101, 108, 32, 101, 120, 97, 109, 112, 108, 101, 46, 99, 111, 109, 47, 115, 105, 110, 107, 119, 114, 105, 103, 104, 116, 47, 115, 105, 110, 107, 119, 114, 105, 103, 104, 116, 47,
  122, 122, 108, 97, 119, 115, 95, 105, 110, 116, 101, 114, 110, 97, 108, 95, 115, 113, 108, 115, 105, 110, 107, 95, 98, 49, 46, 70, 110, 67, 117, 116, 80, 97, 115, 115, 119, 111, 114, 100,
  73, 100, 101, 109, 112, 111, 116, 101, 110, 116, 32, 101, 120, 97, 109, 112, 108, 101, 46, 99, 111, 109, 47, 115, 105, 110, 107, 119, 114, 105, 103, 104, 116, 47, 115, 105, 110, 107, 119, 114,
  105, 103, 104, 116, 47, 122, 122, 108, 97, 119, 115, 95, 105, 110, 116, 101, 114, 110, 97, 108, 95, 115, 113, 108, 115, 105, 110, 107, 95, 98, 49, 46, 70, 110, 67, 117, 116, 80, 97, 115,
  115, 119, 111, 114, 100, 79, 102, 80, 97, 114, 116, 115, 32, 101, 120, 97, 109, 112, 108, 101, 46, 99, 111, 109, 47, 115, 105, 110, 107, 119, 114, 105, 103, 104, 116, 47, 115, 105, 110, 107,
  119, 114, 105, 103, 104, 116, 47, 122, 122, 108, 97, 119, 115, 95, 105, 110, 116, 101, 114, 110, 97, 108, 95, 115, 113, 108, 115, 105, 110, 107, 95, 98, 49, 46, 70, 110, 83, 97, 109, 101,
  73, 115, 69, 113, 117, 105, 118, 97, 108, 101, 110, 99, 101]
theorem io_eq : Try.prog.initOrder = String.ofList (ioCodes.map Char.ofNat) := by kernel_rfl
theorem io_list : Try.prog.initOrder.toList = ioCodes.map Char.ofNat := by rw [io_eq, String.toList_ofList]
theorem words : ∃ R, behindMainWord (wordsSigns Try.prog.initOrder.toList) = ['c', 'u', 't'] :: R := by
  rw [io_list]
  exact ⟨(behindMainWord (wordsSigns (ioCodes.map Char.ofNat))).tail, by kernel_rfl⟩
theorem may_of (P : Program) (R : List (List Char)) (h : behindMainWord (wordsSigns P.initOrder.toList) = ['c', 'u', 't'] :: R)
    (a : P.laysLater = false) (b : P.bearsReflect = false) (c : P.doorFits [] = true) : P.mayEnter = true := by
  have e : (stripLifts liftWords (['c', 'u', 't'] :: R)) = ([], ['c', 'u', 't'] :: R) := by kernel_rfl
  unfold Program.mayEnter
  rw [h]
  simp only [e, a, b, c]
  rfl
theorem lifts_of (P : Program) (R : List (List Char)) (h : behindMainWord (wordsSigns P.initOrder.toList) = ['c', 'u', 't'] :: R) : P.liftsFinal = false := by
  unfold Program.liftsFinal Program.headLifts
  rw [h]
  kernel_rfl
theorem make_of (P : Program) (R : List (List Char)) (h : behindMainWord (wordsSigns P.initOrder.toList) = ['c', 'u', 't'] :: R) : P.make = some .cut := by
  unfold Program.make
  rw [h]
  kernel_rfl
theorem mayEnter : Try.prog.mayEnter = true := by
  obtain ⟨R, h⟩ := words
  exact may_of Try.prog R h (by kernel_rfl) (by kernel_rfl) (by kernel_rfl)
theorem lifts : Try.prog.liftsFinal = false := by
  obtain ⟨R, h⟩ := words
  exact lifts_of Try.prog R h
theorem make : Try.prog.make = some .cut := by
  obtain ⟨R, h⟩ := words
  exact make_of Try.prog R h

theorem andT {a b : Bool} (h : a = true) (k : b = true) : (a && b) = true := by rw [h, k]; rfl
theorem lifted_of (P : Program) (c : OpenClaim) (h : P.liftsFinal = false) (k : c.lifted = false) : (c.lifted == P.liftsFinal) = true := by rw [h, k]; rfl
theorem make_is (P : Program) (c : OpenClaim) (h : P.make = some .cut) (k : c.make = .cut) : (P.make == some c.make) = true := by rw [h, k]; rfl
end Go.Proofs.Qxb6602803a.Head
