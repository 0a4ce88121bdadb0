/-
  THE ROW's CLOSED FACTS, one theorem a fact. Three of them read the words of the dump's head ('initOrder'); over its 830 signs the kernel's own way from a string literal to its list of signs takes some 8 GB: so the list is laid as numbers (io_eq: the two strings are one; String.toList_ofList does the rest).
-/
import Derived.Test.Qxb6602743aRows
import Derived.JoinedOf
import Derived.KernelRfl
namespace Go.Proofs.Qxb6602743a.Closed
open Go

def ioCodes : List Nat := [
  104, 97, 114, 110, 101, 115, 115, 32, 101, 56, 55, 57, 53, 97, 56, 97, 57, 53, 99, 48, 97, 49, 98, 51, 57, 98, 100, 54, 55, 56, 98, 53, 52, 49, 98, 55, 102, 57, 49, 101,
  50, 54, 100, 97, 56, 100, 48, 98, 99, 98, 101, 57, 99, 49, 102, 54, 57, 54, 100, 55, 54, 101, 53, 56, 49, 50, 102, 53, 51, 101, 98, 51, 32, 99, 117, 116, 32, 97, 116, 32,
  101, 120, 97, 109, 112, 108, 101, 46, 99, 111, 109, 47, 99, 104, 97, 114, 116, 119, 97, 114, 100, 101, 110, 47, 99, 104, 97, 114, 116, 119, 97, 114, 100, 101, 110, 47, 122, 122, 108, 97,
  119, 115, 95, 105, 110, 116, 101, 114, 110, 97, 108, 95, 99, 104, 97, 114, 116, 114, 101, 112, 111, 95, 98, 49, 46, 70, 110, 67, 104, 97, 114, 116, 114, 101, 112, 111, 83, 104, 97, 114,
  101, 65, 100, 111, 112, 116, 115, 80, 114, 101, 118, 69, 120, 97, 99, 116, 108, 121, 87, 104, 101, 114, 101, 69, 113, 117, 97, 108, 32, 101, 120, 97, 109, 112, 108, 101, 46, 99, 111, 109,
  47, 99, 104, 97, 114, 116, 119, 97, 114, 100, 101, 110, 47, 99, 104, 97, 114, 116, 119, 97, 114, 100, 101, 110, 47, 122, 122, 108, 97, 119, 115, 95, 105, 110, 116, 101, 114, 110, 97, 108,
  95, 99, 104, 97, 114, 116, 114, 101, 112, 111, 95, 98, 49, 46, 70, 110, 67, 104, 97, 114, 116, 114, 101, 112, 111, 83, 104, 97, 114, 101, 75, 101, 101, 112, 115, 67, 111, 110, 116, 101,
  110, 116, 32, 101, 120, 97, 109, 112, 108, 101, 46, 99, 111, 109, 47, 99, 104, 97, 114, 116, 119, 97, 114, 100, 101, 110, 47, 99, 104, 97, 114, 116, 119, 97, 114, 100, 101, 110, 47, 122,
  122, 108, 97, 119, 115, 95, 105, 110, 116, 101, 114, 110, 97, 108, 95, 99, 104, 97, 114, 116, 114, 101, 112, 111, 95, 98, 49, 46, 70, 110, 67, 104, 97, 114, 116, 114, 101, 112, 111, 68,
  101, 99, 105, 109, 97, 108, 77, 97, 116, 99, 104, 101, 115, 80, 97, 114, 115, 101, 82, 101, 110, 100, 101, 114, 32, 101, 120, 97, 109, 112, 108, 101, 46, 99, 111, 109, 47, 99, 104, 97,
  114, 116, 119, 97, 114, 100, 101, 110, 47, 99, 104, 97, 114, 116, 119, 97, 114, 100, 101, 110, 47, 122, 122, 108, 97, 119, 115, 95, 105, 110, 116, 101, 114, 110, 97, 108, 95, 99, 104, 97,
  114, 116, 114, 101, 112, 111, 95, 98, 49, 46, 70, 110, 67, 104, 97, 114, 116, 114, 101, 112, 111, 68, 101, 99, 105, 109, 97, 108, 79, 102, 82, 101, 110, 100, 101, 114, 101, 100, 73, 110,
  116, 54, 52, 32, 101, 120, 97, 109, 112, 108, 101, 46, 99, 111, 109, 47, 99, 104, 97, 114, 116, 119, 97, 114, 100, 101, 110, 47, 99, 104, 97, 114, 116, 119, 97, 114, 100, 101, 110, 47,
  122, 122, 108, 97, 119, 115, 95, 105, 110, 116, 101, 114, 110, 97, 108, 95, 99, 104, 97, 114, 116, 114, 101, 112, 111, 95, 98, 49, 46, 70, 110, 67, 104, 97, 114, 116, 114, 101, 112, 111,
  80, 108, 97, 105, 110, 87, 111, 114, 100, 77, 97, 116, 99, 104, 101, 115, 84, 97, 98, 108, 101, 32, 101, 120, 97, 109, 112, 108, 101, 46, 99, 111, 109, 47, 99, 104, 97, 114, 116, 119,
  97, 114, 100, 101, 110, 47, 99, 104, 97, 114, 116, 119, 97, 114, 100, 101, 110, 47, 122, 122, 108, 97, 119, 115, 95, 105, 110, 116, 101, 114, 110, 97, 108, 95, 99, 104, 97, 114, 116, 114,
  101, 112, 111, 95, 98, 49, 46, 70, 110, 67, 104, 97, 114, 116, 114, 101, 112, 111, 80, 108, 97, 105, 110, 87, 111, 114, 100, 79, 102, 67, 111, 110, 99, 97, 116, 101, 110, 97, 116, 105,
  111, 110, 32, 101, 120, 97, 109, 112, 108, 101, 46, 99, 111, 109, 47, 99, 104, 97, 114, 116, 119, 97, 114, 100, 101, 110, 47, 99, 104, 97, 114, 116, 119, 97, 114, 100, 101, 110, 47, 122,
  122, 108, 97, 119, 115, 95, 105, 110, 116, 101, 114, 110, 97, 108, 95, 99, 104, 97, 114, 116, 114, 101, 112, 111, 95, 98, 49, 46, 70, 110, 67, 104, 97, 114, 116, 114, 101, 112, 111, 80,
  108, 97, 105, 110, 87, 111, 114, 100, 77, 111, 114, 101, 79, 116, 104, 101, 114, 115]
theorem io_eq : Try.prog.initOrder = String.ofList (ioCodes.map Char.ofNat) := by kernel_rfl
theorem io_list : Try.prog.initOrder.toList = ioCodes.map Char.ofNat := by rw [io_eq, String.toList_ofList]
theorem words : ∃ R, behindMainWord (wordsSigns Try.prog.initOrder.toList) = ['c', 'u', 't'] :: R := by
  rw [io_list]
  exact ⟨(behindMainWord (wordsSigns (ioCodes.map Char.ofNat))).tail, by kernel_rfl⟩
theorem may_of (P : Program) (R : List (List Char)) (h : behindMainWord (wordsSigns P.initOrder.toList) = ['c', 'u', 't'] :: R)
    (a : P.laysLater = false) (b : P.bearsReflect = false) (c : P.doorFits [] = true) : P.mayEnter = true := by
  have e : (stripLifts liftWords (['c', 'u', 't'] :: R)) = ([], ['c', 'u', 't'] :: R) := by kernel_rfl
  unfold Program.mayEnter
  rw [h]
  simp only [e, a, b, c]
  rfl
theorem lifts_of (P : Program) (R : List (List Char)) (h : behindMainWord (wordsSigns P.initOrder.toList) = ['c', 'u', 't'] :: R) : P.liftsFinal = false := by
  unfold Program.liftsFinal Program.headLifts
  rw [h]
  kernel_rfl
theorem make_of (P : Program) (R : List (List Char)) (h : behindMainWord (wordsSigns P.initOrder.toList) = ['c', 'u', 't'] :: R) : P.make = some .cut := by
  unfold Program.make
  rw [h]
  kernel_rfl
theorem mayEnter : Try.prog.mayEnter = true := by
  obtain ⟨R, h⟩ := words
  exact may_of Try.prog R h (by kernel_rfl) (by kernel_rfl) (by kernel_rfl)
theorem lifts : Try.prog.liftsFinal = false := by
  obtain ⟨R, h⟩ := words
  exact lifts_of Try.prog R h
theorem make : Try.prog.make = some .cut := by
  obtain ⟨R, h⟩ := words
  exact make_of Try.prog R h


theorem andT {a b : Bool} (h : a = true) (k : b = true) : (a && b) = true := by rw [h, k]; rfl
theorem lifted_of (P : Program) (c : OpenClaim) (h : P.liftsFinal = false) (k : c.lifted = false) : (c.lifted == P.liftsFinal) = true := by rw [h, k]; rfl
theorem make_is (P : Program) (c : OpenClaim) (h : P.make = some .cut) (k : c.make = .cut) : (P.make == some c.make) = true := by rw [h, k]; rfl
theorem liftedB : (Rows.fnChartrepoPlainWordMatchesTableRow.lifted == Try.prog.liftsFinal) = true := lifted_of _ _ lifts rfl
theorem makeB : (Try.prog.make == some Rows.fnChartrepoPlainWordMatchesTableRow.make) = true := make_is _ _ make rfl

theorem closed : joinedFacts Try.prog 7 Try.f7 Rows.fnChartrepoPlainWordMatchesTableSpec Rows.fnChartrepoPlainWordMatchesTableRow = true := by
  unfold joinedFacts
  repeat' (with_reducible refine andT ?_ ?_)
  all_goals first
    | with_reducible exact mayEnter
    | with_reducible exact liftedB
    | with_reducible exact makeB
    | kernel_rfl
end Go.Proofs.Qxb6602743a.Closed
