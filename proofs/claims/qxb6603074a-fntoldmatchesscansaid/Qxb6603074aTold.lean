/-
  THE CONTRACTS of told (10) and toldByScan (8) where the buffer opens with "<" and one byte more.
-/
import Derived.Test.Qxb6603074aBytes
namespace Go.Proofs.Qxb6603074a
open Go.RowKit

/-- the slice at block blk holds the n bytes f 0 .. f (n-1) -/
def Holds (w : World) (blk n : Nat) (f : Nat → Int) : Prop := (∀ i, i < n → w.cell? ⟨blk, i, none⟩ = some (.int .u8 (f i))) ∧ ∀ i, i < n → 0 ≤ f i ∧ f i ≤ 255

def sTag : ByteArray := ⟨#[116, 97, 103]⟩
def sData : ByteArray := ⟨#[100, 97, 116, 97]⟩
/-- tag or data, by a letter -/
def pickT (b : Bool) : ByteArray := if b = true then sTag else sData

set_option maxHeartbeats 1000000 in
theorem told_1a (w : World) (blk n c : Nat) (f : Nat → Int) (hn : n ≤ 1048576) (H : Hid (Holds w blk n f)) (h2 : 2 ≤ n) (h0 : (f 0 == 60) = true) (h1 : (f 1 == 47) = false) :
    Calls Try.prog 10 #[.slice (some ⟨blk, 0, none⟩) n c] w fun e w' => e = .returned (.string (pickT (isL (f 1)))) ∧ w' = w := by
  have c0 := H.out.1 0 (by omega)
  have c1 := H.out.1 1 (by omega)
  have ⟨b0, b1⟩ := H.out.2 1 (by omega)
  rcases or_cases (f 1) b0 b1 with ⟨hL, o1, o2⟩ | ⟨hL, o1⟩ | ⟨hL, o1⟩
  · rw [hL]
    clear hL
    go_enter Try.func10, Try.ntmps10
    go_wp2
    go_ret
    exact ⟨rfl, rfl⟩
  · rw [hL]
    clear hL
    go_enter Try.func10, Try.ntmps10
    go_wp2
    go_ret
    exact ⟨rfl, rfl⟩
  · rw [hL]
    clear hL
    have o2 : 97 ≤ bits BinOp.or IntKind.u8 (f 1) 32 := by omega
    go_enter Try.func10, Try.ntmps10
    go_wp2
    go_ret
    exact ⟨rfl, rfl⟩

set_option maxHeartbeats 1000000 in
theorem told_1b (w : World) (blk n c : Nat) (f : Nat → Int) (H : Hid (Holds w blk n f)) (h2 : 2 ≤ n) (h3 : n < 3) (h0 : (f 0 == 60) = true) (h1 : (f 1 == 47) = true) :
    Calls Try.prog 10 #[.slice (some ⟨blk, 0, none⟩) n c] w fun e w' => e = .returned (.string sData) ∧ w' = w := by
  have c0 := H.out.1 0 (by omega)
  have c1 := H.out.1 1 (by omega)
  have e1 : f 1 = 47 := by simpa using h1
  rw [e1] at c1
  have o1 : bits BinOp.or IntKind.u8 47 32 < 97 := by decide
  clear h1 e1
  go_enter Try.func10, Try.ntmps10
  go_wp2
  go_ret
  exact ⟨rfl, rfl⟩

set_option maxHeartbeats 1000000 in
theorem told_2 (w : World) (blk n c : Nat) (f : Nat → Int) (hn : n ≤ 1048576) (H : Hid (Holds w blk n f)) (h3 : 3 ≤ n) (h0 : (f 0 == 60) = true) (h1 : (f 1 == 47) = true) :
    Calls Try.prog 10 #[.slice (some ⟨blk, 0, none⟩) n c] w fun e w' => e = .returned (.string (pickT (isL (f 2)))) ∧ w' = w := by
  have c0 := H.out.1 0 (by omega)
  have c1 := H.out.1 1 (by omega)
  have c2 := H.out.1 2 (by omega)
  have ⟨b0, b1⟩ := H.out.2 2 (by omega)
  rcases or_cases (f 2) b0 b1 with ⟨hL, o1, o2⟩ | ⟨hL, o1⟩ | ⟨hL, o1⟩
  · rw [hL]
    clear hL
    go_enter Try.func10, Try.ntmps10
    go_wp2
    go_ret
    exact ⟨rfl, rfl⟩
  · rw [hL]
    clear hL
    go_enter Try.func10, Try.ntmps10
    go_wp2
    go_ret
    exact ⟨rfl, rfl⟩
  · rw [hL]
    clear hL
    have o2 : 97 ≤ bits BinOp.or IntKind.u8 (f 2) 32 := by omega
    go_enter Try.func10, Try.ntmps10
    go_wp2
    go_ret
    exact ⟨rfl, rfl⟩

set_option maxHeartbeats 1000000 in
theorem scan_1a (w : World) (blk n c : Nat) (f : Nat → Int) (hn : n ≤ 1048576) (H : Hid (Holds w blk n f)) (h2 : 2 ≤ n) (h0 : (f 0 == 60) = true) (h1 : (f 1 == 47) = false) :
    Calls Try.prog 8 #[.slice (some ⟨blk, 0, none⟩) n c] w fun e w' => e = .returned (.string (pickT (isL (f 1)))) ∧ w' = w := by
  have c0 := H.out.1 0 (by omega)
  have c1 := H.out.1 1 (by omega)
  have hl := let11 (f 1)
  cases hL : isL (f 1) with
  | true =>
    rw [hL] at hl
    have Hl : Hid _ := hl
    clear hL hl
    go_enter Try.func8, Try.ntmps8
    go_wp2_with (go_at_call 11; refine (Hl.out _).mono ?_; rintro e w ⟨rfl, rfl⟩)
    go_ret
    exact ⟨rfl, rfl⟩
  | false =>
    rw [hL] at hl
    have Hl : Hid _ := hl
    clear hL hl
    go_enter Try.func8, Try.ntmps8
    go_wp2_with (go_at_call 11; refine (Hl.out _).mono ?_; rintro e w ⟨rfl, rfl⟩)
    go_ret
    exact ⟨rfl, rfl⟩

set_option maxHeartbeats 1000000 in
theorem scan_1b (w : World) (blk n c : Nat) (f : Nat → Int) (H : Hid (Holds w blk n f)) (h2 : 2 ≤ n) (h3 : n < 3) (h0 : (f 0 == 60) = true) (h1 : (f 1 == 47) = true) :
    Calls Try.prog 8 #[.slice (some ⟨blk, 0, none⟩) n c] w fun e w' => e = .returned (.string sData) ∧ w' = w := by
  have c0 := H.out.1 0 (by omega)
  have c1 := H.out.1 1 (by omega)
  have e1 : f 1 = 47 := by simpa using h1
  rw [e1] at c1
  have hl : ∀ w, Calls Try.prog 11 #[.int .u8 47] w fun e w' => e = .returned (.bool false) ∧ w' = w := let11 47
  have Hl : Hid _ := hl
  clear h1 e1 hl
  go_enter Try.func8, Try.ntmps8
  go_wp2_with (go_at_call 11; refine (Hl.out _).mono ?_; rintro e w ⟨rfl, rfl⟩)
  go_ret
  exact ⟨rfl, rfl⟩

set_option maxHeartbeats 1000000 in
theorem scan_2 (w : World) (blk n c : Nat) (f : Nat → Int) (hn : n ≤ 1048576) (H : Hid (Holds w blk n f)) (h3 : 3 ≤ n) (h0 : (f 0 == 60) = true) (h1 : (f 1 == 47) = true) :
    Calls Try.prog 8 #[.slice (some ⟨blk, 0, none⟩) n c] w fun e w' => e = .returned (.string (pickT (isL (f 2)))) ∧ w' = w := by
  have c0 := H.out.1 0 (by omega)
  have c1 := H.out.1 1 (by omega)
  have c2 := H.out.1 2 (by omega)
  have hl := let11 (f 2)
  cases hL : isL (f 2) with
  | true =>
    rw [hL] at hl
    have Hl : Hid _ := hl
    clear hL hl
    go_enter Try.func8, Try.ntmps8
    go_wp2_with (go_at_call 11; refine (Hl.out _).mono ?_; rintro e w ⟨rfl, rfl⟩)
    go_ret
    exact ⟨rfl, rfl⟩
  | false =>
    rw [hL] at hl
    have Hl : Hid _ := hl
    clear hL hl
    go_enter Try.func8, Try.ntmps8
    go_wp2_with (go_at_call 11; refine (Hl.out _).mono ?_; rintro e w ⟨rfl, rfl⟩)
    go_ret
    exact ⟨rfl, rfl⟩
end Go.Proofs.Qxb6603074a
