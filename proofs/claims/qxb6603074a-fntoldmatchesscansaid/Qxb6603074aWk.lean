/-
  THE WALK of FnToldMatchesScan (3).
-/
import Derived.Test.Qxb6603074aFar
import Derived.Test.Qxb6603074aCopy
namespace Go.Proofs.Qxb6603074a
open Go.RowKit

theorem w3_big (a : Option Addr) (n c : Nat) (h : ¬ n ≤ 1048576) (hn : n ≤ maxLen) (w : World) :
    Calls Try.prog 3 #[.slice a n c] w fun e w' => e = .returned (.bool true) ∧ Below w.heap.size w w' := by
  have hb := by5 a n c hn
  have e : decide (n ≤ 1048576) = false := by simp; omega
  rw [e] at hb
  have Hb : Hid _ := hb
  clear hb e
  unfold maxLen at hn
  go_enter Try.func3, Try.ntmps3
  go_wp2_with (go_at_call 5; refine (Hb.out _).mono ?_; rintro e w ⟨rfl, rfl⟩)
  go_ret
  exact ⟨rfl, Below.refl _ _⟩

theorem w3_nil (w : World) :
    Calls Try.prog 3 #[.slice none 0 0] w fun e w' => e = .returned (.bool true) ∧ Below w.heap.size w w' := by
  have hb : Hid (∀ w, Calls Try.prog 5 #[.slice none 0 0] w fun e w' => e = .returned (.bool true) ∧ w' = w) := by5 none 0 0 (by unfold maxLen; omega)
  go_enter Try.func3, Try.ntmps3
  go_wp2_with (first | (go_at_call 5; refine (hb.out _).mono ?_; rintro e w ⟨rfl, rfl⟩) | (go_at_call 6; refine (copy_nil _).mono ?_; rintro e w ⟨rfl, rfl⟩) | (go_at_call 7; refine (zz7 none 0 0 sData _ (told_nil _)).mono ?_; rintro e w ⟨rfl, rfl⟩) | (go_at_call 8; refine (scan_nil _).mono ?_; rintro e w ⟨rfl, rfl⟩))
  go_ret
  exact ⟨rfl, Below.refl _ _⟩

set_option maxHeartbeats 1000000 in
theorem w3_row (x : Addr) (n c : Nat) (f : Nat → Int) (hn : n ≤ 1048576) (w : World) (hf : Hid (∀ i, i < n → 0 ≤ f i ∧ f i ≤ 255))
    (hx : Hid (0 < n → ∃ b off, x = ⟨b, off, none⟩ ∧ b < w.heap.size ∧ ∀ i, i < n → w.cell? ⟨b, off + i, none⟩ = some (.int .u8 (f i)))) :
    Calls Try.prog 3 #[.slice (some x) n c] w fun e w' => e = .returned (.bool true) ∧ Below w.heap.size w w' := by
  have hb := by5 (some x) n c (by unfold maxLen; omega)
  have e : decide (n ≤ 1048576) = true := by simp; omega
  rw [e] at hb
  have Hb : Hid _ := hb
  clear hb e
  obtain ⟨B, hB⟩ : ∃ B, B = w.heap.size := ⟨_, rfl⟩
  have hcp : Hid (Calls Try.prog 6 #[.slice (some x) n c] w fun e w' => e = .returned (.slice (some ⟨B, 0, none⟩) n n) ∧ (∀ i, i < n → w'.cell? ⟨B, i, none⟩ = some (.int .u8 (f i))) ∧ Below B w w') := by
    rw [hB]; exact copy6 x n c f hn w hx
  rw [← hB]
  clear hx hB
  go_enter Try.func3, Try.ntmps3
  go_wp2_with (go_at_call 5; refine (Hb.out _).mono ?_; rintro e w ⟨rfl, rfl⟩)
  refine hcp.out.mono ?_
  rintro e w1 ⟨rfl, hc1, hbel⟩
  obtain ⟨v, ht, hs⟩ := both w1 B n f hn ⟨hc1, hf.out⟩
  have Ht : Hid (Calls Try.prog 10 #[.slice (some ⟨B, 0, none⟩) n n] w1 fun e w' => e = .returned (.string v) ∧ w' = w1) := ht
  have Hs : Hid (Calls Try.prog 8 #[.slice (some ⟨B, 0, none⟩) n n] w1 fun e w' => e = .returned (.string v) ∧ w' = w1) := hs
  have Hbel : Hid (Below B w w1) := hbel
  clear ht hs hc1 hbel hcp
  go_wp2_with fail
  refine (zz7 _ n n v _ Ht).mono ?_
  rintro e w2 ⟨rfl, rfl⟩
  go_wp2_with fail
  refine Hs.out.mono ?_
  rintro e w3 ⟨rfl, rfl⟩
  go_wp2_with fail
  go_ret
  exact ⟨rfl, Hbel.out⟩
end Go.Proofs.Qxb6603074a
