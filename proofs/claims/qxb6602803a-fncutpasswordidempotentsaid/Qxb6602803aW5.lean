/-
  THE WALK of FnCutPasswordIdempotent (5).
-/
import Derived.Test.Qxb6602803aUser
import Derived.RowKit3
namespace Go.Proofs.Qxb6602803a
open Go.RowKit

theorem Grown.drewN5 {W w' : World} (h : Grown W w') (n : Nat) : Grown W (w'.drewN n) := h

theorem by14 (s : ByteArray) (hs : s.size ≤ maxLen) (w : World) :
    Calls Try.prog 14 #[.string s] w fun e w' => e = .returned (.bool (decide (s.size ≤ 1048576))) ∧ w' = w := by
  unfold maxLen at hs
  by_cases h : s.size ≤ 1048576
  · have e : decide (s.size ≤ 1048576) = true := by simp; omega
    rw [e]
    go_enter Try.func14, Try.ntmps14
    go_wp2
    go_ret
    exact ⟨rfl, rfl⟩
  · have e : decide (s.size ≤ 1048576) = false := by simp; omega
    rw [e]
    go_enter Try.func14, Try.ntmps14
    go_wp2
    go_ret
    exact ⟨rfl, rfl⟩

theorem B_toList (l : List UInt8) : (B l).toList = l := by rw [Lib.toList_data]; rfl

set_option maxHeartbeats 1000000 in
theorem w5none (s : ByteArray) (h : s.size ≤ 1048576) (hb : Hid (∀ w, Calls Try.prog 14 #[.string s] w fun e w' => e = .returned (.bool true) ∧ w' = w))
    (hc : Hid (∀ w, Calls Try.prog 12 #[.string s] w fun e w' => e = .returned (.tuple #[.string s, .string (B []), .bool false]) ∧ ∃ n, w' = w.drewN n)) (w : World) :
    Calls Try.prog 5 #[.string s] w fun e w' => e = .returned (.bool true) ∧ Grown w w' := by
  have hB := B_toList
  go_enter Try.func5, Try.ntmps5
  go_wp2_with (first | (go_at_call 14; refine (hb.out _).mono ?_; rintro e w ⟨rfl, rfl⟩) | (go_at_call 12; refine (hc.out _).mono ?_; rintro e w' ⟨rfl, n, rfl⟩))
  go_ret
  exact ⟨rfl, Grown.refl _⟩

set_option maxHeartbeats 1000000 in
theorem w5some (s : ByteArray) (a u p r : List UInt8) (hs : Hid (s.data.toList = urlOf a (u ++ 58 :: p) r)) (ha : Hid (58 ∉ a)) (hr : Hid (64 ∉ r)) (hu : Hid (58 ∉ u)) (h : s.size ≤ 1048576)
    (hb : Hid (∀ w, Calls Try.prog 14 #[.string s] w fun e w' => e = .returned (.bool true) ∧ w' = w)) (w : World) :
    Calls Try.prog 5 #[.string s] w fun e w' => e = .returned (.bool true) ∧ Grown w w' := by
  have hB := B_toList
  have hl : (B (urlOf a u r)).size + 1 + (B p).size = s.size := by
    rw [B_size, B_size, size_list, hs.out]; unfold urlOf; simp; omega
  have hz : s.size ≤ 4000000 := by omega
  have hz2 : (B (urlOf a u r)).size ≤ 4000000 := by omega
  have hne : (((B (urlOf a u r)).size : Int) + 1 + ((B p).size : Int) != (s.size : Int)) = false := by
    rw [bne_eq_false_iff_eq]; omega
  have hc1 : Hid (∀ w, Calls Try.prog 12 #[.string s] w fun e w' => e = .returned (.tuple #[.string (B (urlOf a u r)), .string (B p), .bool true]) ∧ ∃ n, w' = w.drewN n) := fun w => cp12_some s a u p r hs ha.out hr hu.out hz w
  have hc2 : Hid (∀ w, Calls Try.prog 12 #[.string (B (urlOf a u r))] w fun e w' => e = .returned (.tuple #[.string (B (urlOf a u r)), .string (B []), .bool false]) ∧ ∃ n, w' = w.drewN n) := fun w => cp12_none _ u hu.out (fun w => ui10_yes _ a u r (B_list _) ha.out hr hz2 w) w
  have hu1 : Hid (∀ w, Calls Try.prog 10 #[.string s] w fun e w' => e = .returned (.string (B (u ++ 58 :: p))) ∧ ∃ n, w' = w.drewN n) := fun w => ui10_yes s a _ r hs ha.out hr hz w
  have hu2 : Hid (∀ w, Calls Try.prog 10 #[.string (B (urlOf a u r))] w fun e w' => e = .returned (.string (B u)) ∧ ∃ n, w' = w.drewN n) := fun w => ui10_yes _ a u r (B_list _) ha.out hr hz2 w
  have hz3 : (B u).size + (B p).size ≤ 4000000 := by
    have e1 := B_size u
    have e2 : (B (urlOf a u r)).size = _ := B_size (urlOf a u r)
    have e3 : (urlOf a u r).length = a.length + 3 + u.length + 1 + r.length := by unfold urlOf; simp; omega
    omega
  clear hl
  go_enter Try.func5, Try.ntmps5
  go_wp2_with (go_at_call 14; refine (hb.out _).mono ?_; rintro e w ⟨rfl, rfl⟩)
  refine (hc1.out _).mono ?_
  rintro e w' ⟨rfl, n1, rfl⟩
  go_wp2_with fail
  refine (hc2.out _).mono ?_
  rintro e w' ⟨rfl, n2, rfl⟩
  go_wp2_with fail
  refine (hu1.out _).mono ?_
  rintro e w' ⟨rfl, n3, rfl⟩
  go_wp2_with fail
  refine (hu2.out _).mono ?_
  rintro e w' ⟨rfl, n4, rfl⟩
  go_wp2_with fail
  go_ret
  exact ⟨ret_bool (b := true) (by rw [beq_iff_eq, Lib.toList_data, append_list, append_list, B_list, B_list]; simp), Grown.drewN5 (Grown.refl _) _⟩

theorem w5 (s : ByteArray) (hs : s.size ≤ maxLen) (w : World) :
    Calls Try.prog 5 #[.string s] w fun e w' => e = .returned (.bool true) ∧ Grown w w' := by
  have hb := by14 s hs
  by_cases h : s.size ≤ 1048576
  · have e : decide (s.size ≤ 1048576) = true := by simp; omega
    rw [e] at hb
    have hz : s.size ≤ 4000000 := by omega
    rcases url_or s.data.toList with hno | ⟨a, i, r, ha, hr, hu⟩
    · exact w5none s h hb (fun w => cp12_none s [] (by simp) (fun w => ui10_no s hno hz w) w) w
    · rcases first_part i 58 with hi | ⟨u, p, rfl, hu2⟩
      · exact w5none s h hb (fun w => cp12_none s i hi (fun w => ui10_yes s a i r hu ha hr hz w) w) w
      · exact w5some s a u p r hu ha hr hu2 h hb w
  · have e : decide (s.size ≤ 1048576) = false := by simp; omega
    rw [e] at hb
    have Hb : Hid _ := hb
    clear hb e
    unfold maxLen at hs
    go_enter Try.func5, Try.ntmps5
    go_wp2_with (go_at_call 14; refine (Hb.out _).mono ?_; rintro e w ⟨rfl, rfl⟩)
    go_ret
    exact ⟨rfl, Grown.refl _⟩
end Go.Proofs.Qxb6602803a
