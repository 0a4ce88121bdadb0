/-
  THE WALK of FnUserInfoOfParts (3).
-/
import Derived.Test.Qxb6602803aUser
import Derived.RowKit3
namespace Go.Proofs.Qxb6602803a
open Go.RowKit

theorem Grown.drewN {W w' : World} (h : Grown W w') (n : Nat) : Grown W (w'.drewN n) := h

theorem by8 (s t u : ByteArray) (hs : s.size ≤ maxLen) (ht : t.size ≤ maxLen) (hu : u.size ≤ maxLen) (w : World) :
    Calls Try.prog 8 #[.string s, .string t, .string u] w fun e w' => e = .returned (.bool (decide (s.size + t.size + u.size ≤ 1048576))) ∧ w' = w := by
  unfold maxLen at hs ht hu
  by_cases h : s.size + t.size + u.size ≤ 1048576
  · have e : decide (s.size + t.size + u.size ≤ 1048576) = true := by simp; omega
    rw [e]
    go_enter Try.func8, Try.ntmps8
    go_wp2
    go_ret
    exact ⟨rfl, rfl⟩
  · have e : decide (s.size + t.size + u.size ≤ 1048576) = false := by simp; omega
    rw [e]
    by_cases h1 : s.size ≤ 1048576
    · by_cases h2 : t.size ≤ 1048576
      · by_cases h3 : s.size + t.size ≤ 1048576
        · by_cases h4 : u.size ≤ 1048576
          all_goals
            go_enter Try.func8, Try.ntmps8
            go_wp2
            go_ret
            exact ⟨rfl, rfl⟩
        · go_enter Try.func8, Try.ntmps8
          go_wp2
          go_ret
          exact ⟨rfl, rfl⟩
      · go_enter Try.func8, Try.ntmps8
        go_wp2
        go_ret
        exact ⟨rfl, rfl⟩
    · go_enter Try.func8, Try.ntmps8
      go_wp2
      go_ret
      exact ⟨rfl, rfl⟩

set_option maxHeartbeats 1000000 in
theorem w3in (s t u : ByteArray) (h : s.size + t.size + u.size ≤ 1048576) (h1 : 58 ∉ s.data.toList) (h2 : 64 ∉ u.data.toList) (hb : Hid (∀ w, Calls Try.prog 8 #[.string s, .string t, .string u] w fun e w' => e = .returned (.bool true) ∧ w' = w)) (w : World) :
    Calls Try.prog 3 #[.string s, .string t, .string u] w fun e w' => e = .returned (.bool true) ∧ Grown w w' := by
  have h1' : Hid _ := h1
  have h2' : Hid _ := h2
  have hU : Hid ((s ++ ⟨#[58, 47, 47]⟩ ++ t ++ ⟨#[64]⟩ ++ u).data.toList = urlOf s.data.toList t.data.toList u.data.toList) := by
    have e : (s ++ ⟨#[58, 47, 47]⟩ ++ t ++ ⟨#[64]⟩ ++ u).data.toList = urlOf s.data.toList t.data.toList u.data.toList := by
      simp [urlOf]
    exact e
  have hz : (s ++ ⟨#[58, 47, 47]⟩ ++ t ++ ⟨#[64]⟩ ++ u).size ≤ 4000000 := by
    rw [size_list, hU.out]
    unfold urlOf
    have e1 := size_list s
    have e2 := size_list t
    have e3 := size_list u
    simp only [List.length_append, List.length_cons]
    omega
  clear h1 h2
  go_enter Try.func3, Try.ntmps3
  go_wp2_with (go_at_call 8; refine (hb.out _).mono ?_; rintro e w ⟨rfl, rfl⟩)
  refine (fb9_miss s 58 58 rfl h1' (by omega) _).mono ?_
  rintro e w' ⟨rfl, rfl⟩
  go_wp2_with fail
  refine (fb9_miss u 64 64 rfl h2' (by omega) _).mono ?_
  rintro e w ⟨rfl, rfl⟩
  go_wp2_with fail
  refine (ui10_yes _ s.data.toList t.data.toList u.data.toList hU h1'.out h2' hz _).mono ?_
  rintro e w' ⟨rfl, n, rfl⟩
  go_wp2_with fail
  go_ret
  exact ⟨ret_bool (b := true) (by rw [← B_of]; simp), Grown.drewN (Grown.refl _) _⟩

theorem w3 (s t u : ByteArray) (hs : s.size ≤ maxLen) (ht : t.size ≤ maxLen) (hu : u.size ≤ maxLen) (w : World) :
    Calls Try.prog 3 #[.string s, .string t, .string u] w fun e w' => e = .returned (.bool true) ∧ Grown w w' := by
  have hb := by8 s t u hs ht hu
  by_cases h : s.size + t.size + u.size ≤ 1048576
  · have e : decide (s.size + t.size + u.size ≤ 1048576) = true := by simp; omega
    rw [e] at hb
    have Hb : Hid _ := hb
    clear hb e
    unfold maxLen at hs ht hu
    rcases first_part s.data.toList 58 with h1 | ⟨a, b, h1, ha⟩
    · rcases first_part u.data.toList 64 with h2 | ⟨c, d, h2, hc⟩
      · exact w3in s t u h h1 h2 Hb w
      · have h1' : Hid _ := h1
        have h2' : Hid _ := h2
        have hc' : Hid _ := hc
        clear h1 h2 hc
        go_enter Try.func3, Try.ntmps3
        go_wp2_with (go_at_call 8; refine (Hb.out _).mono ?_; rintro e w ⟨rfl, rfl⟩)
        refine (fb9_miss s 58 58 rfl h1' (by omega) _).mono ?_
        rintro e w' ⟨rfl, rfl⟩
        go_wp2_with fail
        refine (fb9_hit u 64 64 rfl c d h2' hc' (by omega) _).mono ?_
        rintro e w ⟨rfl, rfl⟩
        go_wp2_with fail
        go_ret
        exact ⟨rfl, Grown.refl _⟩
    · have h1' : Hid _ := h1
      have ha' : Hid _ := ha
      clear h1 ha
      go_enter Try.func3, Try.ntmps3
      go_wp2_with (go_at_call 8; refine (Hb.out _).mono ?_; rintro e w ⟨rfl, rfl⟩)
      refine (fb9_hit s 58 58 rfl a b h1' ha' (by omega) _).mono ?_
      rintro e w' ⟨rfl, rfl⟩
      go_wp2_with fail
      go_ret
      exact ⟨rfl, Grown.refl _⟩
  · have e : decide (s.size + t.size + u.size ≤ 1048576) = false := by simp; omega
    rw [e] at hb
    have Hb : Hid _ := hb
    clear hb e
    unfold maxLen at hs ht hu
    go_enter Try.func3, Try.ntmps3
    go_wp2_with (go_at_call 8; refine (Hb.out _).mono ?_; rintro e w ⟨rfl, rfl⟩)
    go_ret
    exact ⟨rfl, Grown.refl _⟩
end Go.Proofs.Qxb6602803a
