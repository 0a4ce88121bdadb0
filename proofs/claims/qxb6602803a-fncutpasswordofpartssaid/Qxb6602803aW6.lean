/-
  THE WALK of FnCutPasswordOfParts (6).
-/
import Derived.Test.Qxb6602803aUser
import Derived.RowKit3
namespace Go.Proofs.Qxb6602803a
open Go.RowKit

theorem Grown.drewN6 {W w' : World} (h : Grown W w') (n : Nat) : Grown W (w'.drewN n) := h

set_option maxHeartbeats 1000000 in
theorem by15 (s t u v : ByteArray) (hs : s.size ≤ maxLen) (ht : t.size ≤ maxLen) (hu : u.size ≤ maxLen) (hv : v.size ≤ maxLen) (w : World) :
    Calls Try.prog 15 #[.string s, .string t, .string u, .string v] w fun e w' => e = .returned (.bool (decide (s.size + t.size + u.size + v.size ≤ 1048576))) ∧ w' = w := by
  unfold maxLen at hs ht hu hv
  by_cases h : s.size + t.size + u.size + v.size ≤ 1048576
  · have e : decide (s.size + t.size + u.size + v.size ≤ 1048576) = true := by simp; omega
    rw [e]
    go_enter Try.func15, Try.ntmps15
    go_wp2
    go_ret
    exact ⟨rfl, rfl⟩
  · have e : decide (s.size + t.size + u.size + v.size ≤ 1048576) = false := by simp; omega
    rw [e]
    by_cases h1 : s.size ≤ 1048576
    · by_cases h2 : t.size ≤ 1048576
      · by_cases h3 : s.size + t.size ≤ 1048576
        · by_cases h4 : u.size ≤ 1048576
          · by_cases h5 : s.size + t.size + u.size ≤ 1048576
            · by_cases h6 : v.size ≤ 1048576
              all_goals
                go_enter Try.func15, Try.ntmps15
                go_wp2
                go_ret
                exact ⟨rfl, rfl⟩
            · go_enter Try.func15, Try.ntmps15
              go_wp2
              go_ret
              exact ⟨rfl, rfl⟩
          · go_enter Try.func15, Try.ntmps15
            go_wp2
            go_ret
            exact ⟨rfl, rfl⟩
        · go_enter Try.func15, Try.ntmps15
          go_wp2
          go_ret
          exact ⟨rfl, rfl⟩
      · go_enter Try.func15, Try.ntmps15
        go_wp2
        go_ret
        exact ⟨rfl, rfl⟩
    · go_enter Try.func15, Try.ntmps15
      go_wp2
      go_ret
      exact ⟨rfl, rfl⟩

set_option maxHeartbeats 2000000 in
theorem w6in (s t u v : ByteArray) (h : s.size + t.size + u.size + v.size ≤ 1048576) (h1 : Hid (58 ∉ s.data.toList)) (h2 : Hid (58 ∉ t.data.toList)) (h3 : Hid (64 ∉ v.data.toList)) (hb : Hid (∀ w, Calls Try.prog 15 #[.string s, .string t, .string u, .string v] w fun e w' => e = .returned (.bool true) ∧ w' = w)) (w : World) :
    Calls Try.prog 6 #[.string s, .string t, .string u, .string v] w fun e w' => e = .returned (.bool true) ∧ Grown w w' := by
  have hU : Hid ((s ++ ⟨#[58, 47, 47]⟩ ++ t ++ ⟨#[58]⟩ ++ u ++ ⟨#[64]⟩ ++ v).data.toList = urlOf s.data.toList (t.data.toList ++ 58 :: u.data.toList) v.data.toList) := by
    have e : (s ++ ⟨#[58, 47, 47]⟩ ++ t ++ ⟨#[58]⟩ ++ u ++ ⟨#[64]⟩ ++ v).data.toList = urlOf s.data.toList (t.data.toList ++ 58 :: u.data.toList) v.data.toList := by
      simp [urlOf]
    exact e
  have hz : (s ++ ⟨#[58, 47, 47]⟩ ++ t ++ ⟨#[58]⟩ ++ u ++ ⟨#[64]⟩ ++ v).size ≤ 4000000 := by
    rw [size_list, hU.out]
    unfold urlOf
    have e1 := size_list s
    have e2 := size_list t
    have e3 := size_list u
    have e4 := size_list v
    simp only [List.length_append, List.length_cons]
    omega
  have hfin : Hid ((s ++ ⟨#[58, 47, 47]⟩ ++ t ++ ⟨#[64]⟩ ++ v) = B (urlOf s.data.toList t.data.toList v.data.toList)) := by
    have e : (s ++ ⟨#[58, 47, 47]⟩ ++ t ++ ⟨#[64]⟩ ++ v) = B (urlOf s.data.toList t.data.toList v.data.toList) := by
      apply ext_list
      simp [urlOf, B_list]
    exact e
  have hBu : (B u.data.toList).toList = u.toList := by rw [← B_of]
  have hc := fun w => cp12_some _ s.data.toList t.data.toList u.data.toList v.data.toList hU h1.out h3 h2.out hz w
  have Hc : Hid _ := hc
  clear hc
  go_enter Try.func6, Try.ntmps6
  go_wp2_with (go_at_call 15; refine (hb.out _).mono ?_; rintro e w ⟨rfl, rfl⟩)
  refine (fb9_miss s 58 58 rfl h1 (by omega) _).mono ?_
  rintro e w' ⟨rfl, rfl⟩
  go_wp2_with fail
  refine (fb9_miss t 58 58 rfl h2 (by omega) _).mono ?_
  rintro e w ⟨rfl, rfl⟩
  go_wp2_with fail
  refine (fb9_miss v 64 64 rfl h3 (by omega) _).mono ?_
  rintro e w' ⟨rfl, rfl⟩
  go_wp2_with fail
  refine (Hc.out _).mono ?_
  rintro e w' ⟨rfl, n, rfl⟩
  go_wp2_with fail
  go_ret
  exact ⟨ret_bool (b := true) (by rw [hfin.out]; simp), Grown.drewN6 (Grown.refl _) _⟩

set_option maxHeartbeats 2000000 in
theorem w6 (s t u v : ByteArray) (hs : s.size ≤ maxLen) (ht : t.size ≤ maxLen) (hu : u.size ≤ maxLen) (hv : v.size ≤ maxLen) (w : World) :
    Calls Try.prog 6 #[.string s, .string t, .string u, .string v] w fun e w' => e = .returned (.bool true) ∧ Grown w w' := by
  have hb := by15 s t u v hs ht hu hv
  by_cases h : s.size + t.size + u.size + v.size ≤ 1048576
  · have e : decide (s.size + t.size + u.size + v.size ≤ 1048576) = true := by simp; omega
    rw [e] at hb
    have Hb : Hid _ := hb
    clear hb e
    unfold maxLen at hs ht hu hv
    rcases first_part s.data.toList 58 with h1 | ⟨a, b, h1, ha⟩
    · have h1' : Hid _ := h1
      clear h1
      rcases first_part t.data.toList 58 with h2 | ⟨a, b, h2, ha⟩
      · have h2' : Hid _ := h2
        clear h2
        rcases first_part v.data.toList 64 with h3 | ⟨a, b, h3, ha⟩
        · exact w6in s t u v h h1' h2' h3 Hb w
        · have h3' : Hid _ := h3
          have ha' : Hid _ := ha
          clear h3 ha
          go_enter Try.func6, Try.ntmps6
          go_wp2_with (go_at_call 15; refine (Hb.out _).mono ?_; rintro e w ⟨rfl, rfl⟩)
          refine (fb9_miss s 58 58 rfl h1' (by omega) _).mono ?_
          rintro e w' ⟨rfl, rfl⟩
          go_wp2_with fail
          refine (fb9_miss t 58 58 rfl h2' (by omega) _).mono ?_
          rintro e w ⟨rfl, rfl⟩
          go_wp2_with fail
          refine (fb9_hit v 64 64 rfl a b h3' ha' (by omega) _).mono ?_
          rintro e w' ⟨rfl, rfl⟩
          go_wp2_with fail
          go_ret
          exact ⟨rfl, Grown.refl _⟩
      · have h2' : Hid _ := h2
        have ha' : Hid _ := ha
        clear h2 ha
        go_enter Try.func6, Try.ntmps6
        go_wp2_with (go_at_call 15; refine (Hb.out _).mono ?_; rintro e w ⟨rfl, rfl⟩)
        refine (fb9_miss s 58 58 rfl h1' (by omega) _).mono ?_
        rintro e w' ⟨rfl, rfl⟩
        go_wp2_with fail
        refine (fb9_hit t 58 58 rfl a b h2' ha' (by omega) _).mono ?_
        rintro e w ⟨rfl, rfl⟩
        go_wp2_with fail
        go_ret
        exact ⟨rfl, Grown.refl _⟩
    · have h1' : Hid _ := h1
      have ha' : Hid _ := ha
      clear h1 ha
      go_enter Try.func6, Try.ntmps6
      go_wp2_with (go_at_call 15; refine (Hb.out _).mono ?_; rintro e w ⟨rfl, rfl⟩)
      refine (fb9_hit s 58 58 rfl a b h1' ha' (by omega) _).mono ?_
      rintro e w' ⟨rfl, rfl⟩
      go_wp2_with fail
      go_ret
      exact ⟨rfl, Grown.refl _⟩
  · have e : decide (s.size + t.size + u.size + v.size ≤ 1048576) = false := by simp; omega
    rw [e] at hb
    have Hb : Hid _ := hb
    clear hb e
    unfold maxLen at hs ht hu hv
    go_enter Try.func6, Try.ntmps6
    go_wp2_with (go_at_call 15; refine (Hb.out _).mono ?_; rintro e w ⟨rfl, rfl⟩)
    go_ret
    exact ⟨rfl, Grown.refl _⟩
end Go.Proofs.Qxb6602803a
