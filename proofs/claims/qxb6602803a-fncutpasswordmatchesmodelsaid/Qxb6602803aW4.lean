/-
  THE WALK of FnCutPasswordMatchesModel (4), and of sqlsinkB1InfoBounds (13).
-/
import Derived.Test.Qxb6602803aUser
import Derived.RowKit3
import Derived.Deep.QuietTactic
import Derived.BigQuiet
namespace Go.Proofs.Qxb6602803a
open Go.RowKit

theorem Grown.drewN4 {W w' : World} (h : Grown W w') (n : Nat) : Grown W (w'.drewN n) := h
theorem B_toList4 (l : List UInt8) : (B l).toList = l := by rw [Lib.toList_data]; rfl
theorem ret_iib {a a' b b' : Int} {c c' : Bool} (h : a = a') (k : b = b') (j : c = c') : Ending.returned (.tuple #[.int .i64 a, .int .i64 b, .bool c]) = .returned (.tuple #[.int .i64 a', .int .i64 b', .bool c']) := by rw [h, k, j]

theorem get_of (s : ByteArray) (l : List UInt8) (hs : s.data.toList = l) (k : Nat) (h : k < s.size) (c : UInt8) (hc : l[k]? = some c) : s[k] = c := by
  subst hs
  rw [get_list]
  have h' : k < s.data.toList.length := by rw [← size_list]; exact h
  rw [List.getElem?_eq_getElem h'] at hc
  exact Option.some.inj hc
theorem neq_false (b : UInt8) (h : b = 47) : ((b.toNat : Int) != 47) = false := by rw [h]; rfl
theorem neq_true (b : UInt8) (h : b ≠ 47) : ((b.toNat : Int) != 47) = true := by
  rw [bne_iff_ne]
  intro e
  apply h
  apply UInt8.toNat_inj.1
  have : (47 : UInt8).toNat = 47 := rfl
  omega

set_option maxHeartbeats 1000000 in
theorem ib13_yes (s : ByteArray) (a i r : List UInt8) (hs : Hid (s.data.toList = urlOf a i r)) (ha : Hid (58 ∉ a)) (hr : Hid (64 ∉ r)) (hz : s.size ≤ 1048576) (w : World) :
    Calls Try.prog 13 #[.string s] w fun e w' => e = .returned (.tuple #[.int .i64 (a.length + 3), .int .i64 (a.length + 3 + i.length), .bool true]) ∧ w' = w := by
  have hl : s.size = a.length + 3 + i.length + 1 + r.length := by rw [size_list, hs.out]; simp [urlOf]; omega
  obtain ⟨x, hx, hxl⟩ : ∃ x : List UInt8, urlOf a i r = x ++ 64 :: r ∧ x.length = a.length + 3 + i.length :=
    ⟨a ++ 58 :: 47 :: 47 :: i, by simp [urlOf], by simp; omega⟩
  have hs2 : Hid (s.data.toList = x ++ 64 :: r) := by
    have e := hs.out
    rw [hx] at e
    exact e
  have Hxl : Hid _ := hxl
  have k1 : a.length + 1 < s.size := by omega
  have k2 : a.length + 2 < s.size := by omega
  have q1 := neq_false _ (get_of s _ hs.out (a.length + 1) k1 47 (by simp [urlOf]))
  have q2 := neq_false _ (get_of s _ hs.out (a.length + 2) k2 47 (by simp [urlOf]))
  have hL : x.length < 4000000 := by omega
  have hL2 : (a.length : Int) + 3 ≤ (x.length : Int) := by omega
  have hi1 : a.length < 4000000 := by omega
  clear hl hx hxl
  go_enter Try.func13, Try.ntmps13
  go_wp2_with (first | (go_at_call 9; refine (fb9_hit s 58 58 rfl a (47 :: 47 :: (i ++ 64 :: r)) hs ha (by omega) _).mono ?_; rintro e w ⟨rfl, rfl⟩) | (go_at_call 24; refine (lf24_hit s 64 64 rfl _ x r hs2 hr (by omega) hL2 (by omega) _).mono ?_; rintro e w ⟨rfl, rfl⟩))
  go_ret3
  exact ⟨ret_iib rfl (by have := Hxl.out; omega) rfl, rfl⟩

set_option maxHeartbeats 1000000 in
theorem ib13_no (s : ByteArray) (h : Hid (NoUrl s.data.toList)) (hz : s.size ≤ 1048576) (w : World) :
    Calls Try.prog 13 #[.string s] w fun e w' => e = .returned (.tuple #[.int .i64 0, .int .i64 0, .bool false]) ∧ w' = w := by
  rcases first_part s.data.toList 58 with hm | ⟨a, b, hab, ha⟩
  · have hm' : Hid _ := hm
    clear hm
    go_enter Try.func13, Try.ntmps13
    go_wp2_with (go_at_call 9; refine (fb9_miss s 58 58 rfl hm' (by omega) _).mono ?_; rintro e w ⟨rfl, rfl⟩)
    go_ret3
    exact ⟨rfl, rfl⟩
  · have hl : s.size = a.length + 1 + b.length := by rw [size_list, hab]; simp; omega
    have Hab : Hid _ := hab
    have Ha : Hid _ := ha
    have hal : a.length < 4000000 := by omega
    by_cases h2 : b.length < 2
    · have k1 : (s.size : Int) ≤ (a.length : Int) + 2 := by omega
      clear hab ha hl
      go_enter Try.func13, Try.ntmps13
      go_wp2_with (go_at_call 9; refine (fb9_hit s 58 58 rfl a b Hab Ha (by omega) _).mono ?_; rintro e w ⟨rfl, rfl⟩)
      go_ret3
      exact ⟨rfl, rfl⟩
    · obtain ⟨x, b1, rfl⟩ : ∃ x b1, b = x :: b1 := by
        cases b with
        | nil => simp at h2
        | cons x b1 => exact ⟨x, b1, rfl⟩
      obtain ⟨y, r, rfl⟩ : ∃ y r, b1 = y :: r := by
        cases b1 with
        | nil => simp at h2
        | cons x b1 => exact ⟨x, b1, rfl⟩
      have k1 : a.length + 1 < s.size := by rw [hl]; simp only [List.length_cons]; omega
      have k2 : a.length + 2 < s.size := by rw [hl]; simp only [List.length_cons]; omega
      have g1 := get_of s _ hab (a.length + 1) k1 x (by simp)
      have g2 := get_of s _ hab (a.length + 2) k2 y (by simp)
      by_cases hx : x = 47
      · have q1 := neq_false _ (g1.trans hx)
        by_cases hy : y = 47
        · have q2 := neq_false _ (g2.trans hy)
          subst hx hy
          have hr : 64 ∉ r := by
            intro hin
            rcases last_part r 64 with hno | ⟨p, q, hpq, hq⟩
            · exact hno hin
            · subst hpq
              exact h.out a p q ha hq hab
          have hmiss : Hid (∀ k, ((a.length : Int) + 3) ≤ (k : Nat) → ∀ h : k < s.size, s[k] ≠ 64) := by
            intro k hk hks e
            apply hr
            have hab2 : s.data.toList = (a ++ [58, 47]) ++ 47 :: r := by rw [hab]; simp
            have := get_mem_suf s (a ++ [58, 47]) r 47 hab2 k hks (by simp; omega)
            rw [e] at this
            exact this
          have k3 : (a.length : Int) + 3 ≤ (s.size : Int) := by omega
          clear hab ha hl g1 g2 h2 hr
          go_enter Try.func13, Try.ntmps13
          go_wp2_with (first | (go_at_call 9; refine (fb9_hit s 58 58 rfl a (47 :: 47 :: r) Hab Ha (by omega) _).mono ?_; rintro e w ⟨rfl, rfl⟩) | (go_at_call 24; refine (lf24_miss s 64 64 rfl _ hmiss (by omega) k3 (by omega) _).mono ?_; rintro e w ⟨rfl, rfl⟩))
          go_ret3
          exact ⟨rfl, rfl⟩
        · have q2 : (((s[a.length + 2]'k2).toNat : Int) != 47) = true := neq_true _ (by rw [g2]; exact hy)
          clear hab ha hl g1 g2 h2 hx hy
          go_enter Try.func13, Try.ntmps13
          go_wp2_with (go_at_call 9; refine (fb9_hit s 58 58 rfl a (x :: y :: r) Hab Ha (by omega) _).mono ?_; rintro e w ⟨rfl, rfl⟩)
          go_ret3
          exact ⟨rfl, rfl⟩
      · have q1 : (((s[a.length + 1]'k1).toNat : Int) != 47) = true := neq_true _ (by rw [g1]; exact hx)
        clear hab ha hl g1 g2 h2 hx
        go_enter Try.func13, Try.ntmps13
        go_wp2_with (go_at_call 9; refine (fb9_hit s 58 58 rfl a (x :: y :: r) Hab Ha (by omega) _).mono ?_; rintro e w ⟨rfl, rfl⟩)
        go_ret3
        exact ⟨rfl, rfl⟩

theorem by11 (s : ByteArray) (hs : s.size ≤ maxLen) (w : World) :
    Calls Try.prog 11 #[.string s] w fun e w' => e = .returned (.bool (decide (s.size ≤ 1048576))) ∧ w' = w := by
  unfold maxLen at hs
  by_cases h : s.size ≤ 1048576
  · have e : decide (s.size ≤ 1048576) = true := by simp; omega
    rw [e]
    go_enter Try.func11, Try.ntmps11
    go_wp2
    go_ret
    exact ⟨rfl, rfl⟩
  · have e : decide (s.size ≤ 1048576) = false := by simp; omega
    rw [e]
    go_enter Try.func11, Try.ntmps11
    go_wp2
    go_ret
    exact ⟨rfl, rfl⟩

set_option maxHeartbeats 1000000 in
theorem w4no (s : ByteArray) (h : s.size ≤ 1048576) (hb : Hid (∀ w, Calls Try.prog 11 #[.string s] w fun e w' => e = .returned (.bool true) ∧ w' = w))
    (hc : Hid (∀ w, Calls Try.prog 12 #[.string s] w fun e w' => e = .returned (.tuple #[.string s, .string (B []), .bool false]) ∧ ∃ n, w' = w.drewN n))
    (hi : Hid (∀ w, Calls Try.prog 13 #[.string s] w fun e w' => e = .returned (.tuple #[.int .i64 0, .int .i64 0, .bool false]) ∧ w' = w)) (w : World) :
    Calls Try.prog 4 #[.string s] w fun e w' => e = .returned (.bool true) ∧ Grown w w' := by
  have hB := B_toList4
  go_enter Try.func4, Try.ntmps4
  go_wp2_with (first | (go_at_call 11; refine (hb.out _).mono ?_; rintro e w ⟨rfl, rfl⟩) | (go_at_call 12; refine (hc.out _).mono ?_; rintro e w' ⟨rfl, n, rfl⟩) | (go_at_call 13; refine (hi.out _).mono ?_; rintro e w' ⟨rfl, rfl⟩))
  go_ret
  exact ⟨rfl, Grown.drewN4 (Grown.refl _) _⟩

theorem mid_list (s : ByteArray) (a i r : List UInt8) (hs : s.data.toList = urlOf a i r) : (s.extract (a.length + 3) (a.length + 3 + i.length)).data.toList = i := by
  rw [extract_list, hs, List.drop_take, url_drop]
  have : a.length + 3 + i.length - (a.length + 3) = i.length := by omega
  rw [this, List.take_left]

set_option maxHeartbeats 1000000 in
theorem w4miss (s : ByteArray) (a i r : List UInt8) (hs : Hid (s.data.toList = urlOf a i r)) (hi58 : Hid (58 ∉ i)) (h : s.size ≤ 1048576) (hb : Hid (∀ w, Calls Try.prog 11 #[.string s] w fun e w' => e = .returned (.bool true) ∧ w' = w))
    (hc : Hid (∀ w, Calls Try.prog 12 #[.string s] w fun e w' => e = .returned (.tuple #[.string s, .string (B []), .bool false]) ∧ ∃ n, w' = w.drewN n))
    (hi : Hid (∀ w, Calls Try.prog 13 #[.string s] w fun e w' => e = .returned (.tuple #[.int .i64 (a.length + 3), .int .i64 (a.length + 3 + i.length), .bool true]) ∧ w' = w)) (w : World) :
    Calls Try.prog 4 #[.string s] w fun e w' => e = .returned (.bool true) ∧ Grown w w' := by
  have hB := B_toList4
  have hl : a.length + 3 + i.length + 1 + r.length ≤ s.size := by rw [size_list, hs.out]; simp [urlOf]; omega
  have c1 : (a.length : Int) + 3 + (i.length : Int) ≤ (s.size : Int) := by omega
  have hmid : Hid (58 ∉ (s.extract (a.length + 3) (a.length + 3 + i.length)).data.toList) := by
    rw [mid_list s a i r hs.out]; exact hi58
  have hzm : (s.extract (a.length + 3) (a.length + 3 + i.length)).size ≤ 4000000 := by rw [size_list, mid_list s a i r hs.out]; omega
  go_enter Try.func4, Try.ntmps4
  go_wp2_with (first | (go_at_call 11; refine (hb.out _).mono ?_; rintro e w ⟨rfl, rfl⟩) | (go_at_call 12; refine (hc.out _).mono ?_; rintro e w' ⟨rfl, n, rfl⟩) | (go_at_call 13; refine (hi.out _).mono ?_; rintro e w' ⟨rfl, rfl⟩))
  refine (fb9_miss _ 58 58 rfl hmid hzm _).mono ?_
  rintro e w' ⟨rfl, rfl⟩
  go_wp2_with fail
  go_ret
  exact ⟨rfl, Grown.drewN4 (Grown.refl _) _⟩

theorem url_take2 (a u p r : List UInt8) : (urlOf a (u ++ 58 :: p) r).take (a.length + 3 + u.length) = a ++ [58, 47, 47] ++ u := by
  have e : urlOf a (u ++ 58 :: p) r = (a ++ [58, 47, 47] ++ u) ++ (58 :: p ++ 64 :: r) := by unfold urlOf; simp
  rw [e, List.take_left' (by simp; omega)]
theorem pw_mid (a u p r : List UInt8) : p = ((urlOf a (u ++ 58 :: p) r).take (a.length + 3 + (u ++ 58 :: p).length)).drop (a.length + 3 + u.length + 1) := by
  have e : urlOf a (u ++ 58 :: p) r = (a ++ [58, 47, 47] ++ u ++ [58] ++ p) ++ 64 :: r := by unfold urlOf; simp
  rw [e, List.take_left' (by simp; omega), List.drop_left' (by simp; omega)]

set_option maxHeartbeats 1000000 in
theorem w4hit (s : ByteArray) (a u p r : List UInt8) (hs : Hid (s.data.toList = urlOf a (u ++ 58 :: p) r)) (hu : Hid (58 ∉ u)) (h : s.size ≤ 1048576) (hb : Hid (∀ w, Calls Try.prog 11 #[.string s] w fun e w' => e = .returned (.bool true) ∧ w' = w))
    (hc : Hid (∀ w, Calls Try.prog 12 #[.string s] w fun e w' => e = .returned (.tuple #[.string (B (urlOf a u r)), .string (B p), .bool true]) ∧ ∃ n, w' = w.drewN n))
    (hi : Hid (∀ w, Calls Try.prog 13 #[.string s] w fun e w' => e = .returned (.tuple #[.int .i64 (a.length + 3), .int .i64 (a.length + 3 + (u ++ 58 :: p).length), .bool true]) ∧ w' = w)) (w : World) :
    Calls Try.prog 4 #[.string s] w fun e w' => e = .returned (.bool true) ∧ Grown w w' := by
  obtain ⟨m, hm⟩ : ∃ m, m = (u ++ 58 :: p).length := ⟨_, rfl⟩
  have hmu : m = u.length + 1 + p.length := by rw [hm]; simp; omega
  have hl : a.length + 3 + m + 1 + r.length ≤ s.size := by rw [size_list, hs.out, hm]; simp [urlOf]; omega
  have c1 : (a.length : Int) + 3 + (m : Int) ≤ (s.size : Int) := by omega
  have hmid : Hid ((s.extract (a.length + 3) (a.length + 3 + m)).data.toList = u ++ 58 :: p) := by
    rw [hm]; exact mid_list s a (u ++ 58 :: p) r hs.out
  have hzm : (s.extract (a.length + 3) (a.length + 3 + m)).size ≤ 4000000 := by rw [size_list, hmid.out, ← hm]; omega
  have e1 : ((B (urlOf a u r)).toList == (s.extract 0 (a.length + 3 + u.length) ++ s.extract (a.length + 3 + m) s.size).toList) = true := by
    rw [beq_iff_eq, Lib.toList_data, Lib.toList_data, append_list, extract_list, suf_list, hs.out, hm, url_drop2, B_list, List.drop_zero, url_take2, urlOf_eq]
    simp
  have e2 : ((B p).toList == (s.extract (a.length + 3 + u.length + 1) (a.length + 3 + m)).toList) = true := by
    rw [beq_iff_eq, Lib.toList_data, Lib.toList_data, extract_list, hs.out, hm, B_list]; exact pw_mid a u p r
  have d1 : (a.length : Int) + 3 + (u.length : Int) ≤ (s.size : Int) := by omega
  have d2 : (a.length : Int) + 3 + (u.length : Int) + 1 ≤ (a.length : Int) + 3 + (m : Int) := by omega
  have d3 : u.length < 4000000 := by omega
  rw [← hm] at hi
  clear hl hm hmu
  go_enter Try.func4, Try.ntmps4
  go_wp2_with (first | (go_at_call 11; refine (hb.out _).mono ?_; rintro e w ⟨rfl, rfl⟩) | (go_at_call 12; refine (hc.out _).mono ?_; rintro e w' ⟨rfl, n, rfl⟩) | (go_at_call 13; refine (hi.out _).mono ?_; rintro e w' ⟨rfl, rfl⟩))
  refine (fb9_hit _ 58 58 rfl u p hmid hu hzm _).mono ?_
  rintro e w' ⟨rfl, rfl⟩
  go_wp2_with fail
  go_region
  go_wp2
  go_ret
  exact ⟨rfl, Grown.drew (Grown.drewN4 (Grown.refl _) _)⟩

theorem w4 (s : ByteArray) (hs : s.size ≤ maxLen) (w : World) :
    Calls Try.prog 4 #[.string s] w fun e w' => e = .returned (.bool true) ∧ Grown w w' := by
  have hb := by11 s hs
  by_cases h : s.size ≤ 1048576
  · have e : decide (s.size ≤ 1048576) = true := by simp; omega
    rw [e] at hb
    have hz : s.size ≤ 4000000 := by omega
    rcases url_or s.data.toList with hno | ⟨a, i, r, ha, hr, hu⟩
    · exact w4no s h hb (fun w => cp12_none s [] (by simp) (fun w => ui10_no s hno hz w) w) (fun w => ib13_no s hno h w) w
    · rcases first_part i 58 with hi | ⟨u, p, rfl, hu2⟩
      · exact w4miss s a i r hu hi h hb (fun w => cp12_none s i hi (fun w => ui10_yes s a i r hu ha hr hz w) w) (fun w => ib13_yes s a i r hu ha hr h w) w
      · exact w4hit s a u p r hu hu2 h hb (fun w => cp12_some s a u p r hu ha hr hu2 hz w) (fun w => ib13_yes s a _ r hu ha hr h w) w
  · have e : decide (s.size ≤ 1048576) = false := by simp; omega
    rw [e] at hb
    have Hb : Hid _ := hb
    clear hb e
    unfold maxLen at hs
    go_enter Try.func4, Try.ntmps4
    go_wp2_with (go_at_call 11; refine (Hb.out _).mono ?_; rintro e w ⟨rfl, rfl⟩)
    go_ret
    exact ⟨rfl, Grown.refl _⟩
end Go.Proofs.Qxb6602803a
