/-
  THE CONTRACTS of sqlsinkB1FirstByte (9), sqlsinkB1LastByteFrom (24), UserInfo (10), CutPassword (12).
-/
import Derived.Test.Qxb6602803aLibs
namespace Go.Proofs.Qxb6602803a
open Go.RowKit

set_option maxHeartbeats 400000 in
theorem fb9_hit (s : ByteArray) (c : UInt8) (ci : Int) (hci : Hid (ci = c.toNat)) (a b : List UInt8) (hs : Hid (s.data.toList = a ++ c :: b)) (ha : Hid (c ∉ a)) (hz : s.size ≤ 4000000) (w : World) :
    Calls Try.prog 9 #[.string s, .int .u8 ci] w fun e w' => e = .returned (.int .i64 a.length) ∧ w' = w := by
  have hl : a.length < s.size := by rw [size_list, hs.out]; simp
  go_enter Try.func9, Try.ntmps9
  go_wp2
  go_loop [5] (fun i => ∃ k : Nat, k ≤ a.length ∧ i = .int .i64 k) (fun i => s.size - (intOf i).toNat)
  case atStart => exact ⟨0, by omega, by go_num⟩
  case round =>
    obtain ⟨k, hk, rfl⟩ := hrel
    have hlt : k < s.size := by omega
    by_cases he : k = a.length
    · subst he
      have hc := eq_byte s c ci hci.out _ hlt (get_at s a b c hs.out hlt)
      go_wp2
      go_ret
      exact ⟨rfl, rfl⟩
    · have hc := ne_byte s c ci hci.out k hlt (fun e => ha.out (e ▸ get_mem_pre s a b c hs.out k hlt (by omega)))
      go_wp2
      go_round
      case rel => exact ⟨k + 1, by omega, by go_num⟩
      case measure => simp [intOf]; omega
set_option maxHeartbeats 400000 in
theorem fb9_miss (s : ByteArray) (c : UInt8) (ci : Int) (hci : Hid (ci = c.toNat)) (hs : Hid (c ∉ s.data.toList)) (hz : s.size ≤ 4000000) (w : World) :
    Calls Try.prog 9 #[.string s, .int .u8 ci] w fun e w' => e = .returned (.int .i64 (-1)) ∧ w' = w := by
  go_enter Try.func9, Try.ntmps9
  go_wp2
  go_loop [5] (fun i => ∃ k : Nat, k ≤ s.size ∧ i = .int .i64 k) (fun i => s.size - (intOf i).toNat)
  case atStart => exact ⟨0, by omega, by go_num⟩
  case round =>
    obtain ⟨k, hk, rfl⟩ := hrel
    by_cases hlt : k < s.size
    · have hc := ne_byte s c ci hci.out k hlt (fun e => hs.out (e ▸ get_mem s k hlt))
      go_wp2
      go_round
      case rel => exact ⟨k + 1, by omega, by go_num⟩
      case measure => simp [intOf]; omega
    · go_wp2
      go_ret
      exact ⟨rfl, rfl⟩
set_option maxHeartbeats 400000 in
theorem lf24_hit (s : ByteArray) (c : UInt8) (ci : Int) (hci : Hid (ci = c.toNat)) (lo : Int) (a b : List UInt8) (hs : Hid (s.data.toList = a ++ c :: b)) (hb : Hid (c ∉ b)) (_h0 : 0 ≤ lo) (hlo : lo ≤ a.length) (hz : s.size ≤ 4000000) (w : World) :
    Calls Try.prog 24 #[.string s, .int .u8 ci, .int .i64 lo] w fun e w' => e = .returned (.int .i64 a.length) ∧ w' = w := by
  have hl : a.length < s.size := by rw [size_list, hs.out]; simp
  go_enter Try.func24, Try.ntmps24
  go_wp2
  go_loop [7] (fun i => ∃ k : Nat, a.length ≤ k ∧ k < s.size ∧ i = .int .i64 k) (fun i => (intOf i).toNat)
  case atStart => exact ⟨s.size - 1, by omega, by omega, by go_num⟩
  case round =>
    obtain ⟨k, hk, hlt, rfl⟩ := hrel
    by_cases he : k = a.length
    · subst he
      have hc := eq_byte s c ci hci.out _ hlt (get_at s a b c hs.out hlt)
      go_wp2
      go_ret
      exact ⟨rfl, rfl⟩
    · have hc := ne_byte s c ci hci.out k hlt (fun e => hb.out (e ▸ get_mem_suf s a b c hs.out k hlt (by omega)))
      go_wp2
      go_round
      case rel => exact ⟨k - 1, by omega, by omega, by go_num⟩
      case measure => simp [intOf]; omega
set_option maxHeartbeats 400000 in
theorem lf24_miss (s : ByteArray) (c : UInt8) (ci : Int) (hci : Hid (ci = c.toNat)) (lo : Int) (hs : Hid (∀ k, lo ≤ (k : Nat) → ∀ h : k < s.size, s[k] ≠ c)) (h0 : 0 ≤ lo) (hlo : lo ≤ s.size) (hz : s.size ≤ 4000000) (w : World) :
    Calls Try.prog 24 #[.string s, .int .u8 ci, .int .i64 lo] w fun e w' => e = .returned (.int .i64 (-1)) ∧ w' = w := by
  go_enter Try.func24, Try.ntmps24
  go_wp2
  go_loop [7] (fun i => ∃ k : Int, lo - 1 ≤ k ∧ k < s.size ∧ i = .int .i64 k) (fun i => (intOf i + 1).toNat)
  case atStart => exact ⟨(s.size : Int) - 1, by omega, by omega, by go_num⟩
  case round =>
    obtain ⟨k, hk, hlt, rfl⟩ := hrel
    by_cases he : k < lo
    · go_wp2
      go_ret
      exact ⟨rfl, rfl⟩
    · obtain ⟨m, rfl⟩ := Int.eq_ofNat_of_zero_le (by omega : 0 ≤ k)
      have hm : m < s.size := by omega
      have hc := ne_byte s c ci hci.out m hm (hs.out m (by omega) hm)
      go_wp2
      go_round
      case rel => exact ⟨(m : Int) - 1, by omega, by omega, by go_num⟩
      case measure => simp [intOf]

/-- the bytes of scheme://info@host -/
def urlOf (a i r : List UInt8) : List UInt8 := a ++ 58 :: 47 :: 47 :: (i ++ 64 :: r)

set_option maxHeartbeats 1000000 in
theorem ui10_yes (s : ByteArray) (a i r : List UInt8) (hs : Hid (s.data.toList = urlOf a i r)) (ha : 58 ∉ a) (hr : Hid (64 ∉ r)) (hz : s.size ≤ 4000000) (w : World) :
    Calls Try.prog 10 #[.string s] w fun e w' => e = .returned (.string (B i)) ∧ ∃ n, w' = w.drewN n := by
  have hl : s.size = a.length + 3 + i.length + 1 + r.length := by rw [size_list, hs.out]; simp [urlOf]; omega
  have hz1 : (B (47 :: 47 :: (i ++ 64 :: r))).size ≤ 4000000 := by rw [B_size]; simp; omega
  have hz2 : (B (i ++ 64 :: r)).size ≤ 4000000 := by rw [B_size]; simp; omega
  have c1 : (i.length : Int) ≤ ((B (i ++ 64 :: r)).size : Int) := by rw [B_size]; simp; omega
  clear hl
  go_enter Try.func10, Try.ntmps10
  go_wp2_with (first | (go_at_call 20; refine (cut20_hit s 58 a (47 :: 47 :: (i ++ 64 :: r)) hs ha hz _).mono ?_; rintro e w' ⟨rfl, n, rfl⟩) | (go_at_call 21; refine (cp21_hit (B (47 :: 47 :: (i ++ 64 :: r))) (i ++ 64 :: r) (B_list _) hz1 _).mono ?_; rintro e w' ⟨rfl, rfl⟩) | (go_at_call 22; refine (li22_hit (B (i ++ 64 :: r)) 64 i r (B_list _) hr hz2 _).mono ?_; rintro e w' ⟨rfl, rfl⟩))
  go_ret
  exact ⟨ret_str (ext_list (by rw [extract_list, B_list, B_list]; simp)), n, rfl⟩

/-- s is no scheme://info@host -/
def NoUrl (l : List UInt8) : Prop := ∀ a i r, 58 ∉ a → 64 ∉ r → l ≠ urlOf a i r

theorem url_or (l : List UInt8) : NoUrl l ∨ ∃ a i r, 58 ∉ a ∧ 64 ∉ r ∧ l = urlOf a i r := by
  by_cases h : NoUrl l
  · exact Or.inl h
  · refine Or.inr ?_
    apply Classical.byContradiction
    intro g
    apply h
    intro a i r ha hr e
    exact g ⟨a, i, r, ha, hr, e⟩

set_option maxHeartbeats 1000000 in
theorem ui10_no (s : ByteArray) (h : Hid (NoUrl s.data.toList)) (hz : s.size ≤ 4000000) (w : World) :
    Calls Try.prog 10 #[.string s] w fun e w' => e = .returned (.string (B [])) ∧ ∃ n, w' = w.drewN n := by
  have hz0 : (B []).size ≤ 4000000 := by rw [B_size]; simp
  rcases first_part s.data.toList 58 with hm | ⟨a, b, hab, ha⟩
  · go_enter Try.func10, Try.ntmps10
    go_wp2_with (first | (go_at_call 20; refine (cut20_miss s 58 hm _).mono ?_; rintro e w' ⟨rfl, n, rfl⟩) | (go_at_call 21; refine (cp21_miss (B []) (fun r e => by cases e) hz0 _).mono ?_; rintro e w' ⟨rfl, rfl⟩) | (go_at_call 22; refine (li22_miss (B []) 64 (fun e => by cases e) hz0 _).mono ?_; rintro e w' ⟨rfl, rfl⟩))
    go_ret
    exact ⟨rfl, n, rfl⟩
  · have hzb : (B b).size ≤ 4000000 := by
      rw [B_size]
      have : s.size = a.length + 1 + b.length := by rw [size_list, hab]; simp; omega
      omega
    have Hab : Hid _ := hab
    clear hab
    by_cases hp : ∃ r, b = 47 :: 47 :: r
    · obtain ⟨r, rfl⟩ := hp
      have hr : Hid (64 ∉ (B r).data.toList) := by
        intro hin
        rcases last_part r 64 with hno | ⟨x, y, hxy, hy⟩
        · exact hno hin
        · subst hxy
          exact h.out a x y ha hy Hab.out
      have hzr : (B r).size ≤ 4000000 := by rw [B_size] at hzb ⊢; simp at hzb; omega
      go_enter Try.func10, Try.ntmps10
      go_wp2_with (first | (go_at_call 20; refine (cut20_hit s 58 a (47 :: 47 :: r) Hab ha hz _).mono ?_; rintro e w' ⟨rfl, n, rfl⟩) | (go_at_call 21; refine (cp21_hit (B (47 :: 47 :: r)) r (B_list _) hzb _).mono ?_; rintro e w' ⟨rfl, rfl⟩) | (go_at_call 22; refine (li22_miss (B r) 64 hr hzr _).mono ?_; rintro e w' ⟨rfl, rfl⟩))
      go_ret
      exact ⟨rfl, n, rfl⟩
    · have hp' : Hid (∀ r, (B b).data.toList ≠ 47 :: 47 :: r) := fun r e => hp ⟨r, e⟩
      clear hp
      rcases last_part b 64 with hno | ⟨x, y, hxy, hy⟩
      · have hno' : Hid (64 ∉ (B b).data.toList) := hno
        go_enter Try.func10, Try.ntmps10
        go_wp2_with (first | (go_at_call 20; refine (cut20_hit s 58 a b Hab ha hz _).mono ?_; rintro e w' ⟨rfl, n, rfl⟩) | (go_at_call 21; refine (cp21_miss (B b) hp' hzb _).mono ?_; rintro e w' ⟨rfl, rfl⟩) | (go_at_call 22; refine (li22_miss (B b) 64 hno' hzb _).mono ?_; rintro e w' ⟨rfl, rfl⟩))
        go_ret
        exact ⟨rfl, n, rfl⟩
      · have hxy' : Hid ((B b).data.toList = x ++ 64 :: y) := hxy
        have hy' : Hid _ := hy
        clear hxy hy
        go_enter Try.func10, Try.ntmps10
        go_wp2_with (first | (go_at_call 20; refine (cut20_hit s 58 a b Hab ha hz _).mono ?_; rintro e w' ⟨rfl, n, rfl⟩) | (go_at_call 21; refine (cp21_miss (B b) hp' hzb _).mono ?_; rintro e w' ⟨rfl, rfl⟩) | (go_at_call 22; refine (li22_hit (B b) 64 x y hxy' hy' hzb _).mono ?_; rintro e w' ⟨rfl, rfl⟩))
        go_ret
        exact ⟨rfl, n, rfl⟩

/-! ### CutPassword -/
theorem append_list (s t : ByteArray) : (s ++ t).data.toList = s.data.toList ++ t.data.toList := by
  simp
theorem urlOf_eq (a i r : List UInt8) : urlOf a i r = (a ++ [58, 47, 47]) ++ (i ++ 64 :: r) := by
  unfold urlOf; simp
theorem url_take (a i r : List UInt8) : (urlOf a i r).take (a.length + 3) = a ++ [58, 47, 47] := by
  rw [urlOf_eq, List.take_left' (by simp)]
theorem url_drop (a i r : List UInt8) : (urlOf a i r).drop (a.length + 3) = i ++ 64 :: r := by
  rw [urlOf_eq, List.drop_left' (by simp)]
theorem url_drop2 (a i r : List UInt8) : (urlOf a i r).drop (a.length + 3 + i.length) = 64 :: r := by
  rw [← List.drop_drop, url_drop, List.drop_left]
theorem bare_eq (s : ByteArray) (a u p r : List UInt8) (hs : s.data.toList = urlOf a (u ++ 58 :: p) r) :
    s.extract 0 (a.length + 3) ++ B u ++ s.extract (a.length + 3 + (B (u ++ 58 :: p)).size) s.size = B (urlOf a u r) := by
  apply ext_list
  rw [append_list, append_list, extract_list, List.drop_zero, suf_list, B_size, hs, url_take, url_drop2, B_list, B_list, urlOf_eq]
  simp
set_option maxHeartbeats 1000000 in
theorem cp12_none (s : ByteArray) (i : List UInt8) (hi : 58 ∉ i) (hu : Hid (∀ w, Calls Try.prog 10 #[.string s] w fun e w' => e = .returned (.string (B i)) ∧ ∃ n, w' = w.drewN n)) (w : World) :
    Calls Try.prog 12 #[.string s] w fun e w' => e = .returned (.tuple #[.string s, .string (B []), .bool false]) ∧ ∃ n, w' = w.drewN n := by
  have hi' : ¬ 58 ∈ (B i).data.toList := hi
  go_enter Try.func12, Try.ntmps12
  go_wp2_with (first | (go_at_call 10; refine (hu.out _).mono ?_; rintro e w' ⟨rfl, n, rfl⟩) | (go_at_call 20; refine (cut20_miss (B i) 58 hi' _).mono ?_; rintro e w' ⟨rfl, m, rfl⟩))
  go_ret3
  exact ⟨rfl, _, rfl⟩

set_option maxHeartbeats 1000000 in
theorem cp12_some (s : ByteArray) (a u p r : List UInt8) (hs : Hid (s.data.toList = urlOf a (u ++ 58 :: p) r)) (ha : 58 ∉ a) (hr : Hid (64 ∉ r)) (hu : 58 ∉ u) (hz : s.size ≤ 4000000) (w : World) :
    Calls Try.prog 12 #[.string s] w fun e w' => e = .returned (.tuple #[.string (B (urlOf a u r)), .string (B p), .bool true]) ∧ ∃ n, w' = w.drewN n := by
  have hl : s.size = a.length + 3 + (u.length + 1 + p.length) + 1 + r.length := by rw [size_list, hs.out]; simp [urlOf]; omega
  have hzi : (B (u ++ 58 :: p)).size = u.length + 1 + p.length := by rw [B_size]; simp; omega
  have hzu : (B u).size = u.length := B_size u
  have hix : Lib.indexByte s.data.toList 58 = a.length := by rw [hs.out]; exact index_hit _ _ _ ha
  have Hix : Hid _ := hix
  have hzi' : (B (u ++ 58 :: p)).size ≤ 4000000 := by omega
  have c1 : (a.length : Int) + 3 ≤ (s.size : Int) := by omega
  have c2 : (a.length : Int) + 3 + ((B (u ++ 58 :: p)).size : Int) ≤ (s.size : Int) := by omega
  have c4 : (0 : Int) ≤ (a.length : Int) + 3 + ((B (u ++ 58 :: p)).size : Int) := by omega
  have c5 : (B u).size ≤ 4000000 := by omega
  have Hl : Hid _ := hl
  have Hzi : Hid _ := hzi
  clear hix hl hzi hzu
  go_enter Try.func12, Try.ntmps12
  go_wp2_with (first | (go_at_call 10; refine (ui10_yes s a (u ++ 58 :: p) r hs ha hr hz _).mono ?_; rintro e w' ⟨rfl, n, rfl⟩) | (go_at_call 20; refine (cut20_hit (B (u ++ 58 :: p)) 58 u p (B_list _) hu hzi' _).mono ?_; rintro e w' ⟨rfl, m, rfl⟩) | (go_at_call 23; refine (ix23 s 58 _).mono ?_; rintro e w' ⟨rfl, rfl⟩; rw [Hix.out]))
  go_region
  go_wp2
  go_ret3
  exact ⟨ret_ssb (bare_eq s a u p r hs.out) rfl rfl, n + m + 1, rfl⟩
end Go.Proofs.Qxb6602803a
