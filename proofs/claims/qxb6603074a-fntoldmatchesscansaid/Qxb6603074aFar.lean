/-
  THE CONTRACT of told (10) where the first "<" lies behind the eight bytes that are looked at one by one.
-/
import Derived.Test.Qxb6603074aText
namespace Go.Proofs.Qxb6603074a
open Go.RowKit

theorem ib_hit (c : UInt8) : ∀ (l : List UInt8) (m : Nat), l[m]? = some c → (∀ j, j < m → l[j]? ≠ some c) → Lib.indexByte l c = m
  | [], m, h, _ => by simp at h
  | x :: l, 0, h, _ => by
    have hx : x = c := by simpa using h
    subst hx
    simp [Lib.indexByte]
  | x :: l, m + 1, h, hb => by
    have hx : (x == c) = false := by
      rw [beq_eq_false_iff_ne]
      intro e
      exact hb 0 (by omega) (by simp [e])
    have ih := ib_hit c l m (by simpa using h) (fun j hj => by have := hb (j + 1) (by omega); simpa using this)
    have hne : (Lib.indexByte l c == -1) = false := by rw [beq_eq_false_iff_ne]; omega
    unfold Lib.indexByte
    rw [hx, hne, ih]
    simp
theorem ib_miss (c : UInt8) : ∀ (l : List UInt8), (∀ j : Nat, l[j]? ≠ some c) → Lib.indexByte l c = -1
  | [], _ => rfl
  | x :: l, hb => by
    have hx : (x == c) = false := by
      rw [beq_eq_false_iff_ne]
      intro e
      exact hb 0 (by simp [e])
    have ih := ib_miss c l (fun j => by have := hb (j + 1); simpa using this)
    unfold Lib.indexByte
    rw [hx, ih]
    simp

/-- the bytes from place 8 on -/
def tail8 (n : Nat) (f : Nat → Int) : List Int := (List.range (n - 8)).map (fun i => f (8 + i))
theorem tail8_len (n : Nat) (f : Nat → Int) : (tail8 n f).length = n - 8 := by simp [tail8]
theorem tail8_getD (n : Nat) (f : Nat → Int) (i : Nat) (h : i < n - 8) : (tail8 n f).getD i 0 = f (8 + i) := by
  simp [tail8, List.getD, h]
theorem tail8_get (n : Nat) (f : Nat → Int) (j : Nat) (x : UInt8) (h : (Lib.bytesOf (tail8 n f))[j]? = some x) : j < n - 8 ∧ UInt8.ofNat (f (8 + j)).toNat = x := by
  unfold Lib.bytesOf tail8 at h
  rw [List.getElem?_map, List.getElem?_map] at h
  by_cases hj : j < n - 8
  · rw [List.getElem?_range hj] at h
    exact ⟨hj, by simpa using h⟩
  · rw [List.getElem?_eq_none (by simp; omega)] at h
    simp at h
theorem tail8_at (n : Nat) (f : Nat → Int) (j : Nat) (hj : j < n - 8) : (Lib.bytesOf (tail8 n f))[j]? = some (UInt8.ofNat (f (8 + j)).toNat) := by
  unfold Lib.bytesOf tail8
  rw [List.getElem?_map, List.getElem?_map, List.getElem?_range hj]
  rfl
theorem byte60 (x : Int) (h0 : 0 ≤ x) (h1 : x ≤ 255) (h : UInt8.ofNat x.toNat = 60) : x = 60 := by
  have e : (UInt8.ofNat x.toNat).toNat = 60 := by rw [h]; rfl
  rw [UInt8.toNat_ofNat_of_lt' (by show x.toNat < 256; omega)] at e
  omega

theorem far_hit (w : World) (blk n : Nat) (f : Nat → Int) (H : Holds w blk n f) (q : Nat) (hp : First n f (8 + q)) (hq : 8 + q < n) :
    Calls Try.prog 13 #[.slice (some ⟨blk, 8, none⟩) (n - 8) (n - 8), .int .u8 60] w fun e w' => e = .returned (.int .i64 q) ∧ w' = w := by
  have h := ib13 blk 8 (n - 8) (n - 8) (tail8 n f) 60 w (tail8_len n f) (fun i hi => by rw [tail8_getD n f i hi]; exact H.1 (8 + i) (by omega))
  have e : Lib.indexByte (Lib.bytesOf (tail8 n f)) ((60 : Int).toNat.toUInt8) = q := by
    apply ib_hit
    · rw [tail8_at n f q (by omega)]
      have : f (8 + q) = 60 := hp.2.2 hq
      rw [this]
    · intro j hj e
      obtain ⟨h1, h2⟩ := tail8_get n f j _ e
      have hb := H.2 (8 + j) (by omega)
      exact hp.2.1 (8 + j) (by omega) (byte60 _ hb.1 hb.2 h2)
  rw [e] at h
  exact h
theorem far_miss (w : World) (blk n : Nat) (f : Nat → Int) (H : Holds w blk n f) (hp : First n f n) :
    Calls Try.prog 13 #[.slice (some ⟨blk, 8, none⟩) (n - 8) (n - 8), .int .u8 60] w fun e w' => e = .returned (.int .i64 (-1)) ∧ w' = w := by
  have h := ib13 blk 8 (n - 8) (n - 8) (tail8 n f) 60 w (tail8_len n f) (fun i hi => by rw [tail8_getD n f i hi]; exact H.1 (8 + i) (by omega))
  have e : Lib.indexByte (Lib.bytesOf (tail8 n f)) ((60 : Int).toNat.toUInt8) = -1 := by
    apply ib_miss
    intro j e
    obtain ⟨h1, h2⟩ := tail8_get n f j _ e
    have hb := H.2 (8 + j) (by omega)
    exact hp.2.1 (8 + j) (by omega) (byte60 _ hb.1 hb.2 h2)
  rw [e] at h
  exact h
theorem far_none (w : World) (blk : Nat) :
    Calls Try.prog 13 #[.slice (some ⟨blk, 0, none⟩) 0 0, .int .u8 60] w fun e w' => e = .returned (.int .i64 (-1)) ∧ w' = w :=
  ib13 blk 0 0 0 [] 60 w rfl (fun i hi => absurd hi (by omega))

set_option maxHeartbeats 1000000 in
/-- no "<" at all -/
theorem told_none (w : World) (blk n : Nat) (f : Nat → Int) (hn : n ≤ 1048576) (H : Hid (Holds w blk n f)) (h0 : (f 0 == 60) = false) (hp : Hid (First n f n)) (h8 : 8 ≤ n) :
    Calls Try.prog 10 #[.slice (some ⟨blk, 0, none⟩) n n] w fun e w' => e = .returned (.string sData) ∧ w' = w := by
  have hc0 := H.out.1 0 (by omega)
  go_enter Try.func10, Try.ntmps10
  go_wp2
  go_loop [4] (fun i => ∃ k : Nat, k ≤ 8 ∧ i = .int .i64 k) (fun i => 8 - (intOf i).toNat)
  case atStart => exact ⟨0, by omega, by go_num⟩
  case round =>
    obtain ⟨k, hk, rfl⟩ := hrel
    by_cases hlt : k < 8
    · have hc := H.out.1 k (by omega)
      have q1 := ne60 (hp.out.2.1 k (by omega))
      go_wp2
      go_round
      case rel => exact ⟨k + 1, by omega, by go_num⟩
      case measure => simp [intOf]; omega
    · obtain rfl : k = 8 := by omega
      by_cases hn8 : 8 < n
      · go_wp2_with fail
        refine (far_miss w blk n f H.out hp.out).mono ?_
        rintro e w' ⟨rfl, rfl⟩
        go_wp2_with fail
        go_ret
        exact ⟨rfl, rfl⟩
      · obtain rfl : n = 8 := by omega
        go_wp2_with fail
        refine (far_none w blk).mono ?_
        rintro e w' ⟨rfl, rfl⟩
        go_wp2_with fail
        go_ret
        exact ⟨rfl, rfl⟩

set_option maxHeartbeats 1000000 in
theorem told_far_end (w : World) (blk n : Nat) (f : Nat → Int) (hn : n ≤ 1048576) (H : Hid (Holds w blk n f)) (h0 : (f 0 == 60) = false) (q : Nat) (hp : Hid (First n f (8 + q))) (hq : 8 + q < n) (he : n ≤ 8 + q + 1) :
    Calls Try.prog 10 #[.slice (some ⟨blk, 0, none⟩) n n] w fun e w' => e = .returned (.string sData) ∧ w' = w := by
  have hc0 := H.out.1 0 (by omega)
  go_enter Try.func10, Try.ntmps10
  go_wp2
  go_loop [4] (fun i => ∃ k : Nat, k ≤ 8 ∧ i = .int .i64 k) (fun i => 8 - (intOf i).toNat)
  case atStart => exact ⟨0, by omega, by go_num⟩
  case round =>
    obtain ⟨k, hk, rfl⟩ := hrel
    by_cases hlt : k < 8
    · have hc := H.out.1 k (by omega)
      have q1 := ne60 (hp.out.2.1 k (by omega))
      go_wp2
      go_round
      case rel => exact ⟨k + 1, by omega, by go_num⟩
      case measure => simp [intOf]; omega
    · obtain rfl : k = 8 := by omega
      go_wp2_with fail
      refine (far_hit w blk n f H.out q hp.out hq).mono ?_
      rintro e w' ⟨rfl, rfl⟩
      go_wp2_with fail
      go_ret
      exact ⟨rfl, rfl⟩

set_option maxHeartbeats 1000000 in
theorem told_far_mid (w : World) (blk n : Nat) (f : Nat → Int) (hn : n ≤ 1048576) (H : Hid (Holds w blk n f)) (h0 : (f 0 == 60) = false) (q : Nat) (hp : Hid (First n f (8 + q))) (hq : 8 + (q + 1) < n) (b : Bool) (hb : Hid (isO (f (8 + (q + 1))) = b)) :
    Calls Try.prog 10 #[.slice (some ⟨blk, 0, none⟩) n n] w fun e w' => e = .returned (.string (pickU b)) ∧ w' = w := by
  have hc0 := H.out.1 0 (by omega)
  have ⟨b0, b1⟩ := H.out.2 (8 + (q + 1)) (by omega)
  have ho := st14 (f (8 + (q + 1))) b0 b1
  rw [hb.out] at ho
  have Ho : Hid _ := ho
  clear ho
  cases b with
  | true =>
    go_enter Try.func10, Try.ntmps10
    go_wp2
    go_loop [4] (fun i => ∃ k : Nat, k ≤ 8 ∧ i = .int .i64 k) (fun i => 8 - (intOf i).toNat)
    case atStart => exact ⟨0, by omega, by go_num⟩
    case round =>
      obtain ⟨k, hk, rfl⟩ := hrel
      by_cases hlt : k < 8
      · have hc := H.out.1 k (by omega)
        have q1 := ne60 (hp.out.2.1 k (by omega))
        go_wp2
        go_round
        case rel => exact ⟨k + 1, by omega, by go_num⟩
        case measure => simp [intOf]; omega
      · obtain rfl : k = 8 := by omega
        have hc1 := H.out.1 (8 + q) (by omega)
        have hc2 := H.out.1 (8 + (q + 1)) (by omega)
        have q2 := eq60' (hp.out.2.2 (by omega))
        go_wp2_with fail
        refine (far_hit w blk n f H.out q hp.out (by omega)).mono ?_
        rintro e w' ⟨rfl, rfl⟩
        go_wp2_with fail
        refine (Ho.out _).mono ?_
        rintro e w'' ⟨rfl, rfl⟩
        go_wp2_with fail
        go_ret
        exact ⟨rfl, rfl⟩
  | false =>
    go_enter Try.func10, Try.ntmps10
    go_wp2
    go_loop [4] (fun i => ∃ k : Nat, k ≤ 8 ∧ i = .int .i64 k) (fun i => 8 - (intOf i).toNat)
    case atStart => exact ⟨0, by omega, by go_num⟩
    case round =>
      obtain ⟨k, hk, rfl⟩ := hrel
      by_cases hlt : k < 8
      · have hc := H.out.1 k (by omega)
        have q1 := ne60 (hp.out.2.1 k (by omega))
        go_wp2
        go_round
        case rel => exact ⟨k + 1, by omega, by go_num⟩
        case measure => simp [intOf]; omega
      · obtain rfl : k = 8 := by omega
        have hc1 := H.out.1 (8 + q) (by omega)
        have hc2 := H.out.1 (8 + (q + 1)) (by omega)
        have q2 := eq60' (hp.out.2.2 (by omega))
        go_wp2_with fail
        refine (far_hit w blk n f H.out q hp.out (by omega)).mono ?_
        rintro e w' ⟨rfl, rfl⟩
        go_wp2_with fail
        refine (Ho.out _).mono ?_
        rintro e w'' ⟨rfl, rfl⟩
        go_wp2_with fail
        go_ret
        exact ⟨rfl, rfl⟩

/-- told and the plain scan answer alike -/
theorem both (w : World) (blk n : Nat) (f : Nat → Int) (hn : n ≤ 1048576) (H : Holds w blk n f) :
    ∃ v : ByteArray, (Calls Try.prog 10 #[.slice (some ⟨blk, 0, none⟩) n n] w fun e w' => e = .returned (.string v) ∧ w' = w) ∧
      (Calls Try.prog 8 #[.slice (some ⟨blk, 0, none⟩) n n] w fun e w' => e = .returned (.string v) ∧ w' = w) := by
  by_cases hA : 2 ≤ n ∧ f 0 = 60
  · obtain ⟨h2, h0⟩ := hA
    by_cases h1 : f 1 = 47
    · have h1' : (f 1 == 47) = true := by rw [h1]; rfl
      by_cases h3 : n < 3
      · exact ⟨_, told_1b w blk n n f H h2 h3 (eq60' h0) h1', scan_1b w blk n n f H h2 h3 (eq60' h0) h1'⟩
      · exact ⟨_, told_2 w blk n n f hn H (by omega) (eq60' h0) h1', scan_2 w blk n n f hn H (by omega) (eq60' h0) h1'⟩
    · have h1' : (f 1 == 47) = false := by rw [beq_eq_false_iff_ne]; exact h1
      exact ⟨_, told_1a w blk n n f hn H h2 (eq60' h0) h1', scan_1a w blk n n f hn H h2 (eq60' h0) h1'⟩
  · obtain ⟨p, hp⟩ := first_is n f
    have hA' : n < 2 ∨ (2 ≤ n ∧ (f 0 == 60) = false) := by
      by_cases h2 : n < 2
      · exact Or.inl h2
      · exact Or.inr ⟨by omega, ne60' (fun e => hA ⟨by omega, e⟩)⟩
    have hpn := hp.1
    by_cases he : n ≤ p + 1
    · refine ⟨_, ?_, scan_end w blk n n f hn H hA' p hp he⟩
      by_cases h8 : p < 8
      · exact told_end w blk n n f hn H hA' p hp he h8
      · have h0 : (f 0 == 60) = false := by
          rcases hA' with h | h
          · omega
          · exact h.2
        by_cases hpp : p = n
        · subst hpp
          exact told_none w blk p f hn H h0 hp (by omega)
        · obtain ⟨q, rfl⟩ : ∃ q, p = 8 + q := ⟨p - 8, by omega⟩
          exact told_far_end w blk n f hn H h0 q hp (by omega) he
    · have h0 : (f 0 == 60) = false := by
        rcases hA' with h | h
        · omega
        · exact h.2
      have hp1 : 1 ≤ p := by
        apply Classical.byContradiction
        intro hp0
        obtain rfl : p = 0 := by omega
        exact hA ⟨by omega, hp.2.2 (by omega)⟩
      refine ⟨_, ?_, scan_mid w blk n n f hn H h0 p hp hp1 (by omega) _ rfl⟩
      by_cases h8 : p < 8
      · exact told_mid w blk n n f hn H h0 p hp hp1 (by omega) h8 _ rfl
      · obtain ⟨q, rfl⟩ : ∃ q, p = 8 + q := ⟨p - 8, by omega⟩
        exact told_far_mid w blk n f hn H h0 q hp (by omega) _ rfl

theorem told_nil (w : World) : Calls Try.prog 10 #[.slice none 0 0] w fun e w' => e = .returned (.string sData) ∧ w' = w := by
  go_enter Try.func10, Try.ntmps10
  go_wp2
  go_loop [4] (fun i => i = .int .i64 0) (fun i => (intOf i).toNat)
  case atStart => rfl
  case round =>
    subst hrel
    go_wp2
    go_ret
    exact ⟨rfl, rfl⟩
theorem scan_nil (w : World) : Calls Try.prog 8 #[.slice none 0 0] w fun e w' => e = .returned (.string sData) ∧ w' = w := by
  go_enter Try.func8, Try.ntmps8
  go_wp2
  go_loop [4] (fun i => i = .int .i64 0) (fun i => (intOf i).toNat)
  case atStart => rfl
  case round =>
    subst hrel
    go_wp2
    go_ret
    exact ⟨rfl, rfl⟩
theorem zz7 (a : Option Addr) (n c : Nat) (v : ByteArray) (w : World) (h : Hid (Calls Try.prog 10 #[.slice a n c] w fun e w' => e = .returned (.string v) ∧ w' = w)) :
    Calls Try.prog 7 #[.slice a n c] w fun e w' => e = .returned (.string v) ∧ w' = w := by
  go_enter Try.func7, Try.ntmps7
  go_wp2_with (go_at_call 10; refine h.out.mono ?_; rintro e w' ⟨rfl, rfl⟩)
  go_ret
  exact ⟨rfl, rfl⟩
end Go.Proofs.Qxb6603074a
