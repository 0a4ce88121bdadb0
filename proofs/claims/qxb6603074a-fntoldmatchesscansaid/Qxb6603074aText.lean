/-
  THE CONTRACTS of told (10) and toldByScan (8) where the buffer does not open with "<" and one byte more: p is the place of the first "<" (n where there is none).
-/
import Derived.Test.Qxb6603074aTold
namespace Go.Proofs.Qxb6603074a
open Go.RowKit

/-- uncut or data -/
def pickU (b : Bool) : ByteArray := if b = true then ⟨#[]⟩ else sData

/-- p is the first place of 60 among n bytes, or n -/
def First (n : Nat) (f : Nat → Int) (p : Nat) : Prop := p ≤ n ∧ (∀ j, j < p → f j ≠ 60) ∧ (p < n → f p = 60)

theorem first_is (n : Nat) (f : Nat → Int) : ∃ p, First n f p := by
  induction n with
  | zero => exact ⟨0, Nat.le_refl _, fun j h => absurd h (by omega), fun h => absurd h (by omega)⟩
  | succ n ih =>
    obtain ⟨p, h1, h2, h3⟩ := ih
    by_cases hp : p < n
    · exact ⟨p, by omega, h2, fun _ => h3 hp⟩
    · obtain rfl : p = n := by omega
      by_cases h : f p = 60
      · exact ⟨p, by omega, h2, fun _ => h⟩
      · refine ⟨p + 1, by omega, ?_, fun h => absurd h (by omega)⟩
        intro j hj
        by_cases e : j = p
        · subst e; exact h
        · exact h2 j (by omega)

theorem ne60 {x : Int} (h : x ≠ 60) : (x != 60) = true := by rw [bne_iff_ne]; exact h
theorem eq60 {x : Int} (h : x = 60) : (x != 60) = false := by rw [h]; rfl
theorem ne60' {x : Int} (h : x ≠ 60) : (x == 60) = false := by rw [beq_eq_false_iff_ne]; exact h
theorem eq60' {x : Int} (h : x = 60) : (x == 60) = true := by rw [h]; rfl

set_option maxHeartbeats 1000000 in
theorem scan_end (w : World) (blk n c : Nat) (f : Nat → Int) (hn : n ≤ 1048576) (H : Hid (Holds w blk n f)) (hA : n < 2 ∨ (2 ≤ n ∧ (f 0 == 60) = false)) (p : Nat) (hp : Hid (First n f p)) (he : n ≤ p + 1) :
    Calls Try.prog 8 #[.slice (some ⟨blk, 0, none⟩) n c] w fun e w' => e = .returned (.string sData) ∧ w' = w := by
  have hpn := hp.out.1
  rcases hA with h2 | ⟨h2, h0⟩
  · go_enter Try.func8, Try.ntmps8
    go_wp2
    go_loop [4] (fun i => ∃ k : Nat, k ≤ p ∧ i = .int .i64 k) (fun i => p - (intOf i).toNat)
    case atStart => exact ⟨0, by omega, by go_num⟩
    case round =>
      obtain ⟨k, hk, rfl⟩ := hrel
      by_cases hlt : k < p
      · have hc := H.out.1 k (by omega)
        have q1 := ne60 (hp.out.2.1 k hlt)
        go_wp2
        go_round
        case rel => exact ⟨k + 1, by omega, by go_num⟩
        case measure => simp [intOf]; omega
      · obtain rfl : k = p := by omega
        by_cases hkn : k < n
        · have hc := H.out.1 k hkn
          have q1 := eq60 (hp.out.2.2 hkn)
          have e1 : (n : Int) ≤ (k : Int) + 1 := by omega
          go_wp2
          all_goals
            go_ret
            exact ⟨rfl, rfl⟩
        · go_wp2
          all_goals
            go_ret
            exact ⟨rfl, rfl⟩
  · have hc0 := H.out.1 0 (by omega)
    go_enter Try.func8, Try.ntmps8
    go_wp2
    go_loop [4] (fun i => ∃ k : Nat, k ≤ p ∧ i = .int .i64 k) (fun i => p - (intOf i).toNat)
    case atStart => exact ⟨0, by omega, by go_num⟩
    case round =>
      obtain ⟨k, hk, rfl⟩ := hrel
      by_cases hlt : k < p
      · have hc := H.out.1 k (by omega)
        have q1 := ne60 (hp.out.2.1 k hlt)
        go_wp2
        go_round
        case rel => exact ⟨k + 1, by omega, by go_num⟩
        case measure => simp [intOf]; omega
      · obtain rfl : k = p := by omega
        by_cases hkn : k < n
        · have hc := H.out.1 k hkn
          have q1 := eq60 (hp.out.2.2 hkn)
          have e1 : (n : Int) ≤ (k : Int) + 1 := by omega
          go_wp2
          all_goals
            go_ret
            exact ⟨rfl, rfl⟩
        · go_wp2
          all_goals
            go_ret
            exact ⟨rfl, rfl⟩

set_option maxHeartbeats 1000000 in
theorem scan_mid (w : World) (blk n c : Nat) (f : Nat → Int) (hn : n ≤ 1048576) (H : Hid (Holds w blk n f)) (h0 : (f 0 == 60) = false) (p : Nat) (hp : Hid (First n f p)) (hp1 : 1 ≤ p) (hp2 : p + 1 < n) (b : Bool) (hb : Hid (isO (f (p + 1)) = b)) :
    Calls Try.prog 8 #[.slice (some ⟨blk, 0, none⟩) n c] w fun e w' => e = .returned (.string (pickU b)) ∧ w' = w := by
  have hc0 := H.out.1 0 (by omega)
  have ho := op12 (f (p + 1))
  rw [hb.out] at ho
  have Ho : Hid _ := ho
  clear ho
  cases b with
  | true =>
    go_enter Try.func8, Try.ntmps8
    go_wp2
    go_loop [4] (fun i => ∃ k : Nat, k ≤ p ∧ i = .int .i64 k) (fun i => p - (intOf i).toNat)
    case atStart => exact ⟨0, by omega, by go_num⟩
    case round =>
      obtain ⟨k, hk, rfl⟩ := hrel
      by_cases hlt : k < p
      · have hc := H.out.1 k (by omega)
        have q1 := ne60 (hp.out.2.1 k hlt)
        go_wp2
        go_round
        case rel => exact ⟨k + 1, by omega, by go_num⟩
        case measure => simp [intOf]; omega
      · obtain rfl : k = p := by omega
        have hc := H.out.1 k (by omega)
        have hc1 := H.out.1 (k + 1) (by omega)
        have q1 := eq60 (hp.out.2.2 (by omega))
        go_wp2_with (go_at_call 12; refine (Ho.out _).mono ?_; rintro e w ⟨rfl, rfl⟩)
        go_ret
        exact ⟨rfl, rfl⟩
  | false =>
    go_enter Try.func8, Try.ntmps8
    go_wp2
    go_loop [4] (fun i => ∃ k : Nat, k ≤ p ∧ i = .int .i64 k) (fun i => p - (intOf i).toNat)
    case atStart => exact ⟨0, by omega, by go_num⟩
    case round =>
      obtain ⟨k, hk, rfl⟩ := hrel
      by_cases hlt : k < p
      · have hc := H.out.1 k (by omega)
        have q1 := ne60 (hp.out.2.1 k hlt)
        go_wp2
        go_round
        case rel => exact ⟨k + 1, by omega, by go_num⟩
        case measure => simp [intOf]; omega
      · obtain rfl : k = p := by omega
        have hc := H.out.1 k (by omega)
        have hc1 := H.out.1 (k + 1) (by omega)
        have q1 := eq60 (hp.out.2.2 (by omega))
        go_wp2_with (go_at_call 12; refine (Ho.out _).mono ?_; rintro e w ⟨rfl, rfl⟩)
        go_ret
        exact ⟨rfl, rfl⟩

set_option maxHeartbeats 1000000 in
theorem told_end (w : World) (blk n c : Nat) (f : Nat → Int) (hn : n ≤ 1048576) (H : Hid (Holds w blk n f)) (hA : n < 2 ∨ (2 ≤ n ∧ (f 0 == 60) = false)) (p : Nat) (hp : Hid (First n f p)) (he : n ≤ p + 1) (h8 : p < 8) :
    Calls Try.prog 10 #[.slice (some ⟨blk, 0, none⟩) n c] w fun e w' => e = .returned (.string sData) ∧ w' = w := by
  have hpn := hp.out.1
  rcases hA with h2 | ⟨h2, h0⟩
  · go_enter Try.func10, Try.ntmps10
    go_wp2
    go_loop [4] (fun i => ∃ k : Nat, k ≤ p ∧ i = .int .i64 k) (fun i => p - (intOf i).toNat)
    case atStart => exact ⟨0, by omega, by go_num⟩
    case round =>
      obtain ⟨k, hk, rfl⟩ := hrel
      have q8 : ((k : Int) == 8) = false := by rw [beq_eq_false_iff_ne]; omega
      by_cases hlt : k < p
      · have hc := H.out.1 k (by omega)
        have q1 := ne60 (hp.out.2.1 k hlt)
        go_wp2
        go_round
        case rel => exact ⟨k + 1, by omega, by go_num⟩
        case measure => simp [intOf]; omega
      · obtain rfl : k = p := by omega
        by_cases hkn : k < n
        · have hc := H.out.1 k hkn
          have q1 := eq60 (hp.out.2.2 hkn)
          have e1 : (n : Int) ≤ (k : Int) + 1 := by omega
          go_wp2
          all_goals
            go_ret
            exact ⟨rfl, rfl⟩
        · go_wp2
          all_goals
            go_ret
            exact ⟨rfl, rfl⟩
  · have hc0 := H.out.1 0 (by omega)
    go_enter Try.func10, Try.ntmps10
    go_wp2
    go_loop [4] (fun i => ∃ k : Nat, k ≤ p ∧ i = .int .i64 k) (fun i => p - (intOf i).toNat)
    case atStart => exact ⟨0, by omega, by go_num⟩
    case round =>
      obtain ⟨k, hk, rfl⟩ := hrel
      have q8 : ((k : Int) == 8) = false := by rw [beq_eq_false_iff_ne]; omega
      by_cases hlt : k < p
      · have hc := H.out.1 k (by omega)
        have q1 := ne60 (hp.out.2.1 k hlt)
        go_wp2
        go_round
        case rel => exact ⟨k + 1, by omega, by go_num⟩
        case measure => simp [intOf]; omega
      · obtain rfl : k = p := by omega
        by_cases hkn : k < n
        · have hc := H.out.1 k hkn
          have q1 := eq60 (hp.out.2.2 hkn)
          have e1 : (n : Int) ≤ (k : Int) + 1 := by omega
          go_wp2
          all_goals
            go_ret
            exact ⟨rfl, rfl⟩
        · go_wp2
          all_goals
            go_ret
            exact ⟨rfl, rfl⟩

set_option maxHeartbeats 1000000 in
theorem told_mid (w : World) (blk n c : Nat) (f : Nat → Int) (hn : n ≤ 1048576) (H : Hid (Holds w blk n f)) (h0 : (f 0 == 60) = false) (p : Nat) (hp : Hid (First n f p)) (hp1 : 1 ≤ p) (hp2 : p + 1 < n) (h8 : p < 8) (b : Bool) (hb : Hid (isO (f (p + 1)) = b)) :
    Calls Try.prog 10 #[.slice (some ⟨blk, 0, none⟩) n c] w fun e w' => e = .returned (.string (pickU b)) ∧ w' = w := by
  have hc0 := H.out.1 0 (by omega)
  have ⟨b0, b1⟩ := H.out.2 (p + 1) (by omega)
  have ho := st14 (f (p + 1)) b0 b1
  rw [hb.out] at ho
  have Ho : Hid _ := ho
  clear ho
  cases b with
  | true =>
    go_enter Try.func10, Try.ntmps10
    go_wp2
    go_loop [4] (fun i => ∃ k : Nat, k ≤ p ∧ i = .int .i64 k) (fun i => p - (intOf i).toNat)
    case atStart => exact ⟨0, by omega, by go_num⟩
    case round =>
      obtain ⟨k, hk, rfl⟩ := hrel
      have q8 : ((k : Int) == 8) = false := by rw [beq_eq_false_iff_ne]; omega
      by_cases hlt : k < p
      · have hc := H.out.1 k (by omega)
        have q1 := ne60 (hp.out.2.1 k hlt)
        go_wp2
        go_round
        case rel => exact ⟨k + 1, by omega, by go_num⟩
        case measure => simp [intOf]; omega
      · obtain rfl : k = p := by omega
        have hc := H.out.1 k (by omega)
        have hc1 := H.out.1 (k + 1) (by omega)
        have q1 := eq60 (hp.out.2.2 (by omega))
        have q2 := eq60' (hp.out.2.2 (by omega))
        go_wp2_with (go_at_call 14; refine (Ho.out _).mono ?_; rintro e w ⟨rfl, rfl⟩)
        go_ret
        exact ⟨rfl, rfl⟩
  | false =>
    go_enter Try.func10, Try.ntmps10
    go_wp2
    go_loop [4] (fun i => ∃ k : Nat, k ≤ p ∧ i = .int .i64 k) (fun i => p - (intOf i).toNat)
    case atStart => exact ⟨0, by omega, by go_num⟩
    case round =>
      obtain ⟨k, hk, rfl⟩ := hrel
      have q8 : ((k : Int) == 8) = false := by rw [beq_eq_false_iff_ne]; omega
      by_cases hlt : k < p
      · have hc := H.out.1 k (by omega)
        have q1 := ne60 (hp.out.2.1 k hlt)
        go_wp2
        go_round
        case rel => exact ⟨k + 1, by omega, by go_num⟩
        case measure => simp [intOf]; omega
      · obtain rfl : k = p := by omega
        have hc := H.out.1 k (by omega)
        have hc1 := H.out.1 (k + 1) (by omega)
        have q1 := eq60 (hp.out.2.2 (by omega))
        have q2 := eq60' (hp.out.2.2 (by omega))
        go_wp2_with (go_at_call 14; refine (Ho.out _).mono ?_; rintro e w ⟨rfl, rfl⟩)
        go_ret
        exact ⟨rfl, rfl⟩

end Go.Proofs.Qxb6603074a
