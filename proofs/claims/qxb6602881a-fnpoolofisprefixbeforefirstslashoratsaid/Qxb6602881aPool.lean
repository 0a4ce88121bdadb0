/-
  THE WALKS of zzBytes (5), poolOf (8), ZZPoolOf (6) and of the law FnPoolOfIsPrefixBeforeFirstSlashOrAt (3).
-/
import Derived.Test.Qxb6602881aLibs
import Derived.RowKit3
import Derived.Deep.QuietTactic
import Derived.BigQuiet
namespace Go.Proofs.Qxb6602881a
open Go.RowKit

theorem Grown.drewN {W w' : World} (h : Grown W w') (n : Nat) : Grown W (w'.drewN n) := h

/-- a is what stands in l ahead of the first slash or at-sign (all of l where it holds none) -/
def Ahead (l a : List UInt8) : Prop := 47 ∉ a ∧ 64 ∉ a ∧ (l = a ∨ ∃ c b, l = a ++ c :: b ∧ (c = 47 ∨ c = 64))

theorem ahead_is (l : List UInt8) : ∃ a, Ahead l a := by
  induction l with
  | nil => exact ⟨[], by simp, by simp, Or.inl rfl⟩
  | cons x l ih =>
    by_cases hx : x = 47 ∨ x = 64
    · exact ⟨[], by simp, by simp, Or.inr ⟨x, l, rfl, hx⟩⟩
    · obtain ⟨a, h1, h2, h⟩ := ih
      refine ⟨x :: a, ?_, ?_, ?_⟩
      · intro g
        rcases List.mem_cons.1 g with g | g
        · exact hx (Or.inl g.symm)
        · exact h1 g
      · intro g
        rcases List.mem_cons.1 g with g | g
        · exact hx (Or.inr g.symm)
        · exact h2 g
      · rcases h with rfl | ⟨c, b, rfl, hc⟩
        · exact Or.inl rfl
        · exact Or.inr ⟨c, b, rfl, hc⟩

theorem by5 (s : ByteArray) (hs : s.size ≤ maxLen) (w : World) :
    Calls Try.prog 5 #[.string s] w fun e w' => e = .returned (.bool (decide (s.size ≤ 1048576))) ∧ w' = w := by
  unfold maxLen at hs
  by_cases h : s.size ≤ 1048576
  · have e : decide (s.size ≤ 1048576) = true := by simp; omega
    rw [e]
    go_enter Try.func5, Try.ntmps5
    go_wp2
    go_ret
    exact ⟨rfl, rfl⟩
  · have e : decide (s.size ≤ 1048576) = false := by simp; omega
    rw [e]
    go_enter Try.func5, Try.ntmps5
    go_wp2
    go_ret
    exact ⟨rfl, rfl⟩

set_option maxHeartbeats 1000000 in
/-- poolOf out of what its two cuts give -/
theorem pool_of (s d p : ByteArray) (y1 y2 : ByteArray) (b1 b2 : Bool)
    (h1 : Hid (∀ w, Calls Try.prog 9 #[.string s, .string ⟨#[64]⟩] w fun e w' => e = .returned (.tuple #[.string d, .string y1, .bool b1]) ∧ ∃ n, w' = w.drewN n))
    (h2 : Hid (∀ w, Calls Try.prog 9 #[.string d, .string ⟨#[47]⟩] w fun e w' => e = .returned (.tuple #[.string p, .string y2, .bool b2]) ∧ ∃ n, w' = w.drewN n)) (w : World) :
    Calls Try.prog 8 #[.string s] w fun e w' => e = .returned (.string p) ∧ ∃ n, w' = w.drewN n := by
  go_enter Try.func8, Try.ntmps8
  go_wp2_with fail
  refine (h1.out _).mono ?_
  rintro e w' ⟨rfl, n1, rfl⟩
  go_wp2_with fail
  refine (h2.out _).mono ?_
  rintro e w' ⟨rfl, n2, rfl⟩
  go_wp2_with fail
  go_ret
  exact ⟨rfl, _, rfl⟩

theorem pool8 (s : ByteArray) (a : List UInt8) (h : Ahead s.data.toList a) (hz : s.size ≤ 4000000) (w : World) :
    Calls Try.prog 8 #[.string s] w fun e w' => e = .returned (.string (B a)) ∧ ∃ n, w' = w.drewN n := by
  obtain ⟨h1, h2, h⟩ := h
  rcases h with h | ⟨c, b, h, hc⟩
  · have e : s = B a := by rw [B_of s, h]
    subst e
    exact pool_of _ _ _ _ _ _ _ (fun w => cut9_miss _ 64 h2 w) (fun w => cut9_miss _ 47 h1 w) w
  · have hsz : s.size = a.length + 1 + b.length := by rw [size_list, h]; simp; omega
    rcases hc with rfl | rfl
    · rcases first_part b 64 with hb | ⟨x, y, rfl, hx⟩
      · refine pool_of _ _ _ _ _ _ _ (fun w => cut9_miss _ 64 ?_ w) (fun w => cut9_hit _ 47 a b h h1 hz w) w
        rw [h]
        intro g
        rcases List.mem_append.1 g with g | g
        · exact h2 g
        · rcases List.mem_cons.1 g with g | g
          · exact absurd g (by decide)
          · exact hb g
      · refine pool_of _ _ _ _ _ _ _ (fun w => cut9_hit _ 64 (a ++ 47 :: x) y ?_ ?_ hz w) (fun w => cut9_hit _ 47 a x (B_list _) h1 ?_ w) w
        · show s.data.toList = _
          rw [h]; simp
        · intro g
          rcases List.mem_append.1 g with g | g
          · exact h2 g
          · rcases List.mem_cons.1 g with g | g
            · exact absurd g (by decide)
            · exact hx g
        · rw [B_size]
          simp at hsz ⊢
          omega
    · exact pool_of _ _ _ _ _ _ _ (fun w => cut9_hit _ 64 a b h h2 hz w) (fun w => cut9_miss (B a) 47 h1 w) w

theorem pool6 (s : ByteArray) (a : List UInt8) (h : Ahead s.data.toList a) (hz : s.size ≤ 4000000) (w : World) :
    Calls Try.prog 6 #[.string s] w fun e w' => e = .returned (.string (B a)) ∧ ∃ n, w' = w.drewN n := by
  have H : Hid _ := h
  clear h
  go_enter Try.func6, Try.ntmps6
  go_wp2_with (go_at_call 8; refine (pool8 s a H.out hz _).mono ?_; rintro e w' ⟨rfl, n, rfl⟩)
  go_ret
  exact ⟨rfl, n, rfl⟩

theorem nb (b c : UInt8) (ci : Int) (hci : ci = c.toNat) (h : b ≠ c) : ((b.toNat : Int) != ci) = true := by
  rw [bne_iff_ne, hci]
  intro e
  apply h
  apply UInt8.toNat_inj.1
  omega
theorem yb (b c : UInt8) (ci : Int) (hci : ci = c.toNat) (h : b = c) : ((b.toNat : Int) != ci) = false := by
  rw [bne_eq_false_iff_eq, hci, h]

theorem pre_list (s : ByteArray) (a : List UInt8) (h : Ahead s.data.toList a) : (s.extract 0 a.length).data.toList = a := by
  rw [extract_list, List.drop_zero]
  obtain ⟨_, _, h⟩ := h
  rcases h with h | ⟨c, b, h, _⟩
  · rw [h, List.take_length]
  · rw [h, List.take_left]

theorem ahead_le (s : ByteArray) (a : List UInt8) (h : Ahead s.data.toList a) : a.length ≤ s.size := by
  rw [size_list]
  obtain ⟨_, _, h⟩ := h
  rcases h with h | ⟨c, b, h, _⟩
  · rw [h]; exact Nat.le_refl _
  · rw [h]; simp
theorem ahead_at (s : ByteArray) (a : List UInt8) (h : Ahead s.data.toList a) (k : Nat) (hk : k < a.length) (hs : k < s.size) : s[k] ∈ a := by
  obtain ⟨_, _, h⟩ := h
  rcases h with h | ⟨c, b, h, _⟩
  · have := get_mem s k hs
    rw [h] at this
    exact this
  · exact get_mem_pre s a b c h k hs hk
theorem ahead_stop (s : ByteArray) (a : List UInt8) (h : Ahead s.data.toList a) (hs : a.length < s.size) : s[a.length] = 47 ∨ s[a.length] = 64 := by
  obtain ⟨_, _, h⟩ := h
  rcases h with h | ⟨c, b, h, hc⟩
  · rw [size_list, h] at hs; omega
  · rw [get_at s a b c h hs]; exact hc

set_option maxHeartbeats 1000000 in
theorem w3in (s : ByteArray) (a : List UInt8) (H : Hid (Ahead s.data.toList a)) (h : s.size ≤ 1048576) (hb : Hid (∀ w, Calls Try.prog 5 #[.string s] w fun e w' => e = .returned (.bool true) ∧ w' = w)) (w : World) :
    Calls Try.prog 3 #[.string s] w fun e w' => e = .returned (.bool true) ∧ Grown w w' := by
  have hp : Hid (∀ w, Calls Try.prog 6 #[.string s] w fun e w' => e = .returned (.string (B a)) ∧ ∃ n, w' = w.drewN n) := fun w => pool6 s a H.out (by omega) w
  have hle := ahead_le s a H.out
  have c1 : (a.length : Int) ≤ (s.size : Int) := by omega
  have hfin : ((B a).toList == (s.extract 0 a.length).toList) = true := by
    rw [beq_iff_eq, Lib.toList_data, Lib.toList_data, pre_list s a H.out, B_list]
  go_enter Try.func3, Try.ntmps3
  go_wp2_with (go_at_call 5; refine (hb.out _).mono ?_; rintro e w ⟨rfl, rfl⟩)
  go_loop [3] (fun i => ∃ k : Nat, k ≤ a.length ∧ i = .int .i64 k) (fun i => a.length - (intOf i).toNat)
  case atStart => exact ⟨0, by omega, by go_num⟩
  case round =>
    obtain ⟨k, hk, rfl⟩ := hrel
    by_cases hlt : k < a.length
    · have hks : k < s.size := by omega
      have hin := ahead_at s a H.out k hlt hks
      have q1 := nb s[k] 47 47 rfl (fun e => H.out.1 (e ▸ hin))
      have q2 := nb s[k] 64 64 rfl (fun e => H.out.2.1 (e ▸ hin))
      clear hin
      go_wp2
      go_round
      case rel => exact ⟨k + 1, by omega, by go_num⟩
      case measure => simp [intOf]; omega
    · obtain rfl : k = a.length := by omega
      by_cases hks : a.length < s.size
      · rcases ahead_stop s a H.out hks with h47 | h64
        · have q1 := yb (s[a.length]'hks) 47 47 rfl h47
          clear h47
          go_wp2
          go_quiet ((go_at_call 6; exact Calls.quiet_of (hp.out _)))
          go_wp2
          go_ret
          exact ⟨rfl, Grown.drewN (Grown.refl _) _⟩
        · have q0 := nb (s[a.length]'hks) 47 47 rfl (by rw [h64]; decide)
          have q1 := yb (s[a.length]'hks) 64 64 rfl h64
          clear h64
          go_wp2
          go_quiet ((go_at_call 6; exact Calls.quiet_of (hp.out _)))
          go_wp2
          go_ret
          exact ⟨rfl, Grown.drewN (Grown.refl _) _⟩
      · go_wp2
        go_quiet ((go_at_call 6; exact Calls.quiet_of (hp.out _)))
        go_wp2
        go_ret
        exact ⟨rfl, Grown.drewN (Grown.refl _) _⟩

theorem w3 (s : ByteArray) (hs : s.size ≤ maxLen) (w : World) :
    Calls Try.prog 3 #[.string s] w fun e w' => e = .returned (.bool true) ∧ Grown w w' := by
  have hb := by5 s hs
  by_cases h : s.size ≤ 1048576
  · have e : decide (s.size ≤ 1048576) = true := by simp; omega
    rw [e] at hb
    obtain ⟨a, ha⟩ := ahead_is s.data.toList
    exact w3in s a ha h hb w
  · have e : decide (s.size ≤ 1048576) = false := by simp; omega
    rw [e] at hb
    have Hb : Hid _ := hb
    clear hb e
    unfold maxLen at hs
    go_enter Try.func3, Try.ntmps3
    go_wp2_with (go_at_call 5; refine (Hb.out _).mono ?_; rintro e w ⟨rfl, rfl⟩)
    go_ret
    exact ⟨rfl, Grown.refl _⟩
end Go.Proofs.Qxb6602881a
