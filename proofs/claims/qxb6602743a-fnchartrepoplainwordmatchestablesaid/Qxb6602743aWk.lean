/-
  THE WALK of FnChartrepoPlainWordMatchesTable where the two lengths fit: four loops over one table of 256 bools.
-/
import Derived.Test.Qxb6602743aPw
namespace Go.Proofs.Qxb6602743a
open Go.RowKit

def tab (f : Nat → Bool) : Array Value := Array.ofFn (n := 256) (fun j => Value.bool (f j))
theorem tab_size (f : Nat → Bool) : (tab f).size = 256 := by simp [tab]
theorem tab_get (f : Nat → Bool) (j : Nat) (h : j < 256) : (tab f)[j]? = some (.bool (f j)) := by simp [tab, h]
theorem tab_set (f : Nat → Bool) (j : Nat) : (tab f).setIfInBounds j (.bool true) = tab (fun i => f i || i == j) := by
  apply Array.ext
  · simp [tab]
  · intro i h1 h2
    have h3 : i < (tab f).size := by simpa using h1
    rw [Array.getElem_setIfInBounds h3]
    by_cases h : j = i
    · subst h; simp [tab]
    · have h' : (i == j) = false := by simp; omega
      simp [h, h', tab]
theorem tab_zero : Array.replicate 256 (Value.bool false) = tab (fun _ => false) := by
  apply Array.ext
  · simp [tab]
  · intro i h1 h2
    simp [tab]
theorem zero43 (w : World) : (zeroValue 43).run Try.prog w = .ok (.agg (tab (fun _ => false))) w := by
  rw [← tab_zero]
  kernel_rfl

theorem tab_some (f : Nat → Bool) (C : Array Value) (h : Hid (C = tab f)) (j : Nat) (hj : j < 256) : C[j]? = some (.bool (f j)) := by
  rw [h.out]; exact tab_get f j hj
theorem tab_step (f g : Nat → Bool) (C : Array Value) (h : Hid (C = tab f)) (j : Nat) (hfg : ∀ i, (f i || i == j) = g i) : Hid (C.setIfInBounds j (.bool true) = tab g) := by
  have e : C.setIfInBounds j (.bool true) = tab g := by
    rw [h.out, tab_set]; congr 1; funext i; exact hfg i
  exact e
theorem t1_step (k j : Nat) : ((Plain.t1 k j || j == 97 + k) || j == 65 + k) = Plain.t1 (k + 1) j := by
  unfold Plain.t1
  rw [Bool.eq_iff_iff]
  simp
  omega
theorem t2_start (j : Nat) : Plain.t1 26 j = Plain.t2 0 j := by
  unfold Plain.t2
  rw [Bool.eq_iff_iff]
  simp
  intro h1 h2
  omega
theorem t2_step (k j : Nat) : (Plain.t2 k j || j == 48 + k) = Plain.t2 (k + 1) j := by
  unfold Plain.t2
  cases Plain.t1 26 j
  · rw [Bool.eq_iff_iff]
    simp
    omega
  · rfl
theorem t3_start (j : Nat) : Plain.t2 10 j = Plain.t3 [] j := by
  unfold Plain.t3
  simp
theorem t3_step (l : List UInt8) (c : UInt8) (j : Nat) : (Plain.t3 l j || j == c.toNat) = Plain.t3 (l ++ [c]) j := by
  unfold Plain.t3
  cases Plain.t2 10 j
  · rw [Bool.eq_iff_iff]
    simp
  · rfl
theorem plain_end (s : ByteArray) (o : List UInt8) : (decide (0 < s.size) && (s.data.toList.take s.size).all (Plain.okB o)) = Plain.plain s.data.toList o := by
  have e : s.data.toList.take s.size = s.data.toList := List.take_of_length_le (by simp)
  rw [e]
  unfold Plain.plain
  congr 1
  by_cases h : s.size = 0
  · rw [h]
    have : s.data.toList.isEmpty = true := by
      obtain ⟨⟨l⟩⟩ := s
      cases l with
      | nil => rfl
      | cons a l => simp [ByteArray.size] at h
    rw [this]; rfl
  · rw [ne_of_size s h]
    simp
    omega

set_option maxRecDepth 100000 in
set_option maxHeartbeats 1000000 in
theorem walkA (s o : ByteArray) (hs : s.size ≤ maxLen) (ho : o.size ≤ maxLen) (h3 : s.size + o.size ≤ 1048576) (w : World) :
    Calls Try.prog 7 #[.string s, .string o] w fun e w' => e = .returned (.bool true) ∧ Grown w w' := by
  have e : decide (s.size + o.size ≤ 1048576) = true := by simp; omega
  have hb := bytes26 s o hs ho w
  rw [e] at hb
  unfold maxLen at hs ho
  have hz := zero43
  go_enter Try.func7, Try.ntmps7
  go_wp2_with (go_at_call 26; refine hb.mono ?_; rintro e w ⟨rfl, rfl⟩)
  clear hz hb
  go_loopw [6] (fun i wr => ∃ (k : Nat) (C : Array Value), k ≤ 26 ∧ i = .int .i64 k ∧ Hid (C = tab (Plain.t1 k)) ∧ wr = w.alloc (.cells C 43)) (fun i _ => 26 - (intOf i).toNat)
  case atStart => exact ⟨0, _, by omega, rfl, (by rw [show (fun _ => false) = Plain.t1 0 from by funext j; simp [Plain.t1]]; exact rfl), rfl⟩
  case round =>
    obtain ⟨k, C, hk, rfl, hC, rfl⟩ := hrel
    by_cases hlt : k < 26
    · have hc1 := tab_some _ C hC (97 + k) (by omega)
      have hc2 := tab_some _ C hC (65 + k) (by omega)
      generalize Plain.t1 k (97 + k) = b1 at hc1
      generalize Plain.t1 k (65 + k) = b2 at hc2
      go_wp2
      go_roundw
      case rel => exact ⟨k + 1, _, by omega, by go_num, tab_step _ _ _ (tab_step _ _ _ hC _ (fun _ => rfl)) _ (t1_step k), rfl⟩
      case measure => simp [intOf]; omega
    · obtain rfl : k = 26 := by omega
      go_wp2
      go_loopw [7] (fun i wr => ∃ (k : Nat) (C : Array Value), k ≤ 10 ∧ i = .int .i64 k ∧ Hid (C = tab (Plain.t2 k)) ∧ wr = w.alloc (.cells C 43)) (fun i _ => 10 - (intOf i).toNat)
      case atStart => exact ⟨0, _, by omega, rfl, (by rw [← show Plain.t1 26 = Plain.t2 0 from funext t2_start]; exact hC), rfl⟩
      clear hC hlt hk C
      case round =>
        obtain ⟨k, C, hk, rfl, hC, rfl⟩ := hrel
        by_cases hlt : k < 10
        · have hc1 := tab_some _ C hC (48 + k) (by omega)
          generalize Plain.t2 k (48 + k) = b1 at hc1
          go_wp2
          go_roundw
          case rel => exact ⟨k + 1, _, by omega, by go_num, tab_step _ _ _ hC _ (t2_step k), rfl⟩
          case measure => simp [intOf]; omega
        · obtain rfl : k = 10 := by omega
          go_wp2
          go_loopw [8] (fun i wr => ∃ (k : Nat) (C : Array Value), k ≤ o.size ∧ i = .int .i64 k ∧ Hid (C = tab (Plain.t3 (o.data.toList.take k))) ∧ wr = w.alloc (.cells C 43)) (fun i _ => o.size - (intOf i).toNat)
          case atStart => exact ⟨0, _, by omega, rfl, (by rw [List.take_zero, ← show Plain.t2 10 = Plain.t3 [] from funext t3_start]; exact hC), rfl⟩
          clear hC hlt hk C
          case round =>
            obtain ⟨k, C, hk, rfl, hC, rfl⟩ := hrel
            by_cases hlt : k < o.size
            · have hc1 := tab_some _ C hC o[k].toNat (UInt8.toNat_lt _)
              have hst : Hid _ := t3_step (o.data.toList.take k) o[k]
              have htk : Hid _ := take_snoc o k hlt
              have hbb : o[k].toNat < 256 := UInt8.toNat_lt _
              generalize Plain.t3 (o.data.toList.take k) o[k].toNat = b1 at hc1
              go_wp2
              go_roundw
              case rel => exact ⟨k + 1, _, by omega, by go_num, (by rw [htk.out]; exact tab_step _ _ _ hC _ hst.out), rfl⟩
              case measure => simp [intOf]; omega
            · obtain rfl : k = o.size := by omega
              have hCo : Hid (C = tab (Plain.t3 o.data.toList)) := by
                have e := hC.out
                rw [List.take_of_length_le (by simp)] at e
                exact e
              clear hC
              go_wp2
              go_loop [9, 10] (fun v i => ∃ (k : Nat), k ≤ s.size ∧ i = .int .i64 k ∧ v = .bool (decide (0 < s.size) && (s.data.toList.take k).all (Plain.okB o.data.toList))) (fun _ i => s.size - (intOf i).toNat)
              case atStart => exact ⟨0, by omega, rfl, by simp⟩
              case round =>
                obtain ⟨k, hk, rfl, rfl⟩ := hrel
                by_cases hlt : k < s.size
                · have hc1 := tab_some _ C hCo s[k].toNat (UInt8.toNat_lt _)
                  rw [Plain.t3_ok] at hc1
                  have hsn : Hid _ := all_snoc o.data.toList s k hlt
                  have hbb : s[k].toNat < 256 := UInt8.toNat_lt _
                  cases hok : Plain.okB o.data.toList s[k] with
                  | true =>
                    rw [hok] at hc1
                    have Hok : Hid _ := hok
                    clear hok
                    go_wp2
                    go_round
                    case rel => exact ⟨k + 1, by omega, by go_num, by rw [hsn.out, Hok.out, Bool.and_true]⟩
                    case measure => simp [intOf]; omega
                  | false =>
                    rw [hok] at hc1
                    have Hok : Hid _ := hok
                    clear hok
                    go_wp2
                    go_round
                    case rel => exact ⟨k + 1, by omega, by go_num, by rw [hsn.out, Hok.out, Bool.and_false, Bool.and_false]⟩
                    case measure => simp [intOf]; omega
                · obtain rfl : k = s.size := by omega
                  have hfin := plain_end s o.data.toList
                  have Hfin : Hid _ := hfin
                  clear hfin
                  go_wp2_with (go_at_call 27; refine (zz27 s o (by omega) _).mono ?_; rintro e w ⟨rfl, rfl⟩)
                  go_ret
                  exact ⟨ret_bool (b := true) (by rw [Hfin.out]; simp), Grown.alloc (Grown.refl _) _ _⟩

end Go.Proofs.Qxb6602743a
