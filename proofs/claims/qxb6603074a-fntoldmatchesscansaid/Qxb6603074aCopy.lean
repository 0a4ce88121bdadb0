/-
  THE CONTRACT of zzCopyBytes (6).
-/
import Derived.Test.Qxb6603074aBytes
import Derived.Deep.OwnRows
namespace Go.Proofs.Qxb6603074a
open Go.RowKit

theorem info5 : (Try.prog.info? 5).map (fun i => (i.zero, i.size, i.bytes)) = some (some (.int .u8 0), 1, 1) := by kernel_rfl

/-- a row of n bytes -/
def row (n : Nat) (f : Nat → Int) : Array Value := Array.ofFn (n := n) (fun j => Value.int .u8 (f j))
theorem row_get (n : Nat) (f : Nat → Int) (j : Nat) (h : j < n) : (row n f)[j]? = some (.int .u8 (f j)) := by simp [row, h]
theorem row_set (n : Nat) (f : Nat → Int) (j : Nat) (x : Int) : (row n f).setIfInBounds j (.int .u8 x) = row n (fun i => if i = j then x else f i) := by
  apply Array.ext
  · simp [row]
  · intro i h1 h2
    have h3 : i < (row n f).size := by simpa using h1
    rw [Array.getElem_setIfInBounds h3]
    by_cases h : j = i
    · subst h; simp [row]
    · have h' : ¬ i = j := fun e => h e.symm
      simp [h, h', row]
theorem row_made (n : Nat) : madeCells #[Value.int .u8 0] n = row n (fun _ => 0) := by
  apply Array.ext
  · simp [row, madeCells]
  · intro i h1 h2
    simp [row, madeCells, Nat.mod_one]

theorem row_some (n : Nat) (f : Nat → Int) (C : Array Value) (h : Hid (C = row n f)) (j : Nat) (hj : j < n) : C[j]? = some (.int .u8 (f j)) := by
  rw [h.out]; exact row_get n f j hj
theorem row_step (n : Nat) (f g : Nat → Int) (C : Array Value) (h : Hid (C = row n f)) (j : Nat) (x : Int) (hfg : ∀ i, (if i = j then x else f i) = g i) : Hid (C.setIfInBounds j (.int .u8 x) = row n g) := by
  have e : C.setIfInBounds j (.int .u8 x) = row n g := by
    rw [h.out, row_set]; congr 1; funext i; exact hfg i
  exact e

theorem step_eq (f : Nat → Int) (k i : Nat) : (if i = k then f k else if i < k then f i else 0) = if i < k + 1 then f i else 0 := by
  by_cases h : i = k
  · subst h; simp
  · by_cases h2 : i < k
    · rw [if_neg h, if_pos h2, if_pos (by omega)]
    · rw [if_neg h, if_neg h2, if_neg (by omega)]

theorem copy_nil (w : World) :
    Calls Try.prog 6 #[.slice none 0 0] w fun e w' => e = .returned (.slice none 0 0) ∧ w' = w := by
  have hq := fun w => Lib.run_eql_slice_nil (P := Try.prog) w 22 5 none 0 0 0 0 Try.underlying22
  go_enter Try.func6, Try.ntmps6
  go_wp2
  go_ret
  exact ⟨rfl, rfl⟩

set_option maxHeartbeats 1000000 in
set_option maxRecDepth 100000 in
theorem copy6 (x : Addr) (n c : Nat) (f : Nat → Int) (hn : n ≤ 1048576) (w : World)
    (hx : Hid (0 < n → ∃ b off, x = ⟨b, off, none⟩ ∧ b < w.heap.size ∧ ∀ i, i < n → w.cell? ⟨b, off + i, none⟩ = some (.int .u8 (f i)))) :
    Calls Try.prog 6 #[.slice (some x) n c] w fun e w' => e = .returned (.slice (some ⟨w.heap.size, 0, none⟩) n n) ∧ (∀ i, i < n → w'.cell? ⟨w.heap.size, i, none⟩ = some (.int .u8 (f i))) ∧ Below w.heap.size w w' := by
  have hq := fun w => Lib.run_eql_slice_nil (P := Try.prog) w 22 5 (some x) n c 0 0 Try.underlying22
  have hmk := run_make_row' (P := Try.prog) 22 5 (.int .u8 0) 1 Try.underlying22 info5 rfl .i64 .i64 n (by omega) (by omega)
  go_enter Try.func6, Try.ntmps6
  go_wp2
  clear hq hmk
  go_loopw [4] (fun i wr => ∃ (k : Nat) (C : Array Value), k ≤ n ∧ i = .int .i64 k ∧ Hid (C = row n (fun i => if i < k then f i else 0)) ∧ wr = w.alloc (.cells C 5)) (fun i _ => n - (intOf i).toNat)
  case atStart => exact ⟨0, _, by omega, rfl, (by rw [row_made]; exact rfl), rfl⟩
  case round =>
    obtain ⟨k, C, hk, rfl, hC, rfl⟩ := hrel
    by_cases hlt : k < n
    · obtain ⟨b, off, rfl, hbl, hcell⟩ := hx.out (by omega)
      have hck := hcell k hlt
      have hc1 := row_some _ _ C hC k hlt
      clear hcell hx
      go_wp2
      go_roundw
      case rel => exact ⟨k + 1, _, by omega, by go_num, row_step _ _ _ C hC k (f k) (step_eq f k), rfl⟩
      case measure => simp [intOf]; omega
    · obtain rfl : k = n := by omega
      go_wp2
      go_ret
      refine ⟨rfl, ?_, (Below.refl _ _).alloc (Nat.le_refl _) _⟩
      intro i hi
      have e := row_some _ _ C hC i hi
      rw [if_pos hi] at e
      rw [World.cell?_alloc_at _ _ _ _ rfl]
      exact e
end Go.Proofs.Qxb6603074a
