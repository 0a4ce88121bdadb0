/-
  THE SMALL CONTRACTS: zzBytes (5), isASCIILetter (11), opensMarkup (12), startsTag (14), bytes.IndexByte (13).
-/
import Derived.Test.Qxb6603074aProg
import Derived.WalkKit
import Derived.WalkSpells
import Derived.WalkLawsBesides
import Derived.Lib.BytesEntry
namespace Go.Proofs.Qxb6603074a
open Go.RowKit

def isL (x : Int) : Bool := (decide (65 ≤ x) && decide (x ≤ 90)) || (decide (97 ≤ x) && decide (x ≤ 122))
def isO (x : Int) : Bool := isL x || x == 47 || x == 33 || x == 63

theorem by5 (a : Option Addr) (n c : Nat) (hn : n ≤ maxLen) (w : World) :
    Calls Try.prog 5 #[.slice a n c] w fun e w' => e = .returned (.bool (decide (n ≤ 1048576))) ∧ w' = w := by
  unfold maxLen at hn
  by_cases h : n ≤ 1048576
  · have e : decide (n ≤ 1048576) = true := by simp; omega
    rw [e]
    go_enter Try.func5, Try.ntmps5
    go_wp2
    go_ret
    exact ⟨rfl, rfl⟩
  · have e : decide (n ≤ 1048576) = false := by simp; omega
    rw [e]
    go_enter Try.func5, Try.ntmps5
    go_wp2
    go_ret
    exact ⟨rfl, rfl⟩

theorem ret_bool {a b : Bool} (h : a = b) : Ending.returned (.bool a) = .returned (.bool b) := by rw [h]
theorem ret_int {k : IntKind} {a b : Int} (h : a = b) : Ending.returned (.int k a) = .returned (.int k b) := by rw [h]

theorem or_all : ∀ k : Fin 256, (decide (97 ≤ bits BinOp.or IntKind.u8 ((k.val : Nat) : Int) 32) && decide (bits BinOp.or IntKind.u8 ((k.val : Nat) : Int) 32 ≤ 122)) = isL ((k.val : Nat) : Int) := by decide +kernel
theorem or_cases (x : Int) (h0 : 0 ≤ x) (h1 : x ≤ 255) :
    (isL x = true ∧ 97 ≤ bits BinOp.or IntKind.u8 x 32 ∧ bits BinOp.or IntKind.u8 x 32 ≤ 122) ∨ (isL x = false ∧ bits BinOp.or IntKind.u8 x 32 < 97) ∨ (isL x = false ∧ 122 < bits BinOp.or IntKind.u8 x 32) := by
  obtain ⟨m, rfl⟩ := Int.eq_ofNat_of_zero_le h0
  have h := or_all ⟨m, by omega⟩
  simp only at h
  rw [← h]
  simp only [Bool.and_eq_true, decide_eq_true_eq, Bool.and_eq_false_iff, decide_eq_false_iff_not]
  omega

theorem let11 (x : Int) (w : World) :
    Calls Try.prog 11 #[.int .u8 x] w fun e w' => e = .returned (.bool (isL x)) ∧ w' = w := by
  have H : Hid (isL x = true ↔ (65 ≤ x ∧ x ≤ 90) ∨ (97 ≤ x ∧ x ≤ 122)) := by
    have e : isL x = true ↔ (65 ≤ x ∧ x ≤ 90) ∨ (97 ≤ x ∧ x ≤ 122) := by unfold isL; simp
    exact e
  by_cases c1 : x < 65
  · have hf : Hid (isL x = false) := by
      have e : isL x = false := by rw [Bool.eq_false_iff]; intro h; have := H.out.1 h; omega
      exact e
    go_enter Try.func11, Try.ntmps11
    go_wp2
    go_ret
    exact ⟨ret_bool hf.out.symm, rfl⟩
  · by_cases c2 : x ≤ 90
    · have hf : Hid (isL x = true) := H.out.2 (by omega)
      go_enter Try.func11, Try.ntmps11
      go_wp2
      go_ret
      exact ⟨ret_bool hf.out.symm, rfl⟩
    · have d2 : decide (x ≤ 90) = false := by simp; omega
      by_cases c3 : x < 97
      · have hf : Hid (isL x = false) := by
          have e : isL x = false := by rw [Bool.eq_false_iff]; intro h; have := H.out.1 h; omega
          exact e
        go_enter Try.func11, Try.ntmps11
        go_wp2
        go_ret
        exact ⟨ret_bool hf.out.symm, rfl⟩
      · by_cases c4 : x ≤ 122
        · have hf : Hid (isL x = true) := H.out.2 (by omega)
          go_enter Try.func11, Try.ntmps11
          go_wp2
          go_ret
          exact ⟨ret_bool (b := isL x) (by rw [hf.out]), rfl⟩
        · have hf : Hid (isL x = false) := by
            have e : isL x = false := by rw [Bool.eq_false_iff]; intro h; have := H.out.1 h; omega
            exact e
          go_enter Try.func11, Try.ntmps11
          go_wp2
          go_ret
          exact ⟨ret_bool (b := isL x) (by rw [hf.out]), rfl⟩

theorem op12 (x : Int) (w : World) :
    Calls Try.prog 12 #[.int .u8 x] w fun e w' => e = .returned (.bool (isO x)) ∧ w' = w := by
  cases hL : isL x with
  | true =>
    have hl := let11 x
    rw [hL] at hl
    have Hl : Hid _ := hl
    have HL : Hid _ := hL
    clear hl hL
    go_enter Try.func12, Try.ntmps12
    go_wp2_with (go_at_call 11; refine (Hl.out _).mono ?_; rintro e w ⟨rfl, rfl⟩)
    go_ret
    exact ⟨ret_bool (b := isO x) (by unfold isO; rw [HL.out]; rfl), rfl⟩
  | false =>
    have hl := let11 x
    rw [hL] at hl
    have Hl : Hid _ := hl
    have HL : Hid _ := hL
    clear hl hL
    by_cases c1 : x = 47
    · subst c1
      go_enter Try.func12, Try.ntmps12
      go_wp2_with (go_at_call 11; refine (Hl.out _).mono ?_; rintro e w ⟨rfl, rfl⟩)
      go_ret
      exact ⟨ret_bool (b := isO 47) (by decide), rfl⟩
    · have d1 : (x == 47) = false := by simp; exact c1
      by_cases c2 : x = 33
      · subst c2
        go_enter Try.func12, Try.ntmps12
        go_wp2_with (go_at_call 11; refine (Hl.out _).mono ?_; rintro e w ⟨rfl, rfl⟩)
        go_ret
        exact ⟨ret_bool (b := isO 33) (by decide), rfl⟩
      · have d2 : (x == 33) = false := by simp; exact c2
        go_enter Try.func12, Try.ntmps12
        go_wp2_with (go_at_call 11; refine (Hl.out _).mono ?_; rintro e w ⟨rfl, rfl⟩)
        go_ret
        exact ⟨ret_bool (b := isO x) (by unfold isO; rw [HL.out]; simp [c1, c2]), rfl⟩

theorem st14 (x : Int) (h0 : 0 ≤ x) (h1 : x ≤ 255) (w : World) :
    Calls Try.prog 14 #[.int .u8 x] w fun e w' => e = .returned (.bool (isO x)) ∧ w' = w := by
  rcases or_cases x h0 h1 with ⟨hL, c1, c2⟩ | ⟨hL, c1⟩ | ⟨hL, c1⟩
  · have HL : Hid _ := hL
    clear hL
    go_enter Try.func14, Try.ntmps14
    go_wp2
    go_ret
    exact ⟨ret_bool (b := isO x) (by unfold isO; rw [HL.out]; rfl), rfl⟩
  · have HL : Hid _ := hL
    clear hL
    by_cases e1 : x = 47
    · subst e1
      go_enter Try.func14, Try.ntmps14
      go_wp2
      go_ret
      exact ⟨ret_bool (b := isO 47) (by decide), rfl⟩
    · have d1 : (x == 47) = false := by simp; exact e1
      by_cases e2 : x = 33
      · subst e2
        go_enter Try.func14, Try.ntmps14
        go_wp2
        go_ret
        exact ⟨ret_bool (b := isO 33) (by decide), rfl⟩
      · have d2 : (x == 33) = false := by simp; exact e2
        have HO : Hid (isO x = (x == 63)) := by
          have e : isO x = (x == 63) := by unfold isO; rw [HL.out, d1, d2]; rfl
          exact e
        clear e1 e2
        go_enter Try.func14, Try.ntmps14
        go_wp2
        go_ret
        exact ⟨ret_bool (b := isO x) (by rw [HO.out]), rfl⟩
  · have HL : Hid _ := hL
    clear hL
    have d1 : (x == 47) = false := by simp; rintro rfl; revert c1; decide
    have d2 : (x == 33) = false := by simp; rintro rfl; revert c1; decide
    have d3 : (x == 63) = false := by simp; rintro rfl; revert c1; decide
    have d0 : decide (bits BinOp.or IntKind.u8 x 32 ≤ 122) = false := by simp; omega
    have c0 : 97 ≤ bits BinOp.or IntKind.u8 x 32 := by omega
    have HO : Hid (isO x = false) := by
      have e : isO x = false := by unfold isO; rw [HL.out, d1, d2, d3]; rfl
      exact e
    go_enter Try.func14, Try.ntmps14
    go_wp2
    go_ret
    exact ⟨ret_bool (b := isO x) (by rw [HO.out]), rfl⟩

theorem ib13 (blk o n c : Nat) (xs : List Int) (cv : Int) (w : World) (hx : xs.length = n)
    (hc : ∀ i, i < n → w.cell? ⟨blk, o + i, none⟩ = some (.int .u8 (xs.getD i 0))) :
    Calls Try.prog 13 #[.slice (some ⟨blk, o, none⟩) n c, .int .u8 cv] w fun e w' => e = .returned (.int .i64 (Lib.indexByte (Lib.bytesOf xs) cv.toNat.toUInt8)) ∧ w' = w := by
  go_enter Try.func13, Try.ntmps13
  go_wp2
  rw [run_callFunc_extern Try.func15 (by kernel_rfl) (by kernel_rfl) (by kernel_rfl) (e := Extern.BytealgIndexByte.indexByte) (by kernel_rfl), Lib.run_indexByteSlice w blk o n c xs hx hc cv]
  simp only [Result.andThen]
  rw [Oper.upon_value]
  go_wp2
  go_ret
  exact ⟨rfl, rfl⟩
end Go.Proofs.Qxb6603074a
