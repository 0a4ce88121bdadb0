/-
  STRINGS AS LISTS OF BYTES, and the contracts of the library functions on these roads, at separators of one byte: stringslite.IndexByte (12), Index (11), stringslite.Cut (10), strings.Cut (9).
-/
import Derived.Test.Qxb6602881aProg
import Derived.WalkKit
import Derived.WalkSpells
import Derived.WalkLawsBesides
import Derived.RegionTactic
import Derived.Lib.Bytealg
namespace Go.Proofs.Qxb6602881a
open Go.RowKit

/-- the string of these bytes -/
def B (l : List UInt8) : ByteArray := ⟨l.toArray⟩
theorem B_list (l : List UInt8) : (B l).data.toList = l := rfl
theorem B_of (s : ByteArray) : s = B s.data.toList := rfl
theorem B_size (l : List UInt8) : (B l).size = l.length := by show l.toArray.size = _; simp
theorem size_list (s : ByteArray) : s.size = s.data.toList.length := by show s.data.size = _; simp
theorem ext_list {s t : ByteArray} (h : s.data.toList = t.data.toList) : s = t := by
  obtain ⟨⟨l⟩⟩ := s; obtain ⟨⟨m⟩⟩ := t
  have : l = m := h
  rw [this]
theorem extract_list (s : ByteArray) (i j : Nat) : (s.extract i j).data.toList = (s.data.toList.take j).drop i := by
  rw [Lib.extract_data, List.drop_take]
theorem get_list (s : ByteArray) (k : Nat) (h : k < s.size) : s[k] = s.data.toList[k]'(by rw [← size_list]; exact h) := rfl

theorem suf_list (s : ByteArray) (i : Nat) : (s.extract i s.size).data.toList = s.data.toList.drop i := by
  rw [extract_list, size_list, List.take_length]
theorem drop_hit (a b : List UInt8) (c : UInt8) : (a ++ c :: b).drop (a.length + 1) = b := by
  rw [← List.drop_drop, List.drop_left]; rfl

theorem index_hit (a b : List UInt8) (c : UInt8) (ha : c ∉ a) : Lib.indexByte (a ++ c :: b) c = a.length := by
  induction a with
  | nil => simp [Lib.indexByte]
  | cons x a ih =>
    have hx : (x == c) = false := by
      rw [beq_eq_false_iff_ne]; intro e; apply ha; rw [e]; exact List.mem_cons_self
    have := ih (fun h => ha (List.mem_cons_of_mem _ h))
    have hne : (Lib.indexByte (a ++ c :: b) c == -1) = false := by rw [beq_eq_false_iff_ne]; omega
    rw [List.cons_append]
    unfold Lib.indexByte
    rw [hx, hne, this]
    simp
theorem index_miss (l : List UInt8) (c : UInt8) (h : c ∉ l) : Lib.indexByte l c = -1 := by
  induction l with
  | nil => rfl
  | cons x l ih =>
    have hx : (x == c) = false := by
      rw [beq_eq_false_iff_ne]; intro e; apply h; rw [e]; exact List.mem_cons_self
    have := ih (fun g => h (List.mem_cons_of_mem _ g))
    unfold Lib.indexByte
    rw [hx, this]
    simp
/-- every list parts at the first c, or has none -/
theorem first_part (l : List UInt8) (c : UInt8) : c ∉ l ∨ ∃ a b, l = a ++ c :: b ∧ c ∉ a := by
  induction l with
  | nil => exact Or.inl (by simp)
  | cons x l ih =>
    by_cases hx : x = c
    · subst hx; exact Or.inr ⟨[], l, rfl, by simp⟩
    · rcases ih with h | ⟨a, b, rfl, ha⟩
      · refine Or.inl ?_
        intro g
        rcases List.mem_cons.1 g with g | g
        · exact hx g.symm
        · exact h g
      · refine Or.inr ⟨x :: a, b, rfl, ?_⟩
        intro g
        rcases List.mem_cons.1 g with g | g
        · exact hx g.symm
        · exact ha g
/-- .. and at the last -/
theorem last_part (l : List UInt8) (c : UInt8) : c ∉ l ∨ ∃ a b, l = a ++ c :: b ∧ c ∉ b := by
  rcases first_part l.reverse c with h | ⟨a, b, h, ha⟩
  · exact Or.inl (by simpa using h)
  · refine Or.inr ⟨b.reverse, a.reverse, ?_, by simpa using ha⟩
    have : l = (a ++ c :: b).reverse := by rw [← h]; simp
    rw [this]; simp

theorem ret_int {k : IntKind} {a b : Int} (h : a = b) : Ending.returned (.int k a) = .returned (.int k b) := by rw [h]
theorem ret_bool {a b : Bool} (h : a = b) : Ending.returned (.bool a) = .returned (.bool b) := by rw [h]
theorem ret_str {a b : ByteArray} (h : a = b) : Ending.returned (.string a) = .returned (.string b) := by rw [h]
theorem ret_sb {a a' : ByteArray} {c c' : Bool} (h : a = a') (j : c = c') : Ending.returned (.tuple #[.string a, .bool c]) = .returned (.tuple #[.string a', .bool c']) := by rw [h, j]
theorem ret_ssb {a a' b b' : ByteArray} {c c' : Bool} (h : a = a') (k : b = b') (j : c = c') : Ending.returned (.tuple #[.string a, .string b, .bool c]) = .returned (.tuple #[.string a', .string b', .bool c']) := by rw [h, k, j]

/-! ### stringslite.IndexByte -/
theorem ib12 (s : ByteArray) (c : UInt8) (ci : Int) (hci : Hid (ci = c.toNat)) (w : World) :
    Calls Try.prog 12 #[.string s, .int .u8 ci] w fun e w' => e = .returned (.int .i64 (Lib.indexByte s.data.toList c)) ∧ w' = w := by
  go_enter Try.func12, Try.ntmps12
  go_wp2
  rw [run_callFunc_extern Try.func16 (by kernel_rfl) (by kernel_rfl) (by kernel_rfl) (e := Extern.BytealgIndexByte.indexByte) (by kernel_rfl), Lib.run_indexByteString]
  simp only [Result.andThen]
  rw [Oper.upon_value]
  go_wp2
  go_ret
  exact ⟨ret_int (by rw [hci.out]; simp), rfl⟩

/-! ### stringslite.Index at one byte -/
theorem ix11 (s : ByteArray) (c : UInt8) (w : World) :
    Calls Try.prog 11 #[.string s, .string ⟨#[c]⟩] w fun e w' => e = .returned (.int .i64 (Lib.indexByte s.data.toList c)) ∧ w' = w := by
  go_enter Try.func11, Try.ntmps11
  go_wp2_with (go_at_call 12; refine (ib12 _ c _ rfl _).mono ?_; rintro e w ⟨rfl, rfl⟩)
  · have h : ([c] == s.toList) = true := by assumption
    go_ret
    refine ⟨ret_int ?_, rfl⟩
    have e : s.data.toList = [c] := by rw [← Lib.toList_data]; exact (beq_iff_eq.1 h).symm
    rw [e]
    simp [Lib.indexByte]
  · go_ret
    exact ⟨rfl, rfl⟩

/-! ### Cut at one byte -/
theorem cut10_miss (s : ByteArray) (c : UInt8) (h : c ∉ s.data.toList) (w : World) :
    Calls Try.prog 10 #[.string s, .string ⟨#[c]⟩] w fun e w' => e = .returned (.tuple #[.string s, .string (B []), .bool false]) ∧ ∃ n, w' = w.drewN n := by
  have hix := index_miss _ _ h
  have Hix : Hid _ := hix
  clear hix
  go_enter Try.func10, Try.ntmps10
  go_wp2_with (go_at_call 11; refine (ix11 _ c _).mono ?_; rintro e w ⟨rfl, rfl⟩; rw [Hix.out])
  go_ret3
  exact ⟨rfl, 0, rfl⟩
theorem cut10_hit (s : ByteArray) (c : UInt8) (a b : List UInt8) (hs : Hid (s.data.toList = a ++ c :: b)) (ha : c ∉ a) (hz : s.size ≤ 4000000) (w : World) :
    Calls Try.prog 10 #[.string s, .string ⟨#[c]⟩] w fun e w' => e = .returned (.tuple #[.string (B a), .string (B b), .bool true]) ∧ ∃ n, w' = w.drewN n := by
  have hix := index_hit a b c ha
  rw [← hs.out] at hix
  have Hix : Hid _ := hix
  have hl : a.length + 1 ≤ s.size := by rw [size_list, hs.out]; simp
  have c1 : (0 : Int) ≤ (a.length : Int) := by omega
  have c2 : (a.length : Int) ≤ (s.size : Int) := by omega
  have c3 : (0 : Int) ≤ (a.length : Int) + 1 := by omega
  have c4 : (a.length : Int) + 1 ≤ (s.size : Int) := by omega
  clear hix
  go_enter Try.func10, Try.ntmps10
  go_wp2_with (go_at_call 11; refine (ix11 _ c _).mono ?_; rintro e w ⟨rfl, rfl⟩; rw [Hix.out])
  go_region
  go_wp2
  go_ret3
  exact ⟨ret_ssb (ext_list (by rw [extract_list, hs.out]; simp [B_list])) (ext_list (by rw [suf_list, hs.out, drop_hit, B_list])) rfl, 1, rfl⟩
theorem cut9_miss (s : ByteArray) (c : UInt8) (h : c ∉ s.data.toList) (w : World) :
    Calls Try.prog 9 #[.string s, .string ⟨#[c]⟩] w fun e w' => e = .returned (.tuple #[.string s, .string (B []), .bool false]) ∧ ∃ n, w' = w.drewN n := by
  go_enter Try.func9, Try.ntmps9
  go_wp2_with (go_at_call 10; refine (cut10_miss _ c h _).mono ?_; rintro e w' ⟨rfl, n, rfl⟩)
  go_ret3
  exact ⟨rfl, n, rfl⟩
theorem cut9_hit (s : ByteArray) (c : UInt8) (a b : List UInt8) (hs : Hid (s.data.toList = a ++ c :: b)) (ha : c ∉ a) (hz : s.size ≤ 4000000) (w : World) :
    Calls Try.prog 9 #[.string s, .string ⟨#[c]⟩] w fun e w' => e = .returned (.tuple #[.string (B a), .string (B b), .bool true]) ∧ ∃ n, w' = w.drewN n := by
  go_enter Try.func9, Try.ntmps9
  go_wp2_with (go_at_call 10; refine (cut10_hit _ c a b hs ha hz _).mono ?_; rintro e w' ⟨rfl, n, rfl⟩)
  go_ret3
  exact ⟨rfl, n, rfl⟩

/-! ### bytes at places -/
theorem ne_byte (s : ByteArray) (c : UInt8) (ci : Int) (hci : ci = c.toNat) (k : Nat) (h : k < s.size) (hn : s[k] ≠ c) : ((s[k].toNat : Int) == ci) = false := by
  rw [beq_eq_false_iff_ne, hci]
  intro e
  apply hn
  apply UInt8.toNat_inj.1
  omega
theorem eq_byte (s : ByteArray) (c : UInt8) (ci : Int) (hci : ci = c.toNat) (k : Nat) (h : k < s.size) (hn : s[k] = c) : ((s[k].toNat : Int) == ci) = true := by
  rw [beq_iff_eq, hci, hn]
theorem get_at (s : ByteArray) (a b : List UInt8) (c : UInt8) (hs : s.data.toList = a ++ c :: b) (h : a.length < s.size) : s[a.length] = c := by
  rw [get_list]
  have : ∀ (l : List UInt8) (h : a.length < l.length), l = a ++ c :: b → l[a.length] = c := by
    intro l h e; subst e; simp
  exact this _ _ hs
theorem get_mem_suf (s : ByteArray) (a b : List UInt8) (c : UInt8) (hs : s.data.toList = a ++ c :: b) (k : Nat) (h : k < s.size) (hk : a.length < k) : s[k] ∈ b := by
  rw [get_list]
  have : ∀ (l : List UInt8) (h : k < l.length), l = a ++ c :: b → l[k] ∈ b := by
    intro l h e; subst e
    rw [List.getElem_append_right (by omega)]
    obtain ⟨m, hm⟩ : ∃ m, k - a.length = m + 1 := ⟨k - a.length - 1, by omega⟩
    simp only [hm, List.getElem_cons_succ]
    exact List.getElem_mem _
  exact this _ _ hs
theorem get_mem_pre (s : ByteArray) (a b : List UInt8) (c : UInt8) (hs : s.data.toList = a ++ c :: b) (k : Nat) (h : k < s.size) (hk : k < a.length) : s[k] ∈ a := by
  rw [get_list]
  have : ∀ (l : List UInt8) (h : k < l.length), l = a ++ c :: b → l[k] ∈ a := by
    intro l h e; subst e
    rw [List.getElem_append_left (by omega)]
    exact List.getElem_mem _
  exact this _ _ hs
theorem get_mem (s : ByteArray) (k : Nat) (h : k < s.size) : s[k] ∈ s.data.toList := by
  rw [get_list]; exact List.getElem_mem _


end Go.Proofs.Qxb6602881a
