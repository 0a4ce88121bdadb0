/-
  THE CONTRACTS OF THE CALLEES of FnChartrepoPlainWordMatchesTable: zzBytes (26), internal/stringslite.IndexByte (39), strings.IndexByte (38), plainWord (35), ZZplainWord (27).
-/
import Derived.Test.Qxb6602743aProg
import Derived.Test.Qxb6602743aPlain
import Derived.WalkKit
import Derived.WalkSpells
import Derived.WalkLawsBesides
import Derived.Lib.Bytealg
namespace Go.Proofs.Qxb6602743a
open Go.RowKit

theorem ret_bool {a b : Bool} (h : a = b) : Ending.returned (.bool a) = .returned (.bool b) := by rw [h]

theorem bytes26 (s o : ByteArray) (hs : s.size ≤ maxLen) (ho : o.size ≤ maxLen) (w : World) :
    Calls Try.prog 26 #[.string s, .string o] w fun e w' => e = .returned (.bool (decide (s.size + o.size ≤ 1048576))) ∧ w' = w := by
  unfold maxLen at hs ho
  by_cases h1 : s.size ≤ 1048576
  · by_cases h2 : o.size ≤ 1048576
    · by_cases h3 : s.size + o.size ≤ 1048576
      · have e : decide (s.size + o.size ≤ 1048576) = true := by simp; omega
        rw [e]
        go_enter Try.func26, Try.ntmps26
        go_wp2
        go_ret
        exact ⟨rfl, rfl⟩
      · have e : decide (s.size + o.size ≤ 1048576) = false := by simp; omega
        rw [e]
        go_enter Try.func26, Try.ntmps26
        go_wp2
        go_ret
        exact ⟨rfl, rfl⟩
    · have e : decide (s.size + o.size ≤ 1048576) = false := by simp; omega
      rw [e]
      go_enter Try.func26, Try.ntmps26
      go_wp2
      go_ret
      exact ⟨rfl, rfl⟩
  · have e : decide (s.size + o.size ≤ 1048576) = false := by simp; omega
    rw [e]
    go_enter Try.func26, Try.ntmps26
    go_wp2
    go_ret
    exact ⟨rfl, rfl⟩

theorem ix39 (o : ByteArray) (b : UInt8) (w : World) :
    Calls Try.prog 39 #[.string o, .int .u8 (b.toNat : Int)] w fun e w' => e = .returned (.int .i64 (Lib.indexByte o.data.toList b)) ∧ w' = w := by
  go_enter Try.func39, Try.ntmps39
  go_wp2
  rw [run_callFunc_extern Try.func40 (by kernel_rfl) (by kernel_rfl) (by kernel_rfl) (e := Extern.BytealgIndexByte.indexByte) (by kernel_rfl), Lib.run_indexByteString]
  simp only [Result.andThen]
  rw [Oper.upon_value]
  go_wp2
  go_ret
  exact ⟨by simp, rfl⟩

theorem ix38 (o : ByteArray) (b : UInt8) (w : World) :
    Calls Try.prog 38 #[.string o, .int .u8 (b.toNat : Int)] w fun e w' => e = .returned (.int .i64 (Lib.indexByte o.data.toList b)) ∧ w' = w := by
  go_enter Try.func38, Try.ntmps38
  go_wp2_with (go_at_call 39; refine (ix39 o b _).mono ?_; rintro e w ⟨rfl, rfl⟩)
  go_ret
  exact ⟨rfl, rfl⟩

theorem index_in (l : List UInt8) (c : UInt8) (h : l.contains c = true) : 0 ≤ Lib.indexByte l c := by
  induction l with
  | nil => simp at h
  | cons b l ih =>
    unfold Lib.indexByte
    by_cases hb : (b == c) = true
    · simp [hb]
    · have hc : l.contains c = true := by
        rw [List.contains_cons] at h
        have : (c == b) = false := by rw [Bool.eq_false_iff]; intro h2; apply hb; rw [beq_iff_eq] at h2 ⊢; exact h2.symm
        rw [this] at h
        simpa using h
      have := ih hc
      have hne : (Lib.indexByte l c == -1) = false := by rw [beq_eq_false_iff_ne]; omega
      have hb' : (b == c) = false := by simpa using hb
      rw [hb', hne]
      simp
      omega

theorem index_out (l : List UInt8) (c : UInt8) (h : l.contains c = false) : Lib.indexByte l c < 0 := by
  induction l with
  | nil => simp [Lib.indexByte]
  | cons b l ih =>
    unfold Lib.indexByte
    rw [List.contains_cons, Bool.or_eq_false_iff] at h
    have hb : (b == c) = false := by
      have h1 := h.1
      rw [beq_eq_false_iff_ne] at h1 ⊢
      exact fun e => h1 e.symm
    have := ih h.2
    have := Lib.indexByte_ge l c
    have hne : (Lib.indexByte l c == -1) = true := by rw [beq_iff_eq]; omega
    rw [hb, hne]
    simp

theorem take_snoc (s : ByteArray) (k : Nat) (h : k < s.size) : s.data.toList.take (k + 1) = s.data.toList.take k ++ [s[k]] := by
  rw [List.take_succ_eq_append_getElem (by simpa using h)]; rfl

theorem all_snoc (o : List UInt8) (s : ByteArray) (k : Nat) (h : k < s.size) :
    (s.data.toList.take (k + 1)).all (Plain.okB o) = ((s.data.toList.take k).all (Plain.okB o) && Plain.okB o s[k]) := by
  rw [take_snoc s k h]; simp

theorem all_not (o : List UInt8) (s : ByteArray) (k : Nat) (h : k < s.size) (hn : Plain.okB o s[k] = false) : Plain.plain s.data.toList o = false := by
  unfold Plain.plain
  have hm : s[k] ∈ s.data.toList := by
    have : s[k] = s.data.toList[k]'(by simpa using h) := rfl
    rw [this]; exact List.getElem_mem _
  have : s.data.toList.all (Plain.okB o) = false := by
    rw [List.all_eq_false]
    exact ⟨_, hm, by simp [hn]⟩
  simp [this]

theorem ne_of_size (s : ByteArray) (h : ¬ s.size = 0) : s.data.toList.isEmpty = false := by
  obtain ⟨⟨l⟩⟩ := s
  cases l with
  | nil => exact absurd rfl h
  | cons a l => rfl

theorem all_yes (o : List UInt8) (s : ByteArray) (h : 0 < s.size) (hn : (s.data.toList.take s.size).all (Plain.okB o) = true) : Plain.plain s.data.toList o = true := by
  unfold Plain.plain
  have e : s.data.toList.take s.size = s.data.toList := List.take_of_length_le (by simp)
  rw [e] at hn
  rw [hn]
  have : s.data.toList.isEmpty = false := ne_of_size s (by omega)
  rw [this]; rfl

theorem ok_an (o : List UInt8) (c : UInt8) (h : (97 ≤ c.toNat ∧ c.toNat ≤ 122) ∨ (65 ≤ c.toNat ∧ c.toNat ≤ 90) ∨ (48 ≤ c.toNat ∧ c.toNat ≤ 57)) : Plain.okB o c = true := by
  unfold Plain.okB Plain.isAn
  simp
  omega

theorem ok_not_an (o : List UInt8) (c : UInt8) (h : ¬ ((97 ≤ c.toNat ∧ c.toNat ≤ 122) ∨ (65 ≤ c.toNat ∧ c.toNat ≤ 90) ∨ (48 ≤ c.toNat ∧ c.toNat ≤ 57))) : Plain.okB o c = o.contains c := by
  unfold Plain.okB
  have : Plain.isAn c.toNat = false := by
    unfold Plain.isAn
    rw [Bool.eq_false_iff]
    simp
    omega
  rw [this]; rfl

set_option maxRecDepth 100000 in
set_option maxHeartbeats 1000000 in
theorem pw35 (s o : ByteArray) (hs : s.size ≤ 1048576) (w : World) :
    Calls Try.prog 35 #[.string s, .string o] w fun e w' => e = .returned (.bool (Plain.plain s.data.toList o.data.toList)) ∧ w' = w := by
  by_cases h0 : s.size = 0
  · have hse : s = ByteArray.empty := by
      obtain ⟨⟨l⟩⟩ := s
      cases l with
      | nil => rfl
      | cons a l => simp [ByteArray.size] at h0
    subst hse
    go_enter Try.func35, Try.ntmps35
    go_wp2
    go_ret
    exact ⟨rfl, rfl⟩
  · have hne : s.toList.isEmpty = false := by rw [Lib.toList_data]; exact ne_of_size s h0
    go_enter Try.func35, Try.ntmps35
    go_wp2
    go_loop [5] (fun i => ∃ k : Nat, k ≤ s.size ∧ i = .int .i64 k ∧ Hid ((s.data.toList.take k).all (Plain.okB o.data.toList) = true)) (fun i => s.size - (intOf i).toNat)
    case atStart => exact ⟨0, by omega, rfl, (by rw [List.take_zero]; exact rfl)⟩
    case round =>
      obtain ⟨k, hk, rfl, hall⟩ := hrel
      by_cases hlt : k < s.size
      · have hsn : Hid ((s.data.toList.take (k + 1)).all (Plain.okB o.data.toList) = ((s.data.toList.take k).all (Plain.okB o.data.toList) && Plain.okB o.data.toList s[k])) := all_snoc _ s k hlt
        have hno : Hid (Plain.okB o.data.toList s[k] = false → Plain.plain s.data.toList o.data.toList = false) := all_not _ s k hlt
        have han : Hid _ := ok_an o.data.toList s[k]
        have hnan : Hid _ := ok_not_an o.data.toList s[k]
        have hin : Hid _ := index_in o.data.toList s[k]
        have hout : Hid _ := index_out o.data.toList s[k]
        have hcases : (97 ≤ s[k].toNat ∧ s[k].toNat ≤ 122) ∨ (65 ≤ s[k].toNat ∧ s[k].toNat ≤ 90) ∨ (48 ≤ s[k].toNat ∧ s[k].toNat ≤ 57) ∨ (122 < s[k].toNat) ∨ (90 < s[k].toNat ∧ s[k].toNat < 97) ∨ (57 < s[k].toNat ∧ s[k].toNat < 65) ∨ (s[k].toNat < 48) := by omega
        rcases hcases with ⟨c1, c2⟩ | ⟨c1, c2⟩ | ⟨c1, c2⟩ | c1 | ⟨c1, c2⟩ | ⟨c1, c2⟩ | c1
        · go_wp2
          go_round
          case rel => exact ⟨k + 1, by omega, by go_num, (by have e := hsn.out; rw [hall.out, han.out (by omega)] at e; exact e)⟩
          case measure => simp [intOf]; omega
        · go_wp2
          go_round
          case rel => exact ⟨k + 1, by omega, by go_num, (by have e := hsn.out; rw [hall.out, han.out (by omega)] at e; exact e)⟩
          case measure => simp [intOf]; omega
        · go_wp2
          go_round
          case rel => exact ⟨k + 1, by omega, by go_num, (by have e := hsn.out; rw [hall.out, han.out (by omega)] at e; exact e)⟩
          case measure => simp [intOf]; omega
        all_goals
          have he := hnan.out (by omega)
          cases hct : o.data.toList.contains s[k] with
          | true =>
            have hix := hin.out hct
            rw [hct] at he
            have He : Hid (Plain.okB o.data.toList s[k] = true) := he
            clear he hct hnan han hin hout hno
            go_wp2_with (go_at_call 38; refine (ix38 _ _ _).mono ?_; rintro e w ⟨rfl, rfl⟩)
            go_round
            case rel => exact ⟨k + 1, by omega, by go_num, (by have e := hsn.out; rw [hall.out, He.out] at e; exact e)⟩
            case measure => simp [intOf]; omega
          | false =>
            have hix := hout.out hct
            rw [hct] at he
            have hfin : Hid _ := hno.out he
            clear he hct hnan han hin hout hno
            go_wp2_with (go_at_call 38; refine (ix38 _ _ _).mono ?_; rintro e w ⟨rfl, rfl⟩)
            case roundEnd => exfalso; rename_i hbad; simp at hbad; omega
            go_ret
            exact ⟨ret_bool hfin.out.symm, rfl⟩
      · obtain rfl : k = s.size := by omega
        have hfin : Hid _ := all_yes _ s (by omega) hall.out
        go_wp2
        go_ret
        exact ⟨ret_bool hfin.out.symm, rfl⟩

theorem zz27 (s o : ByteArray) (hs : s.size ≤ 1048576) (w : World) :
    Calls Try.prog 27 #[.string s, .string o] w fun e w' => e = .returned (.bool (Plain.plain s.data.toList o.data.toList)) ∧ w' = w := by
  go_enter Try.func27, Try.ntmps27
  go_wp2_with (go_at_call 35; refine (pw35 s o hs _).mono ?_; rintro e w ⟨rfl, rfl⟩)
  go_ret
  exact ⟨rfl, rfl⟩
end Go.Proofs.Qxb6602743a
