/-
  Contracts of the small functions on the road of FnClassNameReadsBuiltClass: isLetter, isAlpha, zzBytes, allLetters.
-/
import Derived.Test.Qxb6603059aRows
import Derived.WalkKit
import Derived.WalkSpells
namespace Go.Proofs.Qxb6603059a
open Go.RowKit

/-- An ASCII letter, of either case. -/
def letter (n : Int) : Bool := decide ((97 ≤ n ∧ n ≤ 122) ∨ (65 ≤ n ∧ n ≤ 90))

theorem letter_yes {n : Int} (h : (97 ≤ n ∧ n ≤ 122) ∨ (65 ≤ n ∧ n ≤ 90)) : letter n = true := decide_eq_true h
theorem letter_no {n : Int} (h : ¬ ((97 ≤ n ∧ n ≤ 122) ∨ (65 ≤ n ∧ n ≤ 90))) : letter n = false := decide_eq_false h
theorem ret_bool {a b : Bool} (h : a = b) : Ending.returned (.bool a) = .returned (.bool b) := by rw [h]

theorem isLetter_any (n : Int) (w : World) : Calls Try.prog 23 #[.int .u8 n] w fun e w' => e = .returned (.bool (letter n)) ∧ w' = w := by
  by_cases h1 : 97 ≤ n
  · by_cases h2 : n ≤ 122
    · go_enter Try.func23, Try.ntmps23
      go_wp2
      go_ret
      exact ⟨ret_bool (by rw [letter_yes (by omega)]), rfl⟩
    · have h3 : 65 ≤ n := by omega
      have h4 : ¬ n ≤ 90 := by omega
      go_enter Try.func23, Try.ntmps23
      go_wp2
      go_ret
      exact ⟨ret_bool (by rw [letter_no (by omega)]), rfl⟩
  · by_cases h3 : 65 ≤ n
    · by_cases h4 : n ≤ 90
      · go_enter Try.func23, Try.ntmps23
        go_wp2
        go_ret
        exact ⟨ret_bool (by rw [letter_yes (by omega)]), rfl⟩
      · go_enter Try.func23, Try.ntmps23
        go_wp2
        go_ret
        exact ⟨ret_bool (by rw [letter_no (by omega)]), rfl⟩
    · go_enter Try.func23, Try.ntmps23
      go_wp2
      go_ret
      exact ⟨ret_bool (by rw [letter_no (by omega)]), rfl⟩

theorem isAlpha_any (n : Int) (w : World) : Calls Try.prog 27 #[.int .i32 n] w fun e w' => e = .returned (.bool (letter n)) ∧ w' = w := by
  by_cases h1 : 97 ≤ n
  · by_cases h2 : n ≤ 122
    · go_enter Try.func27, Try.ntmps27
      go_wp2
      go_ret
      exact ⟨ret_bool (by rw [letter_yes (by omega)]), rfl⟩
    · have h3 : 65 ≤ n := by omega
      have h4 : ¬ n ≤ 90 := by omega
      go_enter Try.func27, Try.ntmps27
      go_wp2
      go_ret
      exact ⟨ret_bool (by rw [letter_no (by omega)]), rfl⟩
  · by_cases h3 : 65 ≤ n
    · by_cases h4 : n ≤ 90
      · go_enter Try.func27, Try.ntmps27
        go_wp2
        go_ret
        exact ⟨ret_bool (by rw [letter_yes (by omega)]), rfl⟩
      · go_enter Try.func27, Try.ntmps27
        go_wp2
        go_ret
        exact ⟨ret_bool (by rw [letter_no (by omega)]), rfl⟩
    · go_enter Try.func27, Try.ntmps27
      go_wp2
      go_ret
      exact ⟨ret_bool (by rw [letter_no (by omega)]), rfl⟩

/-- The bound on the total length, two strings. -/
theorem bytes_any (s t : ByteArray) (w : World) (hs : s.size ≤ maxLen) (ht : t.size ≤ maxLen) :
    Calls Try.prog 16 #[.string s, .string t] w fun e w' => e = .returned (.bool (decide (s.size + t.size ≤ 1048576))) ∧ w' = w := by
  unfold maxLen at hs ht
  by_cases h1 : s.size ≤ 1048576
  · by_cases h2 : t.size ≤ 1048576
    · by_cases h3 : s.size + t.size ≤ 1048576
      · go_enter Try.func16, Try.ntmps16
        go_wp2
        go_ret
        exact ⟨ret_bool (decide_eq_true h3).symm, rfl⟩
      · go_enter Try.func16, Try.ntmps16
        go_wp2
        go_ret
        exact ⟨ret_bool (decide_eq_false h3).symm, rfl⟩
    · go_enter Try.func16, Try.ntmps16
      go_wp2
      go_ret
      exact ⟨ret_bool (decide_eq_false (by omega)).symm, rfl⟩
  · go_enter Try.func16, Try.ntmps16
    go_wp2
    go_ret
    exact ⟨ret_bool (decide_eq_false (by omega)).symm, rfl⟩

/-- Every byte is a letter. -/
def lettersB (l : List UInt8) : Bool := l.all fun c => letter (c.toNat : Int)

theorem take_snoc (s : ByteArray) (k : Nat) (h : k < s.size) : s.data.toList.take (k + 1) = s.data.toList.take k ++ [s[k]] := by
  rw [List.take_succ_eq_append_getElem (by simpa using h)]; rfl

theorem letters_stop (s : ByteArray) (k : Nat) (h : k < s.size) (hn : letter (s[k].toNat : Int) = false) : lettersB s.data.toList = false := by
  unfold lettersB
  rw [List.all_eq_false]
  refine ⟨s[k], ?_, by rw [hn]; simp⟩
  show s.data[k] ∈ s.data.toList
  simp

theorem letters_step (s : ByteArray) (k : Nat) (h : k < s.size) (h0 : lettersB (s.data.toList.take k) = true) (hn : letter (s[k].toNat : Int) = true) : lettersB (s.data.toList.take (k + 1)) = true := by
  rw [take_snoc s k h]
  unfold lettersB at *
  rw [List.all_append, h0]
  simp [hn]

set_option maxHeartbeats 400000 in
theorem allLetters_any (s : ByteArray) (w : World) (hs : s.size ≤ maxLen) :
    Calls Try.prog 17 #[.string s] w fun e w' => e = .returned (.bool (lettersB s.data.toList)) ∧ w' = w := by
  unfold maxLen at hs
  go_enter Try.func17, Try.ntmps17
  go_wp2
  go_loop [3] (fun i => ∃ k : Nat, k ≤ s.size ∧ i = .int .i64 k ∧ lettersB (s.data.toList.take k) = true) (fun i => s.size - (intOf i).toNat)
  case atStart => exact ⟨0, Nat.zero_le _, rfl, rfl⟩
  case round =>
    obtain ⟨k, hk, rfl, h0⟩ := hrel
    have H0 : Hid (lettersB (s.data.toList.take k) = true) := h0
    clear h0
    by_cases hlt : k < s.size
    · cases hl : letter (s[k].toNat : Int) with
      | true =>
        go_wp2_with (go_at_call 23; refine (isLetter_any _ _).mono ?_; rintro e w' ⟨rfl, rfl⟩)
        go_round
        case rel => exact ⟨k + 1, by omega, by go_num, letters_step s k hlt H0.out hl⟩
        case measure => simp [intOf]; omega
      | false =>
        go_wp2_with (go_at_call 23; refine (isLetter_any _ _).mono ?_; rintro e w' ⟨rfl, rfl⟩)
        go_ret
        exact ⟨ret_bool (letters_stop s k hlt hl).symm, rfl⟩
    · go_wp2
      go_ret
      refine ⟨ret_bool ?_, rfl⟩
      have := H0.out
      rw [List.take_of_length_le (by simp; omega)] at this
      exact this.symm

end Go.Proofs.Qxb6603059a
