/-
  The plain law: className at a class that was built finds the name; then the walk of FnClassNameReadsBuiltClass.
-/
import Derived.Test.Qxb6603059aClass
import Derived.Lib.Strings
namespace Go.Proofs.Qxb6603059a
open Go.RowKit

theorem mk_get (l : List UInt8) (j : Nat) (h : j < (⟨l.toArray⟩ : ByteArray).size) (h' : j < l.length) : (⟨l.toArray⟩ : ByteArray)[j]'h = l[j]'h' := rfl

theorem mk_size (l : List UInt8) : (⟨l.toArray⟩ : ByteArray).size = l.length := by simp [ByteArray.size]

theorem class_at_name (s t : ByteArray) (j : Nat) (h : j < (classBytes s t).length) (h1 : 2 ≤ j) (h2 : j < s.size + 2) : ∃ k, ∃ hk : k < s.data.toList.length, (classBytes s t)[j]'h = s.data.toList[k]'hk := by
  obtain ⟨k, rfl⟩ : ∃ k, j = k + 1 + 1 := ⟨j - 2, by omega⟩
  have hk : k < s.data.toList.length := by simp; omega
  refine ⟨k, hk, ?_⟩
  simp only [classBytes, List.getElem_cons_succ]
  rw [List.getElem_append_left hk]

theorem class_at_end (s t : ByteArray) : ((classBytes s t)[s.size + 2]'(by rw [classBytes_length]; omega)) = 58 := by
  simp only [classBytes, List.getElem_cons_succ]
  rw [List.getElem_append_right (by simp)]
  simp

theorem class_at_end1 (s t : ByteArray) : ((classBytes s t)[s.size + 2 + 1]'(by rw [classBytes_length]; omega)) = 93 := by
  have e : s.size + 2 + 1 = s.size + 1 + 1 + 1 := by omega
  simp only [classBytes, e, List.getElem_cons_succ]
  rw [List.getElem_append_right (by simp)]
  simp

theorem class_extract (s t : ByteArray) : (⟨(classBytes s t).toArray⟩ : ByteArray).extract 2 (s.size + 2) = s := by
  rw [Lib.extract_eq]
  have e : ((classBytes s t).drop 2).take (s.size + 2 - 2) = s.data.toList := by
    have h : s.size + 2 - 2 = s.data.toList.length := by simp
    rw [h]
    simp [classBytes]
  show (⟨(((classBytes s t).drop 2).take (s.size + 2 - 2)).toArray⟩ : ByteArray) = s
  rw [e]

theorem class_call (s t : ByteArray) (w : World) (hs : s.size ≤ 524288) (ht : t.size ≤ 524288) (hl : lettersB s.data.toList = true) :
    Calls Try.prog 22 #[.string ⟨(classBytes s t).toArray⟩] w fun e w' => e = .returned (.tuple #[.string s, .int .i64 ((s.size + 2 : Nat) + 2 : Int), .bool true]) ∧ w' = w := by
  have hz := classBytes_length s t
  have hz' := mk_size (classBytes s t)
  have h := className_found ⟨(classBytes s t).toArray⟩ s.size (by omega) (by omega) rfl rfl
    (fun j hj h1 h2 => by
      obtain ⟨k, hk, e⟩ := class_at_name s t j (by omega) h1 h2
      rw [mk_get _ j hj (by omega), e]
      unfold lettersB at hl
      rw [List.all_eq_true] at hl
      exact hl _ (List.getElem_mem hk))
    (by rw [mk_get _ _ _ (by omega), class_at_end]; rfl)
    (by rw [mk_get _ _ _ (by omega), class_at_end1]; rfl) w
  rw [class_extract] at h
  exact h

theorem zzclass_call (s t : ByteArray) (w : World) (hs : s.size ≤ 524288) (ht : t.size ≤ 524288) (hl : lettersB s.data.toList = true) :
    Calls Try.prog 14 #[.string ⟨(classBytes s t).toArray⟩] w fun e w' => e = .returned (.tuple #[.string s, .int .i64 ((s.size : Int) + 4), .bool true]) ∧ w' = w := by
  have e4 : (((s.size + 2 : Nat) : Int) + 2) = (s.size : Int) + 4 := by omega
  have hc := class_call s t w hs ht hl
  rw [e4] at hc
  have HC : Hid (Calls Try.prog 22 #[.string ⟨(classBytes s t).toArray⟩] w fun e w' => e = .returned (.tuple #[.string s, .int .i64 ((s.size : Int) + 4), .bool true]) ∧ w' = w) := hc
  clear hc e4
  obtain ⟨b, hb⟩ : ∃ b : ByteArray, b = ⟨(classBytes s t).toArray⟩ := ⟨_, rfl⟩
  rw [← hb] at HC ⊢
  clear hb
  go_enter Try.func14, Try.ntmps14
  go_wp2_with (go_at_call 22; refine HC.out.mono ?_; rintro e w' ⟨rfl, rfl⟩)
  go_ret3
  exact ⟨rfl, rfl⟩

set_option maxHeartbeats 400000 in
theorem class_walk (s t : ByteArray) (hs : s.size ≤ maxLen) (ht : t.size ≤ maxLen) (w : World) :
    Calls Try.prog 6 #[.string s, .string t] w fun e w' => e = .returned (.bool true) ∧ Below w.heap.size w w' := by
  by_cases h : s.size + t.size ≤ 1048576
  · by_cases h1 : s.size ≤ 524288
    · by_cases h2 : t.size ≤ 524288
      · cases hl : lettersB s.data.toList with
        | true =>
          have HL : Hid (lettersB s.data.toList = true) := hl
          go_enter Try.func6, Try.ntmps6
          go_wp2_with (first | (go_at_call 16; refine (bytes_any _ _ _ hs ht).mono ?_; rintro e w' ⟨rfl, rfl⟩) | (go_at_call 17; refine (allLetters_any _ _ hs).mono ?_; rintro e w' ⟨rfl, rfl⟩) | (go_at_call 18; refine (build_any _ _ _ (by omega) (by omega)).mono ?_; rintro e w1 ⟨rfl, hb⟩) | (go_at_call 14; refine (zzclass_call s t _ h1 h2 HL.out).mono ?_; rintro e w2 ⟨rfl, rfl⟩))
          go_ret
          exact ⟨rfl, hb⟩
        | false =>
          go_enter Try.func6, Try.ntmps6
          go_wp2_with (first | (go_at_call 16; refine (bytes_any _ _ _ hs ht).mono ?_; rintro e w' ⟨rfl, rfl⟩) | (go_at_call 17; refine (allLetters_any _ _ hs).mono ?_; rintro e w' ⟨rfl, rfl⟩))
          go_ret
          exact ⟨rfl, Below.refl _ _⟩
      · go_enter Try.func6, Try.ntmps6
        go_wp2_with (go_at_call 16; refine (bytes_any _ _ _ hs ht).mono ?_; rintro e w' ⟨rfl, rfl⟩)
        go_ret
        exact ⟨rfl, Below.refl _ _⟩
    · go_enter Try.func6, Try.ntmps6
      go_wp2_with (go_at_call 16; refine (bytes_any _ _ _ hs ht).mono ?_; rintro e w' ⟨rfl, rfl⟩)
      go_ret
      exact ⟨rfl, Below.refl _ _⟩
  · go_enter Try.func6, Try.ntmps6
    go_wp2_with (go_at_call 16; refine (bytes_any _ _ _ hs ht).mono ?_; rintro e w' ⟨rfl, rfl⟩)
    go_ret
    exact ⟨rfl, Below.refl _ _⟩

end Go.Proofs.Qxb6603059a
