/-
  The walks of FnUnescapeInvertsEscaping and FnUnescapeLengthBounds out of the contracts.
-/
import Derived.Test.Qxb6603059aUnescape
namespace Go.Proofs.Qxb6603059a
open Go.RowKit

theorem zzunescape_any (s : ByteArray) (w : World) (hs : s.size ≤ 4194304) :
    Calls Try.prog 9 #[.string s] w fun e w' => e = .returned (.string ⟨(unesc s.data.toList).toArray⟩) ∧ Below w.heap.size w w' := by
  go_enter Try.func9, Try.ntmps9
  go_wp2_with (go_at_call 21; refine (unescape_any _ _ hs).mono ?_; rintro e w' ⟨rfl, hb⟩)
  go_ret
  exact ⟨rfl, hb⟩

theorem esc_size (s : ByteArray) : (⟨(esc s.data.toList).toArray⟩ : ByteArray).size ≤ 2 * s.size := by
  have h := esc_length s.data.toList
  have e1 : (⟨(esc s.data.toList).toArray⟩ : ByteArray).size = (esc s.data.toList).length := by simp [ByteArray.size]
  have e2 : s.data.toList.length = s.size := by simp
  omega

/-- Escaped and then unescaped: the string itself. -/
theorem back_any (s : ByteArray) (w : World) (hs : s.size ≤ 1048576) :
    Calls Try.prog 9 #[.string ⟨(esc s.data.toList).toArray⟩] w fun e w' => e = .returned (.string s) ∧ Below w.heap.size w w' := by
  have h := zzunescape_any ⟨(esc s.data.toList).toArray⟩ w (by have := esc_size s; omega)
  have e : (⟨(unesc (⟨(esc s.data.toList).toArray⟩ : ByteArray).data.toList).toArray⟩ : ByteArray) = s := by
    show (⟨(unesc (esc s.data.toList)).toArray⟩ : ByteArray) = s
    rw [unesc_esc]
  rw [e] at h
  exact h

set_option maxHeartbeats 400000 in
theorem inverts_walk (s : ByteArray) (hs : s.size ≤ maxLen) (w : World) :
    Calls Try.prog 3 #[.string s] w fun e w' => e = .returned (.bool true) ∧ Below w.heap.size w w' := by
  by_cases h : s.size ≤ 1048576
  · go_enter Try.func3, Try.ntmps3
    go_wp2_with (first | (go_at_call 8; refine (bytesA_any _ _ hs).mono ?_; rintro e w' ⟨rfl, rfl⟩) | (go_at_call 10; refine (escape_any _ _ h).mono ?_; rintro e w1 ⟨rfl, hb⟩) | (go_at_call 9; refine (back_any s _ h).mono ?_; rintro e w2 ⟨rfl, hb2⟩))
    go_ret
    exact ⟨rfl, hb.trans (hb2.mono hb.size)⟩
  · go_enter Try.func3, Try.ntmps3
    go_wp2_with (go_at_call 8; refine (bytesA_any _ _ hs).mono ?_; rintro e w' ⟨rfl, rfl⟩)
    go_ret
    exact ⟨rfl, Below.refl _ _⟩

/-- A backslash is among the bytes. -/
def hasB (l : List UInt8) : Bool := l.any fun c => decide ((c.toNat : Int) = 92)

theorem hasB_step (s : ByteArray) (k : Nat) (h : k < s.size) (h0 : hasB (s.data.toList.take k) = false) (hn : ¬ (s[k].toNat : Int) = 92) : hasB (s.data.toList.take (k + 1)) = false := by
  rw [take_snoc s k h]
  unfold hasB at *
  rw [List.any_append, h0]
  simp [hn]

theorem hasB_stop (s : ByteArray) (k : Nat) (h : k < s.size) (hn : (s[k].toNat : Int) = 92) : hasB s.data.toList = true := by
  unfold hasB
  rw [List.any_eq_true]
  refine ⟨s[k], ?_, decide_eq_true hn⟩
  show s.data[k] ∈ s.data.toList
  simp

theorem hasB_not {l : List UInt8} (h : hasB l = false) : ∀ c ∈ l, c ≠ 92 := by
  intro c hc e
  subst e
  unfold hasB at h
  rw [List.any_eq_false] at h
  exact h _ hc (decide_eq_true rfl)

set_option maxHeartbeats 400000 in
theorem hasByte_any (s : ByteArray) (w : World) (hs : s.size ≤ 1048576) :
    Calls Try.prog 12 #[.string s, .int .u8 92] w fun e w' => e = .returned (.bool (hasB s.data.toList)) ∧ w' = w := by
  go_enter Try.func12, Try.ntmps12
  go_wp2
  go_loop [5] (fun i => ∃ k : Nat, k ≤ s.size ∧ i = .int .i64 k ∧ Hid (hasB (s.data.toList.take k) = false)) (fun i => s.size - (intOf i).toNat)
  case atStart => exact ⟨0, Nat.zero_le _, rfl, rfl⟩
  case round =>
    obtain ⟨k, hk, rfl, H0⟩ := hrel
    by_cases hlt : k < s.size
    · by_cases hc : (s[k].toNat : Int) = 92
      · go_wp2
        go_ret
        exact ⟨ret_bool (hasB_stop s k hlt hc).symm, rfl⟩
      · go_wp2
        go_round
        case rel => exact ⟨k + 1, by omega, by go_num, hasB_step s k hlt H0.out hc⟩
        case measure => simp [intOf]; omega
    · go_wp2
      go_ret
      refine ⟨ret_bool ?_, rfl⟩
      have := H0.out
      rw [List.take_of_length_le (by simp; omega)] at this
      exact this.symm

theorem un_size (s : ByteArray) : (⟨(unesc s.data.toList).toArray⟩ : ByteArray).size ≤ s.size ∧ s.size ≤ 2 * (⟨(unesc s.data.toList).toArray⟩ : ByteArray).size := by
  have h := unesc_length s.data.toList
  have e1 : (⟨(unesc s.data.toList).toArray⟩ : ByteArray).size = (unesc s.data.toList).length := by simp [ByteArray.size]
  have e2 : s.data.toList.length = s.size := by simp
  omega

theorem un_same (s : ByteArray) (h : hasB s.data.toList = false) : (⟨(unesc s.data.toList).toArray⟩ : ByteArray) = s := by
  rw [unesc_without _ (hasB_not h)]

/-- unescape's answer under a plain name. -/
theorem zzunescape_named (s : ByteArray) (w : World) (hs : s.size ≤ 1048576) :
    Calls Try.prog 9 #[.string s] w fun e w' => ∃ out : ByteArray, e = .returned (.string out) ∧ out.size ≤ s.size ∧ s.size ≤ 2 * out.size ∧ Hid (hasB s.data.toList = false → out = s) ∧ Below w.heap.size w w' := by
  refine (zzunescape_any s w (by omega)).mono ?_
  rintro e w' ⟨rfl, hb⟩
  exact ⟨_, rfl, (un_size s).1, (un_size s).2, un_same s, hb⟩

set_option maxHeartbeats 400000 in
theorem bounds_walk (s : ByteArray) (hs : s.size ≤ maxLen) (w : World) :
    Calls Try.prog 4 #[.string s] w fun e w' => e = .returned (.bool true) ∧ Below w.heap.size w w' := by
  by_cases h : s.size ≤ 1048576
  · go_enter Try.func4, Try.ntmps4
    go_wp2_with (first | (go_at_call 11; refine (bytesB_any _ _ hs).mono ?_; rintro e w' ⟨rfl, rfl⟩) | (go_at_call 9; refine (zzunescape_named s _ h).mono ?_; rintro e w1 ⟨out, rfl, h1, h2, H, hb⟩))
    cases hl : hasB s.data.toList with
    | true =>
      go_wp2_with (go_at_call 12; refine (hasByte_any s _ h).mono ?_; rintro e w2 ⟨rfl, rfl⟩)
      go_ret
      exact ⟨rfl, hb⟩
    | false =>
      obtain rfl := H.out hl
      go_wp2_with (go_at_call 12; refine (hasByte_any _ _ h).mono ?_; rintro e w2 ⟨rfl, rfl⟩)
      go_ret
      exact ⟨rfl, hb⟩
  · go_enter Try.func4, Try.ntmps4
    go_wp2_with (go_at_call 11; refine (bytesB_any _ _ hs).mono ?_; rintro e w' ⟨rfl, rfl⟩)
    go_ret
    exact ⟨rfl, Below.refl _ _⟩

end Go.Proofs.Qxb6603059a
