/-
  unescape computes 'unesc'.
-/
import Derived.Test.Qxb6603059aBuilder
import Derived.Test.Qxb6603059aEscape
import Derived.Lib.Strings
namespace Go.Proofs.Qxb6603059a
open Go.RowKit

theorem drop_at (s : ByteArray) (k : Nat) (h : k < s.size) : s.data.toList.drop k = s[k] :: s.data.toList.drop (k + 1) := by
  rw [List.drop_eq_getElem_cons (by simpa using h)]; rfl

theorem un_plain {s : ByteArray} {k : Nat} {acc : List UInt8} (h : k < s.size) (hc : ¬ (s[k].toNat : Int) = 92) (he : acc ++ unesc (s.data.toList.drop k) = unesc s.data.toList) :
    (acc ++ [s[k]]) ++ unesc (s.data.toList.drop (k + 1)) = unesc s.data.toList := by
  rw [drop_at s k h, unesc_plain _ _ (u8_ne 92 hc)] at he
  simpa using he

theorem un_last {s : ByteArray} {k : Nat} {acc : List UInt8} (h : k < s.size) (hl : ¬ k + 1 < s.size) (he : acc ++ unesc (s.data.toList.drop k) = unesc s.data.toList) :
    (acc ++ [s[k]]) ++ unesc (s.data.toList.drop (k + 1)) = unesc s.data.toList := by
  have e : s.data.toList.drop (k + 1) = [] := List.drop_eq_nil_of_le (by simp; omega)
  rw [drop_at s k h, e, unesc_last] at he
  rw [e]
  simpa [unesc] using he

theorem un_pair {s : ByteArray} {k : Nat} {acc : List UInt8} (h : k + 1 < s.size) (hc : (s[k].toNat : Int) = 92) (he : acc ++ unesc (s.data.toList.drop k) = unesc s.data.toList) {x : List UInt8} (hx : escd s[k + 1] = x) :
    (acc ++ x) ++ unesc (s.data.toList.drop (k + 1 + 1)) = unesc s.data.toList := by
  rw [drop_at s k (by omega), drop_at s (k + 1) h, u8_eq 92 hc, unesc_pair, hx] at he
  simpa using he

theorem escd_self {c : UInt8} (h : c = 44 ∨ c = 59 ∨ c = 92) : escd c = [c] := by unfold escd; rw [if_pos h]
theorem escd_plain {c : UInt8} (h1 : ¬ c = 44) (h2 : ¬ c = 59) (h3 : ¬ c = 92) (h4 : ¬ c = 115) (h5 : ¬ c = 116) (h6 : ¬ c = 110) : escd c = [92, c] := by
  unfold escd
  rw [if_neg (by rintro (h | h | h) <;> contradiction), if_neg h4, if_neg h5, if_neg h6]

theorem two_bytes {s : ByteArray} {k : Nat} (h : k + 1 < s.size) (hc : (s[k].toNat : Int) = 92) : Lib.strCells (s.extract k (k + 2)) = Lib.byteCells [92, s[k + 1]] := by
  unfold Lib.strCells Lib.byteCells
  rw [Lib.extract_data, drop_at s k (by omega), drop_at s (k + 1) h, show k + 2 - k = 2 by omega, u8_eq 92 hc]
  rfl

theorem two_size {s : ByteArray} {k : Nat} (h : k + 1 < s.size) : (s.extract k (k + 2)).size = 2 := by
  rw [ByteArray.size_extract]; omega

/-- What a write leaves is a builder still. -/
theorem isB {B b : Nat} {acc x : List UInt8} {cs : List Value} {w : World} (h : Lib.BuilderAt 33 5 B b (.pointer (some ⟨b, 0, none⟩)) (Lib.byteCells acc ++ cs) w) (e : cs = Lib.byteCells x) : Lib.IsBuilder 33 5 B b (Lib.byteCells (acc ++ x)) w := by
  rw [Lib.byteCells_append, ← e]
  exact Or.inr h

set_option maxHeartbeats 1600000 in
theorem unescape_any (s : ByteArray) (w : World) (hs : s.size ≤ 4194304) :
    Calls Try.prog 21 #[.string s] w fun e w' => e = .returned (.string ⟨(unesc s.data.toList).toArray⟩) ∧ Below w.heap.size w w' := by
  go_enter Try.func21, Try.ntmps21
  go_wp2
  go_loopw [4] (fun i wr => ∃ (k : Nat) (acc : List UInt8), k ≤ s.size ∧ i = .int .i64 k ∧ Lib.IsBuilder 33 5 w.heap.size w.heap.size (Lib.byteCells acc) wr ∧ acc ++ unesc (s.data.toList.drop k) = unesc s.data.toList ∧ acc.length ≤ k ∧ Below w.heap.size w wr) (fun i _ => s.size - (intOf i).toNat)
  case atStart => exact ⟨0, [], Nat.zero_le _, rfl, Lib.fresh_isBuilder 33 5 w, rfl, Nat.le_refl _, (Below.refl _ w).alloc (Nat.le_refl _) _⟩
  case round =>
    obtain ⟨k, acc, hk, rfl, hI, hacc, hal, hb⟩ := hrel
    have HA : Hid (acc ++ unesc (s.data.toList.drop k) = unesc s.data.toList) := hacc
    have hbs := hb.size
    clear hacc
    by_cases hlt : k < s.size
    · by_cases hc : (s[k].toNat : Int) = 92
      · by_cases hk1 : k + 1 < s.size
        · by_cases e1 : (s[k + 1].toNat : Int) = 44
          · go_wp2_with (go_at_call 24; refine (writeByte_any w.heap.size w.heap.size _ _ _ hI (by rw [Lib.byteCells_length]; omega) hbs).mono ?_; rintro e W1 ⟨rfl, h1, b1⟩)
            have hI1 := isB (x := [44]) h1 rfl
            have R := un_pair hk1 hc HA.out (by rw [u8_eq 44 e1])
            clear hI h1
            go_roundw
            case rel => exact ⟨k + 1 + 1, acc ++ [44], by omega, by go_num, hI1, R, by simp; omega, hb.trans b1⟩
            case measure => simp [intOf]; omega
          · by_cases e2 : (s[k + 1].toNat : Int) = 59
            · go_wp2_with (go_at_call 24; refine (writeByte_any w.heap.size w.heap.size _ _ _ hI (by rw [Lib.byteCells_length]; omega) hbs).mono ?_; rintro e W1 ⟨rfl, h1, b1⟩)
              have hI1 := isB (x := [59]) h1 rfl
              have R := un_pair hk1 hc HA.out (by rw [u8_eq 59 e2])
              clear hI h1
              go_roundw
              case rel => exact ⟨k + 1 + 1, acc ++ [59], by omega, by go_num, hI1, R, by simp; omega, hb.trans b1⟩
              case measure => simp [intOf]; omega
            · by_cases e3 : (s[k + 1].toNat : Int) = 92
              · go_wp2_with (go_at_call 24; refine (writeByte_any w.heap.size w.heap.size _ _ _ hI (by rw [Lib.byteCells_length]; omega) hbs).mono ?_; rintro e W1 ⟨rfl, h1, b1⟩)
                have hI1 := isB (x := [92]) h1 rfl
                have R := un_pair hk1 hc HA.out (by rw [u8_eq 92 e3])
                clear hI h1
                go_roundw
                case rel => exact ⟨k + 1 + 1, acc ++ [92], by omega, by go_num, hI1, R, by simp; omega, hb.trans b1⟩
                case measure => simp [intOf]; omega
              · by_cases e4 : (s[k + 1].toNat : Int) = 115
                · go_wp2_with (go_at_call 24; refine (writeByte_any w.heap.size w.heap.size _ _ _ hI (by rw [Lib.byteCells_length]; omega) hbs).mono ?_; rintro e W1 ⟨rfl, h1, b1⟩)
                  have hI1 := isB (x := [32]) h1 rfl
                  have R := un_pair hk1 hc HA.out (by rw [u8_eq 115 e4])
                  clear hI h1
                  go_roundw
                  case rel => exact ⟨k + 1 + 1, acc ++ [32], by omega, by go_num, hI1, R, by simp; omega, hb.trans b1⟩
                  case measure => simp [intOf]; omega
                · by_cases e5 : (s[k + 1].toNat : Int) = 116
                  · go_wp2_with (go_at_call 24; refine (writeByte_any w.heap.size w.heap.size _ _ _ hI (by rw [Lib.byteCells_length]; omega) hbs).mono ?_; rintro e W1 ⟨rfl, h1, b1⟩)
                    have hI1 := isB (x := [9]) h1 rfl
                    have R := un_pair hk1 hc HA.out (by rw [u8_eq 116 e5])
                    clear hI h1
                    go_roundw
                    case rel => exact ⟨k + 1 + 1, acc ++ [9], by omega, by go_num, hI1, R, by simp; omega, hb.trans b1⟩
                    case measure => simp [intOf]; omega
                  · by_cases e6 : (s[k + 1].toNat : Int) = 110
                    · go_wp2_with (go_at_call 24; refine (writeByte_any w.heap.size w.heap.size _ _ _ hI (by rw [Lib.byteCells_length]; omega) hbs).mono ?_; rintro e W1 ⟨rfl, h1, b1⟩)
                      have hI1 := isB (x := [10]) h1 rfl
                      have R := un_pair hk1 hc HA.out (by rw [u8_eq 110 e6])
                      clear hI h1
                      go_roundw
                      case rel => exact ⟨k + 1 + 1, acc ++ [10], by omega, by go_num, hI1, R, by simp; omega, hb.trans b1⟩
                      case measure => simp [intOf]; omega
                    · have hsz := two_size hk1
                      go_wp2_with (go_at_call 25; refine (writeString_any w.heap.size w.heap.size _ _ _ hI (by rw [Lib.byteCells_length]; omega) hbs).mono ?_; rintro e W1 ⟨rfl, h1, b1⟩)
                      have hI1 := isB (x := [92, s[k + 1]]) h1 (two_bytes hk1 hc)
                      have R := un_pair hk1 hc HA.out (escd_plain (u8_ne 44 e1) (u8_ne 59 e2) (u8_ne 92 e3) (u8_ne 115 e4) (u8_ne 116 e5) (u8_ne 110 e6))
                      clear hI h1
                      go_roundw
                      case rel => exact ⟨k + 1 + 1, acc ++ [92, s[k + 1]], by omega, by go_num, hI1, R, by simp; omega, hb.trans b1⟩
                      case measure => simp [intOf]; omega
        · go_wp2_with (go_at_call 24; refine (writeByte_any w.heap.size w.heap.size _ _ _ hI (by rw [Lib.byteCells_length]; omega) hbs).mono ?_; rintro e W1 ⟨rfl, h1, b1⟩)
          have hI1 := isB (x := [s[k]]) h1 (by rw [u8_eq 92 hc]; rfl)
          have R := un_last hlt hk1 HA.out
          clear hI h1
          go_roundw
          case rel => exact ⟨k + 1, acc ++ [s[k]], by omega, by go_num, hI1, R, by simp; omega, hb.trans b1⟩
          case measure => simp [intOf]; omega
      · go_wp2_with (go_at_call 24; refine (writeByte_any w.heap.size w.heap.size _ _ _ hI (by rw [Lib.byteCells_length]; omega) hbs).mono ?_; rintro e W1 ⟨rfl, h1, b1⟩)
        have hI1 := isB (x := [s[k]]) h1 rfl
        have R := un_plain hlt hc HA.out
        clear hI h1
        go_roundw
        case rel => exact ⟨k + 1, acc ++ [s[k]], by omega, by go_num, hI1, R, by simp; omega, hb.trans b1⟩
        case measure => simp [intOf]; omega
    · have ek : s.data.toList.drop k = [] := List.drop_eq_nil_of_le (by simp; omega)
      have HE : Hid (s.data.toList.drop k = []) := ek
      clear ek
      go_wp2_with (go_at_call 26; refine (Try.Builder_String_any w.heap.size w.heap.size acc _ hI hbs).mono ?_; rintro e W1 ⟨rfl, b1⟩)
      go_ret
      have hacc := HA.out
      rw [HE.out, show unesc [] = [] from rfl, List.append_nil] at hacc
      subst hacc
      exact ⟨rfl, hb.trans b1⟩

end Go.Proofs.Qxb6603059a
