/-
  escapeAll computes 'esc'; hasByte; the two bounds on the length.
-/
import Derived.Test.Qxb6603059aClass
import Derived.Test.Qxb6603059aEscPlain
namespace Go.Proofs.Qxb6603059a
open Go.RowKit

theorem u8_eq {c : UInt8} (d : UInt8) (h : (c.toNat : Int) = (d.toNat : Int)) : c = d := UInt8.toNat_inj.1 (by omega)
theorem u8_ne {c : UInt8} (d : UInt8) (h : ¬ (c.toNat : Int) = (d.toNat : Int)) : ¬ c = d := fun e => h (by rw [e])

theorem bytesA_any (s : ByteArray) (w : World) (hs : s.size ≤ maxLen) :
    Calls Try.prog 8 #[.string s] w fun e w' => e = .returned (.bool (decide (s.size ≤ 1048576))) ∧ w' = w := by
  unfold maxLen at hs
  by_cases h1 : s.size ≤ 1048576
  · go_enter Try.func8, Try.ntmps8
    go_wp2
    go_ret
    exact ⟨ret_bool (decide_eq_true h1).symm, rfl⟩
  · go_enter Try.func8, Try.ntmps8
    go_wp2
    go_ret
    exact ⟨ret_bool (decide_eq_false h1).symm, rfl⟩

theorem bytesB_any (s : ByteArray) (w : World) (hs : s.size ≤ maxLen) :
    Calls Try.prog 11 #[.string s] w fun e w' => e = .returned (.bool (decide (s.size ≤ 1048576))) ∧ w' = w := by
  unfold maxLen at hs
  by_cases h1 : s.size ≤ 1048576
  · go_enter Try.func11, Try.ntmps11
    go_wp2
    go_ret
    exact ⟨ret_bool (decide_eq_true h1).symm, rfl⟩
  · go_enter Try.func11, Try.ntmps11
    go_wp2
    go_ret
    exact ⟨ret_bool (decide_eq_false h1).symm, rfl⟩

theorem esc_take (s : ByteArray) (k : Nat) (h : k < s.size) : esc (s.data.toList.take (k + 1)) = esc (s.data.toList.take k) ++ escOne s[k] := by
  rw [take_snoc s k h, esc_append]
  simp [esc]

/-- One round of escapeAll, on what is owned. -/
theorem esc_step {s : ByteArray} {k : Nat} (h : k < s.size) {acc : List UInt8} (hacc : acc = esc (s.data.toList.take k)) {w1 : World} {B : Nat} {v : Value} {news : List Value} {n : Nat}
    (hown : w1.ownsRow B 5 1 v (acc.length + n) (Lib.byteCells acc ++ news)) (hl : n = (escOne s[k]).length) (hn : news = Lib.byteCells (escOne s[k])) :
    w1.ownsRow B 5 1 v (esc (s.data.toList.take (k + 1))).length (Lib.byteCells (esc (s.data.toList.take (k + 1)))) := by
  rw [esc_take s k h, ← hacc, List.length_append, ← hl]
  have e : Lib.byteCells (acc ++ escOne s[k]) = Lib.byteCells acc ++ news := by rw [hn]; simp [Lib.byteCells]
  rw [e]
  exact hown

theorem escOne_self {c : UInt8} (h : c = 44 ∨ c = 59 ∨ c = 92) : escOne c = [92, c] := by unfold escOne; rw [if_pos h]
theorem escOne_plain {c : UInt8} (h1 : ¬ c = 44) (h2 : ¬ c = 59) (h3 : ¬ c = 92) (h4 : ¬ c = 32) (h5 : ¬ c = 9) (h6 : ¬ c = 10) : escOne c = [c] := by
  unfold escOne
  rw [if_neg (by rintro (h | h | h) <;> contradiction), if_neg h4, if_neg h5, if_neg h6]

theorem one_cell (a : Int) (w : World) (t : TypeId) : ∀ j u, [Value.int .u8 a][j]? = some u → (w.alloc (.cells #[Value.int .u8 a] t)).cell? ((⟨w.heap.size, 0, none⟩ : Addr).add j) = some u := by
  intro j u hj
  match j, hj with
  | 0, hj => simp at hj; subst hj; simp [Addr.add]

theorem one_one (a : Int) : ∀ u ∈ [Value.int .u8 a], u.oneCell' = true := by
  intro u hu
  simp at hu
  subst hu
  rfl

set_option maxHeartbeats 1600000 in
theorem escape_any (s : ByteArray) (w : World) (hs : s.size ≤ 1048576) :
    Calls Try.prog 10 #[.string s] w fun e w' => e = .returned (.string ⟨(esc s.data.toList).toArray⟩) ∧ Below w.heap.size w w' := by
  obtain ⟨i0, hi, hz0, hz1, hz2⟩ := info_parts Try.info5
  go_enter Try.func10, Try.ntmps10
  go_wp2_with (at_make; refine wpList_make_own _ rfl _ _ 29 rfl w.heap.size 5 i0 (.int .u8 0) 1 Try.underlying29 hi hz0 hz1 _ _ _ (2 * s.size) rfl rfl (by omega) ?b2 ?b3 (Nat.le_refl _) ?_)
  case b2 => rw [hz2]; omega
  case b3 => unfold maxLen; omega
  intro w0 hown0 hgrow0
  have hb0 : Below w.heap.size w w0 := (Below.refl _ _).grown hgrow0 (Nat.le_refl _) (fun k h => by cases h)
  clear hgrow0
  go_wp2
  go_loopw [3, 4] (fun v i wr => ∃ k : Nat, k ≤ s.size ∧ i = .int .i64 k ∧ wr.ownsRow w.heap.size 5 1 v (esc (s.data.toList.take k)).length (Lib.byteCells (esc (s.data.toList.take k))) ∧ Hid (¬ v = .slice none 0 0) ∧ Below w.heap.size w wr) (fun _ i _ => s.size - (intOf i).toNat)
  case atStart => exact ⟨0, Nat.zero_le _, rfl, hown0, (fun h => by cases h), hb0⟩
  case round =>
    obtain ⟨k, hk, rfl, hown, hv, hb⟩ := hrel
    have hlen := esc_length (s.data.toList.take k)
    have hlt2 : (s.data.toList.take k).length ≤ k := List.length_take_le _ _
    obtain ⟨acc, hacc⟩ : ∃ acc, acc = esc (s.data.toList.take k) := ⟨_, rfl⟩
    rw [← hacc] at hown hlen
    have HA : Hid (acc = esc (s.data.toList.take k)) := hacc
    clear hacc hb0 hown0
    have hbs := hb.size
    by_cases hlt : k < s.size
    · by_cases e1 : (s[k].toNat : Int) = 44
      · go_wp2_with (at_builtin; refine wpList_append_own _ rfl _ _ 29 rfl w.heap.size 5 i0 (.int .u8 0) 1 1 Try.underlying29 hi hz0 hz1 hz2 rfl (by decide) _ _ _ rfl (hown.alloc _) ⟨wr.heap.size, 0, none⟩ 2 2 [.int .u8 92, .int .u8 44] rfl rfl (two_cells 92 44 wr 5) (two_one 92 44) (by unfold maxLen; omega) (by omega) (by simp; omega) ?_)
        intro v1 w1 hown1 hgrow1 hnn
        have hb1 : Below w.heap.size w w1 := (hb.alloc hbs _).grown hgrow1 (by simp; omega) (fun j hj => (hown.lt j hj).1)
        have R := esc_step hlt HA.out hown1 (by rw [escOne_self (by rw [u8_eq 44 e1]; decide)]; rfl) (by rw [escOne_self (by rw [u8_eq 44 e1]; decide), u8_eq 44 e1]; rfl)
        have HN : Hid (¬ v1 = .slice none 0 0) := hnn
        clear hown hown1 hgrow1 hb hnn hv
        go_wp2
        go_roundw
        case rel => exact ⟨k + 1, by omega, by go_num, R, HN, hb1⟩
        case measure => simp [intOf]; omega
      · by_cases e2 : (s[k].toNat : Int) = 59
        · go_wp2_with (at_builtin; refine wpList_append_own _ rfl _ _ 29 rfl w.heap.size 5 i0 (.int .u8 0) 1 1 Try.underlying29 hi hz0 hz1 hz2 rfl (by decide) _ _ _ rfl (hown.alloc _) ⟨wr.heap.size, 0, none⟩ 2 2 [.int .u8 92, .int .u8 59] rfl rfl (two_cells 92 59 wr 5) (two_one 92 59) (by unfold maxLen; omega) (by omega) (by simp; omega) ?_)
          intro v1 w1 hown1 hgrow1 hnn
          have hb1 : Below w.heap.size w w1 := (hb.alloc hbs _).grown hgrow1 (by simp; omega) (fun j hj => (hown.lt j hj).1)
          have R := esc_step hlt HA.out hown1 (by rw [escOne_self (by rw [u8_eq 59 e2]; decide)]; rfl) (by rw [escOne_self (by rw [u8_eq 59 e2]; decide), u8_eq 59 e2]; rfl)
          have HN : Hid (¬ v1 = .slice none 0 0) := hnn
          clear hown hown1 hgrow1 hb hnn hv
          go_wp2
          go_roundw
          case rel => exact ⟨k + 1, by omega, by go_num, R, HN, hb1⟩
          case measure => simp [intOf]; omega
        · by_cases e3 : (s[k].toNat : Int) = 92
          · go_wp2_with (at_builtin; refine wpList_append_own _ rfl _ _ 29 rfl w.heap.size 5 i0 (.int .u8 0) 1 1 Try.underlying29 hi hz0 hz1 hz2 rfl (by decide) _ _ _ rfl (hown.alloc _) ⟨wr.heap.size, 0, none⟩ 2 2 [.int .u8 92, .int .u8 92] rfl rfl (two_cells 92 92 wr 5) (two_one 92 92) (by unfold maxLen; omega) (by omega) (by simp; omega) ?_)
            intro v1 w1 hown1 hgrow1 hnn
            have hb1 : Below w.heap.size w w1 := (hb.alloc hbs _).grown hgrow1 (by simp; omega) (fun j hj => (hown.lt j hj).1)
            have R := esc_step hlt HA.out hown1 (by rw [escOne_self (by rw [u8_eq 92 e3]; decide)]; rfl) (by rw [escOne_self (by rw [u8_eq 92 e3]; decide), u8_eq 92 e3]; rfl)
            have HN : Hid (¬ v1 = .slice none 0 0) := hnn
            clear hown hown1 hgrow1 hb hnn hv
            go_wp2
            go_roundw
            case rel => exact ⟨k + 1, by omega, by go_num, R, HN, hb1⟩
            case measure => simp [intOf]; omega
          · by_cases e4 : (s[k].toNat : Int) = 32
            · go_wp2_with (at_builtin; refine wpList_append_own _ rfl _ _ 29 rfl w.heap.size 5 i0 (.int .u8 0) 1 1 Try.underlying29 hi hz0 hz1 hz2 rfl (by decide) _ _ _ rfl (hown.alloc _) ⟨wr.heap.size, 0, none⟩ 2 2 [.int .u8 92, .int .u8 115] rfl rfl (two_cells 92 115 wr 5) (two_one 92 115) (by unfold maxLen; omega) (by omega) (by simp; omega) ?_)
              intro v1 w1 hown1 hgrow1 hnn
              have hb1 : Below w.heap.size w w1 := (hb.alloc hbs _).grown hgrow1 (by simp; omega) (fun j hj => (hown.lt j hj).1)
              have R := esc_step hlt HA.out hown1 (by rw [u8_eq 32 e4]; rfl) (by rw [u8_eq 32 e4]; rfl)
              have HN : Hid (¬ v1 = .slice none 0 0) := hnn
              clear hown hown1 hgrow1 hb hnn hv
              go_wp2
              go_roundw
              case rel => exact ⟨k + 1, by omega, by go_num, R, HN, hb1⟩
              case measure => simp [intOf]; omega
            · by_cases e5 : (s[k].toNat : Int) = 9
              · go_wp2_with (at_builtin; refine wpList_append_own _ rfl _ _ 29 rfl w.heap.size 5 i0 (.int .u8 0) 1 1 Try.underlying29 hi hz0 hz1 hz2 rfl (by decide) _ _ _ rfl (hown.alloc _) ⟨wr.heap.size, 0, none⟩ 2 2 [.int .u8 92, .int .u8 116] rfl rfl (two_cells 92 116 wr 5) (two_one 92 116) (by unfold maxLen; omega) (by omega) (by simp; omega) ?_)
                intro v1 w1 hown1 hgrow1 hnn
                have hb1 : Below w.heap.size w w1 := (hb.alloc hbs _).grown hgrow1 (by simp; omega) (fun j hj => (hown.lt j hj).1)
                have R := esc_step hlt HA.out hown1 (by rw [u8_eq 9 e5]; rfl) (by rw [u8_eq 9 e5]; rfl)
                have HN : Hid (¬ v1 = .slice none 0 0) := hnn
                clear hown hown1 hgrow1 hb hnn hv
                go_wp2
                go_roundw
                case rel => exact ⟨k + 1, by omega, by go_num, R, HN, hb1⟩
                case measure => simp [intOf]; omega
              · by_cases e6 : (s[k].toNat : Int) = 10
                · go_wp2_with (at_builtin; refine wpList_append_own _ rfl _ _ 29 rfl w.heap.size 5 i0 (.int .u8 0) 1 1 Try.underlying29 hi hz0 hz1 hz2 rfl (by decide) _ _ _ rfl (hown.alloc _) ⟨wr.heap.size, 0, none⟩ 2 2 [.int .u8 92, .int .u8 110] rfl rfl (two_cells 92 110 wr 5) (two_one 92 110) (by unfold maxLen; omega) (by omega) (by simp; omega) ?_)
                  intro v1 w1 hown1 hgrow1 hnn
                  have hb1 : Below w.heap.size w w1 := (hb.alloc hbs _).grown hgrow1 (by simp; omega) (fun j hj => (hown.lt j hj).1)
                  have R := esc_step hlt HA.out hown1 (by rw [u8_eq 10 e6]; rfl) (by rw [u8_eq 10 e6]; rfl)
                  have HN : Hid (¬ v1 = .slice none 0 0) := hnn
                  clear hown hown1 hgrow1 hb hnn hv
                  go_wp2
                  go_roundw
                  case rel => exact ⟨k + 1, by omega, by go_num, R, HN, hb1⟩
                  case measure => simp [intOf]; omega
                · go_wp2_with (at_builtin; refine wpList_append_own _ rfl _ _ 29 rfl w.heap.size 5 i0 (.int .u8 0) 1 1 Try.underlying29 hi hz0 hz1 hz2 rfl (by decide) _ _ _ rfl (hown.alloc _) ⟨wr.heap.size, 0, none⟩ 1 1 [.int .u8 s[k].toNat] rfl rfl (one_cell _ wr 5) (one_one _) (by unfold maxLen; omega) (by omega) (by simp; omega) ?_)
                  intro v1 w1 hown1 hgrow1 hnn
                  have hb1 : Below w.heap.size w w1 := (hb.alloc hbs _).grown hgrow1 (by simp; omega) (fun j hj => (hown.lt j hj).1)
                  have R := esc_step hlt HA.out hown1 (by rw [escOne_plain (u8_ne 44 e1) (u8_ne 59 e2) (u8_ne 92 e3) (u8_ne 32 e4) (u8_ne 9 e5) (u8_ne 10 e6)]; rfl) (by rw [escOne_plain (u8_ne 44 e1) (u8_ne 59 e2) (u8_ne 92 e3) (u8_ne 32 e4) (u8_ne 9 e5) (u8_ne 10 e6)]; rfl)
                  have HN : Hid (¬ v1 = .slice none 0 0) := hnn
                  clear hown hown1 hgrow1 hb hnn hv
                  go_wp2
                  go_roundw
                  case rel => exact ⟨k + 1, by omega, by go_num, R, HN, hb1⟩
                  case measure => simp [intOf]; omega
    · have ek : s.data.toList.take k = s.data.toList := List.take_of_length_le (by simp; omega)
      have HE : Hid (s.data.toList.take k = s.data.toList) := ek
      clear ek
      rcases hown.2 with ⟨h0, -⟩ | ⟨g, cap, cur, rfl, -, -, -, -, -, -⟩
      · exact absurd h0 hv.out
      · have hcv := run_convert_bytes_back (P := Try.prog) wr 29 9 5 ⟨g, 0, none⟩ cap acc Try.underlying29 Try.underlying5 Try.underlying9 (fun j hj => hown.cells (g := g) rfl j _ (by simp [Lib.byteCells, hj]))
        clear hv hown
        go_wp2
        go_ret
        have hacc := HA.out
        rw [HE.out] at hacc
        subst hacc
        exact ⟨rfl, hb⟩

end Go.Proofs.Qxb6603059a
