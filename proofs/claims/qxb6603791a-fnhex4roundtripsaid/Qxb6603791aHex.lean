/-
  hex4 computes 'hex4P'; the model's parts.
-/
import Derived.Test.Qxb6603791aBase
import Derived.Test.Qxb6603791aHexPlain
import Derived.Laws.BitsLemmas
namespace Go.Proofs.Qxb6603791a
open Go.RowKit

theorem under16 {j : Nat} {u : Int} (hj : j < 4) (hu : u < 16 ^ j) : u ≤ 4095 := by
  have : j = 0 ∨ j = 1 ∨ j = 2 ∨ j = 3 := by omega
  rcases this with rfl | rfl | rfl | rfl <;> simp at hu <;> omega

theorem grow16 {j : Nat} {u d : Int} (hu : u < 16 ^ j) (hd : d ≤ 15) : u * 16 + d < 16 ^ (j + 1) := by
  have h : (16 : Int) ^ (j + 1) = 16 ^ j * 16 := Int.pow_succ 16 j
  rw [h]
  omega

theorem wraps_i64 (n : Int) (h₀ : 0 ≤ n) (h₁ : n < 2 ^ 62) : IntKind.i64.wrap n = n := by rw [IntKind.wrap_i64]; omega

theorem or16 {u d : Int} (h0 : 0 ≤ u) (h1 : u ≤ 4095) (d0 : 0 ≤ d) (d1 : d ≤ 15) : bits .or .i64 (u * 16) d = u * 16 + d :=
  bits_join .i64 62 (by decide) wraps_i64 4 (u * 16) d (by omega) (by omega) (by omega) d0 (by omega) (by omega)

theorem int_eq {k : IntKind} {a b : Int} (h : a = b) : Value.int k a = Value.int k b := by rw [h]

set_option maxHeartbeats 1600000 in
theorem hex4_in (b o ca len n : Nat) (S : List Int) (w : World) (_hlen : len ≤ 4194304) (hn : n + 4 ≤ len) (hca : len ≤ ca) (hcm : ca ≤ maxLen) (HS : Hid (S.length = 4)) (HB : Hid (∀ j, j < 4 → 0 ≤ S.getD j 0 ∧ S.getD j 0 ≤ 255))
    (HC : Hid (∀ j, j < 4 → w.cell? ⟨b, o + n + j, none⟩ = some (.int .u8 (S.getD j 0)))) :
    Calls Try.prog 19 #[.slice (some ⟨b, o, none⟩) len ca, .int .i64 n] w fun e w' => e = .returned (.int .i64 (hexF S 0)) ∧ w = w' := by
  unfold maxLen at hcm
  obtain ⟨r, hr⟩ : ∃ r, r = hexF S 0 := ⟨_, rfl⟩
  rw [← hr]
  have HR : Hid (hexF S 0 = r) := hr.symm
  clear hr
  have hne : ¬ ca = n := by omega
  go_enter Try.func19, Try.ntmps19
  go_wp2
  go_loop [5, 23] (fun v i => ∃ (j : Nat) (u : Int), j ≤ 4 ∧ i = .int .i64 j ∧ v = .int .i64 u ∧ 0 ≤ u ∧ Hid (u < 16 ^ j) ∧ Hid (hexF (S.drop j) u = r)) (fun _ i => 4 - (intOf i).toNat)
  case atStart => exact ⟨0, 0, by omega, rfl, rfl, by omega, (by show (0 : Int) < 16 ^ 0; decide), HR⟩
  case round =>
    obtain ⟨j, u, hj, rfl, rfl, hu0, HU, HM⟩ := hrel
    by_cases hlt : j < 4
    · have hu : u ≤ 4095 := under16 hlt HU.out
      obtain ⟨c, hc⟩ : ∃ c, c = S.getD j 0 := ⟨_, rfl⟩
      have cc : w.cell? ⟨b, o + n + j, none⟩ = some (.int .u8 c) := by rw [hc]; exact HC.out j hlt
      have hc0 : 0 ≤ c := by rw [hc]; exact (HB.out j hlt).1
      have hc1 : c ≤ 255 := by rw [hc]; exact (HB.out j hlt).2
      have HM' : Hid (hexF (c :: S.drop (j + 1)) u = r) := by
        have h := HM.out
        rw [drop_cons S j (by have := HS.out; omega), ← hc] at h
        exact h
      clear hc HM
      by_cases d1 : 48 ≤ c
      · by_cases d2 : c ≤ 57
        · go_wp2
          go_round
          case rel => exact ⟨j + 1, u * 16 + hexv c, by omega, by go_num, by rw [hexv_dec d1 d2]; exact int_eq ((or16 hu0 hu (by omega) (by omega)).trans (by omega)), by rw [hexv_dec d1 d2]; omega, grow16 HU.out (hexv_le c).2, hexF_step (by rw [hexv_dec d1 d2]; omega) HM'.out⟩
          case measure => simp [intOf]; omega
        · by_cases d3 : 65 ≤ c
          · by_cases d4 : c ≤ 70
            · have d5 : ¬ 97 ≤ c := by omega
              go_wp2
              go_round
              case rel => exact ⟨j + 1, u * 16 + hexv c, by omega, by go_num, by rw [hexv_up d3 d4]; exact int_eq ((or16 hu0 hu (by omega) (by omega)).trans (by omega)), by rw [hexv_up d3 d4]; omega, grow16 HU.out (hexv_le c).2, hexF_step (by rw [hexv_up d3 d4]; omega) HM'.out⟩
              case measure => simp [intOf]; omega
            · by_cases d5 : 97 ≤ c
              · by_cases d6 : c ≤ 102
                · go_wp2
                  go_round
                  case rel => exact ⟨j + 1, u * 16 + hexv c, by omega, by go_num, by rw [hexv_low d5 d6]; exact int_eq ((or16 hu0 hu (by omega) (by omega)).trans (by omega)), by rw [hexv_low d5 d6]; omega, grow16 HU.out (hexv_le c).2, hexF_step (by rw [hexv_low d5 d6]; omega) HM'.out⟩
                  case measure => simp [intOf]; omega
                · go_wp2
                  go_ret
                  exact ⟨ret_int (hexF_stop (hexv_no (by omega) (by omega) (by omega)) HM'.out).symm, rfl⟩
              · go_wp2
                go_ret
                exact ⟨ret_int (hexF_stop (hexv_no (by omega) (by omega) (by omega)) HM'.out).symm, rfl⟩
          · have d5 : ¬ 97 ≤ c := by omega
            go_wp2
            go_ret
            exact ⟨ret_int (hexF_stop (hexv_no (by omega) (by omega) (by omega)) HM'.out).symm, rfl⟩
      · have d3 : ¬ 65 ≤ c := by omega
        have d5 : ¬ 97 ≤ c := by omega
        go_wp2
        go_ret
        exact ⟨ret_int (hexF_stop (hexv_no (by omega) (by omega) (by omega)) HM'.out).symm, rfl⟩
    · have ej : 4 = j := by omega
      subst ej
      go_wp2
      go_ret
      refine ⟨ret_int ?_, rfl⟩
      have h := HM.out
      rw [List.drop_eq_nil_of_le (by rw [HS.out]; exact Nat.le_refl _)] at h
      exact h

theorem Sees.asSlice {w : World} {v : Value} {xs : List Int} (h : Sees w v xs) : ∃ a c, v = .slice a xs.length c := by
  rcases h with ⟨rfl, a, c, rfl⟩ | ⟨-, b, o, c, rfl, -⟩
  · exact ⟨a, c, rfl⟩
  · exact ⟨_, c, rfl⟩

theorem hex4_neg (a : Option Addr) (len c : Nat) (i : Int) (w : World) (h : i < 0) :
    Calls Try.prog 19 #[.slice a len c, .int .i64 i] w fun e w' => e = .returned (.int .i64 (-1)) ∧ w = w' := by
  go_enter Try.func19, Try.ntmps19
  go_wp2
  go_ret
  exact ⟨rfl, rfl⟩

theorem hex4_far (a : Option Addr) (len c : Nat) (i : Int) (w : World) (h0 : ¬ i < 0) (h : (len : Int) < i + 4) (hi : i ≤ 9223372036854775803) :
    Calls Try.prog 19 #[.slice a len c, .int .i64 i] w fun e w' => e = .returned (.int .i64 (-1)) ∧ w = w' := by
  go_enter Try.func19, Try.ntmps19
  go_wp2
  go_ret
  exact ⟨rfl, rfl⟩

theorem hex4_any (v : Value) (xs : List Int) (i : Int) (w : World) (hv : Sees w v xs) (hB : ∀ x ∈ xs, 0 ≤ x ∧ x ≤ 255) (hlen : xs.length ≤ 4194304) (hi : i ≤ 9223372036854775803) :
    Calls Try.prog 19 #[v, .int .i64 i] w fun e w' => e = .returned (.int .i64 (hex4P xs i)) ∧ w = w' := by
  by_cases h0 : i < 0
  · obtain ⟨a, c, rfl⟩ := hv.asSlice
    have e : hex4P xs i = -1 := by unfold hex4P; rw [if_pos (Or.inl h0)]
    rw [e]
    exact hex4_neg a _ c i w h0
  · by_cases h1 : (xs.length : Int) < i + 4
    · obtain ⟨a, c, rfl⟩ := hv.asSlice
      have e : hex4P xs i = -1 := by unfold hex4P; rw [if_pos (Or.inr h1)]
      rw [e]
      exact hex4_far a _ c i w h0 h1 hi
    · obtain ⟨n, rfl⟩ : ∃ n : Nat, i = n := ⟨i.toNat, by omega⟩
      have e : hex4P xs n = hexF (at4 xs n) 0 := by unfold hex4P; rw [if_neg (by omega)]; rfl
      rw [e]
      rcases hv with ⟨rfl, -⟩ | ⟨-, b, o, c, rfl, -, hc, hm, hcell⟩
      · simp at h1
        omega
      · refine hex4_in b o c xs.length n (at4 xs n) w hlen (by omega) hc hm (at4_length (by omega)) (fun j hj => ?_) (fun j hj => ?_)
        · rw [at4_get hj]
          have hlt : n + j < xs.length := by omega
          have := hB xs[n + j] (List.getElem_mem hlt)
          simpa [List.getD, hlt] using this
        · rw [at4_get hj, Nat.add_assoc]
          exact hcell (n + j) (by omega)

theorem zzhex4_any (v : Value) (xs : List Int) (i : Int) (w : World) (hv : Sees w v xs) (hB : ∀ x ∈ xs, 0 ≤ x ∧ x ≤ 255) (hlen : xs.length ≤ 4194304) (hi : i ≤ 9223372036854775803) :
    Calls Try.prog 15 #[v, .int .i64 i] w fun e w' => e = .returned (.int .i64 (hex4P xs i)) ∧ w = w' := by
  have H : Hid (Calls Try.prog 19 #[v, .int .i64 i] w fun e w' => e = .returned (.int .i64 (hex4P xs i)) ∧ w = w') := hex4_any v xs i w hv hB hlen hi
  clear hv hB hlen hi
  go_enter Try.func15, Try.ntmps15
  go_wp2_with (go_at_call 19; refine H.out.mono ?_; rintro e w' ⟨rfl, rfl⟩)
  go_ret
  exact ⟨rfl, rfl⟩

end Go.Proofs.Qxb6603791a
