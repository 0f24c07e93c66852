/-
  zzEnvB1HexValue and zzEnvB1Hex4Model; the walk of FnHex4MatchesPositionalModel.
-/
import Derived.Test.Qxb6603791aHex
namespace Go.Proofs.Qxb6603791a
open Go.RowKit

/-- The lower and the upper row of digits, by place. -/
def lowAt (k : Nat) : Int := if k < 10 then 48 + k else 87 + k
def upAt (k : Nat) : Int := if k < 10 then 48 + k else 55 + k

theorem lit_lowAt (k : Nat) (h : k < (ByteArray.mk #[48, 49, 50, 51, 52, 53, 54, 55, 56, 57, 97, 98, 99, 100, 101, 102]).size) : (((ByteArray.mk #[48, 49, 50, 51, 52, 53, 54, 55, 56, 57, 97, 98, 99, 100, 101, 102])[k]'h).toNat : Int) = lowAt k := by
  have h16 : k < 16 := h
  match k, h16 with
  | 0, _ => rfl
  | 1, _ => rfl
  | 2, _ => rfl
  | 3, _ => rfl
  | 4, _ => rfl
  | 5, _ => rfl
  | 6, _ => rfl
  | 7, _ => rfl
  | 8, _ => rfl
  | 9, _ => rfl
  | 10, _ => rfl
  | 11, _ => rfl
  | 12, _ => rfl
  | 13, _ => rfl
  | 14, _ => rfl
  | 15, _ => rfl
  | k + 16, hk => exact absurd hk (by omega)

theorem lit_upAt (k : Nat) (h : k < (ByteArray.mk #[48, 49, 50, 51, 52, 53, 54, 55, 56, 57, 65, 66, 67, 68, 69, 70]).size) : (((ByteArray.mk #[48, 49, 50, 51, 52, 53, 54, 55, 56, 57, 65, 66, 67, 68, 69, 70])[k]'h).toNat : Int) = upAt k := by
  have h16 : k < 16 := h
  match k, h16 with
  | 0, _ => rfl
  | 1, _ => rfl
  | 2, _ => rfl
  | 3, _ => rfl
  | 4, _ => rfl
  | 5, _ => rfl
  | 6, _ => rfl
  | 7, _ => rfl
  | 8, _ => rfl
  | 9, _ => rfl
  | 10, _ => rfl
  | 11, _ => rfl
  | 12, _ => rfl
  | 13, _ => rfl
  | 14, _ => rfl
  | 15, _ => rfl
  | k + 16, hk => exact absurd hk (by omega)

/-- Found at place k: its value is k. -/
theorem hexv_found {c : Int} {k : Nat} (hk : k < 16) (h : c = lowAt k ∨ c = upAt k) : hexv c = (k : Int) := by
  unfold lowAt upAt at h
  by_cases h10 : k < 10
  · rw [if_pos h10, if_pos h10] at h
    rw [hexv_dec (by omega) (by omega)]
    omega
  · rw [if_neg h10, if_neg h10] at h
    rcases h with h | h
    · rw [hexv_low (by omega) (by omega)]
      omega
    · rw [hexv_up (by omega) (by omega)]
      omega

/-- Found at no place: no digit. -/
theorem hexv_none {c : Int} (h : ∀ k, k < 16 → ¬ c = lowAt k ∧ ¬ c = upAt k) : hexv c = -1 := by
  refine hexv_no (fun hd => ?_) (fun hd => ?_) (fun hd => ?_)
  · have := (h (c - 48).toNat (by omega)).1
    unfold lowAt at this
    rw [if_pos (by omega)] at this
    omega
  · have := (h (c - 87).toNat (by omega)).1
    unfold lowAt at this
    rw [if_neg (by omega)] at this
    omega
  · have := (h (c - 55).toNat (by omega)).2
    unfold upAt at this
    rw [if_neg (by omega)] at this
    omega

set_option maxHeartbeats 800000 in
theorem hexValue_any (c : Int) (w : World) : Calls Try.prog 20 #[.int .u8 c] w fun e w' => e = .returned (.int .i64 (hexv c)) ∧ w = w' := by
  go_enter Try.func20, Try.ntmps20
  go_wp2
  go_loop [3] (fun i => ∃ k : Nat, k ≤ 16 ∧ i = .int .i64 k ∧ Hid (∀ t, t < k → ¬ c = lowAt t ∧ ¬ c = upAt t)) (fun i => 16 - (intOf i).toNat)
  case atStart => exact ⟨0, by omega, rfl, fun t ht => absurd ht (Nat.not_lt_zero t)⟩
  case round =>
    obtain ⟨k, hk, rfl, HF⟩ := hrel
    by_cases hlt : k < 16
    · have e1 := lit_lowAt k hlt
      have e2 := lit_upAt k hlt
      by_cases d1 : c = lowAt k
      · have D : Hid (c = lowAt k) := d1
        have d1' : (c == lowAt k) = true := by rw [d1]; simp
        clear d1
        go_wp2
        go_ret
        exact ⟨ret_int (hexv_found hlt (Or.inl D.out)).symm, rfl⟩
      · have d1' : (c == lowAt k) = false := beq_eq_false_iff_ne.2 d1
        by_cases d2 : c = upAt k
        · have D : Hid (c = upAt k) := d2
          have d2' : (c == upAt k) = true := by rw [d2]; simp
          clear d1 d2
          go_wp2
          go_ret
          exact ⟨ret_int (hexv_found hlt (Or.inr D.out)).symm, rfl⟩
        · have d2' : (c == upAt k) = false := beq_eq_false_iff_ne.2 d2
          have D : Hid (¬ c = lowAt k ∧ ¬ c = upAt k) := ⟨d1, d2⟩
          clear d1 d2
          go_wp2
          go_round
          case rel =>
            refine ⟨k + 1, by omega, by go_num, fun t ht => ?_⟩
            by_cases ht' : t < k
            · exact HF.out t ht'
            · have : t = k := by omega
              subst this
              exact D.out
          case measure => simp [intOf]; omega
    · have ek : 16 = k := by omega
      subst ek
      go_wp2
      go_ret
      exact ⟨ret_int (hexv_none HF.out).symm, rfl⟩

theorem model_neg (a : Option Addr) (len c : Nat) (i : Int) (w : World) (h : i < 0) :
    Calls Try.prog 16 #[.slice a len c, .int .i64 i] w fun e w' => e = .returned (.int .i64 (-1)) ∧ w = w' := by
  go_enter Try.func16, Try.ntmps16
  go_wp2
  go_ret
  exact ⟨rfl, rfl⟩

theorem model_far (a : Option Addr) (len c : Nat) (i : Int) (w : World) (h0 : ¬ i < 0) (h : (len : Int) - 4 < i) (hl : len ≤ 4194304) :
    Calls Try.prog 16 #[.slice a len c, .int .i64 i] w fun e w' => e = .returned (.int .i64 (-1)) ∧ w = w' := by
  go_enter Try.func16, Try.ntmps16
  go_wp2
  go_ret
  exact ⟨rfl, rfl⟩

set_option maxHeartbeats 1600000 in
theorem model_in (b o ca len n : Nat) (c0 c1 c2 c3 : Int) (w : World) (hl : len ≤ 4194304) (hn : n + 4 ≤ len)
    (h0 : w.cell? ⟨b, o + n, none⟩ = some (.int .u8 c0)) (h1 : w.cell? ⟨b, o + (n + 1), none⟩ = some (.int .u8 c1)) (h2 : w.cell? ⟨b, o + (n + 2), none⟩ = some (.int .u8 c2)) (h3 : w.cell? ⟨b, o + (n + 3), none⟩ = some (.int .u8 c3)) :
    Calls Try.prog 16 #[.slice (some ⟨b, o, none⟩) len ca, .int .i64 n] w fun e w' => e = .returned (.int .i64 (hexF [c0, c1, c2, c3] 0)) ∧ w = w' := by
  obtain ⟨r, hr⟩ : ∃ r, r = hexF [c0, c1, c2, c3] 0 := ⟨_, rfl⟩
  rw [← hr]
  have HR : Hid (hexF [c0, c1, c2, c3] 0 = r) := hr.symm
  clear hr
  have b0 := hexv_le c0
  have b1 := hexv_le c1
  have b2 := hexv_le c2
  have b3 := hexv_le c3
  have hge : ¬ (len : Int) - 4 < (n : Int) := by omega
  by_cases g0 : hexv c0 < 0
  · go_enter Try.func16, Try.ntmps16
    go_wp2_with (go_at_call 20; refine (hexValue_any _ _).mono ?_; rintro e w' ⟨rfl, rfl⟩)
    go_ret
    exact ⟨ret_int (by rw [← HR.out, hexF_four_no (Or.inl g0)]), rfl⟩
  · by_cases g1 : hexv c1 < 0
    · go_enter Try.func16, Try.ntmps16
      go_wp2_with (go_at_call 20; refine (hexValue_any _ _).mono ?_; rintro e w' ⟨rfl, rfl⟩)
      go_ret
      exact ⟨ret_int (by rw [← HR.out, hexF_four_no (Or.inr (Or.inl g1))]), rfl⟩
    · by_cases g2 : hexv c2 < 0
      · go_enter Try.func16, Try.ntmps16
        go_wp2_with (go_at_call 20; refine (hexValue_any _ _).mono ?_; rintro e w' ⟨rfl, rfl⟩)
        go_ret
        exact ⟨ret_int (by rw [← HR.out, hexF_four_no (Or.inr (Or.inr (Or.inl g2)))]), rfl⟩
      · by_cases g3 : hexv c3 < 0
        · go_enter Try.func16, Try.ntmps16
          go_wp2_with (go_at_call 20; refine (hexValue_any _ _).mono ?_; rintro e w' ⟨rfl, rfl⟩)
          go_ret
          exact ⟨ret_int (by rw [← HR.out, hexF_four_no (Or.inr (Or.inr (Or.inr g3)))]), rfl⟩
        · go_enter Try.func16, Try.ntmps16
          go_wp2_with (go_at_call 20; refine (hexValue_any _ _).mono ?_; rintro e w' ⟨rfl, rfl⟩)
          go_ret
          exact ⟨ret_int (by rw [← HR.out, hexF_four (by omega) (by omega) (by omega) (by omega)]), rfl⟩

theorem model_any (v : Value) (xs : List Int) (i : Int) (w : World) (hv : Sees w v xs) (hlen : xs.length ≤ 4194304) :
    Calls Try.prog 16 #[v, .int .i64 i] w fun e w' => e = .returned (.int .i64 (hex4P xs i)) ∧ w = w' := by
  by_cases h0 : i < 0
  · obtain ⟨a, c, rfl⟩ := hv.asSlice
    have e : hex4P xs i = -1 := by unfold hex4P; rw [if_pos (Or.inl h0)]
    rw [e]
    exact model_neg a _ c i w h0
  · by_cases h1 : (xs.length : Int) < i + 4
    · obtain ⟨a, c, rfl⟩ := hv.asSlice
      have e : hex4P xs i = -1 := by unfold hex4P; rw [if_pos (Or.inr h1)]
      rw [e]
      exact model_far a _ c i w h0 (by omega) hlen
    · obtain ⟨n, rfl⟩ : ∃ n : Nat, i = n := ⟨i.toNat, by omega⟩
      have e : hex4P xs n = hexF (at4 xs n) 0 := by unfold hex4P; rw [if_neg (by omega)]; rfl
      rw [e, at4_four (by omega)]
      rcases hv with ⟨rfl, -⟩ | ⟨-, b, o, c, rfl, -, hc, hm, hcell⟩
      · simp at h1
        omega
      · exact model_in b o c xs.length n _ _ _ _ w hlen (by omega) (hcell n (by omega)) (hcell (n + 1) (by omega)) (hcell (n + 2) (by omega)) (hcell (n + 3) (by omega))

end Go.Proofs.Qxb6603791a
