/-
  The plain side of hex4: the value of one digit; four of them. No Go in sight.
-/
namespace Go.Proofs.Qxb6603791a

/-- The value of c as one hexadecimal digit of either case, or -1. -/
def hexv (c : Int) : Int :=
  if 48 ≤ c ∧ c ≤ 57 then c - 48 else if 97 ≤ c ∧ c ≤ 102 then c - 87 else if 65 ≤ c ∧ c ≤ 70 then c - 55 else -1

/-- hex4's loop: from v on, over what is left. -/
def hexF : List Int → Int → Int
  | [], v => v
  | c :: r, v => if hexv c < 0 then -1 else hexF r (v * 16 + hexv c)

theorem hexv_dec {c : Int} (h1 : 48 ≤ c) (h2 : c ≤ 57) : hexv c = c - 48 := by unfold hexv; rw [if_pos ⟨h1, h2⟩]
theorem hexv_low {c : Int} (h1 : 97 ≤ c) (h2 : c ≤ 102) : hexv c = c - 87 := by unfold hexv; rw [if_neg (by omega), if_pos ⟨h1, h2⟩]
theorem hexv_up {c : Int} (h1 : 65 ≤ c) (h2 : c ≤ 70) : hexv c = c - 55 := by unfold hexv; rw [if_neg (by omega), if_neg (by omega), if_pos ⟨h1, h2⟩]
theorem hexv_no {c : Int} (h1 : ¬ (48 ≤ c ∧ c ≤ 57)) (h2 : ¬ (97 ≤ c ∧ c ≤ 102)) (h3 : ¬ (65 ≤ c ∧ c ≤ 70)) : hexv c = -1 := by unfold hexv; rw [if_neg h1, if_neg h2, if_neg h3]

theorem hexv_le (c : Int) : -1 ≤ hexv c ∧ hexv c ≤ 15 := by
  unfold hexv
  split
  · omega
  · split
    · omega
    · split <;> omega

theorem hexF_step {c v r : Int} {l : List Int} (h : 0 ≤ hexv c) (hr : hexF (c :: l) v = r) : hexF l (v * 16 + hexv c) = r := by
  rw [hexF, if_neg (by omega)] at hr
  exact hr

theorem hexF_stop {c v r : Int} {l : List Int} (h : hexv c = -1) (hr : hexF (c :: l) v = r) : r = -1 := by
  rw [hexF, if_pos (by omega)] at hr
  exact hr.symm

/-- The four digits at place n. -/
def at4 (xs : List Int) (n : Nat) : List Int := (xs.drop n).take 4

/-- hex4's whole answer. -/
def hex4P (xs : List Int) (i : Int) : Int := if i < 0 ∨ (xs.length : Int) < i + 4 then -1 else hexF (at4 xs i.toNat) 0

theorem at4_length {xs : List Int} {n : Nat} (h : n + 4 ≤ xs.length) : (at4 xs n).length = 4 := by
  unfold at4; simp; omega

theorem at4_get {xs : List Int} {n j : Nat} (hj : j < 4) : (at4 xs n).getD j 0 = xs.getD (n + j) 0 := by
  unfold at4
  simp [List.getD, hj]

theorem at4_four {xs : List Int} {n : Nat} (h : n + 4 ≤ xs.length) : at4 xs n = [xs.getD n 0, xs.getD (n + 1) 0, xs.getD (n + 2) 0, xs.getD (n + 3) 0] := by
  have hl := at4_length h
  have g0 := at4_get (xs := xs) (n := n) (j := 0) (by omega)
  have g1 := at4_get (xs := xs) (n := n) (j := 1) (by omega)
  have g2 := at4_get (xs := xs) (n := n) (j := 2) (by omega)
  have g3 := at4_get (xs := xs) (n := n) (j := 3) (by omega)
  match hq : at4 xs n, hl with
  | [a, b, c, d], _ =>
    rw [hq] at g0 g1 g2 g3
    simp only [Nat.add_zero] at g0
    rw [← g0, ← g1, ← g2, ← g3]
    rfl

theorem hexF_four {a b c d : Int} (ha : 0 ≤ hexv a) (hb : 0 ≤ hexv b) (hc : 0 ≤ hexv c) (hd : 0 ≤ hexv d) : hexF [a, b, c, d] 0 = hexv a * 4096 + hexv b * 256 + hexv c * 16 + hexv d := by
  simp only [hexF, if_neg (show ¬ hexv a < 0 by omega), if_neg (show ¬ hexv b < 0 by omega), if_neg (show ¬ hexv c < 0 by omega), if_neg (show ¬ hexv d < 0 by omega)]
  omega

theorem hexF_four_no {a b c d : Int} (h : hexv a < 0 ∨ hexv b < 0 ∨ hexv c < 0 ∨ hexv d < 0) : hexF [a, b, c, d] 0 = -1 := by
  simp only [hexF]
  by_cases h1 : hexv a < 0
  · rw [if_pos h1]
  · rw [if_neg h1]
    by_cases h2 : hexv b < 0
    · rw [if_pos h2]
    · rw [if_neg h2]
      by_cases h3 : hexv c < 0
      · rw [if_pos h3]
      · rw [if_neg h3]
        by_cases h4 : hexv d < 0
        · rw [if_pos h4]
        · omega

theorem drop_cons (S : List Int) (j : Nat) (h : j < S.length) : S.drop j = S.getD j 0 :: S.drop (j + 1) := by
  rw [List.drop_eq_getElem_cons h]
  simp [List.getD, h]

end Go.Proofs.Qxb6603791a
