/-
  The plain functions of escapeAll and unescape on lists of bytes, and their laws. No Go in sight.
-/
namespace Go.Proofs.Qxb6603059a

/-- What the pair of a backslash and d stands for. -/
def escd (d : UInt8) : List UInt8 :=
  if d = 44 ∨ d = 59 ∨ d = 92 then [d] else if d = 115 then [32] else if d = 116 then [9] else if d = 110 then [10] else [92, d]

/-- unescape. -/
def unesc : List UInt8 → List UInt8
  | [] => []
  | [c] => [c]
  | c :: d :: r => if c = 92 then escd d ++ unesc r else c :: unesc (d :: r)

/-- What escapeAll writes for one byte. -/
def escOne (c : UInt8) : List UInt8 :=
  if c = 44 ∨ c = 59 ∨ c = 92 then [92, c] else if c = 32 then [92, 115] else if c = 9 then [92, 116] else if c = 10 then [92, 110] else [c]

/-- escapeAll. -/
def esc : List UInt8 → List UInt8
  | [] => []
  | c :: r => escOne c ++ esc r

theorem unesc_plain (c : UInt8) (r : List UInt8) (h : c ≠ 92) : unesc (c :: r) = c :: unesc r := by
  cases r with
  | nil => simp [unesc]
  | cons d r => simp [unesc, h]

theorem unesc_pair (d : UInt8) (r : List UInt8) : unesc (92 :: d :: r) = escd d ++ unesc r := by simp [unesc]

theorem unesc_last (c : UInt8) : unesc [c] = [c] := rfl

theorem unesc_escOne (c : UInt8) (r : List UInt8) : unesc (escOne c ++ r) = c :: unesc r := by
  unfold escOne
  split
  · rename_i h
    show unesc (92 :: c :: r) = _
    rw [unesc_pair]
    simp [escd, h]
  · rename_i h
    split
    · rename_i h2
      subst h2
      show unesc (92 :: 115 :: r) = _
      rw [unesc_pair]
      rfl
    · split
      · rename_i h3
        subst h3
        show unesc (92 :: 116 :: r) = _
        rw [unesc_pair]
        rfl
      · split
        · rename_i h4
          subst h4
          show unesc (92 :: 110 :: r) = _
          rw [unesc_pair]
          rfl
        · show unesc (c :: r) = _
          exact unesc_plain c r (fun e => h (Or.inr (Or.inr e)))

theorem unesc_esc (l : List UInt8) : unesc (esc l) = l := by
  induction l with
  | nil => rfl
  | cons c r ih => rw [esc, unesc_escOne, ih]

theorem escd_length (d : UInt8) : 1 ≤ (escd d).length ∧ (escd d).length ≤ 2 := by
  unfold escd
  split <;> (try split) <;> (try split) <;> (try split) <;> simp

theorem escOne_length (c : UInt8) : 1 ≤ (escOne c).length ∧ (escOne c).length ≤ 2 := by
  unfold escOne
  split <;> (try split) <;> (try split) <;> (try split) <;> simp

theorem esc_length (l : List UInt8) : (esc l).length ≤ 2 * l.length := by
  induction l with
  | nil => simp [esc]
  | cons c r ih =>
    have := escOne_length c
    simp only [esc, List.length_append, List.length_cons]
    omega

theorem esc_append (l m : List UInt8) : esc (l ++ m) = esc l ++ esc m := by
  induction l with
  | nil => rfl
  | cons c r ih => simp [esc, ih]

theorem unesc_length_aux (n : Nat) : ∀ l : List UInt8, l.length ≤ n → (unesc l).length ≤ l.length ∧ l.length ≤ 2 * (unesc l).length := by
  induction n with
  | zero =>
    intro l h
    have : l = [] := List.eq_nil_of_length_eq_zero (by omega)
    subst this
    simp [unesc]
  | succ n ih =>
    intro l h
    match l, h with
    | [], _ => simp [unesc]
    | [c], _ => simp [unesc]
    | c :: d :: r, h =>
      by_cases hc : c = 92
      · subst hc
        have h1 := ih r (by simp at h; omega)
        have h2 := escd_length d
        rw [unesc_pair]
        simp only [List.length_append, List.length_cons]
        omega
      · have h1 := ih (d :: r) (by simp at h ⊢; omega)
        rw [unesc_plain c _ hc]
        simp only [List.length_cons] at h1 ⊢
        omega

theorem unesc_length (l : List UInt8) : (unesc l).length ≤ l.length ∧ l.length ≤ 2 * (unesc l).length := unesc_length_aux l.length l (Nat.le_refl _)

theorem unesc_without (l : List UInt8) (h : ∀ c ∈ l, c ≠ 92) : unesc l = l := by
  induction l with
  | nil => rfl
  | cons c r ih =>
    rw [unesc_plain c r (h c (by simp)), ih (fun d hd => h d (by simp [hd]))]

end Go.Proofs.Qxb6603059a
