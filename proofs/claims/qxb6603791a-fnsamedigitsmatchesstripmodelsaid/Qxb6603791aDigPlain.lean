/-
  The plain side of sameDigits: the points struck out; a list that ends in a point. No Go in sight.
-/
namespace Go.Proofs.Qxb6603791a

/-- The points struck out. -/
def strip (l : List Int) : List Int := l.filter fun x => !(x == 46)

/-- The last one is a point. -/
def endsP : List Int → Bool
  | [] => false
  | [x] => x == 46
  | _ :: y :: r => endsP (y :: r)

/-- The model: the same bytes but for points, and neither ends in a point. -/
def sameM (A B : List Int) : Bool := decide (strip A = strip B) && !endsP A && !endsP B

theorem strip_point (l : List Int) : strip (46 :: l) = strip l := by simp [strip]
theorem strip_other {x : Int} (h : ¬ x = 46) (l : List Int) : strip (x :: l) = x :: strip l := by simp [strip, h]
theorem strip_append (l m : List Int) : strip (l ++ m) = strip l ++ strip m := by simp [strip]

theorem endsP_other {x : Int} (h : ¬ x = 46) (l : List Int) : endsP (x :: l) = endsP l := by
  cases l with
  | nil => simp [endsP, h]
  | cons y r => rfl

theorem endsP_more {x : Int} {l : List Int} (h : l ≠ []) : endsP (x :: l) = endsP l := by
  cases l with
  | nil => exact absurd rfl h
  | cons y r => rfl

/-- Nothing but points, and at least one: it ends in a point. -/
theorem endsP_of_strip_nil : ∀ (l : List Int), l ≠ [] → strip l = [] → endsP l = true
  | [], h, _ => absurd rfl h
  | [x], _, h => by
    by_cases e : x = 46
    · simp [endsP, e]
    · rw [strip_other e] at h
      cases h
  | x :: y :: r, _, h => by
    by_cases e : x = 46
    · subst e
      rw [strip_point] at h
      exact endsP_of_strip_nil (y :: r) (by simp) h
    · rw [strip_other e] at h
      cases h

theorem sameM_nil_left {B : List Int} (h : B ≠ []) : sameM [] B = false := by
  unfold sameM
  by_cases e : strip B = []
  · rw [endsP_of_strip_nil B h e]
    simp
  · have : ¬ strip [] = strip B := fun h' => e h'.symm
    simp [this]

theorem sameM_nil_right {A : List Int} (h : A ≠ []) : sameM A [] = false := by
  unfold sameM
  by_cases e : strip A = []
  · rw [endsP_of_strip_nil A h e]
    simp
  · have : ¬ strip A = strip [] := e
    simp [this]

theorem sameM_nil_nil : sameM [] [] = true := rfl

theorem sameM_point_left (A : List Int) {B : List Int} (h : B ≠ []) : sameM (46 :: A) B = sameM A B := by
  by_cases e : A = []
  · subst e
    rw [sameM_nil_left h]
    simp [sameM, endsP]
  · unfold sameM
    rw [strip_point, endsP_more e]

theorem sameM_point_right {A : List Int} (B : List Int) (h : A ≠ []) : sameM A (46 :: B) = sameM A B := by
  by_cases e : B = []
  · subst e
    rw [sameM_nil_right h]
    simp [sameM, endsP]
  · unfold sameM
    rw [strip_point, endsP_more e]

theorem sameM_differ {x y : Int} (hx : ¬ x = 46) (hy : ¬ y = 46) (h : ¬ x = y) (A B : List Int) : sameM (x :: A) (y :: B) = false := by
  unfold sameM
  rw [strip_other hx, strip_other hy]
  simp [h]

theorem sameM_same {x : Int} (hx : ¬ x = 46) (A B : List Int) : sameM (x :: A) (x :: B) = sameM A B := by
  unfold sameM
  rw [strip_other hx, strip_other hx, endsP_other hx, endsP_other hx]
  simp

/-! ### One round of the loop, on what is left of the two lists -/

theorem drop_at (A : List Int) (i : Nat) (h : i < A.length) : A.drop i = A.getD i 0 :: A.drop (i + 1) := by
  rw [List.drop_eq_getElem_cons h]
  simp [List.getD, h]

theorem drop_ne (A : List Int) (i : Nat) (h : i < A.length) : A.drop i ≠ [] := by
  rw [drop_at A i h]; simp

theorem round_left {A B : List Int} {i j : Nat} (hi : i < A.length) (hj : j < B.length) (h : A.getD i 0 = 46) {r : Bool} (hr : sameM (A.drop i) (B.drop j) = r) : sameM (A.drop (i + 1)) (B.drop j) = r := by
  rw [drop_at A i hi, h, sameM_point_left _ (drop_ne B j hj)] at hr
  exact hr

theorem round_right {A B : List Int} {i j : Nat} (hi : i < A.length) (hj : j < B.length) (h : B.getD j 0 = 46) {r : Bool} (hr : sameM (A.drop i) (B.drop j) = r) : sameM (A.drop i) (B.drop (j + 1)) = r := by
  rw [drop_at B j hj, h, sameM_point_right _ (drop_ne A i hi)] at hr
  exact hr

theorem round_both {A B : List Int} {i j : Nat} (hi : i < A.length) (hj : j < B.length) (h1 : ¬ A.getD i 0 = 46) (h : A.getD i 0 = B.getD j 0) {r : Bool} (hr : sameM (A.drop i) (B.drop j) = r) : sameM (A.drop (i + 1)) (B.drop (j + 1)) = r := by
  rw [drop_at A i hi, drop_at B j hj, ← h, sameM_same h1] at hr
  exact hr

theorem round_stop {A B : List Int} {i j : Nat} (hi : i < A.length) (hj : j < B.length) (h1 : ¬ A.getD i 0 = 46) (h2 : ¬ B.getD j 0 = 46) (h : ¬ A.getD i 0 = B.getD j 0) {r : Bool} (hr : sameM (A.drop i) (B.drop j) = r) : r = false := by
  rw [drop_at A i hi, drop_at B j hj, sameM_differ h1 h2 h] at hr
  exact hr.symm

theorem round_out_yes {A B : List Int} {i j : Nat} (hi : i = A.length) (hj : j = B.length) {r : Bool} (hr : sameM (A.drop i) (B.drop j) = r) : r = true := by
  subst hi hj
  simp only [List.drop_length] at hr
  rw [← hr]; rfl

theorem round_out_left {A B : List Int} {i j : Nat} (hi : i = A.length) (hj : j < B.length) {r : Bool} (hr : sameM (A.drop i) (B.drop j) = r) : r = false := by
  subst hi
  rw [List.drop_length, sameM_nil_left (drop_ne B j hj)] at hr
  exact hr.symm

theorem round_out_right {A B : List Int} {i j : Nat} (hi : i < A.length) (hj : j = B.length) {r : Bool} (hr : sameM (A.drop i) (B.drop j) = r) : r = false := by
  subst hj
  rw [List.drop_length, sameM_nil_right (drop_ne A i hi)] at hr
  exact hr.symm

/-! ### A point between two digits -/

theorem strip_free {A : List Int} (h : ∀ x ∈ A, ¬ x = 46) : strip A = A := by
  unfold strip
  rw [List.filter_eq_self]
  intro x hx
  simp [h x hx]

theorem endsP_free : ∀ {A : List Int}, (∀ x ∈ A, ¬ x = 46) → endsP A = false
  | [], _ => rfl
  | x :: r, h => by
    rw [endsP_other (h x (by simp))]
    exact endsP_free (fun y hy => h y (by simp [hy]))

theorem endsP_append {l m : List Int} (h : m ≠ []) : endsP (l ++ m) = endsP m := by
  induction l with
  | nil => rfl
  | cons x r ih =>
    rw [List.cons_append, endsP_more (by simp [h]), ih]

/-- A with a point set at k. -/
def pointed (A : List Int) (k : Nat) : List Int := A.take k ++ 46 :: A.drop k

theorem strip_pointed {A : List Int} (h : ∀ x ∈ A, ¬ x = 46) (k : Nat) : strip (pointed A k) = A := by
  unfold pointed
  rw [strip_append, strip_point, strip_free (fun x hx => h x (List.mem_of_mem_take hx)), strip_free (fun x hx => h x (List.mem_of_mem_drop hx)), List.take_append_drop]

theorem endsP_pointed {A : List Int} (h : ∀ x ∈ A, ¬ x = 46) {k : Nat} (hk : k < A.length) : endsP (pointed A k) = false := by
  unfold pointed
  rw [endsP_append (by simp), endsP_more (drop_ne A k hk)]
  exact endsP_free (fun x hx => h x (List.mem_of_mem_drop hx))

theorem same_pointed {A : List Int} (h : ∀ x ∈ A, ¬ x = 46) {k : Nat} (hk : k < A.length) : sameM A (pointed A k) = true := by
  unfold sameM
  rw [strip_pointed h, strip_free h, endsP_free h, endsP_pointed h hk]
  simp

theorem pointed_same {A : List Int} (h : ∀ x ∈ A, ¬ x = 46) {k : Nat} (hk : k < A.length) : sameM (pointed A k) A = true := by
  unfold sameM
  rw [strip_pointed h, strip_free h, endsP_free h, endsP_pointed h hk]
  simp

theorem pointed_pointed {A : List Int} (h : ∀ x ∈ A, ¬ x = 46) {k : Nat} (hk : k < A.length) : sameM (pointed A k) (pointed A k) = true := by
  unfold sameM
  rw [endsP_pointed h hk]
  simp

theorem same_ended (A B : List Int) : sameM A (B ++ [46]) = false := by
  unfold sameM
  rw [endsP_append (l := B) (m := [46]) (by simp)]
  simp [endsP]

theorem ended_same (A B : List Int) : sameM (B ++ [46]) A = false := by
  unfold sameM
  rw [endsP_append (l := B) (m := [46]) (by simp)]
  simp [endsP]

end Go.Proofs.Qxb6603791a
