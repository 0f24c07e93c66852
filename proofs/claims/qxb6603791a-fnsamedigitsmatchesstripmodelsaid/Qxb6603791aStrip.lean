/-
  zzEnvB1WithoutPoints, zzEnvB1SameBytes, zzEnvB1EndsWithPoint; the walk of FnSameDigitsMatchesStripModel.
-/
import Derived.Test.Qxb6603791aDigits
namespace Go.Proofs.Qxb6603791a
open Go.RowKit

/-! ### zzEnvB1WithoutPoints -/

theorem take_next (A : List Int) (k : Nat) (h : k < A.length) : A.take (k + 1) = A.take k ++ [A.getD k 0] := by
  rw [List.take_succ_eq_append_getElem h]
  simp [List.getD, h]

theorem strip_keep {A : List Int} {k : Nat} (h : k < A.length) (hx : ¬ A.getD k 0 = 46) : strip (A.take (k + 1)) = strip (A.take k) ++ [A.getD k 0] := by
  rw [take_next A k h, strip_append, strip_other hx]
  rfl

theorem strip_drop {A : List Int} {k : Nat} (h : k < A.length) (hx : A.getD k 0 = 46) : strip (A.take (k + 1)) = strip (A.take k) := by
  rw [take_next A k h, strip_append, hx]
  simp [strip]

theorem strip_le (A : List Int) (k : Nat) : (strip (A.take k)).length ≤ k := by
  unfold strip
  have h1 := List.length_filter_le (fun x : Int => !(x == 46)) (A.take k)
  have h2 : (A.take k).length ≤ k := List.length_take_le _ _
  omega

theorem keep_step {A : List Int} {k : Nat} (h : k < A.length) {x : Int} (ex : x = A.getD k 0) (hx : ¬ x = 46) {acc : List Int} (ha : acc = strip (A.take k)) {w1 : World} {B : Nat} {v : Value}
    (hown : w1.ownsRow B 5 1 v (acc.length + 1) (acc.map (Value.int .u8) ++ [Value.int .u8 x])) :
    w1.ownsRow B 5 1 v (strip (A.take (k + 1))).length ((strip (A.take (k + 1))).map (Value.int .u8)) := by
  rw [strip_keep h (by rw [← ex]; exact hx), ← ha, ← ex]
  simpa using hown

set_option maxHeartbeats 1600000 in
theorem without_full (b o c len : Nat) (A : List Int) (w : World) (hlen : len ≤ 1048576) (hb : b < w.heap.size) (HL : Hid (len = A.length))
    (HC : Hid (∀ j, j < len → w.cell? ⟨b, o + j, none⟩ = some (.int .u8 (A.getD j 0)))) :
    Calls Try.prog 11 #[.slice (some ⟨b, o, none⟩) len c] w fun e w' => ∃ v, e = .returned v ∧ w'.ownsRow w.heap.size 5 1 v (strip A).length ((strip A).map (Value.int .u8)) ∧ Below w.heap.size w w' := by
  obtain ⟨i0, hi, hz0, hz1, hz2⟩ := info_parts Try.info5
  go_enter Try.func11, Try.ntmps11
  go_wp2_with (at_make; refine wpList_make_own _ rfl _ _ 22 rfl w.heap.size 5 i0 (.int .u8 0) 1 Try.underlying22 hi hz0 hz1 _ _ _ len rfl rfl (by omega) (by rw [hz2]; omega) (by unfold maxLen; omega) (Nat.le_refl _) ?_)
  intro w0 hown0 hgrow0
  have hb0 : Below w.heap.size w w0 := (Below.refl _ _).grown hgrow0 (Nat.le_refl _) (fun k h => by cases h)
  clear hgrow0
  go_wp2
  go_loopw [3, 4] (fun v i wr => ∃ k : Nat, k ≤ len ∧ i = .int .i64 k ∧ wr.ownsRow w.heap.size 5 1 v (strip (A.take k)).length ((strip (A.take k)).map (Value.int .u8)) ∧ Below w.heap.size w wr) (fun _ i _ => len - (intOf i).toNat)
  case atStart => exact ⟨0, Nat.zero_le _, rfl, hown0, hb0⟩
  case round =>
    obtain ⟨k, hk, rfl, hown, hbw⟩ := hrel
    clear hown0 hb0
    have hle := strip_le A k
    obtain ⟨acc, hacc⟩ : ∃ acc, acc = strip (A.take k) := ⟨_, rfl⟩
    rw [← hacc] at hown hle
    have HA : Hid (acc = strip (A.take k)) := hacc
    clear hacc
    have hbs := hbw.size
    by_cases hlt : k < len
    · obtain ⟨x, hx⟩ : ∃ x, x = A.getD k 0 := ⟨_, rfl⟩
      have cx : wr.cell? ⟨b, o + k, none⟩ = some (.int .u8 x) := by rw [hx]; exact (hbw.cell (by exact hb)).trans (HC.out k hlt)
      have HX : Hid (x = A.getD k 0) := hx
      clear hx
      by_cases e1 : x = 46
      · have R : Hid (strip (A.take (k + 1)) = acc) := by rw [HA.out]; exact strip_drop (by have := HL.out; omega) (by rw [← HX.out]; exact e1)
        go_wp2
        go_roundw
        case rel => exact ⟨k + 1, by omega, by go_num, by rw [R.out]; exact hown, hbw⟩
        case measure => simp [intOf]; omega
      · go_wp2_with (at_builtin; refine wpList_append_own _ rfl _ _ 22 rfl w.heap.size 5 i0 (.int .u8 0) 1 1 Try.underlying22 hi hz0 hz1 hz2 rfl (by decide) _ _ _ rfl (hown.alloc _) ⟨wr.heap.size, 0, none⟩ 1 1 [.int .u8 x] rfl rfl (one_cell x wr 5) (one_one x) (by unfold maxLen; omega) (by omega) (by simp; omega) ?_)
        intro v1 w1 hown1 hgrow1 _
        have hb1 : Below w.heap.size w w1 := (hbw.alloc hbs _).grown hgrow1 (by simp; omega) (fun j hj => (hown.lt j hj).1)
        have R := keep_step (by have := HL.out; omega) HX.out e1 HA.out hown1
        clear hown hown1 hgrow1
        go_wp2
        go_roundw
        case rel => exact ⟨k + 1, by omega, by go_num, R, hb1⟩
        case measure => simp [intOf]; omega
    · have ek : len = k := by omega
      subst ek
      have e : acc = strip A := by rw [HA.out, List.take_of_length_le (by have := HL.out; omega)]
      have HE : Hid (acc = strip A) := e
      clear e
      go_wp2
      go_ret
      rw [HE.out] at hown
      exact ⟨_, rfl, hown, hbw⟩

theorem without_none (a : Option Addr) (c : Nat) (w : World) :
    Calls Try.prog 11 #[.slice a 0 c] w fun e w' => ∃ v, e = .returned v ∧ w'.ownsRow w.heap.size 5 1 v (strip []).length ((strip []).map (Value.int .u8)) ∧ Below w.heap.size w w' := by
  obtain ⟨i0, hi, hz0, hz1, hz2⟩ := info_parts Try.info5
  go_enter Try.func11, Try.ntmps11
  go_wp2_with (at_make; refine wpList_make_own _ rfl _ _ 22 rfl w.heap.size 5 i0 (.int .u8 0) 1 Try.underlying22 hi hz0 hz1 _ _ _ 0 rfl rfl (by omega) (by rw [hz2]; omega) (by unfold maxLen; omega) (Nat.le_refl _) ?_)
  intro w0 hown0 hgrow0
  have hb0 : Below w.heap.size w w0 := (Below.refl _ _).grown hgrow0 (Nat.le_refl _) (fun k h => by cases h)
  clear hgrow0
  go_wp2
  go_loopw [3, 4] (fun v i wr => i = .int .i64 0 ∧ wr.ownsRow w.heap.size 5 1 v 0 [] ∧ Below w.heap.size w wr) (fun _ _ _ => 0)
  case atStart => exact ⟨rfl, hown0, hb0⟩
  case round =>
    obtain ⟨rfl, hown, hbw⟩ := hrel
    go_wp2
    go_ret
    exact ⟨_, rfl, hown, hbw⟩

theorem without_any (v : Value) (A : List Int) (w : World) (hA : Sees w v A) (hlen : A.length ≤ 1048576) :
    Calls Try.prog 11 #[v] w fun e w' => ∃ v', e = .returned v' ∧ w'.ownsRow w.heap.size 5 1 v' (strip A).length ((strip A).map (Value.int .u8)) ∧ Below w.heap.size w w' := by
  rcases hA with ⟨rfl, a, c, rfl⟩ | ⟨-, b, o, c, rfl, hb, -, -, hc⟩
  · exact without_none a c w
  · exact without_full b o c A.length A w hlen hb rfl hc

/-! ### zzEnvB1EndsWithPoint -/

theorem endsP_last : ∀ (A : List Int), 0 < A.length → endsP A = (A.getD (A.length - 1) 0 == 46)
  | [x], _ => rfl
  | x :: y :: r, _ => by
    have h := endsP_last (y :: r) (by simp)
    show endsP (y :: r) = _
    rw [h]
    simp [List.getD]

theorem ends_any (v : Value) (A : List Int) (w : World) (hA : Sees w v A) (hlen : A.length ≤ 1048576) :
    Calls Try.prog 12 #[v] w fun e w' => e = .returned (.bool (endsP A)) ∧ w = w' := by
  rcases hA with ⟨rfl, a, c, rfl⟩ | ⟨h0, b, o, c, rfl, hb, -, -, hc⟩
  · go_enter Try.func12, Try.ntmps12
    go_wp2
    go_ret
    exact ⟨rfl, rfl⟩
  · obtain ⟨x, hx⟩ : ∃ x, x = A.getD (A.length - 1) 0 := ⟨_, rfl⟩
    have cx : w.cell? ⟨b, o + (A.length - 1), none⟩ = some (.int .u8 x) := by rw [hx]; exact hc _ (by omega)
    obtain ⟨r, hr⟩ : ∃ r, r = endsP A := ⟨_, rfl⟩
    have HR : Hid (r = (x == 46)) := by rw [hr, endsP_last A h0, ← hx]; rfl
    rw [← hr]
    clear hr hx hc
    obtain ⟨n, hn⟩ : ∃ n, n = A.length := ⟨_, rfl⟩
    rw [← hn] at cx h0 hlen ⊢
    clear hn
    by_cases e1 : x = 46
    · have h0' : (0 : Int) < (n : Int) := by omega
      go_enter Try.func12, Try.ntmps12
      go_wp2
      go_ret
      exact ⟨ret_bool (by rw [HR.out, e1]; rfl), rfl⟩
    · have h0' : (0 : Int) < (n : Int) := by omega
      go_enter Try.func12, Try.ntmps12
      go_wp2
      go_ret
      exact ⟨ret_bool (by rw [HR.out]), rfl⟩

/-! ### zzEnvB1SameBytes -/

/-- Of two lists of one length, the first n agree. -/
theorem agree_all {A B : List Int} (hl : A.length = B.length) (h : ∀ t, t < A.length → A.getD t 0 = B.getD t 0) : A = B := by
  apply List.ext_getElem hl
  intro t h1 h2
  have := h t h1
  simpa [List.getD, h1, h2] using this

theorem agree_not {A B : List Int} {t : Nat} (h : ¬ A.getD t 0 = B.getD t 0) : ¬ A = B := fun e => h (by rw [e])

theorem same_none (a : Option Addr) (ca : Nat) (b : Option Addr) (cb : Nat) (w : World) :
    Calls Try.prog 10 #[.slice a 0 ca, .slice b 0 cb] w fun e w' => e = .returned (.bool true) ∧ Below w.heap.size w w' := by
  go_enter Try.func10, Try.ntmps10
  go_wp2
  go_loop [5] (fun i => i = .int .i64 0) (fun _ => 0)
  case atStart => exact rfl
  case round =>
    obtain rfl := hrel
    go_wp2
    go_ret
    exact ⟨rfl, Below.refl _ _⟩

theorem same_lengths (a : Option Addr) (la ca : Nat) (b : Option Addr) (lb cb : Nat) (w : World) (h : ¬ la = lb) :
    Calls Try.prog 10 #[.slice a la ca, .slice b lb cb] w fun e w' => e = .returned (.bool false) ∧ Below w.heap.size w w' := by
  have h' : ((la : Int) != (lb : Int)) = true := by simp; omega
  clear h
  go_enter Try.func10, Try.ntmps10
  go_wp2
  go_ret
  exact ⟨rfl, Below.refl _ _⟩

set_option maxHeartbeats 800000 in
theorem same_full (ba oa ca bb ob cb n : Nat) (A B : List Int) (w : World) (hn : n ≤ 1048576) (hba : ba < w.heap.size) (hbb : bb < w.heap.size) (HA : Hid (A.length = n)) (HB : Hid (B.length = n))
    (HCA : Hid (∀ j, j < n → w.cell? ⟨ba, oa + j, none⟩ = some (.int .u8 (A.getD j 0)))) (HCB : Hid (∀ j, j < n → w.cell? ⟨bb, ob + j, none⟩ = some (.int .u8 (B.getD j 0)))) :
    Calls Try.prog 10 #[.slice (some ⟨ba, oa, none⟩) n ca, .slice (some ⟨bb, ob, none⟩) n cb] w fun e w' => e = .returned (.bool (decide (A = B))) ∧ Below w.heap.size w w' := by
  obtain ⟨r, hr⟩ : ∃ r, r = decide (A = B) := ⟨_, rfl⟩
  rw [← hr]
  have HR : Hid (r = decide (A = B)) := hr
  clear hr
  go_enter Try.func10, Try.ntmps10
  go_wp2
  go_loopw [5] (fun i wr => ∃ k : Nat, k ≤ n ∧ i = .int .i64 k ∧ Hid (∀ t, t < k → A.getD t 0 = B.getD t 0) ∧ Below w.heap.size w wr) (fun i _ => n - (intOf i).toNat)
  case atStart => exact ⟨0, Nat.zero_le _, rfl, (fun t ht => absurd ht (Nat.not_lt_zero t)), Below.refl _ _⟩
  case round =>
    obtain ⟨k, hk, rfl, HF, hb⟩ := hrel
    by_cases hlt : k < n
    · obtain ⟨x, hx⟩ : ∃ x, x = A.getD k 0 := ⟨_, rfl⟩
      obtain ⟨y, hy⟩ : ∃ y, y = B.getD k 0 := ⟨_, rfl⟩
      have cx : wr.cell? ⟨ba, oa + k, none⟩ = some (.int .u8 x) := by rw [hx]; exact (hb.cell (by exact hba)).trans (HCA.out k hlt)
      have cy : wr.cell? ⟨bb, ob + k, none⟩ = some (.int .u8 y) := by rw [hy]; exact (hb.cell (by exact hbb)).trans (HCB.out k hlt)
      have HX : Hid (x = A.getD k 0) := hx
      have HY : Hid (y = B.getD k 0) := hy
      clear hx hy
      by_cases e : x = y
      · subst e
        go_wp2
        go_quiet (fail)
        go_wp2
        go_roundw
        case rel =>
          refine ⟨k + 1, by omega, by go_num, fun t ht => ?_, below_drewN hb _⟩
          by_cases ht' : t < k
          · exact HF.out t ht'
          · have : t = k := by omega
            subst this
            rw [← HX.out, ← HY.out]
        case measure => simp [intOf]; omega
      · go_wp2
        go_quiet (fail)
        go_wp2
        go_ret
        exact ⟨ret_bool (by rw [HR.out]; exact (decide_eq_false (agree_not (t := k) (by rw [← HX.out, ← HY.out]; exact e))).symm), below_drewN hb _⟩
    · have ek : n = k := by omega
      subst ek
      go_wp2
      go_ret
      exact ⟨ret_bool (by rw [HR.out]; exact (decide_eq_true (agree_all (HA.out.trans HB.out.symm) (fun t ht => HF.out t (by have := HA.out; omega)))).symm), hb⟩

theorem same_any (va vb : Value) (A B : List Int) (w : World) (hA : Sees w va A) (hB : Sees w vb B) (h1 : A.length ≤ 1048576) :
    Calls Try.prog 10 #[va, vb] w fun e w' => e = .returned (.bool (decide (A = B))) ∧ Below w.heap.size w w' := by
  by_cases hl : A.length = B.length
  · rcases hA with ⟨rfl, a, c, rfl⟩ | ⟨hA0, ba, oa, ca, rfl, hba, -, -, hca⟩
    · have e : B = [] := List.eq_nil_of_length_eq_zero hl.symm
      subst e
      obtain ⟨b, cb, rfl⟩ := hB.form
      exact same_none a c b cb w
    · rcases hB with ⟨rfl, b, cb, rfl⟩ | ⟨hB0, bb, ob, cb, rfl, hbb, -, -, hcb⟩
      · simp at hl
        subst hl
        simp at hA0
      · rw [← hl]
        rw [← hl] at hcb
        exact same_full ba oa ca bb ob cb A.length A B w h1 hba hbb rfl hl.symm hca hcb
  · obtain ⟨a, ca, rfl⟩ := hA.form
    obtain ⟨b, cb, rfl⟩ := hB.form
    rw [decide_eq_false (fun e => hl (by rw [e]))]
    exact same_lengths a _ ca b _ cb w hl

end Go.Proofs.Qxb6603791a
