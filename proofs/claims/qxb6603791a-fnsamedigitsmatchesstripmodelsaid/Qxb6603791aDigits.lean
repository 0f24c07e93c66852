/-
  sameDigits computes 'sameM'.
-/
import Derived.Test.Qxb6603791aBase
import Derived.Test.Qxb6603791aDigPlain
import Derived.Deep.QuietTactic
import Derived.BigQuiet
namespace Go.Proofs.Qxb6603791a
open Go.RowKit

theorem Sees.form {w : World} {v : Value} {xs : List Int} (h : Sees w v xs) : ∃ a c, v = .slice a xs.length c := by
  rcases h with ⟨rfl, a, c, rfl⟩ | ⟨-, b, o, c, rfl, -⟩
  · exact ⟨a, c, rfl⟩
  · exact ⟨_, c, rfl⟩

theorem below_drewN {B : Nat} {a w : World} (h : Below B a w) (n : Nat) : Below B a (w.drewN n) := ⟨h.os, h.tape, h.output, h.size, h.block⟩

theorem digits_empty_left (a : Option Addr) (ca : Nat) (b : Option Addr) (B : List Int) (cb : Nat) (w : World) (hB : B.length ≤ 4194304) :
    Calls Try.prog 18 #[.slice a 0 ca, .slice b B.length cb] w fun e w' => e = .returned (.bool (sameM [] B)) ∧ Below w.heap.size w w' := by
  obtain ⟨n, hn⟩ : ∃ n, n = B.length := ⟨_, rfl⟩
  rw [← hn] at hB ⊢
  have HN : Hid (n = B.length) := hn
  clear hn
  by_cases h0 : n = 0
  · subst h0
    have e : B = [] := List.eq_nil_of_length_eq_zero HN.out.symm
    subst e
    go_enter Try.func18, Try.ntmps18
    go_wp2
    go_loop [5, 6] (fun i j => i = .int .i64 0 ∧ j = .int .i64 0) (fun _ _ => 0)
    case atStart => exact ⟨rfl, rfl⟩
    case round =>
      obtain ⟨rfl, rfl⟩ := hrel
      go_wp2
      go_ret
      exact ⟨rfl, Below.refl _ _⟩
  · go_enter Try.func18, Try.ntmps18
    go_wp2
    go_loop [5, 6] (fun i j => i = .int .i64 0 ∧ j = .int .i64 0) (fun _ _ => 0)
    case atStart => exact ⟨rfl, rfl⟩
    case round =>
      obtain ⟨rfl, rfl⟩ := hrel
      go_wp2
      go_ret
      exact ⟨ret_bool (by rw [sameM_nil_left (fun e => h0 (by rw [HN.out, e]; rfl))]; exact beq_eq_false_iff_ne.2 (by omega)), Below.refl _ _⟩

theorem digits_empty_right (a : Option Addr) (ca : Nat) (b : Option Addr) (A : List Int) (cb : Nat) (w : World) (hA : A.length ≤ 4194304) (h0 : 0 < A.length) :
    Calls Try.prog 18 #[.slice a A.length ca, .slice b 0 cb] w fun e w' => e = .returned (.bool (sameM A [])) ∧ Below w.heap.size w w' := by
  obtain ⟨n, hn⟩ : ∃ n, n = A.length := ⟨_, rfl⟩
  rw [← hn] at hA h0 ⊢
  have HN : Hid (n = A.length) := hn
  clear hn
  go_enter Try.func18, Try.ntmps18
  go_wp2
  go_loop [5, 6] (fun i j => i = .int .i64 0 ∧ j = .int .i64 0) (fun _ _ => 0)
  case atStart => exact ⟨rfl, rfl⟩
  case round =>
    obtain ⟨rfl, rfl⟩ := hrel
    go_wp2
    go_ret
    exact ⟨ret_bool (by rw [sameM_nil_right (fun e => by have := HN.out; rw [e] at this; simp at this; omega)]), Below.refl _ _⟩

set_option maxHeartbeats 1600000 in
theorem digits_full (ba oa ca bb ob cb : Nat) (A B : List Int) (w : World) (hA : A.length ≤ 4194304) (hB : B.length ≤ 4194304) (hba : ba < w.heap.size) (hbb : bb < w.heap.size) (hA0 : 0 < A.length) (hB0 : 0 < B.length)
    (hca : ∀ j, j < A.length → w.cell? ⟨ba, oa + j, none⟩ = some (.int .u8 (A.getD j 0))) (hcb : ∀ j, j < B.length → w.cell? ⟨bb, ob + j, none⟩ = some (.int .u8 (B.getD j 0))) :
    Calls Try.prog 18 #[.slice (some ⟨ba, oa, none⟩) A.length ca, .slice (some ⟨bb, ob, none⟩) B.length cb] w fun e w' => e = .returned (.bool (sameM A B)) ∧ Below w.heap.size w w' := by
  obtain ⟨la, hla⟩ : ∃ n, n = A.length := ⟨_, rfl⟩
  obtain ⟨lb, hlb⟩ : ∃ n, n = B.length := ⟨_, rfl⟩
  rw [← hla, ← hlb]
  rw [← hla] at hA hA0
  rw [← hlb] at hB hB0
  have HLA : Hid (la = A.length) := hla
  have HLB : Hid (lb = B.length) := hlb
  have HCA : Hid (∀ j, j < la → w.cell? ⟨ba, oa + j, none⟩ = some (.int .u8 (A.getD j 0))) := fun j hj => hca j (by omega)
  have HCB : Hid (∀ j, j < lb → w.cell? ⟨bb, ob + j, none⟩ = some (.int .u8 (B.getD j 0))) := fun j hj => hcb j (by omega)
  clear hla hlb hca hcb
  obtain ⟨r, hr⟩ : ∃ r, r = sameM A B := ⟨_, rfl⟩
  rw [← hr]
  have HR : Hid (sameM A B = r) := hr.symm
  clear hr
  go_enter Try.func18, Try.ntmps18
  go_wp2
  go_loopw [5, 6] (fun si sj wr => ∃ i j : Nat, i ≤ la ∧ j ≤ lb ∧ si = .int .i64 i ∧ sj = .int .i64 j ∧ Hid (sameM (A.drop i) (B.drop j) = r) ∧ Below w.heap.size w wr) (fun si sj _ => (la - (intOf si).toNat) + (lb - (intOf sj).toNat))
  case atStart => exact ⟨0, 0, Nat.zero_le _, Nat.zero_le _, rfl, rfl, HR, Below.refl _ _⟩
  case round =>
    obtain ⟨i, j, hi, hj, rfl, rfl, HM, hb⟩ := hrel
    have hlA := HLA.out
    have hlB := HLB.out
    by_cases hi' : i < la
    · by_cases hj' : j < lb
      · obtain ⟨x, hx⟩ : ∃ x, x = A.getD i 0 := ⟨_, rfl⟩
        obtain ⟨y, hy⟩ : ∃ y, y = B.getD j 0 := ⟨_, rfl⟩
        have cx : wr.cell? ⟨ba, oa + i, none⟩ = some (.int .u8 x) := by rw [hx]; exact (hb.cell (by exact hba)).trans (HCA.out i hi')
        have cy : wr.cell? ⟨bb, ob + j, none⟩ = some (.int .u8 y) := by rw [hy]; exact (hb.cell (by exact hbb)).trans (HCB.out j hj')
        have HX : Hid (x = A.getD i 0) := hx
        have HY : Hid (y = B.getD j 0) := hy
        have HLA : Hid (la = A.length) := hlA
        have HLB : Hid (lb = B.length) := hlB
        clear hx hy hlA hlB
        by_cases e1 : x = 46
        · go_wp2
          go_roundw
          case rel => exact ⟨i + 1, j, by omega, hj, by go_num, rfl, round_left (by have := HLA.out; omega) (by have := HLB.out; omega) (by rw [← HX.out]; exact e1) HM.out, hb⟩
          case measure => simp [intOf]; omega
        · by_cases e2 : y = 46
          · go_wp2
            go_roundw
            case rel => exact ⟨i, j + 1, hi, by omega, rfl, by go_num, round_right (by have := HLA.out; omega) (by have := HLB.out; omega) (by rw [← HY.out]; exact e2) HM.out, hb⟩
            case measure => simp [intOf]; omega
          · by_cases e3 : x = y
            · subst e3
              go_wp2
              go_quiet (fail)
              go_wp2
              go_roundw
              case rel => exact ⟨i + 1, j + 1, by omega, by omega, by go_num, by go_num, round_both (by have := HLA.out; omega) (by have := HLB.out; omega) (by rw [← HX.out]; exact e1) (by rw [← HX.out, ← HY.out]) HM.out, below_drewN hb _⟩
              case measure => simp [intOf]; omega
            · go_wp2
              go_quiet (fail)
              go_wp2
              go_ret
              exact ⟨ret_bool (round_stop (by have := HLA.out; omega) (by have := HLB.out; omega) (by rw [← HX.out]; exact e1) (by rw [← HY.out]; exact e2) (by rw [← HX.out, ← HY.out]; exact e3) HM.out).symm, below_drewN hb _⟩
      · have ej : j = lb := by omega
        subst ej
        go_wp2
        go_ret
        exact ⟨ret_bool (round_out_right (by omega) hlB HM.out).symm, hb⟩
    · have ei : i = la := by omega
      subst ei
      by_cases hj' : j < lb
      · go_wp2
        go_ret
        exact ⟨ret_bool ((beq_eq_false_iff_ne.2 (by omega)).trans (round_out_left hlA (by omega) HM.out).symm), hb⟩
      · have ej : j = lb := by omega
        subst ej
        go_wp2
        go_ret
        exact ⟨ret_bool (round_out_yes hlA hlB HM.out).symm, hb⟩

theorem digits_any (va vb : Value) (A B : List Int) (w : World) (hA : Sees w va A) (hB : Sees w vb B) (h1 : A.length ≤ 4194304) (h2 : B.length ≤ 4194304) :
    Calls Try.prog 18 #[va, vb] w fun e w' => e = .returned (.bool (sameM A B)) ∧ Below w.heap.size w w' := by
  rcases hA with ⟨rfl, a, c, rfl⟩ | ⟨hA0, ba, oa, ca, rfl, hba, -, -, hca⟩
  · obtain ⟨b, cb, rfl⟩ := hB.form
    exact digits_empty_left a c b B cb w h2
  · rcases hB with ⟨rfl, b, cb, rfl⟩ | ⟨hB0, bb, ob, cb, rfl, hbb, -, -, hcb⟩
    · exact digits_empty_right _ ca b A cb w h1 hA0
    · exact digits_full ba oa ca bb ob cb A B w h1 h2 hba hbb hA0 hB0 hca hcb

theorem zzdigits_any (va vb : Value) (A B : List Int) (w : World) (hA : Sees w va A) (hB : Sees w vb B) (h1 : A.length ≤ 4194304) (h2 : B.length ≤ 4194304) :
    Calls Try.prog 9 #[va, vb] w fun e w' => e = .returned (.bool (sameM A B)) ∧ Below w.heap.size w w' := by
  have H : Hid (Calls Try.prog 18 #[va, vb] w fun e w' => e = .returned (.bool (sameM A B)) ∧ Below w.heap.size w w') := digits_any va vb A B w hA hB h1 h2
  clear hA hB h1 h2
  go_enter Try.func9, Try.ntmps9
  go_wp2_with (go_at_call 18; refine H.out.mono ?_; rintro e w' ⟨rfl, hb⟩)
  go_ret
  exact ⟨rfl, hb⟩

end Go.Proofs.Qxb6603791a
