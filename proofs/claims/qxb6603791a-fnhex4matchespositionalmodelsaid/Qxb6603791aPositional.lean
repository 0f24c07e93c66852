/-
  The walk of FnHex4MatchesPositionalModel.
-/
import Derived.Test.Qxb6603791aModel
namespace Go.Proofs.Qxb6603791a
open Go.RowKit

set_option maxHeartbeats 800000 in
theorem positional_core (a : Option Addr) (len cap : Nat) (xs : List Int) (i : Int) (w : World) (hlen : len ≤ 1048576) (hi : ¬ 9223372036854775803 < i) (HL : Hid (xs.length = len)) (HB : Hid (∀ x ∈ xs, 0 ≤ x ∧ x ≤ 255))
    (C : Hid (Calls Try.prog 8 #[.slice a len cap] w fun e w' => ∃ v, e = .returned v ∧ w'.ownsRow w.heap.size 5 1 v len (xs.map (Value.int .u8)) ∧ Below w.heap.size w w')) :
    Calls Try.prog 5 #[.slice a len cap, .int .i64 i] w fun e w' => e = .returned (.bool true) ∧ Below w.heap.size w w' := by
  have hm : len ≤ maxLen := by unfold maxLen; omega
  go_enter Try.func5, Try.ntmps5
  go_wp2_with (go_at_call 14; refine (bytes14_any _ _ _ _ _ hm).mono ?_; rintro e w' ⟨rfl, rfl⟩)
  refine C.out.mono ?_
  rintro e w1 ⟨v, rfl, hown, hb⟩
  have hS : Hid (Sees w1 v xs) := Sees.of_owns hown
  clear hown C
  go_wp2_with fail
  refine (zzhex4_any v xs i w1 hS.out HB.out (by have := HL.out; omega) (by omega)).mono ?_
  rintro e w2 ⟨rfl, rfl⟩
  go_wp2_with fail
  refine (model_any v xs i w1 hS.out (by have := HL.out; omega)).mono ?_
  rintro e w3 ⟨rfl, rfl⟩
  go_wp2
  go_ret
  exact ⟨rfl, hb⟩

theorem positional_walk (a : Option Addr) (len cap : Nat) (zs : List Int) (i : Int) (w : World) (h : IsRow .u8 w a len cap zs) (_hi : (Lit.int .i64 i).wf = true) :
    Calls Try.prog 5 #[.slice a len cap, .int .i64 i] w fun e w' => e = .returned (.bool true) ∧ Below w.heap.size w w' := by
  have hm := h.le
  by_cases h1 : len ≤ 1048576
  · by_cases h2 : 9223372036854775803 < i
    · clear h
      go_enter Try.func5, Try.ntmps5
      go_wp2_with (go_at_call 14; refine (bytes14_any _ _ _ _ _ hm).mono ?_; rintro e w' ⟨rfl, rfl⟩)
      go_ret
      exact ⟨rfl, Below.refl _ _⟩
    · exact positional_core a len cap (zs.take len) i w h1 h2 h.length h.byte (clone_any a len cap zs w h h1)
  · clear h
    go_enter Try.func5, Try.ntmps5
    go_wp2_with (go_at_call 14; refine (bytes14_any _ _ _ _ _ hm).mono ?_; rintro e w' ⟨rfl, rfl⟩)
    go_ret
    exact ⟨rfl, Below.refl _ _⟩

end Go.Proofs.Qxb6603791a
