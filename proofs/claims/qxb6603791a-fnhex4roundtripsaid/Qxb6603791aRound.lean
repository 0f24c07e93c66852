/-
  The walk of FnHex4RoundTrip.
-/
import Derived.Test.Qxb6603791aHex
namespace Go.Proofs.Qxb6603791a
open Go.RowKit

/-- The copy of a slice that came in, its value's form laid open. -/
theorem clone_form (a : Option Addr) (len cap : Nat) (zs : List Int) (w : World) (h : IsRow .u8 w a len cap zs) (hlen : len ≤ 1048576) :
    Calls Try.prog 8 #[.slice a len cap] w fun e w' => ∃ ao c, e = .returned (.slice ao len c) ∧ (ao = none → len = 0 ∧ c = 0) ∧
      Hid (∀ W, Below w'.heap.size w' W → ∀ ad, ao = some ad → ∀ j u, ((zs.take len).map (Value.int .u8))[j]? = some u → W.cell? (ad.add j) = some u) ∧ Below w.heap.size w w' := by
  by_cases h0 : len = 0
  · have e : (zs.take len).map (Value.int .u8) = [] := by rw [h0]; simp
    rcases h with ⟨rfl, rfl, rfl, rfl⟩ | ⟨x, rfl, hle, hm, hz, hc, -⟩
    · refine (clone_nil w 0 0).mono ?_
      rintro e w' ⟨rfl, rfl⟩
      exact ⟨none, 0, rfl, fun _ => ⟨rfl, rfl⟩, (fun W _ ad had => by cases had), Below.refl _ _⟩
    · refine (clone_some x len cap [] w (by simp [h0]) hlen (fun i hi => by simp at hi)).mono ?_
      rintro e' w' ⟨rfl, -, h2⟩
      refine ⟨_, _, rfl, (fun h => by cases h), (fun W _ ad _ j u hj => ?_), h2⟩
      rw [e] at hj
      simp at hj
  · refine (clone_pos a len cap zs w h hlen (by omega)).mono ?_
    rintro e w' ⟨rfl, hown, h2⟩
    refine ⟨_, _, rfl, (fun h => by cases h), (fun W hW ad had j u hj => ?_), h2⟩
    cases had
    have hc := hown.cells (g := w.heap.size) rfl j u hj
    have hlt := (hown.lt _ rfl).2
    rw [Addr.add_lit] at hc ⊢
    exact (hW.cell (by exact hlt)).trans hc

theorem IsRow.on {w W : World} {a : Option Addr} {len cap : Nat} {zs : List Int} (h : IsRow .u8 w a len cap zs) (hb : Below w.heap.size w W) : IsRow .u8 W a len cap zs := by
  rcases h with h | ⟨x, rfl, hle, hm, hz, hc, hw⟩
  · exact Or.inl h
  · exact Or.inr ⟨x, rfl, hle, hm, hz, fun i hi => (hb.cell (World.block_lt_of_cell? w _ (hc i hi))).trans (hc i hi), hw⟩

/-- What a copy leaves. -/
def Copied (X : List Value) (len : Nat) (w : World) (e : Ending) (w' : World) : Prop :=
  ∃ ao c, e = .returned (.slice ao len c) ∧ (ao = none → len = 0 ∧ c = 0) ∧
    Hid (∀ W, Below w'.heap.size w' W → ∀ ad, ao = some ad → ∀ j u, X[j]? = some u → W.cell? (ad.add j) = some u) ∧ Below w.heap.size w w'

theorem lit_up (d : Nat) (h : d < (ByteArray.mk #[48, 49, 50, 51, 52, 53, 54, 55, 56, 57, 65, 66, 67, 68, 69, 70]).size) : hexv (((ByteArray.mk #[48, 49, 50, 51, 52, 53, 54, 55, 56, 57, 65, 66, 67, 68, 69, 70])[d]'h).toNat : Int) = (d : Int) := by
  have h16 : d < 16 := h
  match d, h16 with
  | 0, _ => rfl
  | 1, _ => rfl
  | 2, _ => rfl
  | 3, _ => rfl
  | 4, _ => rfl
  | 5, _ => rfl
  | 6, _ => rfl
  | 7, _ => rfl
  | 8, _ => rfl
  | 9, _ => rfl
  | 10, _ => rfl
  | 11, _ => rfl
  | 12, _ => rfl
  | 13, _ => rfl
  | 14, _ => rfl
  | 15, _ => rfl
  | k + 16, hk => exact absurd hk (by omega)
theorem lit_low (d : Nat) (h : d < (ByteArray.mk #[48, 49, 50, 51, 52, 53, 54, 55, 56, 57, 97, 98, 99, 100, 101, 102]).size) : hexv (((ByteArray.mk #[48, 49, 50, 51, 52, 53, 54, 55, 56, 57, 97, 98, 99, 100, 101, 102])[d]'h).toNat : Int) = (d : Int) := by
  have h16 : d < 16 := h
  match d, h16 with
  | 0, _ => rfl
  | 1, _ => rfl
  | 2, _ => rfl
  | 3, _ => rfl
  | 4, _ => rfl
  | 5, _ => rfl
  | 6, _ => rfl
  | 7, _ => rfl
  | 8, _ => rfl
  | 9, _ => rfl
  | 10, _ => rfl
  | 11, _ => rfl
  | 12, _ => rfl
  | 13, _ => rfl
  | 14, _ => rfl
  | 15, _ => rfl
  | k + 16, hk => exact absurd hk (by omega)

theorem byte_u8 (c : UInt8) : 0 ≤ (c.toNat : Int) ∧ (c.toNat : Int) ≤ 255 := by
  have := c.toNat_lt
  omega

theorem cells_eq {X1 X2 : List Value} {P S : List Int} (h1 : X1 = P.map (Value.int .u8)) (h2 : X2 = S.map (Value.int .u8)) (e0 e1 e2 e3 : Int) :
    X1 ++ Value.int .u8 e0 :: Value.int .u8 e1 :: Value.int .u8 e2 :: Value.int .u8 e3 :: X2 = (P ++ e0 :: e1 :: e2 :: e3 :: S).map (Value.int .u8) := by
  rw [h1, h2]
  simp only [List.map_append, List.map_cons]

theorem round_plain (P S : List Int) (n : Nat) (hn : n ≤ 65535) (e0 e1 e2 e3 : Int) (h0 : hexv e0 = ((n / 4096 : Nat) : Int)) (h1 : hexv e1 = ((n / 256 % 16 : Nat) : Int)) (h2 : hexv e2 = ((n / 16 % 16 : Nat) : Int)) (h3 : hexv e3 = ((n % 16 : Nat) : Int)) :
    hex4P (P ++ e0 :: e1 :: e2 :: e3 :: S) (P.length : Int) = (n : Int) := by
  unfold hex4P
  rw [if_neg (by simp; omega)]
  have e : at4 (P ++ e0 :: e1 :: e2 :: e3 :: S) ((P.length : Int).toNat) = [e0, e1, e2, e3] := by
    simp [at4]
  rw [e, hexF_four (by omega) (by omega) (by omega) (by omega), h0, h1, h2, h3]
  omega

theorem last_call {w : World} {base : Nat} {v : Value} {len lp n : Nat} {P S : List Int} {e0 e1 e2 e3 : Int} (hlp : lp = P.length) (hown : w.ownsRow base 5 1 v len ((P ++ e0 :: e1 :: e2 :: e3 :: S).map (Value.int .u8))) (hn : n ≤ 65535) (hlen : len ≤ 4194304)
    (hP : ∀ x ∈ P, 0 ≤ x ∧ x ≤ 255) (hS : ∀ x ∈ S, 0 ≤ x ∧ x ≤ 255) (b0 : 0 ≤ e0 ∧ e0 ≤ 255) (b1 : 0 ≤ e1 ∧ e1 ≤ 255) (b2 : 0 ≤ e2 ∧ e2 ≤ 255) (b3 : 0 ≤ e3 ∧ e3 ≤ 255)
    (h0 : hexv e0 = ((n / 4096 : Nat) : Int)) (h1 : hexv e1 = ((n / 256 % 16 : Nat) : Int)) (h2 : hexv e2 = ((n / 16 % 16 : Nat) : Int)) (h3 : hexv e3 = ((n % 16 : Nat) : Int)) :
    Calls Try.prog 15 #[v, .int .i64 lp] w fun e w' => e = .returned (.int .i64 n) ∧ w = w' := by
  have hl : (P ++ e0 :: e1 :: e2 :: e3 :: S).length = len := by
    have h := hown.1
    rw [List.length_map, Nat.mul_one] at h
    exact h
  have hle : P.length ≤ len := by rw [← hl, List.length_append]; omega
  have h := zzhex4_any v (P ++ e0 :: e1 :: e2 :: e3 :: S) (lp : Int) w (Sees.of_owns hown) (by
    intro x hx
    simp only [List.mem_append, List.mem_cons] at hx
    rcases hx with hx | rfl | rfl | rfl | rfl | hx
    · exact hP x hx
    · exact b0
    · exact b1
    · exact b2
    · exact b3
    · exact hS x hx) (by omega) (by omega)
  rw [hlp, round_plain P S n hn e0 e1 e2 e3 h0 h1 h2 h3, ← hlp] at h
  exact h

set_option maxHeartbeats 3200000 in
theorem round_core (a : Option Addr) (lp cp : Nat) (n : Nat) (u : Bool) (b : Option Addr) (ls cs : Nat) (X1 X2 : List Value) (P S : List Int) (w : World) (hlp : lp ≤ 524288) (hls : ls ≤ 524288) (hsum : lp + ls ≤ 1048576) (hn : n ≤ 65535)
    (hn1 : X1.length = lp * 1) (hn2 : X2.length = ls * 1) (ho1 : Hid (∀ u ∈ X1, u.oneCell' = true)) (ho2 : Hid (∀ u ∈ X2, u.oneCell' = true))
    (HP : Hid (lp = P.length)) (E1 : Hid (X1 = P.map (Value.int .u8))) (E2 : Hid (X2 = S.map (Value.int .u8))) (BP : Hid (∀ x ∈ P, 0 ≤ x ∧ x ≤ 255)) (BS : Hid (∀ x ∈ S, 0 ≤ x ∧ x ≤ 255))
    (C1 : Hid (Calls Try.prog 8 #[.slice a lp cp] w (Copied X1 lp w)))
    (C2 : Hid (∀ W, Below w.heap.size w W → Calls Try.prog 8 #[.slice b ls cs] W (Copied X2 ls W))) :
    Calls Try.prog 6 #[.slice a lp cp, .int .i64 n, .bool u, .slice b ls cs] w fun e w' => e = .returned (.bool true) ∧ Below w.heap.size w w' := by
  obtain ⟨i0, hi, hz0, hz1, hz2⟩ := info_parts Try.info5
  have hm1 : lp ≤ maxLen := by unfold maxLen; omega
  have hm2 : ls ≤ maxLen := by unfold maxLen; omega
  cases u with
  | true =>
    go_enter Try.func6, Try.ntmps6
    go_wp2_with (go_at_call 17; refine (bytes17_any _ _ _ _ _ _ _ _ _ hm1 hm2).mono ?_; rintro e w' ⟨rfl, rfl⟩)
    refine C1.out.mono ?_
    rintro e w1 ⟨ao1, c1, rfl, hno1, HX1, hb1⟩
    have HN1 : Hid (ao1 = none → lp = 0 ∧ c1 = 0) := hno1
    clear hno1 C1
    go_wp2_with fail
    refine (C2.out w1 hb1).mono ?_
    rintro e w2 ⟨ao2, c2, rfl, hno2, HX2, hb2⟩
    have HN2 : Hid (ao2 = none → ls = 0 ∧ c2 = 0) := hno2
    clear hno2 C2
    go_wp2_with (at_make; refine wpList_make_own _ rfl _ _ 22 rfl w2.heap.size 5 i0 (.int .u8 0) 1 Try.underlying22 hi hz0 hz1 _ _ _ (lp + 4 + ls) rfl rfl (by omega) (by rw [hz2]; omega) (by unfold maxLen; omega) (Nat.le_refl _) ?_)
    intro w3 hown3 hgrow3
    have hb3 : Below w2.heap.size w2 w3 := (Below.refl _ _).grown hgrow3 (Nat.le_refl _) (fun k h => by cases h)
    clear hgrow3
    go_wp2_with (at_builtin; refine wpList_append_fits_any _ rfl (.tmp 41) (.tmp 42) 22 rfl w2.heap.size 5 i0 1 Try.underlying22 hi hz1 w2.heap.size 0 (lp + 4 + ls) _ rfl hown3 ao1 lp c1 X1 rfl hn1 HN1.out (HX1.out w3 (hb2.trans (hb3.mono hb2.size))) ho1.out (by omega) ?_)
    intro w4 hown4 hgrow4
    have hb4 : Below w2.heap.size w2 w4 := hb3.grown hgrow4 hb3.size (fun j hj => by cases hj; exact Nat.le_refl _)
    clear hgrow4 hown3
    have hs4 := hb4.size
    go_wp2_with (at_builtin; refine wpList_append_fits _ rfl (.tmp 44) (.tmp 49) 22 rfl w2.heap.size 5 i0 1 Try.underlying22 hi hz1 w2.heap.size (lp) (lp + 4 + ls) _ rfl (hown4.alloc _) ⟨w4.heap.size, 0, none⟩ 1 1 [.int .u8 _] rfl rfl (one_cell _ w4 5) (one_one _) (by omega) ?_)
    intro w5 hown5 hgrow5
    have hb5 : Below w2.heap.size w2 w5 := (hb4.alloc hs4 _).grown hgrow5 (by simp; omega) (fun j hj => by cases hj; exact Nat.le_refl _)
    clear hgrow5 hown4 hs4
    have hs5 := hb5.size
    go_wp2_with (at_builtin; refine wpList_append_fits _ rfl (.tmp 51) (.tmp 57) 22 rfl w2.heap.size 5 i0 1 Try.underlying22 hi hz1 w2.heap.size (lp + 1) (lp + 4 + ls) _ rfl (hown5.alloc _) ⟨w5.heap.size, 0, none⟩ 1 1 [.int .u8 _] rfl rfl (one_cell _ w5 5) (one_one _) (by omega) ?_)
    intro w6 hown6 hgrow6
    have hb6 : Below w2.heap.size w2 w6 := (hb5.alloc hs5 _).grown hgrow6 (by simp; omega) (fun j hj => by cases hj; exact Nat.le_refl _)
    clear hgrow6 hown5 hs5
    have hs6 := hb6.size
    go_wp2_with (at_builtin; refine wpList_append_fits _ rfl (.tmp 59) (.tmp 65) 22 rfl w2.heap.size 5 i0 1 Try.underlying22 hi hz1 w2.heap.size (lp + 1 + 1) (lp + 4 + ls) _ rfl (hown6.alloc _) ⟨w6.heap.size, 0, none⟩ 1 1 [.int .u8 _] rfl rfl (one_cell _ w6 5) (one_one _) (by omega) ?_)
    intro w7 hown7 hgrow7
    have hb7 : Below w2.heap.size w2 w7 := (hb6.alloc hs6 _).grown hgrow7 (by simp; omega) (fun j hj => by cases hj; exact Nat.le_refl _)
    clear hgrow7 hown6 hs6
    have hs7 := hb7.size
    go_wp2_with (at_builtin; refine wpList_append_fits _ rfl (.tmp 67) (.tmp 72) 22 rfl w2.heap.size 5 i0 1 Try.underlying22 hi hz1 w2.heap.size (lp + 1 + 1 + 1) (lp + 4 + ls) _ rfl (hown7.alloc _) ⟨w7.heap.size, 0, none⟩ 1 1 [.int .u8 _] rfl rfl (one_cell _ w7 5) (one_one _) (by omega) ?_)
    intro w8 hown8 hgrow8
    have hb8 : Below w2.heap.size w2 w8 := (hb7.alloc hs7 _).grown hgrow8 (by simp; omega) (fun j hj => by cases hj; exact Nat.le_refl _)
    clear hgrow8 hown7 hs7
    have hs8 := hb8.size
    go_wp2_with (at_builtin; refine wpList_append_fits_any _ rfl (.tmp 74) (.tmp 75) 22 rfl w2.heap.size 5 i0 1 Try.underlying22 hi hz1 w2.heap.size (lp + 1 + 1 + 1 + 1) (lp + 4 + ls) _ rfl hown8 ao2 ls c2 X2 rfl hn2 HN2.out (HX2.out w8 hb8) ho2.out (by omega) ?_)
    intro w9 hown9 hgrow9
    rw [cells_eq E1.out E2.out] at hown9
    have D : Hid (Calls Try.prog 15 #[.slice (some ⟨w2.heap.size, 0, none⟩) (lp + 1 + 1 + 1 + 1 + ls) (lp + 4 + ls), .int .i64 lp] w9 fun e w' => e = .returned (.int .i64 n) ∧ w9 = w') :=
      last_call HP.out hown9 hn (by omega) BP.out BS.out (byte_u8 _) (byte_u8 _) (byte_u8 _) (byte_u8 _) (lit_up _ _) (lit_up _ _) (lit_up _ _) (lit_up _ _)
    have hb9 : Below w2.heap.size w2 w9 := hb8.grown hgrow9 hb8.size (fun j hj => by cases hj; exact Nat.le_refl _)
    have hEnd : Hid (Below w.heap.size w w9) := hb1.trans ((hb2.trans (hb9.mono hb2.size)).mono hb1.size)
    clear hown9 hgrow9 hown8 hb9 hb8 hb7 hb6 hb5 hb4 hb3 hb2 hb1 HX1 HX2 hs8
    go_wp2_with (go_at_call 15; refine D.out.mono ?_; rintro e w' ⟨rfl, rfl⟩)
    go_ret
    exact ⟨rfl, hEnd.out⟩
  | false =>
    go_enter Try.func6, Try.ntmps6
    go_wp2_with (go_at_call 17; refine (bytes17_any _ _ _ _ _ _ _ _ _ hm1 hm2).mono ?_; rintro e w' ⟨rfl, rfl⟩)
    refine C1.out.mono ?_
    rintro e w1 ⟨ao1, c1, rfl, hno1, HX1, hb1⟩
    have HN1 : Hid (ao1 = none → lp = 0 ∧ c1 = 0) := hno1
    clear hno1 C1
    go_wp2_with fail
    refine (C2.out w1 hb1).mono ?_
    rintro e w2 ⟨ao2, c2, rfl, hno2, HX2, hb2⟩
    have HN2 : Hid (ao2 = none → ls = 0 ∧ c2 = 0) := hno2
    clear hno2 C2
    go_wp2_with (at_make; refine wpList_make_own _ rfl _ _ 22 rfl w2.heap.size 5 i0 (.int .u8 0) 1 Try.underlying22 hi hz0 hz1 _ _ _ (lp + 4 + ls) rfl rfl (by omega) (by rw [hz2]; omega) (by unfold maxLen; omega) (Nat.le_refl _) ?_)
    intro w3 hown3 hgrow3
    have hb3 : Below w2.heap.size w2 w3 := (Below.refl _ _).grown hgrow3 (Nat.le_refl _) (fun k h => by cases h)
    clear hgrow3
    go_wp2_with (at_builtin; refine wpList_append_fits_any _ rfl (.tmp 41) (.tmp 42) 22 rfl w2.heap.size 5 i0 1 Try.underlying22 hi hz1 w2.heap.size 0 (lp + 4 + ls) _ rfl hown3 ao1 lp c1 X1 rfl hn1 HN1.out (HX1.out w3 (hb2.trans (hb3.mono hb2.size))) ho1.out (by omega) ?_)
    intro w4 hown4 hgrow4
    have hb4 : Below w2.heap.size w2 w4 := hb3.grown hgrow4 hb3.size (fun j hj => by cases hj; exact Nat.le_refl _)
    clear hgrow4 hown3
    have hs4 := hb4.size
    go_wp2_with (at_builtin; refine wpList_append_fits _ rfl (.tmp 44) (.tmp 49) 22 rfl w2.heap.size 5 i0 1 Try.underlying22 hi hz1 w2.heap.size (lp) (lp + 4 + ls) _ rfl (hown4.alloc _) ⟨w4.heap.size, 0, none⟩ 1 1 [.int .u8 _] rfl rfl (one_cell _ w4 5) (one_one _) (by omega) ?_)
    intro w5 hown5 hgrow5
    have hb5 : Below w2.heap.size w2 w5 := (hb4.alloc hs4 _).grown hgrow5 (by simp; omega) (fun j hj => by cases hj; exact Nat.le_refl _)
    clear hgrow5 hown4 hs4
    have hs5 := hb5.size
    go_wp2_with (at_builtin; refine wpList_append_fits _ rfl (.tmp 51) (.tmp 57) 22 rfl w2.heap.size 5 i0 1 Try.underlying22 hi hz1 w2.heap.size (lp + 1) (lp + 4 + ls) _ rfl (hown5.alloc _) ⟨w5.heap.size, 0, none⟩ 1 1 [.int .u8 _] rfl rfl (one_cell _ w5 5) (one_one _) (by omega) ?_)
    intro w6 hown6 hgrow6
    have hb6 : Below w2.heap.size w2 w6 := (hb5.alloc hs5 _).grown hgrow6 (by simp; omega) (fun j hj => by cases hj; exact Nat.le_refl _)
    clear hgrow6 hown5 hs5
    have hs6 := hb6.size
    go_wp2_with (at_builtin; refine wpList_append_fits _ rfl (.tmp 59) (.tmp 65) 22 rfl w2.heap.size 5 i0 1 Try.underlying22 hi hz1 w2.heap.size (lp + 1 + 1) (lp + 4 + ls) _ rfl (hown6.alloc _) ⟨w6.heap.size, 0, none⟩ 1 1 [.int .u8 _] rfl rfl (one_cell _ w6 5) (one_one _) (by omega) ?_)
    intro w7 hown7 hgrow7
    have hb7 : Below w2.heap.size w2 w7 := (hb6.alloc hs6 _).grown hgrow7 (by simp; omega) (fun j hj => by cases hj; exact Nat.le_refl _)
    clear hgrow7 hown6 hs6
    have hs7 := hb7.size
    go_wp2_with (at_builtin; refine wpList_append_fits _ rfl (.tmp 67) (.tmp 72) 22 rfl w2.heap.size 5 i0 1 Try.underlying22 hi hz1 w2.heap.size (lp + 1 + 1 + 1) (lp + 4 + ls) _ rfl (hown7.alloc _) ⟨w7.heap.size, 0, none⟩ 1 1 [.int .u8 _] rfl rfl (one_cell _ w7 5) (one_one _) (by omega) ?_)
    intro w8 hown8 hgrow8
    have hb8 : Below w2.heap.size w2 w8 := (hb7.alloc hs7 _).grown hgrow8 (by simp; omega) (fun j hj => by cases hj; exact Nat.le_refl _)
    clear hgrow8 hown7 hs7
    have hs8 := hb8.size
    go_wp2_with (at_builtin; refine wpList_append_fits_any _ rfl (.tmp 74) (.tmp 75) 22 rfl w2.heap.size 5 i0 1 Try.underlying22 hi hz1 w2.heap.size (lp + 1 + 1 + 1 + 1) (lp + 4 + ls) _ rfl hown8 ao2 ls c2 X2 rfl hn2 HN2.out (HX2.out w8 hb8) ho2.out (by omega) ?_)
    intro w9 hown9 hgrow9
    rw [cells_eq E1.out E2.out] at hown9
    have D : Hid (Calls Try.prog 15 #[.slice (some ⟨w2.heap.size, 0, none⟩) (lp + 1 + 1 + 1 + 1 + ls) (lp + 4 + ls), .int .i64 lp] w9 fun e w' => e = .returned (.int .i64 n) ∧ w9 = w') :=
      last_call HP.out hown9 hn (by omega) BP.out BS.out (byte_u8 _) (byte_u8 _) (byte_u8 _) (byte_u8 _) (lit_low _ _) (lit_low _ _) (lit_low _ _) (lit_low _ _)
    have hb9 : Below w2.heap.size w2 w9 := hb8.grown hgrow9 hb8.size (fun j hj => by cases hj; exact Nat.le_refl _)
    have hEnd : Hid (Below w.heap.size w w9) := hb1.trans ((hb2.trans (hb9.mono hb2.size)).mono hb1.size)
    clear hown9 hgrow9 hown8 hb9 hb8 hb7 hb6 hb5 hb4 hb3 hb2 hb1 HX1 HX2 hs8
    go_wp2_with (go_at_call 15; refine D.out.mono ?_; rintro e w' ⟨rfl, rfl⟩)
    go_ret
    exact ⟨rfl, hEnd.out⟩


theorem round_walk (a : Option Addr) (lp cp : Nat) (z0 : List Int) (v : Int) (u : Bool) (b : Option Addr) (ls cs : Nat) (z3 : List Int) (w : World) (h0 : IsRow .u8 w a lp cp z0) (_hv : (Lit.int .i64 v).wf = true) (h3 : IsRow .u8 w b ls cs z3) :
    Calls Try.prog 6 #[.slice a lp cp, .int .i64 v, .bool u, .slice b ls cs] w fun e w' => e = .returned (.bool true) ∧ Below w.heap.size w w' := by
  have hm1 := h0.le
  have hm2 := h3.le
  by_cases k1 : lp + ls ≤ 1048576
  · by_cases k2 : lp ≤ 524288
    · by_cases k3 : ls ≤ 524288
      · by_cases k4 : v < 0
        · clear h0 h3
          go_enter Try.func6, Try.ntmps6
          go_wp2_with (go_at_call 17; refine (bytes17_any _ _ _ _ _ _ _ _ _ hm1 hm2).mono ?_; rintro e w' ⟨rfl, rfl⟩)
          go_ret
          exact ⟨rfl, Below.refl _ _⟩
        · by_cases k5 : 65535 < v
          · clear h0 h3
            go_enter Try.func6, Try.ntmps6
            go_wp2_with (go_at_call 17; refine (bytes17_any _ _ _ _ _ _ _ _ _ hm1 hm2).mono ?_; rintro e w' ⟨rfl, rfl⟩)
            go_ret
            exact ⟨rfl, Below.refl _ _⟩
          · obtain ⟨n, rfl⟩ : ∃ n : Nat, v = n := ⟨v.toNat, by omega⟩
            have l0 := h0.length
            have l3 := h3.length
            exact round_core a lp cp n u b ls cs ((z0.take lp).map (Value.int .u8)) ((z3.take ls).map (Value.int .u8)) (z0.take lp) (z3.take ls) w k2 k3 k1 (by omega) (by rw [List.length_map, l0, Nat.mul_one]) (by rw [List.length_map, l3, Nat.mul_one]) (ints_oneCell _ _) (ints_oneCell _ _) l0.symm rfl rfl h0.byte h3.byte
              (clone_form a lp cp z0 w h0 (by omega)) (fun W hW => clone_form b ls cs z3 W (h3.on hW) (by omega))
      · clear h0 h3
        go_enter Try.func6, Try.ntmps6
        go_wp2_with (go_at_call 17; refine (bytes17_any _ _ _ _ _ _ _ _ _ hm1 hm2).mono ?_; rintro e w' ⟨rfl, rfl⟩)
        go_ret
        exact ⟨rfl, Below.refl _ _⟩
    · clear h0 h3
      go_enter Try.func6, Try.ntmps6
      go_wp2_with (go_at_call 17; refine (bytes17_any _ _ _ _ _ _ _ _ _ hm1 hm2).mono ?_; rintro e w' ⟨rfl, rfl⟩)
      go_ret
      exact ⟨rfl, Below.refl _ _⟩
  · clear h0 h3
    go_enter Try.func6, Try.ntmps6
    go_wp2_with (go_at_call 17; refine (bytes17_any _ _ _ _ _ _ _ _ _ hm1 hm2).mono ?_; rintro e w' ⟨rfl, rfl⟩)
    go_ret
    exact ⟨rfl, Below.refl _ _⟩

end Go.Proofs.Qxb6603791a
