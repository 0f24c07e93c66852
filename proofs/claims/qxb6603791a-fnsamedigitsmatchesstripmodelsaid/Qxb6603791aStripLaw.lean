/-
  The walk of FnSameDigitsMatchesStripModel.
-/
import Derived.Test.Qxb6603791aStrip
namespace Go.Proofs.Qxb6603791a
open Go.RowKit

theorem IsRow.on {w W : World} {a : Option Addr} {len cap : Nat} {zs : List Int} (h : IsRow .u8 w a len cap zs) (hb : Below w.heap.size w W) : IsRow .u8 W a len cap zs := by
  rcases h with h | ⟨x, rfl, hle, hm, hz, hc, hw⟩
  · exact Or.inl h
  · exact Or.inr ⟨x, rfl, hle, hm, hz, fun i hi => (hb.cell (World.block_lt_of_cell? w _ (hc i hi))).trans (hc i hi), hw⟩

/-- What a copy leaves: the same bytes, seen in the new world and in every later one. -/
def CopyOf (A : List Int) (w : World) (e : Ending) (w' : World) : Prop :=
  ∃ v, e = .returned v ∧ Hid (Sees w' v A) ∧ Below w.heap.size w w'

theorem clone_copy (a : Option Addr) (len cap : Nat) (zs : List Int) (w : World) (h : IsRow .u8 w a len cap zs) (hlen : len ≤ 1048576) : Calls Try.prog 8 #[.slice a len cap] w (CopyOf (zs.take len) w) := by
  refine (clone_any a len cap zs w h hlen).mono ?_
  rintro e w' ⟨v, rfl, hown, hb⟩
  exact ⟨v, rfl, Sees.of_owns hown, hb⟩

theorem without_copy (v : Value) (A : List Int) (w : World) (hA : Sees w v A) (hlen : A.length ≤ 1048576) : Calls Try.prog 11 #[v] w (CopyOf (strip A) w) := by
  refine (without_any v A w hA hlen).mono ?_
  rintro e w' ⟨v', rfl, hown, hb⟩
  exact ⟨v', rfl, Sees.of_owns hown, hb⟩

theorem strip_len (A : List Int) : (strip A).length ≤ A.length := by
  unfold strip
  exact List.length_filter_le _ _

set_option maxHeartbeats 1600000 in
theorem strip_differ (a : Option Addr) (la ca : Nat) (b : Option Addr) (lb cb : Nat) (A B : List Int) (w : World) (hla : la ≤ 524288) (hlb : lb ≤ 524288) (hsum : la + lb ≤ 1048576) (HA : Hid (A.length = la)) (HB : Hid (B.length = lb))
    (C1 : Hid (Calls Try.prog 8 #[.slice a la ca] w (CopyOf A w))) (C2 : Hid (∀ W, Below w.heap.size w W → Calls Try.prog 8 #[.slice b lb cb] W (CopyOf B W)))
    (hG : sameM A B = false) (hQ : decide (strip A = strip B) = false) :
    Calls Try.prog 3 #[.slice a la ca, .slice b lb cb] w fun e w' => e = .returned (.bool true) ∧ Below w.heap.size w w' := by
  have hm1 : la ≤ maxLen := by unfold maxLen; omega
  have hm2 : lb ≤ maxLen := by unfold maxLen; omega
  have H9 : Hid (∀ va vb W, Sees W va A → Sees W vb B → Calls Try.prog 9 #[va, vb] W fun e w' => e = .returned (.bool false) ∧ Below W.heap.size W w') := by
    intro va vb W s1 s2
    have h := zzdigits_any va vb A B W s1 s2 (by have := HA.out; omega) (by have := HB.out; omega)
    rw [hG] at h
    exact h
  have H11a : Hid (∀ v W, Sees W v A → Calls Try.prog 11 #[v] W (CopyOf (strip A) W)) := fun v W s => without_copy v A W s (by have := HA.out; omega)
  have H11b : Hid (∀ v W, Sees W v B → Calls Try.prog 11 #[v] W (CopyOf (strip B) W)) := fun v W s => without_copy v B W s (by have := HB.out; omega)
  have H10 : Hid (∀ va vb W, Sees W va (strip A) → Sees W vb (strip B) → Calls Try.prog 10 #[va, vb] W fun e w' => e = .returned (.bool false) ∧ Below W.heap.size W w') := by
    intro va vb W s1 s2
    have h := same_any va vb (strip A) (strip B) W s1 s2 (by have := HA.out; have := strip_len A; omega)
    rw [hQ] at h
    exact h
  clear hG hQ
  go_enter Try.func3, Try.ntmps3
  go_wp2_with (go_at_call 7; refine (bytes7_any _ _ _ _ _ _ _ hm1 hm2).mono ?_; rintro e w' ⟨rfl, rfl⟩)
  refine C1.out.mono ?_
  rintro e w1 ⟨va, rfl, S1, hb1⟩
  have K1 : Hid (Below w.heap.size w w1) := hb1
  clear hb1
  go_wp2_with fail
  refine (C2.out w1 K1.out).mono ?_
  rintro e w2 ⟨vb, rfl, S2, hb2⟩
  have T1 : Hid (Sees w2 va A) := S1.out.on hb2
  have K2 : Hid (Below w.heap.size w w2) := K1.out.trans (hb2.mono K1.out.size)
  clear hb2 S1
  go_wp2_with fail
  refine (H9.out va vb w2 T1.out S2.out).mono ?_
  rintro e w3 ⟨rfl, hb3⟩
  have U1 : Hid (Sees w3 va A) := T1.out.on hb3
  have U2 : Hid (Sees w3 vb B) := S2.out.on hb3
  have K3 : Hid (Below w.heap.size w w3) := K2.out.trans (hb3.mono K2.out.size)
  clear hb3 T1 S2
  go_wp2_with fail
  refine (H11a.out va w3 U1.out).mono ?_
  rintro e w4 ⟨va', rfl, S4, hb4⟩
  have V1 : Hid (Sees w4 va A) := U1.out.on hb4
  have V2 : Hid (Sees w4 vb B) := U2.out.on hb4
  have K4 : Hid (Below w.heap.size w w4) := K3.out.trans (hb4.mono K3.out.size)
  clear hb4 U1 U2
  go_wp2_with fail
  refine (H11b.out vb w4 V2.out).mono ?_
  rintro e w5 ⟨vb', rfl, S5, hb5⟩
  have X1 : Hid (Sees w5 va A) := V1.out.on hb5
  have X2 : Hid (Sees w5 vb B) := V2.out.on hb5
  have X4 : Hid (Sees w5 va' (strip A)) := S4.out.on hb5
  have K5 : Hid (Below w.heap.size w w5) := K4.out.trans (hb5.mono K4.out.size)
  clear hb5 V1 V2 S4
  go_wp2_with fail
  refine (H10.out va' vb' w5 X4.out S5.out).mono ?_
  rintro e w6 ⟨rfl, hb6⟩
  have Y1 : Hid (Sees w6 va A) := X1.out.on hb6
  have Y2 : Hid (Sees w6 vb B) := X2.out.on hb6
  have K6 : Hid (Below w.heap.size w w6) := K5.out.trans (hb6.mono K5.out.size)
  clear hb6 X1 X2 X4 S5
  go_wp2
  go_ret
  exact ⟨rfl, K6.out⟩

set_option maxHeartbeats 1600000 in
theorem strip_left (a : Option Addr) (la ca : Nat) (b : Option Addr) (lb cb : Nat) (A B : List Int) (w : World) (hla : la ≤ 524288) (hlb : lb ≤ 524288) (hsum : la + lb ≤ 1048576) (HA : Hid (A.length = la)) (HB : Hid (B.length = lb))
    (C1 : Hid (Calls Try.prog 8 #[.slice a la ca] w (CopyOf A w))) (C2 : Hid (∀ W, Below w.heap.size w W → Calls Try.prog 8 #[.slice b lb cb] W (CopyOf B W)))
    (hG : sameM A B = false) (hQ : decide (strip A = strip B) = true) (hEA : endsP A = true) :
    Calls Try.prog 3 #[.slice a la ca, .slice b lb cb] w fun e w' => e = .returned (.bool true) ∧ Below w.heap.size w w' := by
  have hm1 : la ≤ maxLen := by unfold maxLen; omega
  have hm2 : lb ≤ maxLen := by unfold maxLen; omega
  have H9 : Hid (∀ va vb W, Sees W va A → Sees W vb B → Calls Try.prog 9 #[va, vb] W fun e w' => e = .returned (.bool false) ∧ Below W.heap.size W w') := by
    intro va vb W s1 s2
    have h := zzdigits_any va vb A B W s1 s2 (by have := HA.out; omega) (by have := HB.out; omega)
    rw [hG] at h
    exact h
  have H11a : Hid (∀ v W, Sees W v A → Calls Try.prog 11 #[v] W (CopyOf (strip A) W)) := fun v W s => without_copy v A W s (by have := HA.out; omega)
  have H11b : Hid (∀ v W, Sees W v B → Calls Try.prog 11 #[v] W (CopyOf (strip B) W)) := fun v W s => without_copy v B W s (by have := HB.out; omega)
  have H10 : Hid (∀ va vb W, Sees W va (strip A) → Sees W vb (strip B) → Calls Try.prog 10 #[va, vb] W fun e w' => e = .returned (.bool true) ∧ Below W.heap.size W w') := by
    intro va vb W s1 s2
    have h := same_any va vb (strip A) (strip B) W s1 s2 (by have := HA.out; have := strip_len A; omega)
    rw [hQ] at h
    exact h
  have H12a : Hid (∀ v W, Sees W v A → Calls Try.prog 12 #[v] W fun e w' => e = .returned (.bool true) ∧ W = w') := by
    intro v W s
    have h := ends_any v A W s (by have := HA.out; omega)
    rw [hEA] at h
    exact h
  clear hEA
  clear hG hQ
  go_enter Try.func3, Try.ntmps3
  go_wp2_with (go_at_call 7; refine (bytes7_any _ _ _ _ _ _ _ hm1 hm2).mono ?_; rintro e w' ⟨rfl, rfl⟩)
  refine C1.out.mono ?_
  rintro e w1 ⟨va, rfl, S1, hb1⟩
  have K1 : Hid (Below w.heap.size w w1) := hb1
  clear hb1
  go_wp2_with fail
  refine (C2.out w1 K1.out).mono ?_
  rintro e w2 ⟨vb, rfl, S2, hb2⟩
  have T1 : Hid (Sees w2 va A) := S1.out.on hb2
  have K2 : Hid (Below w.heap.size w w2) := K1.out.trans (hb2.mono K1.out.size)
  clear hb2 S1
  go_wp2_with fail
  refine (H9.out va vb w2 T1.out S2.out).mono ?_
  rintro e w3 ⟨rfl, hb3⟩
  have U1 : Hid (Sees w3 va A) := T1.out.on hb3
  have U2 : Hid (Sees w3 vb B) := S2.out.on hb3
  have K3 : Hid (Below w.heap.size w w3) := K2.out.trans (hb3.mono K2.out.size)
  clear hb3 T1 S2
  go_wp2_with fail
  refine (H11a.out va w3 U1.out).mono ?_
  rintro e w4 ⟨va', rfl, S4, hb4⟩
  have V1 : Hid (Sees w4 va A) := U1.out.on hb4
  have V2 : Hid (Sees w4 vb B) := U2.out.on hb4
  have K4 : Hid (Below w.heap.size w w4) := K3.out.trans (hb4.mono K3.out.size)
  clear hb4 U1 U2
  go_wp2_with fail
  refine (H11b.out vb w4 V2.out).mono ?_
  rintro e w5 ⟨vb', rfl, S5, hb5⟩
  have X1 : Hid (Sees w5 va A) := V1.out.on hb5
  have X2 : Hid (Sees w5 vb B) := V2.out.on hb5
  have X4 : Hid (Sees w5 va' (strip A)) := S4.out.on hb5
  have K5 : Hid (Below w.heap.size w w5) := K4.out.trans (hb5.mono K4.out.size)
  clear hb5 V1 V2 S4
  go_wp2_with fail
  refine (H10.out va' vb' w5 X4.out S5.out).mono ?_
  rintro e w6 ⟨rfl, hb6⟩
  have Y1 : Hid (Sees w6 va A) := X1.out.on hb6
  have Y2 : Hid (Sees w6 vb B) := X2.out.on hb6
  have K6 : Hid (Below w.heap.size w w6) := K5.out.trans (hb6.mono K5.out.size)
  clear hb6 X1 X2 X4 S5
  go_wp2_with fail
  refine (H12a.out va w6 Y1.out).mono ?_
  rintro e w7 ⟨rfl, rfl⟩
  go_wp2
  go_ret
  exact ⟨rfl, K6.out⟩

set_option maxHeartbeats 1600000 in
theorem strip_right (a : Option Addr) (la ca : Nat) (b : Option Addr) (lb cb : Nat) (A B : List Int) (w : World) (hla : la ≤ 524288) (hlb : lb ≤ 524288) (hsum : la + lb ≤ 1048576) (HA : Hid (A.length = la)) (HB : Hid (B.length = lb))
    (C1 : Hid (Calls Try.prog 8 #[.slice a la ca] w (CopyOf A w))) (C2 : Hid (∀ W, Below w.heap.size w W → Calls Try.prog 8 #[.slice b lb cb] W (CopyOf B W)))
    (hG : sameM A B = false) (hQ : decide (strip A = strip B) = true) (hEA : endsP A = false) (hEB : endsP B = true) :
    Calls Try.prog 3 #[.slice a la ca, .slice b lb cb] w fun e w' => e = .returned (.bool true) ∧ Below w.heap.size w w' := by
  have hm1 : la ≤ maxLen := by unfold maxLen; omega
  have hm2 : lb ≤ maxLen := by unfold maxLen; omega
  have H9 : Hid (∀ va vb W, Sees W va A → Sees W vb B → Calls Try.prog 9 #[va, vb] W fun e w' => e = .returned (.bool false) ∧ Below W.heap.size W w') := by
    intro va vb W s1 s2
    have h := zzdigits_any va vb A B W s1 s2 (by have := HA.out; omega) (by have := HB.out; omega)
    rw [hG] at h
    exact h
  have H11a : Hid (∀ v W, Sees W v A → Calls Try.prog 11 #[v] W (CopyOf (strip A) W)) := fun v W s => without_copy v A W s (by have := HA.out; omega)
  have H11b : Hid (∀ v W, Sees W v B → Calls Try.prog 11 #[v] W (CopyOf (strip B) W)) := fun v W s => without_copy v B W s (by have := HB.out; omega)
  have H10 : Hid (∀ va vb W, Sees W va (strip A) → Sees W vb (strip B) → Calls Try.prog 10 #[va, vb] W fun e w' => e = .returned (.bool true) ∧ Below W.heap.size W w') := by
    intro va vb W s1 s2
    have h := same_any va vb (strip A) (strip B) W s1 s2 (by have := HA.out; have := strip_len A; omega)
    rw [hQ] at h
    exact h
  have H12a : Hid (∀ v W, Sees W v A → Calls Try.prog 12 #[v] W fun e w' => e = .returned (.bool false) ∧ W = w') := by
    intro v W s
    have h := ends_any v A W s (by have := HA.out; omega)
    rw [hEA] at h
    exact h
  clear hEA
  have H12b : Hid (∀ v W, Sees W v B → Calls Try.prog 12 #[v] W fun e w' => e = .returned (.bool true) ∧ W = w') := by
    intro v W s
    have h := ends_any v B W s (by have := HB.out; omega)
    rw [hEB] at h
    exact h
  clear hEB
  clear hG hQ
  go_enter Try.func3, Try.ntmps3
  go_wp2_with (go_at_call 7; refine (bytes7_any _ _ _ _ _ _ _ hm1 hm2).mono ?_; rintro e w' ⟨rfl, rfl⟩)
  refine C1.out.mono ?_
  rintro e w1 ⟨va, rfl, S1, hb1⟩
  have K1 : Hid (Below w.heap.size w w1) := hb1
  clear hb1
  go_wp2_with fail
  refine (C2.out w1 K1.out).mono ?_
  rintro e w2 ⟨vb, rfl, S2, hb2⟩
  have T1 : Hid (Sees w2 va A) := S1.out.on hb2
  have K2 : Hid (Below w.heap.size w w2) := K1.out.trans (hb2.mono K1.out.size)
  clear hb2 S1
  go_wp2_with fail
  refine (H9.out va vb w2 T1.out S2.out).mono ?_
  rintro e w3 ⟨rfl, hb3⟩
  have U1 : Hid (Sees w3 va A) := T1.out.on hb3
  have U2 : Hid (Sees w3 vb B) := S2.out.on hb3
  have K3 : Hid (Below w.heap.size w w3) := K2.out.trans (hb3.mono K2.out.size)
  clear hb3 T1 S2
  go_wp2_with fail
  refine (H11a.out va w3 U1.out).mono ?_
  rintro e w4 ⟨va', rfl, S4, hb4⟩
  have V1 : Hid (Sees w4 va A) := U1.out.on hb4
  have V2 : Hid (Sees w4 vb B) := U2.out.on hb4
  have K4 : Hid (Below w.heap.size w w4) := K3.out.trans (hb4.mono K3.out.size)
  clear hb4 U1 U2
  go_wp2_with fail
  refine (H11b.out vb w4 V2.out).mono ?_
  rintro e w5 ⟨vb', rfl, S5, hb5⟩
  have X1 : Hid (Sees w5 va A) := V1.out.on hb5
  have X2 : Hid (Sees w5 vb B) := V2.out.on hb5
  have X4 : Hid (Sees w5 va' (strip A)) := S4.out.on hb5
  have K5 : Hid (Below w.heap.size w w5) := K4.out.trans (hb5.mono K4.out.size)
  clear hb5 V1 V2 S4
  go_wp2_with fail
  refine (H10.out va' vb' w5 X4.out S5.out).mono ?_
  rintro e w6 ⟨rfl, hb6⟩
  have Y1 : Hid (Sees w6 va A) := X1.out.on hb6
  have Y2 : Hid (Sees w6 vb B) := X2.out.on hb6
  have K6 : Hid (Below w.heap.size w w6) := K5.out.trans (hb6.mono K5.out.size)
  clear hb6 X1 X2 X4 S5
  go_wp2_with fail
  refine (H12a.out va w6 Y1.out).mono ?_
  rintro e w7 ⟨rfl, rfl⟩
  go_wp2_with fail
  refine (H12b.out vb w6 Y2.out).mono ?_
  rintro e w8 ⟨rfl, rfl⟩
  go_wp2
  go_ret
  exact ⟨rfl, K6.out⟩

set_option maxHeartbeats 1600000 in
theorem strip_yes (a : Option Addr) (la ca : Nat) (b : Option Addr) (lb cb : Nat) (A B : List Int) (w : World) (hla : la ≤ 524288) (hlb : lb ≤ 524288) (hsum : la + lb ≤ 1048576) (HA : Hid (A.length = la)) (HB : Hid (B.length = lb))
    (C1 : Hid (Calls Try.prog 8 #[.slice a la ca] w (CopyOf A w))) (C2 : Hid (∀ W, Below w.heap.size w W → Calls Try.prog 8 #[.slice b lb cb] W (CopyOf B W)))
    (hG : sameM A B = true) (hQ : decide (strip A = strip B) = true) (hEA : endsP A = false) (hEB : endsP B = false) :
    Calls Try.prog 3 #[.slice a la ca, .slice b lb cb] w fun e w' => e = .returned (.bool true) ∧ Below w.heap.size w w' := by
  have hm1 : la ≤ maxLen := by unfold maxLen; omega
  have hm2 : lb ≤ maxLen := by unfold maxLen; omega
  have H9 : Hid (∀ va vb W, Sees W va A → Sees W vb B → Calls Try.prog 9 #[va, vb] W fun e w' => e = .returned (.bool true) ∧ Below W.heap.size W w') := by
    intro va vb W s1 s2
    have h := zzdigits_any va vb A B W s1 s2 (by have := HA.out; omega) (by have := HB.out; omega)
    rw [hG] at h
    exact h
  have H11a : Hid (∀ v W, Sees W v A → Calls Try.prog 11 #[v] W (CopyOf (strip A) W)) := fun v W s => without_copy v A W s (by have := HA.out; omega)
  have H11b : Hid (∀ v W, Sees W v B → Calls Try.prog 11 #[v] W (CopyOf (strip B) W)) := fun v W s => without_copy v B W s (by have := HB.out; omega)
  have H10 : Hid (∀ va vb W, Sees W va (strip A) → Sees W vb (strip B) → Calls Try.prog 10 #[va, vb] W fun e w' => e = .returned (.bool true) ∧ Below W.heap.size W w') := by
    intro va vb W s1 s2
    have h := same_any va vb (strip A) (strip B) W s1 s2 (by have := HA.out; have := strip_len A; omega)
    rw [hQ] at h
    exact h
  have H12a : Hid (∀ v W, Sees W v A → Calls Try.prog 12 #[v] W fun e w' => e = .returned (.bool false) ∧ W = w') := by
    intro v W s
    have h := ends_any v A W s (by have := HA.out; omega)
    rw [hEA] at h
    exact h
  clear hEA
  have H12b : Hid (∀ v W, Sees W v B → Calls Try.prog 12 #[v] W fun e w' => e = .returned (.bool false) ∧ W = w') := by
    intro v W s
    have h := ends_any v B W s (by have := HB.out; omega)
    rw [hEB] at h
    exact h
  clear hEB
  clear hG hQ
  go_enter Try.func3, Try.ntmps3
  go_wp2_with (go_at_call 7; refine (bytes7_any _ _ _ _ _ _ _ hm1 hm2).mono ?_; rintro e w' ⟨rfl, rfl⟩)
  refine C1.out.mono ?_
  rintro e w1 ⟨va, rfl, S1, hb1⟩
  have K1 : Hid (Below w.heap.size w w1) := hb1
  clear hb1
  go_wp2_with fail
  refine (C2.out w1 K1.out).mono ?_
  rintro e w2 ⟨vb, rfl, S2, hb2⟩
  have T1 : Hid (Sees w2 va A) := S1.out.on hb2
  have K2 : Hid (Below w.heap.size w w2) := K1.out.trans (hb2.mono K1.out.size)
  clear hb2 S1
  go_wp2_with fail
  refine (H9.out va vb w2 T1.out S2.out).mono ?_
  rintro e w3 ⟨rfl, hb3⟩
  have U1 : Hid (Sees w3 va A) := T1.out.on hb3
  have U2 : Hid (Sees w3 vb B) := S2.out.on hb3
  have K3 : Hid (Below w.heap.size w w3) := K2.out.trans (hb3.mono K2.out.size)
  clear hb3 T1 S2
  go_wp2_with fail
  refine (H11a.out va w3 U1.out).mono ?_
  rintro e w4 ⟨va', rfl, S4, hb4⟩
  have V1 : Hid (Sees w4 va A) := U1.out.on hb4
  have V2 : Hid (Sees w4 vb B) := U2.out.on hb4
  have K4 : Hid (Below w.heap.size w w4) := K3.out.trans (hb4.mono K3.out.size)
  clear hb4 U1 U2
  go_wp2_with fail
  refine (H11b.out vb w4 V2.out).mono ?_
  rintro e w5 ⟨vb', rfl, S5, hb5⟩
  have X1 : Hid (Sees w5 va A) := V1.out.on hb5
  have X2 : Hid (Sees w5 vb B) := V2.out.on hb5
  have X4 : Hid (Sees w5 va' (strip A)) := S4.out.on hb5
  have K5 : Hid (Below w.heap.size w w5) := K4.out.trans (hb5.mono K4.out.size)
  clear hb5 V1 V2 S4
  go_wp2_with fail
  refine (H10.out va' vb' w5 X4.out S5.out).mono ?_
  rintro e w6 ⟨rfl, hb6⟩
  have Y1 : Hid (Sees w6 va A) := X1.out.on hb6
  have Y2 : Hid (Sees w6 vb B) := X2.out.on hb6
  have K6 : Hid (Below w.heap.size w w6) := K5.out.trans (hb6.mono K5.out.size)
  clear hb6 X1 X2 X4 S5
  go_wp2_with fail
  refine (H12a.out va w6 Y1.out).mono ?_
  rintro e w7 ⟨rfl, rfl⟩
  go_wp2_with fail
  refine (H12b.out vb w6 Y2.out).mono ?_
  rintro e w8 ⟨rfl, rfl⟩
  go_wp2
  go_ret
  exact ⟨rfl, K6.out⟩

theorem strip_walk (a : Option Addr) (la ca : Nat) (z0 : List Int) (b : Option Addr) (lb cb : Nat) (z1 : List Int) (w : World) (h0 : IsRow .u8 w a la ca z0) (h1 : IsRow .u8 w b lb cb z1) :
    Calls Try.prog 3 #[.slice a la ca, .slice b lb cb] w fun e w' => e = .returned (.bool true) ∧ Below w.heap.size w w' := by
  have hm1 := h0.le
  have hm2 := h1.le
  by_cases k1 : la + lb ≤ 1048576
  · by_cases k2 : la ≤ 524288
    · by_cases k3 : lb ≤ 524288
      · have l0 := h0.length
        have l1 := h1.length
        have c1 := clone_copy a la ca z0 w h0 (by omega)
        have c2 := fun W hW => clone_copy b lb cb z1 W (h1.on hW) (by omega)
        by_cases q : strip (z0.take la) = strip (z1.take lb)
        · cases ea : endsP (z0.take la) with
          | true => exact strip_left a la ca b lb cb _ _ w k2 k3 k1 l0 l1 c1 c2 (by simp [sameM, ea]) (decide_eq_true q) ea
          | false =>
            cases eb : endsP (z1.take lb) with
            | true => exact strip_right a la ca b lb cb _ _ w k2 k3 k1 l0 l1 c1 c2 (by simp [sameM, eb]) (decide_eq_true q) ea eb
            | false => exact strip_yes a la ca b lb cb _ _ w k2 k3 k1 l0 l1 c1 c2 (by simp [sameM, q, ea, eb]) (decide_eq_true q) ea eb
        · exact strip_differ a la ca b lb cb _ _ w k2 k3 k1 l0 l1 c1 c2 (by simp [sameM, q]) (decide_eq_false q)
      · clear h0 h1
        go_enter Try.func3, Try.ntmps3
        go_wp2_with (go_at_call 7; refine (bytes7_any _ _ _ _ _ _ _ hm1 hm2).mono ?_; rintro e w' ⟨rfl, rfl⟩)
        go_ret
        exact ⟨rfl, Below.refl _ _⟩
    · clear h0 h1
      go_enter Try.func3, Try.ntmps3
      go_wp2_with (go_at_call 7; refine (bytes7_any _ _ _ _ _ _ _ hm1 hm2).mono ?_; rintro e w' ⟨rfl, rfl⟩)
      go_ret
      exact ⟨rfl, Below.refl _ _⟩
  · clear h0 h1
    go_enter Try.func3, Try.ntmps3
    go_wp2_with (go_at_call 7; refine (bytes7_any _ _ _ _ _ _ _ hm1 hm2).mono ?_; rintro e w' ⟨rfl, rfl⟩)
    go_ret
    exact ⟨rfl, Below.refl _ _⟩

end Go.Proofs.Qxb6603791a
