/-
  The walk of FnSameDigitsPointBetweenDigits.
-/
import Derived.Test.Qxb6603791aDigits
namespace Go.Proofs.Qxb6603791a
open Go.RowKit

theorem free_of {A : List Int} {n : Nat} (hn : n = A.length) (h : ∀ t, t < n → ¬ A.getD t 0 = 46) : ∀ x ∈ A, ¬ x = 46 := by
  intro x hx
  obtain ⟨t, ht, rfl⟩ := List.getElem_of_mem hx
  have := h t (by omega)
  simpa [List.getD, ht] using this

theorem pointed_map (A : List Int) (k : Nat) : (A.take k).map (Value.int .u8) ++ (Value.int .u8 46 :: (A.drop k).map (Value.int .u8)) = (pointed A k).map (Value.int .u8) := by
  simp only [pointed, List.map_append, List.map_cons]

theorem ended_map (A : List Int) : A.map (Value.int .u8) ++ [Value.int .u8 46] = (A ++ [46]).map (Value.int .u8) := by
  simp only [List.map_append, List.map_cons, List.map_nil]

set_option maxHeartbeats 1600000 in
theorem point_core (b o ca la k : Nat) (A : List Int) (w : World) (hla : la ≤ 524288) (hk1 : 1 ≤ k) (hk2 : k < la) (HL : Hid (la = A.length))
    (HCell : Hid (∀ j, j < la → w.cell? ⟨b, o + j, none⟩ = some (.int .u8 (A.getD j 0))))
    (HC : Hid (Calls Try.prog 8 #[.slice (some ⟨b, o, none⟩) la ca] w fun e w' => e = .returned (.slice (some ⟨w.heap.size, 0, none⟩) la la) ∧ w'.ownsRow w.heap.size 5 1 (.slice (some ⟨w.heap.size, 0, none⟩) la la) la (A.map (Value.int .u8)) ∧ Below w.heap.size w w')) :
    Calls Try.prog 4 #[.slice (some ⟨b, o, none⟩) la ca, .int .i64 k] w fun e w' => e = .returned (.bool true) ∧ Below w.heap.size w w' := by
  obtain ⟨i0, hi, hz0, hz1, hz2⟩ := info_parts Try.info5
  have hla' : la ≤ 1048576 := by omega
  go_enter Try.func4, Try.ntmps4
  go_wp2_with (go_at_call 13; refine (bytes13_any _ _ _ _ _ (by unfold maxLen; omega)).mono ?_; rintro e w' ⟨rfl, rfl⟩)
  go_loop [5] (fun i => ∃ j : Nat, j ≤ la ∧ i = .int .i64 j ∧ Hid (∀ t, t < j → ¬ A.getD t 0 = 46)) (fun i => la - (intOf i).toNat)
  case atStart => exact ⟨0, Nat.zero_le _, rfl, fun t ht => absurd ht (Nat.not_lt_zero t)⟩
  case round =>
    obtain ⟨j, hj, rfl, HF⟩ := hrel
    by_cases hlt : j < la
    · obtain ⟨x, hx⟩ : ∃ x, x = A.getD j 0 := ⟨_, rfl⟩
      have cx : w.cell? ⟨b, o + j, none⟩ = some (.int .u8 x) := by rw [hx]; exact HCell.out j hlt
      have HX : Hid (x = A.getD j 0) := hx
      clear hx
      by_cases e1 : x = 46
      · go_wp2
        go_ret
        exact ⟨rfl, Below.refl _ _⟩
      · go_wp2
        go_round
        case rel =>
          refine ⟨j + 1, by omega, by go_num, fun t ht => ?_⟩
          by_cases ht' : t < j
          · exact HF.out t ht'
          · have : t = j := by omega
            subst this
            rw [← HX.out]
            exact e1
        case measure => simp [intOf]; omega
    · have ej : la = j := by omega
      subst ej
      have hfree : Hid (∀ x ∈ A, ¬ x = 46) := free_of HL.out HF.out
      clear HF HCell
      go_wp2_with (go_at_call 8; refine HC.out.mono ?_; rintro e w1 ⟨rfl, hown, hb1⟩; have hA1 : Hid (Sees w1 (.slice (some ⟨w.heap.size, 0, none⟩) la la) A) := Sees.of_owns hown; refine Hid.out ?_)
      refine (show ∀ p : Prop, p → Hid p from fun _ h => h) _ ?_
      clear hown HC
      have hs1 := hb1.size
      have hc1 : Hid (∀ t, t < A.length → w1.cell? ⟨w.heap.size, 0 + t, none⟩ = some (.int .u8 (A.getD t 0))) := by
        rcases hA1.out with ⟨h, -⟩ | ⟨-, b', o', c', hv, -, -, -, h⟩
        · have := HL.out; rw [h] at this; simp at this; omega
        · cases hv; exact h
      obtain ⟨X1, hX1⟩ : ∃ X, X = (A.take k).map (Value.int .u8) := ⟨_, rfl⟩
      obtain ⟨X2, hX2⟩ : ∃ X, X = (A.drop k).map (Value.int .u8) := ⟨_, rfl⟩
      have hn1 : X1.length = k * 1 := by have := HL.out; rw [hX1]; simp; omega
      have hn2 : X2.length = (la - k) * 1 := by have := HL.out; rw [hX2]; simp; omega
      have hone1 : Hid (∀ u ∈ X1, u.oneCell' = true) := by rw [hX1]; exact ints_oneCell _ _
      have hone2 : Hid (∀ u ∈ X2, u.oneCell' = true) := by rw [hX2]; exact ints_oneCell _ _
      have hlt1 : w.heap.size < w1.heap.size := by
        have := hc1.out 0 (by have := HL.out; omega)
        exact World.block_lt_of_cell? w1 _ this
      have hcX1 : Hid (∀ W, Below w1.heap.size w1 W → ∀ j u, X1[j]? = some u → W.cell? ((⟨w.heap.size, 0, none⟩ : Addr).add j) = some u) := by
        intro W hW
        rw [hX1]
        exact cells_seg (o := 0) (fun t ht => (hW.cell (by exact hlt1)).trans (hc1.out t ht)) 0 k
      have hcX2 : Hid (∀ W, Below w1.heap.size w1 W → ∀ j u, X2[j]? = some u → W.cell? ((⟨w.heap.size, k, none⟩ : Addr).add j) = some u) := by
        intro W hW
        have h := cells_seg (o := 0) (fun t ht => (hW.cell (by exact hlt1)).trans (hc1.out t ht)) k A.length
        rw [List.take_of_length_le (by simp), ← hX2, Nat.zero_add] at h
        exact h
      have hP : Hid (X1 ++ (Value.int .u8 46 :: X2) = (pointed A k).map (Value.int .u8)) := by
        rw [hX1, hX2]
        exact pointed_map A k
      have hPl : (pointed A k).length = la + 1 := by have := HL.out; simp [pointed]; omega
      have HPl : Hid ((pointed A k).length = la + 1) := hPl
      clear hX1 hX2 hc1 hPl
      go_wp2_with (at_make; refine wpList_make_own _ rfl _ _ 22 rfl w1.heap.size 5 i0 (.int .u8 0) 1 Try.underlying22 hi hz0 hz1 _ _ _ (la + 1) rfl rfl (by omega) (by rw [hz2]; omega) (by unfold maxLen; omega) (Nat.le_refl _) ?_)
      intro w2 hown2 hgrow2
      have hb2 : Below w1.heap.size w1 w2 := (Below.refl _ _).grown hgrow2 (Nat.le_refl _) (fun k h => by cases h)
      clear hgrow2
      go_wp2_with (at_builtin; refine wpList_append_fits _ rfl (.tmp 40) (.tmp 43) 22 rfl w1.heap.size 5 i0 1 Try.underlying22 hi hz1 w1.heap.size 0 (la + 1) _ rfl hown2 ⟨w.heap.size, 0, none⟩ k la X1 rfl hn1 (hcX1.out w2 hb2) hone1.out (by omega) ?_)
      intro w3 hown3 hgrow3
      have hb3 : Below w1.heap.size w1 w3 := hb2.grown hgrow3 hb2.size (fun j hj => by cases hj; exact Nat.le_refl _)
      clear hgrow3 hown2
      have hs3 := hb3.size
      go_wp2_with (at_builtin; refine wpList_append_fits _ rfl (.tmp 45) (.tmp 46) 22 rfl w1.heap.size 5 i0 1 Try.underlying22 hi hz1 w1.heap.size k (la + 1) _ rfl (hown3.alloc _) ⟨w3.heap.size, 0, none⟩ 1 1 [.int .u8 46] rfl rfl (one_cell 46 w3 5) (one_one 46) (by omega) ?_)
      intro w4 hown4 hgrow4
      have hb4 : Below w1.heap.size w1 w4 := (hb3.alloc hs3 _).grown hgrow4 (by simp; omega) (fun j hj => by cases hj; exact Nat.le_refl _)
      clear hgrow4 hown3 hs3
      go_wp2_with (at_builtin; refine wpList_append_fits _ rfl (.tmp 48) (.tmp 51) 22 rfl w1.heap.size 5 i0 1 Try.underlying22 hi hz1 w1.heap.size (k + 1) (la + 1) _ rfl hown4 ⟨w.heap.size, k, none⟩ (la - k) (la - k) X2 rfl hn2 (hcX2.out w4 hb4) hone2.out (by omega) ?_)
      intro w5 hown5 hgrow5
      have hb5 : Below w1.heap.size w1 w5 := hb4.grown hgrow5 hb4.size (fun j hj => by cases hj; exact Nat.le_refl _)
      have e5 : k + 1 + (la - k) = la + 1 := by omega
      rw [e5, hP.out] at hown5
      rw [e5]
      clear hgrow5 hown4 e5 hP hcX1 hcX2 hone1 hone2 hn1 hn2
      obtain ⟨X3, hX3⟩ : ∃ X, X = (pointed A k).map (Value.int .u8) := ⟨_, rfl⟩
      have hB5 : Hid (Sees w5 (.slice (some ⟨w1.heap.size, 0, none⟩) (la + 1) (la + 1)) (pointed A k)) := Sees.of_owns hown5
      rw [← hX3] at hown5
      have HX3 : Hid (X3 = (pointed A k).map (Value.int .u8)) := hX3
      have hn3 : X3.length = (la + 1) * 1 := by rw [hX3]; simp [HPl.out]
      have hone3 : Hid (∀ u ∈ X3, u.oneCell' = true) := by rw [hX3]; exact ints_oneCell _ _
      have hlt5 : w1.heap.size < w5.heap.size := (hown5.lt _ rfl).2
      have hcX3 : Hid (∀ W, Below w5.heap.size w5 W → ∀ j u, X3[j]? = some u → W.cell? ((⟨w1.heap.size, 0, none⟩ : Addr).add j) = some u) := by
        intro W hW j u hj
        have h := hown5.cells (g := w1.heap.size) rfl j u hj
        rw [Addr.add_lit] at h ⊢
        exact (hW.cell (by exact hlt5)).trans h
      clear hX3 hown5
      go_wp2_with (at_make; refine wpList_make_own _ rfl _ _ 22 rfl w5.heap.size 5 i0 (.int .u8 0) 1 Try.underlying22 hi hz0 hz1 _ _ _ (la + 2) rfl rfl (by omega) (by rw [hz2]; omega) (by unfold maxLen; omega) (Nat.le_refl _) ?_)
      intro w6 hown6 hgrow6
      have hb6 : Below w5.heap.size w5 w6 := (Below.refl _ _).grown hgrow6 (Nat.le_refl _) (fun k h => by cases h)
      clear hgrow6
      go_wp2_with (at_builtin; refine wpList_append_fits _ rfl (.tmp 57) (.tmp 58) 22 rfl w5.heap.size 5 i0 1 Try.underlying22 hi hz1 w5.heap.size 0 (la + 2) _ rfl hown6 ⟨w1.heap.size, 0, none⟩ (la + 1) (la + 1) X3 rfl hn3 (hcX3.out w6 hb6) hone3.out (by omega) ?_)
      intro w7 hown7 hgrow7
      have hb7 : Below w5.heap.size w5 w7 := hb6.grown hgrow7 hb6.size (fun j hj => by cases hj; exact Nat.le_refl _)
      clear hgrow7 hown6
      have hs7 := hb7.size
      go_wp2_with (at_builtin; refine wpList_append_fits _ rfl (.tmp 60) (.tmp 61) 22 rfl w5.heap.size 5 i0 1 Try.underlying22 hi hz1 w5.heap.size (la + 1) (la + 2) _ rfl (hown7.alloc _) ⟨w7.heap.size, 0, none⟩ 1 1 [.int .u8 46] rfl rfl (one_cell 46 w7 5) (one_one 46) (by omega) ?_)
      intro w8 hown8 hgrow8
      have hb8 : Below w5.heap.size w5 w8 := (hb7.alloc hs7 _).grown hgrow8 (by simp; omega) (fun j hj => by cases hj; exact Nat.le_refl _)
      clear hgrow8 hown7 hs7
      have e8 : la + 1 + 1 = la + 2 := by omega
      rw [e8] at hown8
      rw [e8]
      have hC8 : Hid (Sees w8 (.slice (some ⟨w5.heap.size, 0, none⟩) (la + 2) (la + 2)) (pointed A k ++ [46])) := by
        rw [HX3.out, ended_map] at hown8
        exact Sees.of_owns hown8
      have hk : Hid (k < A.length) := by have := HL.out; show k < A.length; omega
      have hlen : Hid (A.length ≤ 4194304 ∧ (pointed A k).length ≤ 4194304 ∧ (pointed A k ++ [46]).length ≤ 4194304) := by
        have h1 := HL.out
        have h2 := HPl.out
        exact ⟨by omega, by omega, by simp; omega⟩
      have h18 : Hid (Below w1.heap.size w1 w8) := hb5.trans (hb8.mono (Nat.le_of_lt hlt5))
      have D1 : Hid (∀ W, Below w8.heap.size w8 W → Calls Try.prog 9 #[.slice (some ⟨w.heap.size, 0, none⟩) la la, .slice (some ⟨w1.heap.size, 0, none⟩) (la + 1) (la + 1)] W fun e w' => e = .returned (.bool true) ∧ Below W.heap.size W w') := by
        intro W hW
        have h := zzdigits_any _ _ _ _ W ((hA1.out.on h18.out).on hW) ((hB5.out.on hb8).on hW) hlen.out.1 hlen.out.2.1
        rw [same_pointed hfree.out hk.out] at h
        exact h
      have D2 : Hid (∀ W, Below w8.heap.size w8 W → Calls Try.prog 9 #[.slice (some ⟨w1.heap.size, 0, none⟩) (la + 1) (la + 1), .slice (some ⟨w.heap.size, 0, none⟩) la la] W fun e w' => e = .returned (.bool true) ∧ Below W.heap.size W w') := by
        intro W hW
        have h := zzdigits_any _ _ _ _ W ((hB5.out.on hb8).on hW) ((hA1.out.on h18.out).on hW) hlen.out.2.1 hlen.out.1
        rw [pointed_same hfree.out hk.out] at h
        exact h
      have D3 : Hid (∀ W, Below w8.heap.size w8 W → Calls Try.prog 9 #[.slice (some ⟨w1.heap.size, 0, none⟩) (la + 1) (la + 1), .slice (some ⟨w1.heap.size, 0, none⟩) (la + 1) (la + 1)] W fun e w' => e = .returned (.bool true) ∧ Below W.heap.size W w') := by
        intro W hW
        have h := zzdigits_any _ _ _ _ W ((hB5.out.on hb8).on hW) ((hB5.out.on hb8).on hW) hlen.out.2.1 hlen.out.2.1
        rw [pointed_pointed hfree.out hk.out] at h
        exact h
      have D4 : Hid (∀ W, Below w8.heap.size w8 W → Calls Try.prog 9 #[.slice (some ⟨w.heap.size, 0, none⟩) la la, .slice (some ⟨w5.heap.size, 0, none⟩) (la + 2) (la + 2)] W fun e w' => e = .returned (.bool false) ∧ Below W.heap.size W w') := by
        intro W hW
        have h := zzdigits_any _ _ _ _ W ((hA1.out.on h18.out).on hW) (hC8.out.on hW) hlen.out.1 hlen.out.2.2
        rw [same_ended] at h
        exact h
      have D5 : Hid (∀ W, Below w8.heap.size w8 W → Calls Try.prog 9 #[.slice (some ⟨w5.heap.size, 0, none⟩) (la + 2) (la + 2), .slice (some ⟨w.heap.size, 0, none⟩) la la] W fun e w' => e = .returned (.bool false) ∧ Below W.heap.size W w') := by
        intro W hW
        have h := zzdigits_any _ _ _ _ W (hC8.out.on hW) ((hA1.out.on h18.out).on hW) hlen.out.2.2 hlen.out.1
        rw [ended_same] at h
        exact h
      have hEnd : Hid (Below w.heap.size w w8) := hb1.trans (h18.out.mono hs1)
      clear hown8 e8 hC8 hB5 hA1 hk hlen h18 hfree HPl HX3 hcX3 hone3 hb8 hb7 hb6 hb5 hb4 hb3 hb2 hb1
      go_wp2_with fail
      refine (D1.out w8 (Below.refl _ _)).mono ?_
      rintro e w9 ⟨rfl, h9⟩
      have K9 : Hid (Below w8.heap.size w8 w9) := h9
      clear h9
      go_wp2_with fail
      refine (D2.out w9 K9.out).mono ?_
      rintro e w10 ⟨rfl, h10⟩
      have K10 : Hid (Below w8.heap.size w8 w10) := K9.out.trans (h10.mono K9.out.size)
      clear h10
      go_wp2_with fail
      refine (D3.out w10 K10.out).mono ?_
      rintro e w11 ⟨rfl, h11⟩
      have K11 : Hid (Below w8.heap.size w8 w11) := K10.out.trans (h11.mono K10.out.size)
      clear h11
      go_wp2_with fail
      refine (D4.out w11 K11.out).mono ?_
      rintro e w12 ⟨rfl, h12⟩
      have K12 : Hid (Below w8.heap.size w8 w12) := K11.out.trans (h12.mono K11.out.size)
      clear h12
      go_wp2_with fail
      refine (D5.out w12 K12.out).mono ?_
      rintro e w13 ⟨rfl, h13⟩
      have K13 : Hid (Below w8.heap.size w8 w13) := K12.out.trans (h13.mono K12.out.size)
      clear h13
      go_wp2
      go_ret
      exact ⟨rfl, hEnd.out.trans (K13.out.mono hEnd.out.size)⟩

theorem point_walk (a : Option Addr) (len cap : Nat) (zs : List Int) (k : Int) (w : World) (h : IsRow .u8 w a len cap zs) (_hk : (Lit.int .i64 k).wf = true) :
    Calls Try.prog 4 #[.slice a len cap, .int .i64 k] w fun e w' => e = .returned (.bool true) ∧ Below w.heap.size w w' := by
  have hm := h.le
  by_cases h1 : len ≤ 1048576
  · by_cases h2 : len ≤ 524288
    · by_cases h3 : k < 1
      · clear h
        go_enter Try.func4, Try.ntmps4
        go_wp2_with (go_at_call 13; refine (bytes13_any _ _ _ _ _ hm).mono ?_; rintro e w' ⟨rfl, rfl⟩)
        go_ret
        exact ⟨rfl, Below.refl _ _⟩
      · by_cases h4 : (len : Int) ≤ k
        · clear h
          go_enter Try.func4, Try.ntmps4
          go_wp2_with (go_at_call 13; refine (bytes13_any _ _ _ _ _ hm).mono ?_; rintro e w' ⟨rfl, rfl⟩)
          go_ret
          exact ⟨rfl, Below.refl _ _⟩
        · obtain ⟨n, rfl⟩ : ∃ n : Nat, k = n := ⟨k.toNat, by omega⟩
          have hl := h.length
          rcases h.sees with ⟨h0, -⟩ | ⟨-, b, o, c, hv, -, -, -, hcell⟩
          · rw [h0] at hl
            simp at hl
            omega
          · rw [hl] at hv hcell
            cases hv
            exact point_core b o cap len n (zs.take len) w h2 (by omega) (by omega) hl.symm hcell (clone_pos _ len cap zs w h h1 (by omega))
    · clear h
      go_enter Try.func4, Try.ntmps4
      go_wp2_with (go_at_call 13; refine (bytes13_any _ _ _ _ _ hm).mono ?_; rintro e w' ⟨rfl, rfl⟩)
      go_ret
      exact ⟨rfl, Below.refl _ _⟩
  · clear h
    go_enter Try.func4, Try.ntmps4
    go_wp2_with (go_at_call 13; refine (bytes13_any _ _ _ _ _ hm).mono ?_; rintro e w' ⟨rfl, rfl⟩)
    go_ret
    exact ⟨rfl, Below.refl _ _⟩

end Go.Proofs.Qxb6603791a
